import JvmDerived
import JvmDerived.Pilot.@@N@@Statement
import JvmDerived.Pilot.@@N@@Code
set_option linter.unusedVariables false
set_option linter.unusedSimpArgs false
namespace Jvm.Pilot.@@N@@
open Jvm Jvm.ClassFile Sem Op Lib Jvm.Free Jvm.Stand Jvm.LawKit Jvm.RoadKit Bundle Jvm.Pilot.@@N@@.Jvm.D
/-! A walk in continuation form, over the library's family of laws (Stand, XS, RoadKit). -/
theorem z_w {Z : State} {a0 : Array Value} (hw : ∀ d ∈ tables_1, d.before a0 Z = true) {d : Jvm.Cond} (i : Nat) (q : tables_1[i]? = some d) : d.before a0 Z = true := hw d (List.mem_of_getElem? q)
section OwnKit
variable {p : Program} {l : Launch} {e : Env} {R : Room} {s : State} {m : MethodId} {args : Array Value} {below : List Frame} {meth : Method} {c : Code} {Z : State} {n0 : Nat} {own : String} {bytes : ByteArray} {ml : Nat} {rt : Option FieldType} {nm : String} {Q : Option Value → Heap → Prop} {h : Heap} {k n : Nat} {pc : Nat} {Ls Ls' : Array Slot} {st rest : List Value} {a0 : Array Value} {f f' : JFrame}
/-- what is left of a body's run from S: it returns, Q holds of the value and the heap, only places at or above n0 were written -/
def z_Fin (p : Program) (e : Env) (R : Room) (s : State) (below : List Frame) (n0 : Nat) (Q : Option Value → Heap → Prop) (S : State) : Prop :=
  ∃ s₂ o, Steps p.tables e below S s₂ ∧ s₂.status = .running ∧ Ended s₂ below o ∧ ∃ v L, o = .returned v ∧ (Q v s₂.heap ∧ Fr n0 L) ∧ FrameEnd s o s₂ L R.cells R.slots
/-- what is known of the body that is walked -/
def z_Cx (Z : State) (p : Program) (s : State) (m : MethodId) (meth : Method) (c : Code) (own : String) (bytes : ByteArray) (ml : Nat) (rt : Option FieldType) (nm : String) : Prop :=
  p.tables.exec = Jvm.exec ∧ Z.Warmed39 s.vm ∧ s.vm.findClass own = some m.cls ∧ c.code = bytes ∧ c.maxLocals = ml ∧ meth.sig.returnType = rt ∧ meth.locks = false ∧ meth.name = nm
/-- from the frame f over the heap h (k cells and n slots made so far) the body ends well -/
def z_At (p : Program) (l : Launch) (e : Env) (R : Room) (s : State) (m : MethodId) (args : Array Value) (below : List Frame) (meth : Method) (c : Code) (n0 : Nat) (Q : Option Value → Heap → Prop) (h : Heap) (k n : Nat) (f : JFrame) : Prop :=
  ∀ T L, Stand p l e R s m args below meth c T L k n → Fr n0 L → T.heap = h → z_Fin p e R s below n0 Q (T.setTop f)
theorem z_via {S S' : State} (H : ∀ t, Steps p.tables e below S' t → Steps p.tables e below S t) (K : z_Fin p e R s below n0 Q S') : z_Fin p e R s below n0 Q S := by
  obtain ⟨s₂, o, h1, r⟩ := K
  exact ⟨s₂, o, H _ h1, r⟩
theorem z_of (H : ∀ T L, Stand p l e R s m args below meth c T L k n → ∀ t, Steps p.tables e below (T.setTop f') t → Steps p.tables e below (T.setTop f) t) (K : z_At p l e R s m args below meth c n0 Q h k n f') : z_At p l e R s m args below meth c n0 Q h k n f :=
  fun T L X N eT => z_via (H T L X) (K T L X N eT)
theorem z_eq (q : f = f') (K : z_At p l e R s m args below meth c n0 Q h k n f') : z_At p l e R s m args below meth c n0 Q h k n f := q ▸ K
/-! ### plain steps -/
theorem z_iloadN (C : z_Cx Z p s m meth c own bytes ml rt nm) {i : Fin 4} {v : Int32} (hd : decode bytes pc = .ok (.iload_n i, 1)) (hl : Ls[i.val]? = some (.val (.int v))) (pc' : Nat) (hp : pc + 1 = pc')
    (K : z_At p l e R s m args below meth c n0 Q h k n (mkF m pc' Ls (.int v :: st))) : z_At p l e R s m args below meth c n0 Q h k n (mkF m pc Ls st) := by
  subst hp; exact z_of (fun T L X t hr => XS.iloadN X.here C.1 rfl (hb C.2.2.2.1 hd) hl hr) K
theorem z_iload (C : z_Cx Z p s m meth c own bytes ml rt nm) {i : Nat} {v : Int32} (hd : decode bytes pc = .ok (.iload i, 2)) (hl : Ls[i]? = some (.val (.int v))) (pc' : Nat) (hp : pc + 2 = pc')
    (K : z_At p l e R s m args below meth c n0 Q h k n (mkF m pc' Ls (.int v :: st))) : z_At p l e R s m args below meth c n0 Q h k n (mkF m pc Ls st) := by
  subst hp; exact z_of (fun T L X t hr => XS.iload X.here C.1 rfl (hb C.2.2.2.1 hd) hl hr) K
theorem z_aloadN (C : z_Cx Z p s m meth c own bytes ml rt nm) {i : Fin 4} {v : Value} (hd : decode bytes pc = .ok (.aload_n i, 1)) (hl : Ls[i.val]? = some (.val v)) (hv : v.isRef = true) (pc' : Nat) (hp : pc + 1 = pc')
    (K : z_At p l e R s m args below meth c n0 Q h k n (mkF m pc' Ls (v :: st))) : z_At p l e R s m args below meth c n0 Q h k n (mkF m pc Ls st) := by
  subst hp; exact z_of (fun T L X t hr => XS.aloadN X.here C.1 rfl (hb C.2.2.2.1 hd) hl hv hr) K
theorem z_aload (C : z_Cx Z p s m meth c own bytes ml rt nm) {i : Nat} {v : Value} (hd : decode bytes pc = .ok (.aload i, 2)) (hl : Ls[i]? = some (.val v)) (hv : v.isRef = true) (pc' : Nat) (hp : pc + 2 = pc')
    (K : z_At p l e R s m args below meth c n0 Q h k n (mkF m pc' Ls (v :: st))) : z_At p l e R s m args below meth c n0 Q h k n (mkF m pc Ls st) := by
  subst hp; exact z_of (fun T L X t hr => XS.aload X.here C.1 rfl (hb C.2.2.2.1 hd) hl hv hr) K
theorem z_istoreN (C : z_Cx Z p s m meth c own bytes ml rt nm) {i : Fin 4} {v : Int32} (hd : decode bytes pc = .ok (.istore_n i, 1)) (hl : storeLocals Ls i.val (.int v) = some Ls') (pc' : Nat) (hp : pc + 1 = pc')
    (K : z_At p l e R s m args below meth c n0 Q h k n (mkF m pc' Ls' st)) : z_At p l e R s m args below meth c n0 Q h k n (mkF m pc Ls (.int v :: st)) := by
  subst hp; exact z_of (fun T L X t hr => XS.istoreN X.here C.1 rfl (hb C.2.2.2.1 hd) rfl hl hr) K
theorem z_istore (C : z_Cx Z p s m meth c own bytes ml rt nm) {i : Nat} {v : Int32} (hd : decode bytes pc = .ok (.istore i, 2)) (hl : storeLocals Ls i (.int v) = some Ls') (pc' : Nat) (hp : pc + 2 = pc')
    (K : z_At p l e R s m args below meth c n0 Q h k n (mkF m pc' Ls' st)) : z_At p l e R s m args below meth c n0 Q h k n (mkF m pc Ls (.int v :: st)) := by
  subst hp; exact z_of (fun T L X t hr => XS.istore X.here C.1 rfl (hb C.2.2.2.1 hd) rfl hl hr) K
theorem z_astoreN (C : z_Cx Z p s m meth c own bytes ml rt nm) {i : Fin 4} {v : Value} (hd : decode bytes pc = .ok (.astore_n i, 1)) (hv : v.isRef = true) (hl : storeLocals Ls i.val v = some Ls') (pc' : Nat) (hp : pc + 1 = pc')
    (K : z_At p l e R s m args below meth c n0 Q h k n (mkF m pc' Ls' st)) : z_At p l e R s m args below meth c n0 Q h k n (mkF m pc Ls (v :: st)) := by
  subst hp; exact z_of (fun T L X t hr => XS.astoreN X.here C.1 rfl (hb C.2.2.2.1 hd) rfl hv hl hr) K
theorem z_astore (C : z_Cx Z p s m meth c own bytes ml rt nm) {i : Nat} {v : Value} (hd : decode bytes pc = .ok (.astore i, 2)) (hv : v.isRef = true) (hl : storeLocals Ls i v = some Ls') (pc' : Nat) (hp : pc + 2 = pc')
    (K : z_At p l e R s m args below meth c n0 Q h k n (mkF m pc' Ls' st)) : z_At p l e R s m args below meth c n0 Q h k n (mkF m pc Ls (v :: st)) := by
  subst hp; exact z_of (fun T L X t hr => XS.astore X.here C.1 rfl (hb C.2.2.2.1 hd) rfl hv hl hr) K
theorem z_iconst (C : z_Cx Z p s m meth c own bytes ml rt nm) {i : Int} {v : Int32} (hd : decode bytes pc = .ok (.iconst i, 1)) (hv : Int32.ofInt i = v) (pc' : Nat) (hp : pc + 1 = pc')
    (K : z_At p l e R s m args below meth c n0 Q h k n (mkF m pc' Ls (.int v :: st))) : z_At p l e R s m args below meth c n0 Q h k n (mkF m pc Ls st) := by
  subst hp hv; exact z_of (fun T L X t hr => XS.iconst X.here C.1 rfl (hb C.2.2.2.1 hd) hr) K
theorem z_bipush (C : z_Cx Z p s m meth c own bytes ml rt nm) {i : Int} {v : Int32} (hd : decode bytes pc = .ok (.bipush i, 2)) (hv : (Int8.ofInt i).toInt32 = v) (pc' : Nat) (hp : pc + 2 = pc')
    (K : z_At p l e R s m args below meth c n0 Q h k n (mkF m pc' Ls (.int v :: st))) : z_At p l e R s m args below meth c n0 Q h k n (mkF m pc Ls st) := by
  subst hp hv; exact z_of (fun T L X t hr => XS.bipush X.here C.1 rfl (hb C.2.2.2.1 hd) hr) K
theorem z_sipush (C : z_Cx Z p s m meth c own bytes ml rt nm) {i : Int} {v : Int32} (hd : decode bytes pc = .ok (.sipush i, 3)) (hv : (Int16.ofInt i).toInt32 = v) (pc' : Nat) (hp : pc + 3 = pc')
    (K : z_At p l e R s m args below meth c n0 Q h k n (mkF m pc' Ls (.int v :: st))) : z_At p l e R s m args below meth c n0 Q h k n (mkF m pc Ls st) := by
  subst hp hv; exact z_of (fun T L X t hr => XS.sipush X.here C.1 rfl (hb C.2.2.2.1 hd) hr) K
theorem z_aconst_null (C : z_Cx Z p s m meth c own bytes ml rt nm) (hd : decode bytes pc = .ok (.aconst_null, 1)) (pc' : Nat) (hp : pc + 1 = pc')
    (K : z_At p l e R s m args below meth c n0 Q h k n (mkF m pc' Ls (.null :: st))) : z_At p l e R s m args below meth c n0 Q h k n (mkF m pc Ls st) := by
  subst hp; exact z_of (fun T L X t hr => XS.aconstNull X.here C.1 rfl (hb C.2.2.2.1 hd) hr) K
theorem z_ldc (C : z_Cx Z p s m meth c own bytes ml rt nm) {i : Nat} {v : Int32} (w : (Cond.constant own i v).before a0 Z = true) (hd : decode bytes pc = .ok (.ldc i, 2)) (pc' : Nat) (hp : pc + 2 = pc')
    (K : z_At p l e R s m args below meth c n0 Q h k n (mkF m pc' Ls (.int v :: st))) : z_At p l e R s m args below meth c n0 Q h k n (mkF m pc Ls st) := by
  subst hp; exact z_of (fun T L X t hr => X.ldcI C.1 C.2.2.1 (mvT C.2.1 w) rfl (hb C.2.2.2.1 hd) hr) K
theorem z_iadd (C : z_Cx Z p s m meth c own bytes ml rt nm) {x y z : Int32} (hd : decode bytes pc = .ok (.iadd, 1)) (hz : x + y = z) (pc' : Nat) (hp : pc + 1 = pc')
    (K : z_At p l e R s m args below meth c n0 Q h k n (mkF m pc' Ls (.int z :: st))) : z_At p l e R s m args below meth c n0 Q h k n (mkF m pc Ls (.int y :: .int x :: st)) := by
  subst hp hz; exact z_of (fun T L X t hr => XS.iadd X.here C.1 rfl (hb C.2.2.2.1 hd) rfl hr) K
theorem z_isub (C : z_Cx Z p s m meth c own bytes ml rt nm) {x y z : Int32} (hd : decode bytes pc = .ok (.isub, 1)) (hz : x - y = z) (pc' : Nat) (hp : pc + 1 = pc')
    (K : z_At p l e R s m args below meth c n0 Q h k n (mkF m pc' Ls (.int z :: st))) : z_At p l e R s m args below meth c n0 Q h k n (mkF m pc Ls (.int y :: .int x :: st)) := by
  subst hp hz; exact z_of (fun T L X t hr => XS.isub X.here C.1 rfl (hb C.2.2.2.1 hd) rfl hr) K
theorem z_imul (C : z_Cx Z p s m meth c own bytes ml rt nm) {x y z : Int32} (hd : decode bytes pc = .ok (.imul, 1)) (hz : x * y = z) (pc' : Nat) (hp : pc + 1 = pc')
    (K : z_At p l e R s m args below meth c n0 Q h k n (mkF m pc' Ls (.int z :: st))) : z_At p l e R s m args below meth c n0 Q h k n (mkF m pc Ls (.int y :: .int x :: st)) := by
  subst hp hz; exact z_of (fun T L X t hr => XS.imul X.here C.1 rfl (hb C.2.2.2.1 hd) rfl hr) K
theorem z_iand (C : z_Cx Z p s m meth c own bytes ml rt nm) {x y z : Int32} (hd : decode bytes pc = .ok (.iand, 1)) (hz : x &&& y = z) (pc' : Nat) (hp : pc + 1 = pc')
    (K : z_At p l e R s m args below meth c n0 Q h k n (mkF m pc' Ls (.int z :: st))) : z_At p l e R s m args below meth c n0 Q h k n (mkF m pc Ls (.int y :: .int x :: st)) := by
  subst hp hz; exact z_of (fun T L X t hr => XS.iand X.here C.1 rfl (hb C.2.2.2.1 hd) rfl hr) K
theorem z_ixor (C : z_Cx Z p s m meth c own bytes ml rt nm) {x y z : Int32} (hd : decode bytes pc = .ok (.ixor, 1)) (hz : x ^^^ y = z) (pc' : Nat) (hp : pc + 1 = pc')
    (K : z_At p l e R s m args below meth c n0 Q h k n (mkF m pc' Ls (.int z :: st))) : z_At p l e R s m args below meth c n0 Q h k n (mkF m pc Ls (.int y :: .int x :: st)) := by
  subst hp hz; exact z_of (fun T L X t hr => XS.ixor X.here C.1 rfl (hb C.2.2.2.1 hd) rfl hr) K
theorem z_ishr (C : z_Cx Z p s m meth c own bytes ml rt nm) {x y z : Int32} (hd : decode bytes pc = .ok (.ishr, 1)) (hz : x >>> (y &&& 31) = z) (pc' : Nat) (hp : pc + 1 = pc')
    (K : z_At p l e R s m args below meth c n0 Q h k n (mkF m pc' Ls (.int z :: st))) : z_At p l e R s m args below meth c n0 Q h k n (mkF m pc Ls (.int y :: .int x :: st)) := by
  subst hp hz; exact z_of (fun T L X t hr => XS.ishr X.here C.1 rfl (hb C.2.2.2.1 hd) rfl hr) K
theorem z_ishl (C : z_Cx Z p s m meth c own bytes ml rt nm) {x y z : Int32} (hd : decode bytes pc = .ok (.ishl, 1)) (hz : x <<< (y &&& 31) = z) (pc' : Nat) (hp : pc + 1 = pc')
    (K : z_At p l e R s m args below meth c n0 Q h k n (mkF m pc' Ls (.int z :: st))) : z_At p l e R s m args below meth c n0 Q h k n (mkF m pc Ls (.int y :: .int x :: st)) := by
  subst hp hz; exact z_of (fun T L X t hr => XS.ishl X.here C.1 rfl (hb C.2.2.2.1 hd) rfl hr) K
theorem z_ineg (C : z_Cx Z p s m meth c own bytes ml rt nm) {x z : Int32} (hd : decode bytes pc = .ok (.ineg, 1)) (hz : -x = z) (pc' : Nat) (hp : pc + 1 = pc')
    (K : z_At p l e R s m args below meth c n0 Q h k n (mkF m pc' Ls (.int z :: st))) : z_At p l e R s m args below meth c n0 Q h k n (mkF m pc Ls (.int x :: st)) := by
  subst hp hz; exact z_of (fun T L X t hr => XS.ineg X.here C.1 rfl (hb C.2.2.2.1 hd) rfl hr) K
theorem z_i2b (C : z_Cx Z p s m meth c own bytes ml rt nm) {x z : Int32} (hd : decode bytes pc = .ok (.i2b, 1)) (hz : x.toInt8.toInt32 = z) (pc' : Nat) (hp : pc + 1 = pc')
    (K : z_At p l e R s m args below meth c n0 Q h k n (mkF m pc' Ls (.int z :: st))) : z_At p l e R s m args below meth c n0 Q h k n (mkF m pc Ls (.int x :: st)) := by
  subst hp hz; exact z_of (fun T L X t hr => XS.i2b X.here C.1 rfl (hb C.2.2.2.1 hd) rfl hr) K
theorem z_pop (C : z_Cx Z p s m meth c own bytes ml rt nm) {x : Value} (hd : decode bytes pc = .ok (.pop, 1)) (hx : x.category = 1) (pc' : Nat) (hp : pc + 1 = pc')
    (K : z_At p l e R s m args below meth c n0 Q h k n (mkF m pc' Ls st)) : z_At p l e R s m args below meth c n0 Q h k n (mkF m pc Ls (x :: st)) := by
  subst hp; exact z_of (fun T L X t hr => XS.pop X.here C.1 rfl (hb C.2.2.2.1 hd) rfl hx hr) K
theorem z_irem (C : z_Cx Z p s m meth c own bytes ml rt nm) {x y z : Int32} (hd : decode bytes pc = .ok (.irem, 1)) (hy : y ≠ 0) (hz : x % y = z) (pc' : Nat) (hp : pc + 1 = pc')
    (K : z_At p l e R s m args below meth c n0 Q h k n (mkF m pc' Ls (.int z :: st))) : z_At p l e R s m args below meth c n0 Q h k n (mkF m pc Ls (.int y :: .int x :: st)) := by
  subst hp hz; exact z_of (fun T L X t hr => iremM X C.1 rfl (hb C.2.2.2.1 hd) rfl hy hr) K
theorem z_idiv (C : z_Cx Z p s m meth c own bytes ml rt nm) {x y z : Int32} (hd : decode bytes pc = .ok (.idiv, 1)) (hy : y ≠ 0) (hz : x / y = z) (pc' : Nat) (hp : pc + 1 = pc')
    (K : z_At p l e R s m args below meth c n0 Q h k n (mkF m pc' Ls (.int z :: st))) : z_At p l e R s m args below meth c n0 Q h k n (mkF m pc Ls (.int y :: .int x :: st)) := by
  subst hp hz; exact z_of (fun T L X t hr => XS.idiv X.here C.1 rfl (hb C.2.2.2.1 hd) rfl hy hr) K
theorem z_dup (C : z_Cx Z p s m meth c own bytes ml rt nm) {x : Value} (hd : decode bytes pc = .ok (.dup, 1)) (hx : x.category = 1) (pc' : Nat) (hp : pc + 1 = pc')
    (K : z_At p l e R s m args below meth c n0 Q h k n (mkF m pc' Ls (x :: x :: st))) : z_At p l e R s m args below meth c n0 Q h k n (mkF m pc Ls (x :: st)) := by
  subst hp; exact z_of (fun T L X t hr => XS.dup X.here C.1 rfl (hb C.2.2.2.1 hd) rfl hx hr) K
theorem z_iinc (C : z_Cx Z p s m meth c own bytes ml rt nm) {i : Nat} {d : Int} {v w : Int32} (hd : decode bytes pc = .ok (.iinc i d, 3)) (hl : Ls[i]? = some (.val (.int v))) (hw : v + Int32.ofInt d = w) (hs : storeLocals Ls i (.int w) = some Ls') (pc' : Nat) (hp : pc + 3 = pc')
    (K : z_At p l e R s m args below meth c n0 Q h k n (mkF m pc' Ls' st)) : z_At p l e R s m args below meth c n0 Q h k n (mkF m pc Ls st) := by
  subst hp hw; exact z_of (fun T L X t hr => XS.iinc X.here C.1 rfl (hb C.2.2.2.1 hd) hl hs hr) K
theorem z_goto (C : z_Cx Z p s m meth c own bytes ml rt nm) {o : Int} (hd : decode bytes pc = .ok (.goto o, 3)) (ho : 0 ≤ (pc : Int) + o) (pc' : Nat) (hp : ((pc : Int) + o).toNat = pc')
    (K : z_At p l e R s m args below meth c n0 Q h k n (mkF m pc' Ls st)) : z_At p l e R s m args below meth c n0 Q h k n (mkF m pc Ls st) :=
  z_of (fun T L X t hr => XS.goto X.here C.1 rfl (pc0 := pc) rfl (hb C.2.2.2.1 hd) ho hp hr) K
theorem z_ifY (C : z_Cx Z p s m meth c own bytes ml rt nm) {cd : ClassFile.Cond} {x : Int32} {o : Int} (hd : decode bytes pc = .ok (.ifCond cd o, 3)) (hc : ifCond.holds cd x = true) (ho : 0 ≤ (pc : Int) + o) (pc' : Nat) (hp : ((pc : Int) + o).toNat = pc')
    (K : z_At p l e R s m args below meth c n0 Q h k n (mkF m pc' Ls st)) : z_At p l e R s m args below meth c n0 Q h k n (mkF m pc Ls (.int x :: st)) :=
  z_of (fun T L X t hr => XS.ifYes X.here C.1 rfl (pc0 := pc) rfl (hb C.2.2.2.1 hd) rfl hc ho hp hr) K
theorem z_ifN (C : z_Cx Z p s m meth c own bytes ml rt nm) {cd : ClassFile.Cond} {x : Int32} {o : Int} (hd : decode bytes pc = .ok (.ifCond cd o, 3)) (hc : ifCond.holds cd x = false) (pc' : Nat) (hp : pc + 3 = pc')
    (K : z_At p l e R s m args below meth c n0 Q h k n (mkF m pc' Ls st)) : z_At p l e R s m args below meth c n0 Q h k n (mkF m pc Ls (.int x :: st)) := by
  subst hp; exact z_of (fun T L X t hr => XS.ifNo X.here C.1 rfl (hb C.2.2.2.1 hd) rfl hc hr) K
theorem z_icmpY (C : z_Cx Z p s m meth c own bytes ml rt nm) {cd : ClassFile.Cond} {x y : Int32} {o : Int} (hd : decode bytes pc = .ok (.if_icmp cd o, 3)) (hc : if_icmp.holds cd x y = true) (ho : 0 ≤ (pc : Int) + o) (pc' : Nat) (hp : ((pc : Int) + o).toNat = pc')
    (K : z_At p l e R s m args below meth c n0 Q h k n (mkF m pc' Ls st)) : z_At p l e R s m args below meth c n0 Q h k n (mkF m pc Ls (.int y :: .int x :: st)) :=
  z_of (fun T L X t hr => XS.icmpYes X.here C.1 rfl (pc0 := pc) rfl (hb C.2.2.2.1 hd) rfl hc ho hp hr) K
theorem z_icmpN (C : z_Cx Z p s m meth c own bytes ml rt nm) {cd : ClassFile.Cond} {x y : Int32} {o : Int} (hd : decode bytes pc = .ok (.if_icmp cd o, 3)) (hc : if_icmp.holds cd x y = false) (pc' : Nat) (hp : pc + 3 = pc')
    (K : z_At p l e R s m args below meth c n0 Q h k n (mkF m pc' Ls st)) : z_At p l e R s m args below meth c n0 Q h k n (mkF m pc Ls (.int y :: .int x :: st)) := by
  subst hp; exact z_of (fun T L X t hr => XS.icmpNo X.here C.1 rfl (hb C.2.2.2.1 hd) rfl hc hr) K
theorem z_acmp (C : z_Cx Z p s m meth c own bytes ml rt nm) {cd : ACond} {x y : Value} {o : Int} {same : Bool} (hd : decode bytes pc = .ok (.if_acmp cd o, 3)) (h1 : x.isRef = true) (h2 : y.isRef = true) (hq : decide (x = y) = same) (ho : 0 ≤ (pc : Int) + o) (pc' : Nat) (hp : pc' = if acV cd same = true then ((pc : Int) + o).toNat else pc + 3)
    (K : z_At p l e R s m args below meth c n0 Q h k n (mkF m pc' Ls st)) : z_At p l e R s m args below meth c n0 Q h k n (mkF m pc Ls (y :: x :: st)) :=
  z_of (fun T L X t hr => RoadKit.acmp (g := mkF m pc Ls (y :: x :: st)) X C.1 rfl h1 h2 (pc0 := pc) rfl (hb C.2.2.2.1 hd) rfl hq ho hp hr) K
theorem z_same (a : Addr) : decide ((Value.ref a) = .ref a) = true := decide_eq_true rfl
theorem z_unlike {a b : Addr} (q : a ≠ b) : decide ((Value.ref a) = .ref b) = false := decide_eq_false fun z => q (Value.ref.inj z)
theorem z_nullY (C : z_Cx Z p s m meth c own bytes ml rt nm) {o : Int} (hd : decode bytes pc = .ok (.ifnull o, 3)) (ho : 0 ≤ (pc : Int) + o) (pc' : Nat) (hp : ((pc : Int) + o).toNat = pc')
    (K : z_At p l e R s m args below meth c n0 Q h k n (mkF m pc' Ls st)) : z_At p l e R s m args below meth c n0 Q h k n (mkF m pc Ls (.null :: st)) :=
  z_of (fun T L X t hr => XS.ifnullYes X.here C.1 rfl (pc0 := pc) rfl (hb C.2.2.2.1 hd) rfl ho hp hr) K
theorem z_nullN (C : z_Cx Z p s m meth c own bytes ml rt nm) {o : Int} {a : Addr} (hd : decode bytes pc = .ok (.ifnull o, 3)) (pc' : Nat) (hp : pc + 3 = pc')
    (K : z_At p l e R s m args below meth c n0 Q h k n (mkF m pc' Ls st)) : z_At p l e R s m args below meth c n0 Q h k n (mkF m pc Ls (.ref a :: st)) := by
  subst hp; exact z_of (fun T L X t hr => XS.ifnullNo X.here C.1 rfl (hb C.2.2.2.1 hd) rfl hr) K
theorem z_nonnullY (C : z_Cx Z p s m meth c own bytes ml rt nm) {o : Int} {a : Addr} (hd : decode bytes pc = .ok (.ifnonnull o, 3)) (ho : 0 ≤ (pc : Int) + o) (pc' : Nat) (hp : ((pc : Int) + o).toNat = pc')
    (K : z_At p l e R s m args below meth c n0 Q h k n (mkF m pc' Ls st)) : z_At p l e R s m args below meth c n0 Q h k n (mkF m pc Ls (.ref a :: st)) :=
  z_of (fun T L X t hr => XS.ifnonnullYes X.here C.1 rfl (pc0 := pc) rfl (hb C.2.2.2.1 hd) rfl ho hp hr) K
theorem z_nonnullN (C : z_Cx Z p s m meth c own bytes ml rt nm) {o : Int} (hd : decode bytes pc = .ok (.ifnonnull o, 3)) (pc' : Nat) (hp : pc + 3 = pc')
    (K : z_At p l e R s m args below meth c n0 Q h k n (mkF m pc' Ls st)) : z_At p l e R s m args below meth c n0 Q h k n (mkF m pc Ls (.null :: st)) := by
  subst hp; exact z_of (fun T L X t hr => XS.ifnonnullNo X.here C.1 rfl (hb C.2.2.2.1 hd) rfl hr) K
/-! ### reads and writes -/
theorem z_getstatic (C : z_Cx Z p s m meth c own bytes ml rt nm) {O f d : String} {i : Nat} {v : Value} (w : (Cond.fieldLink own i O f d).before a0 Z = true) (F : Sta Z h O f d v) (hd : decode bytes pc = .ok (.getstatic i, 3)) (pc' : Nat) (hp : pc + 3 = pc')
    (K : z_At p l e R s m args below meth c n0 Q h k n (mkF m pc' Ls (v :: st))) : z_At p l e R s m args below meth c n0 Q h k n (mkF m pc Ls st) := by
  subst hp
  intro T L X N eT
  obtain ⟨T', X', e', stp⟩ := getS2 X C.1 C.2.1 C.2.2.1 (host := "") (Or.inl w) Via.refl eT F (g := mkF m pc Ls st) rfl (hb C.2.2.2.1 hd)
  exact z_via stp (K T' L X' N e')
theorem z_getfield (C : z_Cx Z p s m meth c own bytes ml rt nm) {R0 O f d : String} {i : Nat} {a : Addr} {v : Value} (w : (Cond.fieldLink own i R0 f d).before a0 Z = true) (via : Via Z R0 O f d) (F : Fld Z h a O f d v) (hd : decode bytes pc = .ok (.getfield i, 3)) (pc' : Nat) (hp : pc + 3 = pc')
    (K : z_At p l e R s m args below meth c n0 Q h k n (mkF m pc' Ls (v :: st))) : z_At p l e R s m args below meth c n0 Q h k n (mkF m pc Ls (.ref a :: st)) := by
  subst hp
  intro T L X N eT
  obtain ⟨T', X', e', stp⟩ := getF X C.1 C.2.1 C.2.2.1 (host := "") (Or.inl w) via eT F (g := mkF m pc Ls (.ref a :: st)) rfl rfl (hb C.2.2.2.1 hd)
  exact z_via stp (K T' L X' N e')
/-! ### returns -/
theorem z_back (C : z_Cx Z p s m meth c own bytes ml rt nm) {v : Option Value} (hv : rt = none → v = none) (hk : k ≤ R.cells) (hn : n ≤ R.slots) (hQ : Q v h)
    (H : ∀ T L, Stand p l e R s m args below meth c T L k n → ∀ fs, (∀ (f : JFrame) (acts : List Action), f.method = m → f.locked = none → f.entered = [] → (doReturn e (T.setTop f) acts v).1 = T.setFrames fs) → Steps p.tables e below (T.setTop f) (T.setFrames fs)) :
    z_At p l e R s m args below meth c n0 Q h k n f := by
  intro T L X N eT
  obtain ⟨fs, hr, hrun, hended, hW, hsame⟩ := X.leave (v := v) (fun q => hv (C.2.2.2.2.2.1.symm.trans q)) C.2.2.2.2.2.2.1
  exact ⟨_, _, H T L X fs hr, hrun, hended, _, _, rfl, ⟨by show Q v T.heap; rw [eT]; exact hQ, N⟩, ⟨_, rfl⟩, hW, hsame.mono hk hn⟩
theorem z_ireturn {t : FieldType} (C : z_Cx Z p s m meth c own bytes ml (some t) nm) {z : Int32} (ht : t = .int ∨ t = .boolean ∨ t = .byte ∨ t = .char ∨ t = .short) (hn : narrow t (.int z) = .int z) (hd : decode bytes pc = .ok (.ireturn, 1)) (hk : k ≤ R.cells) (hs : n ≤ R.slots) (hQ : Q (some (.int z)) h) :
    z_At p l e R s m args below meth c n0 Q h k n (mkF m pc Ls (.int z :: st)) :=
  z_back C (fun q => nomatch q) hk hs hQ fun T L X fs hr => retOut X C.1 C.2.2.2.2.2.1 hn (Or.inl ⟨rfl, ht, _, rfl⟩) (hb C.2.2.2.1 hd) hr
theorem z_dreturn (C : z_Cx Z p s m meth c own bytes ml (some .double) nm) {z : UInt64} (hd : decode bytes pc = .ok (.dreturn, 1)) (hk : k ≤ R.cells) (hs : n ≤ R.slots) (hQ : Q (some (.double z)) h) :
    z_At p l e R s m args below meth c n0 Q h k n (mkF m pc Ls (.double z :: st)) :=
  z_back C (fun q => nomatch q) hk hs hQ fun T L X fs hr => retOut X C.1 C.2.2.2.2.2.1 rfl (Or.inr (Or.inr (Or.inl ⟨rfl, rfl, _, rfl⟩))) (hb C.2.2.2.1 hd) hr
theorem z_areturn {t : FieldType} (C : z_Cx Z p s m meth c own bytes ml (some t) nm) {v : Value} (ht : t.isReference = true) (hv : v.isRef = true) (hd : decode bytes pc = .ok (.areturn, 1)) (hk : k ≤ R.cells) (hs : n ≤ R.slots) (hQ : Q (some v) h) :
    z_At p l e R s m args below meth c n0 Q h k n (mkF m pc Ls (v :: st)) :=
  z_back C (fun q => nomatch q) hk hs hQ fun T L X fs hr => retOut X C.1 C.2.2.2.2.2.1 (by cases t <;> simp [FieldType.isReference] at ht <;> cases v <;> simp [Value.isRef] at hv <;> rfl) (Or.inr (Or.inr (Or.inr (Or.inr ⟨rfl, ht, hv⟩)))) (hb C.2.2.2.1 hd) hr
theorem z_return (C : z_Cx Z p s m meth c own bytes ml none nm) (hd : decode bytes pc = .ok (.return_, 1)) (hk : k ≤ R.cells) (hs : n ≤ R.slots) (hQ : Q none h) :
    z_At p l e R s m args below meth c n0 Q h k n (mkF m pc Ls []) :=
  z_back C (fun _ => rfl) hk hs hQ fun T L X fs hr => X.returnOut C.1 C.2.2.2.2.2.1 (hb C.2.2.2.1 hd) hr
/-! ### contracts and calls -/
def z_Met (l : Launch) (Z : State) (y : MethodName) (bytes : ByteArray) (maxL : Nat) (rt : Option FieldType) (ws : List Jvm.Cond) (rm : Room) (n0 : Nat) (as' : Array Value) (h : Heap) (Q : Option Value → Heap → Prop) : Prop :=
  MetFree l y (head1 (Jvm.Cond.code y bytes maxL rt :: ws) rm) (fun a U => a = as' ∧ Z.Warmed39 U.vm ∧ U.heap = h) (fun _ _ _ _ _ => True) (fun _ U o U' => ∃ v L, o = .returned v ∧ (Q v U'.heap ∧ Fr n0 L) ∧ FrameEnd U o U' L rm.cells rm.slots)
def z_val (P : Value → Heap → Prop) (v : Option Value) (h : Heap) : Prop := ∃ w, v = some w ∧ P w h
def z_nov (P : Heap → Prop) (v : Option Value) (h : Heap) : Prop := v = none ∧ P h
theorem z_met {y : MethodName} {ws : List Jvm.Cond} {rm : Room} {as' : Array Value} (hy : plainFor y = true) (hf : Jvm.Sym.laidSlots as'.toList ++ List.replicate (ml - (Jvm.Sym.laidSlots as'.toList).length) .unset = Ls.toList)
    (H : ∀ p e s m below meth c, z_Cx Z p s m meth c y.cls bytes ml rt y.name → z_At p l e rm s m as' below meth c n0 Q h 0 0 (mkF m 0 Ls [])) : z_Met l Z y bytes ml rt ws rm n0 as' h Q := by
  refine MetFree.of_bodySF hy hisR ?_
  intro p e s m args below meth c s₁ Bd hml0 hP hK
  obtain ⟨rfl, hZ, hh⟩ := hP
  have X0 : Stand p l e rm s m _ below meth c s₁ [] 0 0 := Stand.of_body Bd
  have e0 : s₁.heap = h := by rw [← hh, Bd.state]; rfl
  have K := H p e s m below meth c ⟨Bd.exec, hZ, findClass_of_methodNamed Bd.named, Bd.bytes, hml0, Bd.returns, Bd.notSynchronized, (name_of_methodNamed Bd.named Bd.method).1⟩ s₁ [] X0 (Fr.nil n0) e0
  have hq : argsToLocals args ml = Ls := Array.toList_inj.mp (by rw [Jvm.Sym.argsToLocals_toList]; exact hf)
  have hq2 : entryFrame m args ml = mkF m 0 (argsToLocals args ml) [] := rfl
  rw [hq2, hq]
  exact K
/-- it returns v and leaves the heap as it was -/
def z_pure (v : Value) (h : Heap) (u : Option Value) (h' : Heap) : Prop := u = some v ∧ h' = h
section Calls
variable {y : MethodName} {bytes' : ByteArray} {maxL' : Nat} {rt' : Option FieldType} {rm : Room} {argsL : List Value} {W i : Nat} {P : Value → Heap → Prop} {P0 : Heap → Prop}
theorem z_callS0 {Q' : Option Value → Heap → Prop} (C : z_Cx Z p s m meth c own bytes ml rt nm) (M : z_Met l Z y bytes' maxL' rt' [] rm n0 argsL.toArray h Q') (w1 : (Cond.methodLink own i y).before a0 Z = true) (w2 : (Cond.static y).before a0 Z = true) (w3 : (Cond.initialized y.cls).before a0 Z = true) (w4 : (Cond.code y bytes' maxL' rt').before a0 Z = true)
    (hy : y.cls ≠ "java/lang/invoke/MethodHandle" ∧ y.cls ≠ "java/lang/invoke/VarHandle") (hd : decode bytes pc = .ok (.invokestatic i, 3)) (hs : Ls.size = ml) (hst : st = argsL.reverse ++ rest) (hlen : ∀ sig, parseMethodDescriptor y.desc = some sig → argsL.length = sig.parameters.length) (hW : (rest.map fun v => v.category).sum ≤ W) (hf : rm.frames + 1 ≤ R.frames) (hl : W + (maxL' + 11) + rm.locals ≤ R.locals) (hc : k + rm.cells ≤ R.cells) (hn : n + rm.slots ≤ R.slots) (pc' : Nat) (hp : pc + 3 = pc')
    (K : ∀ v h', Q' v h' → z_At p l e R s m args below meth c n0 Q h' (k + rm.cells) (n + rm.slots) (mkF m pc' Ls (v.toList ++ rest))) : z_At p l e R s m args below meth c n0 Q h k n (mkF m pc Ls st) := by
  subst hp
  intro T L X N eT
  obtain ⟨v, _, ⟨T', L', k', n'⟩, -, X', ⟨Lc, ⟨hQ, N'⟩, l', y', z'⟩, stp⟩ := Jvm.LawKit.callS X C.1 (y := y) C.2.2.1 (mvT C.2.1 w1) (mvT C.2.1 w2) (mvT C.2.1 w3) (mvT C.2.1 w4) hy
    (backOf (Q := fun v h' L => Q' v h' ∧ Fr n0 L) (len := 3) (W := W) (p := p) (e := e) (below := below) (args := args) M C.2.1 w4 w3 hf hl) (g := mkF m pc Ls st) rfl (hs.trans C.2.2.2.2.1.symm) (argsL := argsL) (rest := rest) hlen hst (by show 2 * 0 + _ ≤ _; omega) (hb C.2.2.2.1 hd) (fun _ _ => ⟨rfl, eT, hc, hn⟩)
  dsimp only [Pt.U, Pt.locs, Pt.cells, Pt.slots] at X' l' y' z' stp hQ
  subst l' y' z'
  exact z_via stp (K v _ hQ T' _ X' (Fr.app N N') rfl)
theorem z_callS (C : z_Cx Z p s m meth c own bytes ml rt nm) (M : z_Met l Z y bytes' maxL' rt' [] rm n0 argsL.toArray h  (z_val P)) (w1 : (Cond.methodLink own i y).before a0 Z = true) (w2 : (Cond.static y).before a0 Z = true) (w3 : (Cond.initialized y.cls).before a0 Z = true) (w4 : (Cond.code y bytes' maxL' rt').before a0 Z = true)
    (hy : y.cls ≠ "java/lang/invoke/MethodHandle" ∧ y.cls ≠ "java/lang/invoke/VarHandle") (hd : decode bytes pc = .ok (.invokestatic i, 3)) (hs : Ls.size = ml) (hst : st = argsL.reverse ++ rest) (hlen : ∀ sig, parseMethodDescriptor y.desc = some sig → argsL.length = sig.parameters.length) (hW : (rest.map fun v => v.category).sum ≤ W) (hf : rm.frames + 1 ≤ R.frames) (hl : W + (maxL' + 11) + rm.locals ≤ R.locals) (hc : k + rm.cells ≤ R.cells) (hn : n + rm.slots ≤ R.slots) (pc' : Nat) (hp : pc + 3 = pc')
    (K : ∀ w h', P w h' → z_At p l e R s m args below meth c n0 Q h' (k + rm.cells) (n + rm.slots) (mkF m pc' Ls (w :: rest))) : z_At p l e R s m args below meth c n0 Q h k n (mkF m pc Ls st) :=
  z_callS0 C M w1 w2 w3 w4 hy hd hs hst hlen hW hf hl hc hn _ hp (by rintro _ h' ⟨w, rfl, q⟩; exact K w h' q)
theorem z_callSp {v : Value} (C : z_Cx Z p s m meth c own bytes ml rt nm) (M : z_Met l Z y bytes' maxL' rt' [] rm n0 argsL.toArray h  (z_pure v h)) (w1 : (Cond.methodLink own i y).before a0 Z = true) (w2 : (Cond.static y).before a0 Z = true) (w3 : (Cond.initialized y.cls).before a0 Z = true) (w4 : (Cond.code y bytes' maxL' rt').before a0 Z = true)
    (hy : y.cls ≠ "java/lang/invoke/MethodHandle" ∧ y.cls ≠ "java/lang/invoke/VarHandle") (hd : decode bytes pc = .ok (.invokestatic i, 3)) (hs : Ls.size = ml) (hst : st = argsL.reverse ++ rest) (hlen : ∀ sig, parseMethodDescriptor y.desc = some sig → argsL.length = sig.parameters.length) (hW : (rest.map fun v => v.category).sum ≤ W) (hf : rm.frames + 1 ≤ R.frames) (hl : W + (maxL' + 11) + rm.locals ≤ R.locals) (hc : rm.cells = 0) (hn : rm.slots = 0) (hk : k ≤ R.cells) (hk' : n ≤ R.slots) (pc' : Nat) (hp : pc + 3 = pc')
    (K : z_At p l e R s m args below meth c n0 Q h k n (mkF m pc' Ls (v :: rest))) : z_At p l e R s m args below meth c n0 Q h k n (mkF m pc Ls st) :=
  z_callS0 C M w1 w2 w3 w4 hy hd hs hst hlen hW hf hl (by rw [hc]; exact hk) (by rw [hn]; exact hk') _ hp (by rintro _ h' ⟨rfl, rfl⟩; rw [hc, hn]; exact K)
theorem z_callSV (C : z_Cx Z p s m meth c own bytes ml rt nm) (M : z_Met l Z y bytes' maxL' rt' [] rm n0 argsL.toArray h  (z_nov P0)) (w1 : (Cond.methodLink own i y).before a0 Z = true) (w2 : (Cond.static y).before a0 Z = true) (w3 : (Cond.initialized y.cls).before a0 Z = true) (w4 : (Cond.code y bytes' maxL' rt').before a0 Z = true)
    (hy : y.cls ≠ "java/lang/invoke/MethodHandle" ∧ y.cls ≠ "java/lang/invoke/VarHandle") (hd : decode bytes pc = .ok (.invokestatic i, 3)) (hs : Ls.size = ml) (hst : st = argsL.reverse ++ rest) (hlen : ∀ sig, parseMethodDescriptor y.desc = some sig → argsL.length = sig.parameters.length) (hW : (rest.map fun v => v.category).sum ≤ W) (hf : rm.frames + 1 ≤ R.frames) (hl : W + (maxL' + 11) + rm.locals ≤ R.locals) (hc : k + rm.cells ≤ R.cells) (hn : n + rm.slots ≤ R.slots) (pc' : Nat) (hp : pc + 3 = pc')
    (K : ∀ h', P0 h' → z_At p l e R s m args below meth c n0 Q h' (k + rm.cells) (n + rm.slots) (mkF m pc' Ls rest)) : z_At p l e R s m args below meth c n0 Q h k n (mkF m pc Ls st) :=
  z_callS0 C M w1 w2 w3 w4 hy hd hs hst hlen hW hf hl hc hn _ hp (by rintro _ h' ⟨rfl, q⟩; exact K h' q)
theorem z_callV0 {Q' : Option Value → Heap → Prop} {a : Addr} {Cn : String} (C : z_Cx Z p s m meth c own bytes ml rt nm) (E : Exa Z h a Cn) (M : z_Met l Z y bytes' maxL' rt' [] rm n0 (Value.ref a :: argsL).toArray h Q') (w1 : (Cond.methodLink own i y).before a0 Z = true) (w2 : (Cond.declares y).before a0 Z = true) (w5 : (Cond.selects Cn y y).before a0 Z = true) (w6 : (Cond.instanceMethod y).before a0 Z = true) (w3 : (Cond.initialized y.cls).before a0 Z = true) (w4 : (Cond.code y bytes' maxL' rt').before a0 Z = true)
    (hy : y.cls ≠ "java/lang/invoke/MethodHandle" ∧ y.cls ≠ "java/lang/invoke/VarHandle") (hd : decode bytes pc = .ok (.invokevirtual i, 3)) (hs : Ls.size = ml) (hst : st = argsL.reverse ++ .ref a :: rest) (hlen : ∀ sig, parseMethodDescriptor y.desc = some sig → argsL.length = sig.parameters.length) (hW : (rest.map fun v => v.category).sum ≤ W) (hf : rm.frames + 1 ≤ R.frames) (hl : W + (maxL' + 11) + rm.locals ≤ R.locals) (hc : k + rm.cells ≤ R.cells) (hn : n + rm.slots ≤ R.slots) (pc' : Nat) (hp : pc + 3 = pc')
    (K : ∀ v h', Q' v h' → z_At p l e R s m args below meth c n0 Q h' (k + rm.cells) (n + rm.slots) (mkF m pc' Ls (v.toList ++ rest))) : z_At p l e R s m args below meth c n0 Q h k n (mkF m pc Ls st) := by
  subst hp
  intro T L X N eT
  obtain ⟨cq, kq, qa, qb, qc⟩ := isOf C.2.1 eT E
  obtain ⟨v, _, ⟨T', L', k', n'⟩, -, X', ⟨Lc, ⟨hQ, N'⟩, l', y', z'⟩, stp⟩ := X.virtualBack C.1 (y := y) (z := y) C.2.2.1 (mvT C.2.1 w1) (mvT C.2.1 w2) (notFace_of_selects (args := #[]) (mvT C.2.1 w5)) (mvT C.2.1 w5) (mvT C.2.1 w6) hy
    (backOf (Q := fun v h' L => Q' v h' ∧ Fr n0 L) (len := 3) (W := W) (p := p) (e := e) (below := below) (args := args) M C.2.1 w4 w3 hf hl) qa qc (g := mkF m pc Ls st) rfl (hs.trans C.2.2.2.2.1.symm) (Steps.refl _) (argsL := argsL) (rest := rest) hlen hst (by show 2 * 0 + _ ≤ _; omega) (hb C.2.2.2.1 hd) (fun _ _ => ⟨rfl, eT, hc, hn⟩)
  dsimp only [Pt.U, Pt.locs, Pt.cells, Pt.slots] at X' l' y' z' stp hQ
  subst l' y' z'
  exact z_via (fun t q => stp.trans q) (K v _ hQ T' _ X' (Fr.app N N') rfl)
theorem z_callV {a : Addr} {Cn : String} (C : z_Cx Z p s m meth c own bytes ml rt nm) (E : Exa Z h a Cn) (M : z_Met l Z y bytes' maxL' rt' [] rm n0 (Value.ref a :: argsL).toArray h  (z_val P)) (w1 : (Cond.methodLink own i y).before a0 Z = true) (w2 : (Cond.declares y).before a0 Z = true) (w5 : (Cond.selects Cn y y).before a0 Z = true) (w6 : (Cond.instanceMethod y).before a0 Z = true) (w3 : (Cond.initialized y.cls).before a0 Z = true) (w4 : (Cond.code y bytes' maxL' rt').before a0 Z = true)
    (hy : y.cls ≠ "java/lang/invoke/MethodHandle" ∧ y.cls ≠ "java/lang/invoke/VarHandle") (hd : decode bytes pc = .ok (.invokevirtual i, 3)) (hs : Ls.size = ml) (hst : st = argsL.reverse ++ .ref a :: rest) (hlen : ∀ sig, parseMethodDescriptor y.desc = some sig → argsL.length = sig.parameters.length) (hW : (rest.map fun v => v.category).sum ≤ W) (hf : rm.frames + 1 ≤ R.frames) (hl : W + (maxL' + 11) + rm.locals ≤ R.locals) (hc : k + rm.cells ≤ R.cells) (hn : n + rm.slots ≤ R.slots) (pc' : Nat) (hp : pc + 3 = pc')
    (K : ∀ w h', P w h' → z_At p l e R s m args below meth c n0 Q h' (k + rm.cells) (n + rm.slots) (mkF m pc' Ls (w :: rest))) : z_At p l e R s m args below meth c n0 Q h k n (mkF m pc Ls st) :=
  z_callV0 C E M w1 w2 w5 w6 w3 w4 hy hd hs hst hlen hW hf hl hc hn _ hp (by rintro _ h' ⟨w, rfl, q⟩; exact K w h' q)
theorem z_callVp {v : Value} {a : Addr} {Cn : String} (C : z_Cx Z p s m meth c own bytes ml rt nm) (E : Exa Z h a Cn) (M : z_Met l Z y bytes' maxL' rt' [] rm n0 (Value.ref a :: argsL).toArray h  (z_pure v h)) (w1 : (Cond.methodLink own i y).before a0 Z = true) (w2 : (Cond.declares y).before a0 Z = true) (w5 : (Cond.selects Cn y y).before a0 Z = true) (w6 : (Cond.instanceMethod y).before a0 Z = true) (w3 : (Cond.initialized y.cls).before a0 Z = true) (w4 : (Cond.code y bytes' maxL' rt').before a0 Z = true)
    (hy : y.cls ≠ "java/lang/invoke/MethodHandle" ∧ y.cls ≠ "java/lang/invoke/VarHandle") (hd : decode bytes pc = .ok (.invokevirtual i, 3)) (hs : Ls.size = ml) (hst : st = argsL.reverse ++ .ref a :: rest) (hlen : ∀ sig, parseMethodDescriptor y.desc = some sig → argsL.length = sig.parameters.length) (hW : (rest.map fun v => v.category).sum ≤ W) (hf : rm.frames + 1 ≤ R.frames) (hl : W + (maxL' + 11) + rm.locals ≤ R.locals) (hc : rm.cells = 0) (hn : rm.slots = 0) (hk : k ≤ R.cells) (hk' : n ≤ R.slots) (pc' : Nat) (hp : pc + 3 = pc')
    (K : z_At p l e R s m args below meth c n0 Q h k n (mkF m pc' Ls (v :: rest))) : z_At p l e R s m args below meth c n0 Q h k n (mkF m pc Ls st) :=
  z_callV0 C E M w1 w2 w5 w6 w3 w4 hy hd hs hst hlen hW hf hl (by rw [hc]; exact hk) (by rw [hn]; exact hk') _ hp (by rintro _ h' ⟨rfl, rfl⟩; rw [hc, hn]; exact K)
theorem z_callVV {a : Addr} {Cn : String} (C : z_Cx Z p s m meth c own bytes ml rt nm) (E : Exa Z h a Cn) (M : z_Met l Z y bytes' maxL' rt' [] rm n0 (Value.ref a :: argsL).toArray h  (z_nov P0)) (w1 : (Cond.methodLink own i y).before a0 Z = true) (w2 : (Cond.declares y).before a0 Z = true) (w5 : (Cond.selects Cn y y).before a0 Z = true) (w6 : (Cond.instanceMethod y).before a0 Z = true) (w3 : (Cond.initialized y.cls).before a0 Z = true) (w4 : (Cond.code y bytes' maxL' rt').before a0 Z = true)
    (hy : y.cls ≠ "java/lang/invoke/MethodHandle" ∧ y.cls ≠ "java/lang/invoke/VarHandle") (hd : decode bytes pc = .ok (.invokevirtual i, 3)) (hs : Ls.size = ml) (hst : st = argsL.reverse ++ .ref a :: rest) (hlen : ∀ sig, parseMethodDescriptor y.desc = some sig → argsL.length = sig.parameters.length) (hW : (rest.map fun v => v.category).sum ≤ W) (hf : rm.frames + 1 ≤ R.frames) (hl : W + (maxL' + 11) + rm.locals ≤ R.locals) (hc : k + rm.cells ≤ R.cells) (hn : n + rm.slots ≤ R.slots) (pc' : Nat) (hp : pc + 3 = pc')
    (K : ∀ h', P0 h' → z_At p l e R s m args below meth c n0 Q h' (k + rm.cells) (n + rm.slots) (mkF m pc' Ls rest)) : z_At p l e R s m args below meth c n0 Q h k n (mkF m pc Ls st) :=
  z_callV0 C E M w1 w2 w5 w6 w3 w4 hy hd hs hst hlen hW hf hl hc hn _ hp (by rintro _ h' ⟨rfl, q⟩; exact K h' q)
theorem z_callF0 {Q' : Option Value → Heap → Prop} {a : Addr} {Cn : String} {z : MethodName} {cnt : Nat} (C : z_Cx Z p s m meth c own bytes ml rt nm) (E : Exa Z h a Cn) (M : z_Met l Z z bytes' maxL' rt' [] rm n0 (Value.ref a :: argsL).toArray h Q') (w1 : (Cond.methodLink own i y).before a0 Z = true) (w2 : (Cond.declares y).before a0 Z = true) (w7 : (Cond.interfaceMethod y.cls y.cls y.name y.desc).before a0 Z = true) (w5 : (Cond.selects Cn y z).before a0 Z = true) (w6 : (Cond.instanceMethod z).before a0 Z = true) (w8 : (Cond.publicMethod z).before a0 Z = true) (w9 : (Cond.unhidden Cn y.name y.desc).before a0 Z = true) (w10 : (Cond.castable Cn y.cls).before a0 Z = true) (w3 : (Cond.initialized z.cls).before a0 Z = true) (w4 : (Cond.code z bytes' maxL' rt').before a0 Z = true)
    (hy : y.cls ≠ "java/lang/invoke/MethodHandle" ∧ y.cls ≠ "java/lang/invoke/VarHandle") (hd : decode bytes pc = .ok (.invokeinterface i cnt, 5)) (hs : Ls.size = ml) (hst : st = argsL.reverse ++ .ref a :: rest) (hlen : ∀ sig, parseMethodDescriptor y.desc = some sig → argsL.length = sig.parameters.length) (hW : (rest.map fun v => v.category).sum ≤ W) (hf : rm.frames + 1 ≤ R.frames) (hl : W + (maxL' + 11) + rm.locals ≤ R.locals) (hc : k + rm.cells ≤ R.cells) (hn : n + rm.slots ≤ R.slots) (pc' : Nat) (hp : pc + 5 = pc')
    (K : ∀ v h', Q' v h' → z_At p l e R s m args below meth c n0 Q h' (k + rm.cells) (n + rm.slots) (mkF m pc' Ls (v.toList ++ rest))) : z_At p l e R s m args below meth c n0 Q h k n (mkF m pc Ls st) := by
  subst hp
  intro T L X N eT
  obtain ⟨cq, kq, qa, qb, qc⟩ := isOf C.2.1 eT E
  obtain ⟨v, _, ⟨T', L', k', n'⟩, -, X', ⟨Lc, ⟨hQ, N'⟩, l', y', z'⟩, stp⟩ := X.interfaceBack C.1 (xi := y) (y := z) C.2.2.1 (mvT C.2.1 w1) (mvT C.2.1 w2) (mvT C.2.1 w7 (by simp [Cond.onTables, Cond.keepsFace, Cond.keeps, Cond.steady, Cond.faceAtom, hy.1, hy.2])) (mvT C.2.1 w5) (mvT C.2.1 w6) (mvT C.2.1 w8) (mvT C.2.1 w9) (mvT C.2.1 w10) hy
    (backOf (Q := fun v h' L => Q' v h' ∧ Fr n0 L) (len := 5) (W := W) (p := p) (e := e) (below := below) (args := args) M C.2.1 w4 w3 hf hl) qa qb qc (g := mkF m pc Ls st) rfl (hs.trans C.2.2.2.2.1.symm) (Steps.refl _) (argsL := argsL) (rest := rest) hlen hst (by show 2 * 0 + _ ≤ _; omega) (hb C.2.2.2.1 hd) (fun _ _ => ⟨rfl, eT, hc, hn⟩)
  dsimp only [Pt.U, Pt.locs, Pt.cells, Pt.slots] at X' l' y' z' stp hQ
  subst l' y' z'
  exact z_via (fun t q => stp.trans q) (K v _ hQ T' _ X' (Fr.app N N') rfl)
theorem z_callF {a : Addr} {Cn : String} {z : MethodName} {cnt : Nat} (C : z_Cx Z p s m meth c own bytes ml rt nm) (E : Exa Z h a Cn) (M : z_Met l Z z bytes' maxL' rt' [] rm n0 (Value.ref a :: argsL).toArray h  (z_val P)) (w1 : (Cond.methodLink own i y).before a0 Z = true) (w2 : (Cond.declares y).before a0 Z = true) (w7 : (Cond.interfaceMethod y.cls y.cls y.name y.desc).before a0 Z = true) (w5 : (Cond.selects Cn y z).before a0 Z = true) (w6 : (Cond.instanceMethod z).before a0 Z = true) (w8 : (Cond.publicMethod z).before a0 Z = true) (w9 : (Cond.unhidden Cn y.name y.desc).before a0 Z = true) (w10 : (Cond.castable Cn y.cls).before a0 Z = true) (w3 : (Cond.initialized z.cls).before a0 Z = true) (w4 : (Cond.code z bytes' maxL' rt').before a0 Z = true)
    (hy : y.cls ≠ "java/lang/invoke/MethodHandle" ∧ y.cls ≠ "java/lang/invoke/VarHandle") (hd : decode bytes pc = .ok (.invokeinterface i cnt, 5)) (hs : Ls.size = ml) (hst : st = argsL.reverse ++ .ref a :: rest) (hlen : ∀ sig, parseMethodDescriptor y.desc = some sig → argsL.length = sig.parameters.length) (hW : (rest.map fun v => v.category).sum ≤ W) (hf : rm.frames + 1 ≤ R.frames) (hl : W + (maxL' + 11) + rm.locals ≤ R.locals) (hc : k + rm.cells ≤ R.cells) (hn : n + rm.slots ≤ R.slots) (pc' : Nat) (hp : pc + 5 = pc')
    (K : ∀ w h', P w h' → z_At p l e R s m args below meth c n0 Q h' (k + rm.cells) (n + rm.slots) (mkF m pc' Ls (w :: rest))) : z_At p l e R s m args below meth c n0 Q h k n (mkF m pc Ls st) :=
  z_callF0 C E M w1 w2 w7 w5 w6 w8 w9 w10 w3 w4 hy hd hs hst hlen hW hf hl hc hn _ hp (by rintro _ h' ⟨w, rfl, q⟩; exact K w h' q)
theorem z_callFp {v : Value} {a : Addr} {Cn : String} {z : MethodName} {cnt : Nat} (C : z_Cx Z p s m meth c own bytes ml rt nm) (E : Exa Z h a Cn) (M : z_Met l Z z bytes' maxL' rt' [] rm n0 (Value.ref a :: argsL).toArray h  (z_pure v h)) (w1 : (Cond.methodLink own i y).before a0 Z = true) (w2 : (Cond.declares y).before a0 Z = true) (w7 : (Cond.interfaceMethod y.cls y.cls y.name y.desc).before a0 Z = true) (w5 : (Cond.selects Cn y z).before a0 Z = true) (w6 : (Cond.instanceMethod z).before a0 Z = true) (w8 : (Cond.publicMethod z).before a0 Z = true) (w9 : (Cond.unhidden Cn y.name y.desc).before a0 Z = true) (w10 : (Cond.castable Cn y.cls).before a0 Z = true) (w3 : (Cond.initialized z.cls).before a0 Z = true) (w4 : (Cond.code z bytes' maxL' rt').before a0 Z = true)
    (hy : y.cls ≠ "java/lang/invoke/MethodHandle" ∧ y.cls ≠ "java/lang/invoke/VarHandle") (hd : decode bytes pc = .ok (.invokeinterface i cnt, 5)) (hs : Ls.size = ml) (hst : st = argsL.reverse ++ .ref a :: rest) (hlen : ∀ sig, parseMethodDescriptor y.desc = some sig → argsL.length = sig.parameters.length) (hW : (rest.map fun v => v.category).sum ≤ W) (hf : rm.frames + 1 ≤ R.frames) (hl : W + (maxL' + 11) + rm.locals ≤ R.locals) (hc : rm.cells = 0) (hn : rm.slots = 0) (hk : k ≤ R.cells) (hk' : n ≤ R.slots) (pc' : Nat) (hp : pc + 5 = pc')
    (K : z_At p l e R s m args below meth c n0 Q h k n (mkF m pc' Ls (v :: rest))) : z_At p l e R s m args below meth c n0 Q h k n (mkF m pc Ls st) :=
  z_callF0 C E M w1 w2 w7 w5 w6 w8 w9 w10 w3 w4 hy hd hs hst hlen hW hf hl (by rw [hc]; exact hk) (by rw [hn]; exact hk') _ hp (by rintro _ h' ⟨rfl, rfl⟩; rw [hc, hn]; exact K)
theorem z_callFV {a : Addr} {Cn : String} {z : MethodName} {cnt : Nat} (C : z_Cx Z p s m meth c own bytes ml rt nm) (E : Exa Z h a Cn) (M : z_Met l Z z bytes' maxL' rt' [] rm n0 (Value.ref a :: argsL).toArray h  (z_nov P0)) (w1 : (Cond.methodLink own i y).before a0 Z = true) (w2 : (Cond.declares y).before a0 Z = true) (w7 : (Cond.interfaceMethod y.cls y.cls y.name y.desc).before a0 Z = true) (w5 : (Cond.selects Cn y z).before a0 Z = true) (w6 : (Cond.instanceMethod z).before a0 Z = true) (w8 : (Cond.publicMethod z).before a0 Z = true) (w9 : (Cond.unhidden Cn y.name y.desc).before a0 Z = true) (w10 : (Cond.castable Cn y.cls).before a0 Z = true) (w3 : (Cond.initialized z.cls).before a0 Z = true) (w4 : (Cond.code z bytes' maxL' rt').before a0 Z = true)
    (hy : y.cls ≠ "java/lang/invoke/MethodHandle" ∧ y.cls ≠ "java/lang/invoke/VarHandle") (hd : decode bytes pc = .ok (.invokeinterface i cnt, 5)) (hs : Ls.size = ml) (hst : st = argsL.reverse ++ .ref a :: rest) (hlen : ∀ sig, parseMethodDescriptor y.desc = some sig → argsL.length = sig.parameters.length) (hW : (rest.map fun v => v.category).sum ≤ W) (hf : rm.frames + 1 ≤ R.frames) (hl : W + (maxL' + 11) + rm.locals ≤ R.locals) (hc : k + rm.cells ≤ R.cells) (hn : n + rm.slots ≤ R.slots) (pc' : Nat) (hp : pc + 5 = pc')
    (K : ∀ h', P0 h' → z_At p l e R s m args below meth c n0 Q h' (k + rm.cells) (n + rm.slots) (mkF m pc' Ls rest)) : z_At p l e R s m args below meth c n0 Q h k n (mkF m pc Ls st) :=
  z_callF0 C E M w1 w2 w7 w5 w6 w8 w9 w10 w3 w4 hy hd hs hst hlen hW hf hl hc hn _ hp (by rintro _ h' ⟨rfl, q⟩; exact K h' q)
theorem z_callP0 {Q' : Option Value → Heap → Prop} {a : Addr} {Cn : String} (C : z_Cx Z p s m meth c own bytes ml rt nm) (E : Exa Z h a Cn) (M : z_Met l Z y bytes' maxL' rt' [] rm n0 (Value.ref a :: argsL).toArray h Q') (w1 : (Cond.methodLink own i y).before a0 Z = true) (w6 : (Cond.instanceMethod y).before a0 Z = true) (w5 : (Cond.selects y.cls y y).before a0 Z = true) (w8 : (Cond.privateMethod y).before a0 Z = true) (w3 : (Cond.initialized y.cls).before a0 Z = true) (w4 : (Cond.code y bytes' maxL' rt').before a0 Z = true)
    (hy : y.cls ≠ "java/lang/invoke/MethodHandle" ∧ y.cls ≠ "java/lang/invoke/VarHandle") (hd : decode bytes pc = .ok (.invokevirtual i, 3)) (hs : Ls.size = ml) (hst : st = argsL.reverse ++ .ref a :: rest) (hlen : ∀ sig, parseMethodDescriptor y.desc = some sig → argsL.length = sig.parameters.length) (hW : (rest.map fun v => v.category).sum ≤ W) (hf : rm.frames + 1 ≤ R.frames) (hl : W + (maxL' + 11) + rm.locals ≤ R.locals) (hc : k + rm.cells ≤ R.cells) (hn : n + rm.slots ≤ R.slots) (pc' : Nat) (hp : pc + 3 = pc')
    (K : ∀ v h', Q' v h' → z_At p l e R s m args below meth c n0 Q h' (k + rm.cells) (n + rm.slots) (mkF m pc' Ls (v.toList ++ rest))) : z_At p l e R s m args below meth c n0 Q h k n (mkF m pc Ls st) := by
  subst hp
  intro T L X N eT
  obtain ⟨cq, q1, q2⟩ := E.cell
  obtain ⟨v, _, ⟨T', L', k', n'⟩, -, X', ⟨Lc, ⟨hQ, N'⟩, l', y', z'⟩, stp⟩ := X.privateBack C.1 (y := y) C.2.2.1 (mvT C.2.1 w1) (mvT C.2.1 w6) (mvT C.2.1 w5) (Cond.privateMethod_at (mvP C.2.1 w8 (args := #[]))) (mvT C.2.1 w4) hy
    (backOf (Q := fun v h' L => Q' v h' ∧ Fr n0 L) (len := 3) (W := W) (p := p) (e := e) (below := below) (args := args) M C.2.1 w4 w3 hf hl) (g := mkF m pc Ls st) rfl (hs.trans C.2.2.2.2.1.symm) (Steps.refl _) (a := a) (by rw [eT]; exact q1) q2 (argsL := argsL) (rest := rest) hlen hst (by show 2 * 0 + _ ≤ _; omega) (hb C.2.2.2.1 hd) (fun _ _ => ⟨rfl, eT, hc, hn⟩)
  dsimp only [Pt.U, Pt.locs, Pt.cells, Pt.slots] at X' l' y' z' stp hQ
  subst l' y' z'
  exact z_via (fun t q => stp.trans q) (K v _ hQ T' _ X' (Fr.app N N') rfl)
theorem z_callP {a : Addr} {Cn : String} (C : z_Cx Z p s m meth c own bytes ml rt nm) (E : Exa Z h a Cn) (M : z_Met l Z y bytes' maxL' rt' [] rm n0 (Value.ref a :: argsL).toArray h  (z_val P)) (w1 : (Cond.methodLink own i y).before a0 Z = true) (w6 : (Cond.instanceMethod y).before a0 Z = true) (w5 : (Cond.selects y.cls y y).before a0 Z = true) (w8 : (Cond.privateMethod y).before a0 Z = true) (w3 : (Cond.initialized y.cls).before a0 Z = true) (w4 : (Cond.code y bytes' maxL' rt').before a0 Z = true)
    (hy : y.cls ≠ "java/lang/invoke/MethodHandle" ∧ y.cls ≠ "java/lang/invoke/VarHandle") (hd : decode bytes pc = .ok (.invokevirtual i, 3)) (hs : Ls.size = ml) (hst : st = argsL.reverse ++ .ref a :: rest) (hlen : ∀ sig, parseMethodDescriptor y.desc = some sig → argsL.length = sig.parameters.length) (hW : (rest.map fun v => v.category).sum ≤ W) (hf : rm.frames + 1 ≤ R.frames) (hl : W + (maxL' + 11) + rm.locals ≤ R.locals) (hc : k + rm.cells ≤ R.cells) (hn : n + rm.slots ≤ R.slots) (pc' : Nat) (hp : pc + 3 = pc')
    (K : ∀ w h', P w h' → z_At p l e R s m args below meth c n0 Q h' (k + rm.cells) (n + rm.slots) (mkF m pc' Ls (w :: rest))) : z_At p l e R s m args below meth c n0 Q h k n (mkF m pc Ls st) :=
  z_callP0 C E M w1 w6 w5 w8 w3 w4 hy hd hs hst hlen hW hf hl hc hn _ hp (by rintro _ h' ⟨w, rfl, q⟩; exact K w h' q)
theorem z_callPp {v : Value} {a : Addr} {Cn : String} (C : z_Cx Z p s m meth c own bytes ml rt nm) (E : Exa Z h a Cn) (M : z_Met l Z y bytes' maxL' rt' [] rm n0 (Value.ref a :: argsL).toArray h  (z_pure v h)) (w1 : (Cond.methodLink own i y).before a0 Z = true) (w6 : (Cond.instanceMethod y).before a0 Z = true) (w5 : (Cond.selects y.cls y y).before a0 Z = true) (w8 : (Cond.privateMethod y).before a0 Z = true) (w3 : (Cond.initialized y.cls).before a0 Z = true) (w4 : (Cond.code y bytes' maxL' rt').before a0 Z = true)
    (hy : y.cls ≠ "java/lang/invoke/MethodHandle" ∧ y.cls ≠ "java/lang/invoke/VarHandle") (hd : decode bytes pc = .ok (.invokevirtual i, 3)) (hs : Ls.size = ml) (hst : st = argsL.reverse ++ .ref a :: rest) (hlen : ∀ sig, parseMethodDescriptor y.desc = some sig → argsL.length = sig.parameters.length) (hW : (rest.map fun v => v.category).sum ≤ W) (hf : rm.frames + 1 ≤ R.frames) (hl : W + (maxL' + 11) + rm.locals ≤ R.locals) (hc : rm.cells = 0) (hn : rm.slots = 0) (hk : k ≤ R.cells) (hk' : n ≤ R.slots) (pc' : Nat) (hp : pc + 3 = pc')
    (K : z_At p l e R s m args below meth c n0 Q h k n (mkF m pc' Ls (v :: rest))) : z_At p l e R s m args below meth c n0 Q h k n (mkF m pc Ls st) :=
  z_callP0 C E M w1 w6 w5 w8 w3 w4 hy hd hs hst hlen hW hf hl (by rw [hc]; exact hk) (by rw [hn]; exact hk') _ hp (by rintro _ h' ⟨rfl, rfl⟩; rw [hc, hn]; exact K)
theorem z_callPV {a : Addr} {Cn : String} (C : z_Cx Z p s m meth c own bytes ml rt nm) (E : Exa Z h a Cn) (M : z_Met l Z y bytes' maxL' rt' [] rm n0 (Value.ref a :: argsL).toArray h  (z_nov P0)) (w1 : (Cond.methodLink own i y).before a0 Z = true) (w6 : (Cond.instanceMethod y).before a0 Z = true) (w5 : (Cond.selects y.cls y y).before a0 Z = true) (w8 : (Cond.privateMethod y).before a0 Z = true) (w3 : (Cond.initialized y.cls).before a0 Z = true) (w4 : (Cond.code y bytes' maxL' rt').before a0 Z = true)
    (hy : y.cls ≠ "java/lang/invoke/MethodHandle" ∧ y.cls ≠ "java/lang/invoke/VarHandle") (hd : decode bytes pc = .ok (.invokevirtual i, 3)) (hs : Ls.size = ml) (hst : st = argsL.reverse ++ .ref a :: rest) (hlen : ∀ sig, parseMethodDescriptor y.desc = some sig → argsL.length = sig.parameters.length) (hW : (rest.map fun v => v.category).sum ≤ W) (hf : rm.frames + 1 ≤ R.frames) (hl : W + (maxL' + 11) + rm.locals ≤ R.locals) (hc : k + rm.cells ≤ R.cells) (hn : n + rm.slots ≤ R.slots) (pc' : Nat) (hp : pc + 3 = pc')
    (K : ∀ h', P0 h' → z_At p l e R s m args below meth c n0 Q h' (k + rm.cells) (n + rm.slots) (mkF m pc' Ls rest)) : z_At p l e R s m args below meth c n0 Q h k n (mkF m pc Ls st) :=
  z_callP0 C E M w1 w6 w5 w8 w3 w4 hy hd hs hst hlen hW hf hl hc hn _ hp (by rintro _ h' ⟨rfl, q⟩; exact K h' q)
theorem z_callI0 {Q' : Option Value → Heap → Prop} {a : Addr} (C : z_Cx Z p s m meth c own bytes ml rt nm) (hi : y.name = "<init>") (M : z_Met l Z y bytes' maxL' none [] rm n0 (Value.ref a :: argsL).toArray h Q') (w1 : (Cond.methodLink own i y).before a0 Z = true) (w6 : (Cond.instanceMethod y).before a0 Z = true) (w3 : (Cond.initialized y.cls).before a0 Z = true) (w4 : (Cond.code y bytes' maxL' none).before a0 Z = true)
    (hy : y.cls ≠ "java/lang/invoke/MethodHandle" ∧ y.cls ≠ "java/lang/invoke/VarHandle") (hd : decode bytes pc = .ok (.invokespecial i, 3)) (hs : Ls.size = ml) (hst : st = argsL.reverse ++ .ref a :: rest) (hlen : ∀ sig, parseMethodDescriptor y.desc = some sig → argsL.length = sig.parameters.length) (hW : (rest.map fun v => v.category).sum ≤ W) (hf : rm.frames + 1 ≤ R.frames) (hl : W + (maxL' + 11) + rm.locals ≤ R.locals) (hc : k + rm.cells ≤ R.cells) (hn : n + rm.slots ≤ R.slots) (pc' : Nat) (hp : pc + 3 = pc')
    (K : ∀ v h', Q' v h' → z_At p l e R s m args below meth c n0 Q h' (k + rm.cells) (n + rm.slots) (mkF m pc' Ls (v.toList ++ rest))) : z_At p l e R s m args below meth c n0 Q h k n (mkF m pc Ls st) := by
  subst hp
  intro T L X N eT
  obtain ⟨v, _, ⟨T', L', k', n'⟩, -, X', ⟨Lc, ⟨hQ, N'⟩, l', y', z'⟩, stp⟩ := X.specialBack C.1 (y := y) hi C.2.2.1 (mvT C.2.1 w1) (mvT C.2.1 w6) (mvT C.2.1 w4) hy
    (backOf (Q := fun v h' L => Q' v h' ∧ Fr n0 L) (len := 3) (W := W) (p := p) (e := e) (below := below) (args := args) M C.2.1 w4 w3 hf hl) (g := mkF m pc Ls st) rfl (hs.trans C.2.2.2.2.1.symm) (Steps.refl _) (a := a) (argsL := argsL) (rest := rest) hlen hst (by show 2 * 0 + _ ≤ _; omega) (hb C.2.2.2.1 hd) (fun _ _ => ⟨rfl, eT, hc, hn⟩)
  dsimp only [Pt.U, Pt.locs, Pt.cells, Pt.slots] at X' l' y' z' stp hQ
  subst l' y' z'
  exact z_via (fun t q => stp.trans q) (K v _ hQ T' _ X' (Fr.app N N') rfl)
theorem z_callI {a : Addr} (C : z_Cx Z p s m meth c own bytes ml rt nm) (hi : y.name = "<init>") (M : z_Met l Z y bytes' maxL' none [] rm n0 (Value.ref a :: argsL).toArray h  (z_nov P0)) (w1 : (Cond.methodLink own i y).before a0 Z = true) (w6 : (Cond.instanceMethod y).before a0 Z = true) (w3 : (Cond.initialized y.cls).before a0 Z = true) (w4 : (Cond.code y bytes' maxL' none).before a0 Z = true)
    (hy : y.cls ≠ "java/lang/invoke/MethodHandle" ∧ y.cls ≠ "java/lang/invoke/VarHandle") (hd : decode bytes pc = .ok (.invokespecial i, 3)) (hs : Ls.size = ml) (hst : st = argsL.reverse ++ .ref a :: rest) (hlen : ∀ sig, parseMethodDescriptor y.desc = some sig → argsL.length = sig.parameters.length) (hW : (rest.map fun v => v.category).sum ≤ W) (hf : rm.frames + 1 ≤ R.frames) (hl : W + (maxL' + 11) + rm.locals ≤ R.locals) (hc : k + rm.cells ≤ R.cells) (hn : n + rm.slots ≤ R.slots) (pc' : Nat) (hp : pc + 3 = pc')
    (K : ∀ h', P0 h' → z_At p l e R s m args below meth c n0 Q h' (k + rm.cells) (n + rm.slots) (mkF m pc' Ls rest)) : z_At p l e R s m args below meth c n0 Q h k n (mkF m pc Ls st) :=
  z_callI0 C hi M w1 w6 w3 w4 hy hd hs hst hlen hW hf hl hc hn _ hp (by rintro _ h' ⟨rfl, q⟩; exact K h' q)
theorem z_init0 {a : Addr} (C : z_Cx Z p s m meth c own bytes ml rt nm) (w1 : (Cond.methodLink own i Lib.objectInit).before a0 Z = true) (w2 : (Cond.instanceMethod Lib.objectInit).before a0 Z = true) (w4 : (Cond.code Lib.objectInit ⟨#[0xb1]⟩ 1 none).before a0 Z = true)
    (hd : decode bytes pc = .ok (.invokespecial i, 3)) (hs : Ls.size = ml) (hW : (rest.map fun v => v.category).sum ≤ W) (hf : 1 ≤ R.frames) (hl : W + 12 ≤ R.locals) (pc' : Nat) (hp : pc + 3 = pc')
    (K : z_At p l e R s m args below meth c n0 Q h k n (mkF m pc' Ls rest)) : z_At p l e R s m args below meth c n0 Q h k n (mkF m pc Ls (.ref a :: rest)) := by
  subst hp
  intro T L X N eT
  obtain ⟨T', X', e', stp⟩ := initO X C.1 C.2.1 C.2.2.1 w1 w2 w4 eT (g := mkF m pc Ls (.ref a :: rest)) rfl (hs.trans C.2.2.2.2.1.symm) rfl (hb C.2.2.2.1 hd) hf (W := W) (by show 2 * 0 + _ ≤ _; omega) hl
  exact z_via stp (K T' L X' N e')
end Calls

/-! ### the enum constants of a case -/
def z_En (Z : State) (h : Heap) (C n : String) (d : String) (i : Int32) (a : Addr) : Prop := Sta Z h C n d (.ref a) ∧ Exa Z h a C ∧ Fld Z h a "java/lang/Enum" "ordinal" "I" (.int i)
theorem z_En.ext {h' : Heap} {C f d : String} {i : Int32} {a : Addr} (E : Ext h h') (F : z_En Z h C f d i a) : z_En Z h' C f d i a := ⟨F.1.ext E, F.2.1.ext E, F.2.2.ext E⟩
theorem z_En.ne {C f d g d' : String} {i j : Int32} {a b : Addr} (F : z_En Z h C f d i a) (G : z_En Z h C g d' j b) (q : i ≠ j) : a ≠ b := F.2.2.ne G.2.2 fun z => q (Value.int.inj z)
theorem z_fldv {t : Term} {FC ff : String} {i : Int32} {a : Addr} (ea : t.eval args Z none [] Z = some (.ref a)) (hO : (Cond.eq (.field t FC ff "I") (.int i)).value args Z none Z [] = some true) : Fld Z Z.heap a FC ff "I" (.int i) := by
  refine Fld.start ?_
  obtain ⟨x, y, e1, e2, k1, k2⟩ := cmp_v (Or.inl hO)
  have e3 : y = .int i := by simpa [Term.eval] using e2.symm
  subst e3
  obtain ⟨z, rfl⟩ : ∃ z, x = .int z := k2
  have e4 : z = i := by simpa [Cond.value, e1, e2] using hO
  subst e4
  rw [← fld_at ea]; exact e1
theorem z_sfld {C f d FC ff : String} {i : Int32} {a : Addr} (S : Sta Z Z.heap C f d (.ref a)) (hO : (Cond.eq (.field (.static C f d) FC ff "I") (.int i)).value args Z none Z [] = some true) : Fld Z Z.heap a FC ff "I" (.int i) :=
  z_fldv (S.fin (Vm.Alike.refl _)) hO
theorem z_enum {C f d : String} {i : Int32} (hX : (Cond.exactly (.static C f d) C).value args Z none Z [] = some true) (hO : (Cond.eq (.field (.static C f d) "java/lang/Enum" "ordinal" "I") (.int i)).value args Z none Z [] = some true) (w1 : (Cond.initialized C).before args Z = true) (w2 : (Cond.laysStatic C f d).before args Z = true) : ∃ a, z_En Z Z.heap C f d i a := by
  obtain ⟨a, ea⟩ := exa_v hX
  exact ⟨a, Sta.start ea (Or.inr ⟨w1, w2⟩), Exa.start ea hX, z_fldv ea hO⟩
end OwnKit
/-! The heap part: objects and arrays with known contents. -/
section OwnHeap
variable {p : Program} {l : Launch} {e : Env} {R : Room} {s : State} {m : MethodId} {args : Array Value} {below : List Frame} {meth : Method} {c : Code} {Z : State} {n0 : Nat} {own : String} {bytes : ByteArray} {ml : Nat} {rt : Option FieldType} {nm : String} {Q : Option Value → Heap → Prop} {h h' : Heap} {k n : Nat} {pc : Nat} {Ls Ls' : Array Slot} {st rest : List Value} {a0 : Array Value} {f f' : JFrame}
/-- an object at a, exactly of class C; the fields that lay names hold vs -/
def z_Ob (Z : State) (h : Heap) (a : Addr) (C : String) (lay : List (String × String × String)) (vs : List Value) : Prop :=
  Exa Z h a C ∧ lay.length = vs.length ∧ ∀ (i : Nat) (x : String × String × String) (v : Value), lay[i]? = some x → vs[i]? = some v → Fld Z h a x.1 x.2.1 x.2.2 v
def z_LayOk (Z : State) (a0 : Array Value) (C : String) (lay : List (String × String × String)) : Prop :=
  (lay.map fun x => x.2.1).Nodup ∧ ∀ x ∈ lay, Laid Z a0 C x.1 x.2.1 x.2.2 ∧ ∃ t, parseFieldDescriptor x.2.2 = some t
theorem z_Ob.ext {a : Addr} {C : String} {lay : List (String × String × String)} {vs : List Value} (F : z_Ob Z h a C lay vs) (E : Ext h h') : z_Ob Z h' a C lay vs := ⟨F.1.ext E, F.2.1, fun i x v h1 h2 => (F.2.2 i x v h1 h2).ext E⟩
theorem z_Ob.other {a b : Addr} {C : String} {lay : List (String × String × String)} {vs : List Value} {sl : Nat} {v : Value} (F : z_Ob Z h b C lay vs) (W : Wr h h' a sl v) (q : b ≠ a) : z_Ob Z h' b C lay vs := ⟨F.1.wr W, F.2.1, fun i x v h1 h2 => (F.2.2 i x v h1 h2).other W (Or.inl q)⟩
theorem z_Ob.keep {a : Addr} {C : String} {lay : List (String × String × String)} {vs : List Value} {ws : List Addr} (F : z_Ob Z h a C lay vs) (K : Keep h h' ws) (q : a ∉ ws) : z_Ob Z h' a C lay vs := ⟨F.1.keep K, F.2.1, fun i x v h1 h2 => (F.2.2 i x v h1 h2).keep K q⟩
theorem z_Ob.lt {a : Nat} {C : String} {lay : List (String × String × String)} {vs : List Value} (F : z_Ob Z h a C lay vs) : a < h.size := F.1.lt
theorem z_Ob.get {a : Addr} {C O f d : String} {lay : List (String × String × String)} {vs : List Value} {v : Value} (F : z_Ob Z h a C lay vs) (i : Nat) (h1 : lay[i]? = some (O, f, d)) (h2 : vs[i]? = some v) : Fld Z h a O f d v := F.2.2 i _ v h1 h2
theorem z_Ob.put {a : Addr} {C O f d : String} {lay : List (String × String × String)} {vs vs' : List Value} {v : Value} (F : z_Ob Z h a C lay vs) (ok : z_LayOk Z a0 C lay) (i : Nat) (h1 : lay[i]? = some (O, f, d)) (W : Wr h h' a (RoadKit.slotOf Z O f d) v) (e : vs.set i v = vs') : z_Ob Z h' a C lay vs' := by
  subst e
  refine ⟨F.1.wr W, by simpa using F.2.1, fun j x w h3 h4 => ?_⟩
  by_cases q : j = i
  · subst q
    cases h1.symm.trans h3
    have hi : j < vs.length := by rw [← F.2.1]; exact (List.getElem?_eq_some_iff.mp h1).1
    obtain rfl : v = w := by simpa [hi] using h4
    exact (F.2.2 j (O, f, d) vs[j] h1 (List.getElem?_eq_getElem hi)).same W
  · rw [List.getElem?_set_ne (Ne.symm q)] at h4
    obtain ⟨lx, tx, px⟩ := ok.2 x (List.mem_of_getElem? h3)
    obtain ⟨lf, tf, pf⟩ := ok.2 _ (List.mem_of_getElem? h1)
    refine (F.2.2 j x w h3 h4).other W (Or.inr (slot_ne lx lf (fun z => q ?_) px pf))
    have h5 : (lay.map fun x => x.2.1)[j]? = some x.2.1 := by simp [h3]
    have h6 : (lay.map fun x => x.2.1)[i]? = some x.2.1 := by simp [h1, z]
    exact (List.getElem?_inj (List.getElem?_eq_some_iff.mp h5).1 ok.1).mp (h5.trans h6.symm)
def z_dflt (x : String × String × String) : Value := match parseFieldDescriptor x.2.2 with | some t => defaultValue t | none => .null
theorem z_newO (C : z_Cx Z p s m meth c own bytes ml rt nm) {Cn : String} {lay : List (String × String × String)} {vs : List Value} {i sl : Nat} (w : (Cond.classLink own i Cn).before a0 Z = true) (wi : (Cond.instantiable Cn sl).before a0 Z = true) (wz : (Cond.initialized Cn).before a0 Z = true) (ok : z_LayOk Z a0 Cn lay) (hv : lay.map z_dflt = vs) (hd : decode bytes pc = .ok (.new i, 3)) (hc : k + 1 ≤ R.cells) (hl : n + sl ≤ R.slots) (pc' : Nat) (hp : pc + 3 = pc')
    (K : ∀ h' b, b = h.size → Ext h h' → z_Ob Z h' b Cn lay vs → z_At p l e R s m args below meth c n0 Q h' (k + 1) (n + sl) (mkF m pc' Ls (.ref b :: st))) :
    z_At p l e R s m args below meth c n0 Q h k n (mkF m pc Ls st) := by
  subst hp hv
  intro T L X N eT
  obtain ⟨T', h', X', e', E, A, D, -, stp⟩ := newO X C.1 C.2.1 C.2.2.1 w wi wz eT (g := mkF m pc Ls st) rfl (hb C.2.2.2.1 hd) hc hl
  refine z_via stp (K h' _ rfl E ⟨A, by simp, fun j x v h1 h2 => ?_⟩ T' L X' N e')
  obtain ⟨lx, tx, px⟩ := ok.2 x (List.mem_of_getElem? h1)
  have : v = defaultValue tx := by
    have : z_dflt x = v := by simpa [h1] using h2
    rw [← this, z_dflt, px]
  subst this
  exact D lx px
theorem z_getO (C : z_Cx Z p s m meth c own bytes ml rt nm) {R0 O f d Cn : String} {lay : List (String × String × String)} {vs : List Value} {i : Nat} {a : Addr} {v : Value} (w : (Cond.fieldLink own i R0 f d).before a0 Z = true) (via : Via Z R0 O f d) (F : z_Ob Z h a Cn lay vs) (j : Nat) (h1 : lay[j]? = some (O, f, d)) (h2 : vs[j]? = some v) (hd : decode bytes pc = .ok (.getfield i, 3)) (pc' : Nat) (hp : pc + 3 = pc')
    (K : z_At p l e R s m args below meth c n0 Q h k n (mkF m pc' Ls (v :: st))) : z_At p l e R s m args below meth c n0 Q h k n (mkF m pc Ls (.ref a :: st)) :=
  z_getfield C w via (F.get j h1 h2) hd _ hp K
theorem z_getN (C : z_Cx Z p s m meth c own bytes ml rt nm) {R0 O f d Cn host : String} {lay : List (String × String × String)} {vs : List Value} {i : Nat} {a : Addr} {v : Value} (w : (Cond.fieldLinkNest own i R0 f d host).before a0 Z = true) (via : Via Z R0 O f d) (F : z_Ob Z h a Cn lay vs) (j : Nat) (h1 : lay[j]? = some (O, f, d)) (h2 : vs[j]? = some v) (hd : decode bytes pc = .ok (.getfield i, 3)) (pc' : Nat) (hp : pc + 3 = pc')
    (K : z_At p l e R s m args below meth c n0 Q h k n (mkF m pc' Ls (v :: st))) : z_At p l e R s m args below meth c n0 Q h k n (mkF m pc Ls (.ref a :: st)) := by
  subst hp
  intro T L X N eT
  obtain ⟨T', X', e', stp⟩ := getF X C.1 C.2.1 C.2.2.1 (host := host) (Or.inr w) via eT (F.get j h1 h2) (g := mkF m pc Ls (.ref a :: st)) rfl rfl (hb C.2.2.2.1 hd)
  exact z_via stp (K T' L X' N e')
theorem z_putO (C : z_Cx Z p s m meth c own bytes ml rt nm) {R0 O f d Cn : String} {lay : List (String × String × String)} {vs vs' : List Value} {i kk : Nat} {ty : FieldType} {a : Addr} {v : Value} (w : (Cond.fieldLink own i R0 f d).before a0 Z = true) (via : Via Z R0 O f d) (F : z_Ob Z h a Cn lay vs) (ok : z_LayOk Z a0 Cn lay) (j : Nat) (h1 : lay[j]? = some (O, f, d)) (h2 : vs.set j v = vs')
    (Ly : (Cond.lays Cn O f d).before a0 Z = true ∨ ((Cond.laysFinal Cn O f d).before a0 Z = true ∧ own = O ∧ nm = "<init>")) (wi : (Cond.instantiable Cn kk).before a0 Z = true) (hty : parseFieldDescriptor d = some ty) (hn : narrow ty v = v) (hf : fits ty v = true) (ha : n0 ≤ a) (hd : decode bytes pc = .ok (.putfield i, 3)) (pc' : Nat) (hp : pc + 3 = pc')
    (K : ∀ h', Wr h h' a (RoadKit.slotOf Z O f d) v → z_Ob Z h' a Cn lay vs' → z_At p l e R s m args below meth c n0 Q h' k n (mkF m pc' Ls st)) : z_At p l e R s m args below meth c n0 Q h k n (mkF m pc Ls (v :: .ref a :: st)) := by
  subst hp
  intro T L X N eT
  have hj : j < vs.length := by rw [← F.2.1]; exact (List.getElem?_eq_some_iff.mp h1).1
  obtain ⟨T', h', X', e', W, stp⟩ := putF X C.1 C.2.1 C.2.2.1 (host := "") (Or.inl w) via eT (F.get j h1 (List.getElem?_eq_getElem hj)) F.1 (Ly.imp id fun q => ⟨q.1, q.2.1, C.2.2.2.2.2.2.2.trans q.2.2⟩) wi hty hn hf (g := mkF m pc Ls (v :: .ref a :: st)) rfl rfl (hb C.2.2.2.1 hd)
  exact z_via stp (K h' W (F.put ok j h1 W h2) T' _ X' (Fr.snoc X' N ha) e')
/-- what may lie in an array of the class cA: the objects of K -/
def z_Ov (Z : State) (cA : ClassId) (K : String) : Prop := ∃ (k : Class) (comp : ClassId) (t : FieldType), Z.vm.classes[cA]? = some k ∧ k.kind = .array comp t ∧ Z.vm.findClass K = some comp
/-- an array at a, its elements the list vs; its class ad; K: the class of its elements ("": none is stored) -/
def z_Ar (Z : State) (h : Heap) (a : Addr) (ty : FieldType) (ad K : String) (vs : List Value) : Prop := ∃ cl : Cell, Arr Z h a cl ty ∧ cl.slots.toList = vs ∧ vs.length < 2 ^ 31 ∧ Exa Z h a ad ∧ (K = "" ∨ z_Ov Z cl.cls K)
section Arrays
variable {a b : Addr} {ty : FieldType} {ad Kc : String} {vs vs' : List Value} {j : Int32} {v : Value}
theorem z_Ar.ext (A : z_Ar Z h a ty ad Kc vs) (E : Ext h h') : z_Ar Z h' a ty ad Kc vs := by obtain ⟨cl, q, r1, r2, r3, r4⟩ := A; exact ⟨cl, q.ext E, r1, r2, r3.ext E, r4⟩
theorem z_Ar.other {sl : Nat} (A : z_Ar Z h b ty ad Kc vs) (W : Wr h h' a sl v) (q : b ≠ a) : z_Ar Z h' b ty ad Kc vs := by obtain ⟨cl, g, r1, r2, r3, r4⟩ := A; exact ⟨cl, g.other W q, r1, r2, r3.wr W, r4⟩
theorem z_Ar.keep {ws : List Addr} (A : z_Ar Z h a ty ad Kc vs) (K : Keep h h' ws) (q : a ∉ ws) : z_Ar Z h' a ty ad Kc vs := by obtain ⟨cl, g, r1, r2, r3, r4⟩ := A; exact ⟨cl, ⟨K.2.1 a cl g.1 q, g.2⟩, r1, r2, r3.keep K, r4⟩
theorem z_Ar.lt {a : Nat} (A : z_Ar Z h a ty ad Kc vs) : a < h.size := by obtain ⟨cl, g, -⟩ := A; exact g.lt
theorem z_Ar.exa (A : z_Ar Z h a ty ad Kc vs) : Exa Z h a ad := by obtain ⟨cl, g, r1, r2, r3, r4⟩ := A; exact r3
theorem z_Ar.same {i : Nat} (A : z_Ar Z h a ty ad Kc vs) (W : Wr h h' a i v) (e : vs.set i v = vs') : z_Ar Z h' a ty ad Kc vs' := by
  subst e
  obtain ⟨cl, g, r1, r2, r3, r4⟩ := A
  refine ⟨_, g.same W, ?_, by simpa using r2, r3.wr W, r4⟩
  subst r1
  simp [Cell.setSlot]
theorem z_idx {cl : Cell} (hs : cl.slots.toList = vs) (hj : ¬ j < 0) (hv : vs[j.toNatClampNeg]? = some v) : ¬ (j < 0 ∨ cl.slots.size ≤ j.toNatClampNeg) ∧ cl.slots[j.toNatClampNeg]? = some v := by
  subst hs
  have q : cl.slots[j.toNatClampNeg]? = some v := by simpa using hv
  have := (Array.getElem?_eq_some_iff.mp q).1
  exact ⟨fun z => z.elim hj (fun z => by omega), q⟩
theorem z_lt {cl : Cell} (hs : cl.slots.toList = vs) (hj : ¬ j < 0) (hv : j.toNatClampNeg < vs.length) : ¬ (j < 0 ∨ cl.slots.size ≤ j.toNatClampNeg) := by
  subst hs
  have : j.toNatClampNeg < cl.slots.size := by simpa using hv
  exact fun z => z.elim hj (fun z => by omega)
theorem z_Ar.sto {y : Addr} (A : z_Ar Z h a ty ad Kc vs) (hK : Kc ≠ "") (I : Ins Z h y Kc true) : Sto Z h a (.ref y) := by
  obtain ⟨cl, g, r1, r2, r3, r4⟩ := A
  obtain ⟨k, comp, t, o1, o2, o3⟩ := r4.resolve_left hK
  obtain ⟨cv, cT, i1, i2, i3⟩ := I
  cases o3.symm.trans i2
  simp only [Bool.and_eq_true, Bool.not_eq_true'] at i3
  obtain ⟨kc, q⟩ := Vm.classAt_of_findClass o3
  obtain ⟨kv, q2⟩ := Vm.classAt_of_assignable i3.2 ⟨kc, q⟩
  exact Or.inr ⟨cl, cv, k, kv, kc, _, _, y, g.1, o1, o2, q, rfl, i1, i3.1, q2, i3.2⟩
theorem z_arraylength (C : z_Cx Z p s m meth c own bytes ml rt nm) {z : Int32} (A : z_Ar Z h a ty ad Kc vs) (hz : vs.length.toInt32 = z) (hd : decode bytes pc = .ok (.arraylength, 1)) (pc' : Nat) (hp : pc + 1 = pc')
    (K : z_At p l e R s m args below meth c n0 Q h k n (mkF m pc' Ls (.int z :: st))) : z_At p l e R s m args below meth c n0 Q h k n (mkF m pc Ls (.ref a :: st)) := by
  subst hp hz
  obtain ⟨cl, A, rfl, -⟩ := A
  intro T L X N eT
  exact z_via (fun t hr => X.arraylength C.1 (by rw [eT]; exact A.1) (State.isArrayOf_alike C.2.1.alike A.2.1) (g := mkF m pc Ls (.ref a :: st)) rfl rfl (hb C.2.2.2.1 hd) t (by simpa using hr)) (K T L X N eT)
theorem z_iaload (C : z_Cx Z p s m meth c own bytes ml rt nm) (A : z_Ar Z h a .int ad Kc vs) (hj : ¬ j < 0) (hv : vs[j.toNatClampNeg]? = some v) (hd : decode bytes pc = .ok (.iaload, 1)) (pc' : Nat) (hp : pc + 1 = pc')
    (K : z_At p l e R s m args below meth c n0 Q h k n (mkF m pc' Ls (v :: st))) : z_At p l e R s m args below meth c n0 Q h k n (mkF m pc Ls (.int j :: .ref a :: st)) := by
  subst hp
  obtain ⟨cl, A, r, -⟩ := A
  obtain ⟨q1, q2⟩ := z_idx r hj hv
  intro T L X N eT
  exact z_via (fun t hr => X.iaload C.1 (j := j) (v := v) (by rw [eT]; exact A.1) (State.isArrayOf_alike C.2.1.alike A.2.1) A.2.2 q1 q2 (g := mkF m pc Ls (.int j :: .ref a :: st)) rfl rfl (hb C.2.2.2.1 hd) t hr) (K T L X N eT)
theorem z_baload (C : z_Cx Z p s m meth c own bytes ml rt nm) (A : z_Ar Z h a .byte ad Kc vs) (hj : ¬ j < 0) (hv : vs[j.toNatClampNeg]? = some v) (hd : decode bytes pc = .ok (.baload, 1)) (pc' : Nat) (hp : pc + 1 = pc')
    (K : z_At p l e R s m args below meth c n0 Q h k n (mkF m pc' Ls (v :: st))) : z_At p l e R s m args below meth c n0 Q h k n (mkF m pc Ls (.int j :: .ref a :: st)) := by
  subst hp
  obtain ⟨cl, A, r, -⟩ := A
  obtain ⟨q1, q2⟩ := z_idx r hj hv
  intro T L X N eT
  exact z_via (fun t hr => X.baloadBytes C.1 (j := j) (v := v) (by rw [eT]; exact A.1) (State.isArrayOf_alike C.2.1.alike A.2.1) A.2.2 q1 q2 (g := mkF m pc Ls (.int j :: .ref a :: st)) rfl rfl (hb C.2.2.2.1 hd) t hr) (K T L X N eT)
theorem z_caload (C : z_Cx Z p s m meth c own bytes ml rt nm) (A : z_Ar Z h a .char ad Kc vs) (hj : ¬ j < 0) (hv : vs[j.toNatClampNeg]? = some v) (hd : decode bytes pc = .ok (.caload, 1)) (pc' : Nat) (hp : pc + 1 = pc')
    (K : z_At p l e R s m args below meth c n0 Q h k n (mkF m pc' Ls (v :: st))) : z_At p l e R s m args below meth c n0 Q h k n (mkF m pc Ls (.int j :: .ref a :: st)) := by
  subst hp
  obtain ⟨cl, A, r, -⟩ := A
  obtain ⟨q1, q2⟩ := z_idx r hj hv
  intro T L X N eT
  exact z_via (fun t hr => X.caload C.1 (j := j) (v := v) (by rw [eT]; exact A.1) (State.isArrayOf_alike C.2.1.alike A.2.1) A.2.2 q1 q2 (g := mkF m pc Ls (.int j :: .ref a :: st)) rfl rfl (hb C.2.2.2.1 hd) t hr) (K T L X N eT)
theorem z_aaload (C : z_Cx Z p s m meth c own bytes ml rt nm) (A : z_Ar Z h a ty ad Kc vs) (hty : ty.isReference = true) (hj : ¬ j < 0) (hv : vs[j.toNatClampNeg]? = some v) (hd : decode bytes pc = .ok (.aaload, 1)) (pc' : Nat) (hp : pc + 1 = pc')
    (K : z_At p l e R s m args below meth c n0 Q h k n (mkF m pc' Ls (v :: st))) : z_At p l e R s m args below meth c n0 Q h k n (mkF m pc Ls (.int j :: .ref a :: st)) := by
  subst hp
  obtain ⟨cl, A, r, -⟩ := A
  obtain ⟨q1, q2⟩ := z_idx r hj hv
  intro T L X N eT
  exact z_via (fun t hr => X.aaload C.1 (j := j) (v := v) (by rw [eT]; exact A.1) (State.isArrayOf_alike C.2.1.alike A.2.1) hty A.2.2 q1 q2 (g := mkF m pc Ls (.int j :: .ref a :: st)) rfl rfl (hb C.2.2.2.1 hd) t hr) (K T L X N eT)
theorem z_iastore (C : z_Cx Z p s m meth c own bytes ml rt nm) {x z : Int32} (A : z_Ar Z h a .int ad Kc vs) (hj : ¬ j < 0) (hv : j.toNatClampNeg < vs.length) (hz : x = z) (hs : vs.set j.toNatClampNeg (.int z) = vs') (ha : n0 ≤ a) (hd : decode bytes pc = .ok (.iastore, 1)) (pc' : Nat) (hp : pc + 1 = pc')
    (K : ∀ h', Wr h h' a j.toNatClampNeg (.int z) → z_Ar Z h' a .int ad Kc vs' → z_At p l e R s m args below meth c n0 Q h' k n (mkF m pc' Ls st)) : z_At p l e R s m args below meth c n0 Q h k n (mkF m pc Ls (.int x :: .int j :: .ref a :: st)) := by
  subst hp hz
  have A0 := A
  obtain ⟨cl, A, r, -⟩ := A
  intro T L X N eT
  obtain ⟨T', h', X', e', W, stp⟩ := stI X C.1 C.2.1 eT A (z_lt r hj hv) (g := mkF m pc Ls (.int x :: .int j :: .ref a :: st)) rfl rfl (hb C.2.2.2.1 hd)
  exact z_via stp (K h' W (A0.same W hs) T' _ X' (Fr.snoc X' N ha) e')
theorem z_bastore (C : z_Cx Z p s m meth c own bytes ml rt nm) {x z : Int32} (A : z_Ar Z h a .byte ad Kc vs) (hj : ¬ j < 0) (hv : j.toNatClampNeg < vs.length) (hz : (nar .byte x) = z) (hs : vs.set j.toNatClampNeg (.int z) = vs') (ha : n0 ≤ a) (hd : decode bytes pc = .ok (.bastore, 1)) (pc' : Nat) (hp : pc + 1 = pc')
    (K : ∀ h', Wr h h' a j.toNatClampNeg (.int z) → z_Ar Z h' a .byte ad Kc vs' → z_At p l e R s m args below meth c n0 Q h' k n (mkF m pc' Ls st)) : z_At p l e R s m args below meth c n0 Q h k n (mkF m pc Ls (.int x :: .int j :: .ref a :: st)) := by
  subst hp hz
  have A0 := A
  obtain ⟨cl, A, r, -⟩ := A
  intro T L X N eT
  obtain ⟨T', h', X', e', W, stp⟩ := stB X C.1 C.2.1 eT A (z_lt r hj hv) (g := mkF m pc Ls (.int x :: .int j :: .ref a :: st)) rfl rfl (hb C.2.2.2.1 hd)
  exact z_via stp (K h' W (A0.same W hs) T' _ X' (Fr.snoc X' N ha) e')
theorem z_castore (C : z_Cx Z p s m meth c own bytes ml rt nm) {x z : Int32} (A : z_Ar Z h a .char ad Kc vs) (hj : ¬ j < 0) (hv : j.toNatClampNeg < vs.length) (hz : (nar .char x) = z) (hs : vs.set j.toNatClampNeg (.int z) = vs') (ha : n0 ≤ a) (hd : decode bytes pc = .ok (.castore, 1)) (pc' : Nat) (hp : pc + 1 = pc')
    (K : ∀ h', Wr h h' a j.toNatClampNeg (.int z) → z_Ar Z h' a .char ad Kc vs' → z_At p l e R s m args below meth c n0 Q h' k n (mkF m pc' Ls st)) : z_At p l e R s m args below meth c n0 Q h k n (mkF m pc Ls (.int x :: .int j :: .ref a :: st)) := by
  subst hp hz
  have A0 := A
  obtain ⟨cl, A, r, -⟩ := A
  intro T L X N eT
  obtain ⟨T', h', X', e', W, stp⟩ := stC X C.1 C.2.1 eT A (z_lt r hj hv) (g := mkF m pc Ls (.int x :: .int j :: .ref a :: st)) rfl rfl (hb C.2.2.2.1 hd)
  exact z_via stp (K h' W (A0.same W hs) T' _ X' (Fr.snoc X' N ha) e')
theorem z_bastoreZ (C : z_Cx Z p s m meth c own bytes ml rt nm) {x z : Int32} (A : z_Ar Z h a .boolean ad Kc vs) (hj : ¬ j < 0) (hv : j.toNatClampNeg < vs.length) (hz : (nar .boolean x) = z) (hs : vs.set j.toNatClampNeg (.int z) = vs') (ha : n0 ≤ a) (hd : decode bytes pc = .ok (.bastore, 1)) (pc' : Nat) (hp : pc + 1 = pc')
    (K : ∀ h', Wr h h' a j.toNatClampNeg (.int z) → z_Ar Z h' a .boolean ad Kc vs' → z_At p l e R s m args below meth c n0 Q h' k n (mkF m pc' Ls st)) : z_At p l e R s m args below meth c n0 Q h k n (mkF m pc Ls (.int x :: .int j :: .ref a :: st)) := by
  subst hp hz
  have A0 := A
  obtain ⟨cl, A, r, -⟩ := A
  intro T L X N eT
  obtain ⟨T', h', X', e', W, stp⟩ := stZ X C.1 C.2.1 eT A (z_lt r hj hv) (g := mkF m pc Ls (.int x :: .int j :: .ref a :: st)) rfl rfl (hb C.2.2.2.1 hd)
  exact z_via stp (K h' W (A0.same W hs) T' _ X' (Fr.snoc X' N ha) e')
theorem z_aastore (C : z_Cx Z p s m meth c own bytes ml rt nm) (A : z_Ar Z h a ty ad Kc vs) (hty : ty.isReference = true) (S : Sto Z h a v) (hj : ¬ j < 0) (hv : j.toNatClampNeg < vs.length) (hs : vs.set j.toNatClampNeg v = vs') (ha : n0 ≤ a) (hd : decode bytes pc = .ok (.aastore, 1)) (pc' : Nat) (hp : pc + 1 = pc')
    (K : ∀ h', Wr h h' a j.toNatClampNeg v → z_Ar Z h' a ty ad Kc vs' → z_At p l e R s m args below meth c n0 Q h' k n (mkF m pc' Ls st)) : z_At p l e R s m args below meth c n0 Q h k n (mkF m pc Ls (v :: .int j :: .ref a :: st)) := by
  subst hp
  have A0 := A
  obtain ⟨cl, A, r, -⟩ := A
  intro T L X N eT
  obtain ⟨T', h', X', e', W, stp⟩ := stR X C.1 C.2.1 eT A (z_lt r hj hv) hty S (g := mkF m pc Ls (v :: .int j :: .ref a :: st)) rfl rfl (hb C.2.2.2.1 hd)
  exact z_via stp (K h' W (A0.same W hs) T' _ X' (Fr.snoc X' N ha) e')
theorem z_newarray (C : z_Cx Z p s m meth c own bytes ml rt nm) {aty : ArrayType} {z : Int32} (w : (Cond.arrayClass (newarray.typeOf aty)).before a0 Z = true) (hz : ¬ z < 0) {cap : Nat} (hcap : z.toNatClampNeg ≤ cap) (hb' : cap * 8 ≤ 536870912) (had : "[" ++ (newarray.typeOf aty).toString = ad) (hvs : List.replicate z.toNatClampNeg (defaultValue (newarray.typeOf aty)) = vs) (hd : decode bytes pc = .ok (.newarray aty, 2)) (hc : k + 1 ≤ R.cells) (hl : n + cap ≤ R.slots) (pc' : Nat) (hp : pc + 2 = pc')
    (K : ∀ h' b, b = h.size → Ext h h' → z_Ar Z h' b (newarray.typeOf aty) ad "" vs → z_At p l e R s m args below meth c n0 Q h' (k + 1) (n + cap) (mkF m pc' Ls (.ref b :: st))) : z_At p l e R s m args below meth c n0 Q h k n (mkF m pc Ls (.int z :: st)) := by
  subst hp hvs
  intro T L X N eT
  obtain ⟨T', h', cA, X', e', E, A, Ex, stp⟩ := newPE X C.1 C.2.1 w eT (g := mkF m pc Ls (.int z :: st)) rfl (hb C.2.2.2.1 hd) rfl hz hcap hb' hc hl had
  exact z_via stp (K h' _ rfl E ⟨_, A, by simp [newA], by simp; exact (back32 hz).2, Ex, Or.inl rfl⟩ T' L X' N e')
theorem z_anewarray (C : z_Cx Z p s m meth c own bytes ml rt nm) {Cn : String} {i : Nat} {z : Int32} (w : (Cond.classLink own i Cn).before a0 Z = true) (w2 : (Cond.arrayOver (.object Cn)).before a0 Z = true) (hz : ¬ z < 0) {cap : Nat} (hcap : z.toNatClampNeg ≤ cap) (hb' : cap * 8 ≤ 536870912) (had : "[" ++ (FieldType.object Cn).toString = ad) (hvs : List.replicate z.toNatClampNeg .null = vs) (hd : decode bytes pc = .ok (.anewarray i, 3)) (hc : k + 1 ≤ R.cells) (hl : n + cap ≤ R.slots) (pc' : Nat) (hp : pc + 3 = pc')
    (K : ∀ h' b, b = h.size → Ext h h' → z_Ar Z h' b (.object Cn) ad Cn vs → z_At p l e R s m args below meth c n0 Q h' (k + 1) (n + cap) (mkF m pc' Ls (.ref b :: st))) : z_At p l e R s m args below meth c n0 Q h k n (mkF m pc Ls (.int z :: st)) := by
  subst hp hvs
  intro T L X N eT
  obtain ⟨T', h', cA, X', e', E, A, Ex, O, stp⟩ := newRE X C.1 C.2.1 C.2.2.1 w w2 eT (g := mkF m pc Ls (.int z :: st)) rfl (hb C.2.2.2.1 hd) rfl hz hcap hb' hc hl had
  obtain ⟨kk, comp, o1, o2, o3⟩ := O
  exact z_via stp (K h' _ rfl E ⟨_, A, by simp [newA, defaultValue], by simp; exact (back32 hz).2, Ex, Or.inr ⟨kk, comp, _, o1, o2, o3⟩⟩ T' L X' N e')
theorem z_anewarrayA (C : z_Cx Z p s m meth c own bytes ml rt nm) {Cn : String} {i : Nat} {z : Int32} (hC : (FieldType.array ty).toString = Cn) (w : (Cond.classLink own i Cn).before a0 Z = true) (w2 : (Cond.arrayOver (.array ty)).before a0 Z = true) (hz : ¬ z < 0) {cap : Nat} (hcap : z.toNatClampNeg ≤ cap) (hb' : cap * 8 ≤ 536870912) (had : "[" ++ Cn = ad) (hvs : List.replicate z.toNatClampNeg .null = vs) (hd : decode bytes pc = .ok (.anewarray i, 3)) (hc : k + 1 ≤ R.cells) (hl : n + cap ≤ R.slots) (pc' : Nat) (hp : pc + 3 = pc')
    (K : ∀ h' b, b = h.size → Ext h h' → z_Ar Z h' b (.array ty) ad Cn vs → z_At p l e R s m args below meth c n0 Q h' (k + 1) (n + cap) (mkF m pc' Ls (.ref b :: st))) : z_At p l e R s m args below meth c n0 Q h k n (mkF m pc Ls (.int z :: st)) := by
  subst hp hvs
  intro T L X N eT
  obtain ⟨T', h', cA, X', e', E, A, Ex, O, stp⟩ := newRA X C.1 C.2.1 C.2.2.1 hC w w2 eT (g := mkF m pc Ls (.int z :: st)) rfl (hb C.2.2.2.1 hd) rfl hz hcap hb' hc hl had
  obtain ⟨kk, comp, o1, o2, o3⟩ := O
  exact z_via stp (K h' _ rfl E ⟨_, A, by simp [newA, defaultValue], by simp; exact (back32 hz).2, Ex, Or.inr ⟨kk, comp, _, o1, o2, o3⟩⟩ T' L X' N e')
end Arrays
theorem z_castY (C : z_Cx Z p s m meth c own bytes ml rt nm) {Kc : String} {i : Nat} {a : Addr} (w : (Cond.classLink own i Kc).before a0 Z = true) (I : Ins Z h a Kc true) (hd : decode bytes pc = .ok (.checkcast i, 3)) (pc' : Nat) (hp : pc + 3 = pc')
    (K : z_At p l e R s m args below meth c n0 Q h k n (mkF m pc' Ls (.ref a :: st))) : z_At p l e R s m args below meth c n0 Q h k n (mkF m pc Ls (.ref a :: st)) := by
  subst hp
  intro T L X N eT
  obtain ⟨T', X', e', stp⟩ := castY X C.1 C.2.1 C.2.2.1 w eT I (g := mkF m pc Ls (.ref a :: st)) rfl rfl (hb C.2.2.2.1 hd)
  exact z_via stp (K T' L X' N e')
theorem z_dup_x1 (C : z_Cx Z p s m meth c own bytes ml rt nm) {x y : Value} (hd : decode bytes pc = .ok (.dup_x1, 1)) (hx : x.category = 1) (hy : y.category = 1) (pc' : Nat) (hp : pc + 1 = pc')
    (K : z_At p l e R s m args below meth c n0 Q h k n (mkF m pc' Ls (x :: y :: x :: st))) : z_At p l e R s m args below meth c n0 Q h k n (mkF m pc Ls (x :: y :: st)) := by
  subst hp; exact z_of (fun T L X t hr => XS.dupX1 X.here C.1 rfl (hb C.2.2.2.1 hd) rfl hx hy hr) K
theorem z_dup2 (C : z_Cx Z p s m meth c own bytes ml rt nm) {x y : Value} (hd : decode bytes pc = .ok (.dup2, 1)) (hx : x.category = 1) (hy : y.category = 1) (pc' : Nat) (hp : pc + 1 = pc')
    (K : z_At p l e R s m args below meth c n0 Q h k n (mkF m pc' Ls (x :: y :: x :: y :: st))) : z_At p l e R s m args below meth c n0 Q h k n (mkF m pc Ls (x :: y :: st)) := by
  subst hp
  refine z_of (fun T L X t hr => ?_) K
  have hd' := hb C.2.2.2.1 hd
  have hx' := C.1
  jvm_step X.here [X.here.top, hx', hd', hx, hy]
  exact hr
/-! the old part of the heap, and places -/
theorem z_old {ws : List Addr} (X : Old Z n0 h) (K : Keep h h' ws) (q : ∀ x ∈ ws, n0 ≤ x) : Old Z n0 h' := X.keep K q
theorem z_Keep.trans {h'' : Heap} {ws ws' : List Addr} (K : Keep h h' ws) (K' : Keep h' h'' ws') (q : ∀ x ∈ ws', x ∈ ws ∨ h.size ≤ x) : Keep h h'' ws := K.trans K' q
theorem z_ke (E : Ext h h') : Keep h h' [] := (Keep.refl h []).ext E
theorem z_nil {α : Type} {P : α → Prop} : ∀ x ∈ ([] : List α), P x := fun _ q => nomatch q
theorem z_allS {α : Type} {P : α → Prop} {y : α} {L : List α} (q : P y) (r : ∀ x ∈ L, P x) : ∀ x ∈ y :: L, P x := fun x z => (List.mem_cons.mp z).elim (fun u => u ▸ q) (r x)
/-- a static that holds a, and what is known of a -/
def z_Sx (Z : State) (C f d : String) (a : Addr) (P : Prop) : Prop := Sta Z Z.heap C f d (.ref a) ∧ P
def z_layE : List (String × String × String) := [("java/lang/Enum", "ordinal", "I")]
def z_layN : List (String × String × String) := []
theorem z_En.ob {C f d : String} {i : Int32} {a : Addr} (E : z_En Z Z.heap C f d i a) : z_Sx Z C f d a (z_Ob Z Z.heap a C z_layE [.int i]) := ⟨E.1, E.2.1, rfl, fun j x v h1 h2 => by
  match j, h1, h2 with
  | 0, h1, h2 => cases h1; cases h2; exact E.2.2⟩
theorem z_exob {C f d : String} (hX : (Cond.exactly (.static C f d) C).value args Z none Z [] = some true) (w1 : (Cond.initialized C).before args Z = true) (w2 : (Cond.laysStatic C f d).before args Z = true) : ∃ a, z_Sx Z C f d a (z_Ob Z Z.heap a C z_layN []) := by
  obtain ⟨a, ea⟩ := exa_v hX
  exact ⟨a, Sta.start ea (Or.inr ⟨w1, w2⟩), Exa.start ea hX, rfl, fun j x v h1 h2 => by cases h1⟩
theorem z_sets {L : List Jvm.Cond} {R : Jvm.Cond} (q : (L.foldr Jvm.Cond.and R).before args s = true) : ∀ c ∈ L, c.before args s = true := by
  induction L with
  | nil => intro c hc; cases hc
  | cons a L ih =>
    intro c hc
    have q' : (Jvm.Cond.and a (L.foldr Jvm.Cond.and R)).before args s = true := q
    rw [Cond.before_and, Bool.and_eq_true] at q'
    rcases List.mem_cons.mp hc with rfl | hc
    · exact q'.1
    · exact ih q'.2 c hc
theorem z_starr {C f d ad K : String} {ty : FieldType} (hA : (Cond.arrayOf (.static C f d) ty).value args Z none Z [] = some true) (hX : (Cond.exactly (.static C f d) ad).value args Z none Z [] = some true) (hL : (Cond.eq (.length (.static C f d)) (.int 0)).value args Z none Z [] = some true) (hi : (Cond.initializedFor C f d).before args Z = true ∨ ((Cond.initialized C).before args Z = true ∧ (Cond.laysStatic C f d).before args Z = true)) (hK : K = "" := by rfl) : ∃ a, z_Sx Z C f d a (z_Ar Z Z.heap a ty ad K []) := by
  obtain ⟨a, ea⟩ := arr_v hA
  obtain ⟨cl, A⟩ := Arr.start ea hA
  refine ⟨a, Sta.start ea hi, cl, A, ?_, by decide, Exa.start ea hX, Or.inl hK⟩
  obtain ⟨x, y, e1, e2, -, -⟩ := cmp_v (Or.inl hL)
  obtain ⟨a', cl', e3, e4, e5⟩ := Term.length_spec e1
  cases ea.symm.trans e3
  have e6 : cl' = cl := by
    have := (State.arrayAt?_spec e4).1
    exact Option.some.inj (this.symm.trans A.1)
  subst e6
  have e7 : y = .int 0 := by simpa [Term.eval] using e2.symm
  subst e7
  subst e5
  have e8 : cl'.slots.size < 2 ^ 31 := by
    by_cases q : cl'.slots.size < 2 ^ 31
    · exact q
    · clear hL hA hX
      revert e1 ea
      generalize Term.static C f d = t
      intro ea e1
      simp [Term.eval, ea, e4, q] at e1
  have e9 : cl'.slots.size.toInt32 = 0 := by simpa [Cond.value, e1, e2] using hL
  have e10 : (cl'.slots.size : Int) = 0 := by rw [← len_toInt e8, e9]; rfl
  have : cl'.slots.size = 0 := by omega
  simpa using this
theorem z_stob {C f d ff : String} {i : Int32} (hX : (Cond.exactly (.static C f d) C).value args Z none Z [] = some true) (hO : (Cond.eq (.field (.static C f d) C ff "I") (.int i)).value args Z none Z [] = some true) (hi : (Cond.initializedFor C f d).before args Z = true ∨ ((Cond.initialized C).before args Z = true ∧ (Cond.laysStatic C f d).before args Z = true)) : ∃ a, z_Sx Z C f d a (z_Ob Z Z.heap a C [(C, ff, "I")] [.int i]) := by
  obtain ⟨a, ea⟩ := exa_v hX
  refine ⟨a, Sta.start ea hi, Exa.start ea hX, rfl, fun j x v h1 h2 => ?_⟩
  match j, h1, h2 with
  | 0, h1, h2 => cases h1; cases h2; exact z_fldv ea hO
theorem z_Ob.ne {a b : Addr} {C C' : String} {lay lay' : List (String × String × String)} {vs vs' : List Value} {x : String × String × String} {v v' : Value} (F : z_Ob Z h a C lay vs) (G : z_Ob Z h b C' lay' vs') (i j : Nat) (h1 : lay[i]? = some x) (h2 : vs[i]? = some v) (h3 : lay'[j]? = some x) (h4 : vs'[j]? = some v') (q : v ≠ v') : a ≠ b := (F.2.2 i x v h1 h2).ne (G.2.2 j x v' h3 h4) q
end OwnHeap
/-! longs, arraycopy, an int static -/
section OwnLong
variable {p : Program} {l : Launch} {e : Env} {R : Room} {s : State} {m : MethodId} {args : Array Value} {below : List Frame} {meth : Method} {c : Code} {Z : State} {n0 : Nat} {own : String} {bytes : ByteArray} {ml : Nat} {rt : Option FieldType} {nm : String} {Q : Option Value → Heap → Prop} {h h' : Heap} {k n : Nat} {pc : Nat} {Ls Ls' : Array Slot} {st rest : List Value} {a0 : Array Value}
theorem z_lconst (C : z_Cx Z p s m meth c own bytes ml rt nm) {i : Fin 2} {v : Int64} (hd : decode bytes pc = .ok (.lconst i, 1)) (hv : Int64.ofNat i.val = v) (pc' : Nat) (hp : pc + 1 = pc')
    (K : z_At p l e R s m args below meth c n0 Q h k n (mkF m pc' Ls (.long v :: st))) : z_At p l e R s m args below meth c n0 Q h k n (mkF m pc Ls st) := by
  subst hp hv; exact z_of (fun T L X t hr => XS.lconst X.here C.1 rfl (hb C.2.2.2.1 hd) hr) K
theorem z_ladd (C : z_Cx Z p s m meth c own bytes ml rt nm) {x y z : Int64} (hd : decode bytes pc = .ok (.ladd, 1)) (hz : x + y = z) (pc' : Nat) (hp : pc + 1 = pc')
    (K : z_At p l e R s m args below meth c n0 Q h k n (mkF m pc' Ls (.long z :: st))) : z_At p l e R s m args below meth c n0 Q h k n (mkF m pc Ls (.long y :: .long x :: st)) := by
  subst hp hz; exact z_of (fun T L X t hr => XS.ladd X.here C.1 rfl (hb C.2.2.2.1 hd) rfl hr) K
theorem z_lcmp (C : z_Cx Z p s m meth c own bytes ml rt nm) {x y : Int64} {z : Int32} (hd : decode bytes pc = .ok (.lcmp, 1)) (hz : lcmpW x y = z) (pc' : Nat) (hp : pc + 1 = pc')
    (K : z_At p l e R s m args below meth c n0 Q h k n (mkF m pc' Ls (.int z :: st))) : z_At p l e R s m args below meth c n0 Q h k n (mkF m pc Ls (.long y :: .long x :: st)) := by
  subst hp hz; exact z_of (fun T L X t hr => XS.lcmp X.here C.1 rfl (hb C.2.2.2.1 hd) rfl hr) K
theorem z_ior (C : z_Cx Z p s m meth c own bytes ml rt nm) {x y z : Int32} (hd : decode bytes pc = .ok (.ior, 1)) (hz : x ||| y = z) (pc' : Nat) (hp : pc + 1 = pc')
    (K : z_At p l e R s m args below meth c n0 Q h k n (mkF m pc' Ls (.int z :: st))) : z_At p l e R s m args below meth c n0 Q h k n (mkF m pc Ls (.int y :: .int x :: st)) := by
  subst hp hz; exact z_of (fun T L X t hr => XS.ior X.here C.1 rfl (hb C.2.2.2.1 hd) rfl hr) K
theorem z_laload (C : z_Cx Z p s m meth c own bytes ml rt nm) {a : Addr} {ad Kc : String} {vs : List Value} {j : Int32} {v : Value} (A : z_Ar Z h a .long ad Kc vs) (hj : ¬ j < 0) (hv : vs[j.toNatClampNeg]? = some v) (hd : decode bytes pc = .ok (.laload, 1)) (pc' : Nat) (hp : pc + 1 = pc')
    (K : z_At p l e R s m args below meth c n0 Q h k n (mkF m pc' Ls (v :: st))) : z_At p l e R s m args below meth c n0 Q h k n (mkF m pc Ls (.int j :: .ref a :: st)) := by
  subst hp
  obtain ⟨cl, A, r, -⟩ := A
  obtain ⟨q1, q2⟩ := z_idx r hj hv
  intro T L X N eT
  exact z_via (fun t hr => X.laload C.1 (j := j) (v := v) (by rw [eT]; exact A.1) (State.isArrayOf_alike C.2.1.alike A.2.1) A.2.2 q1 q2 (g := mkF m pc Ls (.int j :: .ref a :: st)) rfl rfl (hb C.2.2.2.1 hd) t hr) (K T L X N eT)
theorem z_lastore (C : z_Cx Z p s m meth c own bytes ml rt nm) {a : Addr} {ad Kc : String} {vs vs' : List Value} {j : Int32} {x : Int64} (A : z_Ar Z h a .long ad Kc vs) (hj : ¬ j < 0) (hv : j.toNatClampNeg < vs.length) (hs : vs.set j.toNatClampNeg (.long x) = vs') (ha : n0 ≤ a) (hd : decode bytes pc = .ok (.lastore, 1)) (pc' : Nat) (hp : pc + 1 = pc')
    (K : ∀ h', Wr h h' a j.toNatClampNeg (.long x) → z_Ar Z h' a .long ad Kc vs' → z_At p l e R s m args below meth c n0 Q h' k n (mkF m pc' Ls st)) : z_At p l e R s m args below meth c n0 Q h k n (mkF m pc Ls (.long x :: .int j :: .ref a :: st)) := by
  subst hp
  have A0 := A
  obtain ⟨cl, A, r, -⟩ := A
  intro T L X N eT
  obtain ⟨T', h', X', e', W, stp⟩ := stJ X C.1 C.2.1 eT A (z_lt r hj hv) (g := mkF m pc Ls (.long x :: .int j :: .ref a :: st)) rfl rfl (hb C.2.2.2.1 hd)
  exact z_via stp (K h' W (A0.same W hs) T' _ X' (Fr.snoc X' N ha) e')
theorem z_len {z : Nat} (q : z < 2 ^ 31) : z.toInt32.toNatClampNeg = z ∧ ¬ z.toInt32 < 0 := by
  have e := len_toInt q
  refine ⟨?_, ?_⟩
  · show z.toInt32.toInt.toNat = z
    rw [e]; rfl
  · rw [Int32.lt_iff_toInt_lt, e, show (0 : Int32).toInt = 0 from rfl]; omega
theorem z_getD {vs : List Value} {d : Value} {i : Nat} (hi : i < vs.length) : vs.getD i d = vs[i] := by
  show (vs[i]?).getD d = vs[i]
  rw [List.getElem?_eq_getElem hi]; rfl
theorem z_arv {a : Addr} {ty : FieldType} {ad Kc : String} {vs : List Value} (A : z_Ar Z h a ty ad Kc vs) (hf : ∀ v ∈ vs, fits ty v = true) : ∃ k, Arv Z h a k ty vs.length.toInt32 vs (.int 0) ∧ (Kc = "" ∨ z_Ov Z k Kc) := by
  obtain ⟨cl, g, r1, r2, r3, r4⟩ := A
  have hl : cl.slots.size = vs.length := by rw [← r1]; simp
  refine ⟨cl.cls, ⟨cl, g, rfl, by rw [(z_len r2).1]; exact hl, (z_len r2).2, fun i hi => ?_, fun i hi => ?_⟩, r4⟩
  · have hi' : i < vs.length := by omega
    have : cl.slots[i]? = vs[i]? := by rw [← r1]; simp
    rw [this, List.getElem?_eq_getElem hi', z_getD hi']
  · have hi' : i < vs.length := by omega
    rw [z_getD hi']; exact hf _ (List.getElem_mem hi')
theorem z_ofarv {a : Addr} {kc : ClassId} {ty : FieldType} {ad Kc : String} {z : Int32} {vs : List Value} {d : Value} (A : Arv Z h a kc ty z vs d) (hz : z.toNatClampNeg = vs.length) (hl : vs.length < 2 ^ 31) (E : Exa Z h a ad) (O : Kc = "" ∨ z_Ov Z kc Kc) : z_Ar Z h a ty ad Kc vs := by
  obtain ⟨cl, g, q1, q2, q3, q4, q5⟩ := A
  subst q1
  refine ⟨cl, g, ?_, hl, E, O⟩
  apply List.ext_getElem?
  intro i
  by_cases hi : i < vs.length
  · have := q4 i (by omega)
    rw [z_getD hi] at this
    rw [List.getElem?_eq_getElem hi]
    simpa using this
  · have h1 : cl.slots.toList.length ≤ i := by simp; omega
    rw [List.getElem?_eq_none h1, List.getElem?_eq_none (by omega)]
theorem z_arraycopy (C : z_Cx Z p s m meth c own bytes ml rt nm) {i : Nat} {a b : Nat} {ty : FieldType} {ad ad' Kc Kc' : String} {vs vd vs' : List Value} {sp dp nn : Int32} {W : Nat}
    (w1 : (Cond.methodLink own i Jvm.Stand.acN).before a0 Z = true) (w2 : (Cond.native Jvm.Stand.acN).before a0 Z = true) (w3 : (Cond.static Jvm.Stand.acN).before a0 Z = true) (w4 : (Cond.initialized "java/lang/System").before a0 Z = true)
    (A : z_Ar Z h a ty ad Kc vs) (B : z_Ar Z h b ty ad' Kc' vd) (hty : refKind ty = false) (fa : ∀ v ∈ vs, fits ty v = true) (fb : ∀ v ∈ vd, fits ty v = true) (h1 : ¬ sp < 0) (h2 : ¬ dp < 0) (h3 : ¬ nn < 0) (h4 : sp.toNatClampNeg + nn.toNatClampNeg ≤ vs.length) (h5 : dp.toNatClampNeg + nn.toNatClampNeg ≤ vd.length)
    (hus : vd.take dp.toNatClampNeg ++ ((List.range nn.toNatClampNeg).map fun i => vs.getD (sp.toNatClampNeg + i) (.int 0)) ++ vd.drop (dp.toNatClampNeg + nn.toNatClampNeg) = vs') (hl' : vs'.length = vd.length) (ge : n0 ≤ b) (hd : decode bytes pc = .ok (.invokestatic i, 3)) (hs : Ls.size = ml) (hW : (rest.map fun v => v.category).sum ≤ W) (hf : 1 ≤ R.frames) (hlo : W + (nativeFrameWords "java/lang/System" "arraycopy" 5 + 11) ≤ R.locals) (pc' : Nat) (hp : pc + 3 = pc')
    (K : ∀ h', Keep h h' [b] → z_Ar Z h' b ty ad' Kc' vs' → z_At p l e R s m args below meth c n0 Q h' k n (mkF m pc' Ls rest)) : z_At p l e R s m args below meth c n0 Q h k n (mkF m pc Ls (.int nn :: .int dp :: .ref b :: .int sp :: .ref a :: rest)) := by
  subst hp
  intro T L X N eT
  obtain ⟨ka, VA, -⟩ := z_arv A fa
  obtain ⟨kb, VB, OB⟩ := z_arv B fb
  have lb : vd.length < 2 ^ 31 := by obtain ⟨_, _, _, q, _⟩ := B; exact q
  have la : vs.length < 2 ^ 31 := by obtain ⟨_, _, _, q, _⟩ := A; exact q
  obtain ⟨T', h', L', X', e', N', Kp, V', stp⟩ := cpA X C.1 C.2.1 C.2.2.1 w1 w2 w3 w4 eT (sp := sp) (dp := dp) (nn := nn) VA VB (Or.inl ⟨rfl, hty⟩) h1 h2 h3 (by rw [(z_len la).1]; exact h4) (by rw [(z_len lb).1]; exact h5) rfl h5 N ge (g := mkF m pc Ls (.int nn :: .int dp :: .ref b :: .int sp :: .ref a :: rest)) rfl (hs.trans C.2.2.2.2.1.symm) rfl (hb C.2.2.2.1 hd) hf (W := W) (by show 2 * 0 + _ ≤ _; omega) hlo
  rw [hus] at V'
  exact z_via stp (K h' Kp (z_ofarv V' (by rw [(z_len lb).1, hl']) (by rw [hl']; exact lb) (B.exa.keep Kp) OB) T' _ X' N' e')
theorem z_selp {y : MethodName} {i : Nat} (hy : y.cls ≠ "java/lang/invoke/MethodHandle" ∧ y.cls ≠ "java/lang/invoke/VarHandle") (hins : (Cond.instantiable y.cls i).before a0 Z = true) (hpriv : (Cond.privateMethod y).before a0 Z = true) (hinst : (Cond.instanceMethod y).before a0 Z = true) : (Cond.selects y.cls y y).before a0 Z = true := by
  obtain ⟨cc, kk, hc, hk, -, hniab, -, -⟩ := Cond.instantiable_spec hins
  have hni : kk.isInterface = false := (Bool.or_eq_false_iff.mp hniab).1
  obtain ⟨mk, methM, hnamed, hmethM, -, -⟩ := Cond.instanceMethod_spec hinst
  have hfound : Z.methodFound? y.cls y.name y.desc = some mk := State.methodFound?_of_named hnamed hy
  have hcls : mk.cls = cc := Option.some.inj ((findClass_of_methodNamed hnamed).symm.trans hc)
  have hsel : selectMethod {} Z.vm cc mk = .method mk := selectMethod_private hmethM (Cond.privateMethod_at hpriv mk methM hnamed hmethM)
  simp only [Cond.before, Cond.holds, Cond.value, hc, hfound, hnamed, hsel, hcls, hk]
  simp; exact hni
theorem z_stint {C f d : String} {i : Int32} (hO : (Cond.eq (.static C f d) (.int i)).value a0 Z none Z [] = some true) (hi : (Cond.initializedFor C f d).before a0 Z = true ∨ ((Cond.initialized C).before a0 Z = true ∧ (Cond.laysStatic C f d).before a0 Z = true)) : Sta Z Z.heap C f d (.int i) := by
  obtain ⟨x, y, e1, e2, k1, k2⟩ := cmp_v (Or.inl hO)
  have e3 : y = .int i := by simpa [Term.eval] using e2.symm
  subst e3
  obtain ⟨z, rfl⟩ : ∃ z, x = .int z := k2
  revert e1 hO
  generalize hT : Term.static C f d = t
  intro hO e1
  have e4 : z = i := by simpa [Cond.value, e1, e2] using hO
  subst e4 hT
  exact Sta.start e1 hi
theorem z_setget {l : List Value} {i : Nat} {v : Value} (q : i < l.length) : (l.set i v)[i]? = some v := by simp [q]
theorem z_cut {fJ f : JFrame} (H : z_At p l e R s m args below meth c n0 Q h k n fJ → z_At p l e R s m args below meth c n0 Q h k n f) (K : z_At p l e R s m args below meth c n0 Q h k n fJ) : z_At p l e R s m args below meth c n0 Q h k n f := H K
theorem z_castI {v v' : Int32} (q : v = v') (K : z_At p l e R s m args below meth c n0 Q h k n (mkF m pc Ls (.int v :: st))) : z_At p l e R s m args below meth c n0 Q h k n (mkF m pc Ls (.int v' :: st)) := by subst q; exact K
theorem z_dup_x2 (C : z_Cx Z p s m meth c own bytes ml rt nm) {x y z : Value} (hd : decode bytes pc = .ok (.dup_x2, 1)) (hx : x.category = 1) (hy : y.category = 1) (hz : z.category = 1) (pc' : Nat) (hp : pc + 1 = pc')
    (K : z_At p l e R s m args below meth c n0 Q h k n (mkF m pc' Ls (x :: y :: z :: x :: st))) : z_At p l e R s m args below meth c n0 Q h k n (mkF m pc Ls (x :: y :: z :: st)) := by
  subst hp
  refine z_of (fun T L X t hr => ?_) K
  have hd' := hb C.2.2.2.1 hd
  have hx' := C.1
  jvm_step X.here [X.here.top, hx', hd', hx, hy, hz]
  exact hr
end OwnLong
def z_layB : List (String × String × String) := [("java/math/BigInteger", "signum", "I")]
theorem z_pd0 : parseMethodDescriptor "()V" = some ⟨[], none⟩ := by decide +kernel
theorem z_pd1 : parseMethodDescriptor "(I)I" = some ⟨[.int], some .int⟩ := by decide +kernel
theorem z_pd2 : parseMethodDescriptor "(I)V" = some ⟨[.int], none⟩ := by decide +kernel
theorem z_pd3 : parseMethodDescriptor "(II)I" = some ⟨[.int, .int], some .int⟩ := by decide +kernel
theorem z_pd4 : parseMethodDescriptor "(I)[Ljava/lang/Object;" = some ⟨[.int], some (.array (.object "java/lang/Object"))⟩ := by decide +kernel
theorem z_pd5 : parseMethodDescriptor "()[Ljava/lang/Object;" = some ⟨[], some (.array (.object "java/lang/Object"))⟩ := by decide +kernel
theorem z_pd6 : parseMethodDescriptor "(Ljava/lang/Object;[Ljava/lang/Object;I)V" = some ⟨[(.object "java/lang/Object"), (.array (.object "java/lang/Object")), .int], none⟩ := by decide +kernel
theorem z_pd7 : parseMethodDescriptor "(Ljava/lang/Object;)Z" = some ⟨[(.object "java/lang/Object")], some .boolean⟩ := by decide +kernel
theorem z_pd8 : parseMethodDescriptor "()I" = some ⟨[], some .int⟩ := by decide +kernel
theorem z_pd9 : parseMethodDescriptor "([JI)[J" = some ⟨[(.array .long), .int], some (.array .long)⟩ := by decide +kernel
theorem z_pd10 : parseMethodDescriptor "([I)V" = some ⟨[(.array .int)], none⟩ := by decide +kernel
theorem z_pd11 : parseMethodDescriptor "(IILjava/util/function/BiFunction;)I" = some ⟨[.int, .int, (.object "java/util/function/BiFunction")], some .int⟩ := by decide +kernel
theorem z_pd12 : parseMethodDescriptor "(I)Ljava/lang/Object;" = some ⟨[.int], some (.object "java/lang/Object")⟩ := by decide +kernel
theorem z_pd13 : parseMethodDescriptor "(I)Ljava/math/BigInteger;" = some ⟨[.int], some (.object "java/math/BigInteger")⟩ := by decide +kernel
theorem z_pd14 : parseMethodDescriptor "()Ljava/util/List;" = some ⟨[], some (.object "java/util/List")⟩ := by decide +kernel
theorem z_pd15 : parseMethodDescriptor "([I)[I" = some ⟨[(.array .int)], some (.array .int)⟩ := by decide +kernel
theorem z_pd16 : parseMethodDescriptor "(I)Z" = some ⟨[.int], some .boolean⟩ := by decide +kernel
theorem z_pd17 : parseMethodDescriptor "([II)V" = some ⟨[(.array .int), .int], none⟩ := by decide +kernel
theorem z_pd18 : parseMethodDescriptor "(Ljava/util/ArrayList;)V" = some ⟨[(.object "java/util/ArrayList")], none⟩ := by decide +kernel
theorem z_pd19 : parseMethodDescriptor "()Ljava/util/Iterator;" = some ⟨[], some (.object "java/util/Iterator")⟩ := by decide +kernel
theorem z_pd20 : parseMethodDescriptor "()Z" = some ⟨[], some .boolean⟩ := by decide +kernel
theorem z_pd21 : parseMethodDescriptor "([Ljava/lang/Object;Ljava/lang/Object;)V" = some ⟨[(.array (.object "java/lang/Object")), (.object "java/lang/Object")], none⟩ := by decide +kernel
theorem z_pd22 : parseMethodDescriptor "([II)[I" = some ⟨[(.array .int), .int], some (.array .int)⟩ := by decide +kernel
theorem z_pd23 : parseMethodDescriptor "(II)V" = some ⟨[.int, .int], none⟩ := by decide +kernel
theorem z_pd24 : parseMethodDescriptor "(Lcom/example/variegate/variegate/service/Cnf;)V" = some ⟨[(.object "com/example/variegate/variegate/service/Cnf")], none⟩ := by decide +kernel
theorem z_pd25 : parseMethodDescriptor "(Lcom/example/variegate/variegate/service/Propagation;II)V" = some ⟨[(.object "com/example/variegate/variegate/service/Propagation"), .int, .int], none⟩ := by decide +kernel
theorem z_pd26 : parseMethodDescriptor "(ZI)Z" = some ⟨[.boolean, .int], some .boolean⟩ := by decide +kernel
theorem z_d1_0 : decode prog_73_method_1_code 0 = .ok (.aload_n 0, 1) := by decide +kernel
theorem z_d1_1 : decode prog_73_method_1_code 1 = .ok (.invokespecial 1, 3) := by decide +kernel
theorem z_d1_4 : decode prog_73_method_1_code 4 = .ok (.aload_n 0, 1) := by decide +kernel
theorem z_d1_5 : decode prog_73_method_1_code 5 = .ok (.new 7, 3) := by decide +kernel
theorem z_d1_8 : decode prog_73_method_1_code 8 = .ok (.dup, 1) := by decide +kernel
theorem z_d1_9 : decode prog_73_method_1_code 9 = .ok (.invokespecial 9, 3) := by decide +kernel
theorem z_d3_0 : decode jdk_38_method_2_code 0 = .ok (.aload_n 0, 1) := by decide +kernel
theorem z_d3_1 : decode jdk_38_method_2_code 1 = .ok (.invokespecial 1, 3) := by decide +kernel
theorem z_d4_0 : decode jdk_39_method_1_code 0 = .ok (.aload_n 0, 1) := by decide +kernel
theorem z_d4_1 : decode jdk_39_method_1_code 1 = .ok (.invokespecial 1, 3) := by decide +kernel
theorem z_d5_0 : decode jdk_22_method_1_code 0 = .ok (.aload_n 0, 1) := by decide +kernel
theorem z_d5_1 : decode jdk_22_method_1_code 1 = .ok (.invokespecial 1, 3) := by decide +kernel
theorem z_d5_4 : decode jdk_22_method_1_code 4 = .ok (.return_, 1) := by decide +kernel
theorem z_d4_4 : decode jdk_39_method_1_code 4 = .ok (.aload_n 0, 1) := by decide +kernel
theorem z_d4_5 : decode jdk_39_method_1_code 5 = .ok (.iconst 0, 1) := by decide +kernel
theorem z_d4_6 : decode jdk_39_method_1_code 6 = .ok (.putfield 7, 3) := by decide +kernel
theorem z_d4_9 : decode jdk_39_method_1_code 9 = .ok (.return_, 1) := by decide +kernel
theorem z_d3_4 : decode jdk_38_method_2_code 4 = .ok (.aload_n 0, 1) := by decide +kernel
theorem z_d3_5 : decode jdk_38_method_2_code 5 = .ok (.getstatic 39, 3) := by decide +kernel
theorem z_d3_8 : decode jdk_38_method_2_code 8 = .ok (.putfield 9, 3) := by decide +kernel
theorem z_d3_11 : decode jdk_38_method_2_code 11 = .ok (.return_, 1) := by decide +kernel
theorem z_d1_12 : decode prog_73_method_1_code 12 = .ok (.putfield 10, 3) := by decide +kernel
theorem z_d1_15 : decode prog_73_method_1_code 15 = .ok (.aload_n 0, 1) := by decide +kernel
theorem z_d1_16 : decode prog_73_method_1_code 16 = .ok (.new 16, 3) := by decide +kernel
theorem z_d1_19 : decode prog_73_method_1_code 19 = .ok (.dup, 1) := by decide +kernel
theorem z_d1_20 : decode prog_73_method_1_code 20 = .ok (.invokespecial 18, 3) := by decide +kernel
theorem z_d6_0 : decode jdk_92_method_4_code 0 = .ok (.aload_n 0, 1) := by decide +kernel
theorem z_d6_1 : decode jdk_92_method_4_code 1 = .ok (.invokespecial 21, 3) := by decide +kernel
theorem z_d6_4 : decode jdk_92_method_4_code 4 = .ok (.aload_n 0, 1) := by decide +kernel
theorem z_d6_5 : decode jdk_92_method_4_code 5 = .ok (.iconst 0, 1) := by decide +kernel
theorem z_d6_6 : decode jdk_92_method_4_code 6 = .ok (.putfield 7, 3) := by decide +kernel
theorem z_d6_9 : decode jdk_92_method_4_code 9 = .ok (.aload_n 0, 1) := by decide +kernel
theorem z_d6_10 : decode jdk_92_method_4_code 10 = .ok (.iconst 0, 1) := by decide +kernel
theorem z_d6_11 : decode jdk_92_method_4_code 11 = .ok (.putfield 24, 3) := by decide +kernel
theorem z_d6_14 : decode jdk_92_method_4_code 14 = .ok (.aload_n 0, 1) := by decide +kernel
theorem z_d6_15 : decode jdk_92_method_4_code 15 = .ok (.bipush 64, 2) := by decide +kernel
theorem z_d6_17 : decode jdk_92_method_4_code 17 = .ok (.invokevirtual 27, 3) := by decide +kernel
theorem z_d7_0 : decode jdk_92_method_6_code 0 = .ok (.aload_n 0, 1) := by decide +kernel
theorem z_d7_1 : decode jdk_92_method_6_code 1 = .ok (.iload_n 1, 1) := by decide +kernel
theorem z_d7_2 : decode jdk_92_method_6_code 2 = .ok (.iconst 1, 1) := by decide +kernel
theorem z_d7_3 : decode jdk_92_method_6_code 3 = .ok (.isub, 1) := by decide +kernel
theorem z_d7_4 : decode jdk_92_method_6_code 4 = .ok (.invokestatic 52, 3) := by decide +kernel
theorem z_d8_0 : decode jdk_92_method_1_code 0 = .ok (.iload_n 0, 1) := by decide +kernel
theorem z_d8_1 : decode jdk_92_method_1_code 1 = .ok (.bipush 6, 2) := by decide +kernel
theorem z_d8_3 : decode jdk_92_method_1_code 3 = .ok (.ishr, 1) := by decide +kernel
theorem z_d8_4 : decode jdk_92_method_1_code 4 = .ok (.ireturn, 1) := by decide +kernel
theorem z_d7_7 : decode jdk_92_method_6_code 7 = .ok (.iconst 1, 1) := by decide +kernel
theorem z_d7_8 : decode jdk_92_method_6_code 8 = .ok (.iadd, 1) := by decide +kernel
theorem z_d7_9 : decode jdk_92_method_6_code 9 = .ok (.newarray .long, 2) := by decide +kernel
theorem z_d7_11 : decode jdk_92_method_6_code 11 = .ok (.putfield 11, 3) := by decide +kernel
theorem z_d7_14 : decode jdk_92_method_6_code 14 = .ok (.return_, 1) := by decide +kernel
theorem z_d6_20 : decode jdk_92_method_4_code 20 = .ok (.aload_n 0, 1) := by decide +kernel
theorem z_d6_21 : decode jdk_92_method_4_code 21 = .ok (.iconst 0, 1) := by decide +kernel
theorem z_d6_22 : decode jdk_92_method_4_code 22 = .ok (.putfield 24, 3) := by decide +kernel
theorem z_d6_25 : decode jdk_92_method_4_code 25 = .ok (.return_, 1) := by decide +kernel
theorem z_d1_23 : decode prog_73_method_1_code 23 = .ok (.putfield 19, 3) := by decide +kernel
theorem z_d1_26 : decode prog_73_method_1_code 26 = .ok (.aload_n 0, 1) := by decide +kernel
theorem z_d1_27 : decode prog_73_method_1_code 27 = .ok (.new 7, 3) := by decide +kernel
theorem z_d1_30 : decode prog_73_method_1_code 30 = .ok (.dup, 1) := by decide +kernel
theorem z_d1_31 : decode prog_73_method_1_code 31 = .ok (.invokespecial 9, 3) := by decide +kernel
theorem z_d1_34 : decode prog_73_method_1_code 34 = .ok (.putfield 23, 3) := by decide +kernel
theorem z_d1_37 : decode prog_73_method_1_code 37 = .ok (.aload_n 0, 1) := by decide +kernel
theorem z_d1_38 : decode prog_73_method_1_code 38 = .ok (.new 7, 3) := by decide +kernel
theorem z_d1_41 : decode prog_73_method_1_code 41 = .ok (.dup, 1) := by decide +kernel
theorem z_d1_42 : decode prog_73_method_1_code 42 = .ok (.invokespecial 9, 3) := by decide +kernel
theorem z_d1_45 : decode prog_73_method_1_code 45 = .ok (.putfield 26, 3) := by decide +kernel
theorem z_d1_48 : decode prog_73_method_1_code 48 = .ok (.aload_n 0, 1) := by decide +kernel
theorem z_d1_49 : decode prog_73_method_1_code 49 = .ok (.iconst 0, 1) := by decide +kernel
theorem z_d1_50 : decode prog_73_method_1_code 50 = .ok (.newarray .long, 2) := by decide +kernel
theorem z_d1_52 : decode prog_73_method_1_code 52 = .ok (.putfield 29, 3) := by decide +kernel
theorem z_d1_55 : decode prog_73_method_1_code 55 = .ok (.return_, 1) := by decide +kernel
theorem z_d9_0 : decode prog_73_method_2_code 0 = .ok (.aload_n 0, 1) := by decide +kernel
theorem z_d9_1 : decode prog_73_method_2_code 1 = .ok (.getfield 23, 3) := by decide +kernel
theorem z_d9_4 : decode prog_73_method_2_code 4 = .ok (.getstatic 33, 3) := by decide +kernel
theorem z_d9_7 : decode prog_73_method_2_code 7 = .ok (.invokeinterface 39 2, 5) := by decide +kernel
theorem z_d10_0 : decode jdk_38_method_25_code 0 = .ok (.aload_n 0, 1) := by decide +kernel
theorem z_d10_1 : decode jdk_38_method_25_code 1 = .ok (.dup, 1) := by decide +kernel
theorem z_d10_2 : decode jdk_38_method_25_code 2 = .ok (.getfield 63, 3) := by decide +kernel
theorem z_d10_5 : decode jdk_38_method_25_code 5 = .ok (.iconst 1, 1) := by decide +kernel
theorem z_d10_6 : decode jdk_38_method_25_code 6 = .ok (.iadd, 1) := by decide +kernel
theorem z_d10_7 : decode jdk_38_method_25_code 7 = .ok (.putfield 63, 3) := by decide +kernel
theorem z_d10_10 : decode jdk_38_method_25_code 10 = .ok (.aload_n 0, 1) := by decide +kernel
theorem z_d10_11 : decode jdk_38_method_25_code 11 = .ok (.aload_n 1, 1) := by decide +kernel
theorem z_d10_12 : decode jdk_38_method_25_code 12 = .ok (.aload_n 0, 1) := by decide +kernel
theorem z_d10_13 : decode jdk_38_method_25_code 13 = .ok (.getfield 9, 3) := by decide +kernel
theorem z_d10_16 : decode jdk_38_method_25_code 16 = .ok (.aload_n 0, 1) := by decide +kernel
theorem z_d10_17 : decode jdk_38_method_25_code 17 = .ok (.getfield 48, 3) := by decide +kernel
theorem z_d10_20 : decode jdk_38_method_25_code 20 = .ok (.invokevirtual 131, 3) := by decide +kernel
theorem z_d11_0 : decode jdk_38_method_24_code 0 = .ok (.iload_n 3, 1) := by decide +kernel
theorem z_d11_1 : decode jdk_38_method_24_code 1 = .ok (.aload_n 2, 1) := by decide +kernel
theorem z_d11_2 : decode jdk_38_method_24_code 2 = .ok (.arraylength, 1) := by decide +kernel
theorem z_d11_3 : decode jdk_38_method_24_code 3 = .ok (.if_icmp .ne 8, 3) := by decide +kernel
theorem z_d11_6 : decode jdk_38_method_24_code 6 = .ok (.aload_n 0, 1) := by decide +kernel
theorem z_d11_7 : decode jdk_38_method_24_code 7 = .ok (.invokevirtual 129, 3) := by decide +kernel
theorem z_d12_0 : decode jdk_38_method_7_code 0 = .ok (.aload_n 0, 1) := by decide +kernel
theorem z_d12_1 : decode jdk_38_method_7_code 1 = .ok (.aload_n 0, 1) := by decide +kernel
theorem z_d12_2 : decode jdk_38_method_7_code 2 = .ok (.getfield 48, 3) := by decide +kernel
theorem z_d12_5 : decode jdk_38_method_7_code 5 = .ok (.iconst 1, 1) := by decide +kernel
theorem z_d12_6 : decode jdk_38_method_7_code 6 = .ok (.iadd, 1) := by decide +kernel
theorem z_d12_7 : decode jdk_38_method_7_code 7 = .ok (.invokevirtual 69, 3) := by decide +kernel
theorem z_d13_0 : decode jdk_38_method_6_code 0 = .ok (.aload_n 0, 1) := by decide +kernel
theorem z_d13_1 : decode jdk_38_method_6_code 1 = .ok (.getfield 9, 3) := by decide +kernel
theorem z_d13_4 : decode jdk_38_method_6_code 4 = .ok (.arraylength, 1) := by decide +kernel
theorem z_d13_5 : decode jdk_38_method_6_code 5 = .ok (.istore_n 2, 1) := by decide +kernel
theorem z_d13_6 : decode jdk_38_method_6_code 6 = .ok (.iload_n 2, 1) := by decide +kernel
theorem z_d13_7 : decode jdk_38_method_6_code 7 = .ok (.ifCond .gt 13, 3) := by decide +kernel
theorem z_d13_10 : decode jdk_38_method_6_code 10 = .ok (.aload_n 0, 1) := by decide +kernel
theorem z_d13_11 : decode jdk_38_method_6_code 11 = .ok (.getfield 9, 3) := by decide +kernel
theorem z_d13_14 : decode jdk_38_method_6_code 14 = .ok (.getstatic 39, 3) := by decide +kernel
theorem z_d13_17 : decode jdk_38_method_6_code 17 = .ok (.if_acmp .eq 28, 3) := by decide +kernel
theorem z_d13_45 : decode jdk_38_method_6_code 45 = .ok (.aload_n 0, 1) := by decide +kernel
theorem z_d13_46 : decode jdk_38_method_6_code 46 = .ok (.bipush 10, 2) := by decide +kernel
theorem z_d13_48 : decode jdk_38_method_6_code 48 = .ok (.iload_n 1, 1) := by decide +kernel
theorem z_d13_49 : decode jdk_38_method_6_code 49 = .ok (.invokestatic 79, 3) := by decide +kernel
theorem z_d14_0 : decode jdk_29_method_65_code 0 = .ok (.iload_n 0, 1) := by decide +kernel
theorem z_d14_1 : decode jdk_29_method_65_code 1 = .ok (.iload_n 1, 1) := by decide +kernel
theorem z_d14_2 : decode jdk_29_method_65_code 2 = .ok (.if_icmp .lt 7, 3) := by decide +kernel
theorem z_d14_5 : decode jdk_29_method_65_code 5 = .ok (.iload_n 0, 1) := by decide +kernel
theorem z_d14_6 : decode jdk_29_method_65_code 6 = .ok (.goto 4, 3) := by decide +kernel
theorem z_d14_10 : decode jdk_29_method_65_code 10 = .ok (.ireturn, 1) := by decide +kernel
theorem z_d13_52 : decode jdk_38_method_6_code 52 = .ok (.anewarray 7, 3) := by decide +kernel
theorem z_d13_55 : decode jdk_38_method_6_code 55 = .ok (.dup_x1, 1) := by decide +kernel
theorem z_d13_56 : decode jdk_38_method_6_code 56 = .ok (.putfield 9, 3) := by decide +kernel
theorem z_d13_59 : decode jdk_38_method_6_code 59 = .ok (.areturn, 1) := by decide +kernel
theorem z_d12_10 : decode jdk_38_method_7_code 10 = .ok (.areturn, 1) := by decide +kernel
theorem z_d11_10 : decode jdk_38_method_24_code 10 = .ok (.astore_n 2, 1) := by decide +kernel
theorem z_d11_11 : decode jdk_38_method_24_code 11 = .ok (.aload_n 2, 1) := by decide +kernel
theorem z_d11_12 : decode jdk_38_method_24_code 12 = .ok (.iload_n 3, 1) := by decide +kernel
theorem z_d11_13 : decode jdk_38_method_24_code 13 = .ok (.aload_n 1, 1) := by decide +kernel
theorem z_d11_14 : decode jdk_38_method_24_code 14 = .ok (.aastore, 1) := by decide +kernel
theorem z_d11_15 : decode jdk_38_method_24_code 15 = .ok (.aload_n 0, 1) := by decide +kernel
theorem z_d11_16 : decode jdk_38_method_24_code 16 = .ok (.iload_n 3, 1) := by decide +kernel
theorem z_d11_17 : decode jdk_38_method_24_code 17 = .ok (.iconst 1, 1) := by decide +kernel
theorem z_d11_18 : decode jdk_38_method_24_code 18 = .ok (.iadd, 1) := by decide +kernel
theorem z_d11_19 : decode jdk_38_method_24_code 19 = .ok (.putfield 48, 3) := by decide +kernel
theorem z_d11_22 : decode jdk_38_method_24_code 22 = .ok (.return_, 1) := by decide +kernel
theorem z_d10_23 : decode jdk_38_method_25_code 23 = .ok (.iconst 1, 1) := by decide +kernel
theorem z_d10_24 : decode jdk_38_method_25_code 24 = .ok (.ireturn, 1) := by decide +kernel
theorem z_d9_12 : decode prog_73_method_2_code 12 = .ok (.pop, 1) := by decide +kernel
theorem z_d9_13 : decode prog_73_method_2_code 13 = .ok (.aload_n 0, 1) := by decide +kernel
theorem z_d9_14 : decode prog_73_method_2_code 14 = .ok (.getfield 26, 3) := by decide +kernel
theorem z_d9_17 : decode prog_73_method_2_code 17 = .ok (.getstatic 33, 3) := by decide +kernel
theorem z_d9_20 : decode prog_73_method_2_code 20 = .ok (.invokeinterface 39 2, 5) := by decide +kernel
theorem z_d9_25 : decode prog_73_method_2_code 25 = .ok (.pop, 1) := by decide +kernel
theorem z_d9_26 : decode prog_73_method_2_code 26 = .ok (.aload_n 0, 1) := by decide +kernel
theorem z_d9_27 : decode prog_73_method_2_code 27 = .ok (.getfield 23, 3) := by decide +kernel
theorem z_d9_30 : decode prog_73_method_2_code 30 = .ok (.invokeinterface 45 1, 5) := by decide +kernel
theorem z_d15_0 : decode jdk_38_method_8_code 0 = .ok (.aload_n 0, 1) := by decide +kernel
theorem z_d15_1 : decode jdk_38_method_8_code 1 = .ok (.getfield 48, 3) := by decide +kernel
theorem z_d15_4 : decode jdk_38_method_8_code 4 = .ok (.ireturn, 1) := by decide +kernel
theorem z_d9_35 : decode prog_73_method_2_code 35 = .ok (.ireturn, 1) := by decide +kernel
theorem z_d16_0 : decode prog_73_method_3_code 0 = .ok (.aload_n 0, 1) := by decide +kernel
theorem z_d16_1 : decode prog_73_method_3_code 1 = .ok (.getfield 29, 3) := by decide +kernel
theorem z_d16_4 : decode prog_73_method_3_code 4 = .ok (.arraylength, 1) := by decide +kernel
theorem z_d16_5 : decode prog_73_method_3_code 5 = .ok (.iconst 2, 1) := by decide +kernel
theorem z_d16_6 : decode prog_73_method_3_code 6 = .ok (.aload_n 0, 1) := by decide +kernel
theorem z_d16_7 : decode prog_73_method_3_code 7 = .ok (.getfield 23, 3) := by decide +kernel
theorem z_d16_10 : decode prog_73_method_3_code 10 = .ok (.invokeinterface 45 1, 5) := by decide +kernel
theorem z_d16_15 : decode prog_73_method_3_code 15 = .ok (.imul, 1) := by decide +kernel
theorem z_d16_16 : decode prog_73_method_3_code 16 = .ok (.iconst 2, 1) := by decide +kernel
theorem z_d16_17 : decode prog_73_method_3_code 17 = .ok (.iadd, 1) := by decide +kernel
theorem z_d16_18 : decode prog_73_method_3_code 18 = .ok (.if_icmp .ge 37, 3) := by decide +kernel
theorem z_d16_21 : decode prog_73_method_3_code 21 = .ok (.aload_n 0, 1) := by decide +kernel
theorem z_d16_22 : decode prog_73_method_3_code 22 = .ok (.aload_n 0, 1) := by decide +kernel
theorem z_d16_23 : decode prog_73_method_3_code 23 = .ok (.getfield 29, 3) := by decide +kernel
theorem z_d16_26 : decode prog_73_method_3_code 26 = .ok (.iconst 2, 1) := by decide +kernel
theorem z_d16_27 : decode prog_73_method_3_code 27 = .ok (.aload_n 0, 1) := by decide +kernel
theorem z_d16_28 : decode prog_73_method_3_code 28 = .ok (.getfield 29, 3) := by decide +kernel
theorem z_d16_31 : decode prog_73_method_3_code 31 = .ok (.arraylength, 1) := by decide +kernel
theorem z_d16_32 : decode prog_73_method_3_code 32 = .ok (.imul, 1) := by decide +kernel
theorem z_d16_33 : decode prog_73_method_3_code 33 = .ok (.iconst 2, 1) := by decide +kernel
theorem z_d16_34 : decode prog_73_method_3_code 34 = .ok (.aload_n 0, 1) := by decide +kernel
theorem z_d16_35 : decode prog_73_method_3_code 35 = .ok (.getfield 23, 3) := by decide +kernel
theorem z_d16_38 : decode prog_73_method_3_code 38 = .ok (.invokeinterface 45 1, 5) := by decide +kernel
theorem z_d16_43 : decode prog_73_method_3_code 43 = .ok (.imul, 1) := by decide +kernel
theorem z_d16_44 : decode prog_73_method_3_code 44 = .ok (.iconst 2, 1) := by decide +kernel
theorem z_d16_45 : decode prog_73_method_3_code 45 = .ok (.iadd, 1) := by decide +kernel
theorem z_d16_46 : decode prog_73_method_3_code 46 = .ok (.invokestatic 49, 3) := by decide +kernel
theorem z_d14_9 : decode jdk_29_method_65_code 9 = .ok (.iload_n 1, 1) := by decide +kernel
theorem z_d16_49 : decode prog_73_method_3_code 49 = .ok (.invokestatic 55, 3) := by decide +kernel
theorem z_d17_0 : decode jdk_65_method_124_code 0 = .ok (.iload_n 1, 1) := by decide +kernel
theorem z_d17_1 : decode jdk_65_method_124_code 1 = .ok (.aload_n 0, 1) := by decide +kernel
theorem z_d17_2 : decode jdk_65_method_124_code 2 = .ok (.arraylength, 1) := by decide +kernel
theorem z_d17_3 : decode jdk_65_method_124_code 3 = .ok (.if_icmp .ne 11, 3) := by decide +kernel
theorem z_d17_14 : decode jdk_65_method_124_code 14 = .ok (.iload_n 1, 1) := by decide +kernel
theorem z_d17_15 : decode jdk_65_method_124_code 15 = .ok (.newarray .long, 2) := by decide +kernel
theorem z_d17_17 : decode jdk_65_method_124_code 17 = .ok (.astore_n 2, 1) := by decide +kernel
theorem z_d17_18 : decode jdk_65_method_124_code 18 = .ok (.aload_n 0, 1) := by decide +kernel
theorem z_d17_19 : decode jdk_65_method_124_code 19 = .ok (.iconst 0, 1) := by decide +kernel
theorem z_d17_20 : decode jdk_65_method_124_code 20 = .ok (.aload_n 2, 1) := by decide +kernel
theorem z_d17_21 : decode jdk_65_method_124_code 21 = .ok (.iconst 0, 1) := by decide +kernel
theorem z_d17_22 : decode jdk_65_method_124_code 22 = .ok (.aload_n 0, 1) := by decide +kernel
theorem z_d17_23 : decode jdk_65_method_124_code 23 = .ok (.arraylength, 1) := by decide +kernel
theorem z_d17_24 : decode jdk_65_method_124_code 24 = .ok (.iload_n 1, 1) := by decide +kernel
theorem z_d17_25 : decode jdk_65_method_124_code 25 = .ok (.invokestatic 304, 3) := by decide +kernel
theorem z_d18_0 : decode jdk_29_method_69_code 0 = .ok (.iload_n 0, 1) := by decide +kernel
theorem z_d18_1 : decode jdk_29_method_69_code 1 = .ok (.iload_n 1, 1) := by decide +kernel
theorem z_d18_2 : decode jdk_29_method_69_code 2 = .ok (.if_icmp .gt 7, 3) := by decide +kernel
theorem z_d18_5 : decode jdk_29_method_69_code 5 = .ok (.iload_n 0, 1) := by decide +kernel
theorem z_d18_6 : decode jdk_29_method_69_code 6 = .ok (.goto 4, 3) := by decide +kernel
theorem z_d18_10 : decode jdk_29_method_69_code 10 = .ok (.ireturn, 1) := by decide +kernel
theorem z_d17_28 : decode jdk_65_method_124_code 28 = .ok (.invokestatic 150, 3) := by decide +kernel
theorem z_d17_31 : decode jdk_65_method_124_code 31 = .ok (.aload_n 2, 1) := by decide +kernel
theorem z_d17_32 : decode jdk_65_method_124_code 32 = .ok (.areturn, 1) := by decide +kernel
theorem z_d16_52 : decode prog_73_method_3_code 52 = .ok (.putfield 29, 3) := by decide +kernel
theorem z_d16_55 : decode prog_73_method_3_code 55 = .ok (.aload_n 0, 1) := by decide +kernel
theorem z_d16_56 : decode prog_73_method_3_code 56 = .ok (.dup, 1) := by decide +kernel
theorem z_d16_57 : decode prog_73_method_3_code 57 = .ok (.getfield 61, 3) := by decide +kernel
theorem z_d16_60 : decode prog_73_method_3_code 60 = .ok (.lconst 1, 1) := by decide +kernel
theorem z_d16_61 : decode prog_73_method_3_code 61 = .ok (.ladd, 1) := by decide +kernel
theorem z_d16_62 : decode prog_73_method_3_code 62 = .ok (.putfield 61, 3) := by decide +kernel
theorem z_d16_65 : decode prog_73_method_3_code 65 = .ok (.aload_n 1, 1) := by decide +kernel
theorem z_d16_66 : decode prog_73_method_3_code 66 = .ok (.arraylength, 1) := by decide +kernel
theorem z_d16_67 : decode prog_73_method_3_code 67 = .ok (.newarray .int, 2) := by decide +kernel
theorem z_d16_69 : decode prog_73_method_3_code 69 = .ok (.astore_n 2, 1) := by decide +kernel
theorem z_d16_70 : decode prog_73_method_3_code 70 = .ok (.iconst 0, 1) := by decide +kernel
theorem z_d16_71 : decode prog_73_method_3_code 71 = .ok (.istore_n 3, 1) := by decide +kernel
theorem z_d16_72 : decode prog_73_method_3_code 72 = .ok (.iconst 0, 1) := by decide +kernel
theorem z_d16_73 : decode prog_73_method_3_code 73 = .ok (.istore 4, 2) := by decide +kernel
theorem z_d16_75 : decode prog_73_method_3_code 75 = .ok (.aload_n 1, 1) := by decide +kernel
theorem z_d16_76 : decode prog_73_method_3_code 76 = .ok (.astore 5, 2) := by decide +kernel
theorem z_d16_78 : decode prog_73_method_3_code 78 = .ok (.aload 5, 2) := by decide +kernel
theorem z_d16_80 : decode prog_73_method_3_code 80 = .ok (.arraylength, 1) := by decide +kernel
theorem z_d16_81 : decode prog_73_method_3_code 81 = .ok (.istore 6, 2) := by decide +kernel
theorem z_d16_83 : decode prog_73_method_3_code 83 = .ok (.iconst 0, 1) := by decide +kernel
theorem z_d16_84 : decode prog_73_method_3_code 84 = .ok (.istore 7, 2) := by decide +kernel
theorem z_d16_86 : decode prog_73_method_3_code 86 = .ok (.iload 7, 2) := by decide +kernel
theorem z_d16_88 : decode prog_73_method_3_code 88 = .ok (.iload 6, 2) := by decide +kernel
theorem z_d16_90 : decode prog_73_method_3_code 90 = .ok (.if_icmp .ge 147, 3) := by decide +kernel
theorem z_d16_93 : decode prog_73_method_3_code 93 = .ok (.aload 5, 2) := by decide +kernel
theorem z_d16_95 : decode prog_73_method_3_code 95 = .ok (.iload 7, 2) := by decide +kernel
theorem z_d16_97 : decode prog_73_method_3_code 97 = .ok (.iaload, 1) := by decide +kernel
theorem z_d16_98 : decode prog_73_method_3_code 98 = .ok (.istore 8, 2) := by decide +kernel
theorem z_d16_100 : decode prog_73_method_3_code 100 = .ok (.iload 8, 2) := by decide +kernel
theorem z_d16_102 : decode prog_73_method_3_code 102 = .ok (.ifCond .eq 32, 3) := by decide +kernel
theorem z_d16_105 : decode prog_73_method_3_code 105 = .ok (.iload 8, 2) := by decide +kernel
theorem z_d16_107 : decode prog_73_method_3_code 107 = .ok (.aload_n 0, 1) := by decide +kernel
theorem z_d16_108 : decode prog_73_method_3_code 108 = .ok (.getfield 23, 3) := by decide +kernel
theorem z_d16_111 : decode prog_73_method_3_code 111 = .ok (.invokeinterface 45 1, 5) := by decide +kernel
theorem z_d16_116 : decode prog_73_method_3_code 116 = .ok (.if_icmp .gt 18, 3) := by decide +kernel
theorem z_d16_119 : decode prog_73_method_3_code 119 = .ok (.iload 8, 2) := by decide +kernel
theorem z_d16_121 : decode prog_73_method_3_code 121 = .ok (.aload_n 0, 1) := by decide +kernel
theorem z_d16_122 : decode prog_73_method_3_code 122 = .ok (.getfield 23, 3) := by decide +kernel
theorem z_d16_125 : decode prog_73_method_3_code 125 = .ok (.invokeinterface 45 1, 5) := by decide +kernel
theorem z_d16_130 : decode prog_73_method_3_code 130 = .ok (.ineg, 1) := by decide +kernel
theorem z_d16_131 : decode prog_73_method_3_code 131 = .ok (.if_icmp .ge 18, 3) := by decide +kernel
theorem z_d16_149 : decode prog_73_method_3_code 149 = .ok (.iload 8, 2) := by decide +kernel
theorem z_d16_151 : decode prog_73_method_3_code 151 = .ok (.ifCond .le 10, 3) := by decide +kernel
theorem z_d16_154 : decode prog_73_method_3_code 154 = .ok (.iconst 2, 1) := by decide +kernel
theorem z_d16_155 : decode prog_73_method_3_code 155 = .ok (.iload 8, 2) := by decide +kernel
theorem z_d16_157 : decode prog_73_method_3_code 157 = .ok (.imul, 1) := by decide +kernel
theorem z_d16_158 : decode prog_73_method_3_code 158 = .ok (.goto 10, 3) := by decide +kernel
theorem z_d16_161 : decode prog_73_method_3_code 161 = .ok (.bipush (-2), 2) := by decide +kernel
theorem z_d16_163 : decode prog_73_method_3_code 163 = .ok (.iload 8, 2) := by decide +kernel
theorem z_d16_165 : decode prog_73_method_3_code 165 = .ok (.imul, 1) := by decide +kernel
theorem z_d16_166 : decode prog_73_method_3_code 166 = .ok (.iconst 1, 1) := by decide +kernel
theorem z_d16_167 : decode prog_73_method_3_code 167 = .ok (.iadd, 1) := by decide +kernel
theorem z_d16_168 : decode prog_73_method_3_code 168 = .ok (.istore 9, 2) := by decide +kernel
theorem z_d16_170 : decode prog_73_method_3_code 170 = .ok (.aload_n 0, 1) := by decide +kernel
theorem z_d16_171 : decode prog_73_method_3_code 171 = .ok (.getfield 29, 3) := by decide +kernel
theorem z_d16_174 : decode prog_73_method_3_code 174 = .ok (.iload 9, 2) := by decide +kernel
theorem z_d16_176 : decode prog_73_method_3_code 176 = .ok (.laload, 1) := by decide +kernel
theorem z_d16_177 : decode prog_73_method_3_code 177 = .ok (.aload_n 0, 1) := by decide +kernel
theorem z_d16_178 : decode prog_73_method_3_code 178 = .ok (.getfield 61, 3) := by decide +kernel
theorem z_d16_181 : decode prog_73_method_3_code 181 = .ok (.lcmp, 1) := by decide +kernel
theorem z_d16_182 : decode prog_73_method_3_code 182 = .ok (.ifCond .eq 22, 3) := by decide +kernel
theorem z_d16_185 : decode prog_73_method_3_code 185 = .ok (.aload_n 0, 1) := by decide +kernel
theorem z_d16_186 : decode prog_73_method_3_code 186 = .ok (.getfield 29, 3) := by decide +kernel
theorem z_d16_189 : decode prog_73_method_3_code 189 = .ok (.iload 9, 2) := by decide +kernel
theorem z_d16_191 : decode prog_73_method_3_code 191 = .ok (.aload_n 0, 1) := by decide +kernel
theorem z_d16_192 : decode prog_73_method_3_code 192 = .ok (.getfield 61, 3) := by decide +kernel
theorem z_d16_195 : decode prog_73_method_3_code 195 = .ok (.lastore, 1) := by decide +kernel
theorem z_d16_196 : decode prog_73_method_3_code 196 = .ok (.aload_n 2, 1) := by decide +kernel
theorem z_d16_197 : decode prog_73_method_3_code 197 = .ok (.iload_n 3, 1) := by decide +kernel
theorem z_d16_198 : decode prog_73_method_3_code 198 = .ok (.iinc 3 1, 3) := by decide +kernel
theorem z_d16_201 : decode prog_73_method_3_code 201 = .ok (.iload 8, 2) := by decide +kernel
theorem z_d16_203 : decode prog_73_method_3_code 203 = .ok (.iastore, 1) := by decide +kernel
theorem z_d16_204 : decode prog_73_method_3_code 204 = .ok (.iload 4, 2) := by decide +kernel
theorem z_d16_206 : decode prog_73_method_3_code 206 = .ok (.aload_n 0, 1) := by decide +kernel
theorem z_d16_207 : decode prog_73_method_3_code 207 = .ok (.getfield 29, 3) := by decide +kernel
theorem z_d16_210 : decode prog_73_method_3_code 210 = .ok (.iload 9, 2) := by decide +kernel
theorem z_d16_212 : decode prog_73_method_3_code 212 = .ok (.iconst 1, 1) := by decide +kernel
theorem z_d16_213 : decode prog_73_method_3_code 213 = .ok (.ixor, 1) := by decide +kernel
theorem z_d16_214 : decode prog_73_method_3_code 214 = .ok (.laload, 1) := by decide +kernel
theorem z_d16_215 : decode prog_73_method_3_code 215 = .ok (.aload_n 0, 1) := by decide +kernel
theorem z_d16_216 : decode prog_73_method_3_code 216 = .ok (.getfield 61, 3) := by decide +kernel
theorem z_d16_219 : decode prog_73_method_3_code 219 = .ok (.lcmp, 1) := by decide +kernel
theorem z_d16_220 : decode prog_73_method_3_code 220 = .ok (.ifCond .ne 7, 3) := by decide +kernel
theorem z_d16_227 : decode prog_73_method_3_code 227 = .ok (.iconst 0, 1) := by decide +kernel
theorem z_d16_228 : decode prog_73_method_3_code 228 = .ok (.ior, 1) := by decide +kernel
theorem z_d16_229 : decode prog_73_method_3_code 229 = .ok (.istore 4, 2) := by decide +kernel
theorem z_d16_231 : decode prog_73_method_3_code 231 = .ok (.iinc 7 1, 3) := by decide +kernel
theorem z_d16_234 : decode prog_73_method_3_code 234 = .ok (.goto (-148), 3) := by decide +kernel
theorem z_d16_237 : decode prog_73_method_3_code 237 = .ok (.iload 4, 2) := by decide +kernel
theorem z_d16_239 : decode prog_73_method_3_code 239 = .ok (.ifCond .ne 28, 3) := by decide +kernel
theorem z_d16_242 : decode prog_73_method_3_code 242 = .ok (.aload_n 0, 1) := by decide +kernel
theorem z_d16_243 : decode prog_73_method_3_code 243 = .ok (.getfield 10, 3) := by decide +kernel
theorem z_d16_246 : decode prog_73_method_3_code 246 = .ok (.iload_n 3, 1) := by decide +kernel
theorem z_d16_247 : decode prog_73_method_3_code 247 = .ok (.aload_n 2, 1) := by decide +kernel
theorem z_d16_248 : decode prog_73_method_3_code 248 = .ok (.arraylength, 1) := by decide +kernel
theorem z_d16_249 : decode prog_73_method_3_code 249 = .ok (.if_icmp .ne 7, 3) := by decide +kernel
theorem z_d16_252 : decode prog_73_method_3_code 252 = .ok (.aload_n 2, 1) := by decide +kernel
theorem z_d16_253 : decode prog_73_method_3_code 253 = .ok (.goto 8, 3) := by decide +kernel
theorem z_d16_261 : decode prog_73_method_3_code 261 = .ok (.invokeinterface 39 2, 5) := by decide +kernel
theorem z_d16_266 : decode prog_73_method_3_code 266 = .ok (.pop, 1) := by decide +kernel
theorem z_d16_267 : decode prog_73_method_3_code 267 = .ok (.return_, 1) := by decide +kernel
theorem z_d19_0 : decode prog_97_method_1_code 0 = .ok (.aload_n 0, 1) := by decide +kernel
theorem z_d19_1 : decode prog_97_method_1_code 1 = .ok (.invokespecial 1, 3) := by decide +kernel
theorem z_d19_4 : decode prog_97_method_1_code 4 = .ok (.aload_n 0, 1) := by decide +kernel
theorem z_d19_5 : decode prog_97_method_1_code 5 = .ok (.aload_n 1, 1) := by decide +kernel
theorem z_d19_6 : decode prog_97_method_1_code 6 = .ok (.invokevirtual 7, 3) := by decide +kernel
theorem z_d20_0 : decode prog_73_method_8_code 0 = .ok (.aload_n 0, 1) := by decide +kernel
theorem z_d20_1 : decode prog_73_method_8_code 1 = .ok (.getfield 23, 3) := by decide +kernel
theorem z_d20_4 : decode prog_73_method_8_code 4 = .ok (.invokeinterface 45 1, 5) := by decide +kernel
theorem z_d20_9 : decode prog_73_method_8_code 9 = .ok (.ireturn, 1) := by decide +kernel
theorem z_d19_9 : decode prog_97_method_1_code 9 = .ok (.putfield 13, 3) := by decide +kernel
theorem z_d19_12 : decode prog_97_method_1_code 12 = .ok (.aload_n 0, 1) := by decide +kernel
theorem z_d19_13 : decode prog_97_method_1_code 13 = .ok (.iconst 2, 1) := by decide +kernel
theorem z_d19_14 : decode prog_97_method_1_code 14 = .ok (.aload_n 0, 1) := by decide +kernel
theorem z_d19_15 : decode prog_97_method_1_code 15 = .ok (.getfield 13, 3) := by decide +kernel
theorem z_d19_18 : decode prog_97_method_1_code 18 = .ok (.imul, 1) := by decide +kernel
theorem z_d19_19 : decode prog_97_method_1_code 19 = .ok (.iconst 2, 1) := by decide +kernel
theorem z_d19_20 : decode prog_97_method_1_code 20 = .ok (.iadd, 1) := by decide +kernel
theorem z_d19_21 : decode prog_97_method_1_code 21 = .ok (.anewarray 18, 3) := by decide +kernel
theorem z_d19_24 : decode prog_97_method_1_code 24 = .ok (.putfield 20, 3) := by decide +kernel
theorem z_d19_27 : decode prog_97_method_1_code 27 = .ok (.iconst 1, 1) := by decide +kernel
theorem z_d19_28 : decode prog_97_method_1_code 28 = .ok (.istore_n 2, 1) := by decide +kernel
theorem z_d19_29 : decode prog_97_method_1_code 29 = .ok (.iload_n 2, 1) := by decide +kernel
theorem z_d19_30 : decode prog_97_method_1_code 30 = .ok (.aload_n 0, 1) := by decide +kernel
theorem z_d19_31 : decode prog_97_method_1_code 31 = .ok (.getfield 13, 3) := by decide +kernel
theorem z_d19_34 : decode prog_97_method_1_code 34 = .ok (.if_icmp .gt 38, 3) := by decide +kernel
theorem z_d19_37 : decode prog_97_method_1_code 37 = .ok (.aload_n 0, 1) := by decide +kernel
theorem z_d19_38 : decode prog_97_method_1_code 38 = .ok (.getfield 20, 3) := by decide +kernel
theorem z_d19_41 : decode prog_97_method_1_code 41 = .ok (.iconst 2, 1) := by decide +kernel
theorem z_d19_42 : decode prog_97_method_1_code 42 = .ok (.iload_n 2, 1) := by decide +kernel
theorem z_d19_43 : decode prog_97_method_1_code 43 = .ok (.imul, 1) := by decide +kernel
theorem z_d19_44 : decode prog_97_method_1_code 44 = .ok (.aload_n 1, 1) := by decide +kernel
theorem z_d19_45 : decode prog_97_method_1_code 45 = .ok (.iload_n 2, 1) := by decide +kernel
theorem z_d19_46 : decode prog_97_method_1_code 46 = .ok (.invokevirtual 24, 3) := by decide +kernel
theorem z_d21_0 : decode prog_73_method_10_code 0 = .ok (.iload_n 1, 1) := by decide +kernel
theorem z_d21_1 : decode prog_73_method_10_code 1 = .ok (.ifCond .le 21, 3) := by decide +kernel
theorem z_d21_4 : decode prog_73_method_10_code 4 = .ok (.aload_n 0, 1) := by decide +kernel
theorem z_d21_5 : decode prog_73_method_10_code 5 = .ok (.getfield 23, 3) := by decide +kernel
theorem z_d21_8 : decode prog_73_method_10_code 8 = .ok (.iload_n 1, 1) := by decide +kernel
theorem z_d21_9 : decode prog_73_method_10_code 9 = .ok (.iconst 1, 1) := by decide +kernel
theorem z_d21_10 : decode prog_73_method_10_code 10 = .ok (.isub, 1) := by decide +kernel
theorem z_d21_11 : decode prog_73_method_10_code 11 = .ok (.invokeinterface 106 2, 5) := by decide +kernel
theorem z_d22_0 : decode jdk_38_method_20_code 0 = .ok (.iload_n 1, 1) := by decide +kernel
theorem z_d22_1 : decode jdk_38_method_20_code 1 = .ok (.aload_n 0, 1) := by decide +kernel
theorem z_d22_2 : decode jdk_38_method_20_code 2 = .ok (.getfield 48, 3) := by decide +kernel
theorem z_d22_5 : decode jdk_38_method_20_code 5 = .ok (.invokestatic 118, 3) := by decide +kernel
theorem z_d23_0 : decode jdk_31_method_17_code 0 = .ok (.iload_n 0, 1) := by decide +kernel
theorem z_d23_1 : decode jdk_31_method_17_code 1 = .ok (.iload_n 1, 1) := by decide +kernel
theorem z_d23_2 : decode jdk_31_method_17_code 2 = .ok (.aconst_null, 1) := by decide +kernel
theorem z_d23_3 : decode jdk_31_method_17_code 3 = .ok (.invokestatic 105, 3) := by decide +kernel
theorem z_d24_0 : decode jdk_41_method_11_code 0 = .ok (.iload_n 0, 1) := by decide +kernel
theorem z_d24_1 : decode jdk_41_method_11_code 1 = .ok (.ifCond .lt 8, 3) := by decide +kernel
theorem z_d24_4 : decode jdk_41_method_11_code 4 = .ok (.iload_n 0, 1) := by decide +kernel
theorem z_d24_5 : decode jdk_41_method_11_code 5 = .ok (.iload_n 1, 1) := by decide +kernel
theorem z_d24_6 : decode jdk_41_method_11_code 6 = .ok (.if_icmp .lt 10, 3) := by decide +kernel
theorem z_d24_16 : decode jdk_41_method_11_code 16 = .ok (.iload_n 0, 1) := by decide +kernel
theorem z_d24_17 : decode jdk_41_method_11_code 17 = .ok (.ireturn, 1) := by decide +kernel
theorem z_d23_6 : decode jdk_31_method_17_code 6 = .ok (.ireturn, 1) := by decide +kernel
theorem z_d22_8 : decode jdk_38_method_20_code 8 = .ok (.pop, 1) := by decide +kernel
theorem z_d22_9 : decode jdk_38_method_20_code 9 = .ok (.aload_n 0, 1) := by decide +kernel
theorem z_d22_10 : decode jdk_38_method_20_code 10 = .ok (.iload_n 1, 1) := by decide +kernel
theorem z_d22_11 : decode jdk_38_method_20_code 11 = .ok (.invokevirtual 123, 3) := by decide +kernel
theorem z_d25_0 : decode jdk_38_method_18_code 0 = .ok (.aload_n 0, 1) := by decide +kernel
theorem z_d25_1 : decode jdk_38_method_18_code 1 = .ok (.getfield 9, 3) := by decide +kernel
theorem z_d25_4 : decode jdk_38_method_18_code 4 = .ok (.iload_n 1, 1) := by decide +kernel
theorem z_d25_5 : decode jdk_38_method_18_code 5 = .ok (.aaload, 1) := by decide +kernel
theorem z_d25_6 : decode jdk_38_method_18_code 6 = .ok (.areturn, 1) := by decide +kernel
theorem z_d22_14 : decode jdk_38_method_20_code 14 = .ok (.areturn, 1) := by decide +kernel
theorem z_d21_16 : decode prog_73_method_10_code 16 = .ok (.checkcast 34, 3) := by decide +kernel
theorem z_d21_19 : decode prog_73_method_10_code 19 = .ok (.goto 19, 3) := by decide +kernel
theorem z_d21_38 : decode prog_73_method_10_code 38 = .ok (.areturn, 1) := by decide +kernel
theorem z_d19_49 : decode prog_97_method_1_code 49 = .ok (.aastore, 1) := by decide +kernel
theorem z_d19_50 : decode prog_97_method_1_code 50 = .ok (.aload_n 0, 1) := by decide +kernel
theorem z_d19_51 : decode prog_97_method_1_code 51 = .ok (.getfield 20, 3) := by decide +kernel
theorem z_d19_54 : decode prog_97_method_1_code 54 = .ok (.iconst 2, 1) := by decide +kernel
theorem z_d19_55 : decode prog_97_method_1_code 55 = .ok (.iload_n 2, 1) := by decide +kernel
theorem z_d19_56 : decode prog_97_method_1_code 56 = .ok (.imul, 1) := by decide +kernel
theorem z_d19_57 : decode prog_97_method_1_code 57 = .ok (.iconst 1, 1) := by decide +kernel
theorem z_d19_58 : decode prog_97_method_1_code 58 = .ok (.iadd, 1) := by decide +kernel
theorem z_d19_59 : decode prog_97_method_1_code 59 = .ok (.aload_n 1, 1) := by decide +kernel
theorem z_d19_60 : decode prog_97_method_1_code 60 = .ok (.iload_n 2, 1) := by decide +kernel
theorem z_d19_61 : decode prog_97_method_1_code 61 = .ok (.ineg, 1) := by decide +kernel
theorem z_d19_62 : decode prog_97_method_1_code 62 = .ok (.invokevirtual 24, 3) := by decide +kernel
theorem z_d21_22 : decode prog_73_method_10_code 22 = .ok (.aload_n 0, 1) := by decide +kernel
theorem z_d21_23 : decode prog_73_method_10_code 23 = .ok (.getfield 26, 3) := by decide +kernel
theorem z_d21_26 : decode prog_73_method_10_code 26 = .ok (.iload_n 1, 1) := by decide +kernel
theorem z_d21_27 : decode prog_73_method_10_code 27 = .ok (.ineg, 1) := by decide +kernel
theorem z_d21_28 : decode prog_73_method_10_code 28 = .ok (.iconst 1, 1) := by decide +kernel
theorem z_d21_29 : decode prog_73_method_10_code 29 = .ok (.isub, 1) := by decide +kernel
theorem z_d21_30 : decode prog_73_method_10_code 30 = .ok (.invokeinterface 106 2, 5) := by decide +kernel
theorem z_d21_35 : decode prog_73_method_10_code 35 = .ok (.checkcast 34, 3) := by decide +kernel
theorem z_d19_65 : decode prog_97_method_1_code 65 = .ok (.aastore, 1) := by decide +kernel
theorem z_d19_66 : decode prog_97_method_1_code 66 = .ok (.iinc 2 1, 3) := by decide +kernel
theorem z_d19_69 : decode prog_97_method_1_code 69 = .ok (.goto (-40), 3) := by decide +kernel
theorem z_d19_72 : decode prog_97_method_1_code 72 = .ok (.aload_n 0, 1) := by decide +kernel
theorem z_d19_73 : decode prog_97_method_1_code 73 = .ok (.iconst 2, 1) := by decide +kernel
theorem z_d19_74 : decode prog_97_method_1_code 74 = .ok (.aload_n 0, 1) := by decide +kernel
theorem z_d19_75 : decode prog_97_method_1_code 75 = .ok (.getfield 13, 3) := by decide +kernel
theorem z_d19_78 : decode prog_97_method_1_code 78 = .ok (.imul, 1) := by decide +kernel
theorem z_d19_79 : decode prog_97_method_1_code 79 = .ok (.iconst 2, 1) := by decide +kernel
theorem z_d19_80 : decode prog_97_method_1_code 80 = .ok (.iadd, 1) := by decide +kernel
theorem z_d19_81 : decode prog_97_method_1_code 81 = .ok (.newarray .byte, 2) := by decide +kernel
theorem z_d19_83 : decode prog_97_method_1_code 83 = .ok (.putfield 27, 3) := by decide +kernel
theorem z_d19_86 : decode prog_97_method_1_code 86 = .ok (.aload_n 0, 1) := by decide +kernel
theorem z_d19_87 : decode prog_97_method_1_code 87 = .ok (.aload_n 0, 1) := by decide +kernel
theorem z_d19_88 : decode prog_97_method_1_code 88 = .ok (.getfield 13, 3) := by decide +kernel
theorem z_d19_91 : decode prog_97_method_1_code 91 = .ok (.iconst 1, 1) := by decide +kernel
theorem z_d19_92 : decode prog_97_method_1_code 92 = .ok (.iadd, 1) := by decide +kernel
theorem z_d19_93 : decode prog_97_method_1_code 93 = .ok (.newarray .int, 2) := by decide +kernel
theorem z_d19_95 : decode prog_97_method_1_code 95 = .ok (.putfield 31, 3) := by decide +kernel
theorem z_d19_98 : decode prog_97_method_1_code 98 = .ok (.new 35, 3) := by decide +kernel
theorem z_d19_101 : decode prog_97_method_1_code 101 = .ok (.dup, 1) := by decide +kernel
theorem z_d19_102 : decode prog_97_method_1_code 102 = .ok (.invokespecial 37, 3) := by decide +kernel
theorem z_d19_105 : decode prog_97_method_1_code 105 = .ok (.astore_n 2, 1) := by decide +kernel
theorem z_d19_106 : decode prog_97_method_1_code 106 = .ok (.new 35, 3) := by decide +kernel
theorem z_d19_109 : decode prog_97_method_1_code 109 = .ok (.dup, 1) := by decide +kernel
theorem z_d19_110 : decode prog_97_method_1_code 110 = .ok (.invokespecial 37, 3) := by decide +kernel
theorem z_d19_113 : decode prog_97_method_1_code 113 = .ok (.astore_n 3, 1) := by decide +kernel
theorem z_d19_114 : decode prog_97_method_1_code 114 = .ok (.new 35, 3) := by decide +kernel
theorem z_d19_117 : decode prog_97_method_1_code 117 = .ok (.dup, 1) := by decide +kernel
theorem z_d19_118 : decode prog_97_method_1_code 118 = .ok (.invokespecial 37, 3) := by decide +kernel
theorem z_d19_121 : decode prog_97_method_1_code 121 = .ok (.astore 4, 2) := by decide +kernel
theorem z_d19_123 : decode prog_97_method_1_code 123 = .ok (.aload_n 0, 1) := by decide +kernel
theorem z_d19_124 : decode prog_97_method_1_code 124 = .ok (.aload_n 1, 1) := by decide +kernel
theorem z_d19_125 : decode prog_97_method_1_code 125 = .ok (.invokevirtual 38, 3) := by decide +kernel
theorem z_d26_0 : decode prog_73_method_9_code 0 = .ok (.aload_n 0, 1) := by decide +kernel
theorem z_d26_1 : decode prog_73_method_9_code 1 = .ok (.getfield 10, 3) := by decide +kernel
theorem z_d26_4 : decode prog_73_method_9_code 4 = .ok (.areturn, 1) := by decide +kernel
theorem z_d19_128 : decode prog_97_method_1_code 128 = .ok (.invokeinterface 42 1, 5) := by decide +kernel
theorem z_d19_133 : decode prog_97_method_1_code 133 = .ok (.newarray .boolean, 2) := by decide +kernel
theorem z_d19_135 : decode prog_97_method_1_code 135 = .ok (.putfield 47, 3) := by decide +kernel
theorem z_d19_138 : decode prog_97_method_1_code 138 = .ok (.iconst 2, 1) := by decide +kernel
theorem z_d19_139 : decode prog_97_method_1_code 139 = .ok (.aload_n 0, 1) := by decide +kernel
theorem z_d19_140 : decode prog_97_method_1_code 140 = .ok (.getfield 13, 3) := by decide +kernel
theorem z_d19_143 : decode prog_97_method_1_code 143 = .ok (.imul, 1) := by decide +kernel
theorem z_d19_144 : decode prog_97_method_1_code 144 = .ok (.iconst 2, 1) := by decide +kernel
theorem z_d19_145 : decode prog_97_method_1_code 145 = .ok (.iadd, 1) := by decide +kernel
theorem z_d19_146 : decode prog_97_method_1_code 146 = .ok (.newarray .int, 2) := by decide +kernel
theorem z_d19_148 : decode prog_97_method_1_code 148 = .ok (.astore 5, 2) := by decide +kernel
theorem z_d19_150 : decode prog_97_method_1_code 150 = .ok (.aload_n 0, 1) := by decide +kernel
theorem z_d19_151 : decode prog_97_method_1_code 151 = .ok (.getfield 13, 3) := by decide +kernel
theorem z_d19_154 : decode prog_97_method_1_code 154 = .ok (.iconst 1, 1) := by decide +kernel
theorem z_d19_155 : decode prog_97_method_1_code 155 = .ok (.iadd, 1) := by decide +kernel
theorem z_d19_156 : decode prog_97_method_1_code 156 = .ok (.newarray .int, 2) := by decide +kernel
theorem z_d19_158 : decode prog_97_method_1_code 158 = .ok (.astore 6, 2) := by decide +kernel
theorem z_d19_160 : decode prog_97_method_1_code 160 = .ok (.iconst 0, 1) := by decide +kernel
theorem z_d19_161 : decode prog_97_method_1_code 161 = .ok (.istore 7, 2) := by decide +kernel
theorem z_d19_163 : decode prog_97_method_1_code 163 = .ok (.iconst 0, 1) := by decide +kernel
theorem z_d19_164 : decode prog_97_method_1_code 164 = .ok (.istore 8, 2) := by decide +kernel
theorem z_d19_166 : decode prog_97_method_1_code 166 = .ok (.iload 8, 2) := by decide +kernel
theorem z_d19_168 : decode prog_97_method_1_code 168 = .ok (.aload_n 1, 1) := by decide +kernel
theorem z_d19_169 : decode prog_97_method_1_code 169 = .ok (.invokevirtual 38, 3) := by decide +kernel
theorem z_d19_172 : decode prog_97_method_1_code 172 = .ok (.invokeinterface 42 1, 5) := by decide +kernel
theorem z_d19_177 : decode prog_97_method_1_code 177 = .ok (.if_icmp .ge 194, 3) := by decide +kernel
theorem z_d19_180 : decode prog_97_method_1_code 180 = .ok (.aload_n 1, 1) := by decide +kernel
theorem z_d19_181 : decode prog_97_method_1_code 181 = .ok (.invokevirtual 38, 3) := by decide +kernel
theorem z_d19_184 : decode prog_97_method_1_code 184 = .ok (.iload 8, 2) := by decide +kernel
theorem z_d19_186 : decode prog_97_method_1_code 186 = .ok (.invokeinterface 51 2, 5) := by decide +kernel
theorem z_d19_191 : decode prog_97_method_1_code 191 = .ok (.checkcast 55, 3) := by decide +kernel
theorem z_d19_194 : decode prog_97_method_1_code 194 = .ok (.invokestatic 56, 3) := by decide +kernel
theorem z_d27_0 : decode prog_97_method_2_code 0 = .ok (.aload_n 0, 1) := by decide +kernel
theorem z_d27_1 : decode prog_97_method_2_code 1 = .ok (.arraylength, 1) := by decide +kernel
theorem z_d27_2 : decode prog_97_method_2_code 2 = .ok (.newarray .int, 2) := by decide +kernel
theorem z_d27_4 : decode prog_97_method_2_code 4 = .ok (.astore_n 1, 1) := by decide +kernel
theorem z_d27_5 : decode prog_97_method_2_code 5 = .ok (.iconst 0, 1) := by decide +kernel
theorem z_d27_6 : decode prog_97_method_2_code 6 = .ok (.istore_n 2, 1) := by decide +kernel
theorem z_d27_7 : decode prog_97_method_2_code 7 = .ok (.iload_n 2, 1) := by decide +kernel
theorem z_d27_8 : decode prog_97_method_2_code 8 = .ok (.aload_n 0, 1) := by decide +kernel
theorem z_d27_9 : decode prog_97_method_2_code 9 = .ok (.arraylength, 1) := by decide +kernel
theorem z_d27_10 : decode prog_97_method_2_code 10 = .ok (.if_icmp .ge 34, 3) := by decide +kernel
theorem z_d27_13 : decode prog_97_method_2_code 13 = .ok (.aload_n 1, 1) := by decide +kernel
theorem z_d27_14 : decode prog_97_method_2_code 14 = .ok (.iload_n 2, 1) := by decide +kernel
theorem z_d27_15 : decode prog_97_method_2_code 15 = .ok (.aload_n 0, 1) := by decide +kernel
theorem z_d27_16 : decode prog_97_method_2_code 16 = .ok (.iload_n 2, 1) := by decide +kernel
theorem z_d27_17 : decode prog_97_method_2_code 17 = .ok (.iaload, 1) := by decide +kernel
theorem z_d27_18 : decode prog_97_method_2_code 18 = .ok (.ifCond .le 11, 3) := by decide +kernel
theorem z_d27_21 : decode prog_97_method_2_code 21 = .ok (.iconst 2, 1) := by decide +kernel
theorem z_d27_22 : decode prog_97_method_2_code 22 = .ok (.aload_n 0, 1) := by decide +kernel
theorem z_d27_23 : decode prog_97_method_2_code 23 = .ok (.iload_n 2, 1) := by decide +kernel
theorem z_d27_24 : decode prog_97_method_2_code 24 = .ok (.iaload, 1) := by decide +kernel
theorem z_d27_25 : decode prog_97_method_2_code 25 = .ok (.imul, 1) := by decide +kernel
theorem z_d27_26 : decode prog_97_method_2_code 26 = .ok (.goto 11, 3) := by decide +kernel
theorem z_d27_29 : decode prog_97_method_2_code 29 = .ok (.bipush (-2), 2) := by decide +kernel
theorem z_d27_31 : decode prog_97_method_2_code 31 = .ok (.aload_n 0, 1) := by decide +kernel
theorem z_d27_32 : decode prog_97_method_2_code 32 = .ok (.iload_n 2, 1) := by decide +kernel
theorem z_d27_33 : decode prog_97_method_2_code 33 = .ok (.iaload, 1) := by decide +kernel
theorem z_d27_34 : decode prog_97_method_2_code 34 = .ok (.imul, 1) := by decide +kernel
theorem z_d27_35 : decode prog_97_method_2_code 35 = .ok (.iconst 1, 1) := by decide +kernel
theorem z_d27_36 : decode prog_97_method_2_code 36 = .ok (.iadd, 1) := by decide +kernel
theorem z_d27_37 : decode prog_97_method_2_code 37 = .ok (.iastore, 1) := by decide +kernel
theorem z_d27_38 : decode prog_97_method_2_code 38 = .ok (.iinc 2 1, 3) := by decide +kernel
theorem z_d27_41 : decode prog_97_method_2_code 41 = .ok (.goto (-34), 3) := by decide +kernel
theorem z_d27_44 : decode prog_97_method_2_code 44 = .ok (.aload_n 1, 1) := by decide +kernel
theorem z_d27_45 : decode prog_97_method_2_code 45 = .ok (.areturn, 1) := by decide +kernel
theorem z_d19_197 : decode prog_97_method_1_code 197 = .ok (.astore 9, 2) := by decide +kernel
theorem z_d19_199 : decode prog_97_method_1_code 199 = .ok (.aload 9, 2) := by decide +kernel
theorem z_d19_201 : decode prog_97_method_1_code 201 = .ok (.arraylength, 1) := by decide +kernel
theorem z_d19_202 : decode prog_97_method_1_code 202 = .ok (.ifCond .ne 11, 3) := by decide +kernel
theorem z_d19_213 : decode prog_97_method_1_code 213 = .ok (.aload 9, 2) := by decide +kernel
theorem z_d19_215 : decode prog_97_method_1_code 215 = .ok (.arraylength, 1) := by decide +kernel
theorem z_d19_216 : decode prog_97_method_1_code 216 = .ok (.iconst 1, 1) := by decide +kernel
theorem z_d19_217 : decode prog_97_method_1_code 217 = .ok (.if_icmp .ne 15, 3) := by decide +kernel
theorem z_d19_232 : decode prog_97_method_1_code 232 = .ok (.aload 9, 2) := by decide +kernel
theorem z_d19_234 : decode prog_97_method_1_code 234 = .ok (.arraylength, 1) := by decide +kernel
theorem z_d19_235 : decode prog_97_method_1_code 235 = .ok (.iconst 2, 1) := by decide +kernel
theorem z_d19_236 : decode prog_97_method_1_code 236 = .ok (.if_icmp .ne 50, 3) := by decide +kernel
theorem z_d19_286 : decode prog_97_method_1_code 286 = .ok (.aload_n 0, 1) := by decide +kernel
theorem z_d19_287 : decode prog_97_method_1_code 287 = .ok (.getfield 47, 3) := by decide +kernel
theorem z_d19_290 : decode prog_97_method_1_code 290 = .ok (.aload 4, 2) := by decide +kernel
theorem z_d19_292 : decode prog_97_method_1_code 292 = .ok (.invokeinterface 42 1, 5) := by decide +kernel
theorem z_d19_297 : decode prog_97_method_1_code 297 = .ok (.aload_n 1, 1) := by decide +kernel
theorem z_d19_298 : decode prog_97_method_1_code 298 = .ok (.iload 8, 2) := by decide +kernel
theorem z_d19_300 : decode prog_97_method_1_code 300 = .ok (.invokevirtual 68, 3) := by decide +kernel
theorem z_d28_0 : decode prog_73_method_5_code 0 = .ok (.aload_n 0, 1) := by decide +kernel
theorem z_d28_1 : decode prog_73_method_5_code 1 = .ok (.getfield 19, 3) := by decide +kernel
theorem z_d28_4 : decode prog_73_method_5_code 4 = .ok (.iload_n 1, 1) := by decide +kernel
theorem z_d28_5 : decode prog_73_method_5_code 5 = .ok (.invokevirtual 85, 3) := by decide +kernel
theorem z_d29_0 : decode jdk_92_method_26_code 0 = .ok (.iload_n 1, 1) := by decide +kernel
theorem z_d29_1 : decode jdk_92_method_26_code 1 = .ok (.ifCond .ge 30, 3) := by decide +kernel
theorem z_d29_31 : decode jdk_92_method_26_code 31 = .ok (.aload_n 0, 1) := by decide +kernel
theorem z_d29_32 : decode jdk_92_method_26_code 32 = .ok (.invokevirtual 56, 3) := by decide +kernel
theorem z_d30_0 : decode jdk_92_method_2_code 0 = .ok (.getstatic 3, 3) := by decide +kernel
theorem z_d30_3 : decode jdk_92_method_2_code 3 = .ok (.ifCond .ne 34, 3) := by decide +kernel
theorem z_d30_37 : decode jdk_92_method_2_code 37 = .ok (.getstatic 3, 3) := by decide +kernel
theorem z_d30_40 : decode jdk_92_method_2_code 40 = .ok (.ifCond .ne 30, 3) := by decide +kernel
theorem z_d30_70 : decode jdk_92_method_2_code 70 = .ok (.getstatic 3, 3) := by decide +kernel
theorem z_d30_73 : decode jdk_92_method_2_code 73 = .ok (.ifCond .ne 37, 3) := by decide +kernel
theorem z_d30_110 : decode jdk_92_method_2_code 110 = .ok (.return_, 1) := by decide +kernel
theorem z_d29_35 : decode jdk_92_method_26_code 35 = .ok (.iload_n 1, 1) := by decide +kernel
theorem z_d29_36 : decode jdk_92_method_26_code 36 = .ok (.invokestatic 52, 3) := by decide +kernel
theorem z_d29_39 : decode jdk_92_method_26_code 39 = .ok (.istore_n 2, 1) := by decide +kernel
theorem z_d29_40 : decode jdk_92_method_26_code 40 = .ok (.iload_n 2, 1) := by decide +kernel
theorem z_d29_41 : decode jdk_92_method_26_code 41 = .ok (.aload_n 0, 1) := by decide +kernel
theorem z_d29_42 : decode jdk_92_method_26_code 42 = .ok (.getfield 7, 3) := by decide +kernel
theorem z_d29_45 : decode jdk_92_method_26_code 45 = .ok (.if_icmp .ge 22, 3) := by decide +kernel
theorem z_d29_67 : decode jdk_92_method_26_code 67 = .ok (.iconst 0, 1) := by decide +kernel
theorem z_d29_68 : decode jdk_92_method_26_code 68 = .ok (.ireturn, 1) := by decide +kernel
theorem z_d28_8 : decode prog_73_method_5_code 8 = .ok (.ireturn, 1) := by decide +kernel
theorem z_d19_303 : decode prog_97_method_1_code 303 = .ok (.bastore, 1) := by decide +kernel
theorem z_d19_304 : decode prog_97_method_1_code 304 = .ok (.aload 4, 2) := by decide +kernel
theorem z_d19_306 : decode prog_97_method_1_code 306 = .ok (.aload 9, 2) := by decide +kernel
theorem z_d19_308 : decode prog_97_method_1_code 308 = .ok (.invokeinterface 64 2, 5) := by decide +kernel
theorem z_d19_313 : decode prog_97_method_1_code 313 = .ok (.pop, 1) := by decide +kernel
theorem z_d19_314 : decode prog_97_method_1_code 314 = .ok (.iload 7, 2) := by decide +kernel
theorem z_d19_316 : decode prog_97_method_1_code 316 = .ok (.aload 9, 2) := by decide +kernel
theorem z_d19_318 : decode prog_97_method_1_code 318 = .ok (.arraylength, 1) := by decide +kernel
theorem z_d19_319 : decode prog_97_method_1_code 319 = .ok (.iadd, 1) := by decide +kernel
theorem z_d19_320 : decode prog_97_method_1_code 320 = .ok (.istore 7, 2) := by decide +kernel
theorem z_d19_322 : decode prog_97_method_1_code 322 = .ok (.aload 9, 2) := by decide +kernel
theorem z_d19_324 : decode prog_97_method_1_code 324 = .ok (.astore 10, 2) := by decide +kernel
theorem z_d19_326 : decode prog_97_method_1_code 326 = .ok (.aload 10, 2) := by decide +kernel
theorem z_d19_328 : decode prog_97_method_1_code 328 = .ok (.arraylength, 1) := by decide +kernel
theorem z_d19_329 : decode prog_97_method_1_code 329 = .ok (.istore 11, 2) := by decide +kernel
theorem z_d19_331 : decode prog_97_method_1_code 331 = .ok (.iconst 0, 1) := by decide +kernel
theorem z_d19_332 : decode prog_97_method_1_code 332 = .ok (.istore 12, 2) := by decide +kernel
theorem z_d19_334 : decode prog_97_method_1_code 334 = .ok (.iload 12, 2) := by decide +kernel
theorem z_d19_336 : decode prog_97_method_1_code 336 = .ok (.iload 11, 2) := by decide +kernel
theorem z_d19_338 : decode prog_97_method_1_code 338 = .ok (.if_icmp .ge 27, 3) := by decide +kernel
theorem z_d19_341 : decode prog_97_method_1_code 341 = .ok (.aload 10, 2) := by decide +kernel
theorem z_d19_343 : decode prog_97_method_1_code 343 = .ok (.iload 12, 2) := by decide +kernel
theorem z_d19_345 : decode prog_97_method_1_code 345 = .ok (.iaload, 1) := by decide +kernel
theorem z_d19_346 : decode prog_97_method_1_code 346 = .ok (.istore 13, 2) := by decide +kernel
theorem z_d19_348 : decode prog_97_method_1_code 348 = .ok (.aload 6, 2) := by decide +kernel
theorem z_d19_350 : decode prog_97_method_1_code 350 = .ok (.iload 13, 2) := by decide +kernel
theorem z_d19_352 : decode prog_97_method_1_code 352 = .ok (.iconst 1, 1) := by decide +kernel
theorem z_d19_353 : decode prog_97_method_1_code 353 = .ok (.ishr, 1) := by decide +kernel
theorem z_d19_354 : decode prog_97_method_1_code 354 = .ok (.dup2, 1) := by decide +kernel
theorem z_d19_355 : decode prog_97_method_1_code 355 = .ok (.iaload, 1) := by decide +kernel
theorem z_d19_356 : decode prog_97_method_1_code 356 = .ok (.iconst 1, 1) := by decide +kernel
theorem z_d19_357 : decode prog_97_method_1_code 357 = .ok (.iadd, 1) := by decide +kernel
theorem z_d19_358 : decode prog_97_method_1_code 358 = .ok (.iastore, 1) := by decide +kernel
theorem z_d19_359 : decode prog_97_method_1_code 359 = .ok (.iinc 12 1, 3) := by decide +kernel
theorem z_d19_362 : decode prog_97_method_1_code 362 = .ok (.goto (-28), 3) := by decide +kernel
theorem z_d19_365 : decode prog_97_method_1_code 365 = .ok (.iinc 8 1, 3) := by decide +kernel
theorem z_d19_368 : decode prog_97_method_1_code 368 = .ok (.goto (-202), 3) := by decide +kernel
theorem z_d19_371 : decode prog_97_method_1_code 371 = .ok (.aload_n 0, 1) := by decide +kernel
theorem z_d19_372 : decode prog_97_method_1_code 372 = .ok (.iconst 2, 1) := by decide +kernel
theorem z_d19_373 : decode prog_97_method_1_code 373 = .ok (.aload_n 0, 1) := by decide +kernel
theorem z_d19_374 : decode prog_97_method_1_code 374 = .ok (.getfield 13, 3) := by decide +kernel
theorem z_d19_377 : decode prog_97_method_1_code 377 = .ok (.imul, 1) := by decide +kernel
theorem z_d19_378 : decode prog_97_method_1_code 378 = .ok (.iconst 2, 1) := by decide +kernel
theorem z_d19_379 : decode prog_97_method_1_code 379 = .ok (.iadd, 1) := by decide +kernel
theorem z_d19_380 : decode prog_97_method_1_code 380 = .ok (.anewarray 55, 3) := by decide +kernel
theorem z_d19_383 : decode prog_97_method_1_code 383 = .ok (.putfield 72, 3) := by decide +kernel
theorem z_d19_386 : decode prog_97_method_1_code 386 = .ok (.iconst 0, 1) := by decide +kernel
theorem z_d19_387 : decode prog_97_method_1_code 387 = .ok (.istore 8, 2) := by decide +kernel
theorem z_d19_389 : decode prog_97_method_1_code 389 = .ok (.iload 8, 2) := by decide +kernel
theorem z_d19_391 : decode prog_97_method_1_code 391 = .ok (.aload_n 0, 1) := by decide +kernel
theorem z_d19_392 : decode prog_97_method_1_code 392 = .ok (.getfield 72, 3) := by decide +kernel
theorem z_d19_395 : decode prog_97_method_1_code 395 = .ok (.arraylength, 1) := by decide +kernel
theorem z_d19_396 : decode prog_97_method_1_code 396 = .ok (.if_icmp .ge 37, 3) := by decide +kernel
theorem z_d19_399 : decode prog_97_method_1_code 399 = .ok (.aload_n 0, 1) := by decide +kernel
theorem z_d19_400 : decode prog_97_method_1_code 400 = .ok (.getfield 72, 3) := by decide +kernel
theorem z_d19_403 : decode prog_97_method_1_code 403 = .ok (.iload 8, 2) := by decide +kernel
theorem z_d19_405 : decode prog_97_method_1_code 405 = .ok (.aload 5, 2) := by decide +kernel
theorem z_d19_407 : decode prog_97_method_1_code 407 = .ok (.iload 8, 2) := by decide +kernel
theorem z_d19_409 : decode prog_97_method_1_code 409 = .ok (.iaload, 1) := by decide +kernel
theorem z_d19_410 : decode prog_97_method_1_code 410 = .ok (.ifCond .ne 9, 3) := by decide +kernel
theorem z_d19_413 : decode prog_97_method_1_code 413 = .ok (.getstatic 76, 3) := by decide +kernel
theorem z_d19_416 : decode prog_97_method_1_code 416 = .ok (.goto 10, 3) := by decide +kernel
theorem z_d19_426 : decode prog_97_method_1_code 426 = .ok (.aastore, 1) := by decide +kernel
theorem z_d19_427 : decode prog_97_method_1_code 427 = .ok (.iinc 8 1, 3) := by decide +kernel
theorem z_d19_430 : decode prog_97_method_1_code 430 = .ok (.goto (-41), 3) := by decide +kernel
theorem z_d19_433 : decode prog_97_method_1_code 433 = .ok (.aload 5, 2) := by decide +kernel
theorem z_d19_435 : decode prog_97_method_1_code 435 = .ok (.iconst 0, 1) := by decide +kernel
theorem z_d19_436 : decode prog_97_method_1_code 436 = .ok (.invokestatic 79, 3) := by decide +kernel
theorem z_d31_0 : decode jdk_65_method_103_code 0 = .ok (.iconst 0, 1) := by decide +kernel
theorem z_d31_1 : decode jdk_65_method_103_code 1 = .ok (.istore_n 2, 1) := by decide +kernel
theorem z_d31_2 : decode jdk_65_method_103_code 2 = .ok (.aload_n 0, 1) := by decide +kernel
theorem z_d31_3 : decode jdk_65_method_103_code 3 = .ok (.arraylength, 1) := by decide +kernel
theorem z_d31_4 : decode jdk_65_method_103_code 4 = .ok (.istore_n 3, 1) := by decide +kernel
theorem z_d31_5 : decode jdk_65_method_103_code 5 = .ok (.iload_n 2, 1) := by decide +kernel
theorem z_d31_6 : decode jdk_65_method_103_code 6 = .ok (.iload_n 3, 1) := by decide +kernel
theorem z_d31_7 : decode jdk_65_method_103_code 7 = .ok (.if_icmp .ge 13, 3) := by decide +kernel
theorem z_d31_10 : decode jdk_65_method_103_code 10 = .ok (.aload_n 0, 1) := by decide +kernel
theorem z_d31_11 : decode jdk_65_method_103_code 11 = .ok (.iload_n 2, 1) := by decide +kernel
theorem z_d31_12 : decode jdk_65_method_103_code 12 = .ok (.iload_n 1, 1) := by decide +kernel
theorem z_d31_13 : decode jdk_65_method_103_code 13 = .ok (.iastore, 1) := by decide +kernel
theorem z_d31_14 : decode jdk_65_method_103_code 14 = .ok (.iinc 2 1, 3) := by decide +kernel
theorem z_d31_17 : decode jdk_65_method_103_code 17 = .ok (.goto (-12), 3) := by decide +kernel
theorem z_d31_20 : decode jdk_65_method_103_code 20 = .ok (.return_, 1) := by decide +kernel
theorem z_d19_439 : decode prog_97_method_1_code 439 = .ok (.aload_n 3, 1) := by decide +kernel
theorem z_d19_440 : decode prog_97_method_1_code 440 = .ok (.invokeinterface 85 1, 5) := by decide +kernel
theorem z_d32_0 : decode jdk_38_method_55_code 0 = .ok (.new 267, 3) := by decide +kernel
theorem z_d32_3 : decode jdk_38_method_55_code 3 = .ok (.dup, 1) := by decide +kernel
theorem z_d32_4 : decode jdk_38_method_55_code 4 = .ok (.aload_n 0, 1) := by decide +kernel
theorem z_d32_5 : decode jdk_38_method_55_code 5 = .ok (.invokespecial 269, 3) := by decide +kernel
theorem z_d33_0 : decode jdk_49_method_1_code 0 = .ok (.aload_n 0, 1) := by decide +kernel
theorem z_d33_1 : decode jdk_49_method_1_code 1 = .ok (.aload_n 1, 1) := by decide +kernel
theorem z_d33_2 : decode jdk_49_method_1_code 2 = .ok (.putfield 1, 3) := by decide +kernel
theorem z_d33_5 : decode jdk_49_method_1_code 5 = .ok (.aload_n 0, 1) := by decide +kernel
theorem z_d33_6 : decode jdk_49_method_1_code 6 = .ok (.invokespecial 7, 3) := by decide +kernel
theorem z_d33_9 : decode jdk_49_method_1_code 9 = .ok (.aload_n 0, 1) := by decide +kernel
theorem z_d33_10 : decode jdk_49_method_1_code 10 = .ok (.iconst (-1), 1) := by decide +kernel
theorem z_d33_11 : decode jdk_49_method_1_code 11 = .ok (.putfield 13, 3) := by decide +kernel
theorem z_d33_14 : decode jdk_49_method_1_code 14 = .ok (.aload_n 0, 1) := by decide +kernel
theorem z_d33_15 : decode jdk_49_method_1_code 15 = .ok (.aload_n 0, 1) := by decide +kernel
theorem z_d33_16 : decode jdk_49_method_1_code 16 = .ok (.getfield 1, 3) := by decide +kernel
theorem z_d33_19 : decode jdk_49_method_1_code 19 = .ok (.getfield 17, 3) := by decide +kernel
theorem z_d33_22 : decode jdk_49_method_1_code 22 = .ok (.putfield 22, 3) := by decide +kernel
theorem z_d33_25 : decode jdk_49_method_1_code 25 = .ok (.return_, 1) := by decide +kernel
theorem z_d32_8 : decode jdk_38_method_55_code 8 = .ok (.areturn, 1) := by decide +kernel
theorem z_d19_445 : decode prog_97_method_1_code 445 = .ok (.astore 8, 2) := by decide +kernel
theorem z_d19_447 : decode prog_97_method_1_code 447 = .ok (.aload 8, 2) := by decide +kernel
theorem z_d19_449 : decode prog_97_method_1_code 449 = .ok (.invokeinterface 89 1, 5) := by decide +kernel
theorem z_d34_0 : decode jdk_49_method_2_code 0 = .ok (.aload_n 0, 1) := by decide +kernel
theorem z_d34_1 : decode jdk_49_method_2_code 1 = .ok (.getfield 25, 3) := by decide +kernel
theorem z_d34_4 : decode jdk_49_method_2_code 4 = .ok (.aload_n 0, 1) := by decide +kernel
theorem z_d34_5 : decode jdk_49_method_2_code 5 = .ok (.getfield 1, 3) := by decide +kernel
theorem z_d34_8 : decode jdk_49_method_2_code 8 = .ok (.getfield 28, 3) := by decide +kernel
theorem z_d34_11 : decode jdk_49_method_2_code 11 = .ok (.if_icmp .eq 7, 3) := by decide +kernel
theorem z_d34_18 : decode jdk_49_method_2_code 18 = .ok (.iconst 0, 1) := by decide +kernel
theorem z_d34_19 : decode jdk_49_method_2_code 19 = .ok (.ireturn, 1) := by decide +kernel
theorem z_d19_454 : decode prog_97_method_1_code 454 = .ok (.ifCond .eq 78, 3) := by decide +kernel
theorem z_d19_532 : decode prog_97_method_1_code 532 = .ok (.aload_n 0, 1) := by decide +kernel
theorem z_d19_533 : decode prog_97_method_1_code 533 = .ok (.iload 7, 2) := by decide +kernel
theorem z_d19_535 : decode prog_97_method_1_code 535 = .ok (.newarray .int, 2) := by decide +kernel
theorem z_d19_537 : decode prog_97_method_1_code 537 = .ok (.putfield 99, 3) := by decide +kernel
theorem z_d19_540 : decode prog_97_method_1_code 540 = .ok (.aload_n 0, 1) := by decide +kernel
theorem z_d19_541 : decode prog_97_method_1_code 541 = .ok (.aload 4, 2) := by decide +kernel
theorem z_d19_543 : decode prog_97_method_1_code 543 = .ok (.invokeinterface 42 1, 5) := by decide +kernel
theorem z_d19_548 : decode prog_97_method_1_code 548 = .ok (.iconst 1, 1) := by decide +kernel
theorem z_d19_549 : decode prog_97_method_1_code 549 = .ok (.iadd, 1) := by decide +kernel
theorem z_d19_550 : decode prog_97_method_1_code 550 = .ok (.newarray .int, 2) := by decide +kernel
theorem z_d19_552 : decode prog_97_method_1_code 552 = .ok (.putfield 102, 3) := by decide +kernel
theorem z_d19_555 : decode prog_97_method_1_code 555 = .ok (.aload_n 0, 1) := by decide +kernel
theorem z_d19_556 : decode prog_97_method_1_code 556 = .ok (.aload_n 0, 1) := by decide +kernel
theorem z_d19_557 : decode prog_97_method_1_code 557 = .ok (.getfield 13, 3) := by decide +kernel
theorem z_d19_560 : decode prog_97_method_1_code 560 = .ok (.iconst 1, 1) := by decide +kernel
theorem z_d19_561 : decode prog_97_method_1_code 561 = .ok (.iadd, 1) := by decide +kernel
theorem z_d19_562 : decode prog_97_method_1_code 562 = .ok (.anewarray 55, 3) := by decide +kernel
theorem z_d19_565 : decode prog_97_method_1_code 565 = .ok (.putfield 105, 3) := by decide +kernel
theorem z_d19_568 : decode prog_97_method_1_code 568 = .ok (.iconst 0, 1) := by decide +kernel
theorem z_d19_569 : decode prog_97_method_1_code 569 = .ok (.istore 8, 2) := by decide +kernel
theorem z_d19_571 : decode prog_97_method_1_code 571 = .ok (.iload 8, 2) := by decide +kernel
theorem z_d19_573 : decode prog_97_method_1_code 573 = .ok (.aload_n 0, 1) := by decide +kernel
theorem z_d19_574 : decode prog_97_method_1_code 574 = .ok (.getfield 13, 3) := by decide +kernel
theorem z_d19_577 : decode prog_97_method_1_code 577 = .ok (.if_icmp .gt 37, 3) := by decide +kernel
theorem z_d19_580 : decode prog_97_method_1_code 580 = .ok (.aload_n 0, 1) := by decide +kernel
theorem z_d19_581 : decode prog_97_method_1_code 581 = .ok (.getfield 105, 3) := by decide +kernel
theorem z_d19_584 : decode prog_97_method_1_code 584 = .ok (.iload 8, 2) := by decide +kernel
theorem z_d19_586 : decode prog_97_method_1_code 586 = .ok (.aload 6, 2) := by decide +kernel
theorem z_d19_588 : decode prog_97_method_1_code 588 = .ok (.iload 8, 2) := by decide +kernel
theorem z_d19_590 : decode prog_97_method_1_code 590 = .ok (.iaload, 1) := by decide +kernel
theorem z_d19_591 : decode prog_97_method_1_code 591 = .ok (.ifCond .ne 9, 3) := by decide +kernel
theorem z_d19_594 : decode prog_97_method_1_code 594 = .ok (.getstatic 76, 3) := by decide +kernel
theorem z_d19_597 : decode prog_97_method_1_code 597 = .ok (.goto 10, 3) := by decide +kernel
theorem z_d19_607 : decode prog_97_method_1_code 607 = .ok (.aastore, 1) := by decide +kernel
theorem z_d19_608 : decode prog_97_method_1_code 608 = .ok (.iinc 8 1, 3) := by decide +kernel
theorem z_d19_611 : decode prog_97_method_1_code 611 = .ok (.goto (-40), 3) := by decide +kernel
theorem z_d19_600 : decode prog_97_method_1_code 600 = .ok (.aload 6, 2) := by decide +kernel
theorem z_d19_602 : decode prog_97_method_1_code 602 = .ok (.iload 8, 2) := by decide +kernel
theorem z_d19_604 : decode prog_97_method_1_code 604 = .ok (.iaload, 1) := by decide +kernel
theorem z_d19_605 : decode prog_97_method_1_code 605 = .ok (.newarray .int, 2) := by decide +kernel
theorem z_d19_614 : decode prog_97_method_1_code 614 = .ok (.aload 6, 2) := by decide +kernel
theorem z_d19_616 : decode prog_97_method_1_code 616 = .ok (.iconst 0, 1) := by decide +kernel
theorem z_d19_617 : decode prog_97_method_1_code 617 = .ok (.invokestatic 79, 3) := by decide +kernel
theorem z_d19_620 : decode prog_97_method_1_code 620 = .ok (.aload_n 0, 1) := by decide +kernel
theorem z_d19_621 : decode prog_97_method_1_code 621 = .ok (.iconst 2, 1) := by decide +kernel
theorem z_d19_622 : decode prog_97_method_1_code 622 = .ok (.aload_n 0, 1) := by decide +kernel
theorem z_d19_623 : decode prog_97_method_1_code 623 = .ok (.getfield 13, 3) := by decide +kernel
theorem z_d19_626 : decode prog_97_method_1_code 626 = .ok (.imul, 1) := by decide +kernel
theorem z_d19_627 : decode prog_97_method_1_code 627 = .ok (.iconst 2, 1) := by decide +kernel
theorem z_d19_628 : decode prog_97_method_1_code 628 = .ok (.iadd, 1) := by decide +kernel
theorem z_d19_629 : decode prog_97_method_1_code 629 = .ok (.anewarray 55, 3) := by decide +kernel
theorem z_d19_632 : decode prog_97_method_1_code 632 = .ok (.putfield 108, 3) := by decide +kernel
theorem z_d19_635 : decode prog_97_method_1_code 635 = .ok (.aload_n 0, 1) := by decide +kernel
theorem z_d19_636 : decode prog_97_method_1_code 636 = .ok (.getfield 108, 3) := by decide +kernel
theorem z_d19_639 : decode prog_97_method_1_code 639 = .ok (.getstatic 76, 3) := by decide +kernel
theorem z_d19_642 : decode prog_97_method_1_code 642 = .ok (.invokestatic 111, 3) := by decide +kernel
theorem z_d35_0 : decode jdk_65_method_117_code 0 = .ok (.iconst 0, 1) := by decide +kernel
theorem z_d35_1 : decode jdk_65_method_117_code 1 = .ok (.istore_n 2, 1) := by decide +kernel
theorem z_d35_2 : decode jdk_65_method_117_code 2 = .ok (.aload_n 0, 1) := by decide +kernel
theorem z_d35_3 : decode jdk_65_method_117_code 3 = .ok (.arraylength, 1) := by decide +kernel
theorem z_d35_4 : decode jdk_65_method_117_code 4 = .ok (.istore_n 3, 1) := by decide +kernel
theorem z_d35_5 : decode jdk_65_method_117_code 5 = .ok (.iload_n 2, 1) := by decide +kernel
theorem z_d35_6 : decode jdk_65_method_117_code 6 = .ok (.iload_n 3, 1) := by decide +kernel
theorem z_d35_7 : decode jdk_65_method_117_code 7 = .ok (.if_icmp .ge 13, 3) := by decide +kernel
theorem z_d35_10 : decode jdk_65_method_117_code 10 = .ok (.aload_n 0, 1) := by decide +kernel
theorem z_d35_11 : decode jdk_65_method_117_code 11 = .ok (.iload_n 2, 1) := by decide +kernel
theorem z_d35_12 : decode jdk_65_method_117_code 12 = .ok (.aload_n 1, 1) := by decide +kernel
theorem z_d35_13 : decode jdk_65_method_117_code 13 = .ok (.aastore, 1) := by decide +kernel
theorem z_d35_14 : decode jdk_65_method_117_code 14 = .ok (.iinc 2 1, 3) := by decide +kernel
theorem z_d35_17 : decode jdk_65_method_117_code 17 = .ok (.goto (-12), 3) := by decide +kernel
theorem z_d35_20 : decode jdk_65_method_117_code 20 = .ok (.return_, 1) := by decide +kernel
theorem z_d19_645 : decode prog_97_method_1_code 645 = .ok (.aload_n 0, 1) := by decide +kernel
theorem z_d19_646 : decode prog_97_method_1_code 646 = .ok (.iconst 2, 1) := by decide +kernel
theorem z_d19_647 : decode prog_97_method_1_code 647 = .ok (.aload_n 0, 1) := by decide +kernel
theorem z_d19_648 : decode prog_97_method_1_code 648 = .ok (.getfield 13, 3) := by decide +kernel
theorem z_d19_651 : decode prog_97_method_1_code 651 = .ok (.imul, 1) := by decide +kernel
theorem z_d19_652 : decode prog_97_method_1_code 652 = .ok (.iconst 2, 1) := by decide +kernel
theorem z_d19_653 : decode prog_97_method_1_code 653 = .ok (.iadd, 1) := by decide +kernel
theorem z_d19_654 : decode prog_97_method_1_code 654 = .ok (.newarray .int, 2) := by decide +kernel
theorem z_d19_656 : decode prog_97_method_1_code 656 = .ok (.putfield 114, 3) := by decide +kernel
theorem z_d19_659 : decode prog_97_method_1_code 659 = .ok (.iconst 0, 1) := by decide +kernel
theorem z_d19_660 : decode prog_97_method_1_code 660 = .ok (.istore 8, 2) := by decide +kernel
theorem z_d19_662 : decode prog_97_method_1_code 662 = .ok (.iconst 0, 1) := by decide +kernel
theorem z_d19_663 : decode prog_97_method_1_code 663 = .ok (.istore 9, 2) := by decide +kernel
theorem z_d19_665 : decode prog_97_method_1_code 665 = .ok (.iload 9, 2) := by decide +kernel
theorem z_d19_667 : decode prog_97_method_1_code 667 = .ok (.aload 4, 2) := by decide +kernel
theorem z_d19_669 : decode prog_97_method_1_code 669 = .ok (.invokeinterface 42 1, 5) := by decide +kernel
theorem z_d19_674 : decode prog_97_method_1_code 674 = .ok (.if_icmp .ge 131, 3) := by decide +kernel
theorem z_d19_677 : decode prog_97_method_1_code 677 = .ok (.aload 4, 2) := by decide +kernel
theorem z_d19_679 : decode prog_97_method_1_code 679 = .ok (.iload 9, 2) := by decide +kernel
theorem z_d19_681 : decode prog_97_method_1_code 681 = .ok (.invokeinterface 51 2, 5) := by decide +kernel
theorem z_d19_686 : decode prog_97_method_1_code 686 = .ok (.checkcast 55, 3) := by decide +kernel
theorem z_d19_689 : decode prog_97_method_1_code 689 = .ok (.astore 10, 2) := by decide +kernel
theorem z_d19_691 : decode prog_97_method_1_code 691 = .ok (.aload_n 0, 1) := by decide +kernel
theorem z_d19_692 : decode prog_97_method_1_code 692 = .ok (.getfield 102, 3) := by decide +kernel
theorem z_d19_695 : decode prog_97_method_1_code 695 = .ok (.iload 9, 2) := by decide +kernel
theorem z_d19_697 : decode prog_97_method_1_code 697 = .ok (.iload 8, 2) := by decide +kernel
theorem z_d19_699 : decode prog_97_method_1_code 699 = .ok (.iastore, 1) := by decide +kernel
theorem z_d19_700 : decode prog_97_method_1_code 700 = .ok (.aload 10, 2) := by decide +kernel
theorem z_d19_702 : decode prog_97_method_1_code 702 = .ok (.iconst 0, 1) := by decide +kernel
theorem z_d19_703 : decode prog_97_method_1_code 703 = .ok (.aload_n 0, 1) := by decide +kernel
theorem z_d19_704 : decode prog_97_method_1_code 704 = .ok (.getfield 99, 3) := by decide +kernel
theorem z_d19_707 : decode prog_97_method_1_code 707 = .ok (.iload 8, 2) := by decide +kernel
theorem z_d19_709 : decode prog_97_method_1_code 709 = .ok (.aload 10, 2) := by decide +kernel
theorem z_d19_711 : decode prog_97_method_1_code 711 = .ok (.arraylength, 1) := by decide +kernel
theorem z_d19_712 : decode prog_97_method_1_code 712 = .ok (.invokestatic 117, 3) := by decide +kernel
theorem z_d19_715 : decode prog_97_method_1_code 715 = .ok (.iload 8, 2) := by decide +kernel
theorem z_d19_717 : decode prog_97_method_1_code 717 = .ok (.aload 10, 2) := by decide +kernel
theorem z_d19_719 : decode prog_97_method_1_code 719 = .ok (.arraylength, 1) := by decide +kernel
theorem z_d19_720 : decode prog_97_method_1_code 720 = .ok (.iadd, 1) := by decide +kernel
theorem z_d19_721 : decode prog_97_method_1_code 721 = .ok (.istore 8, 2) := by decide +kernel
theorem z_d19_723 : decode prog_97_method_1_code 723 = .ok (.aload 10, 2) := by decide +kernel
theorem z_d19_725 : decode prog_97_method_1_code 725 = .ok (.astore 11, 2) := by decide +kernel
theorem z_d19_727 : decode prog_97_method_1_code 727 = .ok (.aload 11, 2) := by decide +kernel
theorem z_d19_729 : decode prog_97_method_1_code 729 = .ok (.arraylength, 1) := by decide +kernel
theorem z_d19_730 : decode prog_97_method_1_code 730 = .ok (.istore 12, 2) := by decide +kernel
theorem z_d19_732 : decode prog_97_method_1_code 732 = .ok (.iconst 0, 1) := by decide +kernel
theorem z_d19_733 : decode prog_97_method_1_code 733 = .ok (.istore 13, 2) := by decide +kernel
theorem z_d19_735 : decode prog_97_method_1_code 735 = .ok (.iload 13, 2) := by decide +kernel
theorem z_d19_737 : decode prog_97_method_1_code 737 = .ok (.iload 12, 2) := by decide +kernel
theorem z_d19_739 : decode prog_97_method_1_code 739 = .ok (.if_icmp .ge 40, 3) := by decide +kernel
theorem z_d19_742 : decode prog_97_method_1_code 742 = .ok (.aload 11, 2) := by decide +kernel
theorem z_d19_744 : decode prog_97_method_1_code 744 = .ok (.iload 13, 2) := by decide +kernel
theorem z_d19_746 : decode prog_97_method_1_code 746 = .ok (.iaload, 1) := by decide +kernel
theorem z_d19_747 : decode prog_97_method_1_code 747 = .ok (.istore 14, 2) := by decide +kernel
theorem z_d19_749 : decode prog_97_method_1_code 749 = .ok (.aload_n 0, 1) := by decide +kernel
theorem z_d19_750 : decode prog_97_method_1_code 750 = .ok (.getfield 105, 3) := by decide +kernel
theorem z_d19_753 : decode prog_97_method_1_code 753 = .ok (.iload 14, 2) := by decide +kernel
theorem z_d19_755 : decode prog_97_method_1_code 755 = .ok (.iconst 1, 1) := by decide +kernel
theorem z_d19_756 : decode prog_97_method_1_code 756 = .ok (.ishr, 1) := by decide +kernel
theorem z_d19_757 : decode prog_97_method_1_code 757 = .ok (.aaload, 1) := by decide +kernel
theorem z_d19_758 : decode prog_97_method_1_code 758 = .ok (.aload 6, 2) := by decide +kernel
theorem z_d19_760 : decode prog_97_method_1_code 760 = .ok (.iload 14, 2) := by decide +kernel
theorem z_d19_762 : decode prog_97_method_1_code 762 = .ok (.iconst 1, 1) := by decide +kernel
theorem z_d19_763 : decode prog_97_method_1_code 763 = .ok (.ishr, 1) := by decide +kernel
theorem z_d19_764 : decode prog_97_method_1_code 764 = .ok (.dup2, 1) := by decide +kernel
theorem z_d19_765 : decode prog_97_method_1_code 765 = .ok (.iaload, 1) := by decide +kernel
theorem z_d19_766 : decode prog_97_method_1_code 766 = .ok (.dup_x2, 1) := by decide +kernel
theorem z_d19_767 : decode prog_97_method_1_code 767 = .ok (.iconst 1, 1) := by decide +kernel
theorem z_d19_768 : decode prog_97_method_1_code 768 = .ok (.iadd, 1) := by decide +kernel
theorem z_d19_769 : decode prog_97_method_1_code 769 = .ok (.iastore, 1) := by decide +kernel
theorem z_d19_770 : decode prog_97_method_1_code 770 = .ok (.iload 9, 2) := by decide +kernel
theorem z_d19_772 : decode prog_97_method_1_code 772 = .ok (.iastore, 1) := by decide +kernel
theorem z_d19_773 : decode prog_97_method_1_code 773 = .ok (.iinc 13 1, 3) := by decide +kernel
theorem z_d19_776 : decode prog_97_method_1_code 776 = .ok (.goto (-41), 3) := by decide +kernel
theorem z_d19_779 : decode prog_97_method_1_code 779 = .ok (.aload_n 0, 1) := by decide +kernel
theorem z_d19_780 : decode prog_97_method_1_code 780 = .ok (.aload 10, 2) := by decide +kernel
theorem z_d19_782 : decode prog_97_method_1_code 782 = .ok (.iconst 0, 1) := by decide +kernel
theorem z_d19_783 : decode prog_97_method_1_code 783 = .ok (.iaload, 1) := by decide +kernel
theorem z_d19_784 : decode prog_97_method_1_code 784 = .ok (.iload 9, 2) := by decide +kernel
theorem z_d19_786 : decode prog_97_method_1_code 786 = .ok (.invokevirtual 123, 3) := by decide +kernel
theorem z_d36_0 : decode prog_97_method_12_code 0 = .ok (.aload_n 0, 1) := by decide +kernel
theorem z_d36_1 : decode prog_97_method_12_code 1 = .ok (.getfield 114, 3) := by decide +kernel
theorem z_d36_4 : decode prog_97_method_12_code 4 = .ok (.iload_n 1, 1) := by decide +kernel
theorem z_d36_5 : decode prog_97_method_12_code 5 = .ok (.iaload, 1) := by decide +kernel
theorem z_d36_6 : decode prog_97_method_12_code 6 = .ok (.aload_n 0, 1) := by decide +kernel
theorem z_d36_7 : decode prog_97_method_12_code 7 = .ok (.getfield 108, 3) := by decide +kernel
theorem z_d36_10 : decode prog_97_method_12_code 10 = .ok (.iload_n 1, 1) := by decide +kernel
theorem z_d36_11 : decode prog_97_method_12_code 11 = .ok (.aaload, 1) := by decide +kernel
theorem z_d36_12 : decode prog_97_method_12_code 12 = .ok (.arraylength, 1) := by decide +kernel
theorem z_d36_13 : decode prog_97_method_12_code 13 = .ok (.if_icmp .ne 30, 3) := by decide +kernel
theorem z_d36_16 : decode prog_97_method_12_code 16 = .ok (.aload_n 0, 1) := by decide +kernel
theorem z_d36_17 : decode prog_97_method_12_code 17 = .ok (.getfield 108, 3) := by decide +kernel
theorem z_d36_20 : decode prog_97_method_12_code 20 = .ok (.iload_n 1, 1) := by decide +kernel
theorem z_d36_21 : decode prog_97_method_12_code 21 = .ok (.aload_n 0, 1) := by decide +kernel
theorem z_d36_22 : decode prog_97_method_12_code 22 = .ok (.getfield 108, 3) := by decide +kernel
theorem z_d36_25 : decode prog_97_method_12_code 25 = .ok (.iload_n 1, 1) := by decide +kernel
theorem z_d36_26 : decode prog_97_method_12_code 26 = .ok (.aaload, 1) := by decide +kernel
theorem z_d36_27 : decode prog_97_method_12_code 27 = .ok (.iconst 4, 1) := by decide +kernel
theorem z_d36_28 : decode prog_97_method_12_code 28 = .ok (.iconst 2, 1) := by decide +kernel
theorem z_d36_29 : decode prog_97_method_12_code 29 = .ok (.aload_n 0, 1) := by decide +kernel
theorem z_d36_30 : decode prog_97_method_12_code 30 = .ok (.getfield 114, 3) := by decide +kernel
theorem z_d36_33 : decode prog_97_method_12_code 33 = .ok (.iload_n 1, 1) := by decide +kernel
theorem z_d36_34 : decode prog_97_method_12_code 34 = .ok (.iaload, 1) := by decide +kernel
theorem z_d36_35 : decode prog_97_method_12_code 35 = .ok (.imul, 1) := by decide +kernel
theorem z_d36_36 : decode prog_97_method_12_code 36 = .ok (.invokestatic 198, 3) := by decide +kernel
theorem z_d36_39 : decode prog_97_method_12_code 39 = .ok (.invokestatic 204, 3) := by decide +kernel
theorem z_d37_0 : decode jdk_65_method_123_code 0 = .ok (.iload_n 1, 1) := by decide +kernel
theorem z_d37_1 : decode jdk_65_method_123_code 1 = .ok (.aload_n 0, 1) := by decide +kernel
theorem z_d37_2 : decode jdk_65_method_123_code 2 = .ok (.arraylength, 1) := by decide +kernel
theorem z_d37_3 : decode jdk_65_method_123_code 3 = .ok (.if_icmp .ne 11, 3) := by decide +kernel
theorem z_d37_14 : decode jdk_65_method_123_code 14 = .ok (.iload_n 1, 1) := by decide +kernel
theorem z_d37_15 : decode jdk_65_method_123_code 15 = .ok (.newarray .int, 2) := by decide +kernel
theorem z_d37_17 : decode jdk_65_method_123_code 17 = .ok (.astore_n 2, 1) := by decide +kernel
theorem z_d37_18 : decode jdk_65_method_123_code 18 = .ok (.aload_n 0, 1) := by decide +kernel
theorem z_d37_19 : decode jdk_65_method_123_code 19 = .ok (.iconst 0, 1) := by decide +kernel
theorem z_d37_20 : decode jdk_65_method_123_code 20 = .ok (.aload_n 2, 1) := by decide +kernel
theorem z_d37_21 : decode jdk_65_method_123_code 21 = .ok (.iconst 0, 1) := by decide +kernel
theorem z_d37_22 : decode jdk_65_method_123_code 22 = .ok (.aload_n 0, 1) := by decide +kernel
theorem z_d37_23 : decode jdk_65_method_123_code 23 = .ok (.arraylength, 1) := by decide +kernel
theorem z_d37_24 : decode jdk_65_method_123_code 24 = .ok (.iload_n 1, 1) := by decide +kernel
theorem z_d37_25 : decode jdk_65_method_123_code 25 = .ok (.invokestatic 304, 3) := by decide +kernel
theorem z_d37_28 : decode jdk_65_method_123_code 28 = .ok (.invokestatic 150, 3) := by decide +kernel
theorem z_d37_31 : decode jdk_65_method_123_code 31 = .ok (.aload_n 2, 1) := by decide +kernel
theorem z_d37_32 : decode jdk_65_method_123_code 32 = .ok (.areturn, 1) := by decide +kernel
theorem z_d36_42 : decode prog_97_method_12_code 42 = .ok (.aastore, 1) := by decide +kernel
theorem z_d36_43 : decode prog_97_method_12_code 43 = .ok (.aload_n 0, 1) := by decide +kernel
theorem z_d36_44 : decode prog_97_method_12_code 44 = .ok (.getfield 108, 3) := by decide +kernel
theorem z_d36_47 : decode prog_97_method_12_code 47 = .ok (.iload_n 1, 1) := by decide +kernel
theorem z_d36_48 : decode prog_97_method_12_code 48 = .ok (.aaload, 1) := by decide +kernel
theorem z_d36_49 : decode prog_97_method_12_code 49 = .ok (.aload_n 0, 1) := by decide +kernel
theorem z_d36_50 : decode prog_97_method_12_code 50 = .ok (.getfield 114, 3) := by decide +kernel
theorem z_d36_53 : decode prog_97_method_12_code 53 = .ok (.iload_n 1, 1) := by decide +kernel
theorem z_d36_54 : decode prog_97_method_12_code 54 = .ok (.dup2, 1) := by decide +kernel
theorem z_d36_55 : decode prog_97_method_12_code 55 = .ok (.iaload, 1) := by decide +kernel
theorem z_d36_56 : decode prog_97_method_12_code 56 = .ok (.dup_x2, 1) := by decide +kernel
theorem z_d36_57 : decode prog_97_method_12_code 57 = .ok (.iconst 1, 1) := by decide +kernel
theorem z_d36_58 : decode prog_97_method_12_code 58 = .ok (.iadd, 1) := by decide +kernel
theorem z_d36_59 : decode prog_97_method_12_code 59 = .ok (.iastore, 1) := by decide +kernel
theorem z_d36_60 : decode prog_97_method_12_code 60 = .ok (.iload_n 2, 1) := by decide +kernel
theorem z_d36_61 : decode prog_97_method_12_code 61 = .ok (.iastore, 1) := by decide +kernel
theorem z_d36_62 : decode prog_97_method_12_code 62 = .ok (.return_, 1) := by decide +kernel
theorem z_d19_789 : decode prog_97_method_1_code 789 = .ok (.aload_n 0, 1) := by decide +kernel
theorem z_d19_790 : decode prog_97_method_1_code 790 = .ok (.aload 10, 2) := by decide +kernel
theorem z_d19_792 : decode prog_97_method_1_code 792 = .ok (.iconst 1, 1) := by decide +kernel
theorem z_d19_793 : decode prog_97_method_1_code 793 = .ok (.iaload, 1) := by decide +kernel
theorem z_d19_794 : decode prog_97_method_1_code 794 = .ok (.iload 9, 2) := by decide +kernel
theorem z_d19_796 : decode prog_97_method_1_code 796 = .ok (.invokevirtual 123, 3) := by decide +kernel
theorem z_d19_799 : decode prog_97_method_1_code 799 = .ok (.iinc 9 1, 3) := by decide +kernel
theorem z_d19_802 : decode prog_97_method_1_code 802 = .ok (.goto (-137), 3) := by decide +kernel
theorem z_d19_805 : decode prog_97_method_1_code 805 = .ok (.aload_n 0, 1) := by decide +kernel
theorem z_d19_806 : decode prog_97_method_1_code 806 = .ok (.getfield 102, 3) := by decide +kernel
theorem z_d19_809 : decode prog_97_method_1_code 809 = .ok (.aload 4, 2) := by decide +kernel
theorem z_d19_811 : decode prog_97_method_1_code 811 = .ok (.invokeinterface 42 1, 5) := by decide +kernel
theorem z_d19_816 : decode prog_97_method_1_code 816 = .ok (.iload 8, 2) := by decide +kernel
theorem z_d19_818 : decode prog_97_method_1_code 818 = .ok (.iastore, 1) := by decide +kernel
theorem z_d19_819 : decode prog_97_method_1_code 819 = .ok (.aload_n 2, 1) := by decide +kernel
theorem z_d19_820 : decode prog_97_method_1_code 820 = .ok (.invokeinterface 85 1, 5) := by decide +kernel
theorem z_d19_825 : decode prog_97_method_1_code 825 = .ok (.astore 9, 2) := by decide +kernel
theorem z_d19_827 : decode prog_97_method_1_code 827 = .ok (.aload 9, 2) := by decide +kernel
theorem z_d19_829 : decode prog_97_method_1_code 829 = .ok (.invokeinterface 89 1, 5) := by decide +kernel
theorem z_d19_834 : decode prog_97_method_1_code 834 = .ok (.ifCond .eq 58, 3) := by decide +kernel
theorem z_d19_892 : decode prog_97_method_1_code 892 = .ok (.iconst 2, 1) := by decide +kernel
theorem z_d19_893 : decode prog_97_method_1_code 893 = .ok (.istore 9, 2) := by decide +kernel
theorem z_d19_895 : decode prog_97_method_1_code 895 = .ok (.iload 9, 2) := by decide +kernel
theorem z_d19_897 : decode prog_97_method_1_code 897 = .ok (.aload_n 0, 1) := by decide +kernel
theorem z_d19_898 : decode prog_97_method_1_code 898 = .ok (.getfield 20, 3) := by decide +kernel
theorem z_d19_901 : decode prog_97_method_1_code 901 = .ok (.arraylength, 1) := by decide +kernel
theorem z_d19_902 : decode prog_97_method_1_code 902 = .ok (.if_icmp .ge 71, 3) := by decide +kernel
theorem z_d19_905 : decode prog_97_method_1_code 905 = .ok (.aload_n 0, 1) := by decide +kernel
theorem z_d19_906 : decode prog_97_method_1_code 906 = .ok (.getfield 20, 3) := by decide +kernel
theorem z_d19_909 : decode prog_97_method_1_code 909 = .ok (.iload 9, 2) := by decide +kernel
theorem z_d19_911 : decode prog_97_method_1_code 911 = .ok (.aaload, 1) := by decide +kernel
theorem z_d19_912 : decode prog_97_method_1_code 912 = .ok (.invokevirtual 131, 3) := by decide +kernel
theorem z_d38_0 : decode jdk_2097_method_81_code 0 = .ok (.aload_n 0, 1) := by decide +kernel
theorem z_d38_1 : decode jdk_2097_method_81_code 1 = .ok (.getfield 32, 3) := by decide +kernel
theorem z_d38_4 : decode jdk_2097_method_81_code 4 = .ok (.ireturn, 1) := by decide +kernel
theorem z_d19_915 : decode prog_97_method_1_code 915 = .ok (.ifCond .ne 24, 3) := by decide +kernel
theorem z_d19_939 : decode prog_97_method_1_code 939 = .ok (.aload_n 0, 1) := by decide +kernel
theorem z_d19_940 : decode prog_97_method_1_code 940 = .ok (.getfield 20, 3) := by decide +kernel
theorem z_d19_943 : decode prog_97_method_1_code 943 = .ok (.iload 9, 2) := by decide +kernel
theorem z_d19_945 : decode prog_97_method_1_code 945 = .ok (.aaload, 1) := by decide +kernel
theorem z_d19_946 : decode prog_97_method_1_code 946 = .ok (.invokevirtual 131, 3) := by decide +kernel
theorem z_d19_949 : decode prog_97_method_1_code 949 = .ok (.ifCond .ne 18, 3) := by decide +kernel
theorem z_d19_967 : decode prog_97_method_1_code 967 = .ok (.iinc 9 1, 3) := by decide +kernel
theorem z_d19_970 : decode prog_97_method_1_code 970 = .ok (.goto (-75), 3) := by decide +kernel
theorem z_d19_973 : decode prog_97_method_1_code 973 = .ok (.return_, 1) := by decide +kernel
theorem z_d39_0 : decode method_3_code 0 = .ok (.iload_n 2, 1) := by decide +kernel
theorem z_d39_1 : decode method_3_code 1 = .ok (.iconst 1, 1) := by decide +kernel
theorem z_d39_2 : decode method_3_code 2 = .ok (.if_icmp .ne 13, 3) := by decide +kernel
theorem z_d39_15 : decode method_3_code 15 = .ok (.iload_n 2, 1) := by decide +kernel
theorem z_d39_16 : decode method_3_code 16 = .ok (.iconst 2, 1) := by decide +kernel
theorem z_d39_17 : decode method_3_code 17 = .ok (.if_icmp .ne 12, 3) := by decide +kernel
theorem z_d39_29 : decode method_3_code 29 = .ok (.return_, 1) := by decide +kernel
theorem z_d39_5 : decode method_3_code 5 = .ok (.aload_n 0, 1) := by decide +kernel
theorem z_d39_6 : decode method_3_code 6 = .ok (.iconst 2, 1) := by decide +kernel
theorem z_d39_7 : decode method_3_code 7 = .ok (.iload_n 1, 1) := by decide +kernel
theorem z_d39_8 : decode method_3_code 8 = .ok (.imul, 1) := by decide +kernel
theorem z_d39_9 : decode method_3_code 9 = .ok (.invokevirtual 38, 3) := by decide +kernel
theorem z_d40_0 : decode prog_97_method_10_code 0 = .ok (.aload_n 0, 1) := by decide +kernel
theorem z_d40_1 : decode prog_97_method_10_code 1 = .ok (.getfield 27, 3) := by decide +kernel
theorem z_d40_4 : decode prog_97_method_10_code 4 = .ok (.iload_n 1, 1) := by decide +kernel
theorem z_d40_5 : decode prog_97_method_10_code 5 = .ok (.iconst 1, 1) := by decide +kernel
theorem z_d40_6 : decode prog_97_method_10_code 6 = .ok (.bastore, 1) := by decide +kernel
theorem z_d40_7 : decode prog_97_method_10_code 7 = .ok (.aload_n 0, 1) := by decide +kernel
theorem z_d40_8 : decode prog_97_method_10_code 8 = .ok (.getfield 27, 3) := by decide +kernel
theorem z_d40_11 : decode prog_97_method_10_code 11 = .ok (.iload_n 1, 1) := by decide +kernel
theorem z_d40_12 : decode prog_97_method_10_code 12 = .ok (.iconst 1, 1) := by decide +kernel
theorem z_d40_13 : decode prog_97_method_10_code 13 = .ok (.ixor, 1) := by decide +kernel
theorem z_d40_14 : decode prog_97_method_10_code 14 = .ok (.iconst (-1), 1) := by decide +kernel
theorem z_d40_15 : decode prog_97_method_10_code 15 = .ok (.bastore, 1) := by decide +kernel
theorem z_d40_16 : decode prog_97_method_10_code 16 = .ok (.aload_n 0, 1) := by decide +kernel
theorem z_d40_17 : decode prog_97_method_10_code 17 = .ok (.getfield 31, 3) := by decide +kernel
theorem z_d40_20 : decode prog_97_method_10_code 20 = .ok (.aload_n 0, 1) := by decide +kernel
theorem z_d40_21 : decode prog_97_method_10_code 21 = .ok (.dup, 1) := by decide +kernel
theorem z_d40_22 : decode prog_97_method_10_code 22 = .ok (.getfield 150, 3) := by decide +kernel
theorem z_d40_25 : decode prog_97_method_10_code 25 = .ok (.dup_x1, 1) := by decide +kernel
theorem z_d40_26 : decode prog_97_method_10_code 26 = .ok (.iconst 1, 1) := by decide +kernel
theorem z_d40_27 : decode prog_97_method_10_code 27 = .ok (.iadd, 1) := by decide +kernel
theorem z_d40_28 : decode prog_97_method_10_code 28 = .ok (.putfield 150, 3) := by decide +kernel
theorem z_d40_31 : decode prog_97_method_10_code 31 = .ok (.iload_n 1, 1) := by decide +kernel
theorem z_d40_32 : decode prog_97_method_10_code 32 = .ok (.iastore, 1) := by decide +kernel
theorem z_d40_33 : decode prog_97_method_10_code 33 = .ok (.return_, 1) := by decide +kernel
theorem z_d39_12 : decode method_3_code 12 = .ok (.goto 17, 3) := by decide +kernel
theorem z_d39_20 : decode method_3_code 20 = .ok (.aload_n 0, 1) := by decide +kernel
theorem z_d39_21 : decode method_3_code 21 = .ok (.iconst 2, 1) := by decide +kernel
theorem z_d39_22 : decode method_3_code 22 = .ok (.iload_n 1, 1) := by decide +kernel
theorem z_d39_23 : decode method_3_code 23 = .ok (.imul, 1) := by decide +kernel
theorem z_d39_24 : decode method_3_code 24 = .ok (.iconst 1, 1) := by decide +kernel
theorem z_d39_25 : decode method_3_code 25 = .ok (.iadd, 1) := by decide +kernel
theorem z_d39_26 : decode method_3_code 26 = .ok (.invokevirtual 38, 3) := by decide +kernel
theorem z_d41_0 : decode method_4_code 0 = .ok (.iload_n 0, 1) := by decide +kernel
theorem z_d41_1 : decode method_4_code 1 = .ok (.ifCond .eq 16, 3) := by decide +kernel
theorem z_d41_17 : decode method_4_code 17 = .ok (.iload_n 1, 1) := by decide +kernel
theorem z_d41_18 : decode method_4_code 18 = .ok (.iconst 2, 1) := by decide +kernel
theorem z_d41_19 : decode method_4_code 19 = .ok (.if_icmp .ne 7, 3) := by decide +kernel
theorem z_d41_22 : decode method_4_code 22 = .ok (.iconst 1, 1) := by decide +kernel
theorem z_d41_23 : decode method_4_code 23 = .ok (.goto 4, 3) := by decide +kernel
theorem z_d41_27 : decode method_4_code 27 = .ok (.ireturn, 1) := by decide +kernel
theorem z_d41_26 : decode method_4_code 26 = .ok (.iconst 0, 1) := by decide +kernel
theorem z_d41_4 : decode method_4_code 4 = .ok (.iload_n 1, 1) := by decide +kernel
theorem z_d41_5 : decode method_4_code 5 = .ok (.iconst 1, 1) := by decide +kernel
theorem z_d41_6 : decode method_4_code 6 = .ok (.if_icmp .ne 7, 3) := by decide +kernel
theorem z_d41_9 : decode method_4_code 9 = .ok (.iconst 1, 1) := by decide +kernel
theorem z_d41_10 : decode method_4_code 10 = .ok (.goto 17, 3) := by decide +kernel
theorem z_d41_13 : decode method_4_code 13 = .ok (.iconst 0, 1) := by decide +kernel
theorem z_d41_14 : decode method_4_code 14 = .ok (.goto 13, 3) := by decide +kernel
theorem z_d42_0 : decode prog_97_method_8_code 0 = .ok (.aload_n 0, 1) := by decide +kernel
theorem z_d42_1 : decode prog_97_method_8_code 1 = .ok (.getfield 102, 3) := by decide +kernel
theorem z_d42_4 : decode prog_97_method_8_code 4 = .ok (.iload_n 1, 1) := by decide +kernel
theorem z_d42_5 : decode prog_97_method_8_code 5 = .ok (.iaload, 1) := by decide +kernel
theorem z_d42_6 : decode prog_97_method_8_code 6 = .ok (.istore_n 2, 1) := by decide +kernel
theorem z_d42_7 : decode prog_97_method_8_code 7 = .ok (.iload_n 2, 1) := by decide +kernel
theorem z_d42_8 : decode prog_97_method_8_code 8 = .ok (.aload_n 0, 1) := by decide +kernel
theorem z_d42_9 : decode prog_97_method_8_code 9 = .ok (.getfield 102, 3) := by decide +kernel
theorem z_d42_12 : decode prog_97_method_8_code 12 = .ok (.iload_n 1, 1) := by decide +kernel
theorem z_d42_13 : decode prog_97_method_8_code 13 = .ok (.iconst 1, 1) := by decide +kernel
theorem z_d42_14 : decode prog_97_method_8_code 14 = .ok (.iadd, 1) := by decide +kernel
theorem z_d42_15 : decode prog_97_method_8_code 15 = .ok (.iaload, 1) := by decide +kernel
theorem z_d42_16 : decode prog_97_method_8_code 16 = .ok (.if_icmp .ge 25, 3) := by decide +kernel
theorem z_d42_19 : decode prog_97_method_8_code 19 = .ok (.aload_n 0, 1) := by decide +kernel
theorem z_d42_20 : decode prog_97_method_8_code 20 = .ok (.getfield 27, 3) := by decide +kernel
theorem z_d42_23 : decode prog_97_method_8_code 23 = .ok (.aload_n 0, 1) := by decide +kernel
theorem z_d42_24 : decode prog_97_method_8_code 24 = .ok (.getfield 99, 3) := by decide +kernel
theorem z_d42_27 : decode prog_97_method_8_code 27 = .ok (.iload_n 2, 1) := by decide +kernel
theorem z_d42_28 : decode prog_97_method_8_code 28 = .ok (.iaload, 1) := by decide +kernel
theorem z_d42_29 : decode prog_97_method_8_code 29 = .ok (.baload, 1) := by decide +kernel
theorem z_d42_30 : decode prog_97_method_8_code 30 = .ok (.ifCond .le 5, 3) := by decide +kernel
theorem z_d42_33 : decode prog_97_method_8_code 33 = .ok (.iconst 1, 1) := by decide +kernel
theorem z_d42_34 : decode prog_97_method_8_code 34 = .ok (.ireturn, 1) := by decide +kernel
theorem z_d42_35 : decode prog_97_method_8_code 35 = .ok (.iinc 2 1, 3) := by decide +kernel
theorem z_d42_38 : decode prog_97_method_8_code 38 = .ok (.goto (-31), 3) := by decide +kernel
theorem z_d42_41 : decode prog_97_method_8_code 41 = .ok (.iconst 0, 1) := by decide +kernel
theorem z_d42_42 : decode prog_97_method_8_code 42 = .ok (.ireturn, 1) := by decide +kernel
theorem z_mod3 (x : Int32) : (x &&& (2147483647 : Int32)) % (3 : Int32) = (0 : Int32) ∨ (x &&& (2147483647 : Int32)) % (3 : Int32) = (1 : Int32) ∨ (x &&& (2147483647 : Int32)) % (3 : Int32) = (2 : Int32) := by
  have h1 : 0 ≤ (x &&& (2147483647 : Int32)).toInt := (c_andS x 2147483647).2.2 (by decide)
  have h2 := (c_irem (x &&& (2147483647 : Int32)) (3 : Int32) 3 (by decide)).1 h1
  have h3 : ((x &&& (2147483647 : Int32)) % (3 : Int32)).toInt = 0 ∨ ((x &&& (2147483647 : Int32)) % (3 : Int32)).toInt = 1 ∨ ((x &&& (2147483647 : Int32)) % (3 : Int32)).toInt = 2 := by omega
  rcases h3 with q | q | q
  · exact (Or.inl (Int32.toInt_inj.mp (q.trans (by decide))))
  · exact (Or.inr (Or.inl (Int32.toInt_inj.mp (q.trans (by decide)))))
  · exact (Or.inr (Or.inr (Int32.toInt_inj.mp (q.trans (by decide)))))
def z_pb (b : Fin 2) : Int32 := Int32.ofNat b.val
def z_ng (b : Fin 2) : Fin 2 := if b = 0 then 1 else 0
def z_li (v : Int32) (b : Fin 2) : Int32 := if z_pb b = 0 then -v else v
def z_ix (l : Int32) : Int32 := if (0 : Int32) < l then (2 : Int32) * l else ((-2 : Int32) * l) + (1 : Int32)
def z_gL (vs : List Value) (i : Nat) : Int64 := match vs[i]? with | some (.long x) => x | _ => 0
def z_gI (vs : List Value) (i : Nat) : Int32 := match vs[i]? with | some (.int x) => x | _ => 0
def z_sat (a b c : Int32) : Int32 := if (0 : Int32) < a then 1 else if (0 : Int32) < b then 1 else if (0 : Int32) < c then 1 else 0
def z_hd (p t : Int32) : Int32 := if p = 0 then (if t = 2 then 1 else 0) else (if t = 1 then 1 else 0)
def z_e (a b c : Int32) : Int32 := if a = 0 then (if b = 0 then (if c = 0 then 0 else 1) else 1) else 1
theorem z_bt (k x : Int32) : ∃ b : Fin 2, (x &&& k = 0 → b = 0) ∧ (¬ x &&& k = 0 → b = 1) := by
  by_cases q : x &&& k = 0
  · exact ⟨0, fun _ => rfl, fun z => absurd q z⟩
  · exact ⟨1, fun z => absurd z q, fun _ => rfl⟩
theorem z_f2 (b : Fin 2) : b = 0 ∨ b = 1 := by revert b; decide
def z_tr (k : Fin 3) : Int32 := Int32.ofNat k.val
theorem z_trc (k : Fin 3) : z_tr k = 0 ∨ z_tr k = 1 ∨ z_tr k = 2 := by revert k; decide
theorem z_tri (x : Int32) : ∃ k : Fin 3, ((x &&& (2147483647 : Int32)) % (3 : Int32)) = z_tr k := by
  rcases z_mod3 x with q | q | q
  · exact ⟨0, q⟩
  · exact ⟨1, q⟩
  · exact ⟨2, q⟩
def z_sv (v t : Int32) (va : List Value) : List Value := if t = 1 then List.set (List.set va (2 * v).toNatClampNeg (.int 1)) (2 * v + 1).toNatClampNeg (.int (-1)) else if t = 2 then List.set (List.set va (2 * v + 1).toNatClampNeg (.int 1)) (2 * v).toNatClampNeg (.int (-1)) else va
theorem z_svl (v t : Int32) (va : List Value) : (z_sv v t va).length = va.length := by
  unfold z_sv; split
  · simp
  · split <;> simp
theorem z_setself {l : List Value} {i : Nat} {v : Value} (q : l[i]? = some v) : l.set i v = l := by
  apply List.ext_getElem?; intro j; rw [List.getElem?_set]; split
  · next e => subst e; split
              · exact q.symm
              · next z => rw [List.getElem?_eq_none (by omega)] at q; exact absurd q (by simp)
  · rfl
theorem z_i10 : (z_ix (z_li 1 0)).toNatClampNeg = 3 := by decide +kernel
theorem z_i11 : (z_ix (z_li 1 1)).toNatClampNeg = 2 := by decide +kernel
theorem z_i20 : (z_ix (z_li 2 0)).toNatClampNeg = 5 := by decide +kernel
theorem z_i21 : (z_ix (z_li 2 1)).toNatClampNeg = 4 := by decide +kernel
theorem z_mono {l : Launch} {Z : State} {y : MethodName} {bytes : ByteArray} {ml : Nat} {rt : Option FieldType} {ws : List Jvm.Cond} {rm : Room} {n0 : Nat} {as' : Array Value} {h : Heap} {Q Q' : Option Value → Heap → Prop} (M : z_Met l Z y bytes ml rt ws rm n0 as' h Q) (hq : ∀ v h', Q v h' → Q' v h') : z_Met l Z y bytes ml rt ws rm n0 as' h Q' :=
  MetFree.mono M (fun _ _ q => q) (fun _ _ _ _ _ q => q) (fun _ _ _ _ _ q => by obtain ⟨v, L, e, ⟨q1, q2⟩, q3⟩ := q; exact ⟨v, L, e, ⟨hq _ _ q1, q2⟩, q3⟩)
theorem z_tab0 : ∀ (u0 : Fin 2), ¬ (z_li 1 u0) = (0 : Int32) := by decide +kernel
theorem z_tab1 : ∀ (u0 : Fin 2), ¬ (3 : Int32) < (z_li 1 u0) := by decide +kernel
theorem z_tab2 : ∀ (u0 : Fin 2), ¬ (z_li 1 u0) < (-3 : Int32) := by decide +kernel
theorem z_tab3 : ∀ (u0 : Fin 2), ¬ (z_ix (z_li 1 u0)) < 0 := by decide +kernel
theorem z_tab4 : ∀ (u0 : Fin 2), (([(.long (0 : Int64)), (.long (0 : Int64)), (.long (0 : Int64)), (.long (0 : Int64)), (.long (0 : Int64)), (.long (0 : Int64)), (.long (0 : Int64)), (.long (0 : Int64))] : List Value))[((z_ix (z_li 1 u0))).toNatClampNeg]? = some (.long (z_gL [(.long (0 : Int64)), (.long (0 : Int64)), (.long (0 : Int64)), (.long (0 : Int64)), (.long (0 : Int64)), (.long (0 : Int64)), (.long (0 : Int64)), (.long (0 : Int64))] ((z_ix (z_li 1 u0))).toNatClampNeg)) := by decide +kernel
theorem z_tab5 : ∀ (u0 : Fin 2), ¬ (lcmpW (z_gL [(.long (0 : Int64)), (.long (0 : Int64)), (.long (0 : Int64)), (.long (0 : Int64)), (.long (0 : Int64)), (.long (0 : Int64)), (.long (0 : Int64)), (.long (0 : Int64))] ((z_ix (z_li 1 u0))).toNatClampNeg) (1 : Int64)) = (0 : Int32) := by decide +kernel
theorem z_tab6 : ∀ (u0 : Fin 2), ((z_ix (z_li 1 u0))).toNatClampNeg < (([(.long (0 : Int64)), (.long (0 : Int64)), (.long (0 : Int64)), (.long (0 : Int64)), (.long (0 : Int64)), (.long (0 : Int64)), (.long (0 : Int64)), (.long (0 : Int64))] : List Value)).length := by decide +kernel
theorem z_tab7 : ∀ (u0 : Fin 2), ¬ ((z_ix (z_li 1 u0)) ^^^ (1 : Int32)) < 0 := by decide +kernel
theorem z_tab8 : ∀ (u0 : Fin 2), ((List.set (([(.long (0 : Int64)), (.long (0 : Int64)), (.long (0 : Int64)), (.long (0 : Int64)), (.long (0 : Int64)), (.long (0 : Int64)), (.long (0 : Int64)), (.long (0 : Int64))] : List Value)) ((z_ix (z_li 1 u0))).toNatClampNeg (.long (1 : Int64))))[(((z_ix (z_li 1 u0)) ^^^ (1 : Int32))).toNatClampNeg]? = some (.long (z_gL (List.set (([(.long (0 : Int64)), (.long (0 : Int64)), (.long (0 : Int64)), (.long (0 : Int64)), (.long (0 : Int64)), (.long (0 : Int64)), (.long (0 : Int64)), (.long (0 : Int64))] : List Value)) ((z_ix (z_li 1 u0))).toNatClampNeg (.long (1 : Int64))) (((z_ix (z_li 1 u0)) ^^^ (1 : Int32))).toNatClampNeg)) := by decide +kernel
theorem z_tab9 : ∀ (u0 : Fin 2), ¬ (lcmpW (z_gL (List.set (([(.long (0 : Int64)), (.long (0 : Int64)), (.long (0 : Int64)), (.long (0 : Int64)), (.long (0 : Int64)), (.long (0 : Int64)), (.long (0 : Int64)), (.long (0 : Int64))] : List Value)) ((z_ix (z_li 1 u0))).toNatClampNeg (.long (1 : Int64))) (((z_ix (z_li 1 u0)) ^^^ (1 : Int32))).toNatClampNeg) (1 : Int64)) = (0 : Int32) := by decide +kernel
theorem z_tab10 : ∀ (u1 : Fin 2), ¬ (z_li 2 u1) = (0 : Int32) := by decide +kernel
theorem z_tab11 : ∀ (u1 : Fin 2), ¬ (3 : Int32) < (z_li 2 u1) := by decide +kernel
theorem z_tab12 : ∀ (u1 : Fin 2), ¬ (z_li 2 u1) < (-3 : Int32) := by decide +kernel
theorem z_tab13 : ∀ (u1 : Fin 2), ¬ (z_ix (z_li 2 u1)) < 0 := by decide +kernel
theorem z_tab14 : ∀ (u0 u1 : Fin 2), ((List.set (([(.long (0 : Int64)), (.long (0 : Int64)), (.long (0 : Int64)), (.long (0 : Int64)), (.long (0 : Int64)), (.long (0 : Int64)), (.long (0 : Int64)), (.long (0 : Int64))] : List Value)) ((z_ix (z_li 1 u0))).toNatClampNeg (.long (1 : Int64))))[((z_ix (z_li 2 u1))).toNatClampNeg]? = some (.long (z_gL (List.set (([(.long (0 : Int64)), (.long (0 : Int64)), (.long (0 : Int64)), (.long (0 : Int64)), (.long (0 : Int64)), (.long (0 : Int64)), (.long (0 : Int64)), (.long (0 : Int64))] : List Value)) ((z_ix (z_li 1 u0))).toNatClampNeg (.long (1 : Int64))) ((z_ix (z_li 2 u1))).toNatClampNeg)) := by decide +kernel
theorem z_tab15 : ∀ (u0 u1 : Fin 2), ¬ (lcmpW (z_gL (List.set (([(.long (0 : Int64)), (.long (0 : Int64)), (.long (0 : Int64)), (.long (0 : Int64)), (.long (0 : Int64)), (.long (0 : Int64)), (.long (0 : Int64)), (.long (0 : Int64))] : List Value)) ((z_ix (z_li 1 u0))).toNatClampNeg (.long (1 : Int64))) ((z_ix (z_li 2 u1))).toNatClampNeg) (1 : Int64)) = (0 : Int32) := by decide +kernel
theorem z_tab16 : ∀ (u0 u1 : Fin 2), ((z_ix (z_li 2 u1))).toNatClampNeg < ((List.set (([(.long (0 : Int64)), (.long (0 : Int64)), (.long (0 : Int64)), (.long (0 : Int64)), (.long (0 : Int64)), (.long (0 : Int64)), (.long (0 : Int64)), (.long (0 : Int64))] : List Value)) ((z_ix (z_li 1 u0))).toNatClampNeg (.long (1 : Int64)))).length := by decide +kernel
theorem z_tab17 : ∀ (u1 : Fin 2), ¬ ((z_ix (z_li 2 u1)) ^^^ (1 : Int32)) < 0 := by decide +kernel
theorem z_tab18 : ∀ (u0 u1 : Fin 2), ((List.set ((List.set (([(.long (0 : Int64)), (.long (0 : Int64)), (.long (0 : Int64)), (.long (0 : Int64)), (.long (0 : Int64)), (.long (0 : Int64)), (.long (0 : Int64)), (.long (0 : Int64))] : List Value)) ((z_ix (z_li 1 u0))).toNatClampNeg (.long (1 : Int64)))) ((z_ix (z_li 2 u1))).toNatClampNeg (.long (1 : Int64))))[(((z_ix (z_li 2 u1)) ^^^ (1 : Int32))).toNatClampNeg]? = some (.long (z_gL (List.set ((List.set (([(.long (0 : Int64)), (.long (0 : Int64)), (.long (0 : Int64)), (.long (0 : Int64)), (.long (0 : Int64)), (.long (0 : Int64)), (.long (0 : Int64)), (.long (0 : Int64))] : List Value)) ((z_ix (z_li 1 u0))).toNatClampNeg (.long (1 : Int64)))) ((z_ix (z_li 2 u1))).toNatClampNeg (.long (1 : Int64))) (((z_ix (z_li 2 u1)) ^^^ (1 : Int32))).toNatClampNeg)) := by decide +kernel
theorem z_tab19 : ∀ (u0 u1 : Fin 2), ¬ (lcmpW (z_gL (List.set ((List.set (([(.long (0 : Int64)), (.long (0 : Int64)), (.long (0 : Int64)), (.long (0 : Int64)), (.long (0 : Int64)), (.long (0 : Int64)), (.long (0 : Int64)), (.long (0 : Int64))] : List Value)) ((z_ix (z_li 1 u0))).toNatClampNeg (.long (1 : Int64)))) ((z_ix (z_li 2 u1))).toNatClampNeg (.long (1 : Int64))) (((z_ix (z_li 2 u1)) ^^^ (1 : Int32))).toNatClampNeg) (1 : Int64)) = (0 : Int32) := by decide +kernel
theorem z_tab20 : ∀ (u2 : Fin 2), ¬ (z_li 3 u2) = (0 : Int32) := by decide +kernel
theorem z_tab21 : ∀ (u2 : Fin 2), ¬ (3 : Int32) < (z_li 3 u2) := by decide +kernel
theorem z_tab22 : ∀ (u2 : Fin 2), ¬ (z_li 3 u2) < (-3 : Int32) := by decide +kernel
theorem z_tab23 : ∀ (u2 : Fin 2), ¬ (z_ix (z_li 3 u2)) < 0 := by decide +kernel
theorem z_tab24 : ∀ (u0 u1 u2 : Fin 2), ((List.set ((List.set (([(.long (0 : Int64)), (.long (0 : Int64)), (.long (0 : Int64)), (.long (0 : Int64)), (.long (0 : Int64)), (.long (0 : Int64)), (.long (0 : Int64)), (.long (0 : Int64))] : List Value)) ((z_ix (z_li 1 u0))).toNatClampNeg (.long (1 : Int64)))) ((z_ix (z_li 2 u1))).toNatClampNeg (.long (1 : Int64))))[((z_ix (z_li 3 u2))).toNatClampNeg]? = some (.long (z_gL (List.set ((List.set (([(.long (0 : Int64)), (.long (0 : Int64)), (.long (0 : Int64)), (.long (0 : Int64)), (.long (0 : Int64)), (.long (0 : Int64)), (.long (0 : Int64)), (.long (0 : Int64))] : List Value)) ((z_ix (z_li 1 u0))).toNatClampNeg (.long (1 : Int64)))) ((z_ix (z_li 2 u1))).toNatClampNeg (.long (1 : Int64))) ((z_ix (z_li 3 u2))).toNatClampNeg)) := by decide +kernel
theorem z_tab25 : ∀ (u0 u1 u2 : Fin 2), ¬ (lcmpW (z_gL (List.set ((List.set (([(.long (0 : Int64)), (.long (0 : Int64)), (.long (0 : Int64)), (.long (0 : Int64)), (.long (0 : Int64)), (.long (0 : Int64)), (.long (0 : Int64)), (.long (0 : Int64))] : List Value)) ((z_ix (z_li 1 u0))).toNatClampNeg (.long (1 : Int64)))) ((z_ix (z_li 2 u1))).toNatClampNeg (.long (1 : Int64))) ((z_ix (z_li 3 u2))).toNatClampNeg) (1 : Int64)) = (0 : Int32) := by decide +kernel
theorem z_tab26 : ∀ (u0 u1 u2 : Fin 2), ((z_ix (z_li 3 u2))).toNatClampNeg < ((List.set ((List.set (([(.long (0 : Int64)), (.long (0 : Int64)), (.long (0 : Int64)), (.long (0 : Int64)), (.long (0 : Int64)), (.long (0 : Int64)), (.long (0 : Int64)), (.long (0 : Int64))] : List Value)) ((z_ix (z_li 1 u0))).toNatClampNeg (.long (1 : Int64)))) ((z_ix (z_li 2 u1))).toNatClampNeg (.long (1 : Int64)))).length := by decide +kernel
theorem z_tab27 : ∀ (u2 : Fin 2), ¬ ((z_ix (z_li 3 u2)) ^^^ (1 : Int32)) < 0 := by decide +kernel
theorem z_tab28 : ∀ (u0 u1 u2 : Fin 2), ((List.set ((List.set ((List.set (([(.long (0 : Int64)), (.long (0 : Int64)), (.long (0 : Int64)), (.long (0 : Int64)), (.long (0 : Int64)), (.long (0 : Int64)), (.long (0 : Int64)), (.long (0 : Int64))] : List Value)) ((z_ix (z_li 1 u0))).toNatClampNeg (.long (1 : Int64)))) ((z_ix (z_li 2 u1))).toNatClampNeg (.long (1 : Int64)))) ((z_ix (z_li 3 u2))).toNatClampNeg (.long (1 : Int64))))[(((z_ix (z_li 3 u2)) ^^^ (1 : Int32))).toNatClampNeg]? = some (.long (z_gL (List.set ((List.set ((List.set (([(.long (0 : Int64)), (.long (0 : Int64)), (.long (0 : Int64)), (.long (0 : Int64)), (.long (0 : Int64)), (.long (0 : Int64)), (.long (0 : Int64)), (.long (0 : Int64))] : List Value)) ((z_ix (z_li 1 u0))).toNatClampNeg (.long (1 : Int64)))) ((z_ix (z_li 2 u1))).toNatClampNeg (.long (1 : Int64)))) ((z_ix (z_li 3 u2))).toNatClampNeg (.long (1 : Int64))) (((z_ix (z_li 3 u2)) ^^^ (1 : Int32))).toNatClampNeg)) := by decide +kernel
theorem z_tab29 : ∀ (u0 u1 u2 : Fin 2), ¬ (lcmpW (z_gL (List.set ((List.set ((List.set (([(.long (0 : Int64)), (.long (0 : Int64)), (.long (0 : Int64)), (.long (0 : Int64)), (.long (0 : Int64)), (.long (0 : Int64)), (.long (0 : Int64)), (.long (0 : Int64))] : List Value)) ((z_ix (z_li 1 u0))).toNatClampNeg (.long (1 : Int64)))) ((z_ix (z_li 2 u1))).toNatClampNeg (.long (1 : Int64)))) ((z_ix (z_li 3 u2))).toNatClampNeg (.long (1 : Int64))) (((z_ix (z_li 3 u2)) ^^^ (1 : Int32))).toNatClampNeg) (1 : Int64)) = (0 : Int32) := by decide +kernel
theorem z_tab30 : ∀ (u0 u1 u2 : Fin 2), (((List.set ((List.set ((List.set (([(.long (0 : Int64)), (.long (0 : Int64)), (.long (0 : Int64)), (.long (0 : Int64)), (.long (0 : Int64)), (.long (0 : Int64)), (.long (0 : Int64)), (.long (0 : Int64))] : List Value)) ((z_ix (z_li 1 u0))).toNatClampNeg (.long (1 : Int64)))) ((z_ix (z_li 2 u1))).toNatClampNeg (.long (1 : Int64)))) ((z_ix (z_li 3 u2))).toNatClampNeg (.long (1 : Int64))))).length = 8 := by decide +kernel
theorem z_tab31 : ∀ (u3 : Fin 2), ¬ (z_li 1 u3) = (0 : Int32) := by decide +kernel
theorem z_tab32 : ∀ (u3 : Fin 2), ¬ (3 : Int32) < (z_li 1 u3) := by decide +kernel
theorem z_tab33 : ∀ (u3 : Fin 2), ¬ (z_li 1 u3) < (-3 : Int32) := by decide +kernel
theorem z_tab34 : ∀ (u3 : Fin 2), ¬ (z_ix (z_li 1 u3)) < 0 := by decide +kernel
theorem z_tab35 : ∀ (u0 u1 u2 u3 : Fin 2), (((List.set ((List.set ((List.set (([(.long (0 : Int64)), (.long (0 : Int64)), (.long (0 : Int64)), (.long (0 : Int64)), (.long (0 : Int64)), (.long (0 : Int64)), (.long (0 : Int64)), (.long (0 : Int64))] : List Value)) ((z_ix (z_li 1 u0))).toNatClampNeg (.long (1 : Int64)))) ((z_ix (z_li 2 u1))).toNatClampNeg (.long (1 : Int64)))) ((z_ix (z_li 3 u2))).toNatClampNeg (.long (1 : Int64)))))[((z_ix (z_li 1 u3))).toNatClampNeg]? = some (.long (z_gL ((List.set ((List.set ((List.set (([(.long (0 : Int64)), (.long (0 : Int64)), (.long (0 : Int64)), (.long (0 : Int64)), (.long (0 : Int64)), (.long (0 : Int64)), (.long (0 : Int64)), (.long (0 : Int64))] : List Value)) ((z_ix (z_li 1 u0))).toNatClampNeg (.long (1 : Int64)))) ((z_ix (z_li 2 u1))).toNatClampNeg (.long (1 : Int64)))) ((z_ix (z_li 3 u2))).toNatClampNeg (.long (1 : Int64)))) ((z_ix (z_li 1 u3))).toNatClampNeg)) := by decide +kernel
theorem z_tab36 : ∀ (u0 u1 u2 u3 : Fin 2), ¬ (lcmpW (z_gL ((List.set ((List.set ((List.set (([(.long (0 : Int64)), (.long (0 : Int64)), (.long (0 : Int64)), (.long (0 : Int64)), (.long (0 : Int64)), (.long (0 : Int64)), (.long (0 : Int64)), (.long (0 : Int64))] : List Value)) ((z_ix (z_li 1 u0))).toNatClampNeg (.long (1 : Int64)))) ((z_ix (z_li 2 u1))).toNatClampNeg (.long (1 : Int64)))) ((z_ix (z_li 3 u2))).toNatClampNeg (.long (1 : Int64)))) ((z_ix (z_li 1 u3))).toNatClampNeg) (2 : Int64)) = (0 : Int32) := by decide +kernel
theorem z_tab37 : ∀ (u0 u1 u2 u3 : Fin 2), ((z_ix (z_li 1 u3))).toNatClampNeg < (((List.set ((List.set ((List.set (([(.long (0 : Int64)), (.long (0 : Int64)), (.long (0 : Int64)), (.long (0 : Int64)), (.long (0 : Int64)), (.long (0 : Int64)), (.long (0 : Int64)), (.long (0 : Int64))] : List Value)) ((z_ix (z_li 1 u0))).toNatClampNeg (.long (1 : Int64)))) ((z_ix (z_li 2 u1))).toNatClampNeg (.long (1 : Int64)))) ((z_ix (z_li 3 u2))).toNatClampNeg (.long (1 : Int64))))).length := by decide +kernel
theorem z_tab38 : ∀ (u3 : Fin 2), ¬ ((z_ix (z_li 1 u3)) ^^^ (1 : Int32)) < 0 := by decide +kernel
theorem z_tab39 : ∀ (u0 u1 u2 u3 : Fin 2), ((List.set (((List.set ((List.set ((List.set (([(.long (0 : Int64)), (.long (0 : Int64)), (.long (0 : Int64)), (.long (0 : Int64)), (.long (0 : Int64)), (.long (0 : Int64)), (.long (0 : Int64)), (.long (0 : Int64))] : List Value)) ((z_ix (z_li 1 u0))).toNatClampNeg (.long (1 : Int64)))) ((z_ix (z_li 2 u1))).toNatClampNeg (.long (1 : Int64)))) ((z_ix (z_li 3 u2))).toNatClampNeg (.long (1 : Int64))))) ((z_ix (z_li 1 u3))).toNatClampNeg (.long (2 : Int64))))[(((z_ix (z_li 1 u3)) ^^^ (1 : Int32))).toNatClampNeg]? = some (.long (z_gL (List.set (((List.set ((List.set ((List.set (([(.long (0 : Int64)), (.long (0 : Int64)), (.long (0 : Int64)), (.long (0 : Int64)), (.long (0 : Int64)), (.long (0 : Int64)), (.long (0 : Int64)), (.long (0 : Int64))] : List Value)) ((z_ix (z_li 1 u0))).toNatClampNeg (.long (1 : Int64)))) ((z_ix (z_li 2 u1))).toNatClampNeg (.long (1 : Int64)))) ((z_ix (z_li 3 u2))).toNatClampNeg (.long (1 : Int64))))) ((z_ix (z_li 1 u3))).toNatClampNeg (.long (2 : Int64))) (((z_ix (z_li 1 u3)) ^^^ (1 : Int32))).toNatClampNeg)) := by decide +kernel
theorem z_tab40 : ∀ (u0 u1 u2 u3 : Fin 2), ¬ (lcmpW (z_gL (List.set (((List.set ((List.set ((List.set (([(.long (0 : Int64)), (.long (0 : Int64)), (.long (0 : Int64)), (.long (0 : Int64)), (.long (0 : Int64)), (.long (0 : Int64)), (.long (0 : Int64)), (.long (0 : Int64))] : List Value)) ((z_ix (z_li 1 u0))).toNatClampNeg (.long (1 : Int64)))) ((z_ix (z_li 2 u1))).toNatClampNeg (.long (1 : Int64)))) ((z_ix (z_li 3 u2))).toNatClampNeg (.long (1 : Int64))))) ((z_ix (z_li 1 u3))).toNatClampNeg (.long (2 : Int64))) (((z_ix (z_li 1 u3)) ^^^ (1 : Int32))).toNatClampNeg) (2 : Int64)) = (0 : Int32) := by decide +kernel
theorem z_tab41 : ∀ (u4 : Fin 2), ¬ (z_li 2 u4) = (0 : Int32) := by decide +kernel
theorem z_tab42 : ∀ (u4 : Fin 2), ¬ (3 : Int32) < (z_li 2 u4) := by decide +kernel
theorem z_tab43 : ∀ (u4 : Fin 2), ¬ (z_li 2 u4) < (-3 : Int32) := by decide +kernel
theorem z_tab44 : ∀ (u4 : Fin 2), ¬ (z_ix (z_li 2 u4)) < 0 := by decide +kernel
theorem z_tab45 : ∀ (u0 u1 u2 u3 u4 : Fin 2), ((List.set (((List.set ((List.set ((List.set (([(.long (0 : Int64)), (.long (0 : Int64)), (.long (0 : Int64)), (.long (0 : Int64)), (.long (0 : Int64)), (.long (0 : Int64)), (.long (0 : Int64)), (.long (0 : Int64))] : List Value)) ((z_ix (z_li 1 u0))).toNatClampNeg (.long (1 : Int64)))) ((z_ix (z_li 2 u1))).toNatClampNeg (.long (1 : Int64)))) ((z_ix (z_li 3 u2))).toNatClampNeg (.long (1 : Int64))))) ((z_ix (z_li 1 u3))).toNatClampNeg (.long (2 : Int64))))[((z_ix (z_li 2 u4))).toNatClampNeg]? = some (.long (z_gL (List.set (((List.set ((List.set ((List.set (([(.long (0 : Int64)), (.long (0 : Int64)), (.long (0 : Int64)), (.long (0 : Int64)), (.long (0 : Int64)), (.long (0 : Int64)), (.long (0 : Int64)), (.long (0 : Int64))] : List Value)) ((z_ix (z_li 1 u0))).toNatClampNeg (.long (1 : Int64)))) ((z_ix (z_li 2 u1))).toNatClampNeg (.long (1 : Int64)))) ((z_ix (z_li 3 u2))).toNatClampNeg (.long (1 : Int64))))) ((z_ix (z_li 1 u3))).toNatClampNeg (.long (2 : Int64))) ((z_ix (z_li 2 u4))).toNatClampNeg)) := by decide +kernel
theorem z_tab46 : ∀ (u0 u1 u2 u3 u4 : Fin 2), ¬ (lcmpW (z_gL (List.set (((List.set ((List.set ((List.set (([(.long (0 : Int64)), (.long (0 : Int64)), (.long (0 : Int64)), (.long (0 : Int64)), (.long (0 : Int64)), (.long (0 : Int64)), (.long (0 : Int64)), (.long (0 : Int64))] : List Value)) ((z_ix (z_li 1 u0))).toNatClampNeg (.long (1 : Int64)))) ((z_ix (z_li 2 u1))).toNatClampNeg (.long (1 : Int64)))) ((z_ix (z_li 3 u2))).toNatClampNeg (.long (1 : Int64))))) ((z_ix (z_li 1 u3))).toNatClampNeg (.long (2 : Int64))) ((z_ix (z_li 2 u4))).toNatClampNeg) (2 : Int64)) = (0 : Int32) := by decide +kernel
theorem z_tab47 : ∀ (u0 u1 u2 u3 u4 : Fin 2), ((z_ix (z_li 2 u4))).toNatClampNeg < ((List.set (((List.set ((List.set ((List.set (([(.long (0 : Int64)), (.long (0 : Int64)), (.long (0 : Int64)), (.long (0 : Int64)), (.long (0 : Int64)), (.long (0 : Int64)), (.long (0 : Int64)), (.long (0 : Int64))] : List Value)) ((z_ix (z_li 1 u0))).toNatClampNeg (.long (1 : Int64)))) ((z_ix (z_li 2 u1))).toNatClampNeg (.long (1 : Int64)))) ((z_ix (z_li 3 u2))).toNatClampNeg (.long (1 : Int64))))) ((z_ix (z_li 1 u3))).toNatClampNeg (.long (2 : Int64)))).length := by decide +kernel
theorem z_tab48 : ∀ (u4 : Fin 2), ¬ ((z_ix (z_li 2 u4)) ^^^ (1 : Int32)) < 0 := by decide +kernel
theorem z_tab49 : ∀ (u0 u1 u2 u3 u4 : Fin 2), ((List.set ((List.set (((List.set ((List.set ((List.set (([(.long (0 : Int64)), (.long (0 : Int64)), (.long (0 : Int64)), (.long (0 : Int64)), (.long (0 : Int64)), (.long (0 : Int64)), (.long (0 : Int64)), (.long (0 : Int64))] : List Value)) ((z_ix (z_li 1 u0))).toNatClampNeg (.long (1 : Int64)))) ((z_ix (z_li 2 u1))).toNatClampNeg (.long (1 : Int64)))) ((z_ix (z_li 3 u2))).toNatClampNeg (.long (1 : Int64))))) ((z_ix (z_li 1 u3))).toNatClampNeg (.long (2 : Int64)))) ((z_ix (z_li 2 u4))).toNatClampNeg (.long (2 : Int64))))[(((z_ix (z_li 2 u4)) ^^^ (1 : Int32))).toNatClampNeg]? = some (.long (z_gL (List.set ((List.set (((List.set ((List.set ((List.set (([(.long (0 : Int64)), (.long (0 : Int64)), (.long (0 : Int64)), (.long (0 : Int64)), (.long (0 : Int64)), (.long (0 : Int64)), (.long (0 : Int64)), (.long (0 : Int64))] : List Value)) ((z_ix (z_li 1 u0))).toNatClampNeg (.long (1 : Int64)))) ((z_ix (z_li 2 u1))).toNatClampNeg (.long (1 : Int64)))) ((z_ix (z_li 3 u2))).toNatClampNeg (.long (1 : Int64))))) ((z_ix (z_li 1 u3))).toNatClampNeg (.long (2 : Int64)))) ((z_ix (z_li 2 u4))).toNatClampNeg (.long (2 : Int64))) (((z_ix (z_li 2 u4)) ^^^ (1 : Int32))).toNatClampNeg)) := by decide +kernel
theorem z_tab50 : ∀ (u0 u1 u2 u3 u4 : Fin 2), ¬ (lcmpW (z_gL (List.set ((List.set (((List.set ((List.set ((List.set (([(.long (0 : Int64)), (.long (0 : Int64)), (.long (0 : Int64)), (.long (0 : Int64)), (.long (0 : Int64)), (.long (0 : Int64)), (.long (0 : Int64)), (.long (0 : Int64))] : List Value)) ((z_ix (z_li 1 u0))).toNatClampNeg (.long (1 : Int64)))) ((z_ix (z_li 2 u1))).toNatClampNeg (.long (1 : Int64)))) ((z_ix (z_li 3 u2))).toNatClampNeg (.long (1 : Int64))))) ((z_ix (z_li 1 u3))).toNatClampNeg (.long (2 : Int64)))) ((z_ix (z_li 2 u4))).toNatClampNeg (.long (2 : Int64))) (((z_ix (z_li 2 u4)) ^^^ (1 : Int32))).toNatClampNeg) (2 : Int64)) = (0 : Int32) := by decide +kernel
theorem z_tab51 : ∀ (u5 : Fin 2), ¬ (z_li 3 u5) = (0 : Int32) := by decide +kernel
theorem z_tab52 : ∀ (u5 : Fin 2), ¬ (3 : Int32) < (z_li 3 u5) := by decide +kernel
theorem z_tab53 : ∀ (u5 : Fin 2), ¬ (z_li 3 u5) < (-3 : Int32) := by decide +kernel
theorem z_tab54 : ∀ (u5 : Fin 2), ¬ (z_ix (z_li 3 u5)) < 0 := by decide +kernel
theorem z_tab55 : ∀ (u0 u1 u2 u3 u4 u5 : Fin 2), ((List.set ((List.set (((List.set ((List.set ((List.set (([(.long (0 : Int64)), (.long (0 : Int64)), (.long (0 : Int64)), (.long (0 : Int64)), (.long (0 : Int64)), (.long (0 : Int64)), (.long (0 : Int64)), (.long (0 : Int64))] : List Value)) ((z_ix (z_li 1 u0))).toNatClampNeg (.long (1 : Int64)))) ((z_ix (z_li 2 u1))).toNatClampNeg (.long (1 : Int64)))) ((z_ix (z_li 3 u2))).toNatClampNeg (.long (1 : Int64))))) ((z_ix (z_li 1 u3))).toNatClampNeg (.long (2 : Int64)))) ((z_ix (z_li 2 u4))).toNatClampNeg (.long (2 : Int64))))[((z_ix (z_li 3 u5))).toNatClampNeg]? = some (.long (z_gL (List.set ((List.set (((List.set ((List.set ((List.set (([(.long (0 : Int64)), (.long (0 : Int64)), (.long (0 : Int64)), (.long (0 : Int64)), (.long (0 : Int64)), (.long (0 : Int64)), (.long (0 : Int64)), (.long (0 : Int64))] : List Value)) ((z_ix (z_li 1 u0))).toNatClampNeg (.long (1 : Int64)))) ((z_ix (z_li 2 u1))).toNatClampNeg (.long (1 : Int64)))) ((z_ix (z_li 3 u2))).toNatClampNeg (.long (1 : Int64))))) ((z_ix (z_li 1 u3))).toNatClampNeg (.long (2 : Int64)))) ((z_ix (z_li 2 u4))).toNatClampNeg (.long (2 : Int64))) ((z_ix (z_li 3 u5))).toNatClampNeg)) := by decide +kernel
theorem z_tab56 : ∀ (u0 u1 u2 u3 u4 u5 : Fin 2), ¬ (lcmpW (z_gL (List.set ((List.set (((List.set ((List.set ((List.set (([(.long (0 : Int64)), (.long (0 : Int64)), (.long (0 : Int64)), (.long (0 : Int64)), (.long (0 : Int64)), (.long (0 : Int64)), (.long (0 : Int64)), (.long (0 : Int64))] : List Value)) ((z_ix (z_li 1 u0))).toNatClampNeg (.long (1 : Int64)))) ((z_ix (z_li 2 u1))).toNatClampNeg (.long (1 : Int64)))) ((z_ix (z_li 3 u2))).toNatClampNeg (.long (1 : Int64))))) ((z_ix (z_li 1 u3))).toNatClampNeg (.long (2 : Int64)))) ((z_ix (z_li 2 u4))).toNatClampNeg (.long (2 : Int64))) ((z_ix (z_li 3 u5))).toNatClampNeg) (2 : Int64)) = (0 : Int32) := by decide +kernel
theorem z_tab57 : ∀ (u0 u1 u2 u3 u4 u5 : Fin 2), ((z_ix (z_li 3 u5))).toNatClampNeg < ((List.set ((List.set (((List.set ((List.set ((List.set (([(.long (0 : Int64)), (.long (0 : Int64)), (.long (0 : Int64)), (.long (0 : Int64)), (.long (0 : Int64)), (.long (0 : Int64)), (.long (0 : Int64)), (.long (0 : Int64))] : List Value)) ((z_ix (z_li 1 u0))).toNatClampNeg (.long (1 : Int64)))) ((z_ix (z_li 2 u1))).toNatClampNeg (.long (1 : Int64)))) ((z_ix (z_li 3 u2))).toNatClampNeg (.long (1 : Int64))))) ((z_ix (z_li 1 u3))).toNatClampNeg (.long (2 : Int64)))) ((z_ix (z_li 2 u4))).toNatClampNeg (.long (2 : Int64)))).length := by decide +kernel
theorem z_tab58 : ∀ (u5 : Fin 2), ¬ ((z_ix (z_li 3 u5)) ^^^ (1 : Int32)) < 0 := by decide +kernel
theorem z_tab59 : ∀ (u0 u1 u2 u3 u4 u5 : Fin 2), ((List.set ((List.set ((List.set (((List.set ((List.set ((List.set (([(.long (0 : Int64)), (.long (0 : Int64)), (.long (0 : Int64)), (.long (0 : Int64)), (.long (0 : Int64)), (.long (0 : Int64)), (.long (0 : Int64)), (.long (0 : Int64))] : List Value)) ((z_ix (z_li 1 u0))).toNatClampNeg (.long (1 : Int64)))) ((z_ix (z_li 2 u1))).toNatClampNeg (.long (1 : Int64)))) ((z_ix (z_li 3 u2))).toNatClampNeg (.long (1 : Int64))))) ((z_ix (z_li 1 u3))).toNatClampNeg (.long (2 : Int64)))) ((z_ix (z_li 2 u4))).toNatClampNeg (.long (2 : Int64)))) ((z_ix (z_li 3 u5))).toNatClampNeg (.long (2 : Int64))))[(((z_ix (z_li 3 u5)) ^^^ (1 : Int32))).toNatClampNeg]? = some (.long (z_gL (List.set ((List.set ((List.set (((List.set ((List.set ((List.set (([(.long (0 : Int64)), (.long (0 : Int64)), (.long (0 : Int64)), (.long (0 : Int64)), (.long (0 : Int64)), (.long (0 : Int64)), (.long (0 : Int64)), (.long (0 : Int64))] : List Value)) ((z_ix (z_li 1 u0))).toNatClampNeg (.long (1 : Int64)))) ((z_ix (z_li 2 u1))).toNatClampNeg (.long (1 : Int64)))) ((z_ix (z_li 3 u2))).toNatClampNeg (.long (1 : Int64))))) ((z_ix (z_li 1 u3))).toNatClampNeg (.long (2 : Int64)))) ((z_ix (z_li 2 u4))).toNatClampNeg (.long (2 : Int64)))) ((z_ix (z_li 3 u5))).toNatClampNeg (.long (2 : Int64))) (((z_ix (z_li 3 u5)) ^^^ (1 : Int32))).toNatClampNeg)) := by decide +kernel
theorem z_tab60 : ∀ (u0 u1 u2 u3 u4 u5 : Fin 2), ¬ (lcmpW (z_gL (List.set ((List.set ((List.set (((List.set ((List.set ((List.set (([(.long (0 : Int64)), (.long (0 : Int64)), (.long (0 : Int64)), (.long (0 : Int64)), (.long (0 : Int64)), (.long (0 : Int64)), (.long (0 : Int64)), (.long (0 : Int64))] : List Value)) ((z_ix (z_li 1 u0))).toNatClampNeg (.long (1 : Int64)))) ((z_ix (z_li 2 u1))).toNatClampNeg (.long (1 : Int64)))) ((z_ix (z_li 3 u2))).toNatClampNeg (.long (1 : Int64))))) ((z_ix (z_li 1 u3))).toNatClampNeg (.long (2 : Int64)))) ((z_ix (z_li 2 u4))).toNatClampNeg (.long (2 : Int64)))) ((z_ix (z_li 3 u5))).toNatClampNeg (.long (2 : Int64))) (((z_ix (z_li 3 u5)) ^^^ (1 : Int32))).toNatClampNeg) (2 : Int64)) = (0 : Int32) := by decide +kernel
theorem z_tab61 : ∀ (u0 : Fin 2), ((z_ix (z_li 1 u0)) >>> ((1 : Int32) &&& 31)) = (1 : Int32) := by decide +kernel
theorem z_tab62 : ∀ (u1 : Fin 2), ((z_ix (z_li 2 u1)) >>> ((1 : Int32) &&& 31)) = (2 : Int32) := by decide +kernel
theorem z_tab63 : ∀ (u2 : Fin 2), ((z_ix (z_li 3 u2)) >>> ((1 : Int32) &&& 31)) = (3 : Int32) := by decide +kernel
theorem z_tab64 : ∀ (u3 : Fin 2), ((z_ix (z_li 1 u3)) >>> ((1 : Int32) &&& 31)) = (1 : Int32) := by decide +kernel
theorem z_tab65 : ∀ (u4 : Fin 2), ((z_ix (z_li 2 u4)) >>> ((1 : Int32) &&& 31)) = (2 : Int32) := by decide +kernel
theorem z_tab66 : ∀ (u5 : Fin 2), ((z_ix (z_li 3 u5)) >>> ((1 : Int32) &&& 31)) = (3 : Int32) := by decide +kernel
theorem z_tab67 : ∀ (u0 : Fin 2), ((([(.int 0), (.int 0), (.int 0), (.int 0), (.int 0), (.int 0), (.int 0), (.int 0)] : List Value)))[((z_ix (z_li 1 u0))).toNatClampNeg]? = some (.int 0) := by decide +kernel
theorem z_tab68 : ∀ (r0 : Nat), ∀ (u0 : Fin 2), ((([(.ref r0), (.ref r0), (.ref r0), (.ref r0), (.ref r0), (.ref r0), (.ref r0), (.ref r0)] : List Value)))[((z_ix (z_li 1 u0))).toNatClampNeg]? = some (.ref r0) := by intro r0 u0; rcases z_f2 u0 with rfl | rfl <;> simp only [z_i10, z_i11, z_i20, z_i21] <;> first | rfl | exact Or.inl ⟨rfl, rfl⟩ | exact Or.inr ⟨rfl, rfl⟩ | exact of_decide_eq_true rfl
theorem z_tab69 : ∀ (r0 : Nat), ∀ (u0 : Fin 2), ((z_ix (z_li 1 u0))).toNatClampNeg < ((([(.ref r0), (.ref r0), (.ref r0), (.ref r0), (.ref r0), (.ref r0), (.ref r0), (.ref r0)] : List Value))).length := by intro r0 u0; rcases z_f2 u0 with rfl | rfl <;> simp only [z_i10, z_i11, z_i20, z_i21] <;> first | rfl | exact Or.inl ⟨rfl, rfl⟩ | exact Or.inr ⟨rfl, rfl⟩ | exact of_decide_eq_true rfl
theorem z_tab70 : ∀ (u0 : Fin 2), ((z_ix (z_li 1 u0))).toNatClampNeg < ((([(.int 0), (.int 0), (.int 0), (.int 0), (.int 0), (.int 0), (.int 0), (.int 0)] : List Value))).length := by decide +kernel
theorem z_tab71 : ∀ (u0 u1 : Fin 2), (((List.set ((([(.int 0), (.int 0), (.int 0), (.int 0), (.int 0), (.int 0), (.int 0), (.int 0)] : List Value))) ((z_ix (z_li 1 u0))).toNatClampNeg (.int 1))))[((z_ix (z_li 2 u1))).toNatClampNeg]? = some (.int 0) := by decide +kernel
theorem z_tab72 : ∀ (r0 : Nat), ∀ (u0 u1 : Fin 2), ∀ (b7_0 : Nat), (((List.set ((([(.ref r0), (.ref r0), (.ref r0), (.ref r0), (.ref r0), (.ref r0), (.ref r0), (.ref r0)] : List Value))) ((z_ix (z_li 1 u0))).toNatClampNeg (.ref b7_0))))[((z_ix (z_li 2 u1))).toNatClampNeg]? = some (.ref r0) := by intro r0 u0 u1 b7_0; rcases z_f2 u0 with rfl | rfl <;> rcases z_f2 u1 with rfl | rfl <;> simp only [z_i10, z_i11, z_i20, z_i21] <;> first | rfl | exact Or.inl ⟨rfl, rfl⟩ | exact Or.inr ⟨rfl, rfl⟩ | exact of_decide_eq_true rfl
theorem z_tab73 : ∀ (r0 : Nat), ∀ (u0 u1 : Fin 2), ∀ (b7_0 : Nat), ((z_ix (z_li 2 u1))).toNatClampNeg < (((List.set ((([(.ref r0), (.ref r0), (.ref r0), (.ref r0), (.ref r0), (.ref r0), (.ref r0), (.ref r0)] : List Value))) ((z_ix (z_li 1 u0))).toNatClampNeg (.ref b7_0)))).length := by intro r0 u0 u1 b7_0; rcases z_f2 u0 with rfl | rfl <;> rcases z_f2 u1 with rfl | rfl <;> simp only [z_i10, z_i11, z_i20, z_i21] <;> first | rfl | exact Or.inl ⟨rfl, rfl⟩ | exact Or.inr ⟨rfl, rfl⟩ | exact of_decide_eq_true rfl
theorem z_tab74 : ∀ (u0 u1 : Fin 2), ((z_ix (z_li 2 u1))).toNatClampNeg < (((List.set ((([(.int 0), (.int 0), (.int 0), (.int 0), (.int 0), (.int 0), (.int 0), (.int 0)] : List Value))) ((z_ix (z_li 1 u0))).toNatClampNeg (.int 1)))).length := by decide +kernel
theorem z_tab75 : ∀ (r0 : Nat), ∀ (u0 u1 u3 : Fin 2), ∀ (b7_0 : Nat) (b8_0 : Nat), (((List.set (((List.set ((([(.int 0), (.int 0), (.int 0), (.int 0), (.int 0), (.int 0), (.int 0), (.int 0)] : List Value))) ((z_ix (z_li 1 u0))).toNatClampNeg (.int 1)))) ((z_ix (z_li 2 u1))).toNatClampNeg (.int 1)))[((z_ix (z_li 1 u3))).toNatClampNeg]? = some (.int 0) ∧ ((List.set (((List.set ((([(.ref r0), (.ref r0), (.ref r0), (.ref r0), (.ref r0), (.ref r0), (.ref r0), (.ref r0)] : List Value))) ((z_ix (z_li 1 u0))).toNatClampNeg (.ref b7_0)))) ((z_ix (z_li 2 u1))).toNatClampNeg (.ref b8_0)))[((z_ix (z_li 1 u3))).toNatClampNeg]? = some (.ref r0)) ∨ (((List.set (((List.set ((([(.int 0), (.int 0), (.int 0), (.int 0), (.int 0), (.int 0), (.int 0), (.int 0)] : List Value))) ((z_ix (z_li 1 u0))).toNatClampNeg (.int 1)))) ((z_ix (z_li 2 u1))).toNatClampNeg (.int 1)))[((z_ix (z_li 1 u3))).toNatClampNeg]? = some (.int 1) ∧ ((List.set (((List.set ((([(.ref r0), (.ref r0), (.ref r0), (.ref r0), (.ref r0), (.ref r0), (.ref r0), (.ref r0)] : List Value))) ((z_ix (z_li 1 u0))).toNatClampNeg (.ref b7_0)))) ((z_ix (z_li 2 u1))).toNatClampNeg (.ref b8_0)))[((z_ix (z_li 1 u3))).toNatClampNeg]? = some (.ref b7_0)) := by intro r0 u0 u1 u3 b7_0 b8_0; rcases z_f2 u0 with rfl | rfl <;> rcases z_f2 u1 with rfl | rfl <;> rcases z_f2 u3 with rfl | rfl <;> simp only [z_i10, z_i11, z_i20, z_i21] <;> first | rfl | exact Or.inl ⟨rfl, rfl⟩ | exact Or.inr ⟨rfl, rfl⟩ | exact of_decide_eq_true rfl
theorem z_tab76 : ∀ (r0 : Nat), ∀ (u0 u1 u3 : Fin 2), ∀ (b7_0 : Nat) (b8_0 : Nat), ((z_ix (z_li 1 u3))).toNatClampNeg < ((List.set (((List.set ((([(.ref r0), (.ref r0), (.ref r0), (.ref r0), (.ref r0), (.ref r0), (.ref r0), (.ref r0)] : List Value))) ((z_ix (z_li 1 u0))).toNatClampNeg (.ref b7_0)))) ((z_ix (z_li 2 u1))).toNatClampNeg (.ref b8_0))).length := by intro r0 u0 u1 u3 b7_0 b8_0; rcases z_f2 u0 with rfl | rfl <;> rcases z_f2 u1 with rfl | rfl <;> rcases z_f2 u3 with rfl | rfl <;> simp only [z_i10, z_i11, z_i20, z_i21] <;> first | rfl | exact Or.inl ⟨rfl, rfl⟩ | exact Or.inr ⟨rfl, rfl⟩ | exact of_decide_eq_true rfl
theorem z_tab77 : ∀ (u0 u1 u3 : Fin 2), ((z_ix (z_li 1 u3))).toNatClampNeg < ((List.set (((List.set ((([(.int 0), (.int 0), (.int 0), (.int 0), (.int 0), (.int 0), (.int 0), (.int 0)] : List Value))) ((z_ix (z_li 1 u0))).toNatClampNeg (.int 1)))) ((z_ix (z_li 2 u1))).toNatClampNeg (.int 1))).length := by decide +kernel
theorem z_tab78 : ∀ (r0 : Nat), ∀ (u0 u1 u3 u4 : Fin 2), ∀ (b7_0 : Nat) (b8_0 : Nat) (bw17 : Nat) (cw17 : Int32), (((List.set ((List.set (((List.set ((([(.int 0), (.int 0), (.int 0), (.int 0), (.int 0), (.int 0), (.int 0), (.int 0)] : List Value))) ((z_ix (z_li 1 u0))).toNatClampNeg (.int 1)))) ((z_ix (z_li 2 u1))).toNatClampNeg (.int 1))) ((z_ix (z_li 1 u3))).toNatClampNeg (.int cw17)))[((z_ix (z_li 2 u4))).toNatClampNeg]? = some (.int 0) ∧ ((List.set ((List.set (((List.set ((([(.ref r0), (.ref r0), (.ref r0), (.ref r0), (.ref r0), (.ref r0), (.ref r0), (.ref r0)] : List Value))) ((z_ix (z_li 1 u0))).toNatClampNeg (.ref b7_0)))) ((z_ix (z_li 2 u1))).toNatClampNeg (.ref b8_0))) ((z_ix (z_li 1 u3))).toNatClampNeg (.ref bw17)))[((z_ix (z_li 2 u4))).toNatClampNeg]? = some (.ref r0)) ∨ (((List.set ((List.set (((List.set ((([(.int 0), (.int 0), (.int 0), (.int 0), (.int 0), (.int 0), (.int 0), (.int 0)] : List Value))) ((z_ix (z_li 1 u0))).toNatClampNeg (.int 1)))) ((z_ix (z_li 2 u1))).toNatClampNeg (.int 1))) ((z_ix (z_li 1 u3))).toNatClampNeg (.int cw17)))[((z_ix (z_li 2 u4))).toNatClampNeg]? = some (.int 1) ∧ ((List.set ((List.set (((List.set ((([(.ref r0), (.ref r0), (.ref r0), (.ref r0), (.ref r0), (.ref r0), (.ref r0), (.ref r0)] : List Value))) ((z_ix (z_li 1 u0))).toNatClampNeg (.ref b7_0)))) ((z_ix (z_li 2 u1))).toNatClampNeg (.ref b8_0))) ((z_ix (z_li 1 u3))).toNatClampNeg (.ref bw17)))[((z_ix (z_li 2 u4))).toNatClampNeg]? = some (.ref b8_0)) := by intro r0 u0 u1 u3 u4 b7_0 b8_0 bw17 cw17; rcases z_f2 u0 with rfl | rfl <;> rcases z_f2 u1 with rfl | rfl <;> rcases z_f2 u3 with rfl | rfl <;> rcases z_f2 u4 with rfl | rfl <;> simp only [z_i10, z_i11, z_i20, z_i21] <;> first | rfl | exact Or.inl ⟨rfl, rfl⟩ | exact Or.inr ⟨rfl, rfl⟩ | exact of_decide_eq_true rfl
theorem z_tab79 : ∀ (r0 : Nat), ∀ (u0 u1 u3 u4 : Fin 2), ∀ (b7_0 : Nat) (b8_0 : Nat) (bw17 : Nat), ((z_ix (z_li 2 u4))).toNatClampNeg < ((List.set ((List.set (((List.set ((([(.ref r0), (.ref r0), (.ref r0), (.ref r0), (.ref r0), (.ref r0), (.ref r0), (.ref r0)] : List Value))) ((z_ix (z_li 1 u0))).toNatClampNeg (.ref b7_0)))) ((z_ix (z_li 2 u1))).toNatClampNeg (.ref b8_0))) ((z_ix (z_li 1 u3))).toNatClampNeg (.ref bw17))).length := by intro r0 u0 u1 u3 u4 b7_0 b8_0 bw17; rcases z_f2 u0 with rfl | rfl <;> rcases z_f2 u1 with rfl | rfl <;> rcases z_f2 u3 with rfl | rfl <;> rcases z_f2 u4 with rfl | rfl <;> simp only [z_i10, z_i11, z_i20, z_i21] <;> first | rfl | exact Or.inl ⟨rfl, rfl⟩ | exact Or.inr ⟨rfl, rfl⟩ | exact of_decide_eq_true rfl
theorem z_tab80 : ∀ (u0 u1 u3 u4 : Fin 2), ∀ (cw17 : Int32), ((z_ix (z_li 2 u4))).toNatClampNeg < ((List.set ((List.set (((List.set ((([(.int 0), (.int 0), (.int 0), (.int 0), (.int 0), (.int 0), (.int 0), (.int 0)] : List Value))) ((z_ix (z_li 1 u0))).toNatClampNeg (.int 1)))) ((z_ix (z_li 2 u1))).toNatClampNeg (.int 1))) ((z_ix (z_li 1 u3))).toNatClampNeg (.int cw17))).length := by intro u0 u1 u3 u4 cw17; rcases z_f2 u0 with rfl | rfl <;> rcases z_f2 u1 with rfl | rfl <;> rcases z_f2 u3 with rfl | rfl <;> rcases z_f2 u4 with rfl | rfl <;> simp only [z_i10, z_i11, z_i20, z_i21] <;> first | rfl | exact Or.inl ⟨rfl, rfl⟩ | exact Or.inr ⟨rfl, rfl⟩ | exact of_decide_eq_true rfl
theorem z_tab81 : ∀ (u0 : Fin 2), ∀ (k1 k2 k3 : Fin 3), (((z_sv (3 : Int32) (z_tr k3) (z_sv (2 : Int32) (z_tr k2) (z_sv (1 : Int32) (z_tr k1) ([(.int 0), (.int 0), (.int 0), (.int 0), (.int 0), (.int 0), (.int 0), (.int 0)] : List Value))))))[((z_ix (z_li 1 u0))).toNatClampNeg]? = some (.int (z_gI ((z_sv (3 : Int32) (z_tr k3) (z_sv (2 : Int32) (z_tr k2) (z_sv (1 : Int32) (z_tr k1) ([(.int 0), (.int 0), (.int 0), (.int 0), (.int 0), (.int 0), (.int 0), (.int 0)] : List Value))))) ((z_ix (z_li 1 u0))).toNatClampNeg)) := by decide +kernel
theorem z_tab82 : ∀ (u1 : Fin 2), ∀ (k1 k2 k3 : Fin 3), (((z_sv (3 : Int32) (z_tr k3) (z_sv (2 : Int32) (z_tr k2) (z_sv (1 : Int32) (z_tr k1) ([(.int 0), (.int 0), (.int 0), (.int 0), (.int 0), (.int 0), (.int 0), (.int 0)] : List Value))))))[((z_ix (z_li 2 u1))).toNatClampNeg]? = some (.int (z_gI ((z_sv (3 : Int32) (z_tr k3) (z_sv (2 : Int32) (z_tr k2) (z_sv (1 : Int32) (z_tr k1) ([(.int 0), (.int 0), (.int 0), (.int 0), (.int 0), (.int 0), (.int 0), (.int 0)] : List Value))))) ((z_ix (z_li 2 u1))).toNatClampNeg)) := by decide +kernel
theorem z_tab83 : ∀ (u2 : Fin 2), ∀ (k1 k2 k3 : Fin 3), (((z_sv (3 : Int32) (z_tr k3) (z_sv (2 : Int32) (z_tr k2) (z_sv (1 : Int32) (z_tr k1) ([(.int 0), (.int 0), (.int 0), (.int 0), (.int 0), (.int 0), (.int 0), (.int 0)] : List Value))))))[((z_ix (z_li 3 u2))).toNatClampNeg]? = some (.int (z_gI ((z_sv (3 : Int32) (z_tr k3) (z_sv (2 : Int32) (z_tr k2) (z_sv (1 : Int32) (z_tr k1) ([(.int 0), (.int 0), (.int 0), (.int 0), (.int 0), (.int 0), (.int 0), (.int 0)] : List Value))))) ((z_ix (z_li 3 u2))).toNatClampNeg)) := by decide +kernel
theorem z_tab84 : ∀ (u3 : Fin 2), ∀ (k1 k2 k3 : Fin 3), (((z_sv (3 : Int32) (z_tr k3) (z_sv (2 : Int32) (z_tr k2) (z_sv (1 : Int32) (z_tr k1) ([(.int 0), (.int 0), (.int 0), (.int 0), (.int 0), (.int 0), (.int 0), (.int 0)] : List Value))))))[((z_ix (z_li 1 u3))).toNatClampNeg]? = some (.int (z_gI ((z_sv (3 : Int32) (z_tr k3) (z_sv (2 : Int32) (z_tr k2) (z_sv (1 : Int32) (z_tr k1) ([(.int 0), (.int 0), (.int 0), (.int 0), (.int 0), (.int 0), (.int 0), (.int 0)] : List Value))))) ((z_ix (z_li 1 u3))).toNatClampNeg)) := by decide +kernel
theorem z_tab85 : ∀ (u4 : Fin 2), ∀ (k1 k2 k3 : Fin 3), (((z_sv (3 : Int32) (z_tr k3) (z_sv (2 : Int32) (z_tr k2) (z_sv (1 : Int32) (z_tr k1) ([(.int 0), (.int 0), (.int 0), (.int 0), (.int 0), (.int 0), (.int 0), (.int 0)] : List Value))))))[((z_ix (z_li 2 u4))).toNatClampNeg]? = some (.int (z_gI ((z_sv (3 : Int32) (z_tr k3) (z_sv (2 : Int32) (z_tr k2) (z_sv (1 : Int32) (z_tr k1) ([(.int 0), (.int 0), (.int 0), (.int 0), (.int 0), (.int 0), (.int 0), (.int 0)] : List Value))))) ((z_ix (z_li 2 u4))).toNatClampNeg)) := by decide +kernel
theorem z_tab86 : ∀ (u5 : Fin 2), ∀ (k1 k2 k3 : Fin 3), (((z_sv (3 : Int32) (z_tr k3) (z_sv (2 : Int32) (z_tr k2) (z_sv (1 : Int32) (z_tr k1) ([(.int 0), (.int 0), (.int 0), (.int 0), (.int 0), (.int 0), (.int 0), (.int 0)] : List Value))))))[((z_ix (z_li 3 u5))).toNatClampNeg]? = some (.int (z_gI ((z_sv (3 : Int32) (z_tr k3) (z_sv (2 : Int32) (z_tr k2) (z_sv (1 : Int32) (z_tr k1) ([(.int 0), (.int 0), (.int 0), (.int 0), (.int 0), (.int 0), (.int 0), (.int 0)] : List Value))))) ((z_ix (z_li 3 u5))).toNatClampNeg)) := by decide +kernel
theorem z_tab87 : ∀ (u0 u1 u2 : Fin 2), ∀ (k1 k2 k3 : Fin 3), (z_sat (z_gI ((z_sv (3 : Int32) (z_tr k3) (z_sv (2 : Int32) (z_tr k2) (z_sv (1 : Int32) (z_tr k1) ([(.int 0), (.int 0), (.int 0), (.int 0), (.int 0), (.int 0), (.int 0), (.int 0)] : List Value))))) ((z_ix (z_li 1 u0))).toNatClampNeg) (z_gI ((z_sv (3 : Int32) (z_tr k3) (z_sv (2 : Int32) (z_tr k2) (z_sv (1 : Int32) (z_tr k1) ([(.int 0), (.int 0), (.int 0), (.int 0), (.int 0), (.int 0), (.int 0), (.int 0)] : List Value))))) ((z_ix (z_li 2 u1))).toNatClampNeg) (z_gI ((z_sv (3 : Int32) (z_tr k3) (z_sv (2 : Int32) (z_tr k2) (z_sv (1 : Int32) (z_tr k1) ([(.int 0), (.int 0), (.int 0), (.int 0), (.int 0), (.int 0), (.int 0), (.int 0)] : List Value))))) ((z_ix (z_li 3 u2))).toNatClampNeg)) = (z_e (z_hd (z_pb u0) (z_tr k1)) (z_hd (z_pb u1) (z_tr k2)) (z_hd (z_pb u2) (z_tr k3))) := by decide +kernel
theorem z_tab88 : ∀ (u3 u4 u5 : Fin 2), ∀ (k1 k2 k3 : Fin 3), (z_sat (z_gI ((z_sv (3 : Int32) (z_tr k3) (z_sv (2 : Int32) (z_tr k2) (z_sv (1 : Int32) (z_tr k1) ([(.int 0), (.int 0), (.int 0), (.int 0), (.int 0), (.int 0), (.int 0), (.int 0)] : List Value))))) ((z_ix (z_li 1 u3))).toNatClampNeg) (z_gI ((z_sv (3 : Int32) (z_tr k3) (z_sv (2 : Int32) (z_tr k2) (z_sv (1 : Int32) (z_tr k1) ([(.int 0), (.int 0), (.int 0), (.int 0), (.int 0), (.int 0), (.int 0), (.int 0)] : List Value))))) ((z_ix (z_li 2 u4))).toNatClampNeg) (z_gI ((z_sv (3 : Int32) (z_tr k3) (z_sv (2 : Int32) (z_tr k2) (z_sv (1 : Int32) (z_tr k1) ([(.int 0), (.int 0), (.int 0), (.int 0), (.int 0), (.int 0), (.int 0), (.int 0)] : List Value))))) ((z_ix (z_li 3 u5))).toNatClampNeg)) = (z_e (z_hd (z_pb u3) (z_tr k1)) (z_hd (z_pb u4) (z_tr k2)) (z_hd (z_pb u5) (z_tr k3))) := by decide +kernel
def z_lay0 : List (String × String × String) := [("com/example/variegate/variegate/service/Cnf", "clauses", "Ljava/util/List;"), ("com/example/variegate/variegate/service/Cnf", "redundant", "Ljava/util/BitSet;"), ("com/example/variegate/variegate/service/Cnf", "weights", "Ljava/util/List;"), ("com/example/variegate/variegate/service/Cnf", "falseWeights", "Ljava/util/List;"), ("com/example/variegate/variegate/service/Cnf", "lastHeld", "[J"), ("com/example/variegate/variegate/service/Cnf", "added", "J")]
theorem z_lay0_ok {Z : State} {a0 : Array Value} (hw : ∀ d ∈ tables_1, d.before a0 Z = true) : z_LayOk Z a0 "com/example/variegate/variegate/service/Cnf" z_lay0 := ⟨by decide +kernel, (z_allS ⟨Or.inr (z_w hw 34 rfl), ⟨(.object "java/util/List"), by decide +kernel⟩⟩ (z_allS ⟨Or.inr (z_w hw 58 rfl), ⟨(.object "java/util/BitSet"), by decide +kernel⟩⟩ (z_allS ⟨Or.inr (z_w hw 60 rfl), ⟨(.object "java/util/List"), by decide +kernel⟩⟩ (z_allS ⟨Or.inr (z_w hw 62 rfl), ⟨(.object "java/util/List"), by decide +kernel⟩⟩ (z_allS ⟨Or.inl (z_w hw 64 rfl), ⟨(.array .long), by decide +kernel⟩⟩ (z_allS ⟨Or.inl (z_w hw 134 rfl), ⟨.long, by decide +kernel⟩⟩ z_nil))))))⟩
theorem z_lay0_df : z_lay0.map z_dflt = [.null, .null, .null, .null, .null, (.long (0 : Int64))] := by first | rfl | decide +kernel
def z_lay1 : List (String × String × String) := [("java/util/AbstractList", "modCount", "I"), ("java/util/ArrayList", "elementData", "[Ljava/lang/Object;"), ("java/util/ArrayList", "size", "I")]
theorem z_lay1_ok {Z : State} {a0 : Array Value} (hw : ∀ d ∈ tables_1, d.before a0 Z = true) : z_LayOk Z a0 "java/util/ArrayList" z_lay1 := ⟨by decide +kernel, (z_allS ⟨Or.inl (z_w hw 29 rfl), ⟨.int, by decide +kernel⟩⟩ (z_allS ⟨Or.inl (z_w hw 32 rfl), ⟨(.array (.object "java/lang/Object")), by decide +kernel⟩⟩ (z_allS ⟨Or.inl (z_w hw 84 rfl), ⟨.int, by decide +kernel⟩⟩ z_nil)))⟩
theorem z_lay1_df : z_lay1.map z_dflt = [(.int 0), .null, (.int 0)] := by first | rfl | decide +kernel
def z_lay2 : List (String × String × String) := [("java/util/BitSet", "wordsInUse", "I"), ("java/util/BitSet", "sizeIsSticky", "Z"), ("java/util/BitSet", "words", "[J")]
theorem z_lay2_ok {Z : State} {a0 : Array Value} (hw : ∀ d ∈ tables_1, d.before a0 Z = true) : z_LayOk Z a0 "java/util/BitSet" z_lay2 := ⟨by decide +kernel, (z_allS ⟨Or.inl (z_w hw 43 rfl), ⟨.int, by decide +kernel⟩⟩ (z_allS ⟨Or.inl (z_w hw 45 rfl), ⟨.boolean, by decide +kernel⟩⟩ (z_allS ⟨Or.inl (z_w hw 56 rfl), ⟨(.array .long), by decide +kernel⟩⟩ z_nil)))⟩
theorem z_lay2_df : z_lay2.map z_dflt = [(.int 0), (.int 0), .null] := by first | rfl | decide +kernel
def z_lay3 : List (String × String × String) := [("com/example/variegate/variegate/service/Propagation", "variables", "I"), ("com/example/variegate/variegate/service/Propagation", "weight", "[Ljava/math/BigInteger;"), ("com/example/variegate/variegate/service/Propagation", "value", "[B"), ("com/example/variegate/variegate/service/Propagation", "trail", "[I"), ("com/example/variegate/variegate/service/Propagation", "redundant", "[Z"), ("com/example/variegate/variegate/service/Propagation", "implied", "[[I"), ("com/example/variegate/variegate/service/Propagation", "literals", "[I"), ("com/example/variegate/variegate/service/Propagation", "clauseStart", "[I"), ("com/example/variegate/variegate/service/Propagation", "occurrences", "[[I"), ("com/example/variegate/variegate/service/Propagation", "watches", "[[I"), ("com/example/variegate/variegate/service/Propagation", "watchCount", "[I"), ("com/example/variegate/variegate/service/Propagation", "trailSize", "I"), ("com/example/variegate/variegate/service/Propagation", "contradiction", "Z")]
theorem z_lay3_ok {Z : State} {a0 : Array Value} (hw : ∀ d ∈ tables_1, d.before a0 Z = true) : z_LayOk Z a0 "com/example/variegate/variegate/service/Propagation" z_lay3 := ⟨by decide +kernel, (z_allS ⟨Or.inr (z_w hw 149 rfl), ⟨.int, by decide +kernel⟩⟩ (z_allS ⟨Or.inr (z_w hw 153 rfl), ⟨(.array (.object "java/math/BigInteger")), by decide +kernel⟩⟩ (z_allS ⟨Or.inr (z_w hw 184 rfl), ⟨(.array .byte), by decide +kernel⟩⟩ (z_allS ⟨Or.inr (z_w hw 186 rfl), ⟨(.array .int), by decide +kernel⟩⟩ (z_allS ⟨Or.inr (z_w hw 197 rfl), ⟨(.array .boolean), by decide +kernel⟩⟩ (z_allS ⟨Or.inr (z_w hw 223 rfl), ⟨(.array (.array .int)), by decide +kernel⟩⟩ (z_allS ⟨Or.inr (z_w hw 265 rfl), ⟨(.array .int), by decide +kernel⟩⟩ (z_allS ⟨Or.inr (z_w hw 267 rfl), ⟨(.array .int), by decide +kernel⟩⟩ (z_allS ⟨Or.inr (z_w hw 269 rfl), ⟨(.array (.array .int)), by decide +kernel⟩⟩ (z_allS ⟨Or.inr (z_w hw 271 rfl), ⟨(.array (.array .int)), by decide +kernel⟩⟩ (z_allS ⟨Or.inr (z_w hw 276 rfl), ⟨(.array .int), by decide +kernel⟩⟩ (z_allS ⟨Or.inl (z_w hw 304 rfl), ⟨.int, by decide +kernel⟩⟩ (z_allS ⟨Or.inl (z_w hw 315 rfl), ⟨.boolean, by decide +kernel⟩⟩ z_nil)))))))))))))⟩
theorem z_lay3_df : z_lay3.map z_dflt = [(.int 0), .null, .null, .null, .null, .null, .null, .null, .null, .null, .null, (.int 0), (.int 0)] := by first | rfl | decide +kernel
def z_lay4 : List (String × String × String) := [("java/util/ArrayList$Itr", "this$0", "Ljava/util/ArrayList;"), ("java/util/ArrayList$Itr", "lastRet", "I"), ("java/util/ArrayList$Itr", "expectedModCount", "I"), ("java/util/ArrayList$Itr", "cursor", "I")]
theorem z_lay4_ok {Z : State} {a0 : Array Value} (hw : ∀ d ∈ tables_1, d.before a0 Z = true) : z_LayOk Z a0 "java/util/ArrayList$Itr" z_lay4 := ⟨by decide +kernel, (z_allS ⟨Or.inr (z_w hw 245 rfl), ⟨(.object "java/util/ArrayList"), by decide +kernel⟩⟩ (z_allS ⟨Or.inl (z_w hw 248 rfl), ⟨.int, by decide +kernel⟩⟩ (z_allS ⟨Or.inl (z_w hw 251 rfl), ⟨.int, by decide +kernel⟩⟩ (z_allS ⟨Or.inl (z_w hw 262 rfl), ⟨.int, by decide +kernel⟩⟩ z_nil))))⟩
theorem z_lay4_df : z_lay4.map z_dflt = [.null, (.int 0), (.int 0), (.int 0)] := by first | rfl | decide +kernel


def z_St (Z : State) (a_DEF a_ONE a_NONE : Nat) : Prop := z_Sx Z "java/util/ArrayList" "DEFAULTCAPACITY_EMPTY_ELEMENTDATA" "[Ljava/lang/Object;" a_DEF (z_Ar Z Z.heap a_DEF (.object "java/lang/Object") "[Ljava/lang/Object;" "" []) ∧ z_Sx Z "java/math/BigInteger" "ONE" "Ljava/math/BigInteger;" a_ONE (z_Ob Z Z.heap a_ONE "java/math/BigInteger" z_layB [(.int 1)]) ∧ z_Sx Z "com/example/variegate/variegate/service/Propagation" "NONE" "[I" a_NONE (z_Ar Z Z.heap a_NONE .int "[I" "" []) ∧ Sta Z Z.heap "java/util/BitSet" "$assertionsDisabled" "Z" (.int 1)
def z_T (Z : State) (a0 : Array Value) : Prop := ∀ d ∈ tables_1, d.before a0 Z = true
section
variable (l : Launch) {Z : State} {a0 : Array Value} {n0 : Nat} {h : Heap} {a_DEF a_ONE a_NONE : Nat}
set_option maxHeartbeats 2000000 in
theorem z_c5_0 (hw : z_T Z a0) (S : z_St Z a_DEF a_ONE a_NONE) (z0 : n0 ≤ h.size) (old : Old Z n0 h) (p0 : Nat) :
    z_Met l Z (⟨"java/util/AbstractCollection", "<init>", "()V"⟩ : MethodName) jdk_22_method_1_code 1 none [] ({ frames := 1, cells := 0, slots := 0, locals := 12 } : Room) n0 #[(.ref p0)] h (z_nov fun h' => Keep h h' []) := by
  refine z_met (Ls := #[.val (.ref p0)]) (by first | exact plainFor_of_name (by first | (simp [plainName, overriddenIn]; done) | decide +kernel) | decide +kernel) rfl ?_
  intro p e s m below meth c C
  refine z_aloadN C z_d5_0 rfl rfl 1 rfl ?_
  refine z_init0 C (z_w hw 27 rfl) (z_w hw 7 rfl) (z_w hw 8 rfl) z_d5_1 rfl (W := 0) (Nat.le_of_eq rfl) (by decide) (by decide) 4 rfl ?_
  exact z_return C z_d5_4 (by decide) (by decide) ⟨rfl, (Keep.refl h [])⟩
set_option maxHeartbeats 2000000 in
theorem z_c4_1 (hw : z_T Z a0) (S : z_St Z a_DEF a_ONE a_NONE) (z0 : n0 ≤ h.size) (old : Old Z n0 h) (p0 : Nat) (o_p0 : z_Ob Z h p0 "java/util/ArrayList" z_lay1 [(.int 0), .null, (.int 0)]) (g_p0 : n0 ≤ p0) :
    z_Met l Z (⟨"java/util/AbstractList", "<init>", "()V"⟩ : MethodName) jdk_39_method_1_code 1 none [] ({ frames := 2, cells := 0, slots := 0, locals := 24 } : Room) n0 #[(.ref p0)] h (z_nov fun h' => Keep h h' [p0] ∧ z_Ob Z h' p0 "java/util/ArrayList" z_lay1 [(.int 0), .null, (.int 0)]) := by
  refine z_met (Ls := #[.val (.ref p0)]) (by first | exact plainFor_of_name (by first | (simp [plainName, overriddenIn]; done) | decide +kernel) | decide +kernel) rfl ?_
  intro p e s m below meth c C
  refine z_aloadN C z_d4_0 rfl rfl 1 rfl ?_
  refine z_callI C rfl (z_c5_0 l hw S z0 old p0) (z_w hw 21 rfl) (z_w hw 22 rfl) (z_w hw 25 rfl) (z_w hw 26 rfl) (by decide) z_d4_1 rfl (argsL := []) (rest := []) rfl (lenOf z_pd0 rfl) (W := 0) (Nat.le_of_eq rfl) (by decide) (by decide) (by decide) (by decide) 4 rfl ?_
  rintro h1 K1
  have s1 : h.size ≤ h1.size := K1.1
  have k1 : Keep h h1 [p0] := (Keep.refl h [p0]).trans K1 all0
  refine z_aloadN C z_d4_4 rfl rfl 5 rfl ?_
  refine z_iconst C (v := (0 : Int32)) z_d4_5 (by decide) 6 rfl ?_
  have o_p0_1 := (o_p0.keep K1 nin0)
  refine z_putO C (z_w hw 28 rfl) Via.refl o_p0_1 (z_lay1_ok hw) 0 rfl (vs' := [(.int 0), .null, (.int 0)]) rfl (Or.inl (z_w hw 29 rfl)) (z_w hw 10 rfl) (ty := .int) (by decide) (by first | rfl | decide) (by first | rfl | decide) g_p0 z_d4_6 9 rfl ?_
  intro h2 W2 o_p0_2
  have s2 : h2.size = h1.size := W2.size
  have k2 : Keep h h2 [p0] := k1.wr W2 (Or.inl (by simp))
  exact z_return C z_d4_9 (by decide) (by decide) ⟨rfl, k2, o_p0_2⟩
set_option maxHeartbeats 2000000 in
theorem z_c3_2 (hw : z_T Z a0) (S : z_St Z a_DEF a_ONE a_NONE) (z0 : n0 ≤ h.size) (old : Old Z n0 h) (p0 : Nat) (o_p0 : z_Ob Z h p0 "java/util/ArrayList" z_lay1 [(.int 0), .null, (.int 0)]) (g_p0 : n0 ≤ p0) :
    z_Met l Z (⟨"java/util/ArrayList", "<init>", "()V"⟩ : MethodName) jdk_38_method_2_code 1 none [] ({ frames := 3, cells := 0, slots := 0, locals := 36 } : Room) n0 #[(.ref p0)] h (z_nov fun h' => Keep h h' [p0] ∧ z_Ob Z h' p0 "java/util/ArrayList" z_lay1 [(.int 0), (.ref a_DEF), (.int 0)]) := by
  refine z_met (Ls := #[.val (.ref p0)]) (by first | exact plainFor_of_name (by first | (simp [plainName, overriddenIn]; done) | decide +kernel) | decide +kernel) rfl ?_
  intro p e s m below meth c C
  refine z_aloadN C z_d3_0 rfl rfl 1 rfl ?_
  refine z_callI C rfl (z_c4_1 l hw S z0 old p0 o_p0 g_p0) (z_w hw 15 rfl) (z_w hw 16 rfl) (z_w hw 19 rfl) (z_w hw 20 rfl) (by decide) z_d3_1 rfl (argsL := []) (rest := []) rfl (lenOf z_pd0 rfl) (W := 0) (Nat.le_of_eq rfl) (by decide) (by decide) (by decide) (by decide) 4 rfl ?_
  rintro h1 ⟨K1, o_p0_1⟩
  have s1 : h.size ≤ h1.size := K1.1
  have k1 : Keep h h1 [p0] := (Keep.refl h [p0]).trans K1 (allS (Or.inl (by simp)) all0)
  refine z_aloadN C z_d3_4 rfl rfl 5 rfl ?_
  have old1 := (old.keep K1 (allS g_p0 all0))
  refine z_getstatic C (z_w hw 30 rfl) (S.1.1.ext old1.2) z_d3_5 8 rfl ?_
  refine z_putO C (z_w hw 31 rfl) Via.refl o_p0_1 (z_lay1_ok hw) 1 rfl (vs' := [(.int 0), (.ref a_DEF), (.int 0)]) rfl (Or.inl (z_w hw 32 rfl)) (z_w hw 10 rfl) (ty := (.array (.object "java/lang/Object"))) (by decide) (by first | rfl | decide) (by first | rfl | decide) g_p0 z_d3_8 11 rfl ?_
  intro h2 W2 o_p0_2
  have s2 : h2.size = h1.size := W2.size
  have k2 : Keep h h2 [p0] := k1.wr W2 (Or.inl (by simp))
  exact z_return C z_d3_11 (by decide) (by decide) ⟨rfl, k2, o_p0_2⟩
set_option maxHeartbeats 2000000 in
theorem z_c8_3 (hw : z_T Z a0) (S : z_St Z a_DEF a_ONE a_NONE) (z0 : n0 ≤ h.size) (old : Old Z n0 h) :
    z_Met l Z (⟨"java/util/BitSet", "wordIndex", "(I)I"⟩ : MethodName) jdk_92_method_1_code 1 (some .int) [] ({ frames := 0, cells := 0, slots := 0, locals := 0 } : Room) n0 #[(.int 63)] h (z_pure (.int 0) h) := by
  refine z_met (Ls := #[.val (.int 63)]) (by first | exact plainFor_of_name (by first | (simp [plainName, overriddenIn]; done) | decide +kernel) | decide +kernel) rfl ?_
  intro p e s m below meth c C
  refine z_iloadN C z_d8_0 rfl 1 rfl ?_
  refine z_bipush C (v := (6 : Int32)) z_d8_1 (by decide) 3 rfl ?_
  refine z_ishr C (z := (0 : Int32)) z_d8_3 (by decide) 4 rfl ?_
  exact z_ireturn C (Or.inl rfl) rfl z_d8_4 (by decide) (by decide) ⟨rfl, rfl⟩
set_option maxHeartbeats 2000000 in
theorem z_c7_4 (hw : z_T Z a0) (S : z_St Z a_DEF a_ONE a_NONE) (z0 : n0 ≤ h.size) (old : Old Z n0 h) (p0 : Nat) (o_p0 : z_Ob Z h p0 "java/util/BitSet" z_lay2 [(.int 0), (.int 0), .null]) (g_p0 : n0 ≤ p0) :
    z_Met l Z (⟨"java/util/BitSet", "initWords", "(I)V"⟩ : MethodName) jdk_92_method_6_code 2 none [] ({ frames := 1, cells := 1, slots := 1, locals := 13 } : Room) n0 #[(.ref p0), (.int 64)] h (z_nov fun h' => ∃ b1 : Nat, Keep h h' [p0] ∧ h.size ≤ b1 ∧ b1 < h'.size ∧ z_Ob Z h' p0 "java/util/BitSet" z_lay2 [(.int 0), (.int 0), (.ref b1)] ∧ z_Ar Z h' b1 .long "[J" "" [(.long (0 : Int64))]) := by
  have lt_p0 := o_p0.lt
  refine z_met (Ls := #[.val (.ref p0), .val (.int 64)]) (by first | exact plainFor_of_name (by first | (simp [plainName, overriddenIn]; done) | decide +kernel) | decide +kernel) rfl ?_
  intro p e s m below meth c C
  refine z_aloadN C z_d7_0 rfl rfl 1 rfl ?_
  refine z_iloadN C z_d7_1 rfl 2 rfl ?_
  refine z_iconst C (v := (1 : Int32)) z_d7_2 (by decide) 3 rfl ?_
  refine z_isub C (z := (63 : Int32)) z_d7_3 (by decide) 4 rfl ?_
  refine z_callSp C (z_c8_3 l hw S z0 old) (z_w hw 51 rfl) (z_w hw 52 rfl) (z_w hw 37 rfl) (z_w hw 53 rfl) (by decide) z_d7_4 rfl (argsL := [(.int 63)]) (rest := [(.ref p0)]) rfl (lenOf z_pd1 rfl) (W := 1) (Nat.le_of_eq rfl) (by decide) (by decide) (by decide) (by decide) (by decide) (by decide) 7 rfl ?_
  refine z_iconst C (v := (1 : Int32)) z_d7_7 (by decide) 8 rfl ?_
  refine z_iadd C (z := (1 : Int32)) z_d7_8 (by decide) 9 rfl ?_
  refine z_newarray C (aty := .long) (z_w hw 54 rfl) (by decide) (cap := 1) (by decide) (by decide) (ad := "[J") (by decide +kernel) (vs := [(.long (0 : Int64))]) (by rfl) z_d7_9 (by decide) (by decide) 11 rfl ?_
  intro h1 b1 g1 E1 o_b1
  have s1 : h.size ≤ h1.size := E1.1
  have k1 : Keep h h1 [p0] := (Keep.refl h [p0]).ext E1
  have o_b1 : z_Ar Z h1 b1 .long "[J" "" [(.long (0 : Int64))] := o_b1
  have t1 := o_b1.lt
  have o_p0_1 := (o_p0.ext E1)
  refine z_putO C (z_w hw 55 rfl) Via.refl o_p0_1 (z_lay2_ok hw) 2 rfl (vs' := [(.int 0), (.int 0), (.ref b1)]) rfl (Or.inl (z_w hw 56 rfl)) (z_w hw 36 rfl) (ty := (.array .long)) (by decide) (by first | rfl | decide) (by first | rfl | decide) g_p0 z_d7_11 14 rfl ?_
  intro h2 W2 o_p0_2
  have s2 : h2.size = h1.size := W2.size
  have k2 : Keep h h2 [p0] := k1.wr W2 (Or.inl (by simp))
  have n_b1_p0 : (b1 : Nat) ≠ p0 := by omega
  have o_b1_2 := (o_b1.other W2 n_b1_p0)
  exact z_return C z_d7_14 (by decide) (by decide) ⟨rfl, b1, k2, by omega, by omega, o_p0_2, o_b1_2⟩
set_option maxHeartbeats 2000000 in
theorem z_c6_5 (hw : z_T Z a0) (S : z_St Z a_DEF a_ONE a_NONE) (z0 : n0 ≤ h.size) (old : Old Z n0 h) (p0 : Nat) (o_p0 : z_Ob Z h p0 "java/util/BitSet" z_lay2 [(.int 0), (.int 0), .null]) (g_p0 : n0 ≤ p0) :
    z_Met l Z (⟨"java/util/BitSet", "<init>", "()V"⟩ : MethodName) jdk_92_method_4_code 1 none [] ({ frames := 2, cells := 1, slots := 1, locals := 26 } : Room) n0 #[(.ref p0)] h (z_nov fun h' => ∃ b3_0 : Nat, Keep h h' [p0] ∧ h.size ≤ b3_0 ∧ b3_0 < h'.size ∧ z_Ob Z h' p0 "java/util/BitSet" z_lay2 [(.int 0), (.int 0), (.ref b3_0)] ∧ z_Ar Z h' b3_0 .long "[J" "" [(.long (0 : Int64))]) := by
  have lt_p0 := o_p0.lt
  refine z_met (Ls := #[.val (.ref p0)]) (by first | exact plainFor_of_name (by first | (simp [plainName, overriddenIn]; done) | decide +kernel) | decide +kernel) rfl ?_
  intro p e s m below meth c C
  refine z_aloadN C z_d6_0 rfl rfl 1 rfl ?_
  refine z_init0 C (z_w hw 41 rfl) (z_w hw 7 rfl) (z_w hw 8 rfl) z_d6_1 rfl (W := 0) (Nat.le_of_eq rfl) (by decide) (by decide) 4 rfl ?_
  refine z_aloadN C z_d6_4 rfl rfl 5 rfl ?_
  refine z_iconst C (v := (0 : Int32)) z_d6_5 (by decide) 6 rfl ?_
  refine z_putO C (z_w hw 42 rfl) Via.refl o_p0 (z_lay2_ok hw) 0 rfl (vs' := [(.int 0), (.int 0), .null]) rfl (Or.inl (z_w hw 43 rfl)) (z_w hw 36 rfl) (ty := .int) (by decide) (by first | rfl | decide) (by first | rfl | decide) g_p0 z_d6_6 9 rfl ?_
  intro h1 W1 o_p0_1
  have s1 : h1.size = h.size := W1.size
  have k1 : Keep h h1 [p0] := (Keep.refl h [p0]).wr W1 (Or.inl (by simp))
  refine z_aloadN C z_d6_9 rfl rfl 10 rfl ?_
  refine z_iconst C (v := (0 : Int32)) z_d6_10 (by decide) 11 rfl ?_
  refine z_putO C (z_w hw 44 rfl) Via.refl o_p0_1 (z_lay2_ok hw) 1 rfl (vs' := [(.int 0), (.int 0), .null]) rfl (Or.inl (z_w hw 45 rfl)) (z_w hw 36 rfl) (ty := .boolean) (by decide) (by first | rfl | decide) (by first | rfl | decide) g_p0 z_d6_11 14 rfl ?_
  intro h2 W2 o_p0_2
  have s2 : h2.size = h1.size := W2.size
  have k2 : Keep h h2 [p0] := k1.wr W2 (Or.inl (by simp))
  refine z_aloadN C z_d6_14 rfl rfl 15 rfl ?_
  refine z_bipush C (v := (64 : Int32)) z_d6_15 (by decide) 17 rfl ?_
  have zz2 : n0 ≤ h2.size := by omega
  have old2 := ((old.wr W1 g_p0).wr W2 g_p0)
  refine z_callPV C o_p0_2.1 (z_c7_4 l hw S zz2 old2 p0 o_p0_2 g_p0) (z_w hw 46 rfl) (z_w hw 47 rfl) (z_w hw 49 rfl) (z_w hw 48 rfl) (z_w hw 37 rfl) (z_w hw 50 rfl) (by decide) z_d6_17 rfl (argsL := [(.int 64)]) (rest := []) rfl (lenOf z_pd2 rfl) (W := 0) (Nat.le_of_eq rfl) (by decide) (by decide) (by decide) (by decide) 20 rfl ?_
  rintro h3 ⟨b3_0, K3, l3_0, l3_1, o_p0_3, o_b3_0_3⟩
  have s3 : h2.size ≤ h3.size := K3.1
  have k3 : Keep h h3 [p0] := k2.trans K3 (allS (Or.inl (by simp)) all0)
  refine z_aloadN C z_d6_20 rfl rfl 21 rfl ?_
  refine z_iconst C (v := (0 : Int32)) z_d6_21 (by decide) 22 rfl ?_
  refine z_putO C (z_w hw 44 rfl) Via.refl o_p0_3 (z_lay2_ok hw) 1 rfl (vs' := [(.int 0), (.int 0), (.ref b3_0)]) rfl (Or.inl (z_w hw 45 rfl)) (z_w hw 36 rfl) (ty := .boolean) (by decide) (by first | rfl | decide) (by first | rfl | decide) g_p0 z_d6_22 25 rfl ?_
  intro h4 W4 o_p0_4
  have s4 : h4.size = h3.size := W4.size
  have k4 : Keep h h4 [p0] := k3.wr W4 (Or.inl (by simp))
  have n_b3_0_p0 : (b3_0 : Nat) ≠ p0 := by omega
  have o_b3_0_4 := (o_b3_0_3.other W4 n_b3_0_p0)
  exact z_return C z_d6_25 (by decide) (by decide) ⟨rfl, b3_0, k4, by omega, by omega, o_p0_4, o_b3_0_4⟩
set_option maxHeartbeats 2000000 in
theorem z_c1_6 (hw : z_T Z a0) (S : z_St Z a_DEF a_ONE a_NONE) (z0 : n0 ≤ h.size) (old : Old Z n0 h) (p0 : Nat) (o_p0 : z_Ob Z h p0 "com/example/variegate/variegate/service/Cnf" z_lay0 [.null, .null, .null, .null, .null, (.long (0 : Int64))]) (g_p0 : n0 ≤ p0) :
    z_Met l Z (⟨"com/example/variegate/variegate/service/Cnf", "<init>", "()V"⟩ : MethodName) prog_73_method_1_code 1 none [] ({ frames := 4, cells := 6, slots := 13, locals := 50 } : Room) n0 #[(.ref p0)] h (z_nov fun h' => ∃ b1 : Nat, ∃ b4 : Nat, ∃ b5_0 : Nat, ∃ b7 : Nat, ∃ b10 : Nat, ∃ b13 : Nat, Keep h h' [p0] ∧ h.size ≤ b1 ∧ b1 < b4 ∧ b4 < b5_0 ∧ b5_0 < b7 ∧ b7 < b10 ∧ b10 < b13 ∧ b13 < h'.size ∧ z_Ob Z h' p0 "com/example/variegate/variegate/service/Cnf" z_lay0 [(.ref b1), (.ref b4), (.ref b7), (.ref b10), (.ref b13), (.long (0 : Int64))] ∧ z_Ob Z h' b1 "java/util/ArrayList" z_lay1 [(.int 0), (.ref a_DEF), (.int 0)] ∧ z_Ob Z h' b4 "java/util/BitSet" z_lay2 [(.int 0), (.int 0), (.ref b5_0)] ∧ z_Ar Z h' b5_0 .long "[J" "" [(.long (0 : Int64))] ∧ z_Ob Z h' b7 "java/util/ArrayList" z_lay1 [(.int 0), (.ref a_DEF), (.int 0)] ∧ z_Ob Z h' b10 "java/util/ArrayList" z_lay1 [(.int 0), (.ref a_DEF), (.int 0)] ∧ z_Ar Z h' b13 .long "[J" "" []) := by
  have lt_p0 := o_p0.lt
  refine z_met (Ls := #[.val (.ref p0)]) (by first | exact plainFor_of_name (by first | (simp [plainName, overriddenIn]; done) | decide +kernel) | decide +kernel) rfl ?_
  intro p e s m below meth c C
  refine z_aloadN C z_d1_0 rfl rfl 1 rfl ?_
  refine z_init0 C (z_w hw 6 rfl) (z_w hw 7 rfl) (z_w hw 8 rfl) z_d1_1 rfl (W := 0) (Nat.le_of_eq rfl) (by decide) (by decide) 4 rfl ?_
  refine z_aloadN C z_d1_4 rfl rfl 5 rfl ?_
  refine z_newO C (z_w hw 9 rfl) (z_w hw 10 rfl) (z_w hw 11 rfl) (z_lay1_ok hw) z_lay1_df z_d1_5 (by decide) (by decide) 8 rfl ?_
  intro h1 b1 g1 E1 o_b1
  have s1 : h.size ≤ h1.size := E1.1
  have k1 : Keep h h1 [p0] := (Keep.refl h [p0]).ext E1
  have t1 := o_b1.lt
  refine z_dup C z_d1_8 rfl 9 rfl ?_
  have zz1 : n0 ≤ h1.size := by omega
  have old1 := (old.ext E1)
  have e_b1 : n0 ≤ (b1 : Nat) := by omega
  refine z_callI C rfl (z_c3_2 l hw S zz1 old1 b1 o_b1 e_b1) (z_w hw 12 rfl) (z_w hw 13 rfl) (z_w hw 11 rfl) (z_w hw 14 rfl) (by decide) z_d1_9 rfl (argsL := []) (rest := [(.ref b1), (.ref p0)]) rfl (lenOf z_pd0 rfl) (W := 2) (Nat.le_of_eq rfl) (by decide) (by decide) (by decide) (by decide) 12 rfl ?_
  rintro h2 ⟨K2, o_b1_2⟩
  have s2 : h1.size ≤ h2.size := K2.1
  have q_b1 : h.size ≤ (b1 : Nat) := by omega
  have k2 : Keep h h2 [p0] := k1.trans K2 (allS (Or.inr q_b1) all0)
  have n_p0_b1 : (p0 : Nat) ≠ b1 := by omega
  have o_p0_2 := ((o_p0.ext E1).keep K2 (ninS n_p0_b1 nin0))
  refine z_putO C (z_w hw 33 rfl) Via.refl o_p0_2 (z_lay0_ok hw) 0 rfl (vs' := [(.ref b1), .null, .null, .null, .null, (.long (0 : Int64))]) rfl (Or.inr ⟨(z_w hw 34 rfl), rfl, rfl⟩) (z_w hw 1 rfl) (ty := (.object "java/util/List")) (by decide) (by first | rfl | decide) (by first | rfl | decide) g_p0 z_d1_12 15 rfl ?_
  intro h3 W3 o_p0_3
  have s3 : h3.size = h2.size := W3.size
  have k3 : Keep h h3 [p0] := k2.wr W3 (Or.inl (by simp))
  refine z_aloadN C z_d1_15 rfl rfl 16 rfl ?_
  refine z_newO C (z_w hw 35 rfl) (z_w hw 36 rfl) (z_w hw 37 rfl) (z_lay2_ok hw) z_lay2_df z_d1_16 (by decide) (by decide) 19 rfl ?_
  intro h4 b4 g4 E4 o_b4
  have s4 : h3.size ≤ h4.size := E4.1
  have k4 : Keep h h4 [p0] := k3.ext E4
  have t4 := o_b4.lt
  refine z_dup C z_d1_19 rfl 20 rfl ?_
  have zz4 : n0 ≤ h4.size := by omega
  have old4 := (((old1.keep K2 (allS e_b1 all0)).wr W3 g_p0).ext E4)
  have e_b4 : n0 ≤ (b4 : Nat) := by omega
  refine z_callI C rfl (z_c6_5 l hw S zz4 old4 b4 o_b4 e_b4) (z_w hw 38 rfl) (z_w hw 39 rfl) (z_w hw 37 rfl) (z_w hw 40 rfl) (by decide) z_d1_20 rfl (argsL := []) (rest := [(.ref b4), (.ref p0)]) rfl (lenOf z_pd0 rfl) (W := 2) (Nat.le_of_eq rfl) (by decide) (by decide) (by decide) (by decide) 23 rfl ?_
  rintro h5 ⟨b5_0, K5, l5_0, l5_1, o_b4_5, o_b5_0_5⟩
  have s5 : h4.size ≤ h5.size := K5.1
  have q_b4 : h.size ≤ (b4 : Nat) := by omega
  have k5 : Keep h h5 [p0] := k4.trans K5 (allS (Or.inr q_b4) all0)
  have n_p0_b4 : (p0 : Nat) ≠ b4 := by omega
  have o_p0_5 := ((o_p0_3.ext E4).keep K5 (ninS n_p0_b4 nin0))
  refine z_putO C (z_w hw 57 rfl) Via.refl o_p0_5 (z_lay0_ok hw) 1 rfl (vs' := [(.ref b1), (.ref b4), .null, .null, .null, (.long (0 : Int64))]) rfl (Or.inr ⟨(z_w hw 58 rfl), rfl, rfl⟩) (z_w hw 1 rfl) (ty := (.object "java/util/BitSet")) (by decide) (by first | rfl | decide) (by first | rfl | decide) g_p0 z_d1_23 26 rfl ?_
  intro h6 W6 o_p0_6
  have s6 : h6.size = h5.size := W6.size
  have k6 : Keep h h6 [p0] := k5.wr W6 (Or.inl (by simp))
  refine z_aloadN C z_d1_26 rfl rfl 27 rfl ?_
  refine z_newO C (z_w hw 9 rfl) (z_w hw 10 rfl) (z_w hw 11 rfl) (z_lay1_ok hw) z_lay1_df z_d1_27 (by decide) (by decide) 30 rfl ?_
  intro h7 b7 g7 E7 o_b7
  have s7 : h6.size ≤ h7.size := E7.1
  have k7 : Keep h h7 [p0] := k6.ext E7
  have t7 := o_b7.lt
  refine z_dup C z_d1_30 rfl 31 rfl ?_
  have zz7 : n0 ≤ h7.size := by omega
  have old7 := (((old4.keep K5 (allS e_b4 all0)).wr W6 g_p0).ext E7)
  have e_b7 : n0 ≤ (b7 : Nat) := by omega
  refine z_callI C rfl (z_c3_2 l hw S zz7 old7 b7 o_b7 e_b7) (z_w hw 12 rfl) (z_w hw 13 rfl) (z_w hw 11 rfl) (z_w hw 14 rfl) (by decide) z_d1_31 rfl (argsL := []) (rest := [(.ref b7), (.ref p0)]) rfl (lenOf z_pd0 rfl) (W := 2) (Nat.le_of_eq rfl) (by decide) (by decide) (by decide) (by decide) 34 rfl ?_
  rintro h8 ⟨K8, o_b7_8⟩
  have s8 : h7.size ≤ h8.size := K8.1
  have q_b7 : h.size ≤ (b7 : Nat) := by omega
  have k8 : Keep h h8 [p0] := k7.trans K8 (allS (Or.inr q_b7) all0)
  have n_p0_b7 : (p0 : Nat) ≠ b7 := by omega
  have o_p0_8 := ((o_p0_6.ext E7).keep K8 (ninS n_p0_b7 nin0))
  refine z_putO C (z_w hw 59 rfl) Via.refl o_p0_8 (z_lay0_ok hw) 2 rfl (vs' := [(.ref b1), (.ref b4), (.ref b7), .null, .null, (.long (0 : Int64))]) rfl (Or.inr ⟨(z_w hw 60 rfl), rfl, rfl⟩) (z_w hw 1 rfl) (ty := (.object "java/util/List")) (by decide) (by first | rfl | decide) (by first | rfl | decide) g_p0 z_d1_34 37 rfl ?_
  intro h9 W9 o_p0_9
  have s9 : h9.size = h8.size := W9.size
  have k9 : Keep h h9 [p0] := k8.wr W9 (Or.inl (by simp))
  refine z_aloadN C z_d1_37 rfl rfl 38 rfl ?_
  refine z_newO C (z_w hw 9 rfl) (z_w hw 10 rfl) (z_w hw 11 rfl) (z_lay1_ok hw) z_lay1_df z_d1_38 (by decide) (by decide) 41 rfl ?_
  intro h10 b10 g10 E10 o_b10
  have s10 : h9.size ≤ h10.size := E10.1
  have k10 : Keep h h10 [p0] := k9.ext E10
  have t10 := o_b10.lt
  refine z_dup C z_d1_41 rfl 42 rfl ?_
  have zz10 : n0 ≤ h10.size := by omega
  have old10 := (((old7.keep K8 (allS e_b7 all0)).wr W9 g_p0).ext E10)
  have e_b10 : n0 ≤ (b10 : Nat) := by omega
  refine z_callI C rfl (z_c3_2 l hw S zz10 old10 b10 o_b10 e_b10) (z_w hw 12 rfl) (z_w hw 13 rfl) (z_w hw 11 rfl) (z_w hw 14 rfl) (by decide) z_d1_42 rfl (argsL := []) (rest := [(.ref b10), (.ref p0)]) rfl (lenOf z_pd0 rfl) (W := 2) (Nat.le_of_eq rfl) (by decide) (by decide) (by decide) (by decide) 45 rfl ?_
  rintro h11 ⟨K11, o_b10_11⟩
  have s11 : h10.size ≤ h11.size := K11.1
  have q_b10 : h.size ≤ (b10 : Nat) := by omega
  have k11 : Keep h h11 [p0] := k10.trans K11 (allS (Or.inr q_b10) all0)
  have n_p0_b10 : (p0 : Nat) ≠ b10 := by omega
  have o_p0_11 := ((o_p0_9.ext E10).keep K11 (ninS n_p0_b10 nin0))
  refine z_putO C (z_w hw 61 rfl) Via.refl o_p0_11 (z_lay0_ok hw) 3 rfl (vs' := [(.ref b1), (.ref b4), (.ref b7), (.ref b10), .null, (.long (0 : Int64))]) rfl (Or.inr ⟨(z_w hw 62 rfl), rfl, rfl⟩) (z_w hw 1 rfl) (ty := (.object "java/util/List")) (by decide) (by first | rfl | decide) (by first | rfl | decide) g_p0 z_d1_45 48 rfl ?_
  intro h12 W12 o_p0_12
  have s12 : h12.size = h11.size := W12.size
  have k12 : Keep h h12 [p0] := k11.wr W12 (Or.inl (by simp))
  refine z_aloadN C z_d1_48 rfl rfl 49 rfl ?_
  refine z_iconst C (v := (0 : Int32)) z_d1_49 (by decide) 50 rfl ?_
  refine z_newarray C (aty := .long) (z_w hw 54 rfl) (by decide) (cap := 0) (by decide) (by decide) (ad := "[J") (by decide +kernel) (vs := []) (by rfl) z_d1_50 (by decide) (by decide) 52 rfl ?_
  intro h13 b13 g13 E13 o_b13
  have s13 : h12.size ≤ h13.size := E13.1
  have k13 : Keep h h13 [p0] := k12.ext E13
  have o_b13 : z_Ar Z h13 b13 .long "[J" "" [] := o_b13
  have t13 := o_b13.lt
  have o_p0_13 := (o_p0_12.ext E13)
  refine z_putO C (z_w hw 63 rfl) Via.refl o_p0_13 (z_lay0_ok hw) 4 rfl (vs' := [(.ref b1), (.ref b4), (.ref b7), (.ref b10), (.ref b13), (.long (0 : Int64))]) rfl (Or.inl (z_w hw 64 rfl)) (z_w hw 1 rfl) (ty := (.array .long)) (by decide) (by first | rfl | decide) (by first | rfl | decide) g_p0 z_d1_52 55 rfl ?_
  intro h14 W14 o_p0_14
  have s14 : h14.size = h13.size := W14.size
  have k14 : Keep h h14 [p0] := k13.wr W14 (Or.inl (by simp))
  have n_b1_b4 : (b1 : Nat) ≠ b4 := by omega
  have n_b1_b7 : (b1 : Nat) ≠ b7 := by omega
  have n_b1_b10 : (b1 : Nat) ≠ b10 := by omega
  have o_b1_14 := ((((((((((((o_b1_2.other W3 n_p0_b1.symm).ext E4).keep K5 (ninS n_b1_b4 nin0)).other W6 n_p0_b1.symm).ext E7).keep K8 (ninS n_b1_b7 nin0)).other W9 n_p0_b1.symm).ext E10).keep K11 (ninS n_b1_b10 nin0)).other W12 n_p0_b1.symm).ext E13).other W14 n_p0_b1.symm)
  have n_b4_b7 : (b4 : Nat) ≠ b7 := by omega
  have n_b4_b10 : (b4 : Nat) ≠ b10 := by omega
  have o_b4_14 := (((((((((o_b4_5.other W6 n_p0_b4.symm).ext E7).keep K8 (ninS n_b4_b7 nin0)).other W9 n_p0_b4.symm).ext E10).keep K11 (ninS n_b4_b10 nin0)).other W12 n_p0_b4.symm).ext E13).other W14 n_p0_b4.symm)
  have n_b5_0_p0 : (b5_0 : Nat) ≠ p0 := by omega
  have n_b5_0_b7 : (b5_0 : Nat) ≠ b7 := by omega
  have n_b5_0_b10 : (b5_0 : Nat) ≠ b10 := by omega
  have o_b5_0_14 := (((((((((o_b5_0_5.other W6 n_b5_0_p0).ext E7).keep K8 (ninS n_b5_0_b7 nin0)).other W9 n_b5_0_p0).ext E10).keep K11 (ninS n_b5_0_b10 nin0)).other W12 n_b5_0_p0).ext E13).other W14 n_b5_0_p0)
  have n_b7_b10 : (b7 : Nat) ≠ b10 := by omega
  have o_b7_14 := ((((((o_b7_8.other W9 n_p0_b7.symm).ext E10).keep K11 (ninS n_b7_b10 nin0)).other W12 n_p0_b7.symm).ext E13).other W14 n_p0_b7.symm)
  have o_b10_14 := (((o_b10_11.other W12 n_p0_b10.symm).ext E13).other W14 n_p0_b10.symm)
  have n_b13_p0 : (b13 : Nat) ≠ p0 := by omega
  have o_b13_14 := (o_b13.other W14 n_b13_p0)
  exact z_return C z_d1_55 (by decide) (by decide) ⟨rfl, b1, b4, b5_0, b7, b10, b13, k14, by omega, by omega, by omega, by omega, by omega, by omega, by omega, o_p0_14, o_b1_14, o_b4_14, o_b5_0_14, o_b7_14, o_b10_14, o_b13_14⟩
set_option maxHeartbeats 2000000 in
theorem z_c14_7 (hw : z_T Z a0) (S : z_St Z a_DEF a_ONE a_NONE) (z0 : n0 ≤ h.size) (old : Old Z n0 h) :
    z_Met l Z (⟨"java/lang/Math", "max", "(II)I"⟩ : MethodName) jdk_29_method_65_code 2 (some .int) [] ({ frames := 0, cells := 0, slots := 0, locals := 0 } : Room) n0 #[(.int 10), (.int 1)] h (z_pure (.int 10) h) := by
  refine z_met (Ls := #[.val (.int 10), .val (.int 1)]) (by first | exact plainFor_of_name (by first | (simp [plainName, overriddenIn]; done) | decide +kernel) | decide +kernel) rfl ?_
  intro p e s m below meth c C
  refine z_iloadN C z_d14_0 rfl 1 rfl ?_
  refine z_iloadN C z_d14_1 rfl 2 rfl ?_
  refine z_icmpN C z_d14_2 (by decide) 5 rfl ?_
  refine z_iloadN C z_d14_5 rfl 6 rfl ?_
  refine z_goto C z_d14_6 (by decide) 10 (by decide) ?_
  exact z_ireturn C (Or.inl rfl) rfl z_d14_10 (by decide) (by decide) ⟨rfl, rfl⟩
set_option maxHeartbeats 2000000 in
theorem z_c13_8 (hw : z_T Z a0) (S : z_St Z a_DEF a_ONE a_NONE) (z0 : n0 ≤ h.size) (old : Old Z n0 h) (p0 : Nat) (o_p0 : z_Ob Z h p0 "java/util/ArrayList" z_lay1 [(.int 1), (.ref a_DEF), (.int 0)]) (g_p0 : n0 ≤ p0) :
    z_Met l Z (⟨"java/util/ArrayList", "grow", "(I)[Ljava/lang/Object;"⟩ : MethodName) jdk_38_method_6_code 4 (some (.array (.object "java/lang/Object"))) [] ({ frames := 1, cells := 1, slots := 10, locals := 14 } : Room) n0 #[(.ref p0), (.int 1)] h (z_val fun w h' => ∃ b1 : Nat, w = (.ref b1) ∧ Keep h h' [p0] ∧ h.size ≤ b1 ∧ b1 < h'.size ∧ z_Ob Z h' p0 "java/util/ArrayList" z_lay1 [(.int 1), (.ref b1), (.int 0)] ∧ z_Ar Z h' b1 (.object "java/lang/Object") "[Ljava/lang/Object;" "java/lang/Object" [.null, .null, .null, .null, .null, .null, .null, .null, .null, .null]) := by
  have lt_p0 := o_p0.lt
  refine z_met (Ls := #[.val (.ref p0), .val (.int 1), .unset, .unset]) (by first | exact plainFor_of_name (by first | (simp [plainName, overriddenIn]; done) | decide +kernel) | decide +kernel) rfl ?_
  intro p e s m below meth c C
  refine z_aloadN C z_d13_0 rfl rfl 1 rfl ?_
  refine z_getO C (z_w hw 31 rfl) Via.refl o_p0 1 rfl rfl z_d13_1 4 rfl ?_
  refine z_arraylength C (z := (0 : Int32)) (S.1.2.ext old.2) (by rfl) z_d13_4 5 rfl ?_
  refine z_istoreN C (Ls' := #[.val (.ref p0), .val (.int 1), .val (.int 0), .unset]) z_d13_5 rfl 6 rfl ?_
  refine z_iloadN C z_d13_6 rfl 7 rfl ?_
  refine z_ifN C z_d13_7 (by decide) 10 rfl ?_
  refine z_aloadN C z_d13_10 rfl rfl 11 rfl ?_
  refine z_getO C (z_w hw 31 rfl) Via.refl o_p0 1 rfl rfl z_d13_11 14 rfl ?_
  refine z_getstatic C (z_w hw 30 rfl) (S.1.1.ext old.2) z_d13_14 17 rfl ?_
  refine z_acmp C (same := true) z_d13_17 rfl rfl (z_same _) (by decide) 45 (by decide) ?_
  refine z_aloadN C z_d13_45 rfl rfl 46 rfl ?_
  refine z_bipush C (v := (10 : Int32)) z_d13_46 (by decide) 48 rfl ?_
  refine z_iloadN C z_d13_48 rfl 49 rfl ?_
  refine z_callSp C (z_c14_7 l hw S z0 old) (z_w hw 100 rfl) (z_w hw 101 rfl) (z_w hw 102 rfl) (z_w hw 103 rfl) (by decide) z_d13_49 rfl (argsL := [(.int 10), (.int 1)]) (rest := [(.ref p0)]) rfl (lenOf z_pd3 rfl) (W := 1) (Nat.le_of_eq rfl) (by decide) (by decide) (by decide) (by decide) (by decide) (by decide) 52 rfl ?_
  refine z_anewarray C (z_w hw 104 rfl) (z_w hw 105 rfl) (by decide) (cap := 10) (by decide) (by decide) (ad := "[Ljava/lang/Object;") (by decide +kernel) (vs := [.null, .null, .null, .null, .null, .null, .null, .null, .null, .null]) (by rfl) z_d13_52 (by decide) (by decide) 55 rfl ?_
  intro h1 b1 g1 E1 o_b1
  have s1 : h.size ≤ h1.size := E1.1
  have k1 : Keep h h1 [p0] := (Keep.refl h [p0]).ext E1
  have t1 := o_b1.lt
  refine z_dup_x1 C z_d13_55 rfl rfl 56 rfl ?_
  have o_p0_1 := (o_p0.ext E1)
  refine z_putO C (z_w hw 31 rfl) Via.refl o_p0_1 (z_lay1_ok hw) 1 rfl (vs' := [(.int 1), (.ref b1), (.int 0)]) rfl (Or.inl (z_w hw 32 rfl)) (z_w hw 10 rfl) (ty := (.array (.object "java/lang/Object"))) (by decide) (by first | rfl | decide) (by first | rfl | decide) g_p0 z_d13_56 59 rfl ?_
  intro h2 W2 o_p0_2
  have s2 : h2.size = h1.size := W2.size
  have k2 : Keep h h2 [p0] := k1.wr W2 (Or.inl (by simp))
  have n_b1_p0 : (b1 : Nat) ≠ p0 := by omega
  have o_b1_2 := (o_b1.other W2 n_b1_p0)
  exact z_areturn C rfl rfl z_d13_59 (by decide) (by decide) ⟨_, rfl, b1, rfl, k2, by omega, by omega, o_p0_2, o_b1_2⟩
set_option maxHeartbeats 2000000 in
theorem z_c12_9 (hw : z_T Z a0) (S : z_St Z a_DEF a_ONE a_NONE) (z0 : n0 ≤ h.size) (old : Old Z n0 h) (p0 : Nat) (o_p0 : z_Ob Z h p0 "java/util/ArrayList" z_lay1 [(.int 1), (.ref a_DEF), (.int 0)]) (g_p0 : n0 ≤ p0) :
    z_Met l Z (⟨"java/util/ArrayList", "grow", "()[Ljava/lang/Object;"⟩ : MethodName) jdk_38_method_7_code 1 (some (.array (.object "java/lang/Object"))) [] ({ frames := 2, cells := 1, slots := 10, locals := 29 } : Room) n0 #[(.ref p0)] h (z_val fun w h' => ∃ b1_0 : Nat, w = (.ref b1_0) ∧ Keep h h' [p0] ∧ h.size ≤ b1_0 ∧ b1_0 < h'.size ∧ z_Ob Z h' p0 "java/util/ArrayList" z_lay1 [(.int 1), (.ref b1_0), (.int 0)] ∧ z_Ar Z h' b1_0 (.object "java/lang/Object") "[Ljava/lang/Object;" "java/lang/Object" [.null, .null, .null, .null, .null, .null, .null, .null, .null, .null]) := by
  have lt_p0 := o_p0.lt
  refine z_met (Ls := #[.val (.ref p0)]) (by first | exact plainFor_of_name (by first | (simp [plainName, overriddenIn]; done) | decide +kernel) | decide +kernel) rfl ?_
  intro p e s m below meth c C
  refine z_aloadN C z_d12_0 rfl rfl 1 rfl ?_
  refine z_aloadN C z_d12_1 rfl rfl 2 rfl ?_
  refine z_getO C (z_w hw 83 rfl) Via.refl o_p0 2 rfl rfl z_d12_2 5 rfl ?_
  refine z_iconst C (v := (1 : Int32)) z_d12_5 (by decide) 6 rfl ?_
  refine z_iadd C (z := (1 : Int32)) z_d12_6 (by decide) 7 rfl ?_
  refine z_callP C o_p0.1 (z_c13_8 l hw S z0 old p0 o_p0 g_p0) (z_w hw 95 rfl) (z_w hw 96 rfl) (z_w hw 98 rfl) (z_w hw 97 rfl) (z_w hw 11 rfl) (z_w hw 99 rfl) (by decide) z_d12_7 rfl (argsL := [(.int 1)]) (rest := []) rfl (lenOf z_pd4 rfl) (W := 0) (Nat.le_of_eq rfl) (by decide) (by decide) (by decide) (by decide) 10 rfl ?_
  rintro _ h1 ⟨b1_0, rfl, K1, l1_0, l1_1, o_p0_1, o_b1_0_1⟩
  have s1 : h.size ≤ h1.size := K1.1
  have k1 : Keep h h1 [p0] := (Keep.refl h [p0]).trans K1 (allS (Or.inl (by simp)) all0)
  exact z_areturn C rfl rfl z_d12_10 (by decide) (by decide) ⟨_, rfl, b1_0, rfl, k1, by omega, by omega, o_p0_1, o_b1_0_1⟩
set_option maxHeartbeats 2000000 in
theorem z_c11_10 (hw : z_T Z a0) (S : z_St Z a_DEF a_ONE a_NONE) (z0 : n0 ≤ h.size) (old : Old Z n0 h) (p0 : Nat) (o_p0 : z_Ob Z h p0 "java/util/ArrayList" z_lay1 [(.int 1), (.ref a_DEF), (.int 0)]) (g_p0 : n0 ≤ p0) :
    z_Met l Z (⟨"java/util/ArrayList", "add", "(Ljava/lang/Object;[Ljava/lang/Object;I)V"⟩ : MethodName) jdk_38_method_24_code 4 none [] ({ frames := 3, cells := 1, slots := 10, locals := 41 } : Room) n0 #[(.ref p0), (.ref a_ONE), (.ref a_DEF), (.int 0)] h (z_nov fun h' => ∃ b1_0 : Nat, Keep h h' [p0] ∧ h.size ≤ b1_0 ∧ b1_0 < h'.size ∧ z_Ob Z h' p0 "java/util/ArrayList" z_lay1 [(.int 1), (.ref b1_0), (.int 1)] ∧ z_Ar Z h' b1_0 (.object "java/lang/Object") "[Ljava/lang/Object;" "java/lang/Object" [(.ref a_ONE), .null, .null, .null, .null, .null, .null, .null, .null, .null]) := by
  have lt_p0 := o_p0.lt
  refine z_met (Ls := #[.val (.ref p0), .val (.ref a_ONE), .val (.ref a_DEF), .val (.int 0)]) (by first | exact plainFor_of_name (by first | (simp [plainName, overriddenIn]; done) | decide +kernel) | decide +kernel) rfl ?_
  intro p e s m below meth c C
  refine z_iloadN C z_d11_0 rfl 1 rfl ?_
  refine z_aloadN C z_d11_1 rfl rfl 2 rfl ?_
  refine z_arraylength C (z := (0 : Int32)) (S.1.2.ext old.2) (by rfl) z_d11_2 3 rfl ?_
  refine z_icmpN C z_d11_3 (by decide) 6 rfl ?_
  refine z_aloadN C z_d11_6 rfl rfl 7 rfl ?_
  refine z_callP C o_p0.1 (z_c12_9 l hw S z0 old p0 o_p0 g_p0) (z_w hw 90 rfl) (z_w hw 91 rfl) (z_w hw 93 rfl) (z_w hw 92 rfl) (z_w hw 11 rfl) (z_w hw 94 rfl) (by decide) z_d11_7 rfl (argsL := []) (rest := []) rfl (lenOf z_pd5 rfl) (W := 0) (Nat.le_of_eq rfl) (by decide) (by decide) (by decide) (by decide) 10 rfl ?_
  rintro _ h1 ⟨b1_0, rfl, K1, l1_0, l1_1, o_p0_1, o_b1_0_1⟩
  have s1 : h.size ≤ h1.size := K1.1
  have k1 : Keep h h1 [p0] := (Keep.refl h [p0]).trans K1 (allS (Or.inl (by simp)) all0)
  refine z_astoreN C (Ls' := #[.val (.ref p0), .val (.ref a_ONE), .val (.ref b1_0), .val (.int 0)]) z_d11_10 rfl rfl 11 rfl ?_
  refine z_aloadN C z_d11_11 rfl rfl 12 rfl ?_
  refine z_iloadN C z_d11_12 rfl 13 rfl ?_
  refine z_aloadN C z_d11_13 rfl rfl 14 rfl ?_
  have e_b1_0 : n0 ≤ (b1_0 : Nat) := by omega
  have old1 := (old.keep K1 (allS g_p0 all0))
  refine z_aastore C o_b1_0_1 rfl (o_b1_0_1.sto (by decide) (Ins.of_exa (S.2.1.2.ext old1.2).1 (z_w hw 106 rfl))) (by decide) (of_decide_eq_true rfl) (vs' := [(.ref a_ONE), .null, .null, .null, .null, .null, .null, .null, .null, .null]) (by rfl) e_b1_0 z_d11_14 15 rfl ?_
  intro h2 W2 o_b1_0_2
  have s2 : h2.size = h1.size := W2.size
  have q_b1_0 : h.size ≤ (b1_0 : Nat) := by omega
  have k2 : Keep h h2 [p0] := k1.wr W2 (Or.inr q_b1_0)
  refine z_aloadN C z_d11_15 rfl rfl 16 rfl ?_
  refine z_iloadN C z_d11_16 rfl 17 rfl ?_
  refine z_iconst C (v := (1 : Int32)) z_d11_17 (by decide) 18 rfl ?_
  refine z_iadd C (z := (1 : Int32)) z_d11_18 (by decide) 19 rfl ?_
  have n_p0_b1_0 : (p0 : Nat) ≠ b1_0 := by omega
  have o_p0_2 := (o_p0_1.other W2 n_p0_b1_0)
  refine z_putO C (z_w hw 83 rfl) Via.refl o_p0_2 (z_lay1_ok hw) 2 rfl (vs' := [(.int 1), (.ref b1_0), (.int 1)]) rfl (Or.inl (z_w hw 84 rfl)) (z_w hw 10 rfl) (ty := .int) (by decide) (by first | rfl | decide) (by first | rfl | decide) g_p0 z_d11_19 22 rfl ?_
  intro h3 W3 o_p0_3
  have s3 : h3.size = h2.size := W3.size
  have k3 : Keep h h3 [p0] := k2.wr W3 (Or.inl (by simp))
  have o_b1_0_3 := (o_b1_0_2.other W3 n_p0_b1_0.symm)
  exact z_return C z_d11_22 (by decide) (by decide) ⟨rfl, b1_0, k3, by omega, by omega, o_p0_3, o_b1_0_3⟩
set_option maxHeartbeats 2000000 in
theorem z_c10_11 (hw : z_T Z a0) (S : z_St Z a_DEF a_ONE a_NONE) (z0 : n0 ≤ h.size) (old : Old Z n0 h) (p0 : Nat) (o_p0 : z_Ob Z h p0 "java/util/ArrayList" z_lay1 [(.int 0), (.ref a_DEF), (.int 0)]) (g_p0 : n0 ≤ p0) :
    z_Met l Z (⟨"java/util/ArrayList", "add", "(Ljava/lang/Object;)Z"⟩ : MethodName) jdk_38_method_25_code 2 (some .boolean) [] ({ frames := 4, cells := 1, slots := 10, locals := 56 } : Room) n0 #[(.ref p0), (.ref a_ONE)] h (z_val fun w h' => ∃ b2_0 : Nat, w = (.int 1) ∧ Keep h h' [p0] ∧ h.size ≤ b2_0 ∧ b2_0 < h'.size ∧ z_Ob Z h' p0 "java/util/ArrayList" z_lay1 [(.int 1), (.ref b2_0), (.int 1)] ∧ z_Ar Z h' b2_0 (.object "java/lang/Object") "[Ljava/lang/Object;" "java/lang/Object" [(.ref a_ONE), .null, .null, .null, .null, .null, .null, .null, .null, .null]) := by
  have lt_p0 := o_p0.lt
  refine z_met (Ls := #[.val (.ref p0), .val (.ref a_ONE)]) (by first | exact plainFor_of_name (by first | (simp [plainName, overriddenIn]; done) | decide +kernel) | decide +kernel) rfl ?_
  intro p e s m below meth c C
  refine z_aloadN C z_d10_0 rfl rfl 1 rfl ?_
  refine z_dup C z_d10_1 rfl 2 rfl ?_
  refine z_getO C (z_w hw 81 rfl) (Via.of (z_w hw 82 rfl)) o_p0 0 rfl rfl z_d10_2 5 rfl ?_
  refine z_iconst C (v := (1 : Int32)) z_d10_5 (by decide) 6 rfl ?_
  refine z_iadd C (z := (1 : Int32)) z_d10_6 (by decide) 7 rfl ?_
  refine z_putO C (z_w hw 81 rfl) (Via.of (z_w hw 82 rfl)) o_p0 (z_lay1_ok hw) 0 rfl (vs' := [(.int 1), (.ref a_DEF), (.int 0)]) rfl (Or.inl (z_w hw 29 rfl)) (z_w hw 10 rfl) (ty := .int) (by decide) (by first | rfl | decide) (by first | rfl | decide) g_p0 z_d10_7 10 rfl ?_
  intro h1 W1 o_p0_1
  have s1 : h1.size = h.size := W1.size
  have k1 : Keep h h1 [p0] := (Keep.refl h [p0]).wr W1 (Or.inl (by simp))
  refine z_aloadN C z_d10_10 rfl rfl 11 rfl ?_
  refine z_aloadN C z_d10_11 rfl rfl 12 rfl ?_
  refine z_aloadN C z_d10_12 rfl rfl 13 rfl ?_
  refine z_getO C (z_w hw 31 rfl) Via.refl o_p0_1 1 rfl rfl z_d10_13 16 rfl ?_
  refine z_aloadN C z_d10_16 rfl rfl 17 rfl ?_
  refine z_getO C (z_w hw 83 rfl) Via.refl o_p0_1 2 rfl rfl z_d10_17 20 rfl ?_
  have zz1 : n0 ≤ h1.size := by omega
  have old1 := (old.wr W1 g_p0)
  refine z_callPV C o_p0_1.1 (z_c11_10 l hw S zz1 old1 p0 o_p0_1 g_p0) (z_w hw 85 rfl) (z_w hw 86 rfl) (z_w hw 88 rfl) (z_w hw 87 rfl) (z_w hw 11 rfl) (z_w hw 89 rfl) (by decide) z_d10_20 rfl (argsL := [(.ref a_ONE), (.ref a_DEF), (.int 0)]) (rest := []) rfl (lenOf z_pd6 rfl) (W := 0) (Nat.le_of_eq rfl) (by decide) (by decide) (by decide) (by decide) 23 rfl ?_
  rintro h2 ⟨b2_0, K2, l2_0, l2_1, o_p0_2, o_b2_0_2⟩
  have s2 : h1.size ≤ h2.size := K2.1
  have k2 : Keep h h2 [p0] := k1.trans K2 (allS (Or.inl (by simp)) all0)
  refine z_iconst C (v := (1 : Int32)) z_d10_23 (by decide) 24 rfl ?_
  exact z_ireturn C (by simp) rfl z_d10_24 (by decide) (by decide) ⟨_, rfl, b2_0, rfl, k2, by omega, by omega, o_p0_2, o_b2_0_2⟩
set_option maxHeartbeats 2000000 in
theorem z_c15_12 (hw : z_T Z a0) (S : z_St Z a_DEF a_ONE a_NONE) (z0 : n0 ≤ h.size) (old : Old Z n0 h) (p0 : Nat) (p1 : Nat) (o_p0 : z_Ob Z h p0 "java/util/ArrayList" z_lay1 [(.int 1), (.ref p1), (.int 1)]) :
    z_Met l Z (⟨"java/util/ArrayList", "size", "()I"⟩ : MethodName) jdk_38_method_8_code 1 (some .int) [] ({ frames := 0, cells := 0, slots := 0, locals := 0 } : Room) n0 #[(.ref p0)] h (z_pure (.int 1) h) := by
  refine z_met (Ls := #[.val (.ref p0)]) (by first | exact plainFor_of_name (by first | (simp [plainName, overriddenIn]; done) | decide +kernel) | decide +kernel) rfl ?_
  intro p e s m below meth c C
  refine z_aloadN C z_d15_0 rfl rfl 1 rfl ?_
  refine z_getO C (z_w hw 83 rfl) Via.refl o_p0 2 rfl rfl z_d15_1 4 rfl ?_
  exact z_ireturn C (Or.inl rfl) rfl z_d15_4 (by decide) (by decide) ⟨rfl, rfl⟩
set_option maxHeartbeats 2000000 in
theorem z_c9_13 (hw : z_T Z a0) (S : z_St Z a_DEF a_ONE a_NONE) (z0 : n0 ≤ h.size) (old : Old Z n0 h) (p0 : Nat) (p1 : Nat) (p2 : Nat) (p3 : Nat) (p4 : Nat) (p5 : Nat) (o_p0 : z_Ob Z h p0 "com/example/variegate/variegate/service/Cnf" z_lay0 [(.ref p1), (.ref p2), (.ref p3), (.ref p4), (.ref p5), (.long (0 : Int64))]) (o_p3 : z_Ob Z h p3 "java/util/ArrayList" z_lay1 [(.int 0), (.ref a_DEF), (.int 0)]) (o_p4 : z_Ob Z h p4 "java/util/ArrayList" z_lay1 [(.int 0), (.ref a_DEF), (.int 0)]) (ne_p0_p3 : p0 ≠ p3) (ne_p3_p4 : p3 ≠ p4) (ne_p0_p4 : p0 ≠ p4) (g_p3 : n0 ≤ p3) (g_p4 : n0 ≤ p4) :
    z_Met l Z (⟨"com/example/variegate/variegate/service/Cnf", "newVariable", "()I"⟩ : MethodName) prog_73_method_2_code 1 (some .int) [] ({ frames := 5, cells := 2, slots := 20, locals := 69 } : Room) n0 #[(.ref p0)] h (z_val fun w h' => ∃ b1_0 : Nat, ∃ b2_0 : Nat, w = (.int 1) ∧ Keep h h' [p3, p4] ∧ h.size ≤ b1_0 ∧ b1_0 < b2_0 ∧ b2_0 < h'.size ∧ z_Ob Z h' p3 "java/util/ArrayList" z_lay1 [(.int 1), (.ref b1_0), (.int 1)] ∧ z_Ob Z h' p4 "java/util/ArrayList" z_lay1 [(.int 1), (.ref b2_0), (.int 1)] ∧ z_Ar Z h' b1_0 (.object "java/lang/Object") "[Ljava/lang/Object;" "java/lang/Object" [(.ref a_ONE), .null, .null, .null, .null, .null, .null, .null, .null, .null] ∧ z_Ar Z h' b2_0 (.object "java/lang/Object") "[Ljava/lang/Object;" "java/lang/Object" [(.ref a_ONE), .null, .null, .null, .null, .null, .null, .null, .null, .null]) := by
  have lt_p0 := o_p0.lt
  have lt_p3 := o_p3.lt
  have lt_p4 := o_p4.lt
  refine z_met (Ls := #[.val (.ref p0)]) (by first | exact plainFor_of_name (by first | (simp [plainName, overriddenIn]; done) | decide +kernel) | decide +kernel) rfl ?_
  intro p e s m below meth c C
  refine z_aloadN C z_d9_0 rfl rfl 1 rfl ?_
  refine z_getO C (z_w hw 59 rfl) Via.refl o_p0 2 rfl rfl z_d9_1 4 rfl ?_
  refine z_getstatic C (z_w hw 70 rfl) (S.2.1.1.ext old.2) z_d9_4 7 rfl ?_
  refine z_callF C o_p3.1 (z_c10_11 l hw S z0 old p3 o_p3 g_p3) (z_w hw 72 rfl) (z_w hw 73 rfl) (z_w hw 74 rfl) (z_w hw 75 rfl) (z_w hw 76 rfl) (z_w hw 77 rfl) (z_w hw 78 rfl) (z_w hw 79 rfl) (z_w hw 11 rfl) (z_w hw 80 rfl) (by decide) z_d9_7 rfl (argsL := [(.ref a_ONE)]) (rest := []) rfl (lenOf z_pd7 rfl) (W := 0) (Nat.le_of_eq rfl) (by decide) (by decide) (by decide) (by decide) 12 rfl ?_
  rintro _ h1 ⟨b1_0, rfl, K1, l1_0, l1_1, o_p3_1, o_b1_0_1⟩
  have s1 : h.size ≤ h1.size := K1.1
  have k1 : Keep h h1 [p3, p4] := (Keep.refl h [p3, p4]).trans K1 (allS (Or.inl (by simp)) all0)
  refine z_pop C z_d9_12 rfl 13 rfl ?_
  refine z_aloadN C z_d9_13 rfl rfl 14 rfl ?_
  have o_p0_1 := (o_p0.keep K1 (ninS ne_p0_p3 nin0))
  refine z_getO C (z_w hw 61 rfl) Via.refl o_p0_1 3 rfl rfl z_d9_14 17 rfl ?_
  have old1 := (old.keep K1 (allS g_p3 all0))
  refine z_getstatic C (z_w hw 70 rfl) (S.2.1.1.ext old1.2) z_d9_17 20 rfl ?_
  have zz1 : n0 ≤ h1.size := by omega
  have o_p4_1 := (o_p4.keep K1 (ninS (Ne.symm ne_p3_p4) nin0))
  refine z_callF C o_p4_1.1 (z_c10_11 l hw S zz1 old1 p4 o_p4_1 g_p4) (z_w hw 72 rfl) (z_w hw 73 rfl) (z_w hw 74 rfl) (z_w hw 75 rfl) (z_w hw 76 rfl) (z_w hw 77 rfl) (z_w hw 78 rfl) (z_w hw 79 rfl) (z_w hw 11 rfl) (z_w hw 80 rfl) (by decide) z_d9_20 rfl (argsL := [(.ref a_ONE)]) (rest := []) rfl (lenOf z_pd7 rfl) (W := 0) (Nat.le_of_eq rfl) (by decide) (by decide) (by decide) (by decide) 25 rfl ?_
  rintro _ h2 ⟨b2_0, rfl, K2, l2_0, l2_1, o_p4_2, o_b2_0_2⟩
  have s2 : h1.size ≤ h2.size := K2.1
  have k2 : Keep h h2 [p3, p4] := k1.trans K2 (allS (Or.inl (by simp)) all0)
  refine z_pop C z_d9_25 rfl 26 rfl ?_
  refine z_aloadN C z_d9_26 rfl rfl 27 rfl ?_
  have o_p0_2 := (o_p0_1.keep K2 (ninS ne_p0_p4 nin0))
  refine z_getO C (z_w hw 59 rfl) Via.refl o_p0_2 2 rfl rfl z_d9_27 30 rfl ?_
  have zz2 : n0 ≤ h2.size := by omega
  have o_p3_2 := (o_p3_1.keep K2 (ninS ne_p3_p4 nin0))
  have old2 := (old1.keep K2 (allS g_p4 all0))
  refine z_callFp C o_p3_2.1 (z_c15_12 l hw S zz2 old2 p3 b1_0 o_p3_2) (z_w hw 107 rfl) (z_w hw 108 rfl) (z_w hw 109 rfl) (z_w hw 110 rfl) (z_w hw 111 rfl) (z_w hw 112 rfl) (z_w hw 113 rfl) (z_w hw 79 rfl) (z_w hw 11 rfl) (z_w hw 114 rfl) (by decide) z_d9_30 rfl (argsL := []) (rest := []) rfl (lenOf z_pd8 rfl) (W := 0) (Nat.le_of_eq rfl) (by decide) (by decide) (by decide) (by decide) (by decide) (by decide) 35 rfl ?_
  have n_b1_0_p4 : (b1_0 : Nat) ≠ p4 := by omega
  have o_b1_0_2 := (o_b1_0_1.keep K2 (ninS n_b1_0_p4 nin0))
  exact z_ireturn C (Or.inl rfl) rfl z_d9_35 (by decide) (by decide) ⟨_, rfl, b1_0, b2_0, rfl, k2, by omega, by omega, by omega, o_p3_2, o_p4_2, o_b1_0_2, o_b2_0_2⟩
set_option maxHeartbeats 2000000 in
theorem z_c11_14 (hw : z_T Z a0) (S : z_St Z a_DEF a_ONE a_NONE) (z0 : n0 ≤ h.size) (old : Old Z n0 h) (p0 : Nat) (p1 : Nat) (o_p1 : z_Ar Z h p1 (.object "java/lang/Object") "[Ljava/lang/Object;" "java/lang/Object" [(.ref a_ONE), .null, .null, .null, .null, .null, .null, .null, .null, .null]) (o_p0 : z_Ob Z h p0 "java/util/ArrayList" z_lay1 [(.int 2), (.ref p1), (.int 1)]) (ne_p0_p1 : p0 ≠ p1) (g_p1 : n0 ≤ p1) (g_p0 : n0 ≤ p0) :
    z_Met l Z (⟨"java/util/ArrayList", "add", "(Ljava/lang/Object;[Ljava/lang/Object;I)V"⟩ : MethodName) jdk_38_method_24_code 4 none [] ({ frames := 0, cells := 0, slots := 0, locals := 0 } : Room) n0 #[(.ref p0), (.ref a_ONE), (.ref p1), (.int 1)] h (z_nov fun h' => Keep h h' [p1, p0] ∧ z_Ar Z h' p1 (.object "java/lang/Object") "[Ljava/lang/Object;" "java/lang/Object" [(.ref a_ONE), (.ref a_ONE), .null, .null, .null, .null, .null, .null, .null, .null] ∧ z_Ob Z h' p0 "java/util/ArrayList" z_lay1 [(.int 2), (.ref p1), (.int 2)]) := by
  refine z_met (Ls := #[.val (.ref p0), .val (.ref a_ONE), .val (.ref p1), .val (.int 1)]) (by first | exact plainFor_of_name (by first | (simp [plainName, overriddenIn]; done) | decide +kernel) | decide +kernel) rfl ?_
  intro p e s m below meth c C
  refine z_iloadN C z_d11_0 rfl 1 rfl ?_
  refine z_aloadN C z_d11_1 rfl rfl 2 rfl ?_
  refine z_arraylength C (z := (10 : Int32)) o_p1 (by rfl) z_d11_2 3 rfl ?_
  refine z_icmpY C z_d11_3 (by decide) (by decide) 11 (by decide) ?_
  refine z_aloadN C z_d11_11 rfl rfl 12 rfl ?_
  refine z_iloadN C z_d11_12 rfl 13 rfl ?_
  refine z_aloadN C z_d11_13 rfl rfl 14 rfl ?_
  refine z_aastore C o_p1 rfl (o_p1.sto (by decide) (Ins.of_exa (S.2.1.2.ext old.2).1 (z_w hw 106 rfl))) (by decide) (of_decide_eq_true rfl) (vs' := [(.ref a_ONE), (.ref a_ONE), .null, .null, .null, .null, .null, .null, .null, .null]) (by rfl) g_p1 z_d11_14 15 rfl ?_
  intro h1 W1 o_p1_1
  have s1 : h1.size = h.size := W1.size
  have k1 : Keep h h1 [p1, p0] := (Keep.refl h [p1, p0]).wr W1 (Or.inl (by simp))
  refine z_aloadN C z_d11_15 rfl rfl 16 rfl ?_
  refine z_iloadN C z_d11_16 rfl 17 rfl ?_
  refine z_iconst C (v := (1 : Int32)) z_d11_17 (by decide) 18 rfl ?_
  refine z_iadd C (z := (2 : Int32)) z_d11_18 (by decide) 19 rfl ?_
  have o_p0_1 := (o_p0.other W1 ne_p0_p1)
  refine z_putO C (z_w hw 83 rfl) Via.refl o_p0_1 (z_lay1_ok hw) 2 rfl (vs' := [(.int 2), (.ref p1), (.int 2)]) rfl (Or.inl (z_w hw 84 rfl)) (z_w hw 10 rfl) (ty := .int) (by decide) (by first | rfl | decide) (by first | rfl | decide) g_p0 z_d11_19 22 rfl ?_
  intro h2 W2 o_p0_2
  have s2 : h2.size = h1.size := W2.size
  have k2 : Keep h h2 [p1, p0] := k1.wr W2 (Or.inl (by simp))
  have o_p1_2 := (o_p1_1.other W2 (Ne.symm ne_p0_p1))
  exact z_return C z_d11_22 (by decide) (by decide) ⟨rfl, k2, o_p1_2, o_p0_2⟩
set_option maxHeartbeats 2000000 in
theorem z_c10_15 (hw : z_T Z a0) (S : z_St Z a_DEF a_ONE a_NONE) (z0 : n0 ≤ h.size) (old : Old Z n0 h) (p0 : Nat) (p1 : Nat) (o_p0 : z_Ob Z h p0 "java/util/ArrayList" z_lay1 [(.int 1), (.ref p1), (.int 1)]) (o_p1 : z_Ar Z h p1 (.object "java/lang/Object") "[Ljava/lang/Object;" "java/lang/Object" [(.ref a_ONE), .null, .null, .null, .null, .null, .null, .null, .null, .null]) (ne_p0_p1 : p0 ≠ p1) (g_p0 : n0 ≤ p0) (g_p1 : n0 ≤ p1) :
    z_Met l Z (⟨"java/util/ArrayList", "add", "(Ljava/lang/Object;)Z"⟩ : MethodName) jdk_38_method_25_code 2 (some .boolean) [] ({ frames := 1, cells := 0, slots := 0, locals := 15 } : Room) n0 #[(.ref p0), (.ref a_ONE)] h (z_val fun w h' => w = (.int 1) ∧ Keep h h' [p0, p1] ∧ z_Ob Z h' p0 "java/util/ArrayList" z_lay1 [(.int 2), (.ref p1), (.int 2)] ∧ z_Ar Z h' p1 (.object "java/lang/Object") "[Ljava/lang/Object;" "java/lang/Object" [(.ref a_ONE), (.ref a_ONE), .null, .null, .null, .null, .null, .null, .null, .null]) := by
  refine z_met (Ls := #[.val (.ref p0), .val (.ref a_ONE)]) (by first | exact plainFor_of_name (by first | (simp [plainName, overriddenIn]; done) | decide +kernel) | decide +kernel) rfl ?_
  intro p e s m below meth c C
  refine z_aloadN C z_d10_0 rfl rfl 1 rfl ?_
  refine z_dup C z_d10_1 rfl 2 rfl ?_
  refine z_getO C (z_w hw 81 rfl) (Via.of (z_w hw 82 rfl)) o_p0 0 rfl rfl z_d10_2 5 rfl ?_
  refine z_iconst C (v := (1 : Int32)) z_d10_5 (by decide) 6 rfl ?_
  refine z_iadd C (z := (2 : Int32)) z_d10_6 (by decide) 7 rfl ?_
  refine z_putO C (z_w hw 81 rfl) (Via.of (z_w hw 82 rfl)) o_p0 (z_lay1_ok hw) 0 rfl (vs' := [(.int 2), (.ref p1), (.int 1)]) rfl (Or.inl (z_w hw 29 rfl)) (z_w hw 10 rfl) (ty := .int) (by decide) (by first | rfl | decide) (by first | rfl | decide) g_p0 z_d10_7 10 rfl ?_
  intro h1 W1 o_p0_1
  have s1 : h1.size = h.size := W1.size
  have k1 : Keep h h1 [p0, p1] := (Keep.refl h [p0, p1]).wr W1 (Or.inl (by simp))
  refine z_aloadN C z_d10_10 rfl rfl 11 rfl ?_
  refine z_aloadN C z_d10_11 rfl rfl 12 rfl ?_
  refine z_aloadN C z_d10_12 rfl rfl 13 rfl ?_
  refine z_getO C (z_w hw 31 rfl) Via.refl o_p0_1 1 rfl rfl z_d10_13 16 rfl ?_
  refine z_aloadN C z_d10_16 rfl rfl 17 rfl ?_
  refine z_getO C (z_w hw 83 rfl) Via.refl o_p0_1 2 rfl rfl z_d10_17 20 rfl ?_
  have zz1 : n0 ≤ h1.size := by omega
  have o_p1_1 := (o_p1.other W1 (Ne.symm ne_p0_p1))
  have old1 := (old.wr W1 g_p0)
  refine z_callPV C o_p0_1.1 (z_c11_14 l hw S zz1 old1 p0 p1 o_p1_1 o_p0_1 ne_p0_p1 g_p1 g_p0) (z_w hw 85 rfl) (z_w hw 86 rfl) (z_w hw 88 rfl) (z_w hw 87 rfl) (z_w hw 11 rfl) (z_w hw 89 rfl) (by decide) z_d10_20 rfl (argsL := [(.ref a_ONE), (.ref p1), (.int 1)]) (rest := []) rfl (lenOf z_pd6 rfl) (W := 0) (Nat.le_of_eq rfl) (by decide) (by decide) (by decide) (by decide) 23 rfl ?_
  rintro h2 ⟨K2, o_p1_2, o_p0_2⟩
  have s2 : h1.size ≤ h2.size := K2.1
  have k2 : Keep h h2 [p0, p1] := k1.trans K2 (allS (Or.inl (by simp)) (allS (Or.inl (by simp)) all0))
  refine z_iconst C (v := (1 : Int32)) z_d10_23 (by decide) 24 rfl ?_
  exact z_ireturn C (by simp) rfl z_d10_24 (by decide) (by decide) ⟨_, rfl, rfl, k2, o_p0_2, o_p1_2⟩
set_option maxHeartbeats 2000000 in
theorem z_c15_16 (hw : z_T Z a0) (S : z_St Z a_DEF a_ONE a_NONE) (z0 : n0 ≤ h.size) (old : Old Z n0 h) (p0 : Nat) (p1 : Nat) (o_p0 : z_Ob Z h p0 "java/util/ArrayList" z_lay1 [(.int 2), (.ref p1), (.int 2)]) :
    z_Met l Z (⟨"java/util/ArrayList", "size", "()I"⟩ : MethodName) jdk_38_method_8_code 1 (some .int) [] ({ frames := 0, cells := 0, slots := 0, locals := 0 } : Room) n0 #[(.ref p0)] h (z_pure (.int 2) h) := by
  refine z_met (Ls := #[.val (.ref p0)]) (by first | exact plainFor_of_name (by first | (simp [plainName, overriddenIn]; done) | decide +kernel) | decide +kernel) rfl ?_
  intro p e s m below meth c C
  refine z_aloadN C z_d15_0 rfl rfl 1 rfl ?_
  refine z_getO C (z_w hw 83 rfl) Via.refl o_p0 2 rfl rfl z_d15_1 4 rfl ?_
  exact z_ireturn C (Or.inl rfl) rfl z_d15_4 (by decide) (by decide) ⟨rfl, rfl⟩
set_option maxHeartbeats 2000000 in
theorem z_c9_17 (hw : z_T Z a0) (S : z_St Z a_DEF a_ONE a_NONE) (z0 : n0 ≤ h.size) (old : Old Z n0 h) (p0 : Nat) (p1 : Nat) (p2 : Nat) (p3 : Nat) (p4 : Nat) (p5 : Nat) (p6 : Nat) (p7 : Nat) (o_p0 : z_Ob Z h p0 "com/example/variegate/variegate/service/Cnf" z_lay0 [(.ref p1), (.ref p2), (.ref p3), (.ref p4), (.ref p5), (.long (0 : Int64))]) (o_p3 : z_Ob Z h p3 "java/util/ArrayList" z_lay1 [(.int 1), (.ref p6), (.int 1)]) (o_p6 : z_Ar Z h p6 (.object "java/lang/Object") "[Ljava/lang/Object;" "java/lang/Object" [(.ref a_ONE), .null, .null, .null, .null, .null, .null, .null, .null, .null]) (o_p4 : z_Ob Z h p4 "java/util/ArrayList" z_lay1 [(.int 1), (.ref p7), (.int 1)]) (o_p7 : z_Ar Z h p7 (.object "java/lang/Object") "[Ljava/lang/Object;" "java/lang/Object" [(.ref a_ONE), .null, .null, .null, .null, .null, .null, .null, .null, .null]) (ne_p3_p6 : p3 ≠ p6) (ne_p0_p6 : p0 ≠ p6) (ne_p0_p3 : p0 ≠ p3) (ne_p4_p6 : p4 ≠ p6) (ne_p3_p4 : p3 ≠ p4) (ne_p6_p7 : p6 ≠ p7) (ne_p3_p7 : p3 ≠ p7) (ne_p4_p7 : p4 ≠ p7) (ne_p0_p7 : p0 ≠ p7) (ne_p0_p4 : p0 ≠ p4) (g_p3 : n0 ≤ p3) (g_p6 : n0 ≤ p6) (g_p4 : n0 ≤ p4) (g_p7 : n0 ≤ p7) :
    z_Met l Z (⟨"com/example/variegate/variegate/service/Cnf", "newVariable", "()I"⟩ : MethodName) prog_73_method_2_code 1 (some .int) [] ({ frames := 2, cells := 0, slots := 0, locals := 28 } : Room) n0 #[(.ref p0)] h (z_val fun w h' => w = (.int 2) ∧ Keep h h' [p6, p3, p7, p4] ∧ z_Ob Z h' p3 "java/util/ArrayList" z_lay1 [(.int 2), (.ref p6), (.int 2)] ∧ z_Ar Z h' p6 (.object "java/lang/Object") "[Ljava/lang/Object;" "java/lang/Object" [(.ref a_ONE), (.ref a_ONE), .null, .null, .null, .null, .null, .null, .null, .null] ∧ z_Ob Z h' p4 "java/util/ArrayList" z_lay1 [(.int 2), (.ref p7), (.int 2)] ∧ z_Ar Z h' p7 (.object "java/lang/Object") "[Ljava/lang/Object;" "java/lang/Object" [(.ref a_ONE), (.ref a_ONE), .null, .null, .null, .null, .null, .null, .null, .null]) := by
  refine z_met (Ls := #[.val (.ref p0)]) (by first | exact plainFor_of_name (by first | (simp [plainName, overriddenIn]; done) | decide +kernel) | decide +kernel) rfl ?_
  intro p e s m below meth c C
  refine z_aloadN C z_d9_0 rfl rfl 1 rfl ?_
  refine z_getO C (z_w hw 59 rfl) Via.refl o_p0 2 rfl rfl z_d9_1 4 rfl ?_
  refine z_getstatic C (z_w hw 70 rfl) (S.2.1.1.ext old.2) z_d9_4 7 rfl ?_
  refine z_callF C o_p3.1 (z_c10_15 l hw S z0 old p3 p6 o_p3 o_p6 ne_p3_p6 g_p3 g_p6) (z_w hw 72 rfl) (z_w hw 73 rfl) (z_w hw 74 rfl) (z_w hw 75 rfl) (z_w hw 76 rfl) (z_w hw 77 rfl) (z_w hw 78 rfl) (z_w hw 79 rfl) (z_w hw 11 rfl) (z_w hw 80 rfl) (by decide) z_d9_7 rfl (argsL := [(.ref a_ONE)]) (rest := []) rfl (lenOf z_pd7 rfl) (W := 0) (Nat.le_of_eq rfl) (by decide) (by decide) (by decide) (by decide) 12 rfl ?_
  rintro _ h1 ⟨rfl, K1, o_p3_1, o_p6_1⟩
  have s1 : h.size ≤ h1.size := K1.1
  have k1 : Keep h h1 [p6, p3, p7, p4] := (Keep.refl h [p6, p3, p7, p4]).trans K1 (allS (Or.inl (by simp)) (allS (Or.inl (by simp)) all0))
  refine z_pop C z_d9_12 rfl 13 rfl ?_
  refine z_aloadN C z_d9_13 rfl rfl 14 rfl ?_
  have o_p0_1 := (o_p0.keep K1 (ninS ne_p0_p3 (ninS ne_p0_p6 nin0)))
  refine z_getO C (z_w hw 61 rfl) Via.refl o_p0_1 3 rfl rfl z_d9_14 17 rfl ?_
  have old1 := (old.keep K1 (allS g_p3 (allS g_p6 all0)))
  refine z_getstatic C (z_w hw 70 rfl) (S.2.1.1.ext old1.2) z_d9_17 20 rfl ?_
  have zz1 : n0 ≤ h1.size := by omega
  have o_p4_1 := (o_p4.keep K1 (ninS (Ne.symm ne_p3_p4) (ninS ne_p4_p6 nin0)))
  have o_p7_1 := (o_p7.keep K1 (ninS (Ne.symm ne_p3_p7) (ninS (Ne.symm ne_p6_p7) nin0)))
  refine z_callF C o_p4_1.1 (z_c10_15 l hw S zz1 old1 p4 p7 o_p4_1 o_p7_1 ne_p4_p7 g_p4 g_p7) (z_w hw 72 rfl) (z_w hw 73 rfl) (z_w hw 74 rfl) (z_w hw 75 rfl) (z_w hw 76 rfl) (z_w hw 77 rfl) (z_w hw 78 rfl) (z_w hw 79 rfl) (z_w hw 11 rfl) (z_w hw 80 rfl) (by decide) z_d9_20 rfl (argsL := [(.ref a_ONE)]) (rest := []) rfl (lenOf z_pd7 rfl) (W := 0) (Nat.le_of_eq rfl) (by decide) (by decide) (by decide) (by decide) 25 rfl ?_
  rintro _ h2 ⟨rfl, K2, o_p4_2, o_p7_2⟩
  have s2 : h1.size ≤ h2.size := K2.1
  have k2 : Keep h h2 [p6, p3, p7, p4] := k1.trans K2 (allS (Or.inl (by simp)) (allS (Or.inl (by simp)) all0))
  refine z_pop C z_d9_25 rfl 26 rfl ?_
  refine z_aloadN C z_d9_26 rfl rfl 27 rfl ?_
  have o_p0_2 := (o_p0_1.keep K2 (ninS ne_p0_p4 (ninS ne_p0_p7 nin0)))
  refine z_getO C (z_w hw 59 rfl) Via.refl o_p0_2 2 rfl rfl z_d9_27 30 rfl ?_
  have zz2 : n0 ≤ h2.size := by omega
  have o_p3_2 := (o_p3_1.keep K2 (ninS ne_p3_p4 (ninS ne_p3_p7 nin0)))
  have old2 := (old1.keep K2 (allS g_p4 (allS g_p7 all0)))
  refine z_callFp C o_p3_2.1 (z_c15_16 l hw S zz2 old2 p3 p6 o_p3_2) (z_w hw 107 rfl) (z_w hw 108 rfl) (z_w hw 109 rfl) (z_w hw 110 rfl) (z_w hw 111 rfl) (z_w hw 112 rfl) (z_w hw 113 rfl) (z_w hw 79 rfl) (z_w hw 11 rfl) (z_w hw 114 rfl) (by decide) z_d9_30 rfl (argsL := []) (rest := []) rfl (lenOf z_pd8 rfl) (W := 0) (Nat.le_of_eq rfl) (by decide) (by decide) (by decide) (by decide) (by decide) (by decide) 35 rfl ?_
  have o_p6_2 := (o_p6_1.keep K2 (ninS (Ne.symm ne_p4_p6) (ninS ne_p6_p7 nin0)))
  exact z_ireturn C (Or.inl rfl) rfl z_d9_35 (by decide) (by decide) ⟨_, rfl, rfl, k2, o_p3_2, o_p6_2, o_p4_2, o_p7_2⟩
set_option maxHeartbeats 2000000 in
theorem z_c11_18 (hw : z_T Z a0) (S : z_St Z a_DEF a_ONE a_NONE) (z0 : n0 ≤ h.size) (old : Old Z n0 h) (p0 : Nat) (p1 : Nat) (o_p1 : z_Ar Z h p1 (.object "java/lang/Object") "[Ljava/lang/Object;" "java/lang/Object" [(.ref a_ONE), (.ref a_ONE), .null, .null, .null, .null, .null, .null, .null, .null]) (o_p0 : z_Ob Z h p0 "java/util/ArrayList" z_lay1 [(.int 3), (.ref p1), (.int 2)]) (ne_p0_p1 : p0 ≠ p1) (g_p1 : n0 ≤ p1) (g_p0 : n0 ≤ p0) :
    z_Met l Z (⟨"java/util/ArrayList", "add", "(Ljava/lang/Object;[Ljava/lang/Object;I)V"⟩ : MethodName) jdk_38_method_24_code 4 none [] ({ frames := 0, cells := 0, slots := 0, locals := 0 } : Room) n0 #[(.ref p0), (.ref a_ONE), (.ref p1), (.int 2)] h (z_nov fun h' => Keep h h' [p1, p0] ∧ z_Ar Z h' p1 (.object "java/lang/Object") "[Ljava/lang/Object;" "java/lang/Object" [(.ref a_ONE), (.ref a_ONE), (.ref a_ONE), .null, .null, .null, .null, .null, .null, .null] ∧ z_Ob Z h' p0 "java/util/ArrayList" z_lay1 [(.int 3), (.ref p1), (.int 3)]) := by
  refine z_met (Ls := #[.val (.ref p0), .val (.ref a_ONE), .val (.ref p1), .val (.int 2)]) (by first | exact plainFor_of_name (by first | (simp [plainName, overriddenIn]; done) | decide +kernel) | decide +kernel) rfl ?_
  intro p e s m below meth c C
  refine z_iloadN C z_d11_0 rfl 1 rfl ?_
  refine z_aloadN C z_d11_1 rfl rfl 2 rfl ?_
  refine z_arraylength C (z := (10 : Int32)) o_p1 (by rfl) z_d11_2 3 rfl ?_
  refine z_icmpY C z_d11_3 (by decide) (by decide) 11 (by decide) ?_
  refine z_aloadN C z_d11_11 rfl rfl 12 rfl ?_
  refine z_iloadN C z_d11_12 rfl 13 rfl ?_
  refine z_aloadN C z_d11_13 rfl rfl 14 rfl ?_
  refine z_aastore C o_p1 rfl (o_p1.sto (by decide) (Ins.of_exa (S.2.1.2.ext old.2).1 (z_w hw 106 rfl))) (by decide) (of_decide_eq_true rfl) (vs' := [(.ref a_ONE), (.ref a_ONE), (.ref a_ONE), .null, .null, .null, .null, .null, .null, .null]) (by rfl) g_p1 z_d11_14 15 rfl ?_
  intro h1 W1 o_p1_1
  have s1 : h1.size = h.size := W1.size
  have k1 : Keep h h1 [p1, p0] := (Keep.refl h [p1, p0]).wr W1 (Or.inl (by simp))
  refine z_aloadN C z_d11_15 rfl rfl 16 rfl ?_
  refine z_iloadN C z_d11_16 rfl 17 rfl ?_
  refine z_iconst C (v := (1 : Int32)) z_d11_17 (by decide) 18 rfl ?_
  refine z_iadd C (z := (3 : Int32)) z_d11_18 (by decide) 19 rfl ?_
  have o_p0_1 := (o_p0.other W1 ne_p0_p1)
  refine z_putO C (z_w hw 83 rfl) Via.refl o_p0_1 (z_lay1_ok hw) 2 rfl (vs' := [(.int 3), (.ref p1), (.int 3)]) rfl (Or.inl (z_w hw 84 rfl)) (z_w hw 10 rfl) (ty := .int) (by decide) (by first | rfl | decide) (by first | rfl | decide) g_p0 z_d11_19 22 rfl ?_
  intro h2 W2 o_p0_2
  have s2 : h2.size = h1.size := W2.size
  have k2 : Keep h h2 [p1, p0] := k1.wr W2 (Or.inl (by simp))
  have o_p1_2 := (o_p1_1.other W2 (Ne.symm ne_p0_p1))
  exact z_return C z_d11_22 (by decide) (by decide) ⟨rfl, k2, o_p1_2, o_p0_2⟩
set_option maxHeartbeats 2000000 in
theorem z_c10_19 (hw : z_T Z a0) (S : z_St Z a_DEF a_ONE a_NONE) (z0 : n0 ≤ h.size) (old : Old Z n0 h) (p0 : Nat) (p1 : Nat) (o_p0 : z_Ob Z h p0 "java/util/ArrayList" z_lay1 [(.int 2), (.ref p1), (.int 2)]) (o_p1 : z_Ar Z h p1 (.object "java/lang/Object") "[Ljava/lang/Object;" "java/lang/Object" [(.ref a_ONE), (.ref a_ONE), .null, .null, .null, .null, .null, .null, .null, .null]) (ne_p0_p1 : p0 ≠ p1) (g_p0 : n0 ≤ p0) (g_p1 : n0 ≤ p1) :
    z_Met l Z (⟨"java/util/ArrayList", "add", "(Ljava/lang/Object;)Z"⟩ : MethodName) jdk_38_method_25_code 2 (some .boolean) [] ({ frames := 1, cells := 0, slots := 0, locals := 15 } : Room) n0 #[(.ref p0), (.ref a_ONE)] h (z_val fun w h' => w = (.int 1) ∧ Keep h h' [p0, p1] ∧ z_Ob Z h' p0 "java/util/ArrayList" z_lay1 [(.int 3), (.ref p1), (.int 3)] ∧ z_Ar Z h' p1 (.object "java/lang/Object") "[Ljava/lang/Object;" "java/lang/Object" [(.ref a_ONE), (.ref a_ONE), (.ref a_ONE), .null, .null, .null, .null, .null, .null, .null]) := by
  refine z_met (Ls := #[.val (.ref p0), .val (.ref a_ONE)]) (by first | exact plainFor_of_name (by first | (simp [plainName, overriddenIn]; done) | decide +kernel) | decide +kernel) rfl ?_
  intro p e s m below meth c C
  refine z_aloadN C z_d10_0 rfl rfl 1 rfl ?_
  refine z_dup C z_d10_1 rfl 2 rfl ?_
  refine z_getO C (z_w hw 81 rfl) (Via.of (z_w hw 82 rfl)) o_p0 0 rfl rfl z_d10_2 5 rfl ?_
  refine z_iconst C (v := (1 : Int32)) z_d10_5 (by decide) 6 rfl ?_
  refine z_iadd C (z := (3 : Int32)) z_d10_6 (by decide) 7 rfl ?_
  refine z_putO C (z_w hw 81 rfl) (Via.of (z_w hw 82 rfl)) o_p0 (z_lay1_ok hw) 0 rfl (vs' := [(.int 3), (.ref p1), (.int 2)]) rfl (Or.inl (z_w hw 29 rfl)) (z_w hw 10 rfl) (ty := .int) (by decide) (by first | rfl | decide) (by first | rfl | decide) g_p0 z_d10_7 10 rfl ?_
  intro h1 W1 o_p0_1
  have s1 : h1.size = h.size := W1.size
  have k1 : Keep h h1 [p0, p1] := (Keep.refl h [p0, p1]).wr W1 (Or.inl (by simp))
  refine z_aloadN C z_d10_10 rfl rfl 11 rfl ?_
  refine z_aloadN C z_d10_11 rfl rfl 12 rfl ?_
  refine z_aloadN C z_d10_12 rfl rfl 13 rfl ?_
  refine z_getO C (z_w hw 31 rfl) Via.refl o_p0_1 1 rfl rfl z_d10_13 16 rfl ?_
  refine z_aloadN C z_d10_16 rfl rfl 17 rfl ?_
  refine z_getO C (z_w hw 83 rfl) Via.refl o_p0_1 2 rfl rfl z_d10_17 20 rfl ?_
  have zz1 : n0 ≤ h1.size := by omega
  have o_p1_1 := (o_p1.other W1 (Ne.symm ne_p0_p1))
  have old1 := (old.wr W1 g_p0)
  refine z_callPV C o_p0_1.1 (z_c11_18 l hw S zz1 old1 p0 p1 o_p1_1 o_p0_1 ne_p0_p1 g_p1 g_p0) (z_w hw 85 rfl) (z_w hw 86 rfl) (z_w hw 88 rfl) (z_w hw 87 rfl) (z_w hw 11 rfl) (z_w hw 89 rfl) (by decide) z_d10_20 rfl (argsL := [(.ref a_ONE), (.ref p1), (.int 2)]) (rest := []) rfl (lenOf z_pd6 rfl) (W := 0) (Nat.le_of_eq rfl) (by decide) (by decide) (by decide) (by decide) 23 rfl ?_
  rintro h2 ⟨K2, o_p1_2, o_p0_2⟩
  have s2 : h1.size ≤ h2.size := K2.1
  have k2 : Keep h h2 [p0, p1] := k1.trans K2 (allS (Or.inl (by simp)) (allS (Or.inl (by simp)) all0))
  refine z_iconst C (v := (1 : Int32)) z_d10_23 (by decide) 24 rfl ?_
  exact z_ireturn C (by simp) rfl z_d10_24 (by decide) (by decide) ⟨_, rfl, rfl, k2, o_p0_2, o_p1_2⟩
set_option maxHeartbeats 2000000 in
theorem z_c15_20 (hw : z_T Z a0) (S : z_St Z a_DEF a_ONE a_NONE) (z0 : n0 ≤ h.size) (old : Old Z n0 h) (p0 : Nat) (p1 : Nat) (o_p0 : z_Ob Z h p0 "java/util/ArrayList" z_lay1 [(.int 3), (.ref p1), (.int 3)]) :
    z_Met l Z (⟨"java/util/ArrayList", "size", "()I"⟩ : MethodName) jdk_38_method_8_code 1 (some .int) [] ({ frames := 0, cells := 0, slots := 0, locals := 0 } : Room) n0 #[(.ref p0)] h (z_pure (.int 3) h) := by
  refine z_met (Ls := #[.val (.ref p0)]) (by first | exact plainFor_of_name (by first | (simp [plainName, overriddenIn]; done) | decide +kernel) | decide +kernel) rfl ?_
  intro p e s m below meth c C
  refine z_aloadN C z_d15_0 rfl rfl 1 rfl ?_
  refine z_getO C (z_w hw 83 rfl) Via.refl o_p0 2 rfl rfl z_d15_1 4 rfl ?_
  exact z_ireturn C (Or.inl rfl) rfl z_d15_4 (by decide) (by decide) ⟨rfl, rfl⟩
set_option maxHeartbeats 2000000 in
theorem z_c9_21 (hw : z_T Z a0) (S : z_St Z a_DEF a_ONE a_NONE) (z0 : n0 ≤ h.size) (old : Old Z n0 h) (p0 : Nat) (p1 : Nat) (p2 : Nat) (p3 : Nat) (p4 : Nat) (p5 : Nat) (p6 : Nat) (p7 : Nat) (o_p0 : z_Ob Z h p0 "com/example/variegate/variegate/service/Cnf" z_lay0 [(.ref p1), (.ref p2), (.ref p3), (.ref p4), (.ref p5), (.long (0 : Int64))]) (o_p3 : z_Ob Z h p3 "java/util/ArrayList" z_lay1 [(.int 2), (.ref p6), (.int 2)]) (o_p6 : z_Ar Z h p6 (.object "java/lang/Object") "[Ljava/lang/Object;" "java/lang/Object" [(.ref a_ONE), (.ref a_ONE), .null, .null, .null, .null, .null, .null, .null, .null]) (o_p4 : z_Ob Z h p4 "java/util/ArrayList" z_lay1 [(.int 2), (.ref p7), (.int 2)]) (o_p7 : z_Ar Z h p7 (.object "java/lang/Object") "[Ljava/lang/Object;" "java/lang/Object" [(.ref a_ONE), (.ref a_ONE), .null, .null, .null, .null, .null, .null, .null, .null]) (ne_p3_p6 : p3 ≠ p6) (ne_p0_p6 : p0 ≠ p6) (ne_p0_p3 : p0 ≠ p3) (ne_p4_p6 : p4 ≠ p6) (ne_p3_p4 : p3 ≠ p4) (ne_p6_p7 : p6 ≠ p7) (ne_p3_p7 : p3 ≠ p7) (ne_p4_p7 : p4 ≠ p7) (ne_p0_p7 : p0 ≠ p7) (ne_p0_p4 : p0 ≠ p4) (g_p3 : n0 ≤ p3) (g_p6 : n0 ≤ p6) (g_p4 : n0 ≤ p4) (g_p7 : n0 ≤ p7) :
    z_Met l Z (⟨"com/example/variegate/variegate/service/Cnf", "newVariable", "()I"⟩ : MethodName) prog_73_method_2_code 1 (some .int) [] ({ frames := 2, cells := 0, slots := 0, locals := 28 } : Room) n0 #[(.ref p0)] h (z_val fun w h' => w = (.int 3) ∧ Keep h h' [p6, p3, p7, p4] ∧ z_Ob Z h' p3 "java/util/ArrayList" z_lay1 [(.int 3), (.ref p6), (.int 3)] ∧ z_Ar Z h' p6 (.object "java/lang/Object") "[Ljava/lang/Object;" "java/lang/Object" [(.ref a_ONE), (.ref a_ONE), (.ref a_ONE), .null, .null, .null, .null, .null, .null, .null] ∧ z_Ob Z h' p4 "java/util/ArrayList" z_lay1 [(.int 3), (.ref p7), (.int 3)] ∧ z_Ar Z h' p7 (.object "java/lang/Object") "[Ljava/lang/Object;" "java/lang/Object" [(.ref a_ONE), (.ref a_ONE), (.ref a_ONE), .null, .null, .null, .null, .null, .null, .null]) := by
  refine z_met (Ls := #[.val (.ref p0)]) (by first | exact plainFor_of_name (by first | (simp [plainName, overriddenIn]; done) | decide +kernel) | decide +kernel) rfl ?_
  intro p e s m below meth c C
  refine z_aloadN C z_d9_0 rfl rfl 1 rfl ?_
  refine z_getO C (z_w hw 59 rfl) Via.refl o_p0 2 rfl rfl z_d9_1 4 rfl ?_
  refine z_getstatic C (z_w hw 70 rfl) (S.2.1.1.ext old.2) z_d9_4 7 rfl ?_
  refine z_callF C o_p3.1 (z_c10_19 l hw S z0 old p3 p6 o_p3 o_p6 ne_p3_p6 g_p3 g_p6) (z_w hw 72 rfl) (z_w hw 73 rfl) (z_w hw 74 rfl) (z_w hw 75 rfl) (z_w hw 76 rfl) (z_w hw 77 rfl) (z_w hw 78 rfl) (z_w hw 79 rfl) (z_w hw 11 rfl) (z_w hw 80 rfl) (by decide) z_d9_7 rfl (argsL := [(.ref a_ONE)]) (rest := []) rfl (lenOf z_pd7 rfl) (W := 0) (Nat.le_of_eq rfl) (by decide) (by decide) (by decide) (by decide) 12 rfl ?_
  rintro _ h1 ⟨rfl, K1, o_p3_1, o_p6_1⟩
  have s1 : h.size ≤ h1.size := K1.1
  have k1 : Keep h h1 [p6, p3, p7, p4] := (Keep.refl h [p6, p3, p7, p4]).trans K1 (allS (Or.inl (by simp)) (allS (Or.inl (by simp)) all0))
  refine z_pop C z_d9_12 rfl 13 rfl ?_
  refine z_aloadN C z_d9_13 rfl rfl 14 rfl ?_
  have o_p0_1 := (o_p0.keep K1 (ninS ne_p0_p3 (ninS ne_p0_p6 nin0)))
  refine z_getO C (z_w hw 61 rfl) Via.refl o_p0_1 3 rfl rfl z_d9_14 17 rfl ?_
  have old1 := (old.keep K1 (allS g_p3 (allS g_p6 all0)))
  refine z_getstatic C (z_w hw 70 rfl) (S.2.1.1.ext old1.2) z_d9_17 20 rfl ?_
  have zz1 : n0 ≤ h1.size := by omega
  have o_p4_1 := (o_p4.keep K1 (ninS (Ne.symm ne_p3_p4) (ninS ne_p4_p6 nin0)))
  have o_p7_1 := (o_p7.keep K1 (ninS (Ne.symm ne_p3_p7) (ninS (Ne.symm ne_p6_p7) nin0)))
  refine z_callF C o_p4_1.1 (z_c10_19 l hw S zz1 old1 p4 p7 o_p4_1 o_p7_1 ne_p4_p7 g_p4 g_p7) (z_w hw 72 rfl) (z_w hw 73 rfl) (z_w hw 74 rfl) (z_w hw 75 rfl) (z_w hw 76 rfl) (z_w hw 77 rfl) (z_w hw 78 rfl) (z_w hw 79 rfl) (z_w hw 11 rfl) (z_w hw 80 rfl) (by decide) z_d9_20 rfl (argsL := [(.ref a_ONE)]) (rest := []) rfl (lenOf z_pd7 rfl) (W := 0) (Nat.le_of_eq rfl) (by decide) (by decide) (by decide) (by decide) 25 rfl ?_
  rintro _ h2 ⟨rfl, K2, o_p4_2, o_p7_2⟩
  have s2 : h1.size ≤ h2.size := K2.1
  have k2 : Keep h h2 [p6, p3, p7, p4] := k1.trans K2 (allS (Or.inl (by simp)) (allS (Or.inl (by simp)) all0))
  refine z_pop C z_d9_25 rfl 26 rfl ?_
  refine z_aloadN C z_d9_26 rfl rfl 27 rfl ?_
  have o_p0_2 := (o_p0_1.keep K2 (ninS ne_p0_p4 (ninS ne_p0_p7 nin0)))
  refine z_getO C (z_w hw 59 rfl) Via.refl o_p0_2 2 rfl rfl z_d9_27 30 rfl ?_
  have zz2 : n0 ≤ h2.size := by omega
  have o_p3_2 := (o_p3_1.keep K2 (ninS ne_p3_p4 (ninS ne_p3_p7 nin0)))
  have old2 := (old1.keep K2 (allS g_p4 (allS g_p7 all0)))
  refine z_callFp C o_p3_2.1 (z_c15_20 l hw S zz2 old2 p3 p6 o_p3_2) (z_w hw 107 rfl) (z_w hw 108 rfl) (z_w hw 109 rfl) (z_w hw 110 rfl) (z_w hw 111 rfl) (z_w hw 112 rfl) (z_w hw 113 rfl) (z_w hw 79 rfl) (z_w hw 11 rfl) (z_w hw 114 rfl) (by decide) z_d9_30 rfl (argsL := []) (rest := []) rfl (lenOf z_pd8 rfl) (W := 0) (Nat.le_of_eq rfl) (by decide) (by decide) (by decide) (by decide) (by decide) (by decide) 35 rfl ?_
  have o_p6_2 := (o_p6_1.keep K2 (ninS (Ne.symm ne_p4_p6) (ninS ne_p6_p7 nin0)))
  exact z_ireturn C (Or.inl rfl) rfl z_d9_35 (by decide) (by decide) ⟨_, rfl, rfl, k2, o_p3_2, o_p6_2, o_p4_2, o_p7_2⟩
set_option maxHeartbeats 2000000 in
theorem z_c14_22 (hw : z_T Z a0) (S : z_St Z a_DEF a_ONE a_NONE) (z0 : n0 ≤ h.size) (old : Old Z n0 h) :
    z_Met l Z (⟨"java/lang/Math", "max", "(II)I"⟩ : MethodName) jdk_29_method_65_code 2 (some .int) [] ({ frames := 0, cells := 0, slots := 0, locals := 0 } : Room) n0 #[(.int 0), (.int 8)] h (z_pure (.int 8) h) := by
  refine z_met (Ls := #[.val (.int 0), .val (.int 8)]) (by first | exact plainFor_of_name (by first | (simp [plainName, overriddenIn]; done) | decide +kernel) | decide +kernel) rfl ?_
  intro p e s m below meth c C
  refine z_iloadN C z_d14_0 rfl 1 rfl ?_
  refine z_iloadN C z_d14_1 rfl 2 rfl ?_
  refine z_icmpY C z_d14_2 (by decide) (by decide) 9 (by decide) ?_
  refine z_iloadN C z_d14_9 rfl 10 rfl ?_
  exact z_ireturn C (Or.inl rfl) rfl z_d14_10 (by decide) (by decide) ⟨rfl, rfl⟩
set_option maxHeartbeats 2000000 in
theorem z_c18_23 (hw : z_T Z a0) (S : z_St Z a_DEF a_ONE a_NONE) (z0 : n0 ≤ h.size) (old : Old Z n0 h) :
    z_Met l Z (⟨"java/lang/Math", "min", "(II)I"⟩ : MethodName) jdk_29_method_69_code 2 (some .int) [] ({ frames := 0, cells := 0, slots := 0, locals := 0 } : Room) n0 #[(.int 0), (.int 8)] h (z_pure (.int 0) h) := by
  refine z_met (Ls := #[.val (.int 0), .val (.int 8)]) (by first | exact plainFor_of_name (by first | (simp [plainName, overriddenIn]; done) | decide +kernel) | decide +kernel) rfl ?_
  intro p e s m below meth c C
  refine z_iloadN C z_d18_0 rfl 1 rfl ?_
  refine z_iloadN C z_d18_1 rfl 2 rfl ?_
  refine z_icmpN C z_d18_2 (by decide) 5 rfl ?_
  refine z_iloadN C z_d18_5 rfl 6 rfl ?_
  refine z_goto C z_d18_6 (by decide) 10 (by decide) ?_
  exact z_ireturn C (Or.inl rfl) rfl z_d18_10 (by decide) (by decide) ⟨rfl, rfl⟩
set_option maxHeartbeats 2000000 in
theorem z_c17_24 (hw : z_T Z a0) (S : z_St Z a_DEF a_ONE a_NONE) (z0 : n0 ≤ h.size) (old : Old Z n0 h) (p0 : Nat) (o_p0 : z_Ar Z h p0 .long "[J" "" []) :
    z_Met l Z (⟨"java/util/Arrays", "copyOf", "([JI)[J"⟩ : MethodName) jdk_65_method_124_code 3 (some (.array .long)) [] ({ frames := 1, cells := 1, slots := 8, locals := 40 } : Room) n0 #[(.ref p0), (.int 8)] h (z_val fun w h' => ∃ b1 : Nat, w = (.ref b1) ∧ Keep h h' [] ∧ h.size ≤ b1 ∧ b1 < h'.size ∧ z_Ar Z h' b1 .long "[J" "" [(.long (0 : Int64)), (.long (0 : Int64)), (.long (0 : Int64)), (.long (0 : Int64)), (.long (0 : Int64)), (.long (0 : Int64)), (.long (0 : Int64)), (.long (0 : Int64))]) := by
  have lt_p0 := o_p0.lt
  refine z_met (Ls := #[.val (.ref p0), .val (.int 8), .unset]) (by first | exact plainFor_of_name (by first | (simp [plainName, overriddenIn]; done) | decide +kernel) | decide +kernel) rfl ?_
  intro p e s m below meth c C
  refine z_iloadN C z_d17_0 rfl 1 rfl ?_
  refine z_aloadN C z_d17_1 rfl rfl 2 rfl ?_
  refine z_arraylength C (z := (0 : Int32)) o_p0 (by rfl) z_d17_2 3 rfl ?_
  refine z_icmpY C z_d17_3 (by decide) (by decide) 14 (by decide) ?_
  refine z_iloadN C z_d17_14 rfl 15 rfl ?_
  refine z_newarray C (aty := .long) (z_w hw 54 rfl) (by decide) (cap := 8) (by decide) (by decide) (ad := "[J") (by decide +kernel) (vs := [(.long (0 : Int64)), (.long (0 : Int64)), (.long (0 : Int64)), (.long (0 : Int64)), (.long (0 : Int64)), (.long (0 : Int64)), (.long (0 : Int64)), (.long (0 : Int64))]) (by rfl) z_d17_15 (by decide) (by decide) 17 rfl ?_
  intro h1 b1 g1 E1 o_b1
  have s1 : h.size ≤ h1.size := E1.1
  have k1 : Keep h h1 [] := (Keep.refl h []).ext E1
  have o_b1 : z_Ar Z h1 b1 .long "[J" "" [(.long (0 : Int64)), (.long (0 : Int64)), (.long (0 : Int64)), (.long (0 : Int64)), (.long (0 : Int64)), (.long (0 : Int64)), (.long (0 : Int64)), (.long (0 : Int64))] := o_b1
  have t1 := o_b1.lt
  refine z_astoreN C (Ls' := #[.val (.ref p0), .val (.int 8), .val (.ref b1)]) z_d17_17 rfl rfl 18 rfl ?_
  refine z_aloadN C z_d17_18 rfl rfl 19 rfl ?_
  refine z_iconst C (v := (0 : Int32)) z_d17_19 (by decide) 20 rfl ?_
  refine z_aloadN C z_d17_20 rfl rfl 21 rfl ?_
  refine z_iconst C (v := (0 : Int32)) z_d17_21 (by decide) 22 rfl ?_
  refine z_aloadN C z_d17_22 rfl rfl 23 rfl ?_
  have o_p0_1 := (o_p0.ext E1)
  refine z_arraylength C (z := (0 : Int32)) o_p0_1 (by rfl) z_d17_23 24 rfl ?_
  refine z_iloadN C z_d17_24 rfl 25 rfl ?_
  have zz1 : n0 ≤ h1.size := by omega
  have old1 := (old.ext E1)
  refine z_callSp C (z_c18_23 l hw S zz1 old1) (z_w hw 126 rfl) (z_w hw 127 rfl) (z_w hw 102 rfl) (z_w hw 128 rfl) (by decide) z_d17_25 rfl (argsL := [(.int 0), (.int 8)]) (rest := [(.int 0), (.ref b1), (.int 0), (.ref p0)]) rfl (lenOf z_pd3 rfl) (W := 4) (Nat.le_of_eq rfl) (by decide) (by decide) (by decide) (by decide) (by decide) (by decide) 28 rfl ?_
  have e_b1 : n0 ≤ (b1 : Nat) := by omega
  refine z_arraycopy C (z_w hw 129 rfl) (z_w hw 132 rfl) (z_w hw 130 rfl) (z_w hw 131 rfl) o_p0_1 o_b1 rfl z_nil (z_allS rfl (z_allS rfl (z_allS rfl (z_allS rfl (z_allS rfl (z_allS rfl (z_allS rfl (z_allS rfl z_nil)))))))) (by decide) (by decide) (by decide) (of_decide_eq_true rfl) (of_decide_eq_true rfl) (vs' := [(.long (0 : Int64)), (.long (0 : Int64)), (.long (0 : Int64)), (.long (0 : Int64)), (.long (0 : Int64)), (.long (0 : Int64)), (.long (0 : Int64)), (.long (0 : Int64))]) rfl rfl e_b1 z_d17_28 rfl (W := 0) (Nat.le_of_eq rfl) (by decide) (by decide) 31 rfl ?_
  intro h2 K2 o_b1_2
  have s2 : h1.size ≤ h2.size := K2.1
  have q_b1 : h.size ≤ (b1 : Nat) := by omega
  have k2 : Keep h h2 [] := k1.trans K2 (allS (Or.inr q_b1) all0)
  refine z_aloadN C z_d17_31 rfl rfl 32 rfl ?_
  exact z_areturn C rfl rfl z_d17_32 (by decide) (by decide) ⟨_, rfl, b1, rfl, k2, by omega, by omega, o_b1_2⟩
set_option maxHeartbeats 2000000 in
theorem z_c11_25 (hw : z_T Z a0) (S : z_St Z a_DEF a_ONE a_NONE) (z0 : n0 ≤ h.size) (old : Old Z n0 h) (y0 : Int32) (y1 : Int32) (y2 : Int32) (p0 : Nat) (p1 : Nat) (o_p0 : z_Ob Z h p0 "java/util/ArrayList" z_lay1 [(.int 1), (.ref a_DEF), (.int 0)]) (o_p1 : z_Ar Z h p1 .int "[I" "" [(.int y0), (.int y1), (.int y2)]) (ne_p0_p1 : p0 ≠ p1) (g_p0 : n0 ≤ p0) :
    z_Met l Z (⟨"java/util/ArrayList", "add", "(Ljava/lang/Object;[Ljava/lang/Object;I)V"⟩ : MethodName) jdk_38_method_24_code 4 none [] ({ frames := 3, cells := 1, slots := 10, locals := 41 } : Room) n0 #[(.ref p0), (.ref p1), (.ref a_DEF), (.int 0)] h (z_nov fun h' => ∃ b1_0 : Nat, Keep h h' [p0] ∧ h.size ≤ b1_0 ∧ b1_0 < h'.size ∧ z_Ob Z h' p0 "java/util/ArrayList" z_lay1 [(.int 1), (.ref b1_0), (.int 1)] ∧ z_Ar Z h' b1_0 (.object "java/lang/Object") "[Ljava/lang/Object;" "java/lang/Object" [(.ref p1), .null, .null, .null, .null, .null, .null, .null, .null, .null]) := by
  have lt_p0 := o_p0.lt
  have lt_p1 := o_p1.lt
  refine z_met (Ls := #[.val (.ref p0), .val (.ref p1), .val (.ref a_DEF), .val (.int 0)]) (by first | exact plainFor_of_name (by first | (simp [plainName, overriddenIn]; done) | decide +kernel) | decide +kernel) rfl ?_
  intro p e s m below meth c C
  refine z_iloadN C z_d11_0 rfl 1 rfl ?_
  refine z_aloadN C z_d11_1 rfl rfl 2 rfl ?_
  refine z_arraylength C (z := (0 : Int32)) (S.1.2.ext old.2) (by rfl) z_d11_2 3 rfl ?_
  refine z_icmpN C z_d11_3 (by decide) 6 rfl ?_
  refine z_aloadN C z_d11_6 rfl rfl 7 rfl ?_
  refine z_callP C o_p0.1 (z_c12_9 l hw S z0 old p0 o_p0 g_p0) (z_w hw 90 rfl) (z_w hw 91 rfl) (z_w hw 93 rfl) (z_w hw 92 rfl) (z_w hw 11 rfl) (z_w hw 94 rfl) (by decide) z_d11_7 rfl (argsL := []) (rest := []) rfl (lenOf z_pd5 rfl) (W := 0) (Nat.le_of_eq rfl) (by decide) (by decide) (by decide) (by decide) 10 rfl ?_
  rintro _ h1 ⟨b1_0, rfl, K1, l1_0, l1_1, o_p0_1, o_b1_0_1⟩
  have s1 : h.size ≤ h1.size := K1.1
  have k1 : Keep h h1 [p0] := (Keep.refl h [p0]).trans K1 (allS (Or.inl (by simp)) all0)
  refine z_astoreN C (Ls' := #[.val (.ref p0), .val (.ref p1), .val (.ref b1_0), .val (.int 0)]) z_d11_10 rfl rfl 11 rfl ?_
  refine z_aloadN C z_d11_11 rfl rfl 12 rfl ?_
  refine z_iloadN C z_d11_12 rfl 13 rfl ?_
  refine z_aloadN C z_d11_13 rfl rfl 14 rfl ?_
  have e_b1_0 : n0 ≤ (b1_0 : Nat) := by omega
  have o_p1_1 := (o_p1.keep K1 (ninS (Ne.symm ne_p0_p1) nin0))
  refine z_aastore C o_b1_0_1 rfl (o_b1_0_1.sto (by decide) (Ins.of_exa o_p1_1.exa (z_w hw 135 rfl))) (by decide) (of_decide_eq_true rfl) (vs' := [(.ref p1), .null, .null, .null, .null, .null, .null, .null, .null, .null]) (by rfl) e_b1_0 z_d11_14 15 rfl ?_
  intro h2 W2 o_b1_0_2
  have s2 : h2.size = h1.size := W2.size
  have q_b1_0 : h.size ≤ (b1_0 : Nat) := by omega
  have k2 : Keep h h2 [p0] := k1.wr W2 (Or.inr q_b1_0)
  refine z_aloadN C z_d11_15 rfl rfl 16 rfl ?_
  refine z_iloadN C z_d11_16 rfl 17 rfl ?_
  refine z_iconst C (v := (1 : Int32)) z_d11_17 (by decide) 18 rfl ?_
  refine z_iadd C (z := (1 : Int32)) z_d11_18 (by decide) 19 rfl ?_
  have n_p0_b1_0 : (p0 : Nat) ≠ b1_0 := by omega
  have o_p0_2 := (o_p0_1.other W2 n_p0_b1_0)
  refine z_putO C (z_w hw 83 rfl) Via.refl o_p0_2 (z_lay1_ok hw) 2 rfl (vs' := [(.int 1), (.ref b1_0), (.int 1)]) rfl (Or.inl (z_w hw 84 rfl)) (z_w hw 10 rfl) (ty := .int) (by decide) (by first | rfl | decide) (by first | rfl | decide) g_p0 z_d11_19 22 rfl ?_
  intro h3 W3 o_p0_3
  have s3 : h3.size = h2.size := W3.size
  have k3 : Keep h h3 [p0] := k2.wr W3 (Or.inl (by simp))
  have o_b1_0_3 := (o_b1_0_2.other W3 n_p0_b1_0.symm)
  exact z_return C z_d11_22 (by decide) (by decide) ⟨rfl, b1_0, k3, by omega, by omega, o_p0_3, o_b1_0_3⟩
set_option maxHeartbeats 2000000 in
theorem z_c10_26 (hw : z_T Z a0) (S : z_St Z a_DEF a_ONE a_NONE) (z0 : n0 ≤ h.size) (old : Old Z n0 h) (y0 : Int32) (y1 : Int32) (y2 : Int32) (p0 : Nat) (p1 : Nat) (o_p0 : z_Ob Z h p0 "java/util/ArrayList" z_lay1 [(.int 0), (.ref a_DEF), (.int 0)]) (o_p1 : z_Ar Z h p1 .int "[I" "" [(.int y0), (.int y1), (.int y2)]) (ne_p0_p1 : p0 ≠ p1) (g_p0 : n0 ≤ p0) :
    z_Met l Z (⟨"java/util/ArrayList", "add", "(Ljava/lang/Object;)Z"⟩ : MethodName) jdk_38_method_25_code 2 (some .boolean) [] ({ frames := 4, cells := 1, slots := 10, locals := 56 } : Room) n0 #[(.ref p0), (.ref p1)] h (z_val fun w h' => ∃ b2_0 : Nat, w = (.int 1) ∧ Keep h h' [p0] ∧ h.size ≤ b2_0 ∧ b2_0 < h'.size ∧ z_Ob Z h' p0 "java/util/ArrayList" z_lay1 [(.int 1), (.ref b2_0), (.int 1)] ∧ z_Ar Z h' b2_0 (.object "java/lang/Object") "[Ljava/lang/Object;" "java/lang/Object" [(.ref p1), .null, .null, .null, .null, .null, .null, .null, .null, .null]) := by
  have lt_p0 := o_p0.lt
  have lt_p1 := o_p1.lt
  refine z_met (Ls := #[.val (.ref p0), .val (.ref p1)]) (by first | exact plainFor_of_name (by first | (simp [plainName, overriddenIn]; done) | decide +kernel) | decide +kernel) rfl ?_
  intro p e s m below meth c C
  refine z_aloadN C z_d10_0 rfl rfl 1 rfl ?_
  refine z_dup C z_d10_1 rfl 2 rfl ?_
  refine z_getO C (z_w hw 81 rfl) (Via.of (z_w hw 82 rfl)) o_p0 0 rfl rfl z_d10_2 5 rfl ?_
  refine z_iconst C (v := (1 : Int32)) z_d10_5 (by decide) 6 rfl ?_
  refine z_iadd C (z := (1 : Int32)) z_d10_6 (by decide) 7 rfl ?_
  refine z_putO C (z_w hw 81 rfl) (Via.of (z_w hw 82 rfl)) o_p0 (z_lay1_ok hw) 0 rfl (vs' := [(.int 1), (.ref a_DEF), (.int 0)]) rfl (Or.inl (z_w hw 29 rfl)) (z_w hw 10 rfl) (ty := .int) (by decide) (by first | rfl | decide) (by first | rfl | decide) g_p0 z_d10_7 10 rfl ?_
  intro h1 W1 o_p0_1
  have s1 : h1.size = h.size := W1.size
  have k1 : Keep h h1 [p0] := (Keep.refl h [p0]).wr W1 (Or.inl (by simp))
  refine z_aloadN C z_d10_10 rfl rfl 11 rfl ?_
  refine z_aloadN C z_d10_11 rfl rfl 12 rfl ?_
  refine z_aloadN C z_d10_12 rfl rfl 13 rfl ?_
  refine z_getO C (z_w hw 31 rfl) Via.refl o_p0_1 1 rfl rfl z_d10_13 16 rfl ?_
  refine z_aloadN C z_d10_16 rfl rfl 17 rfl ?_
  refine z_getO C (z_w hw 83 rfl) Via.refl o_p0_1 2 rfl rfl z_d10_17 20 rfl ?_
  have zz1 : n0 ≤ h1.size := by omega
  have o_p1_1 := (o_p1.other W1 (Ne.symm ne_p0_p1))
  have old1 := (old.wr W1 g_p0)
  refine z_callPV C o_p0_1.1 (z_c11_25 l hw S zz1 old1 y0 y1 y2 p0 p1 o_p0_1 o_p1_1 ne_p0_p1 g_p0) (z_w hw 85 rfl) (z_w hw 86 rfl) (z_w hw 88 rfl) (z_w hw 87 rfl) (z_w hw 11 rfl) (z_w hw 89 rfl) (by decide) z_d10_20 rfl (argsL := [(.ref p1), (.ref a_DEF), (.int 0)]) (rest := []) rfl (lenOf z_pd6 rfl) (W := 0) (Nat.le_of_eq rfl) (by decide) (by decide) (by decide) (by decide) 23 rfl ?_
  rintro h2 ⟨b2_0, K2, l2_0, l2_1, o_p0_2, o_b2_0_2⟩
  have s2 : h1.size ≤ h2.size := K2.1
  have k2 : Keep h h2 [p0] := k1.trans K2 (allS (Or.inl (by simp)) all0)
  refine z_iconst C (v := (1 : Int32)) z_d10_23 (by decide) 24 rfl ?_
  exact z_ireturn C (by simp) rfl z_d10_24 (by decide) (by decide) ⟨_, rfl, b2_0, rfl, k2, by omega, by omega, o_p0_2, o_b2_0_2⟩
set_option maxHeartbeats 2000000 in
theorem z_c16_27 (hw : z_T Z a0) (S : z_St Z a_DEF a_ONE a_NONE) (z0 : n0 ≤ h.size) (old : Old Z n0 h) (y0 : Int32) (y1 : Int32) (y2 : Int32) (p0 : Nat) (p1 : Nat) (p2 : Nat) (p3 : Nat) (p4 : Nat) (p5 : Nat) (p6 : Nat) (p7 : Nat) (o_p0 : z_Ob Z h p0 "com/example/variegate/variegate/service/Cnf" z_lay0 [(.ref p2), (.ref p3), (.ref p4), (.ref p5), (.ref p6), (.long (0 : Int64))]) (o_p6 : z_Ar Z h p6 .long "[J" "" []) (o_p4 : z_Ob Z h p4 "java/util/ArrayList" z_lay1 [(.int 3), (.ref p7), (.int 3)]) (o_p1 : z_Ar Z h p1 .int "[I" "" [(.int y0), (.int y1), (.int y2)]) (o_p2 : z_Ob Z h p2 "java/util/ArrayList" z_lay1 [(.int 0), (.ref a_DEF), (.int 0)]) (ne_p0_p1 : p0 ≠ p1) (ne_p0_p4 : p0 ≠ p4) (ne_p0_p2 : p0 ≠ p2) (g_p0 : n0 ≤ p0) (g_p2 : n0 ≤ p2) (rq0 : ¬ y0 = (0 : Int32)) (rq1 : ¬ (3 : Int32) < y0) (rq2 : ¬ y0 < (-3 : Int32)) (rq3 : ¬ (z_ix y0) < 0) (rq4 : (([(.long (0 : Int64)), (.long (0 : Int64)), (.long (0 : Int64)), (.long (0 : Int64)), (.long (0 : Int64)), (.long (0 : Int64)), (.long (0 : Int64)), (.long (0 : Int64))] : List Value))[((z_ix y0)).toNatClampNeg]? = some (.long (z_gL [(.long (0 : Int64)), (.long (0 : Int64)), (.long (0 : Int64)), (.long (0 : Int64)), (.long (0 : Int64)), (.long (0 : Int64)), (.long (0 : Int64)), (.long (0 : Int64))] ((z_ix y0)).toNatClampNeg))) (rq5 : ¬ (lcmpW (z_gL [(.long (0 : Int64)), (.long (0 : Int64)), (.long (0 : Int64)), (.long (0 : Int64)), (.long (0 : Int64)), (.long (0 : Int64)), (.long (0 : Int64)), (.long (0 : Int64))] ((z_ix y0)).toNatClampNeg) (1 : Int64)) = (0 : Int32)) (rq6 : ((z_ix y0)).toNatClampNeg < (([(.long (0 : Int64)), (.long (0 : Int64)), (.long (0 : Int64)), (.long (0 : Int64)), (.long (0 : Int64)), (.long (0 : Int64)), (.long (0 : Int64)), (.long (0 : Int64))] : List Value)).length) (rq7 : ¬ ((z_ix y0) ^^^ (1 : Int32)) < 0) (rq8 : ((List.set (([(.long (0 : Int64)), (.long (0 : Int64)), (.long (0 : Int64)), (.long (0 : Int64)), (.long (0 : Int64)), (.long (0 : Int64)), (.long (0 : Int64)), (.long (0 : Int64))] : List Value)) ((z_ix y0)).toNatClampNeg (.long (1 : Int64))))[(((z_ix y0) ^^^ (1 : Int32))).toNatClampNeg]? = some (.long (z_gL (List.set (([(.long (0 : Int64)), (.long (0 : Int64)), (.long (0 : Int64)), (.long (0 : Int64)), (.long (0 : Int64)), (.long (0 : Int64)), (.long (0 : Int64)), (.long (0 : Int64))] : List Value)) ((z_ix y0)).toNatClampNeg (.long (1 : Int64))) (((z_ix y0) ^^^ (1 : Int32))).toNatClampNeg))) (rq9 : ¬ (lcmpW (z_gL (List.set (([(.long (0 : Int64)), (.long (0 : Int64)), (.long (0 : Int64)), (.long (0 : Int64)), (.long (0 : Int64)), (.long (0 : Int64)), (.long (0 : Int64)), (.long (0 : Int64))] : List Value)) ((z_ix y0)).toNatClampNeg (.long (1 : Int64))) (((z_ix y0) ^^^ (1 : Int32))).toNatClampNeg) (1 : Int64)) = (0 : Int32)) (rq10 : ¬ y1 = (0 : Int32)) (rq11 : ¬ (3 : Int32) < y1) (rq12 : ¬ y1 < (-3 : Int32)) (rq13 : ¬ (z_ix y1) < 0) (rq14 : ((List.set (([(.long (0 : Int64)), (.long (0 : Int64)), (.long (0 : Int64)), (.long (0 : Int64)), (.long (0 : Int64)), (.long (0 : Int64)), (.long (0 : Int64)), (.long (0 : Int64))] : List Value)) ((z_ix y0)).toNatClampNeg (.long (1 : Int64))))[((z_ix y1)).toNatClampNeg]? = some (.long (z_gL (List.set (([(.long (0 : Int64)), (.long (0 : Int64)), (.long (0 : Int64)), (.long (0 : Int64)), (.long (0 : Int64)), (.long (0 : Int64)), (.long (0 : Int64)), (.long (0 : Int64))] : List Value)) ((z_ix y0)).toNatClampNeg (.long (1 : Int64))) ((z_ix y1)).toNatClampNeg))) (rq15 : ¬ (lcmpW (z_gL (List.set (([(.long (0 : Int64)), (.long (0 : Int64)), (.long (0 : Int64)), (.long (0 : Int64)), (.long (0 : Int64)), (.long (0 : Int64)), (.long (0 : Int64)), (.long (0 : Int64))] : List Value)) ((z_ix y0)).toNatClampNeg (.long (1 : Int64))) ((z_ix y1)).toNatClampNeg) (1 : Int64)) = (0 : Int32)) (rq16 : ((z_ix y1)).toNatClampNeg < ((List.set (([(.long (0 : Int64)), (.long (0 : Int64)), (.long (0 : Int64)), (.long (0 : Int64)), (.long (0 : Int64)), (.long (0 : Int64)), (.long (0 : Int64)), (.long (0 : Int64))] : List Value)) ((z_ix y0)).toNatClampNeg (.long (1 : Int64)))).length) (rq17 : ¬ ((z_ix y1) ^^^ (1 : Int32)) < 0) (rq18 : ((List.set ((List.set (([(.long (0 : Int64)), (.long (0 : Int64)), (.long (0 : Int64)), (.long (0 : Int64)), (.long (0 : Int64)), (.long (0 : Int64)), (.long (0 : Int64)), (.long (0 : Int64))] : List Value)) ((z_ix y0)).toNatClampNeg (.long (1 : Int64)))) ((z_ix y1)).toNatClampNeg (.long (1 : Int64))))[(((z_ix y1) ^^^ (1 : Int32))).toNatClampNeg]? = some (.long (z_gL (List.set ((List.set (([(.long (0 : Int64)), (.long (0 : Int64)), (.long (0 : Int64)), (.long (0 : Int64)), (.long (0 : Int64)), (.long (0 : Int64)), (.long (0 : Int64)), (.long (0 : Int64))] : List Value)) ((z_ix y0)).toNatClampNeg (.long (1 : Int64)))) ((z_ix y1)).toNatClampNeg (.long (1 : Int64))) (((z_ix y1) ^^^ (1 : Int32))).toNatClampNeg))) (rq19 : ¬ (lcmpW (z_gL (List.set ((List.set (([(.long (0 : Int64)), (.long (0 : Int64)), (.long (0 : Int64)), (.long (0 : Int64)), (.long (0 : Int64)), (.long (0 : Int64)), (.long (0 : Int64)), (.long (0 : Int64))] : List Value)) ((z_ix y0)).toNatClampNeg (.long (1 : Int64)))) ((z_ix y1)).toNatClampNeg (.long (1 : Int64))) (((z_ix y1) ^^^ (1 : Int32))).toNatClampNeg) (1 : Int64)) = (0 : Int32)) (rq20 : ¬ y2 = (0 : Int32)) (rq21 : ¬ (3 : Int32) < y2) (rq22 : ¬ y2 < (-3 : Int32)) (rq23 : ¬ (z_ix y2) < 0) (rq24 : ((List.set ((List.set (([(.long (0 : Int64)), (.long (0 : Int64)), (.long (0 : Int64)), (.long (0 : Int64)), (.long (0 : Int64)), (.long (0 : Int64)), (.long (0 : Int64)), (.long (0 : Int64))] : List Value)) ((z_ix y0)).toNatClampNeg (.long (1 : Int64)))) ((z_ix y1)).toNatClampNeg (.long (1 : Int64))))[((z_ix y2)).toNatClampNeg]? = some (.long (z_gL (List.set ((List.set (([(.long (0 : Int64)), (.long (0 : Int64)), (.long (0 : Int64)), (.long (0 : Int64)), (.long (0 : Int64)), (.long (0 : Int64)), (.long (0 : Int64)), (.long (0 : Int64))] : List Value)) ((z_ix y0)).toNatClampNeg (.long (1 : Int64)))) ((z_ix y1)).toNatClampNeg (.long (1 : Int64))) ((z_ix y2)).toNatClampNeg))) (rq25 : ¬ (lcmpW (z_gL (List.set ((List.set (([(.long (0 : Int64)), (.long (0 : Int64)), (.long (0 : Int64)), (.long (0 : Int64)), (.long (0 : Int64)), (.long (0 : Int64)), (.long (0 : Int64)), (.long (0 : Int64))] : List Value)) ((z_ix y0)).toNatClampNeg (.long (1 : Int64)))) ((z_ix y1)).toNatClampNeg (.long (1 : Int64))) ((z_ix y2)).toNatClampNeg) (1 : Int64)) = (0 : Int32)) (rq26 : ((z_ix y2)).toNatClampNeg < ((List.set ((List.set (([(.long (0 : Int64)), (.long (0 : Int64)), (.long (0 : Int64)), (.long (0 : Int64)), (.long (0 : Int64)), (.long (0 : Int64)), (.long (0 : Int64)), (.long (0 : Int64))] : List Value)) ((z_ix y0)).toNatClampNeg (.long (1 : Int64)))) ((z_ix y1)).toNatClampNeg (.long (1 : Int64)))).length) (rq27 : ¬ ((z_ix y2) ^^^ (1 : Int32)) < 0) (rq28 : ((List.set ((List.set ((List.set (([(.long (0 : Int64)), (.long (0 : Int64)), (.long (0 : Int64)), (.long (0 : Int64)), (.long (0 : Int64)), (.long (0 : Int64)), (.long (0 : Int64)), (.long (0 : Int64))] : List Value)) ((z_ix y0)).toNatClampNeg (.long (1 : Int64)))) ((z_ix y1)).toNatClampNeg (.long (1 : Int64)))) ((z_ix y2)).toNatClampNeg (.long (1 : Int64))))[(((z_ix y2) ^^^ (1 : Int32))).toNatClampNeg]? = some (.long (z_gL (List.set ((List.set ((List.set (([(.long (0 : Int64)), (.long (0 : Int64)), (.long (0 : Int64)), (.long (0 : Int64)), (.long (0 : Int64)), (.long (0 : Int64)), (.long (0 : Int64)), (.long (0 : Int64))] : List Value)) ((z_ix y0)).toNatClampNeg (.long (1 : Int64)))) ((z_ix y1)).toNatClampNeg (.long (1 : Int64)))) ((z_ix y2)).toNatClampNeg (.long (1 : Int64))) (((z_ix y2) ^^^ (1 : Int32))).toNatClampNeg))) (rq29 : ¬ (lcmpW (z_gL (List.set ((List.set ((List.set (([(.long (0 : Int64)), (.long (0 : Int64)), (.long (0 : Int64)), (.long (0 : Int64)), (.long (0 : Int64)), (.long (0 : Int64)), (.long (0 : Int64)), (.long (0 : Int64))] : List Value)) ((z_ix y0)).toNatClampNeg (.long (1 : Int64)))) ((z_ix y1)).toNatClampNeg (.long (1 : Int64)))) ((z_ix y2)).toNatClampNeg (.long (1 : Int64))) (((z_ix y2) ^^^ (1 : Int32))).toNatClampNeg) (1 : Int64)) = (0 : Int32)) :
    z_Met l Z (⟨"com/example/variegate/variegate/service/Cnf", "addClause", "([I)V"⟩ : MethodName) prog_73_method_3_code 10 none [] ({ frames := 5, cells := 3, slots := 21, locals := 69 } : Room) n0 #[(.ref p0), (.ref p1)] h (z_nov fun h' => ∃ b1_0 : Nat, ∃ b4 : Nat, ∃ b11_0 : Nat, Keep h h' [p0, p2] ∧ h.size ≤ b1_0 ∧ b1_0 < b4 ∧ b4 < b11_0 ∧ b11_0 < h'.size ∧ z_Ob Z h' p0 "com/example/variegate/variegate/service/Cnf" z_lay0 [(.ref p2), (.ref p3), (.ref p4), (.ref p5), (.ref b1_0), (.long (1 : Int64))] ∧ z_Ob Z h' p2 "java/util/ArrayList" z_lay1 [(.int 1), (.ref b11_0), (.int 1)] ∧ z_Ar Z h' b1_0 .long "[J" "" (List.set ((List.set ((List.set (([(.long (0 : Int64)), (.long (0 : Int64)), (.long (0 : Int64)), (.long (0 : Int64)), (.long (0 : Int64)), (.long (0 : Int64)), (.long (0 : Int64)), (.long (0 : Int64))] : List Value)) ((z_ix y0)).toNatClampNeg (.long (1 : Int64)))) ((z_ix y1)).toNatClampNeg (.long (1 : Int64)))) ((z_ix y2)).toNatClampNeg (.long (1 : Int64))) ∧ z_Ar Z h' b4 .int "[I" "" [(.int y0), (.int y1), (.int y2)] ∧ z_Ar Z h' b11_0 (.object "java/lang/Object") "[Ljava/lang/Object;" "java/lang/Object" [(.ref b4), .null, .null, .null, .null, .null, .null, .null, .null, .null]) := by
  have lt_p0 := o_p0.lt
  have lt_p6 := o_p6.lt
  have lt_p4 := o_p4.lt
  have lt_p1 := o_p1.lt
  have lt_p2 := o_p2.lt
  refine z_met (Ls := #[.val (.ref p0), .val (.ref p1), .unset, .unset, .unset, .unset, .unset, .unset, .unset, .unset]) (by first | exact plainFor_of_name (by first | (simp [plainName, overriddenIn]; done) | decide +kernel) | decide +kernel) rfl ?_
  intro p e s m below meth c C
  refine z_aloadN C z_d16_0 rfl rfl 1 rfl ?_
  refine z_getO C (z_w hw 63 rfl) Via.refl o_p0 4 rfl rfl z_d16_1 4 rfl ?_
  refine z_arraylength C (z := (0 : Int32)) o_p6 (by rfl) z_d16_4 5 rfl ?_
  refine z_iconst C (v := (2 : Int32)) z_d16_5 (by decide) 6 rfl ?_
  refine z_aloadN C z_d16_6 rfl rfl 7 rfl ?_
  refine z_getO C (z_w hw 59 rfl) Via.refl o_p0 2 rfl rfl z_d16_7 10 rfl ?_
  refine z_callFp C o_p4.1 (z_c15_20 l hw S z0 old p4 p7 o_p4) (z_w hw 107 rfl) (z_w hw 108 rfl) (z_w hw 109 rfl) (z_w hw 110 rfl) (z_w hw 111 rfl) (z_w hw 112 rfl) (z_w hw 113 rfl) (z_w hw 79 rfl) (z_w hw 11 rfl) (z_w hw 114 rfl) (by decide) z_d16_10 rfl (argsL := []) (rest := [(.int 2), (.int 0)]) rfl (lenOf z_pd8 rfl) (W := 2) (Nat.le_of_eq rfl) (by decide) (by decide) (by decide) (by decide) (by decide) (by decide) 15 rfl ?_
  refine z_imul C (z := (6 : Int32)) z_d16_15 (by decide) 16 rfl ?_
  refine z_iconst C (v := (2 : Int32)) z_d16_16 (by decide) 17 rfl ?_
  refine z_iadd C (z := (8 : Int32)) z_d16_17 (by decide) 18 rfl ?_
  refine z_icmpN C z_d16_18 (by decide) 21 rfl ?_
  refine z_aloadN C z_d16_21 rfl rfl 22 rfl ?_
  refine z_aloadN C z_d16_22 rfl rfl 23 rfl ?_
  refine z_getO C (z_w hw 63 rfl) Via.refl o_p0 4 rfl rfl z_d16_23 26 rfl ?_
  refine z_iconst C (v := (2 : Int32)) z_d16_26 (by decide) 27 rfl ?_
  refine z_aloadN C z_d16_27 rfl rfl 28 rfl ?_
  refine z_getO C (z_w hw 63 rfl) Via.refl o_p0 4 rfl rfl z_d16_28 31 rfl ?_
  refine z_arraylength C (z := (0 : Int32)) o_p6 (by rfl) z_d16_31 32 rfl ?_
  refine z_imul C (z := (0 : Int32)) z_d16_32 (by decide) 33 rfl ?_
  refine z_iconst C (v := (2 : Int32)) z_d16_33 (by decide) 34 rfl ?_
  refine z_aloadN C z_d16_34 rfl rfl 35 rfl ?_
  refine z_getO C (z_w hw 59 rfl) Via.refl o_p0 2 rfl rfl z_d16_35 38 rfl ?_
  refine z_callFp C o_p4.1 (z_c15_20 l hw S z0 old p4 p7 o_p4) (z_w hw 107 rfl) (z_w hw 108 rfl) (z_w hw 109 rfl) (z_w hw 110 rfl) (z_w hw 111 rfl) (z_w hw 112 rfl) (z_w hw 113 rfl) (z_w hw 79 rfl) (z_w hw 11 rfl) (z_w hw 114 rfl) (by decide) z_d16_38 rfl (argsL := []) (rest := [(.int 2), (.int 0), (.ref p6), (.ref p0)]) rfl (lenOf z_pd8 rfl) (W := 4) (Nat.le_of_eq rfl) (by decide) (by decide) (by decide) (by decide) (by decide) (by decide) 43 rfl ?_
  refine z_imul C (z := (6 : Int32)) z_d16_43 (by decide) 44 rfl ?_
  refine z_iconst C (v := (2 : Int32)) z_d16_44 (by decide) 45 rfl ?_
  refine z_iadd C (z := (8 : Int32)) z_d16_45 (by decide) 46 rfl ?_
  refine z_callSp C (z_c14_22 l hw S z0 old) (z_w hw 121 rfl) (z_w hw 101 rfl) (z_w hw 102 rfl) (z_w hw 103 rfl) (by decide) z_d16_46 rfl (argsL := [(.int 0), (.int 8)]) (rest := [(.ref p6), (.ref p0)]) rfl (lenOf z_pd3 rfl) (W := 2) (Nat.le_of_eq rfl) (by decide) (by decide) (by decide) (by decide) (by decide) (by decide) 49 rfl ?_
  refine z_callS C (z_c17_24 l hw S z0 old p6 o_p6) (z_w hw 122 rfl) (z_w hw 123 rfl) (z_w hw 124 rfl) (z_w hw 125 rfl) (by decide) z_d16_49 rfl (argsL := [(.ref p6), (.int 8)]) (rest := [(.ref p0)]) rfl (lenOf z_pd9 rfl) (W := 1) (Nat.le_of_eq rfl) (by decide) (by decide) (by decide) (by decide) 52 rfl ?_
  rintro _ h1 ⟨b1_0, rfl, K1, l1_0, l1_1, o_b1_0_1⟩
  have s1 : h.size ≤ h1.size := K1.1
  have k1 : Keep h h1 [p0, p2] := (Keep.refl h [p0, p2]).trans K1 all0
  have o_p0_1 := (o_p0.keep K1 nin0)
  refine z_putO C (z_w hw 63 rfl) Via.refl o_p0_1 (z_lay0_ok hw) 4 rfl (vs' := [(.ref p2), (.ref p3), (.ref p4), (.ref p5), (.ref b1_0), (.long (0 : Int64))]) rfl (Or.inl (z_w hw 64 rfl)) (z_w hw 1 rfl) (ty := (.array .long)) (by decide) (by first | rfl | decide) (by first | rfl | decide) g_p0 z_d16_52 55 rfl ?_
  intro h2 W2 o_p0_2
  have s2 : h2.size = h1.size := W2.size
  have k2 : Keep h h2 [p0, p2] := k1.wr W2 (Or.inl (by simp))
  refine z_aloadN C z_d16_55 rfl rfl 56 rfl ?_
  refine z_dup C z_d16_56 rfl 57 rfl ?_
  refine z_getO C (z_w hw 133 rfl) Via.refl o_p0_2 5 rfl rfl z_d16_57 60 rfl ?_
  refine z_lconst C (v := 1) z_d16_60 (by decide) 61 rfl ?_
  refine z_ladd C (z := 1) z_d16_61 (by decide) 62 rfl ?_
  refine z_putO C (z_w hw 133 rfl) Via.refl o_p0_2 (z_lay0_ok hw) 5 rfl (vs' := [(.ref p2), (.ref p3), (.ref p4), (.ref p5), (.ref b1_0), (.long (1 : Int64))]) rfl (Or.inl (z_w hw 134 rfl)) (z_w hw 1 rfl) (ty := .long) (by decide) (by first | rfl | decide) (by first | rfl | decide) g_p0 z_d16_62 65 rfl ?_
  intro h3 W3 o_p0_3
  have s3 : h3.size = h2.size := W3.size
  have k3 : Keep h h3 [p0, p2] := k2.wr W3 (Or.inl (by simp))
  refine z_aloadN C z_d16_65 rfl rfl 66 rfl ?_
  have o_p1_3 := (((o_p1.keep K1 nin0).other W2 (Ne.symm ne_p0_p1)).other W3 (Ne.symm ne_p0_p1))
  refine z_arraylength C (z := (3 : Int32)) o_p1_3 (by rfl) z_d16_66 67 rfl ?_
  refine z_newarray C (aty := .int) (z_w hw 115 rfl) (by decide) (cap := 3) (by decide) (by decide) (ad := "[I") (by decide +kernel) (vs := [(.int 0), (.int 0), (.int 0)]) (by rfl) z_d16_67 (by decide) (by decide) 69 rfl ?_
  intro h4 b4 g4 E4 o_b4
  have s4 : h3.size ≤ h4.size := E4.1
  have k4 : Keep h h4 [p0, p2] := k3.ext E4
  have o_b4 : z_Ar Z h4 b4 .int "[I" "" [(.int 0), (.int 0), (.int 0)] := o_b4
  have t4 := o_b4.lt
  refine z_astoreN C (Ls' := #[.val (.ref p0), .val (.ref p1), .val (.ref b4), .unset, .unset, .unset, .unset, .unset, .unset, .unset]) z_d16_69 rfl rfl 70 rfl ?_
  refine z_iconst C (v := (0 : Int32)) z_d16_70 (by decide) 71 rfl ?_
  refine z_istoreN C (Ls' := #[.val (.ref p0), .val (.ref p1), .val (.ref b4), .val (.int 0), .unset, .unset, .unset, .unset, .unset, .unset]) z_d16_71 rfl 72 rfl ?_
  refine z_iconst C (v := (0 : Int32)) z_d16_72 (by decide) 73 rfl ?_
  refine z_istore C (Ls' := #[.val (.ref p0), .val (.ref p1), .val (.ref b4), .val (.int 0), .val (.int 0), .unset, .unset, .unset, .unset, .unset]) z_d16_73 rfl 75 rfl ?_
  refine z_aloadN C z_d16_75 rfl rfl 76 rfl ?_
  refine z_astore C (Ls' := #[.val (.ref p0), .val (.ref p1), .val (.ref b4), .val (.int 0), .val (.int 0), .val (.ref p1), .unset, .unset, .unset, .unset]) z_d16_76 rfl rfl 78 rfl ?_
  refine z_aload C z_d16_78 rfl rfl 80 rfl ?_
  have o_p1_4 := (o_p1_3.ext E4)
  refine z_arraylength C (z := (3 : Int32)) o_p1_4 (by rfl) z_d16_80 81 rfl ?_
  refine z_istore C (Ls' := #[.val (.ref p0), .val (.ref p1), .val (.ref b4), .val (.int 0), .val (.int 0), .val (.ref p1), .val (.int 3), .unset, .unset, .unset]) z_d16_81 rfl 83 rfl ?_
  refine z_iconst C (v := (0 : Int32)) z_d16_83 (by decide) 84 rfl ?_
  refine z_istore C (Ls' := #[.val (.ref p0), .val (.ref p1), .val (.ref b4), .val (.int 0), .val (.int 0), .val (.ref p1), .val (.int 3), .val (.int 0), .unset, .unset]) z_d16_84 rfl 86 rfl ?_
  refine z_iload C z_d16_86 rfl 88 rfl ?_
  refine z_iload C z_d16_88 rfl 90 rfl ?_
  refine z_icmpN C z_d16_90 (by decide) 93 rfl ?_
  refine z_aload C z_d16_93 rfl rfl 95 rfl ?_
  refine z_iload C z_d16_95 rfl 97 rfl ?_
  refine z_iaload C o_p1_4 (by decide) (v := (.int y0)) (by rfl) z_d16_97 98 rfl ?_
  refine z_istore C (Ls' := #[.val (.ref p0), .val (.ref p1), .val (.ref b4), .val (.int 0), .val (.int 0), .val (.ref p1), .val (.int 3), .val (.int 0), .val (.int y0), .unset]) z_d16_98 rfl 100 rfl ?_
  refine z_iload C z_d16_100 rfl 102 rfl ?_
  refine z_ifN C z_d16_102 ((if0 _ _).trans (feq rq0).1) 105 rfl ?_
  refine z_iload C z_d16_105 rfl 107 rfl ?_
  refine z_aloadN C z_d16_107 rfl rfl 108 rfl ?_
  have o_p0_4 := (o_p0_3.ext E4)
  refine z_getO C (z_w hw 59 rfl) Via.refl o_p0_4 2 rfl rfl z_d16_108 111 rfl ?_
  have zz4 : n0 ≤ h4.size := by omega
  have o_p4_4 := ((((o_p4.keep K1 nin0).other W2 (Ne.symm ne_p0_p4)).other W3 (Ne.symm ne_p0_p4)).ext E4)
  have old4 := ((((old.keep K1 all0).wr W2 g_p0).wr W3 g_p0).ext E4)
  refine z_callFp C o_p4_4.1 (z_c15_20 l hw S zz4 old4 p4 p7 o_p4_4) (z_w hw 107 rfl) (z_w hw 108 rfl) (z_w hw 109 rfl) (z_w hw 110 rfl) (z_w hw 111 rfl) (z_w hw 112 rfl) (z_w hw 113 rfl) (z_w hw 79 rfl) (z_w hw 11 rfl) (z_w hw 114 rfl) (by decide) z_d16_111 rfl (argsL := []) (rest := [(.int y0)]) rfl (lenOf z_pd8 rfl) (W := 1) (Nat.le_of_eq rfl) (by decide) (by decide) (by decide) (by decide) (by decide) (by decide) 116 rfl ?_
  refine z_icmpN C z_d16_116 (flt rq1).2.2.1 119 rfl ?_
  refine z_iload C z_d16_119 rfl 121 rfl ?_
  refine z_aloadN C z_d16_121 rfl rfl 122 rfl ?_
  refine z_getO C (z_w hw 59 rfl) Via.refl o_p0_4 2 rfl rfl z_d16_122 125 rfl ?_
  refine z_callFp C o_p4_4.1 (z_c15_20 l hw S zz4 old4 p4 p7 o_p4_4) (z_w hw 107 rfl) (z_w hw 108 rfl) (z_w hw 109 rfl) (z_w hw 110 rfl) (z_w hw 111 rfl) (z_w hw 112 rfl) (z_w hw 113 rfl) (z_w hw 79 rfl) (z_w hw 11 rfl) (z_w hw 114 rfl) (by decide) z_d16_125 rfl (argsL := []) (rest := [(.int y0)]) rfl (lenOf z_pd8 rfl) (W := 1) (Nat.le_of_eq rfl) (by decide) (by decide) (by decide) (by decide) (by decide) (by decide) 130 rfl ?_
  refine z_ineg C (z := (-3 : Int32)) z_d16_130 (by decide) 131 rfl ?_
  refine z_icmpY C z_d16_131 (flt rq2).2.1 (by decide) 149 (by decide) ?_
  refine z_cut (fJ := mkF m 168 #[.val (.ref p0), .val (.ref p1), .val (.ref b4), .val (.int 0), .val (.int 0), .val (.ref p1), .val (.int 3), .val (.int 0), .val (.int y0), .unset] [(.int (z_ix y0))]) (fun K => ?_) ?_
  · refine z_iload C z_d16_149 rfl 151 rfl ?_
    by_cases hc151 : (0 : Int32) < y0
    · refine z_ifN C z_d16_151 ((if0 _ _).trans (tlt hc151).2.2.2) 154 rfl ?_
      refine z_iconst C (v := (2 : Int32)) z_d16_154 (by decide) 155 rfl ?_
      refine z_iload C z_d16_155 rfl 157 rfl ?_
      refine z_imul C z_d16_157 rfl 158 rfl ?_
      refine z_goto C z_d16_158 (by decide) 168 (by decide) ?_
      exact z_castI (if_pos hc151) K
    · refine z_ifY C z_d16_151 ((if0 _ _).trans (flt hc151).2.2.2) (by decide) 161 (by decide) ?_
      refine z_bipush C (v := (-2 : Int32)) z_d16_161 (by decide) 163 rfl ?_
      refine z_iload C z_d16_163 rfl 165 rfl ?_
      refine z_imul C z_d16_165 rfl 166 rfl ?_
      refine z_iconst C (v := (1 : Int32)) z_d16_166 (by decide) 167 rfl ?_
      refine z_iadd C z_d16_167 rfl 168 rfl ?_
      exact z_castI (if_neg hc151) K
  refine z_istore C (Ls' := #[.val (.ref p0), .val (.ref p1), .val (.ref b4), .val (.int 0), .val (.int 0), .val (.ref p1), .val (.int 3), .val (.int 0), .val (.int y0), .val (.int (z_ix y0))]) z_d16_168 rfl 170 rfl ?_
  refine z_aloadN C z_d16_170 rfl rfl 171 rfl ?_
  refine z_getO C (z_w hw 63 rfl) Via.refl o_p0_4 4 rfl rfl z_d16_171 174 rfl ?_
  refine z_iload C z_d16_174 rfl 176 rfl ?_
  have n_b1_0_p0 : (b1_0 : Nat) ≠ p0 := by omega
  have o_b1_0_4 := (((o_b1_0_1.other W2 n_b1_0_p0).other W3 n_b1_0_p0).ext E4)
  refine z_laload C o_b1_0_4 rq3 rq4 z_d16_176 177 rfl ?_
  refine z_aloadN C z_d16_177 rfl rfl 178 rfl ?_
  refine z_getO C (z_w hw 133 rfl) Via.refl o_p0_4 5 rfl rfl z_d16_178 181 rfl ?_
  refine z_lcmp C z_d16_181 rfl 182 rfl ?_
  refine z_ifN C z_d16_182 ((if0 _ _).trans (feq rq5).1) 185 rfl ?_
  refine z_aloadN C z_d16_185 rfl rfl 186 rfl ?_
  refine z_getO C (z_w hw 63 rfl) Via.refl o_p0_4 4 rfl rfl z_d16_186 189 rfl ?_
  refine z_iload C z_d16_189 rfl 191 rfl ?_
  refine z_aloadN C z_d16_191 rfl rfl 192 rfl ?_
  refine z_getO C (z_w hw 133 rfl) Via.refl o_p0_4 5 rfl rfl z_d16_192 195 rfl ?_
  have e_b1_0 : n0 ≤ (b1_0 : Nat) := by omega
  refine z_lastore C o_b1_0_4 rq3 rq6 (vs' := (List.set (([(.long (0 : Int64)), (.long (0 : Int64)), (.long (0 : Int64)), (.long (0 : Int64)), (.long (0 : Int64)), (.long (0 : Int64)), (.long (0 : Int64)), (.long (0 : Int64))] : List Value)) ((z_ix y0)).toNatClampNeg (.long (1 : Int64)))) rfl e_b1_0 z_d16_195 196 rfl ?_
  intro h5 W5 o_b1_0_5
  have s5 : h5.size = h4.size := W5.size
  have q_b1_0 : h.size ≤ (b1_0 : Nat) := by omega
  have k5 : Keep h h5 [p0, p2] := k4.wr W5 (Or.inr q_b1_0)
  refine z_aloadN C z_d16_196 rfl rfl 197 rfl ?_
  refine z_iloadN C z_d16_197 rfl 198 rfl ?_
  refine z_iinc C (w := (1 : Int32)) (Ls' := #[.val (.ref p0), .val (.ref p1), .val (.ref b4), .val (.int 1), .val (.int 0), .val (.ref p1), .val (.int 3), .val (.int 0), .val (.int y0), .val (.int (z_ix y0))]) z_d16_198 rfl (by decide) rfl 201 rfl ?_
  refine z_iload C z_d16_201 rfl 203 rfl ?_
  have n_b4_b1_0 : (b4 : Nat) ≠ b1_0 := by omega
  have o_b4_5 := (o_b4.other W5 n_b4_b1_0)
  have e_b4 : n0 ≤ (b4 : Nat) := by omega
  refine z_iastore C (z := y0) o_b4_5 (by decide) (of_decide_eq_true rfl) rfl (vs' := [(.int y0), (.int 0), (.int 0)]) (by rfl) e_b4 z_d16_203 204 rfl ?_
  intro h6 W6 o_b4_6
  have s6 : h6.size = h5.size := W6.size
  have q_b4 : h.size ≤ (b4 : Nat) := by omega
  have k6 : Keep h h6 [p0, p2] := k5.wr W6 (Or.inr q_b4)
  refine z_iload C z_d16_204 rfl 206 rfl ?_
  refine z_aloadN C z_d16_206 rfl rfl 207 rfl ?_
  have n_p0_b4 : (p0 : Nat) ≠ b4 := by omega
  have o_p0_6 := ((o_p0_4.other W5 n_b1_0_p0.symm).other W6 n_p0_b4)
  refine z_getO C (z_w hw 63 rfl) Via.refl o_p0_6 4 rfl rfl z_d16_207 210 rfl ?_
  refine z_iload C z_d16_210 rfl 212 rfl ?_
  refine z_iconst C (v := (1 : Int32)) z_d16_212 (by decide) 213 rfl ?_
  refine z_ixor C z_d16_213 rfl 214 rfl ?_
  have o_b1_0_6 := (o_b1_0_5.other W6 n_b4_b1_0.symm)
  refine z_laload C o_b1_0_6 rq7 rq8 z_d16_214 215 rfl ?_
  refine z_aloadN C z_d16_215 rfl rfl 216 rfl ?_
  refine z_getO C (z_w hw 133 rfl) Via.refl o_p0_6 5 rfl rfl z_d16_216 219 rfl ?_
  refine z_lcmp C z_d16_219 rfl 220 rfl ?_
  refine z_ifY C z_d16_220 ((if0 _ _).trans (feq rq9).2) (by decide) 227 (by decide) ?_
  refine z_iconst C (v := (0 : Int32)) z_d16_227 (by decide) 228 rfl ?_
  refine z_ior C (z := (0 : Int32)) z_d16_228 (by decide) 229 rfl ?_
  refine z_istore C (Ls' := #[.val (.ref p0), .val (.ref p1), .val (.ref b4), .val (.int 1), .val (.int 0), .val (.ref p1), .val (.int 3), .val (.int 0), .val (.int y0), .val (.int (z_ix y0))]) z_d16_229 rfl 231 rfl ?_
  refine z_iinc C (w := (1 : Int32)) (Ls' := #[.val (.ref p0), .val (.ref p1), .val (.ref b4), .val (.int 1), .val (.int 0), .val (.ref p1), .val (.int 3), .val (.int 1), .val (.int y0), .val (.int (z_ix y0))]) z_d16_231 rfl (by decide) rfl 234 rfl ?_
  refine z_goto C z_d16_234 (by decide) 86 (by decide) ?_
  refine z_iload C z_d16_86 rfl 88 rfl ?_
  refine z_iload C z_d16_88 rfl 90 rfl ?_
  refine z_icmpN C z_d16_90 (by decide) 93 rfl ?_
  refine z_aload C z_d16_93 rfl rfl 95 rfl ?_
  refine z_iload C z_d16_95 rfl 97 rfl ?_
  have n_p1_b1_0 : (p1 : Nat) ≠ b1_0 := by omega
  have n_p1_b4 : (p1 : Nat) ≠ b4 := by omega
  have o_p1_6 := ((o_p1_4.other W5 n_p1_b1_0).other W6 n_p1_b4)
  refine z_iaload C o_p1_6 (by decide) (v := (.int y1)) (by rfl) z_d16_97 98 rfl ?_
  refine z_istore C (Ls' := #[.val (.ref p0), .val (.ref p1), .val (.ref b4), .val (.int 1), .val (.int 0), .val (.ref p1), .val (.int 3), .val (.int 1), .val (.int y1), .val (.int (z_ix y0))]) z_d16_98 rfl 100 rfl ?_
  refine z_iload C z_d16_100 rfl 102 rfl ?_
  refine z_ifN C z_d16_102 ((if0 _ _).trans (feq rq10).1) 105 rfl ?_
  refine z_iload C z_d16_105 rfl 107 rfl ?_
  refine z_aloadN C z_d16_107 rfl rfl 108 rfl ?_
  refine z_getO C (z_w hw 59 rfl) Via.refl o_p0_6 2 rfl rfl z_d16_108 111 rfl ?_
  have zz6 : n0 ≤ h6.size := by omega
  have n_p4_b1_0 : (p4 : Nat) ≠ b1_0 := by omega
  have n_p4_b4 : (p4 : Nat) ≠ b4 := by omega
  have o_p4_6 := ((o_p4_4.other W5 n_p4_b1_0).other W6 n_p4_b4)
  have old6 := ((old4.wr W5 e_b1_0).wr W6 e_b4)
  refine z_callFp C o_p4_6.1 (z_c15_20 l hw S zz6 old6 p4 p7 o_p4_6) (z_w hw 107 rfl) (z_w hw 108 rfl) (z_w hw 109 rfl) (z_w hw 110 rfl) (z_w hw 111 rfl) (z_w hw 112 rfl) (z_w hw 113 rfl) (z_w hw 79 rfl) (z_w hw 11 rfl) (z_w hw 114 rfl) (by decide) z_d16_111 rfl (argsL := []) (rest := [(.int y1)]) rfl (lenOf z_pd8 rfl) (W := 1) (Nat.le_of_eq rfl) (by decide) (by decide) (by decide) (by decide) (by decide) (by decide) 116 rfl ?_
  refine z_icmpN C z_d16_116 (flt rq11).2.2.1 119 rfl ?_
  refine z_iload C z_d16_119 rfl 121 rfl ?_
  refine z_aloadN C z_d16_121 rfl rfl 122 rfl ?_
  refine z_getO C (z_w hw 59 rfl) Via.refl o_p0_6 2 rfl rfl z_d16_122 125 rfl ?_
  refine z_callFp C o_p4_6.1 (z_c15_20 l hw S zz6 old6 p4 p7 o_p4_6) (z_w hw 107 rfl) (z_w hw 108 rfl) (z_w hw 109 rfl) (z_w hw 110 rfl) (z_w hw 111 rfl) (z_w hw 112 rfl) (z_w hw 113 rfl) (z_w hw 79 rfl) (z_w hw 11 rfl) (z_w hw 114 rfl) (by decide) z_d16_125 rfl (argsL := []) (rest := [(.int y1)]) rfl (lenOf z_pd8 rfl) (W := 1) (Nat.le_of_eq rfl) (by decide) (by decide) (by decide) (by decide) (by decide) (by decide) 130 rfl ?_
  refine z_ineg C (z := (-3 : Int32)) z_d16_130 (by decide) 131 rfl ?_
  refine z_icmpY C z_d16_131 (flt rq12).2.1 (by decide) 149 (by decide) ?_
  refine z_cut (fJ := mkF m 168 #[.val (.ref p0), .val (.ref p1), .val (.ref b4), .val (.int 1), .val (.int 0), .val (.ref p1), .val (.int 3), .val (.int 1), .val (.int y1), .val (.int (z_ix y0))] [(.int (z_ix y1))]) (fun K => ?_) ?_
  · refine z_iload C z_d16_149 rfl 151 rfl ?_
    by_cases hc151 : (0 : Int32) < y1
    · refine z_ifN C z_d16_151 ((if0 _ _).trans (tlt hc151).2.2.2) 154 rfl ?_
      refine z_iconst C (v := (2 : Int32)) z_d16_154 (by decide) 155 rfl ?_
      refine z_iload C z_d16_155 rfl 157 rfl ?_
      refine z_imul C z_d16_157 rfl 158 rfl ?_
      refine z_goto C z_d16_158 (by decide) 168 (by decide) ?_
      exact z_castI (if_pos hc151) K
    · refine z_ifY C z_d16_151 ((if0 _ _).trans (flt hc151).2.2.2) (by decide) 161 (by decide) ?_
      refine z_bipush C (v := (-2 : Int32)) z_d16_161 (by decide) 163 rfl ?_
      refine z_iload C z_d16_163 rfl 165 rfl ?_
      refine z_imul C z_d16_165 rfl 166 rfl ?_
      refine z_iconst C (v := (1 : Int32)) z_d16_166 (by decide) 167 rfl ?_
      refine z_iadd C z_d16_167 rfl 168 rfl ?_
      exact z_castI (if_neg hc151) K
  refine z_istore C (Ls' := #[.val (.ref p0), .val (.ref p1), .val (.ref b4), .val (.int 1), .val (.int 0), .val (.ref p1), .val (.int 3), .val (.int 1), .val (.int y1), .val (.int (z_ix y1))]) z_d16_168 rfl 170 rfl ?_
  refine z_aloadN C z_d16_170 rfl rfl 171 rfl ?_
  refine z_getO C (z_w hw 63 rfl) Via.refl o_p0_6 4 rfl rfl z_d16_171 174 rfl ?_
  refine z_iload C z_d16_174 rfl 176 rfl ?_
  refine z_laload C o_b1_0_6 rq13 rq14 z_d16_176 177 rfl ?_
  refine z_aloadN C z_d16_177 rfl rfl 178 rfl ?_
  refine z_getO C (z_w hw 133 rfl) Via.refl o_p0_6 5 rfl rfl z_d16_178 181 rfl ?_
  refine z_lcmp C z_d16_181 rfl 182 rfl ?_
  refine z_ifN C z_d16_182 ((if0 _ _).trans (feq rq15).1) 185 rfl ?_
  refine z_aloadN C z_d16_185 rfl rfl 186 rfl ?_
  refine z_getO C (z_w hw 63 rfl) Via.refl o_p0_6 4 rfl rfl z_d16_186 189 rfl ?_
  refine z_iload C z_d16_189 rfl 191 rfl ?_
  refine z_aloadN C z_d16_191 rfl rfl 192 rfl ?_
  refine z_getO C (z_w hw 133 rfl) Via.refl o_p0_6 5 rfl rfl z_d16_192 195 rfl ?_
  refine z_lastore C o_b1_0_6 rq13 rq16 (vs' := (List.set ((List.set (([(.long (0 : Int64)), (.long (0 : Int64)), (.long (0 : Int64)), (.long (0 : Int64)), (.long (0 : Int64)), (.long (0 : Int64)), (.long (0 : Int64)), (.long (0 : Int64))] : List Value)) ((z_ix y0)).toNatClampNeg (.long (1 : Int64)))) ((z_ix y1)).toNatClampNeg (.long (1 : Int64)))) rfl e_b1_0 z_d16_195 196 rfl ?_
  intro h7 W7 o_b1_0_7
  have s7 : h7.size = h6.size := W7.size
  have k7 : Keep h h7 [p0, p2] := k6.wr W7 (Or.inr q_b1_0)
  refine z_aloadN C z_d16_196 rfl rfl 197 rfl ?_
  refine z_iloadN C z_d16_197 rfl 198 rfl ?_
  refine z_iinc C (w := (2 : Int32)) (Ls' := #[.val (.ref p0), .val (.ref p1), .val (.ref b4), .val (.int 2), .val (.int 0), .val (.ref p1), .val (.int 3), .val (.int 1), .val (.int y1), .val (.int (z_ix y1))]) z_d16_198 rfl (by decide) rfl 201 rfl ?_
  refine z_iload C z_d16_201 rfl 203 rfl ?_
  have o_b4_7 := (o_b4_6.other W7 n_b4_b1_0)
  refine z_iastore C (z := y1) o_b4_7 (by decide) (of_decide_eq_true rfl) rfl (vs' := [(.int y0), (.int y1), (.int 0)]) (by rfl) e_b4 z_d16_203 204 rfl ?_
  intro h8 W8 o_b4_8
  have s8 : h8.size = h7.size := W8.size
  have k8 : Keep h h8 [p0, p2] := k7.wr W8 (Or.inr q_b4)
  refine z_iload C z_d16_204 rfl 206 rfl ?_
  refine z_aloadN C z_d16_206 rfl rfl 207 rfl ?_
  have o_p0_8 := ((o_p0_6.other W7 n_b1_0_p0.symm).other W8 n_p0_b4)
  refine z_getO C (z_w hw 63 rfl) Via.refl o_p0_8 4 rfl rfl z_d16_207 210 rfl ?_
  refine z_iload C z_d16_210 rfl 212 rfl ?_
  refine z_iconst C (v := (1 : Int32)) z_d16_212 (by decide) 213 rfl ?_
  refine z_ixor C z_d16_213 rfl 214 rfl ?_
  have o_b1_0_8 := (o_b1_0_7.other W8 n_b4_b1_0.symm)
  refine z_laload C o_b1_0_8 rq17 rq18 z_d16_214 215 rfl ?_
  refine z_aloadN C z_d16_215 rfl rfl 216 rfl ?_
  refine z_getO C (z_w hw 133 rfl) Via.refl o_p0_8 5 rfl rfl z_d16_216 219 rfl ?_
  refine z_lcmp C z_d16_219 rfl 220 rfl ?_
  refine z_ifY C z_d16_220 ((if0 _ _).trans (feq rq19).2) (by decide) 227 (by decide) ?_
  refine z_iconst C (v := (0 : Int32)) z_d16_227 (by decide) 228 rfl ?_
  refine z_ior C (z := (0 : Int32)) z_d16_228 (by decide) 229 rfl ?_
  refine z_istore C (Ls' := #[.val (.ref p0), .val (.ref p1), .val (.ref b4), .val (.int 2), .val (.int 0), .val (.ref p1), .val (.int 3), .val (.int 1), .val (.int y1), .val (.int (z_ix y1))]) z_d16_229 rfl 231 rfl ?_
  refine z_iinc C (w := (2 : Int32)) (Ls' := #[.val (.ref p0), .val (.ref p1), .val (.ref b4), .val (.int 2), .val (.int 0), .val (.ref p1), .val (.int 3), .val (.int 2), .val (.int y1), .val (.int (z_ix y1))]) z_d16_231 rfl (by decide) rfl 234 rfl ?_
  refine z_goto C z_d16_234 (by decide) 86 (by decide) ?_
  refine z_iload C z_d16_86 rfl 88 rfl ?_
  refine z_iload C z_d16_88 rfl 90 rfl ?_
  refine z_icmpN C z_d16_90 (by decide) 93 rfl ?_
  refine z_aload C z_d16_93 rfl rfl 95 rfl ?_
  refine z_iload C z_d16_95 rfl 97 rfl ?_
  have o_p1_8 := ((o_p1_6.other W7 n_p1_b1_0).other W8 n_p1_b4)
  refine z_iaload C o_p1_8 (by decide) (v := (.int y2)) (by rfl) z_d16_97 98 rfl ?_
  refine z_istore C (Ls' := #[.val (.ref p0), .val (.ref p1), .val (.ref b4), .val (.int 2), .val (.int 0), .val (.ref p1), .val (.int 3), .val (.int 2), .val (.int y2), .val (.int (z_ix y1))]) z_d16_98 rfl 100 rfl ?_
  refine z_iload C z_d16_100 rfl 102 rfl ?_
  refine z_ifN C z_d16_102 ((if0 _ _).trans (feq rq20).1) 105 rfl ?_
  refine z_iload C z_d16_105 rfl 107 rfl ?_
  refine z_aloadN C z_d16_107 rfl rfl 108 rfl ?_
  refine z_getO C (z_w hw 59 rfl) Via.refl o_p0_8 2 rfl rfl z_d16_108 111 rfl ?_
  have zz8 : n0 ≤ h8.size := by omega
  have o_p4_8 := ((o_p4_6.other W7 n_p4_b1_0).other W8 n_p4_b4)
  have old8 := ((old6.wr W7 e_b1_0).wr W8 e_b4)
  refine z_callFp C o_p4_8.1 (z_c15_20 l hw S zz8 old8 p4 p7 o_p4_8) (z_w hw 107 rfl) (z_w hw 108 rfl) (z_w hw 109 rfl) (z_w hw 110 rfl) (z_w hw 111 rfl) (z_w hw 112 rfl) (z_w hw 113 rfl) (z_w hw 79 rfl) (z_w hw 11 rfl) (z_w hw 114 rfl) (by decide) z_d16_111 rfl (argsL := []) (rest := [(.int y2)]) rfl (lenOf z_pd8 rfl) (W := 1) (Nat.le_of_eq rfl) (by decide) (by decide) (by decide) (by decide) (by decide) (by decide) 116 rfl ?_
  refine z_icmpN C z_d16_116 (flt rq21).2.2.1 119 rfl ?_
  refine z_iload C z_d16_119 rfl 121 rfl ?_
  refine z_aloadN C z_d16_121 rfl rfl 122 rfl ?_
  refine z_getO C (z_w hw 59 rfl) Via.refl o_p0_8 2 rfl rfl z_d16_122 125 rfl ?_
  refine z_callFp C o_p4_8.1 (z_c15_20 l hw S zz8 old8 p4 p7 o_p4_8) (z_w hw 107 rfl) (z_w hw 108 rfl) (z_w hw 109 rfl) (z_w hw 110 rfl) (z_w hw 111 rfl) (z_w hw 112 rfl) (z_w hw 113 rfl) (z_w hw 79 rfl) (z_w hw 11 rfl) (z_w hw 114 rfl) (by decide) z_d16_125 rfl (argsL := []) (rest := [(.int y2)]) rfl (lenOf z_pd8 rfl) (W := 1) (Nat.le_of_eq rfl) (by decide) (by decide) (by decide) (by decide) (by decide) (by decide) 130 rfl ?_
  refine z_ineg C (z := (-3 : Int32)) z_d16_130 (by decide) 131 rfl ?_
  refine z_icmpY C z_d16_131 (flt rq22).2.1 (by decide) 149 (by decide) ?_
  refine z_cut (fJ := mkF m 168 #[.val (.ref p0), .val (.ref p1), .val (.ref b4), .val (.int 2), .val (.int 0), .val (.ref p1), .val (.int 3), .val (.int 2), .val (.int y2), .val (.int (z_ix y1))] [(.int (z_ix y2))]) (fun K => ?_) ?_
  · refine z_iload C z_d16_149 rfl 151 rfl ?_
    by_cases hc151 : (0 : Int32) < y2
    · refine z_ifN C z_d16_151 ((if0 _ _).trans (tlt hc151).2.2.2) 154 rfl ?_
      refine z_iconst C (v := (2 : Int32)) z_d16_154 (by decide) 155 rfl ?_
      refine z_iload C z_d16_155 rfl 157 rfl ?_
      refine z_imul C z_d16_157 rfl 158 rfl ?_
      refine z_goto C z_d16_158 (by decide) 168 (by decide) ?_
      exact z_castI (if_pos hc151) K
    · refine z_ifY C z_d16_151 ((if0 _ _).trans (flt hc151).2.2.2) (by decide) 161 (by decide) ?_
      refine z_bipush C (v := (-2 : Int32)) z_d16_161 (by decide) 163 rfl ?_
      refine z_iload C z_d16_163 rfl 165 rfl ?_
      refine z_imul C z_d16_165 rfl 166 rfl ?_
      refine z_iconst C (v := (1 : Int32)) z_d16_166 (by decide) 167 rfl ?_
      refine z_iadd C z_d16_167 rfl 168 rfl ?_
      exact z_castI (if_neg hc151) K
  refine z_istore C (Ls' := #[.val (.ref p0), .val (.ref p1), .val (.ref b4), .val (.int 2), .val (.int 0), .val (.ref p1), .val (.int 3), .val (.int 2), .val (.int y2), .val (.int (z_ix y2))]) z_d16_168 rfl 170 rfl ?_
  refine z_aloadN C z_d16_170 rfl rfl 171 rfl ?_
  refine z_getO C (z_w hw 63 rfl) Via.refl o_p0_8 4 rfl rfl z_d16_171 174 rfl ?_
  refine z_iload C z_d16_174 rfl 176 rfl ?_
  refine z_laload C o_b1_0_8 rq23 rq24 z_d16_176 177 rfl ?_
  refine z_aloadN C z_d16_177 rfl rfl 178 rfl ?_
  refine z_getO C (z_w hw 133 rfl) Via.refl o_p0_8 5 rfl rfl z_d16_178 181 rfl ?_
  refine z_lcmp C z_d16_181 rfl 182 rfl ?_
  refine z_ifN C z_d16_182 ((if0 _ _).trans (feq rq25).1) 185 rfl ?_
  refine z_aloadN C z_d16_185 rfl rfl 186 rfl ?_
  refine z_getO C (z_w hw 63 rfl) Via.refl o_p0_8 4 rfl rfl z_d16_186 189 rfl ?_
  refine z_iload C z_d16_189 rfl 191 rfl ?_
  refine z_aloadN C z_d16_191 rfl rfl 192 rfl ?_
  refine z_getO C (z_w hw 133 rfl) Via.refl o_p0_8 5 rfl rfl z_d16_192 195 rfl ?_
  refine z_lastore C o_b1_0_8 rq23 rq26 (vs' := (List.set ((List.set ((List.set (([(.long (0 : Int64)), (.long (0 : Int64)), (.long (0 : Int64)), (.long (0 : Int64)), (.long (0 : Int64)), (.long (0 : Int64)), (.long (0 : Int64)), (.long (0 : Int64))] : List Value)) ((z_ix y0)).toNatClampNeg (.long (1 : Int64)))) ((z_ix y1)).toNatClampNeg (.long (1 : Int64)))) ((z_ix y2)).toNatClampNeg (.long (1 : Int64)))) rfl e_b1_0 z_d16_195 196 rfl ?_
  intro h9 W9 o_b1_0_9
  have s9 : h9.size = h8.size := W9.size
  have k9 : Keep h h9 [p0, p2] := k8.wr W9 (Or.inr q_b1_0)
  refine z_aloadN C z_d16_196 rfl rfl 197 rfl ?_
  refine z_iloadN C z_d16_197 rfl 198 rfl ?_
  refine z_iinc C (w := (3 : Int32)) (Ls' := #[.val (.ref p0), .val (.ref p1), .val (.ref b4), .val (.int 3), .val (.int 0), .val (.ref p1), .val (.int 3), .val (.int 2), .val (.int y2), .val (.int (z_ix y2))]) z_d16_198 rfl (by decide) rfl 201 rfl ?_
  refine z_iload C z_d16_201 rfl 203 rfl ?_
  have o_b4_9 := (o_b4_8.other W9 n_b4_b1_0)
  refine z_iastore C (z := y2) o_b4_9 (by decide) (of_decide_eq_true rfl) rfl (vs' := [(.int y0), (.int y1), (.int y2)]) (by rfl) e_b4 z_d16_203 204 rfl ?_
  intro h10 W10 o_b4_10
  have s10 : h10.size = h9.size := W10.size
  have k10 : Keep h h10 [p0, p2] := k9.wr W10 (Or.inr q_b4)
  refine z_iload C z_d16_204 rfl 206 rfl ?_
  refine z_aloadN C z_d16_206 rfl rfl 207 rfl ?_
  have o_p0_10 := ((o_p0_8.other W9 n_b1_0_p0.symm).other W10 n_p0_b4)
  refine z_getO C (z_w hw 63 rfl) Via.refl o_p0_10 4 rfl rfl z_d16_207 210 rfl ?_
  refine z_iload C z_d16_210 rfl 212 rfl ?_
  refine z_iconst C (v := (1 : Int32)) z_d16_212 (by decide) 213 rfl ?_
  refine z_ixor C z_d16_213 rfl 214 rfl ?_
  have o_b1_0_10 := (o_b1_0_9.other W10 n_b4_b1_0.symm)
  refine z_laload C o_b1_0_10 rq27 rq28 z_d16_214 215 rfl ?_
  refine z_aloadN C z_d16_215 rfl rfl 216 rfl ?_
  refine z_getO C (z_w hw 133 rfl) Via.refl o_p0_10 5 rfl rfl z_d16_216 219 rfl ?_
  refine z_lcmp C z_d16_219 rfl 220 rfl ?_
  refine z_ifY C z_d16_220 ((if0 _ _).trans (feq rq29).2) (by decide) 227 (by decide) ?_
  refine z_iconst C (v := (0 : Int32)) z_d16_227 (by decide) 228 rfl ?_
  refine z_ior C (z := (0 : Int32)) z_d16_228 (by decide) 229 rfl ?_
  refine z_istore C (Ls' := #[.val (.ref p0), .val (.ref p1), .val (.ref b4), .val (.int 3), .val (.int 0), .val (.ref p1), .val (.int 3), .val (.int 2), .val (.int y2), .val (.int (z_ix y2))]) z_d16_229 rfl 231 rfl ?_
  refine z_iinc C (w := (3 : Int32)) (Ls' := #[.val (.ref p0), .val (.ref p1), .val (.ref b4), .val (.int 3), .val (.int 0), .val (.ref p1), .val (.int 3), .val (.int 3), .val (.int y2), .val (.int (z_ix y2))]) z_d16_231 rfl (by decide) rfl 234 rfl ?_
  refine z_goto C z_d16_234 (by decide) 86 (by decide) ?_
  refine z_iload C z_d16_86 rfl 88 rfl ?_
  refine z_iload C z_d16_88 rfl 90 rfl ?_
  refine z_icmpY C z_d16_90 (by decide) (by decide) 237 (by decide) ?_
  refine z_iload C z_d16_237 rfl 239 rfl ?_
  refine z_ifN C z_d16_239 (by decide) 242 rfl ?_
  refine z_aloadN C z_d16_242 rfl rfl 243 rfl ?_
  refine z_getO C (z_w hw 33 rfl) Via.refl o_p0_10 0 rfl rfl z_d16_243 246 rfl ?_
  refine z_iloadN C z_d16_246 rfl 247 rfl ?_
  refine z_aloadN C z_d16_247 rfl rfl 248 rfl ?_
  refine z_arraylength C (z := (3 : Int32)) o_b4_10 (by rfl) z_d16_248 249 rfl ?_
  refine z_icmpN C z_d16_249 (by decide) 252 rfl ?_
  refine z_aloadN C z_d16_252 rfl rfl 253 rfl ?_
  refine z_goto C z_d16_253 (by decide) 261 (by decide) ?_
  have zz10 : n0 ≤ h10.size := by omega
  have n_p2_b1_0 : (p2 : Nat) ≠ b1_0 := by omega
  have n_p2_b4 : (p2 : Nat) ≠ b4 := by omega
  have o_p2_10 := ((((((((((o_p2.keep K1 nin0).other W2 (Ne.symm ne_p0_p2)).other W3 (Ne.symm ne_p0_p2)).ext E4).other W5 n_p2_b1_0).other W6 n_p2_b4).other W7 n_p2_b1_0).other W8 n_p2_b4).other W9 n_p2_b1_0).other W10 n_p2_b4)
  have old10 := ((old8.wr W9 e_b1_0).wr W10 e_b4)
  refine z_callF C o_p2_10.1 (z_c10_26 l hw S zz10 old10 y0 y1 y2 p2 b4 o_p2_10 o_b4_10 n_p2_b4 g_p2) (z_w hw 72 rfl) (z_w hw 73 rfl) (z_w hw 74 rfl) (z_w hw 75 rfl) (z_w hw 76 rfl) (z_w hw 77 rfl) (z_w hw 78 rfl) (z_w hw 79 rfl) (z_w hw 11 rfl) (z_w hw 80 rfl) (by decide) z_d16_261 rfl (argsL := [(.ref b4)]) (rest := []) rfl (lenOf z_pd7 rfl) (W := 0) (Nat.le_of_eq rfl) (by decide) (by decide) (by decide) (by decide) 266 rfl ?_
  rintro _ h11 ⟨b11_0, rfl, K11, l11_0, l11_1, o_p2_11, o_b11_0_11⟩
  have s11 : h10.size ≤ h11.size := K11.1
  have k11 : Keep h h11 [p0, p2] := k10.trans K11 (allS (Or.inl (by simp)) all0)
  refine z_pop C z_d16_266 rfl 267 rfl ?_
  have o_p0_11 := (o_p0_10.keep K11 (ninS ne_p0_p2 nin0))
  have o_b1_0_11 := (o_b1_0_10.keep K11 (ninS n_p2_b1_0.symm nin0))
  have o_b4_11 := (o_b4_10.keep K11 (ninS n_p2_b4.symm nin0))
  exact z_return C z_d16_267 (by decide) (by decide) ⟨rfl, b1_0, b4, b11_0, k11, by omega, by omega, by omega, by omega, o_p0_11, o_p2_11, o_b1_0_11, o_b4_11, o_b11_0_11⟩
set_option maxHeartbeats 2000000 in
theorem z_c11_28 (hw : z_T Z a0) (S : z_St Z a_DEF a_ONE a_NONE) (z0 : n0 ≤ h.size) (old : Old Z n0 h) (y0 : Int32) (y1 : Int32) (y2 : Int32) (p0 : Nat) (p1 : Nat) (p2 : Nat) (p3 : Nat) (o_p2 : z_Ar Z h p2 (.object "java/lang/Object") "[Ljava/lang/Object;" "java/lang/Object" [(.ref p3), .null, .null, .null, .null, .null, .null, .null, .null, .null]) (o_p1 : z_Ar Z h p1 .int "[I" "" [(.int y0), (.int y1), (.int y2)]) (o_p0 : z_Ob Z h p0 "java/util/ArrayList" z_lay1 [(.int 2), (.ref p2), (.int 1)]) (ne_p0_p2 : p0 ≠ p2) (g_p2 : n0 ≤ p2) (g_p0 : n0 ≤ p0) :
    z_Met l Z (⟨"java/util/ArrayList", "add", "(Ljava/lang/Object;[Ljava/lang/Object;I)V"⟩ : MethodName) jdk_38_method_24_code 4 none [] ({ frames := 0, cells := 0, slots := 0, locals := 0 } : Room) n0 #[(.ref p0), (.ref p1), (.ref p2), (.int 1)] h (z_nov fun h' => Keep h h' [p2, p0] ∧ z_Ar Z h' p2 (.object "java/lang/Object") "[Ljava/lang/Object;" "java/lang/Object" [(.ref p3), (.ref p1), .null, .null, .null, .null, .null, .null, .null, .null] ∧ z_Ob Z h' p0 "java/util/ArrayList" z_lay1 [(.int 2), (.ref p2), (.int 2)]) := by
  refine z_met (Ls := #[.val (.ref p0), .val (.ref p1), .val (.ref p2), .val (.int 1)]) (by first | exact plainFor_of_name (by first | (simp [plainName, overriddenIn]; done) | decide +kernel) | decide +kernel) rfl ?_
  intro p e s m below meth c C
  refine z_iloadN C z_d11_0 rfl 1 rfl ?_
  refine z_aloadN C z_d11_1 rfl rfl 2 rfl ?_
  refine z_arraylength C (z := (10 : Int32)) o_p2 (by rfl) z_d11_2 3 rfl ?_
  refine z_icmpY C z_d11_3 (by decide) (by decide) 11 (by decide) ?_
  refine z_aloadN C z_d11_11 rfl rfl 12 rfl ?_
  refine z_iloadN C z_d11_12 rfl 13 rfl ?_
  refine z_aloadN C z_d11_13 rfl rfl 14 rfl ?_
  refine z_aastore C o_p2 rfl (o_p2.sto (by decide) (Ins.of_exa o_p1.exa (z_w hw 135 rfl))) (by decide) (of_decide_eq_true rfl) (vs' := [(.ref p3), (.ref p1), .null, .null, .null, .null, .null, .null, .null, .null]) (by rfl) g_p2 z_d11_14 15 rfl ?_
  intro h1 W1 o_p2_1
  have s1 : h1.size = h.size := W1.size
  have k1 : Keep h h1 [p2, p0] := (Keep.refl h [p2, p0]).wr W1 (Or.inl (by simp))
  refine z_aloadN C z_d11_15 rfl rfl 16 rfl ?_
  refine z_iloadN C z_d11_16 rfl 17 rfl ?_
  refine z_iconst C (v := (1 : Int32)) z_d11_17 (by decide) 18 rfl ?_
  refine z_iadd C (z := (2 : Int32)) z_d11_18 (by decide) 19 rfl ?_
  have o_p0_1 := (o_p0.other W1 ne_p0_p2)
  refine z_putO C (z_w hw 83 rfl) Via.refl o_p0_1 (z_lay1_ok hw) 2 rfl (vs' := [(.int 2), (.ref p2), (.int 2)]) rfl (Or.inl (z_w hw 84 rfl)) (z_w hw 10 rfl) (ty := .int) (by decide) (by first | rfl | decide) (by first | rfl | decide) g_p0 z_d11_19 22 rfl ?_
  intro h2 W2 o_p0_2
  have s2 : h2.size = h1.size := W2.size
  have k2 : Keep h h2 [p2, p0] := k1.wr W2 (Or.inl (by simp))
  have o_p2_2 := (o_p2_1.other W2 (Ne.symm ne_p0_p2))
  exact z_return C z_d11_22 (by decide) (by decide) ⟨rfl, k2, o_p2_2, o_p0_2⟩
set_option maxHeartbeats 2000000 in
theorem z_c10_29 (hw : z_T Z a0) (S : z_St Z a_DEF a_ONE a_NONE) (z0 : n0 ≤ h.size) (old : Old Z n0 h) (y0 : Int32) (y1 : Int32) (y2 : Int32) (p0 : Nat) (p1 : Nat) (p2 : Nat) (p3 : Nat) (o_p0 : z_Ob Z h p0 "java/util/ArrayList" z_lay1 [(.int 1), (.ref p2), (.int 1)]) (o_p2 : z_Ar Z h p2 (.object "java/lang/Object") "[Ljava/lang/Object;" "java/lang/Object" [(.ref p3), .null, .null, .null, .null, .null, .null, .null, .null, .null]) (o_p1 : z_Ar Z h p1 .int "[I" "" [(.int y0), (.int y1), (.int y2)]) (ne_p0_p2 : p0 ≠ p2) (ne_p0_p1 : p0 ≠ p1) (g_p0 : n0 ≤ p0) (g_p2 : n0 ≤ p2) :
    z_Met l Z (⟨"java/util/ArrayList", "add", "(Ljava/lang/Object;)Z"⟩ : MethodName) jdk_38_method_25_code 2 (some .boolean) [] ({ frames := 1, cells := 0, slots := 0, locals := 15 } : Room) n0 #[(.ref p0), (.ref p1)] h (z_val fun w h' => w = (.int 1) ∧ Keep h h' [p0, p2] ∧ z_Ob Z h' p0 "java/util/ArrayList" z_lay1 [(.int 2), (.ref p2), (.int 2)] ∧ z_Ar Z h' p2 (.object "java/lang/Object") "[Ljava/lang/Object;" "java/lang/Object" [(.ref p3), (.ref p1), .null, .null, .null, .null, .null, .null, .null, .null]) := by
  refine z_met (Ls := #[.val (.ref p0), .val (.ref p1)]) (by first | exact plainFor_of_name (by first | (simp [plainName, overriddenIn]; done) | decide +kernel) | decide +kernel) rfl ?_
  intro p e s m below meth c C
  refine z_aloadN C z_d10_0 rfl rfl 1 rfl ?_
  refine z_dup C z_d10_1 rfl 2 rfl ?_
  refine z_getO C (z_w hw 81 rfl) (Via.of (z_w hw 82 rfl)) o_p0 0 rfl rfl z_d10_2 5 rfl ?_
  refine z_iconst C (v := (1 : Int32)) z_d10_5 (by decide) 6 rfl ?_
  refine z_iadd C (z := (2 : Int32)) z_d10_6 (by decide) 7 rfl ?_
  refine z_putO C (z_w hw 81 rfl) (Via.of (z_w hw 82 rfl)) o_p0 (z_lay1_ok hw) 0 rfl (vs' := [(.int 2), (.ref p2), (.int 1)]) rfl (Or.inl (z_w hw 29 rfl)) (z_w hw 10 rfl) (ty := .int) (by decide) (by first | rfl | decide) (by first | rfl | decide) g_p0 z_d10_7 10 rfl ?_
  intro h1 W1 o_p0_1
  have s1 : h1.size = h.size := W1.size
  have k1 : Keep h h1 [p0, p2] := (Keep.refl h [p0, p2]).wr W1 (Or.inl (by simp))
  refine z_aloadN C z_d10_10 rfl rfl 11 rfl ?_
  refine z_aloadN C z_d10_11 rfl rfl 12 rfl ?_
  refine z_aloadN C z_d10_12 rfl rfl 13 rfl ?_
  refine z_getO C (z_w hw 31 rfl) Via.refl o_p0_1 1 rfl rfl z_d10_13 16 rfl ?_
  refine z_aloadN C z_d10_16 rfl rfl 17 rfl ?_
  refine z_getO C (z_w hw 83 rfl) Via.refl o_p0_1 2 rfl rfl z_d10_17 20 rfl ?_
  have zz1 : n0 ≤ h1.size := by omega
  have o_p2_1 := (o_p2.other W1 (Ne.symm ne_p0_p2))
  have o_p1_1 := (o_p1.other W1 (Ne.symm ne_p0_p1))
  have old1 := (old.wr W1 g_p0)
  refine z_callPV C o_p0_1.1 (z_c11_28 l hw S zz1 old1 y0 y1 y2 p0 p1 p2 p3 o_p2_1 o_p1_1 o_p0_1 ne_p0_p2 g_p2 g_p0) (z_w hw 85 rfl) (z_w hw 86 rfl) (z_w hw 88 rfl) (z_w hw 87 rfl) (z_w hw 11 rfl) (z_w hw 89 rfl) (by decide) z_d10_20 rfl (argsL := [(.ref p1), (.ref p2), (.int 1)]) (rest := []) rfl (lenOf z_pd6 rfl) (W := 0) (Nat.le_of_eq rfl) (by decide) (by decide) (by decide) (by decide) 23 rfl ?_
  rintro h2 ⟨K2, o_p2_2, o_p0_2⟩
  have s2 : h1.size ≤ h2.size := K2.1
  have k2 : Keep h h2 [p0, p2] := k1.trans K2 (allS (Or.inl (by simp)) (allS (Or.inl (by simp)) all0))
  refine z_iconst C (v := (1 : Int32)) z_d10_23 (by decide) 24 rfl ?_
  exact z_ireturn C (by simp) rfl z_d10_24 (by decide) (by decide) ⟨_, rfl, rfl, k2, o_p0_2, o_p2_2⟩
set_option maxHeartbeats 2000000 in
theorem z_c16_30 (hw : z_T Z a0) (S : z_St Z a_DEF a_ONE a_NONE) (z0 : n0 ≤ h.size) (old : Old Z n0 h) (y0 : Int32) (y1 : Int32) (y2 : Int32) (va0 : List Value) (p0 : Nat) (p1 : Nat) (p2 : Nat) (p3 : Nat) (p4 : Nat) (p5 : Nat) (p6 : Nat) (p7 : Nat) (p8 : Nat) (p9 : Nat) (o_p0 : z_Ob Z h p0 "com/example/variegate/variegate/service/Cnf" z_lay0 [(.ref p2), (.ref p3), (.ref p4), (.ref p5), (.ref p6), (.long (1 : Int64))]) (o_p6 : z_Ar Z h p6 .long "[J" "" va0) (o_p4 : z_Ob Z h p4 "java/util/ArrayList" z_lay1 [(.int 3), (.ref p7), (.int 3)]) (o_p1 : z_Ar Z h p1 .int "[I" "" [(.int y0), (.int y1), (.int y2)]) (o_p2 : z_Ob Z h p2 "java/util/ArrayList" z_lay1 [(.int 1), (.ref p8), (.int 1)]) (o_p8 : z_Ar Z h p8 (.object "java/lang/Object") "[Ljava/lang/Object;" "java/lang/Object" [(.ref p9), .null, .null, .null, .null, .null, .null, .null, .null, .null]) (ne_p0_p1 : p0 ≠ p1) (ne_p0_p4 : p0 ≠ p4) (ne_p0_p6 : p0 ≠ p6) (ne_p1_p6 : p1 ≠ p6) (ne_p4_p6 : p4 ≠ p6) (ne_p0_p2 : p0 ≠ p2) (ne_p2_p6 : p2 ≠ p6) (ne_p0_p8 : p0 ≠ p8) (ne_p6_p8 : p6 ≠ p8) (ne_p2_p8 : p2 ≠ p8) (g_p0 : n0 ≤ p0) (g_p6 : n0 ≤ p6) (g_p2 : n0 ≤ p2) (g_p8 : n0 ≤ p8) (rq0 : (va0).length = 8) (rq1 : ¬ y0 = (0 : Int32)) (rq2 : ¬ (3 : Int32) < y0) (rq3 : ¬ y0 < (-3 : Int32)) (rq4 : ¬ (z_ix y0) < 0) (rq5 : (va0)[((z_ix y0)).toNatClampNeg]? = some (.long (z_gL va0 ((z_ix y0)).toNatClampNeg))) (rq6 : ¬ (lcmpW (z_gL va0 ((z_ix y0)).toNatClampNeg) (2 : Int64)) = (0 : Int32)) (rq7 : ((z_ix y0)).toNatClampNeg < (va0).length) (rq8 : ¬ ((z_ix y0) ^^^ (1 : Int32)) < 0) (rq9 : ((List.set (va0) ((z_ix y0)).toNatClampNeg (.long (2 : Int64))))[(((z_ix y0) ^^^ (1 : Int32))).toNatClampNeg]? = some (.long (z_gL (List.set (va0) ((z_ix y0)).toNatClampNeg (.long (2 : Int64))) (((z_ix y0) ^^^ (1 : Int32))).toNatClampNeg))) (rq10 : ¬ (lcmpW (z_gL (List.set (va0) ((z_ix y0)).toNatClampNeg (.long (2 : Int64))) (((z_ix y0) ^^^ (1 : Int32))).toNatClampNeg) (2 : Int64)) = (0 : Int32)) (rq11 : ¬ y1 = (0 : Int32)) (rq12 : ¬ (3 : Int32) < y1) (rq13 : ¬ y1 < (-3 : Int32)) (rq14 : ¬ (z_ix y1) < 0) (rq15 : ((List.set (va0) ((z_ix y0)).toNatClampNeg (.long (2 : Int64))))[((z_ix y1)).toNatClampNeg]? = some (.long (z_gL (List.set (va0) ((z_ix y0)).toNatClampNeg (.long (2 : Int64))) ((z_ix y1)).toNatClampNeg))) (rq16 : ¬ (lcmpW (z_gL (List.set (va0) ((z_ix y0)).toNatClampNeg (.long (2 : Int64))) ((z_ix y1)).toNatClampNeg) (2 : Int64)) = (0 : Int32)) (rq17 : ((z_ix y1)).toNatClampNeg < ((List.set (va0) ((z_ix y0)).toNatClampNeg (.long (2 : Int64)))).length) (rq18 : ¬ ((z_ix y1) ^^^ (1 : Int32)) < 0) (rq19 : ((List.set ((List.set (va0) ((z_ix y0)).toNatClampNeg (.long (2 : Int64)))) ((z_ix y1)).toNatClampNeg (.long (2 : Int64))))[(((z_ix y1) ^^^ (1 : Int32))).toNatClampNeg]? = some (.long (z_gL (List.set ((List.set (va0) ((z_ix y0)).toNatClampNeg (.long (2 : Int64)))) ((z_ix y1)).toNatClampNeg (.long (2 : Int64))) (((z_ix y1) ^^^ (1 : Int32))).toNatClampNeg))) (rq20 : ¬ (lcmpW (z_gL (List.set ((List.set (va0) ((z_ix y0)).toNatClampNeg (.long (2 : Int64)))) ((z_ix y1)).toNatClampNeg (.long (2 : Int64))) (((z_ix y1) ^^^ (1 : Int32))).toNatClampNeg) (2 : Int64)) = (0 : Int32)) (rq21 : ¬ y2 = (0 : Int32)) (rq22 : ¬ (3 : Int32) < y2) (rq23 : ¬ y2 < (-3 : Int32)) (rq24 : ¬ (z_ix y2) < 0) (rq25 : ((List.set ((List.set (va0) ((z_ix y0)).toNatClampNeg (.long (2 : Int64)))) ((z_ix y1)).toNatClampNeg (.long (2 : Int64))))[((z_ix y2)).toNatClampNeg]? = some (.long (z_gL (List.set ((List.set (va0) ((z_ix y0)).toNatClampNeg (.long (2 : Int64)))) ((z_ix y1)).toNatClampNeg (.long (2 : Int64))) ((z_ix y2)).toNatClampNeg))) (rq26 : ¬ (lcmpW (z_gL (List.set ((List.set (va0) ((z_ix y0)).toNatClampNeg (.long (2 : Int64)))) ((z_ix y1)).toNatClampNeg (.long (2 : Int64))) ((z_ix y2)).toNatClampNeg) (2 : Int64)) = (0 : Int32)) (rq27 : ((z_ix y2)).toNatClampNeg < ((List.set ((List.set (va0) ((z_ix y0)).toNatClampNeg (.long (2 : Int64)))) ((z_ix y1)).toNatClampNeg (.long (2 : Int64)))).length) (rq28 : ¬ ((z_ix y2) ^^^ (1 : Int32)) < 0) (rq29 : ((List.set ((List.set ((List.set (va0) ((z_ix y0)).toNatClampNeg (.long (2 : Int64)))) ((z_ix y1)).toNatClampNeg (.long (2 : Int64)))) ((z_ix y2)).toNatClampNeg (.long (2 : Int64))))[(((z_ix y2) ^^^ (1 : Int32))).toNatClampNeg]? = some (.long (z_gL (List.set ((List.set ((List.set (va0) ((z_ix y0)).toNatClampNeg (.long (2 : Int64)))) ((z_ix y1)).toNatClampNeg (.long (2 : Int64)))) ((z_ix y2)).toNatClampNeg (.long (2 : Int64))) (((z_ix y2) ^^^ (1 : Int32))).toNatClampNeg))) (rq30 : ¬ (lcmpW (z_gL (List.set ((List.set ((List.set (va0) ((z_ix y0)).toNatClampNeg (.long (2 : Int64)))) ((z_ix y1)).toNatClampNeg (.long (2 : Int64)))) ((z_ix y2)).toNatClampNeg (.long (2 : Int64))) (((z_ix y2) ^^^ (1 : Int32))).toNatClampNeg) (2 : Int64)) = (0 : Int32)) :
    z_Met l Z (⟨"com/example/variegate/variegate/service/Cnf", "addClause", "([I)V"⟩ : MethodName) prog_73_method_3_code 10 none [] ({ frames := 2, cells := 1, slots := 3, locals := 28 } : Room) n0 #[(.ref p0), (.ref p1)] h (z_nov fun h' => ∃ b2 : Nat, Keep h h' [p0, p6, p8, p2] ∧ h.size ≤ b2 ∧ b2 < h'.size ∧ z_Ob Z h' p0 "com/example/variegate/variegate/service/Cnf" z_lay0 [(.ref p2), (.ref p3), (.ref p4), (.ref p5), (.ref p6), (.long (2 : Int64))] ∧ z_Ar Z h' p6 .long "[J" "" (List.set ((List.set ((List.set (va0) ((z_ix y0)).toNatClampNeg (.long (2 : Int64)))) ((z_ix y1)).toNatClampNeg (.long (2 : Int64)))) ((z_ix y2)).toNatClampNeg (.long (2 : Int64))) ∧ z_Ob Z h' p2 "java/util/ArrayList" z_lay1 [(.int 2), (.ref p8), (.int 2)] ∧ z_Ar Z h' p8 (.object "java/lang/Object") "[Ljava/lang/Object;" "java/lang/Object" [(.ref p9), (.ref b2), .null, .null, .null, .null, .null, .null, .null, .null] ∧ z_Ar Z h' b2 .int "[I" "" [(.int y0), (.int y1), (.int y2)]) := by
  have lt_p0 := o_p0.lt
  have lt_p6 := o_p6.lt
  have lt_p4 := o_p4.lt
  have lt_p1 := o_p1.lt
  have lt_p2 := o_p2.lt
  have lt_p8 := o_p8.lt
  refine z_met (Ls := #[.val (.ref p0), .val (.ref p1), .unset, .unset, .unset, .unset, .unset, .unset, .unset, .unset]) (by first | exact plainFor_of_name (by first | (simp [plainName, overriddenIn]; done) | decide +kernel) | decide +kernel) rfl ?_
  intro p e s m below meth c C
  refine z_aloadN C z_d16_0 rfl rfl 1 rfl ?_
  refine z_getO C (z_w hw 63 rfl) Via.refl o_p0 4 rfl rfl z_d16_1 4 rfl ?_
  refine z_arraylength C (z := (8 : Int32)) o_p6 (by rw [rq0]; rfl) z_d16_4 5 rfl ?_
  refine z_iconst C (v := (2 : Int32)) z_d16_5 (by decide) 6 rfl ?_
  refine z_aloadN C z_d16_6 rfl rfl 7 rfl ?_
  refine z_getO C (z_w hw 59 rfl) Via.refl o_p0 2 rfl rfl z_d16_7 10 rfl ?_
  refine z_callFp C o_p4.1 (z_c15_20 l hw S z0 old p4 p7 o_p4) (z_w hw 107 rfl) (z_w hw 108 rfl) (z_w hw 109 rfl) (z_w hw 110 rfl) (z_w hw 111 rfl) (z_w hw 112 rfl) (z_w hw 113 rfl) (z_w hw 79 rfl) (z_w hw 11 rfl) (z_w hw 114 rfl) (by decide) z_d16_10 rfl (argsL := []) (rest := [(.int 2), (.int 8)]) rfl (lenOf z_pd8 rfl) (W := 2) (Nat.le_of_eq rfl) (by decide) (by decide) (by decide) (by decide) (by decide) (by decide) 15 rfl ?_
  refine z_imul C (z := (6 : Int32)) z_d16_15 (by decide) 16 rfl ?_
  refine z_iconst C (v := (2 : Int32)) z_d16_16 (by decide) 17 rfl ?_
  refine z_iadd C (z := (8 : Int32)) z_d16_17 (by decide) 18 rfl ?_
  refine z_icmpY C z_d16_18 (by decide) (by decide) 55 (by decide) ?_
  refine z_aloadN C z_d16_55 rfl rfl 56 rfl ?_
  refine z_dup C z_d16_56 rfl 57 rfl ?_
  refine z_getO C (z_w hw 133 rfl) Via.refl o_p0 5 rfl rfl z_d16_57 60 rfl ?_
  refine z_lconst C (v := 1) z_d16_60 (by decide) 61 rfl ?_
  refine z_ladd C (z := 2) z_d16_61 (by decide) 62 rfl ?_
  refine z_putO C (z_w hw 133 rfl) Via.refl o_p0 (z_lay0_ok hw) 5 rfl (vs' := [(.ref p2), (.ref p3), (.ref p4), (.ref p5), (.ref p6), (.long (2 : Int64))]) rfl (Or.inl (z_w hw 134 rfl)) (z_w hw 1 rfl) (ty := .long) (by decide) (by first | rfl | decide) (by first | rfl | decide) g_p0 z_d16_62 65 rfl ?_
  intro h1 W1 o_p0_1
  have s1 : h1.size = h.size := W1.size
  have k1 : Keep h h1 [p0, p6, p8, p2] := (Keep.refl h [p0, p6, p8, p2]).wr W1 (Or.inl (by simp))
  refine z_aloadN C z_d16_65 rfl rfl 66 rfl ?_
  have o_p1_1 := (o_p1.other W1 (Ne.symm ne_p0_p1))
  refine z_arraylength C (z := (3 : Int32)) o_p1_1 (by rfl) z_d16_66 67 rfl ?_
  refine z_newarray C (aty := .int) (z_w hw 115 rfl) (by decide) (cap := 3) (by decide) (by decide) (ad := "[I") (by decide +kernel) (vs := [(.int 0), (.int 0), (.int 0)]) (by rfl) z_d16_67 (by decide) (by decide) 69 rfl ?_
  intro h2 b2 g2 E2 o_b2
  have s2 : h1.size ≤ h2.size := E2.1
  have k2 : Keep h h2 [p0, p6, p8, p2] := k1.ext E2
  have o_b2 : z_Ar Z h2 b2 .int "[I" "" [(.int 0), (.int 0), (.int 0)] := o_b2
  have t2 := o_b2.lt
  refine z_astoreN C (Ls' := #[.val (.ref p0), .val (.ref p1), .val (.ref b2), .unset, .unset, .unset, .unset, .unset, .unset, .unset]) z_d16_69 rfl rfl 70 rfl ?_
  refine z_iconst C (v := (0 : Int32)) z_d16_70 (by decide) 71 rfl ?_
  refine z_istoreN C (Ls' := #[.val (.ref p0), .val (.ref p1), .val (.ref b2), .val (.int 0), .unset, .unset, .unset, .unset, .unset, .unset]) z_d16_71 rfl 72 rfl ?_
  refine z_iconst C (v := (0 : Int32)) z_d16_72 (by decide) 73 rfl ?_
  refine z_istore C (Ls' := #[.val (.ref p0), .val (.ref p1), .val (.ref b2), .val (.int 0), .val (.int 0), .unset, .unset, .unset, .unset, .unset]) z_d16_73 rfl 75 rfl ?_
  refine z_aloadN C z_d16_75 rfl rfl 76 rfl ?_
  refine z_astore C (Ls' := #[.val (.ref p0), .val (.ref p1), .val (.ref b2), .val (.int 0), .val (.int 0), .val (.ref p1), .unset, .unset, .unset, .unset]) z_d16_76 rfl rfl 78 rfl ?_
  refine z_aload C z_d16_78 rfl rfl 80 rfl ?_
  have o_p1_2 := (o_p1_1.ext E2)
  refine z_arraylength C (z := (3 : Int32)) o_p1_2 (by rfl) z_d16_80 81 rfl ?_
  refine z_istore C (Ls' := #[.val (.ref p0), .val (.ref p1), .val (.ref b2), .val (.int 0), .val (.int 0), .val (.ref p1), .val (.int 3), .unset, .unset, .unset]) z_d16_81 rfl 83 rfl ?_
  refine z_iconst C (v := (0 : Int32)) z_d16_83 (by decide) 84 rfl ?_
  refine z_istore C (Ls' := #[.val (.ref p0), .val (.ref p1), .val (.ref b2), .val (.int 0), .val (.int 0), .val (.ref p1), .val (.int 3), .val (.int 0), .unset, .unset]) z_d16_84 rfl 86 rfl ?_
  refine z_iload C z_d16_86 rfl 88 rfl ?_
  refine z_iload C z_d16_88 rfl 90 rfl ?_
  refine z_icmpN C z_d16_90 (by decide) 93 rfl ?_
  refine z_aload C z_d16_93 rfl rfl 95 rfl ?_
  refine z_iload C z_d16_95 rfl 97 rfl ?_
  refine z_iaload C o_p1_2 (by decide) (v := (.int y0)) (by rfl) z_d16_97 98 rfl ?_
  refine z_istore C (Ls' := #[.val (.ref p0), .val (.ref p1), .val (.ref b2), .val (.int 0), .val (.int 0), .val (.ref p1), .val (.int 3), .val (.int 0), .val (.int y0), .unset]) z_d16_98 rfl 100 rfl ?_
  refine z_iload C z_d16_100 rfl 102 rfl ?_
  refine z_ifN C z_d16_102 ((if0 _ _).trans (feq rq1).1) 105 rfl ?_
  refine z_iload C z_d16_105 rfl 107 rfl ?_
  refine z_aloadN C z_d16_107 rfl rfl 108 rfl ?_
  have o_p0_2 := (o_p0_1.ext E2)
  refine z_getO C (z_w hw 59 rfl) Via.refl o_p0_2 2 rfl rfl z_d16_108 111 rfl ?_
  have zz2 : n0 ≤ h2.size := by omega
  have o_p4_2 := ((o_p4.other W1 (Ne.symm ne_p0_p4)).ext E2)
  have old2 := ((old.wr W1 g_p0).ext E2)
  refine z_callFp C o_p4_2.1 (z_c15_20 l hw S zz2 old2 p4 p7 o_p4_2) (z_w hw 107 rfl) (z_w hw 108 rfl) (z_w hw 109 rfl) (z_w hw 110 rfl) (z_w hw 111 rfl) (z_w hw 112 rfl) (z_w hw 113 rfl) (z_w hw 79 rfl) (z_w hw 11 rfl) (z_w hw 114 rfl) (by decide) z_d16_111 rfl (argsL := []) (rest := [(.int y0)]) rfl (lenOf z_pd8 rfl) (W := 1) (Nat.le_of_eq rfl) (by decide) (by decide) (by decide) (by decide) (by decide) (by decide) 116 rfl ?_
  refine z_icmpN C z_d16_116 (flt rq2).2.2.1 119 rfl ?_
  refine z_iload C z_d16_119 rfl 121 rfl ?_
  refine z_aloadN C z_d16_121 rfl rfl 122 rfl ?_
  refine z_getO C (z_w hw 59 rfl) Via.refl o_p0_2 2 rfl rfl z_d16_122 125 rfl ?_
  refine z_callFp C o_p4_2.1 (z_c15_20 l hw S zz2 old2 p4 p7 o_p4_2) (z_w hw 107 rfl) (z_w hw 108 rfl) (z_w hw 109 rfl) (z_w hw 110 rfl) (z_w hw 111 rfl) (z_w hw 112 rfl) (z_w hw 113 rfl) (z_w hw 79 rfl) (z_w hw 11 rfl) (z_w hw 114 rfl) (by decide) z_d16_125 rfl (argsL := []) (rest := [(.int y0)]) rfl (lenOf z_pd8 rfl) (W := 1) (Nat.le_of_eq rfl) (by decide) (by decide) (by decide) (by decide) (by decide) (by decide) 130 rfl ?_
  refine z_ineg C (z := (-3 : Int32)) z_d16_130 (by decide) 131 rfl ?_
  refine z_icmpY C z_d16_131 (flt rq3).2.1 (by decide) 149 (by decide) ?_
  refine z_cut (fJ := mkF m 168 #[.val (.ref p0), .val (.ref p1), .val (.ref b2), .val (.int 0), .val (.int 0), .val (.ref p1), .val (.int 3), .val (.int 0), .val (.int y0), .unset] [(.int (z_ix y0))]) (fun K => ?_) ?_
  · refine z_iload C z_d16_149 rfl 151 rfl ?_
    by_cases hc151 : (0 : Int32) < y0
    · refine z_ifN C z_d16_151 ((if0 _ _).trans (tlt hc151).2.2.2) 154 rfl ?_
      refine z_iconst C (v := (2 : Int32)) z_d16_154 (by decide) 155 rfl ?_
      refine z_iload C z_d16_155 rfl 157 rfl ?_
      refine z_imul C z_d16_157 rfl 158 rfl ?_
      refine z_goto C z_d16_158 (by decide) 168 (by decide) ?_
      exact z_castI (if_pos hc151) K
    · refine z_ifY C z_d16_151 ((if0 _ _).trans (flt hc151).2.2.2) (by decide) 161 (by decide) ?_
      refine z_bipush C (v := (-2 : Int32)) z_d16_161 (by decide) 163 rfl ?_
      refine z_iload C z_d16_163 rfl 165 rfl ?_
      refine z_imul C z_d16_165 rfl 166 rfl ?_
      refine z_iconst C (v := (1 : Int32)) z_d16_166 (by decide) 167 rfl ?_
      refine z_iadd C z_d16_167 rfl 168 rfl ?_
      exact z_castI (if_neg hc151) K
  refine z_istore C (Ls' := #[.val (.ref p0), .val (.ref p1), .val (.ref b2), .val (.int 0), .val (.int 0), .val (.ref p1), .val (.int 3), .val (.int 0), .val (.int y0), .val (.int (z_ix y0))]) z_d16_168 rfl 170 rfl ?_
  refine z_aloadN C z_d16_170 rfl rfl 171 rfl ?_
  refine z_getO C (z_w hw 63 rfl) Via.refl o_p0_2 4 rfl rfl z_d16_171 174 rfl ?_
  refine z_iload C z_d16_174 rfl 176 rfl ?_
  have o_p6_2 := ((o_p6.other W1 (Ne.symm ne_p0_p6)).ext E2)
  refine z_laload C o_p6_2 rq4 rq5 z_d16_176 177 rfl ?_
  refine z_aloadN C z_d16_177 rfl rfl 178 rfl ?_
  refine z_getO C (z_w hw 133 rfl) Via.refl o_p0_2 5 rfl rfl z_d16_178 181 rfl ?_
  refine z_lcmp C z_d16_181 rfl 182 rfl ?_
  refine z_ifN C z_d16_182 ((if0 _ _).trans (feq rq6).1) 185 rfl ?_
  refine z_aloadN C z_d16_185 rfl rfl 186 rfl ?_
  refine z_getO C (z_w hw 63 rfl) Via.refl o_p0_2 4 rfl rfl z_d16_186 189 rfl ?_
  refine z_iload C z_d16_189 rfl 191 rfl ?_
  refine z_aloadN C z_d16_191 rfl rfl 192 rfl ?_
  refine z_getO C (z_w hw 133 rfl) Via.refl o_p0_2 5 rfl rfl z_d16_192 195 rfl ?_
  refine z_lastore C o_p6_2 rq4 rq7 (vs' := (List.set (va0) ((z_ix y0)).toNatClampNeg (.long (2 : Int64)))) rfl g_p6 z_d16_195 196 rfl ?_
  intro h3 W3 o_p6_3
  have s3 : h3.size = h2.size := W3.size
  have k3 : Keep h h3 [p0, p6, p8, p2] := k2.wr W3 (Or.inl (by simp))
  refine z_aloadN C z_d16_196 rfl rfl 197 rfl ?_
  refine z_iloadN C z_d16_197 rfl 198 rfl ?_
  refine z_iinc C (w := (1 : Int32)) (Ls' := #[.val (.ref p0), .val (.ref p1), .val (.ref b2), .val (.int 1), .val (.int 0), .val (.ref p1), .val (.int 3), .val (.int 0), .val (.int y0), .val (.int (z_ix y0))]) z_d16_198 rfl (by decide) rfl 201 rfl ?_
  refine z_iload C z_d16_201 rfl 203 rfl ?_
  have n_b2_p6 : (b2 : Nat) ≠ p6 := by omega
  have o_b2_3 := (o_b2.other W3 n_b2_p6)
  have e_b2 : n0 ≤ (b2 : Nat) := by omega
  refine z_iastore C (z := y0) o_b2_3 (by decide) (of_decide_eq_true rfl) rfl (vs' := [(.int y0), (.int 0), (.int 0)]) (by rfl) e_b2 z_d16_203 204 rfl ?_
  intro h4 W4 o_b2_4
  have s4 : h4.size = h3.size := W4.size
  have q_b2 : h.size ≤ (b2 : Nat) := by omega
  have k4 : Keep h h4 [p0, p6, p8, p2] := k3.wr W4 (Or.inr q_b2)
  refine z_iload C z_d16_204 rfl 206 rfl ?_
  refine z_aloadN C z_d16_206 rfl rfl 207 rfl ?_
  have n_p0_b2 : (p0 : Nat) ≠ b2 := by omega
  have o_p0_4 := ((o_p0_2.other W3 ne_p0_p6).other W4 n_p0_b2)
  refine z_getO C (z_w hw 63 rfl) Via.refl o_p0_4 4 rfl rfl z_d16_207 210 rfl ?_
  refine z_iload C z_d16_210 rfl 212 rfl ?_
  refine z_iconst C (v := (1 : Int32)) z_d16_212 (by decide) 213 rfl ?_
  refine z_ixor C z_d16_213 rfl 214 rfl ?_
  have o_p6_4 := (o_p6_3.other W4 n_b2_p6.symm)
  refine z_laload C o_p6_4 rq8 rq9 z_d16_214 215 rfl ?_
  refine z_aloadN C z_d16_215 rfl rfl 216 rfl ?_
  refine z_getO C (z_w hw 133 rfl) Via.refl o_p0_4 5 rfl rfl z_d16_216 219 rfl ?_
  refine z_lcmp C z_d16_219 rfl 220 rfl ?_
  refine z_ifY C z_d16_220 ((if0 _ _).trans (feq rq10).2) (by decide) 227 (by decide) ?_
  refine z_iconst C (v := (0 : Int32)) z_d16_227 (by decide) 228 rfl ?_
  refine z_ior C (z := (0 : Int32)) z_d16_228 (by decide) 229 rfl ?_
  refine z_istore C (Ls' := #[.val (.ref p0), .val (.ref p1), .val (.ref b2), .val (.int 1), .val (.int 0), .val (.ref p1), .val (.int 3), .val (.int 0), .val (.int y0), .val (.int (z_ix y0))]) z_d16_229 rfl 231 rfl ?_
  refine z_iinc C (w := (1 : Int32)) (Ls' := #[.val (.ref p0), .val (.ref p1), .val (.ref b2), .val (.int 1), .val (.int 0), .val (.ref p1), .val (.int 3), .val (.int 1), .val (.int y0), .val (.int (z_ix y0))]) z_d16_231 rfl (by decide) rfl 234 rfl ?_
  refine z_goto C z_d16_234 (by decide) 86 (by decide) ?_
  refine z_iload C z_d16_86 rfl 88 rfl ?_
  refine z_iload C z_d16_88 rfl 90 rfl ?_
  refine z_icmpN C z_d16_90 (by decide) 93 rfl ?_
  refine z_aload C z_d16_93 rfl rfl 95 rfl ?_
  refine z_iload C z_d16_95 rfl 97 rfl ?_
  have n_p1_b2 : (p1 : Nat) ≠ b2 := by omega
  have o_p1_4 := ((o_p1_2.other W3 ne_p1_p6).other W4 n_p1_b2)
  refine z_iaload C o_p1_4 (by decide) (v := (.int y1)) (by rfl) z_d16_97 98 rfl ?_
  refine z_istore C (Ls' := #[.val (.ref p0), .val (.ref p1), .val (.ref b2), .val (.int 1), .val (.int 0), .val (.ref p1), .val (.int 3), .val (.int 1), .val (.int y1), .val (.int (z_ix y0))]) z_d16_98 rfl 100 rfl ?_
  refine z_iload C z_d16_100 rfl 102 rfl ?_
  refine z_ifN C z_d16_102 ((if0 _ _).trans (feq rq11).1) 105 rfl ?_
  refine z_iload C z_d16_105 rfl 107 rfl ?_
  refine z_aloadN C z_d16_107 rfl rfl 108 rfl ?_
  refine z_getO C (z_w hw 59 rfl) Via.refl o_p0_4 2 rfl rfl z_d16_108 111 rfl ?_
  have zz4 : n0 ≤ h4.size := by omega
  have n_p4_b2 : (p4 : Nat) ≠ b2 := by omega
  have o_p4_4 := ((o_p4_2.other W3 ne_p4_p6).other W4 n_p4_b2)
  have old4 := ((old2.wr W3 g_p6).wr W4 e_b2)
  refine z_callFp C o_p4_4.1 (z_c15_20 l hw S zz4 old4 p4 p7 o_p4_4) (z_w hw 107 rfl) (z_w hw 108 rfl) (z_w hw 109 rfl) (z_w hw 110 rfl) (z_w hw 111 rfl) (z_w hw 112 rfl) (z_w hw 113 rfl) (z_w hw 79 rfl) (z_w hw 11 rfl) (z_w hw 114 rfl) (by decide) z_d16_111 rfl (argsL := []) (rest := [(.int y1)]) rfl (lenOf z_pd8 rfl) (W := 1) (Nat.le_of_eq rfl) (by decide) (by decide) (by decide) (by decide) (by decide) (by decide) 116 rfl ?_
  refine z_icmpN C z_d16_116 (flt rq12).2.2.1 119 rfl ?_
  refine z_iload C z_d16_119 rfl 121 rfl ?_
  refine z_aloadN C z_d16_121 rfl rfl 122 rfl ?_
  refine z_getO C (z_w hw 59 rfl) Via.refl o_p0_4 2 rfl rfl z_d16_122 125 rfl ?_
  refine z_callFp C o_p4_4.1 (z_c15_20 l hw S zz4 old4 p4 p7 o_p4_4) (z_w hw 107 rfl) (z_w hw 108 rfl) (z_w hw 109 rfl) (z_w hw 110 rfl) (z_w hw 111 rfl) (z_w hw 112 rfl) (z_w hw 113 rfl) (z_w hw 79 rfl) (z_w hw 11 rfl) (z_w hw 114 rfl) (by decide) z_d16_125 rfl (argsL := []) (rest := [(.int y1)]) rfl (lenOf z_pd8 rfl) (W := 1) (Nat.le_of_eq rfl) (by decide) (by decide) (by decide) (by decide) (by decide) (by decide) 130 rfl ?_
  refine z_ineg C (z := (-3 : Int32)) z_d16_130 (by decide) 131 rfl ?_
  refine z_icmpY C z_d16_131 (flt rq13).2.1 (by decide) 149 (by decide) ?_
  refine z_cut (fJ := mkF m 168 #[.val (.ref p0), .val (.ref p1), .val (.ref b2), .val (.int 1), .val (.int 0), .val (.ref p1), .val (.int 3), .val (.int 1), .val (.int y1), .val (.int (z_ix y0))] [(.int (z_ix y1))]) (fun K => ?_) ?_
  · refine z_iload C z_d16_149 rfl 151 rfl ?_
    by_cases hc151 : (0 : Int32) < y1
    · refine z_ifN C z_d16_151 ((if0 _ _).trans (tlt hc151).2.2.2) 154 rfl ?_
      refine z_iconst C (v := (2 : Int32)) z_d16_154 (by decide) 155 rfl ?_
      refine z_iload C z_d16_155 rfl 157 rfl ?_
      refine z_imul C z_d16_157 rfl 158 rfl ?_
      refine z_goto C z_d16_158 (by decide) 168 (by decide) ?_
      exact z_castI (if_pos hc151) K
    · refine z_ifY C z_d16_151 ((if0 _ _).trans (flt hc151).2.2.2) (by decide) 161 (by decide) ?_
      refine z_bipush C (v := (-2 : Int32)) z_d16_161 (by decide) 163 rfl ?_
      refine z_iload C z_d16_163 rfl 165 rfl ?_
      refine z_imul C z_d16_165 rfl 166 rfl ?_
      refine z_iconst C (v := (1 : Int32)) z_d16_166 (by decide) 167 rfl ?_
      refine z_iadd C z_d16_167 rfl 168 rfl ?_
      exact z_castI (if_neg hc151) K
  refine z_istore C (Ls' := #[.val (.ref p0), .val (.ref p1), .val (.ref b2), .val (.int 1), .val (.int 0), .val (.ref p1), .val (.int 3), .val (.int 1), .val (.int y1), .val (.int (z_ix y1))]) z_d16_168 rfl 170 rfl ?_
  refine z_aloadN C z_d16_170 rfl rfl 171 rfl ?_
  refine z_getO C (z_w hw 63 rfl) Via.refl o_p0_4 4 rfl rfl z_d16_171 174 rfl ?_
  refine z_iload C z_d16_174 rfl 176 rfl ?_
  refine z_laload C o_p6_4 rq14 rq15 z_d16_176 177 rfl ?_
  refine z_aloadN C z_d16_177 rfl rfl 178 rfl ?_
  refine z_getO C (z_w hw 133 rfl) Via.refl o_p0_4 5 rfl rfl z_d16_178 181 rfl ?_
  refine z_lcmp C z_d16_181 rfl 182 rfl ?_
  refine z_ifN C z_d16_182 ((if0 _ _).trans (feq rq16).1) 185 rfl ?_
  refine z_aloadN C z_d16_185 rfl rfl 186 rfl ?_
  refine z_getO C (z_w hw 63 rfl) Via.refl o_p0_4 4 rfl rfl z_d16_186 189 rfl ?_
  refine z_iload C z_d16_189 rfl 191 rfl ?_
  refine z_aloadN C z_d16_191 rfl rfl 192 rfl ?_
  refine z_getO C (z_w hw 133 rfl) Via.refl o_p0_4 5 rfl rfl z_d16_192 195 rfl ?_
  refine z_lastore C o_p6_4 rq14 rq17 (vs' := (List.set ((List.set (va0) ((z_ix y0)).toNatClampNeg (.long (2 : Int64)))) ((z_ix y1)).toNatClampNeg (.long (2 : Int64)))) rfl g_p6 z_d16_195 196 rfl ?_
  intro h5 W5 o_p6_5
  have s5 : h5.size = h4.size := W5.size
  have k5 : Keep h h5 [p0, p6, p8, p2] := k4.wr W5 (Or.inl (by simp))
  refine z_aloadN C z_d16_196 rfl rfl 197 rfl ?_
  refine z_iloadN C z_d16_197 rfl 198 rfl ?_
  refine z_iinc C (w := (2 : Int32)) (Ls' := #[.val (.ref p0), .val (.ref p1), .val (.ref b2), .val (.int 2), .val (.int 0), .val (.ref p1), .val (.int 3), .val (.int 1), .val (.int y1), .val (.int (z_ix y1))]) z_d16_198 rfl (by decide) rfl 201 rfl ?_
  refine z_iload C z_d16_201 rfl 203 rfl ?_
  have o_b2_5 := (o_b2_4.other W5 n_b2_p6)
  refine z_iastore C (z := y1) o_b2_5 (by decide) (of_decide_eq_true rfl) rfl (vs' := [(.int y0), (.int y1), (.int 0)]) (by rfl) e_b2 z_d16_203 204 rfl ?_
  intro h6 W6 o_b2_6
  have s6 : h6.size = h5.size := W6.size
  have k6 : Keep h h6 [p0, p6, p8, p2] := k5.wr W6 (Or.inr q_b2)
  refine z_iload C z_d16_204 rfl 206 rfl ?_
  refine z_aloadN C z_d16_206 rfl rfl 207 rfl ?_
  have o_p0_6 := ((o_p0_4.other W5 ne_p0_p6).other W6 n_p0_b2)
  refine z_getO C (z_w hw 63 rfl) Via.refl o_p0_6 4 rfl rfl z_d16_207 210 rfl ?_
  refine z_iload C z_d16_210 rfl 212 rfl ?_
  refine z_iconst C (v := (1 : Int32)) z_d16_212 (by decide) 213 rfl ?_
  refine z_ixor C z_d16_213 rfl 214 rfl ?_
  have o_p6_6 := (o_p6_5.other W6 n_b2_p6.symm)
  refine z_laload C o_p6_6 rq18 rq19 z_d16_214 215 rfl ?_
  refine z_aloadN C z_d16_215 rfl rfl 216 rfl ?_
  refine z_getO C (z_w hw 133 rfl) Via.refl o_p0_6 5 rfl rfl z_d16_216 219 rfl ?_
  refine z_lcmp C z_d16_219 rfl 220 rfl ?_
  refine z_ifY C z_d16_220 ((if0 _ _).trans (feq rq20).2) (by decide) 227 (by decide) ?_
  refine z_iconst C (v := (0 : Int32)) z_d16_227 (by decide) 228 rfl ?_
  refine z_ior C (z := (0 : Int32)) z_d16_228 (by decide) 229 rfl ?_
  refine z_istore C (Ls' := #[.val (.ref p0), .val (.ref p1), .val (.ref b2), .val (.int 2), .val (.int 0), .val (.ref p1), .val (.int 3), .val (.int 1), .val (.int y1), .val (.int (z_ix y1))]) z_d16_229 rfl 231 rfl ?_
  refine z_iinc C (w := (2 : Int32)) (Ls' := #[.val (.ref p0), .val (.ref p1), .val (.ref b2), .val (.int 2), .val (.int 0), .val (.ref p1), .val (.int 3), .val (.int 2), .val (.int y1), .val (.int (z_ix y1))]) z_d16_231 rfl (by decide) rfl 234 rfl ?_
  refine z_goto C z_d16_234 (by decide) 86 (by decide) ?_
  refine z_iload C z_d16_86 rfl 88 rfl ?_
  refine z_iload C z_d16_88 rfl 90 rfl ?_
  refine z_icmpN C z_d16_90 (by decide) 93 rfl ?_
  refine z_aload C z_d16_93 rfl rfl 95 rfl ?_
  refine z_iload C z_d16_95 rfl 97 rfl ?_
  have o_p1_6 := ((o_p1_4.other W5 ne_p1_p6).other W6 n_p1_b2)
  refine z_iaload C o_p1_6 (by decide) (v := (.int y2)) (by rfl) z_d16_97 98 rfl ?_
  refine z_istore C (Ls' := #[.val (.ref p0), .val (.ref p1), .val (.ref b2), .val (.int 2), .val (.int 0), .val (.ref p1), .val (.int 3), .val (.int 2), .val (.int y2), .val (.int (z_ix y1))]) z_d16_98 rfl 100 rfl ?_
  refine z_iload C z_d16_100 rfl 102 rfl ?_
  refine z_ifN C z_d16_102 ((if0 _ _).trans (feq rq21).1) 105 rfl ?_
  refine z_iload C z_d16_105 rfl 107 rfl ?_
  refine z_aloadN C z_d16_107 rfl rfl 108 rfl ?_
  refine z_getO C (z_w hw 59 rfl) Via.refl o_p0_6 2 rfl rfl z_d16_108 111 rfl ?_
  have zz6 : n0 ≤ h6.size := by omega
  have o_p4_6 := ((o_p4_4.other W5 ne_p4_p6).other W6 n_p4_b2)
  have old6 := ((old4.wr W5 g_p6).wr W6 e_b2)
  refine z_callFp C o_p4_6.1 (z_c15_20 l hw S zz6 old6 p4 p7 o_p4_6) (z_w hw 107 rfl) (z_w hw 108 rfl) (z_w hw 109 rfl) (z_w hw 110 rfl) (z_w hw 111 rfl) (z_w hw 112 rfl) (z_w hw 113 rfl) (z_w hw 79 rfl) (z_w hw 11 rfl) (z_w hw 114 rfl) (by decide) z_d16_111 rfl (argsL := []) (rest := [(.int y2)]) rfl (lenOf z_pd8 rfl) (W := 1) (Nat.le_of_eq rfl) (by decide) (by decide) (by decide) (by decide) (by decide) (by decide) 116 rfl ?_
  refine z_icmpN C z_d16_116 (flt rq22).2.2.1 119 rfl ?_
  refine z_iload C z_d16_119 rfl 121 rfl ?_
  refine z_aloadN C z_d16_121 rfl rfl 122 rfl ?_
  refine z_getO C (z_w hw 59 rfl) Via.refl o_p0_6 2 rfl rfl z_d16_122 125 rfl ?_
  refine z_callFp C o_p4_6.1 (z_c15_20 l hw S zz6 old6 p4 p7 o_p4_6) (z_w hw 107 rfl) (z_w hw 108 rfl) (z_w hw 109 rfl) (z_w hw 110 rfl) (z_w hw 111 rfl) (z_w hw 112 rfl) (z_w hw 113 rfl) (z_w hw 79 rfl) (z_w hw 11 rfl) (z_w hw 114 rfl) (by decide) z_d16_125 rfl (argsL := []) (rest := [(.int y2)]) rfl (lenOf z_pd8 rfl) (W := 1) (Nat.le_of_eq rfl) (by decide) (by decide) (by decide) (by decide) (by decide) (by decide) 130 rfl ?_
  refine z_ineg C (z := (-3 : Int32)) z_d16_130 (by decide) 131 rfl ?_
  refine z_icmpY C z_d16_131 (flt rq23).2.1 (by decide) 149 (by decide) ?_
  refine z_cut (fJ := mkF m 168 #[.val (.ref p0), .val (.ref p1), .val (.ref b2), .val (.int 2), .val (.int 0), .val (.ref p1), .val (.int 3), .val (.int 2), .val (.int y2), .val (.int (z_ix y1))] [(.int (z_ix y2))]) (fun K => ?_) ?_
  · refine z_iload C z_d16_149 rfl 151 rfl ?_
    by_cases hc151 : (0 : Int32) < y2
    · refine z_ifN C z_d16_151 ((if0 _ _).trans (tlt hc151).2.2.2) 154 rfl ?_
      refine z_iconst C (v := (2 : Int32)) z_d16_154 (by decide) 155 rfl ?_
      refine z_iload C z_d16_155 rfl 157 rfl ?_
      refine z_imul C z_d16_157 rfl 158 rfl ?_
      refine z_goto C z_d16_158 (by decide) 168 (by decide) ?_
      exact z_castI (if_pos hc151) K
    · refine z_ifY C z_d16_151 ((if0 _ _).trans (flt hc151).2.2.2) (by decide) 161 (by decide) ?_
      refine z_bipush C (v := (-2 : Int32)) z_d16_161 (by decide) 163 rfl ?_
      refine z_iload C z_d16_163 rfl 165 rfl ?_
      refine z_imul C z_d16_165 rfl 166 rfl ?_
      refine z_iconst C (v := (1 : Int32)) z_d16_166 (by decide) 167 rfl ?_
      refine z_iadd C z_d16_167 rfl 168 rfl ?_
      exact z_castI (if_neg hc151) K
  refine z_istore C (Ls' := #[.val (.ref p0), .val (.ref p1), .val (.ref b2), .val (.int 2), .val (.int 0), .val (.ref p1), .val (.int 3), .val (.int 2), .val (.int y2), .val (.int (z_ix y2))]) z_d16_168 rfl 170 rfl ?_
  refine z_aloadN C z_d16_170 rfl rfl 171 rfl ?_
  refine z_getO C (z_w hw 63 rfl) Via.refl o_p0_6 4 rfl rfl z_d16_171 174 rfl ?_
  refine z_iload C z_d16_174 rfl 176 rfl ?_
  refine z_laload C o_p6_6 rq24 rq25 z_d16_176 177 rfl ?_
  refine z_aloadN C z_d16_177 rfl rfl 178 rfl ?_
  refine z_getO C (z_w hw 133 rfl) Via.refl o_p0_6 5 rfl rfl z_d16_178 181 rfl ?_
  refine z_lcmp C z_d16_181 rfl 182 rfl ?_
  refine z_ifN C z_d16_182 ((if0 _ _).trans (feq rq26).1) 185 rfl ?_
  refine z_aloadN C z_d16_185 rfl rfl 186 rfl ?_
  refine z_getO C (z_w hw 63 rfl) Via.refl o_p0_6 4 rfl rfl z_d16_186 189 rfl ?_
  refine z_iload C z_d16_189 rfl 191 rfl ?_
  refine z_aloadN C z_d16_191 rfl rfl 192 rfl ?_
  refine z_getO C (z_w hw 133 rfl) Via.refl o_p0_6 5 rfl rfl z_d16_192 195 rfl ?_
  refine z_lastore C o_p6_6 rq24 rq27 (vs' := (List.set ((List.set ((List.set (va0) ((z_ix y0)).toNatClampNeg (.long (2 : Int64)))) ((z_ix y1)).toNatClampNeg (.long (2 : Int64)))) ((z_ix y2)).toNatClampNeg (.long (2 : Int64)))) rfl g_p6 z_d16_195 196 rfl ?_
  intro h7 W7 o_p6_7
  have s7 : h7.size = h6.size := W7.size
  have k7 : Keep h h7 [p0, p6, p8, p2] := k6.wr W7 (Or.inl (by simp))
  refine z_aloadN C z_d16_196 rfl rfl 197 rfl ?_
  refine z_iloadN C z_d16_197 rfl 198 rfl ?_
  refine z_iinc C (w := (3 : Int32)) (Ls' := #[.val (.ref p0), .val (.ref p1), .val (.ref b2), .val (.int 3), .val (.int 0), .val (.ref p1), .val (.int 3), .val (.int 2), .val (.int y2), .val (.int (z_ix y2))]) z_d16_198 rfl (by decide) rfl 201 rfl ?_
  refine z_iload C z_d16_201 rfl 203 rfl ?_
  have o_b2_7 := (o_b2_6.other W7 n_b2_p6)
  refine z_iastore C (z := y2) o_b2_7 (by decide) (of_decide_eq_true rfl) rfl (vs' := [(.int y0), (.int y1), (.int y2)]) (by rfl) e_b2 z_d16_203 204 rfl ?_
  intro h8 W8 o_b2_8
  have s8 : h8.size = h7.size := W8.size
  have k8 : Keep h h8 [p0, p6, p8, p2] := k7.wr W8 (Or.inr q_b2)
  refine z_iload C z_d16_204 rfl 206 rfl ?_
  refine z_aloadN C z_d16_206 rfl rfl 207 rfl ?_
  have o_p0_8 := ((o_p0_6.other W7 ne_p0_p6).other W8 n_p0_b2)
  refine z_getO C (z_w hw 63 rfl) Via.refl o_p0_8 4 rfl rfl z_d16_207 210 rfl ?_
  refine z_iload C z_d16_210 rfl 212 rfl ?_
  refine z_iconst C (v := (1 : Int32)) z_d16_212 (by decide) 213 rfl ?_
  refine z_ixor C z_d16_213 rfl 214 rfl ?_
  have o_p6_8 := (o_p6_7.other W8 n_b2_p6.symm)
  refine z_laload C o_p6_8 rq28 rq29 z_d16_214 215 rfl ?_
  refine z_aloadN C z_d16_215 rfl rfl 216 rfl ?_
  refine z_getO C (z_w hw 133 rfl) Via.refl o_p0_8 5 rfl rfl z_d16_216 219 rfl ?_
  refine z_lcmp C z_d16_219 rfl 220 rfl ?_
  refine z_ifY C z_d16_220 ((if0 _ _).trans (feq rq30).2) (by decide) 227 (by decide) ?_
  refine z_iconst C (v := (0 : Int32)) z_d16_227 (by decide) 228 rfl ?_
  refine z_ior C (z := (0 : Int32)) z_d16_228 (by decide) 229 rfl ?_
  refine z_istore C (Ls' := #[.val (.ref p0), .val (.ref p1), .val (.ref b2), .val (.int 3), .val (.int 0), .val (.ref p1), .val (.int 3), .val (.int 2), .val (.int y2), .val (.int (z_ix y2))]) z_d16_229 rfl 231 rfl ?_
  refine z_iinc C (w := (3 : Int32)) (Ls' := #[.val (.ref p0), .val (.ref p1), .val (.ref b2), .val (.int 3), .val (.int 0), .val (.ref p1), .val (.int 3), .val (.int 3), .val (.int y2), .val (.int (z_ix y2))]) z_d16_231 rfl (by decide) rfl 234 rfl ?_
  refine z_goto C z_d16_234 (by decide) 86 (by decide) ?_
  refine z_iload C z_d16_86 rfl 88 rfl ?_
  refine z_iload C z_d16_88 rfl 90 rfl ?_
  refine z_icmpY C z_d16_90 (by decide) (by decide) 237 (by decide) ?_
  refine z_iload C z_d16_237 rfl 239 rfl ?_
  refine z_ifN C z_d16_239 (by decide) 242 rfl ?_
  refine z_aloadN C z_d16_242 rfl rfl 243 rfl ?_
  refine z_getO C (z_w hw 33 rfl) Via.refl o_p0_8 0 rfl rfl z_d16_243 246 rfl ?_
  refine z_iloadN C z_d16_246 rfl 247 rfl ?_
  refine z_aloadN C z_d16_247 rfl rfl 248 rfl ?_
  refine z_arraylength C (z := (3 : Int32)) o_b2_8 (by rfl) z_d16_248 249 rfl ?_
  refine z_icmpN C z_d16_249 (by decide) 252 rfl ?_
  refine z_aloadN C z_d16_252 rfl rfl 253 rfl ?_
  refine z_goto C z_d16_253 (by decide) 261 (by decide) ?_
  have zz8 : n0 ≤ h8.size := by omega
  have n_p2_b2 : (p2 : Nat) ≠ b2 := by omega
  have o_p2_8 := ((((((((o_p2.other W1 (Ne.symm ne_p0_p2)).ext E2).other W3 ne_p2_p6).other W4 n_p2_b2).other W5 ne_p2_p6).other W6 n_p2_b2).other W7 ne_p2_p6).other W8 n_p2_b2)
  have n_p8_b2 : (p8 : Nat) ≠ b2 := by omega
  have o_p8_8 := ((((((((o_p8.other W1 (Ne.symm ne_p0_p8)).ext E2).other W3 (Ne.symm ne_p6_p8)).other W4 n_p8_b2).other W5 (Ne.symm ne_p6_p8)).other W6 n_p8_b2).other W7 (Ne.symm ne_p6_p8)).other W8 n_p8_b2)
  have old8 := ((old6.wr W7 g_p6).wr W8 e_b2)
  refine z_callF C o_p2_8.1 (z_c10_29 l hw S zz8 old8 y0 y1 y2 p2 b2 p8 p9 o_p2_8 o_p8_8 o_b2_8 ne_p2_p8 n_p2_b2 g_p2 g_p8) (z_w hw 72 rfl) (z_w hw 73 rfl) (z_w hw 74 rfl) (z_w hw 75 rfl) (z_w hw 76 rfl) (z_w hw 77 rfl) (z_w hw 78 rfl) (z_w hw 79 rfl) (z_w hw 11 rfl) (z_w hw 80 rfl) (by decide) z_d16_261 rfl (argsL := [(.ref b2)]) (rest := []) rfl (lenOf z_pd7 rfl) (W := 0) (Nat.le_of_eq rfl) (by decide) (by decide) (by decide) (by decide) 266 rfl ?_
  rintro _ h9 ⟨rfl, K9, o_p2_9, o_p8_9⟩
  have s9 : h8.size ≤ h9.size := K9.1
  have k9 : Keep h h9 [p0, p6, p8, p2] := k8.trans K9 (allS (Or.inl (by simp)) (allS (Or.inl (by simp)) all0))
  refine z_pop C z_d16_266 rfl 267 rfl ?_
  have o_p0_9 := (o_p0_8.keep K9 (ninS ne_p0_p2 (ninS ne_p0_p8 nin0)))
  have o_p6_9 := (o_p6_8.keep K9 (ninS (Ne.symm ne_p2_p6) (ninS ne_p6_p8 nin0)))
  have o_b2_9 := (o_b2_8.keep K9 (ninS n_p2_b2.symm (ninS n_p8_b2.symm nin0)))
  exact z_return C z_d16_267 (by decide) (by decide) ⟨rfl, b2, k9, by omega, by omega, o_p0_9, o_p6_9, o_p2_9, o_p8_9, o_b2_9⟩
set_option maxHeartbeats 2000000 in
theorem z_c20_31 (hw : z_T Z a0) (S : z_St Z a_DEF a_ONE a_NONE) (z0 : n0 ≤ h.size) (old : Old Z n0 h) (p0 : Nat) (p1 : Nat) (p2 : Nat) (p3 : Nat) (p4 : Nat) (p5 : Nat) (p6 : Nat) (o_p0 : z_Ob Z h p0 "com/example/variegate/variegate/service/Cnf" z_lay0 [(.ref p1), (.ref p2), (.ref p3), (.ref p4), (.ref p5), (.long (2 : Int64))]) (o_p3 : z_Ob Z h p3 "java/util/ArrayList" z_lay1 [(.int 3), (.ref p6), (.int 3)]) :
    z_Met l Z (⟨"com/example/variegate/variegate/service/Cnf", "variables", "()I"⟩ : MethodName) prog_73_method_8_code 1 (some .int) [] ({ frames := 1, cells := 0, slots := 0, locals := 12 } : Room) n0 #[(.ref p0)] h (z_pure (.int 3) h) := by
  refine z_met (Ls := #[.val (.ref p0)]) (by first | exact plainFor_of_name (by first | (simp [plainName, overriddenIn]; done) | decide +kernel) | decide +kernel) rfl ?_
  intro p e s m below meth c C
  refine z_aloadN C z_d20_0 rfl rfl 1 rfl ?_
  refine z_getO C (z_w hw 59 rfl) Via.refl o_p0 2 rfl rfl z_d20_1 4 rfl ?_
  refine z_callFp C o_p3.1 (z_c15_20 l hw S z0 old p3 p6 o_p3) (z_w hw 107 rfl) (z_w hw 108 rfl) (z_w hw 109 rfl) (z_w hw 110 rfl) (z_w hw 111 rfl) (z_w hw 112 rfl) (z_w hw 113 rfl) (z_w hw 79 rfl) (z_w hw 11 rfl) (z_w hw 114 rfl) (by decide) z_d20_4 rfl (argsL := []) (rest := []) rfl (lenOf z_pd8 rfl) (W := 0) (Nat.le_of_eq rfl) (by decide) (by decide) (by decide) (by decide) (by decide) (by decide) 9 rfl ?_
  exact z_ireturn C (Or.inl rfl) rfl z_d20_9 (by decide) (by decide) ⟨rfl, rfl⟩
set_option maxHeartbeats 2000000 in
theorem z_c24_32 (hw : z_T Z a0) (S : z_St Z a_DEF a_ONE a_NONE) (z0 : n0 ≤ h.size) (old : Old Z n0 h) :
    z_Met l Z (⟨"jdk/internal/util/Preconditions", "checkIndex", "(IILjava/util/function/BiFunction;)I"⟩ : MethodName) jdk_41_method_11_code 3 (some .int) [] ({ frames := 0, cells := 0, slots := 0, locals := 0 } : Room) n0 #[(.int 0), (.int 3), .null] h (z_pure (.int 0) h) := by
  refine z_met (Ls := #[.val (.int 0), .val (.int 3), .val .null]) (by first | exact plainFor_of_name (by first | (simp [plainName, overriddenIn]; done) | decide +kernel) | decide +kernel) rfl ?_
  intro p e s m below meth c C
  refine z_iloadN C z_d24_0 rfl 1 rfl ?_
  refine z_ifN C z_d24_1 (by decide) 4 rfl ?_
  refine z_iloadN C z_d24_4 rfl 5 rfl ?_
  refine z_iloadN C z_d24_5 rfl 6 rfl ?_
  refine z_icmpY C z_d24_6 (by decide) (by decide) 16 (by decide) ?_
  refine z_iloadN C z_d24_16 rfl 17 rfl ?_
  exact z_ireturn C (Or.inl rfl) rfl z_d24_17 (by decide) (by decide) ⟨rfl, rfl⟩
set_option maxHeartbeats 2000000 in
theorem z_c23_33 (hw : z_T Z a0) (S : z_St Z a_DEF a_ONE a_NONE) (z0 : n0 ≤ h.size) (old : Old Z n0 h) :
    z_Met l Z (⟨"java/util/Objects", "checkIndex", "(II)I"⟩ : MethodName) jdk_31_method_17_code 2 (some .int) [] ({ frames := 1, cells := 0, slots := 0, locals := 14 } : Room) n0 #[(.int 0), (.int 3)] h (z_pure (.int 0) h) := by
  refine z_met (Ls := #[.val (.int 0), .val (.int 3)]) (by first | exact plainFor_of_name (by first | (simp [plainName, overriddenIn]; done) | decide +kernel) | decide +kernel) rfl ?_
  intro p e s m below meth c C
  refine z_iloadN C z_d23_0 rfl 1 rfl ?_
  refine z_iloadN C z_d23_1 rfl 2 rfl ?_
  refine z_aconst_null C z_d23_2 3 rfl ?_
  refine z_callSp C (z_c24_32 l hw S z0 old) (z_w hw 171 rfl) (z_w hw 172 rfl) (z_w hw 173 rfl) (z_w hw 174 rfl) (by decide) z_d23_3 rfl (argsL := [(.int 0), (.int 3), .null]) (rest := []) rfl (lenOf z_pd11 rfl) (W := 0) (Nat.le_of_eq rfl) (by decide) (by decide) (by decide) (by decide) (by decide) (by decide) 6 rfl ?_
  exact z_ireturn C (Or.inl rfl) rfl z_d23_6 (by decide) (by decide) ⟨rfl, rfl⟩
set_option maxHeartbeats 2000000 in
theorem z_c25_34 (hw : z_T Z a0) (S : z_St Z a_DEF a_ONE a_NONE) (z0 : n0 ≤ h.size) (old : Old Z n0 h) (p0 : Nat) (p1 : Nat) (o_p0 : z_Ob Z h p0 "java/util/ArrayList" z_lay1 [(.int 3), (.ref p1), (.int 3)]) (o_p1 : z_Ar Z h p1 (.object "java/lang/Object") "[Ljava/lang/Object;" "java/lang/Object" [(.ref a_ONE), (.ref a_ONE), (.ref a_ONE), .null, .null, .null, .null, .null, .null, .null]) :
    z_Met l Z (⟨"java/util/ArrayList", "elementData", "(I)Ljava/lang/Object;"⟩ : MethodName) jdk_38_method_18_code 2 (some (.object "java/lang/Object")) [] ({ frames := 0, cells := 0, slots := 0, locals := 0 } : Room) n0 #[(.ref p0), (.int 0)] h (z_pure (.ref a_ONE) h) := by
  refine z_met (Ls := #[.val (.ref p0), .val (.int 0)]) (by first | exact plainFor_of_name (by first | (simp [plainName, overriddenIn]; done) | decide +kernel) | decide +kernel) rfl ?_
  intro p e s m below meth c C
  refine z_aloadN C z_d25_0 rfl rfl 1 rfl ?_
  refine z_getO C (z_w hw 31 rfl) Via.refl o_p0 1 rfl rfl z_d25_1 4 rfl ?_
  refine z_iloadN C z_d25_4 rfl 5 rfl ?_
  refine z_aaload C o_p1 rfl (by decide) (v := (.ref a_ONE)) (by rfl) z_d25_5 6 rfl ?_
  exact z_areturn C rfl rfl z_d25_6 (by decide) (by decide) ⟨rfl, rfl⟩
set_option maxHeartbeats 2000000 in
theorem z_c22_35 (hw : z_T Z a0) (S : z_St Z a_DEF a_ONE a_NONE) (z0 : n0 ≤ h.size) (old : Old Z n0 h) (p0 : Nat) (p1 : Nat) (o_p0 : z_Ob Z h p0 "java/util/ArrayList" z_lay1 [(.int 3), (.ref p1), (.int 3)]) (o_p1 : z_Ar Z h p1 (.object "java/lang/Object") "[Ljava/lang/Object;" "java/lang/Object" [(.ref a_ONE), (.ref a_ONE), (.ref a_ONE), .null, .null, .null, .null, .null, .null, .null]) :
    z_Met l Z (⟨"java/util/ArrayList", "get", "(I)Ljava/lang/Object;"⟩ : MethodName) jdk_38_method_20_code 2 (some (.object "java/lang/Object")) [] ({ frames := 2, cells := 0, slots := 0, locals := 27 } : Room) n0 #[(.ref p0), (.int 0)] h (z_pure (.ref a_ONE) h) := by
  refine z_met (Ls := #[.val (.ref p0), .val (.int 0)]) (by first | exact plainFor_of_name (by first | (simp [plainName, overriddenIn]; done) | decide +kernel) | decide +kernel) rfl ?_
  intro p e s m below meth c C
  refine z_iloadN C z_d22_0 rfl 1 rfl ?_
  refine z_aloadN C z_d22_1 rfl rfl 2 rfl ?_
  refine z_getO C (z_w hw 83 rfl) Via.refl o_p0 2 rfl rfl z_d22_2 5 rfl ?_
  refine z_callSp C (z_c23_33 l hw S z0 old) (z_w hw 167 rfl) (z_w hw 168 rfl) (z_w hw 169 rfl) (z_w hw 170 rfl) (by decide) z_d22_5 rfl (argsL := [(.int 0), (.int 3)]) (rest := []) rfl (lenOf z_pd3 rfl) (W := 0) (Nat.le_of_eq rfl) (by decide) (by decide) (by decide) (by decide) (by decide) (by decide) 8 rfl ?_
  refine z_pop C z_d22_8 rfl 9 rfl ?_
  refine z_aloadN C z_d22_9 rfl rfl 10 rfl ?_
  refine z_iloadN C z_d22_10 rfl 11 rfl ?_
  refine z_callVp C o_p0.1 (z_c25_34 l hw S z0 old p0 p1 o_p0 o_p1) (z_w hw 175 rfl) (z_w hw 176 rfl) (z_w hw 178 rfl) (z_w hw 177 rfl) (z_w hw 11 rfl) (z_w hw 179 rfl) (by decide) z_d22_11 rfl (argsL := [(.int 0)]) (rest := []) rfl (lenOf z_pd12 rfl) (W := 0) (Nat.le_of_eq rfl) (by decide) (by decide) (by decide) (by decide) (by decide) (by decide) 14 rfl ?_
  exact z_areturn C rfl rfl z_d22_14 (by decide) (by decide) ⟨rfl, rfl⟩
set_option maxHeartbeats 2000000 in
theorem z_c21_36 (hw : z_T Z a0) (S : z_St Z a_DEF a_ONE a_NONE) (z0 : n0 ≤ h.size) (old : Old Z n0 h) (p0 : Nat) (p1 : Nat) (p2 : Nat) (p3 : Nat) (p4 : Nat) (p5 : Nat) (p6 : Nat) (o_p0 : z_Ob Z h p0 "com/example/variegate/variegate/service/Cnf" z_lay0 [(.ref p1), (.ref p2), (.ref p3), (.ref p4), (.ref p5), (.long (2 : Int64))]) (o_p3 : z_Ob Z h p3 "java/util/ArrayList" z_lay1 [(.int 3), (.ref p6), (.int 3)]) (o_p6 : z_Ar Z h p6 (.object "java/lang/Object") "[Ljava/lang/Object;" "java/lang/Object" [(.ref a_ONE), (.ref a_ONE), (.ref a_ONE), .null, .null, .null, .null, .null, .null, .null]) :
    z_Met l Z (⟨"com/example/variegate/variegate/service/Cnf", "weight", "(I)Ljava/math/BigInteger;"⟩ : MethodName) prog_73_method_10_code 2 (some (.object "java/math/BigInteger")) [] ({ frames := 3, cells := 0, slots := 0, locals := 40 } : Room) n0 #[(.ref p0), (.int 1)] h (z_pure (.ref a_ONE) h) := by
  refine z_met (Ls := #[.val (.ref p0), .val (.int 1)]) (by first | exact plainFor_of_name (by first | (simp [plainName, overriddenIn]; done) | decide +kernel) | decide +kernel) rfl ?_
  intro p e s m below meth c C
  refine z_iloadN C z_d21_0 rfl 1 rfl ?_
  refine z_ifN C z_d21_1 (by decide) 4 rfl ?_
  refine z_aloadN C z_d21_4 rfl rfl 5 rfl ?_
  refine z_getO C (z_w hw 59 rfl) Via.refl o_p0 2 rfl rfl z_d21_5 8 rfl ?_
  refine z_iloadN C z_d21_8 rfl 9 rfl ?_
  refine z_iconst C (v := (1 : Int32)) z_d21_9 (by decide) 10 rfl ?_
  refine z_isub C (z := (0 : Int32)) z_d21_10 (by decide) 11 rfl ?_
  refine z_callFp C o_p3.1 (z_c22_35 l hw S z0 old p3 p6 o_p3 o_p6) (z_w hw 159 rfl) (z_w hw 160 rfl) (z_w hw 161 rfl) (z_w hw 162 rfl) (z_w hw 163 rfl) (z_w hw 164 rfl) (z_w hw 165 rfl) (z_w hw 79 rfl) (z_w hw 11 rfl) (z_w hw 166 rfl) (by decide) z_d21_11 rfl (argsL := [(.int 0)]) (rest := []) rfl (lenOf z_pd12 rfl) (W := 0) (Nat.le_of_eq rfl) (by decide) (by decide) (by decide) (by decide) (by decide) (by decide) 16 rfl ?_
  refine z_castY C (z_w hw 180 rfl) (Ins.self (S.2.1.2.ext old.2).1) z_d21_16 19 rfl ?_
  refine z_goto C z_d21_19 (by decide) 38 (by decide) ?_
  exact z_areturn C rfl rfl z_d21_38 (by decide) (by decide) ⟨rfl, rfl⟩
set_option maxHeartbeats 2000000 in
theorem z_c21_37 (hw : z_T Z a0) (S : z_St Z a_DEF a_ONE a_NONE) (z0 : n0 ≤ h.size) (old : Old Z n0 h) (p0 : Nat) (p1 : Nat) (p2 : Nat) (p3 : Nat) (p4 : Nat) (p5 : Nat) (p6 : Nat) (o_p0 : z_Ob Z h p0 "com/example/variegate/variegate/service/Cnf" z_lay0 [(.ref p1), (.ref p2), (.ref p3), (.ref p4), (.ref p5), (.long (2 : Int64))]) (o_p4 : z_Ob Z h p4 "java/util/ArrayList" z_lay1 [(.int 3), (.ref p6), (.int 3)]) (o_p6 : z_Ar Z h p6 (.object "java/lang/Object") "[Ljava/lang/Object;" "java/lang/Object" [(.ref a_ONE), (.ref a_ONE), (.ref a_ONE), .null, .null, .null, .null, .null, .null, .null]) :
    z_Met l Z (⟨"com/example/variegate/variegate/service/Cnf", "weight", "(I)Ljava/math/BigInteger;"⟩ : MethodName) prog_73_method_10_code 2 (some (.object "java/math/BigInteger")) [] ({ frames := 3, cells := 0, slots := 0, locals := 40 } : Room) n0 #[(.ref p0), (.int (-1))] h (z_pure (.ref a_ONE) h) := by
  refine z_met (Ls := #[.val (.ref p0), .val (.int (-1))]) (by first | exact plainFor_of_name (by first | (simp [plainName, overriddenIn]; done) | decide +kernel) | decide +kernel) rfl ?_
  intro p e s m below meth c C
  refine z_iloadN C z_d21_0 rfl 1 rfl ?_
  refine z_ifY C z_d21_1 (by decide) (by decide) 22 (by decide) ?_
  refine z_aloadN C z_d21_22 rfl rfl 23 rfl ?_
  refine z_getO C (z_w hw 61 rfl) Via.refl o_p0 3 rfl rfl z_d21_23 26 rfl ?_
  refine z_iloadN C z_d21_26 rfl 27 rfl ?_
  refine z_ineg C (z := (1 : Int32)) z_d21_27 (by decide) 28 rfl ?_
  refine z_iconst C (v := (1 : Int32)) z_d21_28 (by decide) 29 rfl ?_
  refine z_isub C (z := (0 : Int32)) z_d21_29 (by decide) 30 rfl ?_
  refine z_callFp C o_p4.1 (z_c22_35 l hw S z0 old p4 p6 o_p4 o_p6) (z_w hw 159 rfl) (z_w hw 160 rfl) (z_w hw 161 rfl) (z_w hw 162 rfl) (z_w hw 163 rfl) (z_w hw 164 rfl) (z_w hw 165 rfl) (z_w hw 79 rfl) (z_w hw 11 rfl) (z_w hw 166 rfl) (by decide) z_d21_30 rfl (argsL := [(.int 0)]) (rest := []) rfl (lenOf z_pd12 rfl) (W := 0) (Nat.le_of_eq rfl) (by decide) (by decide) (by decide) (by decide) (by decide) (by decide) 35 rfl ?_
  refine z_castY C (z_w hw 180 rfl) (Ins.self (S.2.1.2.ext old.2).1) z_d21_35 38 rfl ?_
  exact z_areturn C rfl rfl z_d21_38 (by decide) (by decide) ⟨rfl, rfl⟩
set_option maxHeartbeats 2000000 in
theorem z_c24_38 (hw : z_T Z a0) (S : z_St Z a_DEF a_ONE a_NONE) (z0 : n0 ≤ h.size) (old : Old Z n0 h) :
    z_Met l Z (⟨"jdk/internal/util/Preconditions", "checkIndex", "(IILjava/util/function/BiFunction;)I"⟩ : MethodName) jdk_41_method_11_code 3 (some .int) [] ({ frames := 0, cells := 0, slots := 0, locals := 0 } : Room) n0 #[(.int 1), (.int 3), .null] h (z_pure (.int 1) h) := by
  refine z_met (Ls := #[.val (.int 1), .val (.int 3), .val .null]) (by first | exact plainFor_of_name (by first | (simp [plainName, overriddenIn]; done) | decide +kernel) | decide +kernel) rfl ?_
  intro p e s m below meth c C
  refine z_iloadN C z_d24_0 rfl 1 rfl ?_
  refine z_ifN C z_d24_1 (by decide) 4 rfl ?_
  refine z_iloadN C z_d24_4 rfl 5 rfl ?_
  refine z_iloadN C z_d24_5 rfl 6 rfl ?_
  refine z_icmpY C z_d24_6 (by decide) (by decide) 16 (by decide) ?_
  refine z_iloadN C z_d24_16 rfl 17 rfl ?_
  exact z_ireturn C (Or.inl rfl) rfl z_d24_17 (by decide) (by decide) ⟨rfl, rfl⟩
set_option maxHeartbeats 2000000 in
theorem z_c23_39 (hw : z_T Z a0) (S : z_St Z a_DEF a_ONE a_NONE) (z0 : n0 ≤ h.size) (old : Old Z n0 h) :
    z_Met l Z (⟨"java/util/Objects", "checkIndex", "(II)I"⟩ : MethodName) jdk_31_method_17_code 2 (some .int) [] ({ frames := 1, cells := 0, slots := 0, locals := 14 } : Room) n0 #[(.int 1), (.int 3)] h (z_pure (.int 1) h) := by
  refine z_met (Ls := #[.val (.int 1), .val (.int 3)]) (by first | exact plainFor_of_name (by first | (simp [plainName, overriddenIn]; done) | decide +kernel) | decide +kernel) rfl ?_
  intro p e s m below meth c C
  refine z_iloadN C z_d23_0 rfl 1 rfl ?_
  refine z_iloadN C z_d23_1 rfl 2 rfl ?_
  refine z_aconst_null C z_d23_2 3 rfl ?_
  refine z_callSp C (z_c24_38 l hw S z0 old) (z_w hw 171 rfl) (z_w hw 172 rfl) (z_w hw 173 rfl) (z_w hw 174 rfl) (by decide) z_d23_3 rfl (argsL := [(.int 1), (.int 3), .null]) (rest := []) rfl (lenOf z_pd11 rfl) (W := 0) (Nat.le_of_eq rfl) (by decide) (by decide) (by decide) (by decide) (by decide) (by decide) 6 rfl ?_
  exact z_ireturn C (Or.inl rfl) rfl z_d23_6 (by decide) (by decide) ⟨rfl, rfl⟩
set_option maxHeartbeats 2000000 in
theorem z_c25_40 (hw : z_T Z a0) (S : z_St Z a_DEF a_ONE a_NONE) (z0 : n0 ≤ h.size) (old : Old Z n0 h) (p0 : Nat) (p1 : Nat) (o_p0 : z_Ob Z h p0 "java/util/ArrayList" z_lay1 [(.int 3), (.ref p1), (.int 3)]) (o_p1 : z_Ar Z h p1 (.object "java/lang/Object") "[Ljava/lang/Object;" "java/lang/Object" [(.ref a_ONE), (.ref a_ONE), (.ref a_ONE), .null, .null, .null, .null, .null, .null, .null]) :
    z_Met l Z (⟨"java/util/ArrayList", "elementData", "(I)Ljava/lang/Object;"⟩ : MethodName) jdk_38_method_18_code 2 (some (.object "java/lang/Object")) [] ({ frames := 0, cells := 0, slots := 0, locals := 0 } : Room) n0 #[(.ref p0), (.int 1)] h (z_pure (.ref a_ONE) h) := by
  refine z_met (Ls := #[.val (.ref p0), .val (.int 1)]) (by first | exact plainFor_of_name (by first | (simp [plainName, overriddenIn]; done) | decide +kernel) | decide +kernel) rfl ?_
  intro p e s m below meth c C
  refine z_aloadN C z_d25_0 rfl rfl 1 rfl ?_
  refine z_getO C (z_w hw 31 rfl) Via.refl o_p0 1 rfl rfl z_d25_1 4 rfl ?_
  refine z_iloadN C z_d25_4 rfl 5 rfl ?_
  refine z_aaload C o_p1 rfl (by decide) (v := (.ref a_ONE)) (by rfl) z_d25_5 6 rfl ?_
  exact z_areturn C rfl rfl z_d25_6 (by decide) (by decide) ⟨rfl, rfl⟩
set_option maxHeartbeats 2000000 in
theorem z_c22_41 (hw : z_T Z a0) (S : z_St Z a_DEF a_ONE a_NONE) (z0 : n0 ≤ h.size) (old : Old Z n0 h) (p0 : Nat) (p1 : Nat) (o_p0 : z_Ob Z h p0 "java/util/ArrayList" z_lay1 [(.int 3), (.ref p1), (.int 3)]) (o_p1 : z_Ar Z h p1 (.object "java/lang/Object") "[Ljava/lang/Object;" "java/lang/Object" [(.ref a_ONE), (.ref a_ONE), (.ref a_ONE), .null, .null, .null, .null, .null, .null, .null]) :
    z_Met l Z (⟨"java/util/ArrayList", "get", "(I)Ljava/lang/Object;"⟩ : MethodName) jdk_38_method_20_code 2 (some (.object "java/lang/Object")) [] ({ frames := 2, cells := 0, slots := 0, locals := 27 } : Room) n0 #[(.ref p0), (.int 1)] h (z_pure (.ref a_ONE) h) := by
  refine z_met (Ls := #[.val (.ref p0), .val (.int 1)]) (by first | exact plainFor_of_name (by first | (simp [plainName, overriddenIn]; done) | decide +kernel) | decide +kernel) rfl ?_
  intro p e s m below meth c C
  refine z_iloadN C z_d22_0 rfl 1 rfl ?_
  refine z_aloadN C z_d22_1 rfl rfl 2 rfl ?_
  refine z_getO C (z_w hw 83 rfl) Via.refl o_p0 2 rfl rfl z_d22_2 5 rfl ?_
  refine z_callSp C (z_c23_39 l hw S z0 old) (z_w hw 167 rfl) (z_w hw 168 rfl) (z_w hw 169 rfl) (z_w hw 170 rfl) (by decide) z_d22_5 rfl (argsL := [(.int 1), (.int 3)]) (rest := []) rfl (lenOf z_pd3 rfl) (W := 0) (Nat.le_of_eq rfl) (by decide) (by decide) (by decide) (by decide) (by decide) (by decide) 8 rfl ?_
  refine z_pop C z_d22_8 rfl 9 rfl ?_
  refine z_aloadN C z_d22_9 rfl rfl 10 rfl ?_
  refine z_iloadN C z_d22_10 rfl 11 rfl ?_
  refine z_callVp C o_p0.1 (z_c25_40 l hw S z0 old p0 p1 o_p0 o_p1) (z_w hw 175 rfl) (z_w hw 176 rfl) (z_w hw 178 rfl) (z_w hw 177 rfl) (z_w hw 11 rfl) (z_w hw 179 rfl) (by decide) z_d22_11 rfl (argsL := [(.int 1)]) (rest := []) rfl (lenOf z_pd12 rfl) (W := 0) (Nat.le_of_eq rfl) (by decide) (by decide) (by decide) (by decide) (by decide) (by decide) 14 rfl ?_
  exact z_areturn C rfl rfl z_d22_14 (by decide) (by decide) ⟨rfl, rfl⟩
set_option maxHeartbeats 2000000 in
theorem z_c21_42 (hw : z_T Z a0) (S : z_St Z a_DEF a_ONE a_NONE) (z0 : n0 ≤ h.size) (old : Old Z n0 h) (p0 : Nat) (p1 : Nat) (p2 : Nat) (p3 : Nat) (p4 : Nat) (p5 : Nat) (p6 : Nat) (o_p0 : z_Ob Z h p0 "com/example/variegate/variegate/service/Cnf" z_lay0 [(.ref p1), (.ref p2), (.ref p3), (.ref p4), (.ref p5), (.long (2 : Int64))]) (o_p3 : z_Ob Z h p3 "java/util/ArrayList" z_lay1 [(.int 3), (.ref p6), (.int 3)]) (o_p6 : z_Ar Z h p6 (.object "java/lang/Object") "[Ljava/lang/Object;" "java/lang/Object" [(.ref a_ONE), (.ref a_ONE), (.ref a_ONE), .null, .null, .null, .null, .null, .null, .null]) :
    z_Met l Z (⟨"com/example/variegate/variegate/service/Cnf", "weight", "(I)Ljava/math/BigInteger;"⟩ : MethodName) prog_73_method_10_code 2 (some (.object "java/math/BigInteger")) [] ({ frames := 3, cells := 0, slots := 0, locals := 40 } : Room) n0 #[(.ref p0), (.int 2)] h (z_pure (.ref a_ONE) h) := by
  refine z_met (Ls := #[.val (.ref p0), .val (.int 2)]) (by first | exact plainFor_of_name (by first | (simp [plainName, overriddenIn]; done) | decide +kernel) | decide +kernel) rfl ?_
  intro p e s m below meth c C
  refine z_iloadN C z_d21_0 rfl 1 rfl ?_
  refine z_ifN C z_d21_1 (by decide) 4 rfl ?_
  refine z_aloadN C z_d21_4 rfl rfl 5 rfl ?_
  refine z_getO C (z_w hw 59 rfl) Via.refl o_p0 2 rfl rfl z_d21_5 8 rfl ?_
  refine z_iloadN C z_d21_8 rfl 9 rfl ?_
  refine z_iconst C (v := (1 : Int32)) z_d21_9 (by decide) 10 rfl ?_
  refine z_isub C (z := (1 : Int32)) z_d21_10 (by decide) 11 rfl ?_
  refine z_callFp C o_p3.1 (z_c22_41 l hw S z0 old p3 p6 o_p3 o_p6) (z_w hw 159 rfl) (z_w hw 160 rfl) (z_w hw 161 rfl) (z_w hw 162 rfl) (z_w hw 163 rfl) (z_w hw 164 rfl) (z_w hw 165 rfl) (z_w hw 79 rfl) (z_w hw 11 rfl) (z_w hw 166 rfl) (by decide) z_d21_11 rfl (argsL := [(.int 1)]) (rest := []) rfl (lenOf z_pd12 rfl) (W := 0) (Nat.le_of_eq rfl) (by decide) (by decide) (by decide) (by decide) (by decide) (by decide) 16 rfl ?_
  refine z_castY C (z_w hw 180 rfl) (Ins.self (S.2.1.2.ext old.2).1) z_d21_16 19 rfl ?_
  refine z_goto C z_d21_19 (by decide) 38 (by decide) ?_
  exact z_areturn C rfl rfl z_d21_38 (by decide) (by decide) ⟨rfl, rfl⟩
set_option maxHeartbeats 2000000 in
theorem z_c21_43 (hw : z_T Z a0) (S : z_St Z a_DEF a_ONE a_NONE) (z0 : n0 ≤ h.size) (old : Old Z n0 h) (p0 : Nat) (p1 : Nat) (p2 : Nat) (p3 : Nat) (p4 : Nat) (p5 : Nat) (p6 : Nat) (o_p0 : z_Ob Z h p0 "com/example/variegate/variegate/service/Cnf" z_lay0 [(.ref p1), (.ref p2), (.ref p3), (.ref p4), (.ref p5), (.long (2 : Int64))]) (o_p4 : z_Ob Z h p4 "java/util/ArrayList" z_lay1 [(.int 3), (.ref p6), (.int 3)]) (o_p6 : z_Ar Z h p6 (.object "java/lang/Object") "[Ljava/lang/Object;" "java/lang/Object" [(.ref a_ONE), (.ref a_ONE), (.ref a_ONE), .null, .null, .null, .null, .null, .null, .null]) :
    z_Met l Z (⟨"com/example/variegate/variegate/service/Cnf", "weight", "(I)Ljava/math/BigInteger;"⟩ : MethodName) prog_73_method_10_code 2 (some (.object "java/math/BigInteger")) [] ({ frames := 3, cells := 0, slots := 0, locals := 40 } : Room) n0 #[(.ref p0), (.int (-2))] h (z_pure (.ref a_ONE) h) := by
  refine z_met (Ls := #[.val (.ref p0), .val (.int (-2))]) (by first | exact plainFor_of_name (by first | (simp [plainName, overriddenIn]; done) | decide +kernel) | decide +kernel) rfl ?_
  intro p e s m below meth c C
  refine z_iloadN C z_d21_0 rfl 1 rfl ?_
  refine z_ifY C z_d21_1 (by decide) (by decide) 22 (by decide) ?_
  refine z_aloadN C z_d21_22 rfl rfl 23 rfl ?_
  refine z_getO C (z_w hw 61 rfl) Via.refl o_p0 3 rfl rfl z_d21_23 26 rfl ?_
  refine z_iloadN C z_d21_26 rfl 27 rfl ?_
  refine z_ineg C (z := (2 : Int32)) z_d21_27 (by decide) 28 rfl ?_
  refine z_iconst C (v := (1 : Int32)) z_d21_28 (by decide) 29 rfl ?_
  refine z_isub C (z := (1 : Int32)) z_d21_29 (by decide) 30 rfl ?_
  refine z_callFp C o_p4.1 (z_c22_41 l hw S z0 old p4 p6 o_p4 o_p6) (z_w hw 159 rfl) (z_w hw 160 rfl) (z_w hw 161 rfl) (z_w hw 162 rfl) (z_w hw 163 rfl) (z_w hw 164 rfl) (z_w hw 165 rfl) (z_w hw 79 rfl) (z_w hw 11 rfl) (z_w hw 166 rfl) (by decide) z_d21_30 rfl (argsL := [(.int 1)]) (rest := []) rfl (lenOf z_pd12 rfl) (W := 0) (Nat.le_of_eq rfl) (by decide) (by decide) (by decide) (by decide) (by decide) (by decide) 35 rfl ?_
  refine z_castY C (z_w hw 180 rfl) (Ins.self (S.2.1.2.ext old.2).1) z_d21_35 38 rfl ?_
  exact z_areturn C rfl rfl z_d21_38 (by decide) (by decide) ⟨rfl, rfl⟩
set_option maxHeartbeats 2000000 in
theorem z_c24_44 (hw : z_T Z a0) (S : z_St Z a_DEF a_ONE a_NONE) (z0 : n0 ≤ h.size) (old : Old Z n0 h) :
    z_Met l Z (⟨"jdk/internal/util/Preconditions", "checkIndex", "(IILjava/util/function/BiFunction;)I"⟩ : MethodName) jdk_41_method_11_code 3 (some .int) [] ({ frames := 0, cells := 0, slots := 0, locals := 0 } : Room) n0 #[(.int 2), (.int 3), .null] h (z_pure (.int 2) h) := by
  refine z_met (Ls := #[.val (.int 2), .val (.int 3), .val .null]) (by first | exact plainFor_of_name (by first | (simp [plainName, overriddenIn]; done) | decide +kernel) | decide +kernel) rfl ?_
  intro p e s m below meth c C
  refine z_iloadN C z_d24_0 rfl 1 rfl ?_
  refine z_ifN C z_d24_1 (by decide) 4 rfl ?_
  refine z_iloadN C z_d24_4 rfl 5 rfl ?_
  refine z_iloadN C z_d24_5 rfl 6 rfl ?_
  refine z_icmpY C z_d24_6 (by decide) (by decide) 16 (by decide) ?_
  refine z_iloadN C z_d24_16 rfl 17 rfl ?_
  exact z_ireturn C (Or.inl rfl) rfl z_d24_17 (by decide) (by decide) ⟨rfl, rfl⟩
set_option maxHeartbeats 2000000 in
theorem z_c23_45 (hw : z_T Z a0) (S : z_St Z a_DEF a_ONE a_NONE) (z0 : n0 ≤ h.size) (old : Old Z n0 h) :
    z_Met l Z (⟨"java/util/Objects", "checkIndex", "(II)I"⟩ : MethodName) jdk_31_method_17_code 2 (some .int) [] ({ frames := 1, cells := 0, slots := 0, locals := 14 } : Room) n0 #[(.int 2), (.int 3)] h (z_pure (.int 2) h) := by
  refine z_met (Ls := #[.val (.int 2), .val (.int 3)]) (by first | exact plainFor_of_name (by first | (simp [plainName, overriddenIn]; done) | decide +kernel) | decide +kernel) rfl ?_
  intro p e s m below meth c C
  refine z_iloadN C z_d23_0 rfl 1 rfl ?_
  refine z_iloadN C z_d23_1 rfl 2 rfl ?_
  refine z_aconst_null C z_d23_2 3 rfl ?_
  refine z_callSp C (z_c24_44 l hw S z0 old) (z_w hw 171 rfl) (z_w hw 172 rfl) (z_w hw 173 rfl) (z_w hw 174 rfl) (by decide) z_d23_3 rfl (argsL := [(.int 2), (.int 3), .null]) (rest := []) rfl (lenOf z_pd11 rfl) (W := 0) (Nat.le_of_eq rfl) (by decide) (by decide) (by decide) (by decide) (by decide) (by decide) 6 rfl ?_
  exact z_ireturn C (Or.inl rfl) rfl z_d23_6 (by decide) (by decide) ⟨rfl, rfl⟩
set_option maxHeartbeats 2000000 in
theorem z_c25_46 (hw : z_T Z a0) (S : z_St Z a_DEF a_ONE a_NONE) (z0 : n0 ≤ h.size) (old : Old Z n0 h) (p0 : Nat) (p1 : Nat) (o_p0 : z_Ob Z h p0 "java/util/ArrayList" z_lay1 [(.int 3), (.ref p1), (.int 3)]) (o_p1 : z_Ar Z h p1 (.object "java/lang/Object") "[Ljava/lang/Object;" "java/lang/Object" [(.ref a_ONE), (.ref a_ONE), (.ref a_ONE), .null, .null, .null, .null, .null, .null, .null]) :
    z_Met l Z (⟨"java/util/ArrayList", "elementData", "(I)Ljava/lang/Object;"⟩ : MethodName) jdk_38_method_18_code 2 (some (.object "java/lang/Object")) [] ({ frames := 0, cells := 0, slots := 0, locals := 0 } : Room) n0 #[(.ref p0), (.int 2)] h (z_pure (.ref a_ONE) h) := by
  refine z_met (Ls := #[.val (.ref p0), .val (.int 2)]) (by first | exact plainFor_of_name (by first | (simp [plainName, overriddenIn]; done) | decide +kernel) | decide +kernel) rfl ?_
  intro p e s m below meth c C
  refine z_aloadN C z_d25_0 rfl rfl 1 rfl ?_
  refine z_getO C (z_w hw 31 rfl) Via.refl o_p0 1 rfl rfl z_d25_1 4 rfl ?_
  refine z_iloadN C z_d25_4 rfl 5 rfl ?_
  refine z_aaload C o_p1 rfl (by decide) (v := (.ref a_ONE)) (by rfl) z_d25_5 6 rfl ?_
  exact z_areturn C rfl rfl z_d25_6 (by decide) (by decide) ⟨rfl, rfl⟩
set_option maxHeartbeats 2000000 in
theorem z_c22_47 (hw : z_T Z a0) (S : z_St Z a_DEF a_ONE a_NONE) (z0 : n0 ≤ h.size) (old : Old Z n0 h) (p0 : Nat) (p1 : Nat) (o_p0 : z_Ob Z h p0 "java/util/ArrayList" z_lay1 [(.int 3), (.ref p1), (.int 3)]) (o_p1 : z_Ar Z h p1 (.object "java/lang/Object") "[Ljava/lang/Object;" "java/lang/Object" [(.ref a_ONE), (.ref a_ONE), (.ref a_ONE), .null, .null, .null, .null, .null, .null, .null]) :
    z_Met l Z (⟨"java/util/ArrayList", "get", "(I)Ljava/lang/Object;"⟩ : MethodName) jdk_38_method_20_code 2 (some (.object "java/lang/Object")) [] ({ frames := 2, cells := 0, slots := 0, locals := 27 } : Room) n0 #[(.ref p0), (.int 2)] h (z_pure (.ref a_ONE) h) := by
  refine z_met (Ls := #[.val (.ref p0), .val (.int 2)]) (by first | exact plainFor_of_name (by first | (simp [plainName, overriddenIn]; done) | decide +kernel) | decide +kernel) rfl ?_
  intro p e s m below meth c C
  refine z_iloadN C z_d22_0 rfl 1 rfl ?_
  refine z_aloadN C z_d22_1 rfl rfl 2 rfl ?_
  refine z_getO C (z_w hw 83 rfl) Via.refl o_p0 2 rfl rfl z_d22_2 5 rfl ?_
  refine z_callSp C (z_c23_45 l hw S z0 old) (z_w hw 167 rfl) (z_w hw 168 rfl) (z_w hw 169 rfl) (z_w hw 170 rfl) (by decide) z_d22_5 rfl (argsL := [(.int 2), (.int 3)]) (rest := []) rfl (lenOf z_pd3 rfl) (W := 0) (Nat.le_of_eq rfl) (by decide) (by decide) (by decide) (by decide) (by decide) (by decide) 8 rfl ?_
  refine z_pop C z_d22_8 rfl 9 rfl ?_
  refine z_aloadN C z_d22_9 rfl rfl 10 rfl ?_
  refine z_iloadN C z_d22_10 rfl 11 rfl ?_
  refine z_callVp C o_p0.1 (z_c25_46 l hw S z0 old p0 p1 o_p0 o_p1) (z_w hw 175 rfl) (z_w hw 176 rfl) (z_w hw 178 rfl) (z_w hw 177 rfl) (z_w hw 11 rfl) (z_w hw 179 rfl) (by decide) z_d22_11 rfl (argsL := [(.int 2)]) (rest := []) rfl (lenOf z_pd12 rfl) (W := 0) (Nat.le_of_eq rfl) (by decide) (by decide) (by decide) (by decide) (by decide) (by decide) 14 rfl ?_
  exact z_areturn C rfl rfl z_d22_14 (by decide) (by decide) ⟨rfl, rfl⟩
set_option maxHeartbeats 2000000 in
theorem z_c21_48 (hw : z_T Z a0) (S : z_St Z a_DEF a_ONE a_NONE) (z0 : n0 ≤ h.size) (old : Old Z n0 h) (p0 : Nat) (p1 : Nat) (p2 : Nat) (p3 : Nat) (p4 : Nat) (p5 : Nat) (p6 : Nat) (o_p0 : z_Ob Z h p0 "com/example/variegate/variegate/service/Cnf" z_lay0 [(.ref p1), (.ref p2), (.ref p3), (.ref p4), (.ref p5), (.long (2 : Int64))]) (o_p3 : z_Ob Z h p3 "java/util/ArrayList" z_lay1 [(.int 3), (.ref p6), (.int 3)]) (o_p6 : z_Ar Z h p6 (.object "java/lang/Object") "[Ljava/lang/Object;" "java/lang/Object" [(.ref a_ONE), (.ref a_ONE), (.ref a_ONE), .null, .null, .null, .null, .null, .null, .null]) :
    z_Met l Z (⟨"com/example/variegate/variegate/service/Cnf", "weight", "(I)Ljava/math/BigInteger;"⟩ : MethodName) prog_73_method_10_code 2 (some (.object "java/math/BigInteger")) [] ({ frames := 3, cells := 0, slots := 0, locals := 40 } : Room) n0 #[(.ref p0), (.int 3)] h (z_pure (.ref a_ONE) h) := by
  refine z_met (Ls := #[.val (.ref p0), .val (.int 3)]) (by first | exact plainFor_of_name (by first | (simp [plainName, overriddenIn]; done) | decide +kernel) | decide +kernel) rfl ?_
  intro p e s m below meth c C
  refine z_iloadN C z_d21_0 rfl 1 rfl ?_
  refine z_ifN C z_d21_1 (by decide) 4 rfl ?_
  refine z_aloadN C z_d21_4 rfl rfl 5 rfl ?_
  refine z_getO C (z_w hw 59 rfl) Via.refl o_p0 2 rfl rfl z_d21_5 8 rfl ?_
  refine z_iloadN C z_d21_8 rfl 9 rfl ?_
  refine z_iconst C (v := (1 : Int32)) z_d21_9 (by decide) 10 rfl ?_
  refine z_isub C (z := (2 : Int32)) z_d21_10 (by decide) 11 rfl ?_
  refine z_callFp C o_p3.1 (z_c22_47 l hw S z0 old p3 p6 o_p3 o_p6) (z_w hw 159 rfl) (z_w hw 160 rfl) (z_w hw 161 rfl) (z_w hw 162 rfl) (z_w hw 163 rfl) (z_w hw 164 rfl) (z_w hw 165 rfl) (z_w hw 79 rfl) (z_w hw 11 rfl) (z_w hw 166 rfl) (by decide) z_d21_11 rfl (argsL := [(.int 2)]) (rest := []) rfl (lenOf z_pd12 rfl) (W := 0) (Nat.le_of_eq rfl) (by decide) (by decide) (by decide) (by decide) (by decide) (by decide) 16 rfl ?_
  refine z_castY C (z_w hw 180 rfl) (Ins.self (S.2.1.2.ext old.2).1) z_d21_16 19 rfl ?_
  refine z_goto C z_d21_19 (by decide) 38 (by decide) ?_
  exact z_areturn C rfl rfl z_d21_38 (by decide) (by decide) ⟨rfl, rfl⟩
set_option maxHeartbeats 2000000 in
theorem z_c21_49 (hw : z_T Z a0) (S : z_St Z a_DEF a_ONE a_NONE) (z0 : n0 ≤ h.size) (old : Old Z n0 h) (p0 : Nat) (p1 : Nat) (p2 : Nat) (p3 : Nat) (p4 : Nat) (p5 : Nat) (p6 : Nat) (o_p0 : z_Ob Z h p0 "com/example/variegate/variegate/service/Cnf" z_lay0 [(.ref p1), (.ref p2), (.ref p3), (.ref p4), (.ref p5), (.long (2 : Int64))]) (o_p4 : z_Ob Z h p4 "java/util/ArrayList" z_lay1 [(.int 3), (.ref p6), (.int 3)]) (o_p6 : z_Ar Z h p6 (.object "java/lang/Object") "[Ljava/lang/Object;" "java/lang/Object" [(.ref a_ONE), (.ref a_ONE), (.ref a_ONE), .null, .null, .null, .null, .null, .null, .null]) :
    z_Met l Z (⟨"com/example/variegate/variegate/service/Cnf", "weight", "(I)Ljava/math/BigInteger;"⟩ : MethodName) prog_73_method_10_code 2 (some (.object "java/math/BigInteger")) [] ({ frames := 3, cells := 0, slots := 0, locals := 40 } : Room) n0 #[(.ref p0), (.int (-3))] h (z_pure (.ref a_ONE) h) := by
  refine z_met (Ls := #[.val (.ref p0), .val (.int (-3))]) (by first | exact plainFor_of_name (by first | (simp [plainName, overriddenIn]; done) | decide +kernel) | decide +kernel) rfl ?_
  intro p e s m below meth c C
  refine z_iloadN C z_d21_0 rfl 1 rfl ?_
  refine z_ifY C z_d21_1 (by decide) (by decide) 22 (by decide) ?_
  refine z_aloadN C z_d21_22 rfl rfl 23 rfl ?_
  refine z_getO C (z_w hw 61 rfl) Via.refl o_p0 3 rfl rfl z_d21_23 26 rfl ?_
  refine z_iloadN C z_d21_26 rfl 27 rfl ?_
  refine z_ineg C (z := (3 : Int32)) z_d21_27 (by decide) 28 rfl ?_
  refine z_iconst C (v := (1 : Int32)) z_d21_28 (by decide) 29 rfl ?_
  refine z_isub C (z := (2 : Int32)) z_d21_29 (by decide) 30 rfl ?_
  refine z_callFp C o_p4.1 (z_c22_47 l hw S z0 old p4 p6 o_p4 o_p6) (z_w hw 159 rfl) (z_w hw 160 rfl) (z_w hw 161 rfl) (z_w hw 162 rfl) (z_w hw 163 rfl) (z_w hw 164 rfl) (z_w hw 165 rfl) (z_w hw 79 rfl) (z_w hw 11 rfl) (z_w hw 166 rfl) (by decide) z_d21_30 rfl (argsL := [(.int 2)]) (rest := []) rfl (lenOf z_pd12 rfl) (W := 0) (Nat.le_of_eq rfl) (by decide) (by decide) (by decide) (by decide) (by decide) (by decide) 35 rfl ?_
  refine z_castY C (z_w hw 180 rfl) (Ins.self (S.2.1.2.ext old.2).1) z_d21_35 38 rfl ?_
  exact z_areturn C rfl rfl z_d21_38 (by decide) (by decide) ⟨rfl, rfl⟩
set_option maxHeartbeats 8000000 in
theorem z_k19_50 (hw : z_T Z a0) (S : z_St Z a_DEF a_ONE a_NONE) (z0 : n0 ≤ h.size) (old : Old Z n0 h) (p0 p1 p2 p3 p4 p5 p6 p7 p8 : Nat) (o_p1 : z_Ob Z h p1 "com/example/variegate/variegate/service/Cnf" z_lay0 [(.ref p2), (.ref p3), (.ref p4), (.ref p5), (.ref p6), (.long (2 : Int64))]) (o_p4 : z_Ob Z h p4 "java/util/ArrayList" z_lay1 [(.int 3), (.ref p7), (.int 3)]) (o_p0 : z_Ob Z h p0 "com/example/variegate/variegate/service/Propagation" z_lay3 [(.int 0), .null, .null, .null, .null, .null, .null, .null, .null, .null, .null, (.int 0), (.int 0)]) (o_p7 : z_Ar Z h p7 (.object "java/lang/Object") "[Ljava/lang/Object;" "java/lang/Object" [(.ref a_ONE), (.ref a_ONE), (.ref a_ONE), .null, .null, .null, .null, .null, .null, .null]) (o_p5 : z_Ob Z h p5 "java/util/ArrayList" z_lay1 [(.int 3), (.ref p8), (.int 3)]) (o_p8 : z_Ar Z h p8 (.object "java/lang/Object") "[Ljava/lang/Object;" "java/lang/Object" [(.ref a_ONE), (.ref a_ONE), (.ref a_ONE), .null, .null, .null, .null, .null, .null, .null]) (ne_p0_p1 : p0 ≠ p1) (ne_p0_p4 : p0 ≠ p4) (ne_p0_p7 : p0 ≠ p7) (ne_p0_p5 : p0 ≠ p5) (ne_p0_p8 : p0 ≠ p8) (g_p0 : n0 ≤ p0) {p : Program} {e : Env} {s : State} {m : MethodId} {args : Array Value} {below : List Frame} {meth : Method} {c : Code} {Q : Option Value → Heap → Prop} (C : z_Cx Z p s m meth c "com/example/variegate/variegate/service/Propagation" prog_97_method_1_code 15 none "<init>")
    (K : ∀ (h' : Heap) (b2 b10 b12 b14 b16 : Nat), Keep h h' [p0] → h.size ≤ b2 → b2 < b10 → b10 < b12 → b12 < b14 → b14 < b16 → b16 < h'.size → z_Ob Z h' p0 "com/example/variegate/variegate/service/Propagation" z_lay3 [(.int 3), (.ref b2), (.ref b10), (.ref b12), .null, .null, .null, .null, .null, .null, .null, (.int 0), (.int 0)] → z_Ar Z h' b2 (.object "java/math/BigInteger") "[Ljava/math/BigInteger;" "java/math/BigInteger" [.null, .null, (.ref a_ONE), (.ref a_ONE), (.ref a_ONE), (.ref a_ONE), (.ref a_ONE), (.ref a_ONE)] → z_Ar Z h' b10 .byte "[B" "" [(.int 0), (.int 0), (.int 0), (.int 0), (.int 0), (.int 0), (.int 0), (.int 0)] → z_Ar Z h' b12 .int "[I" "" [(.int 0), (.int 0), (.int 0), (.int 0)] → z_Ob Z h' b14 "java/util/ArrayList" z_lay1 [(.int 0), (.ref a_DEF), (.int 0)] → z_Ob Z h' b16 "java/util/ArrayList" z_lay1 [(.int 0), .null, (.int 0)] → z_At p l e ({ frames := 5, cells := 27, slots := 126, locals := 70 } : Room) s m args below meth c n0 Q h' 5 26 (mkF m 109 #[.val (.ref p0), .val (.ref p1), .val (.ref b14), .unset, .unset, .unset, .unset, .unset, .unset, .unset, .unset, .unset, .unset, .unset, .unset] [(.ref b16)])) :
    z_At p l e ({ frames := 5, cells := 27, slots := 126, locals := 70 } : Room) s m args below meth c n0 Q h 0 0 (mkF m 0 #[.val (.ref p0), .val (.ref p1), .unset, .unset, .unset, .unset, .unset, .unset, .unset, .unset, .unset, .unset, .unset, .unset, .unset] []) := by
  have lt_p1 := o_p1.lt
  have lt_p4 := o_p4.lt
  have lt_p0 := o_p0.lt
  have lt_p7 := o_p7.lt
  have lt_p5 := o_p5.lt
  have lt_p8 := o_p8.lt
  refine z_aloadN C z_d19_0 rfl rfl 1 rfl ?_
  refine z_init0 C (z_w hw 142 rfl) (z_w hw 7 rfl) (z_w hw 8 rfl) z_d19_1 rfl (W := 0) (Nat.le_of_eq rfl) (by decide) (by decide) 4 rfl ?_
  refine z_aloadN C z_d19_4 rfl rfl 5 rfl ?_
  refine z_aloadN C z_d19_5 rfl rfl 6 rfl ?_
  refine z_callVp C o_p1.1 (z_c20_31 l hw S z0 old p1 p2 p3 p4 p5 p6 p7 o_p1 o_p4) (z_w hw 143 rfl) (z_w hw 144 rfl) (z_w hw 146 rfl) (z_w hw 145 rfl) (z_w hw 2 rfl) (z_w hw 147 rfl) (by decide) z_d19_6 rfl (argsL := []) (rest := [(.ref p0)]) rfl (lenOf z_pd8 rfl) (W := 1) (Nat.le_of_eq rfl) (by decide) (by decide) (by decide) (by decide) (by decide) (by decide) 9 rfl ?_
  refine z_putO C (z_w hw 148 rfl) Via.refl o_p0 (z_lay3_ok hw) 0 rfl (vs' := [(.int 3), .null, .null, .null, .null, .null, .null, .null, .null, .null, .null, (.int 0), (.int 0)]) rfl (Or.inr ⟨(z_w hw 149 rfl), rfl, rfl⟩) (z_w hw 137 rfl) (ty := .int) (by decide) (by first | rfl | decide) (by first | rfl | decide) g_p0 z_d19_9 12 rfl ?_
  intro h1 W1 o_p0_1
  have s1 : h1.size = h.size := W1.size
  have k1 : Keep h h1 [p0] := (Keep.refl h [p0]).wr W1 (Or.inl (by simp))
  refine z_aloadN C z_d19_12 rfl rfl 13 rfl ?_
  refine z_iconst C (v := (2 : Int32)) z_d19_13 (by decide) 14 rfl ?_
  refine z_aloadN C z_d19_14 rfl rfl 15 rfl ?_
  refine z_getO C (z_w hw 148 rfl) Via.refl o_p0_1 0 rfl rfl z_d19_15 18 rfl ?_
  refine z_imul C (z := (6 : Int32)) z_d19_18 (by decide) 19 rfl ?_
  refine z_iconst C (v := (2 : Int32)) z_d19_19 (by decide) 20 rfl ?_
  refine z_iadd C (z := (8 : Int32)) z_d19_20 (by decide) 21 rfl ?_
  refine z_anewarray C (z_w hw 150 rfl) (z_w hw 151 rfl) (by decide) (cap := 8) (by decide) (by decide) (ad := "[Ljava/math/BigInteger;") (by decide +kernel) (vs := [.null, .null, .null, .null, .null, .null, .null, .null]) (by rfl) z_d19_21 (by decide) (by decide) 24 rfl ?_
  intro h2 b2 g2 E2 o_b2
  have s2 : h1.size ≤ h2.size := E2.1
  have k2 : Keep h h2 [p0] := k1.ext E2
  have t2 := o_b2.lt
  have o_p0_2 := (o_p0_1.ext E2)
  refine z_putO C (z_w hw 152 rfl) Via.refl o_p0_2 (z_lay3_ok hw) 1 rfl (vs' := [(.int 3), (.ref b2), .null, .null, .null, .null, .null, .null, .null, .null, .null, (.int 0), (.int 0)]) rfl (Or.inr ⟨(z_w hw 153 rfl), rfl, rfl⟩) (z_w hw 137 rfl) (ty := (.array (.object "java/math/BigInteger"))) (by decide) (by first | rfl | decide) (by first | rfl | decide) g_p0 z_d19_24 27 rfl ?_
  intro h3 W3 o_p0_3
  have s3 : h3.size = h2.size := W3.size
  have k3 : Keep h h3 [p0] := k2.wr W3 (Or.inl (by simp))
  refine z_iconst C (v := (1 : Int32)) z_d19_27 (by decide) 28 rfl ?_
  refine z_istoreN C (Ls' := #[.val (.ref p0), .val (.ref p1), .val (.int 1), .unset, .unset, .unset, .unset, .unset, .unset, .unset, .unset, .unset, .unset, .unset, .unset]) z_d19_28 rfl 29 rfl ?_
  refine z_iloadN C z_d19_29 rfl 30 rfl ?_
  refine z_aloadN C z_d19_30 rfl rfl 31 rfl ?_
  refine z_getO C (z_w hw 148 rfl) Via.refl o_p0_3 0 rfl rfl z_d19_31 34 rfl ?_
  refine z_icmpN C z_d19_34 (by decide) 37 rfl ?_
  refine z_aloadN C z_d19_37 rfl rfl 38 rfl ?_
  refine z_getO C (z_w hw 152 rfl) Via.refl o_p0_3 1 rfl rfl z_d19_38 41 rfl ?_
  refine z_iconst C (v := (2 : Int32)) z_d19_41 (by decide) 42 rfl ?_
  refine z_iloadN C z_d19_42 rfl 43 rfl ?_
  refine z_imul C (z := (2 : Int32)) z_d19_43 (by decide) 44 rfl ?_
  refine z_aloadN C z_d19_44 rfl rfl 45 rfl ?_
  refine z_iloadN C z_d19_45 rfl 46 rfl ?_
  have zz3 : n0 ≤ h3.size := by omega
  have o_p1_3 := (((o_p1.other W1 (Ne.symm ne_p0_p1)).ext E2).other W3 (Ne.symm ne_p0_p1))
  have o_p4_3 := (((o_p4.other W1 (Ne.symm ne_p0_p4)).ext E2).other W3 (Ne.symm ne_p0_p4))
  have o_p7_3 := (((o_p7.other W1 (Ne.symm ne_p0_p7)).ext E2).other W3 (Ne.symm ne_p0_p7))
  have old3 := (((old.wr W1 g_p0).ext E2).wr W3 g_p0)
  refine z_callVp C o_p1_3.1 (z_c21_36 l hw S zz3 old3 p1 p2 p3 p4 p5 p6 p7 o_p1_3 o_p4_3 o_p7_3) (z_w hw 154 rfl) (z_w hw 155 rfl) (z_w hw 157 rfl) (z_w hw 156 rfl) (z_w hw 2 rfl) (z_w hw 158 rfl) (by decide) z_d19_46 rfl (argsL := [(.int 1)]) (rest := [(.int 2), (.ref b2)]) rfl (lenOf z_pd13 rfl) (W := 2) (Nat.le_of_eq rfl) (by decide) (by decide) (by decide) (by decide) (by decide) (by decide) 49 rfl ?_
  have n_b2_p0 : (b2 : Nat) ≠ p0 := by omega
  have o_b2_3 := (o_b2.other W3 n_b2_p0)
  have e_b2 : n0 ≤ (b2 : Nat) := by omega
  refine z_aastore C o_b2_3 rfl (o_b2_3.sto (by decide) (Ins.self (S.2.1.2.ext old3.2).1)) (by decide) (of_decide_eq_true rfl) (vs' := [.null, .null, (.ref a_ONE), .null, .null, .null, .null, .null]) (by rfl) e_b2 z_d19_49 50 rfl ?_
  intro h4 W4 o_b2_4
  have s4 : h4.size = h3.size := W4.size
  have q_b2 : h.size ≤ (b2 : Nat) := by omega
  have k4 : Keep h h4 [p0] := k3.wr W4 (Or.inr q_b2)
  refine z_aloadN C z_d19_50 rfl rfl 51 rfl ?_
  have o_p0_4 := (o_p0_3.other W4 n_b2_p0.symm)
  refine z_getO C (z_w hw 152 rfl) Via.refl o_p0_4 1 rfl rfl z_d19_51 54 rfl ?_
  refine z_iconst C (v := (2 : Int32)) z_d19_54 (by decide) 55 rfl ?_
  refine z_iloadN C z_d19_55 rfl 56 rfl ?_
  refine z_imul C (z := (2 : Int32)) z_d19_56 (by decide) 57 rfl ?_
  refine z_iconst C (v := (1 : Int32)) z_d19_57 (by decide) 58 rfl ?_
  refine z_iadd C (z := (3 : Int32)) z_d19_58 (by decide) 59 rfl ?_
  refine z_aloadN C z_d19_59 rfl rfl 60 rfl ?_
  refine z_iloadN C z_d19_60 rfl 61 rfl ?_
  refine z_ineg C (z := (-1 : Int32)) z_d19_61 (by decide) 62 rfl ?_
  have zz4 : n0 ≤ h4.size := by omega
  have n_p1_b2 : (p1 : Nat) ≠ b2 := by omega
  have o_p1_4 := (o_p1_3.other W4 n_p1_b2)
  have n_p5_b2 : (p5 : Nat) ≠ b2 := by omega
  have o_p5_4 := ((((o_p5.other W1 (Ne.symm ne_p0_p5)).ext E2).other W3 (Ne.symm ne_p0_p5)).other W4 n_p5_b2)
  have n_p8_b2 : (p8 : Nat) ≠ b2 := by omega
  have o_p8_4 := ((((o_p8.other W1 (Ne.symm ne_p0_p8)).ext E2).other W3 (Ne.symm ne_p0_p8)).other W4 n_p8_b2)
  have old4 := (old3.wr W4 e_b2)
  refine z_callVp C o_p1_4.1 (z_c21_37 l hw S zz4 old4 p1 p2 p3 p4 p5 p6 p8 o_p1_4 o_p5_4 o_p8_4) (z_w hw 154 rfl) (z_w hw 155 rfl) (z_w hw 157 rfl) (z_w hw 156 rfl) (z_w hw 2 rfl) (z_w hw 158 rfl) (by decide) z_d19_62 rfl (argsL := [(.int (-1))]) (rest := [(.int 3), (.ref b2)]) rfl (lenOf z_pd13 rfl) (W := 2) (Nat.le_of_eq rfl) (by decide) (by decide) (by decide) (by decide) (by decide) (by decide) 65 rfl ?_
  refine z_aastore C o_b2_4 rfl (o_b2_4.sto (by decide) (Ins.self (S.2.1.2.ext old4.2).1)) (by decide) (of_decide_eq_true rfl) (vs' := [.null, .null, (.ref a_ONE), (.ref a_ONE), .null, .null, .null, .null]) (by rfl) e_b2 z_d19_65 66 rfl ?_
  intro h5 W5 o_b2_5
  have s5 : h5.size = h4.size := W5.size
  have k5 : Keep h h5 [p0] := k4.wr W5 (Or.inr q_b2)
  refine z_iinc C (w := (2 : Int32)) (Ls' := #[.val (.ref p0), .val (.ref p1), .val (.int 2), .unset, .unset, .unset, .unset, .unset, .unset, .unset, .unset, .unset, .unset, .unset, .unset]) z_d19_66 rfl (by decide) rfl 69 rfl ?_
  refine z_goto C z_d19_69 (by decide) 29 (by decide) ?_
  refine z_iloadN C z_d19_29 rfl 30 rfl ?_
  refine z_aloadN C z_d19_30 rfl rfl 31 rfl ?_
  have o_p0_5 := (o_p0_4.other W5 n_b2_p0.symm)
  refine z_getO C (z_w hw 148 rfl) Via.refl o_p0_5 0 rfl rfl z_d19_31 34 rfl ?_
  refine z_icmpN C z_d19_34 (by decide) 37 rfl ?_
  refine z_aloadN C z_d19_37 rfl rfl 38 rfl ?_
  refine z_getO C (z_w hw 152 rfl) Via.refl o_p0_5 1 rfl rfl z_d19_38 41 rfl ?_
  refine z_iconst C (v := (2 : Int32)) z_d19_41 (by decide) 42 rfl ?_
  refine z_iloadN C z_d19_42 rfl 43 rfl ?_
  refine z_imul C (z := (4 : Int32)) z_d19_43 (by decide) 44 rfl ?_
  refine z_aloadN C z_d19_44 rfl rfl 45 rfl ?_
  refine z_iloadN C z_d19_45 rfl 46 rfl ?_
  have zz5 : n0 ≤ h5.size := by omega
  have o_p1_5 := (o_p1_4.other W5 n_p1_b2)
  have n_p4_b2 : (p4 : Nat) ≠ b2 := by omega
  have o_p4_5 := ((o_p4_3.other W4 n_p4_b2).other W5 n_p4_b2)
  have n_p7_b2 : (p7 : Nat) ≠ b2 := by omega
  have o_p7_5 := ((o_p7_3.other W4 n_p7_b2).other W5 n_p7_b2)
  have old5 := (old4.wr W5 e_b2)
  refine z_callVp C o_p1_5.1 (z_c21_42 l hw S zz5 old5 p1 p2 p3 p4 p5 p6 p7 o_p1_5 o_p4_5 o_p7_5) (z_w hw 154 rfl) (z_w hw 155 rfl) (z_w hw 157 rfl) (z_w hw 156 rfl) (z_w hw 2 rfl) (z_w hw 158 rfl) (by decide) z_d19_46 rfl (argsL := [(.int 2)]) (rest := [(.int 4), (.ref b2)]) rfl (lenOf z_pd13 rfl) (W := 2) (Nat.le_of_eq rfl) (by decide) (by decide) (by decide) (by decide) (by decide) (by decide) 49 rfl ?_
  refine z_aastore C o_b2_5 rfl (o_b2_5.sto (by decide) (Ins.self (S.2.1.2.ext old5.2).1)) (by decide) (of_decide_eq_true rfl) (vs' := [.null, .null, (.ref a_ONE), (.ref a_ONE), (.ref a_ONE), .null, .null, .null]) (by rfl) e_b2 z_d19_49 50 rfl ?_
  intro h6 W6 o_b2_6
  have s6 : h6.size = h5.size := W6.size
  have k6 : Keep h h6 [p0] := k5.wr W6 (Or.inr q_b2)
  refine z_aloadN C z_d19_50 rfl rfl 51 rfl ?_
  have o_p0_6 := (o_p0_5.other W6 n_b2_p0.symm)
  refine z_getO C (z_w hw 152 rfl) Via.refl o_p0_6 1 rfl rfl z_d19_51 54 rfl ?_
  refine z_iconst C (v := (2 : Int32)) z_d19_54 (by decide) 55 rfl ?_
  refine z_iloadN C z_d19_55 rfl 56 rfl ?_
  refine z_imul C (z := (4 : Int32)) z_d19_56 (by decide) 57 rfl ?_
  refine z_iconst C (v := (1 : Int32)) z_d19_57 (by decide) 58 rfl ?_
  refine z_iadd C (z := (5 : Int32)) z_d19_58 (by decide) 59 rfl ?_
  refine z_aloadN C z_d19_59 rfl rfl 60 rfl ?_
  refine z_iloadN C z_d19_60 rfl 61 rfl ?_
  refine z_ineg C (z := (-2 : Int32)) z_d19_61 (by decide) 62 rfl ?_
  have zz6 : n0 ≤ h6.size := by omega
  have o_p1_6 := (o_p1_5.other W6 n_p1_b2)
  have o_p5_6 := ((o_p5_4.other W5 n_p5_b2).other W6 n_p5_b2)
  have o_p8_6 := ((o_p8_4.other W5 n_p8_b2).other W6 n_p8_b2)
  have old6 := (old5.wr W6 e_b2)
  refine z_callVp C o_p1_6.1 (z_c21_43 l hw S zz6 old6 p1 p2 p3 p4 p5 p6 p8 o_p1_6 o_p5_6 o_p8_6) (z_w hw 154 rfl) (z_w hw 155 rfl) (z_w hw 157 rfl) (z_w hw 156 rfl) (z_w hw 2 rfl) (z_w hw 158 rfl) (by decide) z_d19_62 rfl (argsL := [(.int (-2))]) (rest := [(.int 5), (.ref b2)]) rfl (lenOf z_pd13 rfl) (W := 2) (Nat.le_of_eq rfl) (by decide) (by decide) (by decide) (by decide) (by decide) (by decide) 65 rfl ?_
  refine z_aastore C o_b2_6 rfl (o_b2_6.sto (by decide) (Ins.self (S.2.1.2.ext old6.2).1)) (by decide) (of_decide_eq_true rfl) (vs' := [.null, .null, (.ref a_ONE), (.ref a_ONE), (.ref a_ONE), (.ref a_ONE), .null, .null]) (by rfl) e_b2 z_d19_65 66 rfl ?_
  intro h7 W7 o_b2_7
  have s7 : h7.size = h6.size := W7.size
  have k7 : Keep h h7 [p0] := k6.wr W7 (Or.inr q_b2)
  refine z_iinc C (w := (3 : Int32)) (Ls' := #[.val (.ref p0), .val (.ref p1), .val (.int 3), .unset, .unset, .unset, .unset, .unset, .unset, .unset, .unset, .unset, .unset, .unset, .unset]) z_d19_66 rfl (by decide) rfl 69 rfl ?_
  refine z_goto C z_d19_69 (by decide) 29 (by decide) ?_
  refine z_iloadN C z_d19_29 rfl 30 rfl ?_
  refine z_aloadN C z_d19_30 rfl rfl 31 rfl ?_
  have o_p0_7 := (o_p0_6.other W7 n_b2_p0.symm)
  refine z_getO C (z_w hw 148 rfl) Via.refl o_p0_7 0 rfl rfl z_d19_31 34 rfl ?_
  refine z_icmpN C z_d19_34 (by decide) 37 rfl ?_
  refine z_aloadN C z_d19_37 rfl rfl 38 rfl ?_
  refine z_getO C (z_w hw 152 rfl) Via.refl o_p0_7 1 rfl rfl z_d19_38 41 rfl ?_
  refine z_iconst C (v := (2 : Int32)) z_d19_41 (by decide) 42 rfl ?_
  refine z_iloadN C z_d19_42 rfl 43 rfl ?_
  refine z_imul C (z := (6 : Int32)) z_d19_43 (by decide) 44 rfl ?_
  refine z_aloadN C z_d19_44 rfl rfl 45 rfl ?_
  refine z_iloadN C z_d19_45 rfl 46 rfl ?_
  have zz7 : n0 ≤ h7.size := by omega
  have o_p1_7 := (o_p1_6.other W7 n_p1_b2)
  have o_p4_7 := ((o_p4_5.other W6 n_p4_b2).other W7 n_p4_b2)
  have o_p7_7 := ((o_p7_5.other W6 n_p7_b2).other W7 n_p7_b2)
  have old7 := (old6.wr W7 e_b2)
  refine z_callVp C o_p1_7.1 (z_c21_48 l hw S zz7 old7 p1 p2 p3 p4 p5 p6 p7 o_p1_7 o_p4_7 o_p7_7) (z_w hw 154 rfl) (z_w hw 155 rfl) (z_w hw 157 rfl) (z_w hw 156 rfl) (z_w hw 2 rfl) (z_w hw 158 rfl) (by decide) z_d19_46 rfl (argsL := [(.int 3)]) (rest := [(.int 6), (.ref b2)]) rfl (lenOf z_pd13 rfl) (W := 2) (Nat.le_of_eq rfl) (by decide) (by decide) (by decide) (by decide) (by decide) (by decide) 49 rfl ?_
  refine z_aastore C o_b2_7 rfl (o_b2_7.sto (by decide) (Ins.self (S.2.1.2.ext old7.2).1)) (by decide) (of_decide_eq_true rfl) (vs' := [.null, .null, (.ref a_ONE), (.ref a_ONE), (.ref a_ONE), (.ref a_ONE), (.ref a_ONE), .null]) (by rfl) e_b2 z_d19_49 50 rfl ?_
  intro h8 W8 o_b2_8
  have s8 : h8.size = h7.size := W8.size
  have k8 : Keep h h8 [p0] := k7.wr W8 (Or.inr q_b2)
  refine z_aloadN C z_d19_50 rfl rfl 51 rfl ?_
  have o_p0_8 := (o_p0_7.other W8 n_b2_p0.symm)
  refine z_getO C (z_w hw 152 rfl) Via.refl o_p0_8 1 rfl rfl z_d19_51 54 rfl ?_
  refine z_iconst C (v := (2 : Int32)) z_d19_54 (by decide) 55 rfl ?_
  refine z_iloadN C z_d19_55 rfl 56 rfl ?_
  refine z_imul C (z := (6 : Int32)) z_d19_56 (by decide) 57 rfl ?_
  refine z_iconst C (v := (1 : Int32)) z_d19_57 (by decide) 58 rfl ?_
  refine z_iadd C (z := (7 : Int32)) z_d19_58 (by decide) 59 rfl ?_
  refine z_aloadN C z_d19_59 rfl rfl 60 rfl ?_
  refine z_iloadN C z_d19_60 rfl 61 rfl ?_
  refine z_ineg C (z := (-3 : Int32)) z_d19_61 (by decide) 62 rfl ?_
  have zz8 : n0 ≤ h8.size := by omega
  have o_p1_8 := (o_p1_7.other W8 n_p1_b2)
  have o_p5_8 := ((o_p5_6.other W7 n_p5_b2).other W8 n_p5_b2)
  have o_p8_8 := ((o_p8_6.other W7 n_p8_b2).other W8 n_p8_b2)
  have old8 := (old7.wr W8 e_b2)
  refine z_callVp C o_p1_8.1 (z_c21_49 l hw S zz8 old8 p1 p2 p3 p4 p5 p6 p8 o_p1_8 o_p5_8 o_p8_8) (z_w hw 154 rfl) (z_w hw 155 rfl) (z_w hw 157 rfl) (z_w hw 156 rfl) (z_w hw 2 rfl) (z_w hw 158 rfl) (by decide) z_d19_62 rfl (argsL := [(.int (-3))]) (rest := [(.int 7), (.ref b2)]) rfl (lenOf z_pd13 rfl) (W := 2) (Nat.le_of_eq rfl) (by decide) (by decide) (by decide) (by decide) (by decide) (by decide) 65 rfl ?_
  refine z_aastore C o_b2_8 rfl (o_b2_8.sto (by decide) (Ins.self (S.2.1.2.ext old8.2).1)) (by decide) (of_decide_eq_true rfl) (vs' := [.null, .null, (.ref a_ONE), (.ref a_ONE), (.ref a_ONE), (.ref a_ONE), (.ref a_ONE), (.ref a_ONE)]) (by rfl) e_b2 z_d19_65 66 rfl ?_
  intro h9 W9 o_b2_9
  have s9 : h9.size = h8.size := W9.size
  have k9 : Keep h h9 [p0] := k8.wr W9 (Or.inr q_b2)
  refine z_iinc C (w := (4 : Int32)) (Ls' := #[.val (.ref p0), .val (.ref p1), .val (.int 4), .unset, .unset, .unset, .unset, .unset, .unset, .unset, .unset, .unset, .unset, .unset, .unset]) z_d19_66 rfl (by decide) rfl 69 rfl ?_
  refine z_goto C z_d19_69 (by decide) 29 (by decide) ?_
  refine z_iloadN C z_d19_29 rfl 30 rfl ?_
  refine z_aloadN C z_d19_30 rfl rfl 31 rfl ?_
  have o_p0_9 := (o_p0_8.other W9 n_b2_p0.symm)
  refine z_getO C (z_w hw 148 rfl) Via.refl o_p0_9 0 rfl rfl z_d19_31 34 rfl ?_
  refine z_icmpY C z_d19_34 (by decide) (by decide) 72 (by decide) ?_
  refine z_aloadN C z_d19_72 rfl rfl 73 rfl ?_
  refine z_iconst C (v := (2 : Int32)) z_d19_73 (by decide) 74 rfl ?_
  refine z_aloadN C z_d19_74 rfl rfl 75 rfl ?_
  refine z_getO C (z_w hw 148 rfl) Via.refl o_p0_9 0 rfl rfl z_d19_75 78 rfl ?_
  refine z_imul C (z := (6 : Int32)) z_d19_78 (by decide) 79 rfl ?_
  refine z_iconst C (v := (2 : Int32)) z_d19_79 (by decide) 80 rfl ?_
  refine z_iadd C (z := (8 : Int32)) z_d19_80 (by decide) 81 rfl ?_
  refine z_newarray C (aty := .byte) (z_w hw 182 rfl) (by decide) (cap := 8) (by decide) (by decide) (ad := "[B") (by decide +kernel) (vs := [(.int 0), (.int 0), (.int 0), (.int 0), (.int 0), (.int 0), (.int 0), (.int 0)]) (by rfl) z_d19_81 (by decide) (by decide) 83 rfl ?_
  intro h10 b10 g10 E10 o_b10
  have s10 : h9.size ≤ h10.size := E10.1
  have k10 : Keep h h10 [p0] := k9.ext E10
  have o_b10 : z_Ar Z h10 b10 .byte "[B" "" [(.int 0), (.int 0), (.int 0), (.int 0), (.int 0), (.int 0), (.int 0), (.int 0)] := o_b10
  have t10 := o_b10.lt
  have o_p0_10 := (o_p0_9.ext E10)
  refine z_putO C (z_w hw 183 rfl) Via.refl o_p0_10 (z_lay3_ok hw) 2 rfl (vs' := [(.int 3), (.ref b2), (.ref b10), .null, .null, .null, .null, .null, .null, .null, .null, (.int 0), (.int 0)]) rfl (Or.inr ⟨(z_w hw 184 rfl), rfl, rfl⟩) (z_w hw 137 rfl) (ty := (.array .byte)) (by decide) (by first | rfl | decide) (by first | rfl | decide) g_p0 z_d19_83 86 rfl ?_
  intro h11 W11 o_p0_11
  have s11 : h11.size = h10.size := W11.size
  have k11 : Keep h h11 [p0] := k10.wr W11 (Or.inl (by simp))
  refine z_aloadN C z_d19_86 rfl rfl 87 rfl ?_
  refine z_aloadN C z_d19_87 rfl rfl 88 rfl ?_
  refine z_getO C (z_w hw 148 rfl) Via.refl o_p0_11 0 rfl rfl z_d19_88 91 rfl ?_
  refine z_iconst C (v := (1 : Int32)) z_d19_91 (by decide) 92 rfl ?_
  refine z_iadd C (z := (4 : Int32)) z_d19_92 (by decide) 93 rfl ?_
  refine z_newarray C (aty := .int) (z_w hw 115 rfl) (by decide) (cap := 4) (by decide) (by decide) (ad := "[I") (by decide +kernel) (vs := [(.int 0), (.int 0), (.int 0), (.int 0)]) (by rfl) z_d19_93 (by decide) (by decide) 95 rfl ?_
  intro h12 b12 g12 E12 o_b12
  have s12 : h11.size ≤ h12.size := E12.1
  have k12 : Keep h h12 [p0] := k11.ext E12
  have o_b12 : z_Ar Z h12 b12 .int "[I" "" [(.int 0), (.int 0), (.int 0), (.int 0)] := o_b12
  have t12 := o_b12.lt
  have o_p0_12 := (o_p0_11.ext E12)
  refine z_putO C (z_w hw 185 rfl) Via.refl o_p0_12 (z_lay3_ok hw) 3 rfl (vs' := [(.int 3), (.ref b2), (.ref b10), (.ref b12), .null, .null, .null, .null, .null, .null, .null, (.int 0), (.int 0)]) rfl (Or.inr ⟨(z_w hw 186 rfl), rfl, rfl⟩) (z_w hw 137 rfl) (ty := (.array .int)) (by decide) (by first | rfl | decide) (by first | rfl | decide) g_p0 z_d19_95 98 rfl ?_
  intro h13 W13 o_p0_13
  have s13 : h13.size = h12.size := W13.size
  have k13 : Keep h h13 [p0] := k12.wr W13 (Or.inl (by simp))
  refine z_newO C (z_w hw 187 rfl) (z_w hw 10 rfl) (z_w hw 11 rfl) (z_lay1_ok hw) z_lay1_df z_d19_98 (by decide) (by decide) 101 rfl ?_
  intro h14 b14 g14 E14 o_b14
  have s14 : h13.size ≤ h14.size := E14.1
  have k14 : Keep h h14 [p0] := k13.ext E14
  have t14 := o_b14.lt
  refine z_dup C z_d19_101 rfl 102 rfl ?_
  have zz14 : n0 ≤ h14.size := by omega
  have old14 := ((((((old8.wr W9 e_b2).ext E10).wr W11 g_p0).ext E12).wr W13 g_p0).ext E14)
  have e_b14 : n0 ≤ (b14 : Nat) := by omega
  refine z_callI C rfl (z_c3_2 l hw S zz14 old14 b14 o_b14 e_b14) (z_w hw 188 rfl) (z_w hw 13 rfl) (z_w hw 11 rfl) (z_w hw 14 rfl) (by decide) z_d19_102 rfl (argsL := []) (rest := [(.ref b14)]) rfl (lenOf z_pd0 rfl) (W := 1) (Nat.le_of_eq rfl) (by decide) (by decide) (by decide) (by decide) 105 rfl ?_
  rintro h15 ⟨K15, o_b14_15⟩
  have s15 : h14.size ≤ h15.size := K15.1
  have q_b14 : h.size ≤ (b14 : Nat) := by omega
  have k15 : Keep h h15 [p0] := k14.trans K15 (allS (Or.inr q_b14) all0)
  refine z_astoreN C (Ls' := #[.val (.ref p0), .val (.ref p1), .val (.ref b14), .unset, .unset, .unset, .unset, .unset, .unset, .unset, .unset, .unset, .unset, .unset, .unset]) z_d19_105 rfl rfl 106 rfl ?_
  refine z_newO C (z_w hw 187 rfl) (z_w hw 10 rfl) (z_w hw 11 rfl) (z_lay1_ok hw) z_lay1_df z_d19_106 (by decide) (by decide) 109 rfl ?_
  intro h16 b16 g16 E16 o_b16
  have s16 : h15.size ≤ h16.size := E16.1
  have k16 : Keep h h16 [p0] := k15.ext E16
  have t16 := o_b16.lt
  have n_p0_b14 : (p0 : Nat) ≠ b14 := by omega
  have o_p0_16 := (((o_p0_13.ext E14).keep K15 (ninS n_p0_b14 nin0)).ext E16)
  have n_b2_b14 : (b2 : Nat) ≠ b14 := by omega
  have o_b2_16 := (((((((o_b2_9.ext E10).other W11 n_b2_p0).ext E12).other W13 n_b2_p0).ext E14).keep K15 (ninS n_b2_b14 nin0)).ext E16)
  have n_b10_p0 : (b10 : Nat) ≠ p0 := by omega
  have n_b10_b14 : (b10 : Nat) ≠ b14 := by omega
  have o_b10_16 := ((((((o_b10.other W11 n_b10_p0).ext E12).other W13 n_b10_p0).ext E14).keep K15 (ninS n_b10_b14 nin0)).ext E16)
  have n_b12_p0 : (b12 : Nat) ≠ p0 := by omega
  have n_b12_b14 : (b12 : Nat) ≠ b14 := by omega
  have o_b12_16 := ((((o_b12.other W13 n_b12_p0).ext E14).keep K15 (ninS n_b12_b14 nin0)).ext E16)
  have o_b14_16 := (o_b14_15.ext E16)
  exact K h16 b2 b10 b12 b14 b16 k16 (by omega) (by omega) (by omega) (by omega) (by omega) (by omega) o_p0_16 o_b2_16 o_b10_16 o_b12_16 o_b14_16 o_b16
set_option maxHeartbeats 2000000 in
theorem z_c26_51 (hw : z_T Z a0) (S : z_St Z a_DEF a_ONE a_NONE) (z0 : n0 ≤ h.size) (old : Old Z n0 h) (p0 : Nat) (p1 : Nat) (p2 : Nat) (p3 : Nat) (p4 : Nat) (p5 : Nat) (o_p0 : z_Ob Z h p0 "com/example/variegate/variegate/service/Cnf" z_lay0 [(.ref p1), (.ref p2), (.ref p3), (.ref p4), (.ref p5), (.long (2 : Int64))]) :
    z_Met l Z (⟨"com/example/variegate/variegate/service/Cnf", "clauses", "()Ljava/util/List;"⟩ : MethodName) prog_73_method_9_code 1 (some (.object "java/util/List")) [] ({ frames := 0, cells := 0, slots := 0, locals := 0 } : Room) n0 #[(.ref p0)] h (z_pure (.ref p1) h) := by
  refine z_met (Ls := #[.val (.ref p0)]) (by first | exact plainFor_of_name (by first | (simp [plainName, overriddenIn]; done) | decide +kernel) | decide +kernel) rfl ?_
  intro p e s m below meth c C
  refine z_aloadN C z_d26_0 rfl rfl 1 rfl ?_
  refine z_getO C (z_w hw 33 rfl) Via.refl o_p0 0 rfl rfl z_d26_1 4 rfl ?_
  exact z_areturn C rfl rfl z_d26_4 (by decide) (by decide) ⟨rfl, rfl⟩
set_option maxHeartbeats 2000000 in
theorem z_c24_52 (hw : z_T Z a0) (S : z_St Z a_DEF a_ONE a_NONE) (z0 : n0 ≤ h.size) (old : Old Z n0 h) :
    z_Met l Z (⟨"jdk/internal/util/Preconditions", "checkIndex", "(IILjava/util/function/BiFunction;)I"⟩ : MethodName) jdk_41_method_11_code 3 (some .int) [] ({ frames := 0, cells := 0, slots := 0, locals := 0 } : Room) n0 #[(.int 0), (.int 2), .null] h (z_pure (.int 0) h) := by
  refine z_met (Ls := #[.val (.int 0), .val (.int 2), .val .null]) (by first | exact plainFor_of_name (by first | (simp [plainName, overriddenIn]; done) | decide +kernel) | decide +kernel) rfl ?_
  intro p e s m below meth c C
  refine z_iloadN C z_d24_0 rfl 1 rfl ?_
  refine z_ifN C z_d24_1 (by decide) 4 rfl ?_
  refine z_iloadN C z_d24_4 rfl 5 rfl ?_
  refine z_iloadN C z_d24_5 rfl 6 rfl ?_
  refine z_icmpY C z_d24_6 (by decide) (by decide) 16 (by decide) ?_
  refine z_iloadN C z_d24_16 rfl 17 rfl ?_
  exact z_ireturn C (Or.inl rfl) rfl z_d24_17 (by decide) (by decide) ⟨rfl, rfl⟩
set_option maxHeartbeats 2000000 in
theorem z_c23_53 (hw : z_T Z a0) (S : z_St Z a_DEF a_ONE a_NONE) (z0 : n0 ≤ h.size) (old : Old Z n0 h) :
    z_Met l Z (⟨"java/util/Objects", "checkIndex", "(II)I"⟩ : MethodName) jdk_31_method_17_code 2 (some .int) [] ({ frames := 1, cells := 0, slots := 0, locals := 14 } : Room) n0 #[(.int 0), (.int 2)] h (z_pure (.int 0) h) := by
  refine z_met (Ls := #[.val (.int 0), .val (.int 2)]) (by first | exact plainFor_of_name (by first | (simp [plainName, overriddenIn]; done) | decide +kernel) | decide +kernel) rfl ?_
  intro p e s m below meth c C
  refine z_iloadN C z_d23_0 rfl 1 rfl ?_
  refine z_iloadN C z_d23_1 rfl 2 rfl ?_
  refine z_aconst_null C z_d23_2 3 rfl ?_
  refine z_callSp C (z_c24_52 l hw S z0 old) (z_w hw 171 rfl) (z_w hw 172 rfl) (z_w hw 173 rfl) (z_w hw 174 rfl) (by decide) z_d23_3 rfl (argsL := [(.int 0), (.int 2), .null]) (rest := []) rfl (lenOf z_pd11 rfl) (W := 0) (Nat.le_of_eq rfl) (by decide) (by decide) (by decide) (by decide) (by decide) (by decide) 6 rfl ?_
  exact z_ireturn C (Or.inl rfl) rfl z_d23_6 (by decide) (by decide) ⟨rfl, rfl⟩
set_option maxHeartbeats 2000000 in
theorem z_c25_54 (hw : z_T Z a0) (S : z_St Z a_DEF a_ONE a_NONE) (z0 : n0 ≤ h.size) (old : Old Z n0 h) (p0 : Nat) (p1 : Nat) (p2 : Nat) (p3 : Nat) (o_p0 : z_Ob Z h p0 "java/util/ArrayList" z_lay1 [(.int 2), (.ref p1), (.int 2)]) (o_p1 : z_Ar Z h p1 (.object "java/lang/Object") "[Ljava/lang/Object;" "java/lang/Object" [(.ref p2), (.ref p3), .null, .null, .null, .null, .null, .null, .null, .null]) :
    z_Met l Z (⟨"java/util/ArrayList", "elementData", "(I)Ljava/lang/Object;"⟩ : MethodName) jdk_38_method_18_code 2 (some (.object "java/lang/Object")) [] ({ frames := 0, cells := 0, slots := 0, locals := 0 } : Room) n0 #[(.ref p0), (.int 0)] h (z_pure (.ref p2) h) := by
  refine z_met (Ls := #[.val (.ref p0), .val (.int 0)]) (by first | exact plainFor_of_name (by first | (simp [plainName, overriddenIn]; done) | decide +kernel) | decide +kernel) rfl ?_
  intro p e s m below meth c C
  refine z_aloadN C z_d25_0 rfl rfl 1 rfl ?_
  refine z_getO C (z_w hw 31 rfl) Via.refl o_p0 1 rfl rfl z_d25_1 4 rfl ?_
  refine z_iloadN C z_d25_4 rfl 5 rfl ?_
  refine z_aaload C o_p1 rfl (by decide) (v := (.ref p2)) (by rfl) z_d25_5 6 rfl ?_
  exact z_areturn C rfl rfl z_d25_6 (by decide) (by decide) ⟨rfl, rfl⟩
set_option maxHeartbeats 2000000 in
theorem z_c22_55 (hw : z_T Z a0) (S : z_St Z a_DEF a_ONE a_NONE) (z0 : n0 ≤ h.size) (old : Old Z n0 h) (p0 : Nat) (p1 : Nat) (p2 : Nat) (p3 : Nat) (o_p0 : z_Ob Z h p0 "java/util/ArrayList" z_lay1 [(.int 2), (.ref p1), (.int 2)]) (o_p1 : z_Ar Z h p1 (.object "java/lang/Object") "[Ljava/lang/Object;" "java/lang/Object" [(.ref p2), (.ref p3), .null, .null, .null, .null, .null, .null, .null, .null]) :
    z_Met l Z (⟨"java/util/ArrayList", "get", "(I)Ljava/lang/Object;"⟩ : MethodName) jdk_38_method_20_code 2 (some (.object "java/lang/Object")) [] ({ frames := 2, cells := 0, slots := 0, locals := 27 } : Room) n0 #[(.ref p0), (.int 0)] h (z_pure (.ref p2) h) := by
  refine z_met (Ls := #[.val (.ref p0), .val (.int 0)]) (by first | exact plainFor_of_name (by first | (simp [plainName, overriddenIn]; done) | decide +kernel) | decide +kernel) rfl ?_
  intro p e s m below meth c C
  refine z_iloadN C z_d22_0 rfl 1 rfl ?_
  refine z_aloadN C z_d22_1 rfl rfl 2 rfl ?_
  refine z_getO C (z_w hw 83 rfl) Via.refl o_p0 2 rfl rfl z_d22_2 5 rfl ?_
  refine z_callSp C (z_c23_53 l hw S z0 old) (z_w hw 167 rfl) (z_w hw 168 rfl) (z_w hw 169 rfl) (z_w hw 170 rfl) (by decide) z_d22_5 rfl (argsL := [(.int 0), (.int 2)]) (rest := []) rfl (lenOf z_pd3 rfl) (W := 0) (Nat.le_of_eq rfl) (by decide) (by decide) (by decide) (by decide) (by decide) (by decide) 8 rfl ?_
  refine z_pop C z_d22_8 rfl 9 rfl ?_
  refine z_aloadN C z_d22_9 rfl rfl 10 rfl ?_
  refine z_iloadN C z_d22_10 rfl 11 rfl ?_
  refine z_callVp C o_p0.1 (z_c25_54 l hw S z0 old p0 p1 p2 p3 o_p0 o_p1) (z_w hw 175 rfl) (z_w hw 176 rfl) (z_w hw 178 rfl) (z_w hw 177 rfl) (z_w hw 11 rfl) (z_w hw 179 rfl) (by decide) z_d22_11 rfl (argsL := [(.int 0)]) (rest := []) rfl (lenOf z_pd12 rfl) (W := 0) (Nat.le_of_eq rfl) (by decide) (by decide) (by decide) (by decide) (by decide) (by decide) 14 rfl ?_
  exact z_areturn C rfl rfl z_d22_14 (by decide) (by decide) ⟨rfl, rfl⟩
set_option maxHeartbeats 2000000 in
theorem z_c27_56 (hw : z_T Z a0) (S : z_St Z a_DEF a_ONE a_NONE) (z0 : n0 ≤ h.size) (old : Old Z n0 h) (y0 : Int32) (y1 : Int32) (y2 : Int32) (p0 : Nat) (o_p0 : z_Ar Z h p0 .int "[I" "" [(.int y0), (.int y1), (.int y2)]) :
    z_Met l Z (⟨"com/example/variegate/variegate/service/Propagation", "toLiterals", "([I)[I"⟩ : MethodName) prog_97_method_2_code 3 (some (.array .int)) [] ({ frames := 0, cells := 1, slots := 3, locals := 0 } : Room) n0 #[(.ref p0)] h (z_val fun w h' => ∃ b1 : Nat, w = (.ref b1) ∧ Keep h h' [] ∧ h.size ≤ b1 ∧ b1 < h'.size ∧ z_Ar Z h' b1 .int "[I" "" [(.int (z_ix y0)), (.int (z_ix y1)), (.int (z_ix y2))]) := by
  have lt_p0 := o_p0.lt
  refine z_met (Ls := #[.val (.ref p0), .unset, .unset]) (by first | exact plainFor_of_name (by first | (simp [plainName, overriddenIn]; done) | decide +kernel) | decide +kernel) rfl ?_
  intro p e s m below meth c C
  refine z_aloadN C z_d27_0 rfl rfl 1 rfl ?_
  refine z_arraylength C (z := (3 : Int32)) o_p0 (by rfl) z_d27_1 2 rfl ?_
  refine z_newarray C (aty := .int) (z_w hw 115 rfl) (by decide) (cap := 3) (by decide) (by decide) (ad := "[I") (by decide +kernel) (vs := [(.int 0), (.int 0), (.int 0)]) (by rfl) z_d27_2 (by decide) (by decide) 4 rfl ?_
  intro h1 b1 g1 E1 o_b1
  have s1 : h.size ≤ h1.size := E1.1
  have k1 : Keep h h1 [] := (Keep.refl h []).ext E1
  have o_b1 : z_Ar Z h1 b1 .int "[I" "" [(.int 0), (.int 0), (.int 0)] := o_b1
  have t1 := o_b1.lt
  refine z_astoreN C (Ls' := #[.val (.ref p0), .val (.ref b1), .unset]) z_d27_4 rfl rfl 5 rfl ?_
  refine z_iconst C (v := (0 : Int32)) z_d27_5 (by decide) 6 rfl ?_
  refine z_istoreN C (Ls' := #[.val (.ref p0), .val (.ref b1), .val (.int 0)]) z_d27_6 rfl 7 rfl ?_
  refine z_iloadN C z_d27_7 rfl 8 rfl ?_
  refine z_aloadN C z_d27_8 rfl rfl 9 rfl ?_
  have o_p0_1 := (o_p0.ext E1)
  refine z_arraylength C (z := (3 : Int32)) o_p0_1 (by rfl) z_d27_9 10 rfl ?_
  refine z_icmpN C z_d27_10 (by decide) 13 rfl ?_
  refine z_aloadN C z_d27_13 rfl rfl 14 rfl ?_
  refine z_iloadN C z_d27_14 rfl 15 rfl ?_
  refine z_cut (fJ := mkF m 37 #[.val (.ref p0), .val (.ref b1), .val (.int 0)] [(.int (z_ix y0)), (.int 0), (.ref b1)]) (fun K => ?_) ?_
  · refine z_aloadN C z_d27_15 rfl rfl 16 rfl ?_
    refine z_iloadN C z_d27_16 rfl 17 rfl ?_
    refine z_iaload C o_p0_1 (by decide) (v := (.int y0)) (by rfl) z_d27_17 18 rfl ?_
    by_cases hc18 : (0 : Int32) < y0
    · refine z_ifN C z_d27_18 ((if0 _ _).trans (tlt hc18).2.2.2) 21 rfl ?_
      refine z_iconst C (v := (2 : Int32)) z_d27_21 (by decide) 22 rfl ?_
      refine z_aloadN C z_d27_22 rfl rfl 23 rfl ?_
      refine z_iloadN C z_d27_23 rfl 24 rfl ?_
      refine z_iaload C o_p0_1 (by decide) (v := (.int y0)) (by rfl) z_d27_24 25 rfl ?_
      refine z_imul C z_d27_25 rfl 26 rfl ?_
      refine z_goto C z_d27_26 (by decide) 37 (by decide) ?_
      exact z_castI (if_pos hc18) K
    · refine z_ifY C z_d27_18 ((if0 _ _).trans (flt hc18).2.2.2) (by decide) 29 (by decide) ?_
      refine z_bipush C (v := (-2 : Int32)) z_d27_29 (by decide) 31 rfl ?_
      refine z_aloadN C z_d27_31 rfl rfl 32 rfl ?_
      refine z_iloadN C z_d27_32 rfl 33 rfl ?_
      refine z_iaload C o_p0_1 (by decide) (v := (.int y0)) (by rfl) z_d27_33 34 rfl ?_
      refine z_imul C z_d27_34 rfl 35 rfl ?_
      refine z_iconst C (v := (1 : Int32)) z_d27_35 (by decide) 36 rfl ?_
      refine z_iadd C z_d27_36 rfl 37 rfl ?_
      exact z_castI (if_neg hc18) K
  have e_b1 : n0 ≤ (b1 : Nat) := by omega
  refine z_iastore C (z := (z_ix y0)) o_b1 (by decide) (of_decide_eq_true rfl) rfl (vs' := [(.int (z_ix y0)), (.int 0), (.int 0)]) (by rfl) e_b1 z_d27_37 38 rfl ?_
  intro h2 W2 o_b1_2
  have s2 : h2.size = h1.size := W2.size
  have q_b1 : h.size ≤ (b1 : Nat) := by omega
  have k2 : Keep h h2 [] := k1.wr W2 (Or.inr q_b1)
  refine z_iinc C (w := (1 : Int32)) (Ls' := #[.val (.ref p0), .val (.ref b1), .val (.int 1)]) z_d27_38 rfl (by decide) rfl 41 rfl ?_
  refine z_goto C z_d27_41 (by decide) 7 (by decide) ?_
  refine z_iloadN C z_d27_7 rfl 8 rfl ?_
  refine z_aloadN C z_d27_8 rfl rfl 9 rfl ?_
  have n_p0_b1 : (p0 : Nat) ≠ b1 := by omega
  have o_p0_2 := (o_p0_1.other W2 n_p0_b1)
  refine z_arraylength C (z := (3 : Int32)) o_p0_2 (by rfl) z_d27_9 10 rfl ?_
  refine z_icmpN C z_d27_10 (by decide) 13 rfl ?_
  refine z_aloadN C z_d27_13 rfl rfl 14 rfl ?_
  refine z_iloadN C z_d27_14 rfl 15 rfl ?_
  refine z_cut (fJ := mkF m 37 #[.val (.ref p0), .val (.ref b1), .val (.int 1)] [(.int (z_ix y1)), (.int 1), (.ref b1)]) (fun K => ?_) ?_
  · refine z_aloadN C z_d27_15 rfl rfl 16 rfl ?_
    refine z_iloadN C z_d27_16 rfl 17 rfl ?_
    refine z_iaload C o_p0_2 (by decide) (v := (.int y1)) (by rfl) z_d27_17 18 rfl ?_
    by_cases hc18 : (0 : Int32) < y1
    · refine z_ifN C z_d27_18 ((if0 _ _).trans (tlt hc18).2.2.2) 21 rfl ?_
      refine z_iconst C (v := (2 : Int32)) z_d27_21 (by decide) 22 rfl ?_
      refine z_aloadN C z_d27_22 rfl rfl 23 rfl ?_
      refine z_iloadN C z_d27_23 rfl 24 rfl ?_
      refine z_iaload C o_p0_2 (by decide) (v := (.int y1)) (by rfl) z_d27_24 25 rfl ?_
      refine z_imul C z_d27_25 rfl 26 rfl ?_
      refine z_goto C z_d27_26 (by decide) 37 (by decide) ?_
      exact z_castI (if_pos hc18) K
    · refine z_ifY C z_d27_18 ((if0 _ _).trans (flt hc18).2.2.2) (by decide) 29 (by decide) ?_
      refine z_bipush C (v := (-2 : Int32)) z_d27_29 (by decide) 31 rfl ?_
      refine z_aloadN C z_d27_31 rfl rfl 32 rfl ?_
      refine z_iloadN C z_d27_32 rfl 33 rfl ?_
      refine z_iaload C o_p0_2 (by decide) (v := (.int y1)) (by rfl) z_d27_33 34 rfl ?_
      refine z_imul C z_d27_34 rfl 35 rfl ?_
      refine z_iconst C (v := (1 : Int32)) z_d27_35 (by decide) 36 rfl ?_
      refine z_iadd C z_d27_36 rfl 37 rfl ?_
      exact z_castI (if_neg hc18) K
  refine z_iastore C (z := (z_ix y1)) o_b1_2 (by decide) (of_decide_eq_true rfl) rfl (vs' := [(.int (z_ix y0)), (.int (z_ix y1)), (.int 0)]) (by rfl) e_b1 z_d27_37 38 rfl ?_
  intro h3 W3 o_b1_3
  have s3 : h3.size = h2.size := W3.size
  have k3 : Keep h h3 [] := k2.wr W3 (Or.inr q_b1)
  refine z_iinc C (w := (2 : Int32)) (Ls' := #[.val (.ref p0), .val (.ref b1), .val (.int 2)]) z_d27_38 rfl (by decide) rfl 41 rfl ?_
  refine z_goto C z_d27_41 (by decide) 7 (by decide) ?_
  refine z_iloadN C z_d27_7 rfl 8 rfl ?_
  refine z_aloadN C z_d27_8 rfl rfl 9 rfl ?_
  have o_p0_3 := (o_p0_2.other W3 n_p0_b1)
  refine z_arraylength C (z := (3 : Int32)) o_p0_3 (by rfl) z_d27_9 10 rfl ?_
  refine z_icmpN C z_d27_10 (by decide) 13 rfl ?_
  refine z_aloadN C z_d27_13 rfl rfl 14 rfl ?_
  refine z_iloadN C z_d27_14 rfl 15 rfl ?_
  refine z_cut (fJ := mkF m 37 #[.val (.ref p0), .val (.ref b1), .val (.int 2)] [(.int (z_ix y2)), (.int 2), (.ref b1)]) (fun K => ?_) ?_
  · refine z_aloadN C z_d27_15 rfl rfl 16 rfl ?_
    refine z_iloadN C z_d27_16 rfl 17 rfl ?_
    refine z_iaload C o_p0_3 (by decide) (v := (.int y2)) (by rfl) z_d27_17 18 rfl ?_
    by_cases hc18 : (0 : Int32) < y2
    · refine z_ifN C z_d27_18 ((if0 _ _).trans (tlt hc18).2.2.2) 21 rfl ?_
      refine z_iconst C (v := (2 : Int32)) z_d27_21 (by decide) 22 rfl ?_
      refine z_aloadN C z_d27_22 rfl rfl 23 rfl ?_
      refine z_iloadN C z_d27_23 rfl 24 rfl ?_
      refine z_iaload C o_p0_3 (by decide) (v := (.int y2)) (by rfl) z_d27_24 25 rfl ?_
      refine z_imul C z_d27_25 rfl 26 rfl ?_
      refine z_goto C z_d27_26 (by decide) 37 (by decide) ?_
      exact z_castI (if_pos hc18) K
    · refine z_ifY C z_d27_18 ((if0 _ _).trans (flt hc18).2.2.2) (by decide) 29 (by decide) ?_
      refine z_bipush C (v := (-2 : Int32)) z_d27_29 (by decide) 31 rfl ?_
      refine z_aloadN C z_d27_31 rfl rfl 32 rfl ?_
      refine z_iloadN C z_d27_32 rfl 33 rfl ?_
      refine z_iaload C o_p0_3 (by decide) (v := (.int y2)) (by rfl) z_d27_33 34 rfl ?_
      refine z_imul C z_d27_34 rfl 35 rfl ?_
      refine z_iconst C (v := (1 : Int32)) z_d27_35 (by decide) 36 rfl ?_
      refine z_iadd C z_d27_36 rfl 37 rfl ?_
      exact z_castI (if_neg hc18) K
  refine z_iastore C (z := (z_ix y2)) o_b1_3 (by decide) (of_decide_eq_true rfl) rfl (vs' := [(.int (z_ix y0)), (.int (z_ix y1)), (.int (z_ix y2))]) (by rfl) e_b1 z_d27_37 38 rfl ?_
  intro h4 W4 o_b1_4
  have s4 : h4.size = h3.size := W4.size
  have k4 : Keep h h4 [] := k3.wr W4 (Or.inr q_b1)
  refine z_iinc C (w := (3 : Int32)) (Ls' := #[.val (.ref p0), .val (.ref b1), .val (.int 3)]) z_d27_38 rfl (by decide) rfl 41 rfl ?_
  refine z_goto C z_d27_41 (by decide) 7 (by decide) ?_
  refine z_iloadN C z_d27_7 rfl 8 rfl ?_
  refine z_aloadN C z_d27_8 rfl rfl 9 rfl ?_
  have o_p0_4 := (o_p0_3.other W4 n_p0_b1)
  refine z_arraylength C (z := (3 : Int32)) o_p0_4 (by rfl) z_d27_9 10 rfl ?_
  refine z_icmpY C z_d27_10 (by decide) (by decide) 44 (by decide) ?_
  refine z_aloadN C z_d27_44 rfl rfl 45 rfl ?_
  exact z_areturn C rfl rfl z_d27_45 (by decide) (by decide) ⟨_, rfl, b1, rfl, k4, by omega, by omega, o_b1_4⟩
set_option maxHeartbeats 2000000 in
theorem z_c15_57 (hw : z_T Z a0) (S : z_St Z a_DEF a_ONE a_NONE) (z0 : n0 ≤ h.size) (old : Old Z n0 h) (p0 : Nat) (o_p0 : z_Ob Z h p0 "java/util/ArrayList" z_lay1 [(.int 0), (.ref a_DEF), (.int 0)]) :
    z_Met l Z (⟨"java/util/ArrayList", "size", "()I"⟩ : MethodName) jdk_38_method_8_code 1 (some .int) [] ({ frames := 0, cells := 0, slots := 0, locals := 0 } : Room) n0 #[(.ref p0)] h (z_pure (.int 0) h) := by
  refine z_met (Ls := #[.val (.ref p0)]) (by first | exact plainFor_of_name (by first | (simp [plainName, overriddenIn]; done) | decide +kernel) | decide +kernel) rfl ?_
  intro p e s m below meth c C
  refine z_aloadN C z_d15_0 rfl rfl 1 rfl ?_
  refine z_getO C (z_w hw 83 rfl) Via.refl o_p0 2 rfl rfl z_d15_1 4 rfl ?_
  exact z_ireturn C (Or.inl rfl) rfl z_d15_4 (by decide) (by decide) ⟨rfl, rfl⟩
set_option maxHeartbeats 2000000 in
theorem z_c30_58 (hw : z_T Z a0) (S : z_St Z a_DEF a_ONE a_NONE) (z0 : n0 ≤ h.size) (old : Old Z n0 h) (p0 : Nat) :
    z_Met l Z (⟨"java/util/BitSet", "checkInvariants", "()V"⟩ : MethodName) jdk_92_method_2_code 1 none [] ({ frames := 0, cells := 0, slots := 0, locals := 0 } : Room) n0 #[(.ref p0)] h (z_nov fun h' => Keep h h' []) := by
  refine z_met (Ls := #[.val (.ref p0)]) (by first | exact plainFor_of_name (by first | (simp [plainName, overriddenIn]; done) | decide +kernel) | decide +kernel) rfl ?_
  intro p e s m below meth c C
  refine z_getstatic C (z_w hw 219 rfl) (S.2.2.2.ext old.2) z_d30_0 3 rfl ?_
  refine z_ifY C z_d30_3 (by decide) (by decide) 37 (by decide) ?_
  refine z_getstatic C (z_w hw 219 rfl) (S.2.2.2.ext old.2) z_d30_37 40 rfl ?_
  refine z_ifY C z_d30_40 (by decide) (by decide) 70 (by decide) ?_
  refine z_getstatic C (z_w hw 219 rfl) (S.2.2.2.ext old.2) z_d30_70 73 rfl ?_
  refine z_ifY C z_d30_73 (by decide) (by decide) 110 (by decide) ?_
  exact z_return C z_d30_110 (by decide) (by decide) ⟨rfl, (Keep.refl h [])⟩
set_option maxHeartbeats 2000000 in
theorem z_c8_59 (hw : z_T Z a0) (S : z_St Z a_DEF a_ONE a_NONE) (z0 : n0 ≤ h.size) (old : Old Z n0 h) :
    z_Met l Z (⟨"java/util/BitSet", "wordIndex", "(I)I"⟩ : MethodName) jdk_92_method_1_code 1 (some .int) [] ({ frames := 0, cells := 0, slots := 0, locals := 0 } : Room) n0 #[(.int 0)] h (z_pure (.int 0) h) := by
  refine z_met (Ls := #[.val (.int 0)]) (by first | exact plainFor_of_name (by first | (simp [plainName, overriddenIn]; done) | decide +kernel) | decide +kernel) rfl ?_
  intro p e s m below meth c C
  refine z_iloadN C z_d8_0 rfl 1 rfl ?_
  refine z_bipush C (v := (6 : Int32)) z_d8_1 (by decide) 3 rfl ?_
  refine z_ishr C (z := (0 : Int32)) z_d8_3 (by decide) 4 rfl ?_
  exact z_ireturn C (Or.inl rfl) rfl z_d8_4 (by decide) (by decide) ⟨rfl, rfl⟩
set_option maxHeartbeats 2000000 in
theorem z_c29_60 (hw : z_T Z a0) (S : z_St Z a_DEF a_ONE a_NONE) (z0 : n0 ≤ h.size) (old : Old Z n0 h) (p0 : Nat) (p1 : Nat) (o_p0 : z_Ob Z h p0 "java/util/BitSet" z_lay2 [(.int 0), (.int 0), (.ref p1)]) :
    z_Met l Z (⟨"java/util/BitSet", "get", "(I)Z"⟩ : MethodName) jdk_92_method_26_code 3 (some .boolean) [] ({ frames := 1, cells := 0, slots := 0, locals := 12 } : Room) n0 #[(.ref p0), (.int 0)] h (z_val fun w h' => w = (.int 0) ∧ Keep h h' []) := by
  refine z_met (Ls := #[.val (.ref p0), .val (.int 0), .unset]) (by first | exact plainFor_of_name (by first | (simp [plainName, overriddenIn]; done) | decide +kernel) | decide +kernel) rfl ?_
  intro p e s m below meth c C
  refine z_iloadN C z_d29_0 rfl 1 rfl ?_
  refine z_ifY C z_d29_1 (by decide) (by decide) 31 (by decide) ?_
  refine z_aloadN C z_d29_31 rfl rfl 32 rfl ?_
  refine z_callPV C o_p0.1 (z_c30_58 l hw S z0 old p0) (z_w hw 214 rfl) (z_w hw 215 rfl) (z_w hw 217 rfl) (z_w hw 216 rfl) (z_w hw 37 rfl) (z_w hw 218 rfl) (by decide) z_d29_32 rfl (argsL := []) (rest := []) rfl (lenOf z_pd0 rfl) (W := 0) (Nat.le_of_eq rfl) (by decide) (by decide) (by decide) (by decide) 35 rfl ?_
  rintro h1 K1
  have s1 : h.size ≤ h1.size := K1.1
  have k1 : Keep h h1 [] := (Keep.refl h []).trans K1 all0
  refine z_iloadN C z_d29_35 rfl 36 rfl ?_
  have zz1 : n0 ≤ h1.size := by omega
  have old1 := (old.keep K1 all0)
  refine z_callSp C (z_c8_59 l hw S zz1 old1) (z_w hw 51 rfl) (z_w hw 52 rfl) (z_w hw 37 rfl) (z_w hw 53 rfl) (by decide) z_d29_36 rfl (argsL := [(.int 0)]) (rest := []) rfl (lenOf z_pd1 rfl) (W := 0) (Nat.le_of_eq rfl) (by decide) (by decide) (by decide) (by decide) (by decide) (by decide) 39 rfl ?_
  refine z_istoreN C (Ls' := #[.val (.ref p0), .val (.int 0), .val (.int 0)]) z_d29_39 rfl 40 rfl ?_
  refine z_iloadN C z_d29_40 rfl 41 rfl ?_
  refine z_aloadN C z_d29_41 rfl rfl 42 rfl ?_
  have o_p0_1 := (o_p0.keep K1 nin0)
  refine z_getO C (z_w hw 42 rfl) Via.refl o_p0_1 0 rfl rfl z_d29_42 45 rfl ?_
  refine z_icmpY C z_d29_45 (by decide) (by decide) 67 (by decide) ?_
  refine z_iconst C (v := (0 : Int32)) z_d29_67 (by decide) 68 rfl ?_
  exact z_ireturn C (by simp) rfl z_d29_68 (by decide) (by decide) ⟨_, rfl, rfl, k1⟩
set_option maxHeartbeats 2000000 in
theorem z_c28_61 (hw : z_T Z a0) (S : z_St Z a_DEF a_ONE a_NONE) (z0 : n0 ≤ h.size) (old : Old Z n0 h) (p0 : Nat) (p1 : Nat) (p2 : Nat) (p3 : Nat) (p4 : Nat) (p5 : Nat) (p6 : Nat) (o_p0 : z_Ob Z h p0 "com/example/variegate/variegate/service/Cnf" z_lay0 [(.ref p1), (.ref p2), (.ref p3), (.ref p4), (.ref p5), (.long (2 : Int64))]) (o_p2 : z_Ob Z h p2 "java/util/BitSet" z_lay2 [(.int 0), (.int 0), (.ref p6)]) :
    z_Met l Z (⟨"com/example/variegate/variegate/service/Cnf", "isRedundant", "(I)Z"⟩ : MethodName) prog_73_method_5_code 2 (some .boolean) [] ({ frames := 2, cells := 0, slots := 0, locals := 26 } : Room) n0 #[(.ref p0), (.int 0)] h (z_val fun w h' => w = (.int 0) ∧ Keep h h' []) := by
  refine z_met (Ls := #[.val (.ref p0), .val (.int 0)]) (by first | exact plainFor_of_name (by first | (simp [plainName, overriddenIn]; done) | decide +kernel) | decide +kernel) rfl ?_
  intro p e s m below meth c C
  refine z_aloadN C z_d28_0 rfl rfl 1 rfl ?_
  refine z_getO C (z_w hw 57 rfl) Via.refl o_p0 1 rfl rfl z_d28_1 4 rfl ?_
  refine z_iloadN C z_d28_4 rfl 5 rfl ?_
  refine z_callV C o_p2.1 (z_c29_60 l hw S z0 old p2 p6 o_p2) (z_w hw 209 rfl) (z_w hw 210 rfl) (z_w hw 212 rfl) (z_w hw 211 rfl) (z_w hw 37 rfl) (z_w hw 213 rfl) (by decide) z_d28_5 rfl (argsL := [(.int 0)]) (rest := []) rfl (lenOf z_pd16 rfl) (W := 0) (Nat.le_of_eq rfl) (by decide) (by decide) (by decide) (by decide) 8 rfl ?_
  rintro _ h1 ⟨rfl, K1⟩
  have s1 : h.size ≤ h1.size := K1.1
  have k1 : Keep h h1 [] := (Keep.refl h []).trans K1 all0
  exact z_ireturn C (by simp) rfl z_d28_8 (by decide) (by decide) ⟨_, rfl, rfl, k1⟩
set_option maxHeartbeats 8000000 in
theorem z_k19_62 (hw : z_T Z a0) (S : z_St Z a_DEF a_ONE a_NONE) (z0 : n0 ≤ h.size) (old : Old Z n0 h) (y0 y1 y2 : Int32) (p0 p1 p2 p3 p4 p5 p6 p7 p8 p9 p10 p11 p12 p13 p14 p15 : Nat) (o_p3 : z_Ob Z h p3 "java/util/ArrayList" z_lay1 [(.int 0), .null, (.int 0)]) (o_p1 : z_Ob Z h p1 "com/example/variegate/variegate/service/Cnf" z_lay0 [(.ref p4), (.ref p5), (.ref p6), (.ref p7), (.ref p8), (.long (2 : Int64))]) (o_p4 : z_Ob Z h p4 "java/util/ArrayList" z_lay1 [(.int 2), (.ref p9), (.int 2)]) (o_p0 : z_Ob Z h p0 "com/example/variegate/variegate/service/Propagation" z_lay3 [(.int 3), (.ref p10), (.ref p11), (.ref p12), .null, .null, .null, .null, .null, .null, .null, (.int 0), (.int 0)]) (o_p9 : z_Ar Z h p9 (.object "java/lang/Object") "[Ljava/lang/Object;" "java/lang/Object" [(.ref p13), (.ref p14), .null, .null, .null, .null, .null, .null, .null, .null]) (o_p13 : z_Ar Z h p13 .int "[I" "" [(.int y0), (.int y1), (.int y2)]) (o_p5 : z_Ob Z h p5 "java/util/BitSet" z_lay2 [(.int 0), (.int 0), (.ref p15)]) (ne_p1_p3 : p1 ≠ p3) (ne_p3_p4 : p3 ≠ p4) (ne_p0_p3 : p0 ≠ p3) (ne_p0_p1 : p0 ≠ p1) (ne_p0_p4 : p0 ≠ p4) (ne_p3_p9 : p3 ≠ p9) (ne_p0_p9 : p0 ≠ p9) (ne_p13_p3 : p13 ≠ p3) (ne_p0_p13 : p0 ≠ p13) (ne_p3_p5 : p3 ≠ p5) (ne_p0_p5 : p0 ≠ p5) (g_p3 : n0 ≤ p3) (g_p0 : n0 ≤ p0) (rq0 : ((z_ix y0) >>> ((1 : Int32) &&& 31)) = (1 : Int32)) (rq1 : ((z_ix y1) >>> ((1 : Int32) &&& 31)) = (2 : Int32)) (rq2 : ((z_ix y2) >>> ((1 : Int32) &&& 31)) = (3 : Int32)) {p : Program} {e : Env} {s : State} {m : MethodId} {args : Array Value} {below : List Frame} {meth : Method} {c : Code} {Q : Option Value → Heap → Prop} (C : z_Cx Z p s m meth c "com/example/variegate/variegate/service/Propagation" prog_97_method_1_code 15 none "<init>")
    (K : ∀ (h' : Heap) (b2 b4 b6 b7 b8_0 b11_0 : Nat), Keep h h' [p3, p0] → h.size ≤ b2 → b2 < b4 → b4 < b6 → b6 < b7 → b7 < b8_0 → b8_0 < b11_0 → b11_0 < h'.size → z_Ob Z h' p3 "java/util/ArrayList" z_lay1 [(.int 0), (.ref a_DEF), (.int 0)] → z_Ob Z h' p0 "com/example/variegate/variegate/service/Propagation" z_lay3 [(.int 3), (.ref p10), (.ref p11), (.ref p12), (.ref b4), .null, .null, .null, .null, .null, .null, (.int 0), (.int 0)] → z_Ob Z h' b2 "java/util/ArrayList" z_lay1 [(.int 1), (.ref b11_0), (.int 1)] → z_Ar Z h' b4 .boolean "[Z" "" [(.int 0), (.int 0)] → z_Ar Z h' b6 .int "[I" "" [(.int 0), (.int 0), (.int 0), (.int 0), (.int 0), (.int 0), (.int 0), (.int 0)] → z_Ar Z h' b7 .int "[I" "" [(.int 0), (.int 1), (.int 1), (.int 1)] → z_Ar Z h' b8_0 .int "[I" "" [(.int (z_ix y0)), (.int (z_ix y1)), (.int (z_ix y2))] → z_Ar Z h' b11_0 (.object "java/lang/Object") "[Ljava/lang/Object;" "java/lang/Object" [(.ref b8_0), .null, .null, .null, .null, .null, .null, .null, .null, .null] → z_At p l e ({ frames := 5, cells := 27, slots := 126, locals := 70 } : Room) s m args below meth c n0 Q h' 11 56 (mkF m 336 #[.val (.ref p0), .val (.ref p1), .val (.ref p2), .val (.ref p3), .val (.ref b2), .val (.ref b6), .val (.ref b7), .val (.int 3), .val (.int 0), .val (.ref b8_0), .val (.ref b8_0), .val (.int 3), .val (.int 3), .val (.int (z_ix y2)), .unset] [(.int 3)])) :
    z_At p l e ({ frames := 5, cells := 27, slots := 126, locals := 70 } : Room) s m args below meth c n0 Q h 5 26 (mkF m 109 #[.val (.ref p0), .val (.ref p1), .val (.ref p2), .unset, .unset, .unset, .unset, .unset, .unset, .unset, .unset, .unset, .unset, .unset, .unset] [(.ref p3)]) := by
  have lt_p3 := o_p3.lt
  have lt_p1 := o_p1.lt
  have lt_p4 := o_p4.lt
  have lt_p0 := o_p0.lt
  have lt_p9 := o_p9.lt
  have lt_p13 := o_p13.lt
  have lt_p5 := o_p5.lt
  refine z_dup C z_d19_109 rfl 110 rfl ?_
  refine z_callI C rfl (z_c3_2 l hw S z0 old p3 o_p3 g_p3) (z_w hw 188 rfl) (z_w hw 13 rfl) (z_w hw 11 rfl) (z_w hw 14 rfl) (by decide) z_d19_110 rfl (argsL := []) (rest := [(.ref p3)]) rfl (lenOf z_pd0 rfl) (W := 1) (Nat.le_of_eq rfl) (by decide) (by decide) (by decide) (by decide) 113 rfl ?_
  rintro h1 ⟨K1, o_p3_1⟩
  have s1 : h.size ≤ h1.size := K1.1
  have k1 : Keep h h1 [p3, p0] := (Keep.refl h [p3, p0]).trans K1 (allS (Or.inl (by simp)) all0)
  refine z_astoreN C (Ls' := #[.val (.ref p0), .val (.ref p1), .val (.ref p2), .val (.ref p3), .unset, .unset, .unset, .unset, .unset, .unset, .unset, .unset, .unset, .unset, .unset]) z_d19_113 rfl rfl 114 rfl ?_
  refine z_newO C (z_w hw 187 rfl) (z_w hw 10 rfl) (z_w hw 11 rfl) (z_lay1_ok hw) z_lay1_df z_d19_114 (by decide) (by decide) 117 rfl ?_
  intro h2 b2 g2 E2 o_b2
  have s2 : h1.size ≤ h2.size := E2.1
  have k2 : Keep h h2 [p3, p0] := k1.ext E2
  have t2 := o_b2.lt
  refine z_dup C z_d19_117 rfl 118 rfl ?_
  have zz2 : n0 ≤ h2.size := by omega
  have old2 := ((old.keep K1 (allS g_p3 all0)).ext E2)
  have e_b2 : n0 ≤ (b2 : Nat) := by omega
  refine z_callI C rfl (z_c3_2 l hw S zz2 old2 b2 o_b2 e_b2) (z_w hw 188 rfl) (z_w hw 13 rfl) (z_w hw 11 rfl) (z_w hw 14 rfl) (by decide) z_d19_118 rfl (argsL := []) (rest := [(.ref b2)]) rfl (lenOf z_pd0 rfl) (W := 1) (Nat.le_of_eq rfl) (by decide) (by decide) (by decide) (by decide) 121 rfl ?_
  rintro h3 ⟨K3, o_b2_3⟩
  have s3 : h2.size ≤ h3.size := K3.1
  have q_b2 : h.size ≤ (b2 : Nat) := by omega
  have k3 : Keep h h3 [p3, p0] := k2.trans K3 (allS (Or.inr q_b2) all0)
  refine z_astore C (Ls' := #[.val (.ref p0), .val (.ref p1), .val (.ref p2), .val (.ref p3), .val (.ref b2), .unset, .unset, .unset, .unset, .unset, .unset, .unset, .unset, .unset, .unset]) z_d19_121 rfl rfl 123 rfl ?_
  refine z_aloadN C z_d19_123 rfl rfl 124 rfl ?_
  refine z_aloadN C z_d19_124 rfl rfl 125 rfl ?_
  have zz3 : n0 ≤ h3.size := by omega
  have n_p1_b2 : (p1 : Nat) ≠ b2 := by omega
  have o_p1_3 := (((o_p1.keep K1 (ninS ne_p1_p3 nin0)).ext E2).keep K3 (ninS n_p1_b2 nin0))
  have old3 := (old2.keep K3 (allS e_b2 all0))
  refine z_callVp C o_p1_3.1 (z_c26_51 l hw S zz3 old3 p1 p4 p5 p6 p7 p8 o_p1_3) (z_w hw 189 rfl) (z_w hw 190 rfl) (z_w hw 192 rfl) (z_w hw 191 rfl) (z_w hw 2 rfl) (z_w hw 193 rfl) (by decide) z_d19_125 rfl (argsL := []) (rest := [(.ref p0)]) rfl (lenOf z_pd14 rfl) (W := 1) (Nat.le_of_eq rfl) (by decide) (by decide) (by decide) (by decide) (by decide) (by decide) 128 rfl ?_
  have n_p4_b2 : (p4 : Nat) ≠ b2 := by omega
  have o_p4_3 := (((o_p4.keep K1 (ninS (Ne.symm ne_p3_p4) nin0)).ext E2).keep K3 (ninS n_p4_b2 nin0))
  refine z_callFp C o_p4_3.1 (z_c15_16 l hw S zz3 old3 p4 p9 o_p4_3) (z_w hw 194 rfl) (z_w hw 108 rfl) (z_w hw 109 rfl) (z_w hw 110 rfl) (z_w hw 111 rfl) (z_w hw 112 rfl) (z_w hw 113 rfl) (z_w hw 79 rfl) (z_w hw 11 rfl) (z_w hw 114 rfl) (by decide) z_d19_128 rfl (argsL := []) (rest := [(.ref p0)]) rfl (lenOf z_pd8 rfl) (W := 1) (Nat.le_of_eq rfl) (by decide) (by decide) (by decide) (by decide) (by decide) (by decide) 133 rfl ?_
  refine z_newarray C (aty := .boolean) (z_w hw 195 rfl) (by decide) (cap := 2) (by decide) (by decide) (ad := "[Z") (by decide +kernel) (vs := [(.int 0), (.int 0)]) (by rfl) z_d19_133 (by decide) (by decide) 135 rfl ?_
  intro h4 b4 g4 E4 o_b4
  have s4 : h3.size ≤ h4.size := E4.1
  have k4 : Keep h h4 [p3, p0] := k3.ext E4
  have o_b4 : z_Ar Z h4 b4 .boolean "[Z" "" [(.int 0), (.int 0)] := o_b4
  have t4 := o_b4.lt
  have n_p0_b2 : (p0 : Nat) ≠ b2 := by omega
  have o_p0_4 := ((((o_p0.keep K1 (ninS ne_p0_p3 nin0)).ext E2).keep K3 (ninS n_p0_b2 nin0)).ext E4)
  refine z_putO C (z_w hw 196 rfl) Via.refl o_p0_4 (z_lay3_ok hw) 4 rfl (vs' := [(.int 3), (.ref p10), (.ref p11), (.ref p12), (.ref b4), .null, .null, .null, .null, .null, .null, (.int 0), (.int 0)]) rfl (Or.inr ⟨(z_w hw 197 rfl), rfl, rfl⟩) (z_w hw 137 rfl) (ty := (.array .boolean)) (by decide) (by first | rfl | decide) (by first | rfl | decide) g_p0 z_d19_135 138 rfl ?_
  intro h5 W5 o_p0_5
  have s5 : h5.size = h4.size := W5.size
  have k5 : Keep h h5 [p3, p0] := k4.wr W5 (Or.inl (by simp))
  refine z_iconst C (v := (2 : Int32)) z_d19_138 (by decide) 139 rfl ?_
  refine z_aloadN C z_d19_139 rfl rfl 140 rfl ?_
  refine z_getO C (z_w hw 148 rfl) Via.refl o_p0_5 0 rfl rfl z_d19_140 143 rfl ?_
  refine z_imul C (z := (6 : Int32)) z_d19_143 (by decide) 144 rfl ?_
  refine z_iconst C (v := (2 : Int32)) z_d19_144 (by decide) 145 rfl ?_
  refine z_iadd C (z := (8 : Int32)) z_d19_145 (by decide) 146 rfl ?_
  refine z_newarray C (aty := .int) (z_w hw 115 rfl) (by decide) (cap := 8) (by decide) (by decide) (ad := "[I") (by decide +kernel) (vs := [(.int 0), (.int 0), (.int 0), (.int 0), (.int 0), (.int 0), (.int 0), (.int 0)]) (by rfl) z_d19_146 (by decide) (by decide) 148 rfl ?_
  intro h6 b6 g6 E6 o_b6
  have s6 : h5.size ≤ h6.size := E6.1
  have k6 : Keep h h6 [p3, p0] := k5.ext E6
  have o_b6 : z_Ar Z h6 b6 .int "[I" "" [(.int 0), (.int 0), (.int 0), (.int 0), (.int 0), (.int 0), (.int 0), (.int 0)] := o_b6
  have t6 := o_b6.lt
  refine z_astore C (Ls' := #[.val (.ref p0), .val (.ref p1), .val (.ref p2), .val (.ref p3), .val (.ref b2), .val (.ref b6), .unset, .unset, .unset, .unset, .unset, .unset, .unset, .unset, .unset]) z_d19_148 rfl rfl 150 rfl ?_
  refine z_aloadN C z_d19_150 rfl rfl 151 rfl ?_
  have o_p0_6 := (o_p0_5.ext E6)
  refine z_getO C (z_w hw 148 rfl) Via.refl o_p0_6 0 rfl rfl z_d19_151 154 rfl ?_
  refine z_iconst C (v := (1 : Int32)) z_d19_154 (by decide) 155 rfl ?_
  refine z_iadd C (z := (4 : Int32)) z_d19_155 (by decide) 156 rfl ?_
  refine z_newarray C (aty := .int) (z_w hw 115 rfl) (by decide) (cap := 4) (by decide) (by decide) (ad := "[I") (by decide +kernel) (vs := [(.int 0), (.int 0), (.int 0), (.int 0)]) (by rfl) z_d19_156 (by decide) (by decide) 158 rfl ?_
  intro h7 b7 g7 E7 o_b7
  have s7 : h6.size ≤ h7.size := E7.1
  have k7 : Keep h h7 [p3, p0] := k6.ext E7
  have o_b7 : z_Ar Z h7 b7 .int "[I" "" [(.int 0), (.int 0), (.int 0), (.int 0)] := o_b7
  have t7 := o_b7.lt
  refine z_astore C (Ls' := #[.val (.ref p0), .val (.ref p1), .val (.ref p2), .val (.ref p3), .val (.ref b2), .val (.ref b6), .val (.ref b7), .unset, .unset, .unset, .unset, .unset, .unset, .unset, .unset]) z_d19_158 rfl rfl 160 rfl ?_
  refine z_iconst C (v := (0 : Int32)) z_d19_160 (by decide) 161 rfl ?_
  refine z_istore C (Ls' := #[.val (.ref p0), .val (.ref p1), .val (.ref p2), .val (.ref p3), .val (.ref b2), .val (.ref b6), .val (.ref b7), .val (.int 0), .unset, .unset, .unset, .unset, .unset, .unset, .unset]) z_d19_161 rfl 163 rfl ?_
  refine z_iconst C (v := (0 : Int32)) z_d19_163 (by decide) 164 rfl ?_
  refine z_istore C (Ls' := #[.val (.ref p0), .val (.ref p1), .val (.ref p2), .val (.ref p3), .val (.ref b2), .val (.ref b6), .val (.ref b7), .val (.int 0), .val (.int 0), .unset, .unset, .unset, .unset, .unset, .unset]) z_d19_164 rfl 166 rfl ?_
  refine z_iload C z_d19_166 rfl 168 rfl ?_
  refine z_aloadN C z_d19_168 rfl rfl 169 rfl ?_
  have zz7 : n0 ≤ h7.size := by omega
  have o_p1_7 := ((((o_p1_3.ext E4).other W5 (Ne.symm ne_p0_p1)).ext E6).ext E7)
  have old7 := ((((old3.ext E4).wr W5 g_p0).ext E6).ext E7)
  refine z_callVp C o_p1_7.1 (z_c26_51 l hw S zz7 old7 p1 p4 p5 p6 p7 p8 o_p1_7) (z_w hw 189 rfl) (z_w hw 190 rfl) (z_w hw 192 rfl) (z_w hw 191 rfl) (z_w hw 2 rfl) (z_w hw 193 rfl) (by decide) z_d19_169 rfl (argsL := []) (rest := [(.int 0)]) rfl (lenOf z_pd14 rfl) (W := 1) (Nat.le_of_eq rfl) (by decide) (by decide) (by decide) (by decide) (by decide) (by decide) 172 rfl ?_
  have o_p4_7 := ((((o_p4_3.ext E4).other W5 (Ne.symm ne_p0_p4)).ext E6).ext E7)
  refine z_callFp C o_p4_7.1 (z_c15_16 l hw S zz7 old7 p4 p9 o_p4_7) (z_w hw 194 rfl) (z_w hw 108 rfl) (z_w hw 109 rfl) (z_w hw 110 rfl) (z_w hw 111 rfl) (z_w hw 112 rfl) (z_w hw 113 rfl) (z_w hw 79 rfl) (z_w hw 11 rfl) (z_w hw 114 rfl) (by decide) z_d19_172 rfl (argsL := []) (rest := [(.int 0)]) rfl (lenOf z_pd8 rfl) (W := 1) (Nat.le_of_eq rfl) (by decide) (by decide) (by decide) (by decide) (by decide) (by decide) 177 rfl ?_
  refine z_icmpN C z_d19_177 (by decide) 180 rfl ?_
  refine z_aloadN C z_d19_180 rfl rfl 181 rfl ?_
  refine z_callVp C o_p1_7.1 (z_c26_51 l hw S zz7 old7 p1 p4 p5 p6 p7 p8 o_p1_7) (z_w hw 189 rfl) (z_w hw 190 rfl) (z_w hw 192 rfl) (z_w hw 191 rfl) (z_w hw 2 rfl) (z_w hw 193 rfl) (by decide) z_d19_181 rfl (argsL := []) (rest := []) rfl (lenOf z_pd14 rfl) (W := 0) (Nat.le_of_eq rfl) (by decide) (by decide) (by decide) (by decide) (by decide) (by decide) 184 rfl ?_
  refine z_iload C z_d19_184 rfl 186 rfl ?_
  have n_p9_b2 : (p9 : Nat) ≠ b2 := by omega
  have o_p9_7 := (((((((o_p9.keep K1 (ninS (Ne.symm ne_p3_p9) nin0)).ext E2).keep K3 (ninS n_p9_b2 nin0)).ext E4).other W5 (Ne.symm ne_p0_p9)).ext E6).ext E7)
  refine z_callFp C o_p4_7.1 (z_c22_55 l hw S zz7 old7 p4 p9 p13 p14 o_p4_7 o_p9_7) (z_w hw 198 rfl) (z_w hw 160 rfl) (z_w hw 161 rfl) (z_w hw 162 rfl) (z_w hw 163 rfl) (z_w hw 164 rfl) (z_w hw 165 rfl) (z_w hw 79 rfl) (z_w hw 11 rfl) (z_w hw 166 rfl) (by decide) z_d19_186 rfl (argsL := [(.int 0)]) (rest := []) rfl (lenOf z_pd12 rfl) (W := 0) (Nat.le_of_eq rfl) (by decide) (by decide) (by decide) (by decide) (by decide) (by decide) 191 rfl ?_
  have n_p13_b2 : (p13 : Nat) ≠ b2 := by omega
  have o_p13_7 := (((((((o_p13.keep K1 (ninS ne_p13_p3 nin0)).ext E2).keep K3 (ninS n_p13_b2 nin0)).ext E4).other W5 (Ne.symm ne_p0_p13)).ext E6).ext E7)
  refine z_castY C (z_w hw 199 rfl) (Ins.self o_p13_7.exa) z_d19_191 194 rfl ?_
  refine z_callS C (z_c27_56 l hw S zz7 old7 y0 y1 y2 p13 o_p13_7) (z_w hw 201 rfl) (z_w hw 202 rfl) (z_w hw 138 rfl) (z_w hw 203 rfl) (by decide) z_d19_194 rfl (argsL := [(.ref p13)]) (rest := []) rfl (lenOf z_pd15 rfl) (W := 0) (Nat.le_of_eq rfl) (by decide) (by decide) (by decide) (by decide) 197 rfl ?_
  rintro _ h8 ⟨b8_0, rfl, K8, l8_0, l8_1, o_b8_0_8⟩
  have s8 : h7.size ≤ h8.size := K8.1
  have k8 : Keep h h8 [p3, p0] := k7.trans K8 all0
  refine z_astore C (Ls' := #[.val (.ref p0), .val (.ref p1), .val (.ref p2), .val (.ref p3), .val (.ref b2), .val (.ref b6), .val (.ref b7), .val (.int 0), .val (.int 0), .val (.ref b8_0), .unset, .unset, .unset, .unset, .unset]) z_d19_197 rfl rfl 199 rfl ?_
  refine z_aload C z_d19_199 rfl rfl 201 rfl ?_
  refine z_arraylength C (z := (3 : Int32)) o_b8_0_8 (by rfl) z_d19_201 202 rfl ?_
  refine z_ifY C z_d19_202 (by decide) (by decide) 213 (by decide) ?_
  refine z_aload C z_d19_213 rfl rfl 215 rfl ?_
  refine z_arraylength C (z := (3 : Int32)) o_b8_0_8 (by rfl) z_d19_215 216 rfl ?_
  refine z_iconst C (v := (1 : Int32)) z_d19_216 (by decide) 217 rfl ?_
  refine z_icmpY C z_d19_217 (by decide) (by decide) 232 (by decide) ?_
  refine z_aload C z_d19_232 rfl rfl 234 rfl ?_
  refine z_arraylength C (z := (3 : Int32)) o_b8_0_8 (by rfl) z_d19_234 235 rfl ?_
  refine z_iconst C (v := (2 : Int32)) z_d19_235 (by decide) 236 rfl ?_
  refine z_icmpY C z_d19_236 (by decide) (by decide) 286 (by decide) ?_
  refine z_aloadN C z_d19_286 rfl rfl 287 rfl ?_
  have o_p0_8 := ((o_p0_6.ext E7).keep K8 nin0)
  refine z_getO C (z_w hw 196 rfl) Via.refl o_p0_8 4 rfl rfl z_d19_287 290 rfl ?_
  refine z_aload C z_d19_290 rfl rfl 292 rfl ?_
  have zz8 : n0 ≤ h8.size := by omega
  have o_b2_8 := (((((o_b2_3.ext E4).other W5 n_p0_b2.symm).ext E6).ext E7).keep K8 nin0)
  have old8 := (old7.keep K8 all0)
  refine z_callFp C o_b2_8.1 (z_c15_57 l hw S zz8 old8 b2 o_b2_8) (z_w hw 194 rfl) (z_w hw 108 rfl) (z_w hw 109 rfl) (z_w hw 110 rfl) (z_w hw 111 rfl) (z_w hw 112 rfl) (z_w hw 113 rfl) (z_w hw 79 rfl) (z_w hw 11 rfl) (z_w hw 114 rfl) (by decide) z_d19_292 rfl (argsL := []) (rest := [(.ref b4)]) rfl (lenOf z_pd8 rfl) (W := 1) (Nat.le_of_eq rfl) (by decide) (by decide) (by decide) (by decide) (by decide) (by decide) 297 rfl ?_
  refine z_aloadN C z_d19_297 rfl rfl 298 rfl ?_
  refine z_iload C z_d19_298 rfl 300 rfl ?_
  have o_p1_8 := (o_p1_7.keep K8 nin0)
  have n_p5_b2 : (p5 : Nat) ≠ b2 := by omega
  have o_p5_8 := ((((((((o_p5.keep K1 (ninS (Ne.symm ne_p3_p5) nin0)).ext E2).keep K3 (ninS n_p5_b2 nin0)).ext E4).other W5 (Ne.symm ne_p0_p5)).ext E6).ext E7).keep K8 nin0)
  refine z_callV C o_p1_8.1 (z_c28_61 l hw S zz8 old8 p1 p4 p5 p6 p7 p8 p15 o_p1_8 o_p5_8) (z_w hw 204 rfl) (z_w hw 205 rfl) (z_w hw 207 rfl) (z_w hw 206 rfl) (z_w hw 2 rfl) (z_w hw 208 rfl) (by decide) z_d19_300 rfl (argsL := [(.int 0)]) (rest := [(.int 0), (.ref b4)]) rfl (lenOf z_pd16 rfl) (W := 2) (Nat.le_of_eq rfl) (by decide) (by decide) (by decide) (by decide) 303 rfl ?_
  rintro _ h9 ⟨rfl, K9⟩
  have s9 : h8.size ≤ h9.size := K9.1
  have k9 : Keep h h9 [p3, p0] := k8.trans K9 all0
  have n_b4_p0 : (b4 : Nat) ≠ p0 := by omega
  have o_b4_9 := (((((o_b4.other W5 n_b4_p0).ext E6).ext E7).keep K8 nin0).keep K9 nin0)
  have e_b4 : n0 ≤ (b4 : Nat) := by omega
  refine z_bastoreZ C (z := (0 : Int32)) o_b4_9 (by decide) (of_decide_eq_true rfl) (by decide) (vs' := [(.int 0), (.int 0)]) (by rfl) e_b4 z_d19_303 304 rfl ?_
  intro h10 W10 o_b4_10
  have s10 : h10.size = h9.size := W10.size
  have q_b4 : h.size ≤ (b4 : Nat) := by omega
  have k10 : Keep h h10 [p3, p0] := k9.wr W10 (Or.inr q_b4)
  refine z_aload C z_d19_304 rfl rfl 306 rfl ?_
  refine z_aload C z_d19_306 rfl rfl 308 rfl ?_
  have zz10 : n0 ≤ h10.size := by omega
  have n_b2_b4 : (b2 : Nat) ≠ b4 := by omega
  have o_b2_10 := ((o_b2_8.keep K9 nin0).other W10 n_b2_b4)
  have n_b8_0_b4 : (b8_0 : Nat) ≠ b4 := by omega
  have o_b8_0_10 := ((o_b8_0_8.keep K9 nin0).other W10 n_b8_0_b4)
  have old10 := ((old8.keep K9 all0).wr W10 e_b4)
  have n_b2_b8_0 : (b2 : Nat) ≠ b8_0 := by omega
  refine z_callF C o_b2_10.1 (z_c10_26 l hw S zz10 old10 (z_ix y0) (z_ix y1) (z_ix y2) b2 b8_0 o_b2_10 o_b8_0_10 n_b2_b8_0 e_b2) (z_w hw 220 rfl) (z_w hw 73 rfl) (z_w hw 74 rfl) (z_w hw 75 rfl) (z_w hw 76 rfl) (z_w hw 77 rfl) (z_w hw 78 rfl) (z_w hw 79 rfl) (z_w hw 11 rfl) (z_w hw 80 rfl) (by decide) z_d19_308 rfl (argsL := [(.ref b8_0)]) (rest := []) rfl (lenOf z_pd7 rfl) (W := 0) (Nat.le_of_eq rfl) (by decide) (by decide) (by decide) (by decide) 313 rfl ?_
  rintro _ h11 ⟨b11_0, rfl, K11, l11_0, l11_1, o_b2_11, o_b11_0_11⟩
  have s11 : h10.size ≤ h11.size := K11.1
  have k11 : Keep h h11 [p3, p0] := k10.trans K11 (allS (Or.inr q_b2) all0)
  refine z_pop C z_d19_313 rfl 314 rfl ?_
  refine z_iload C z_d19_314 rfl 316 rfl ?_
  refine z_aload C z_d19_316 rfl rfl 318 rfl ?_
  have o_b8_0_11 := (o_b8_0_10.keep K11 (ninS n_b2_b8_0.symm nin0))
  refine z_arraylength C (z := (3 : Int32)) o_b8_0_11 (by rfl) z_d19_318 319 rfl ?_
  refine z_iadd C (z := (3 : Int32)) z_d19_319 (by decide) 320 rfl ?_
  refine z_istore C (Ls' := #[.val (.ref p0), .val (.ref p1), .val (.ref p2), .val (.ref p3), .val (.ref b2), .val (.ref b6), .val (.ref b7), .val (.int 3), .val (.int 0), .val (.ref b8_0), .unset, .unset, .unset, .unset, .unset]) z_d19_320 rfl 322 rfl ?_
  refine z_aload C z_d19_322 rfl rfl 324 rfl ?_
  refine z_astore C (Ls' := #[.val (.ref p0), .val (.ref p1), .val (.ref p2), .val (.ref p3), .val (.ref b2), .val (.ref b6), .val (.ref b7), .val (.int 3), .val (.int 0), .val (.ref b8_0), .val (.ref b8_0), .unset, .unset, .unset, .unset]) z_d19_324 rfl rfl 326 rfl ?_
  refine z_aload C z_d19_326 rfl rfl 328 rfl ?_
  refine z_arraylength C (z := (3 : Int32)) o_b8_0_11 (by rfl) z_d19_328 329 rfl ?_
  refine z_istore C (Ls' := #[.val (.ref p0), .val (.ref p1), .val (.ref p2), .val (.ref p3), .val (.ref b2), .val (.ref b6), .val (.ref b7), .val (.int 3), .val (.int 0), .val (.ref b8_0), .val (.ref b8_0), .val (.int 3), .unset, .unset, .unset]) z_d19_329 rfl 331 rfl ?_
  refine z_iconst C (v := (0 : Int32)) z_d19_331 (by decide) 332 rfl ?_
  refine z_istore C (Ls' := #[.val (.ref p0), .val (.ref p1), .val (.ref p2), .val (.ref p3), .val (.ref b2), .val (.ref b6), .val (.ref b7), .val (.int 3), .val (.int 0), .val (.ref b8_0), .val (.ref b8_0), .val (.int 3), .val (.int 0), .unset, .unset]) z_d19_332 rfl 334 rfl ?_
  refine z_iload C z_d19_334 rfl 336 rfl ?_
  refine z_iload C z_d19_336 rfl 338 rfl ?_
  refine z_icmpN C z_d19_338 (by decide) 341 rfl ?_
  refine z_aload C z_d19_341 rfl rfl 343 rfl ?_
  refine z_iload C z_d19_343 rfl 345 rfl ?_
  refine z_iaload C o_b8_0_11 (by decide) (v := (.int (z_ix y0))) (by rfl) z_d19_345 346 rfl ?_
  refine z_istore C (Ls' := #[.val (.ref p0), .val (.ref p1), .val (.ref p2), .val (.ref p3), .val (.ref b2), .val (.ref b6), .val (.ref b7), .val (.int 3), .val (.int 0), .val (.ref b8_0), .val (.ref b8_0), .val (.int 3), .val (.int 0), .val (.int (z_ix y0)), .unset]) z_d19_346 rfl 348 rfl ?_
  refine z_aload C z_d19_348 rfl rfl 350 rfl ?_
  refine z_iload C z_d19_350 rfl 352 rfl ?_
  refine z_iconst C (v := (1 : Int32)) z_d19_352 (by decide) 353 rfl ?_
  refine z_ishr C (z := (1 : Int32)) z_d19_353 rq0 354 rfl ?_
  refine z_dup2 C z_d19_354 rfl rfl 355 rfl ?_
  have n_b7_b4 : (b7 : Nat) ≠ b4 := by omega
  have n_b7_b2 : (b7 : Nat) ≠ b2 := by omega
  have o_b7_11 := ((((o_b7.keep K8 nin0).keep K9 nin0).other W10 n_b7_b4).keep K11 (ninS n_b7_b2 nin0))
  refine z_iaload C o_b7_11 (by decide) (v := (.int 0)) (by rfl) z_d19_355 356 rfl ?_
  refine z_iconst C (v := (1 : Int32)) z_d19_356 (by decide) 357 rfl ?_
  refine z_iadd C (z := (1 : Int32)) z_d19_357 (by decide) 358 rfl ?_
  have e_b7 : n0 ≤ (b7 : Nat) := by omega
  refine z_iastore C (z := (1 : Int32)) o_b7_11 (by decide) (of_decide_eq_true rfl) rfl (vs' := [(.int 0), (.int 1), (.int 0), (.int 0)]) (by rfl) e_b7 z_d19_358 359 rfl ?_
  intro h12 W12 o_b7_12
  have s12 : h12.size = h11.size := W12.size
  have q_b7 : h.size ≤ (b7 : Nat) := by omega
  have k12 : Keep h h12 [p3, p0] := k11.wr W12 (Or.inr q_b7)
  refine z_iinc C (w := (1 : Int32)) (Ls' := #[.val (.ref p0), .val (.ref p1), .val (.ref p2), .val (.ref p3), .val (.ref b2), .val (.ref b6), .val (.ref b7), .val (.int 3), .val (.int 0), .val (.ref b8_0), .val (.ref b8_0), .val (.int 3), .val (.int 1), .val (.int (z_ix y0)), .unset]) z_d19_359 rfl (by decide) rfl 362 rfl ?_
  refine z_goto C z_d19_362 (by decide) 334 (by decide) ?_
  refine z_iload C z_d19_334 rfl 336 rfl ?_
  refine z_iload C z_d19_336 rfl 338 rfl ?_
  refine z_icmpN C z_d19_338 (by decide) 341 rfl ?_
  refine z_aload C z_d19_341 rfl rfl 343 rfl ?_
  refine z_iload C z_d19_343 rfl 345 rfl ?_
  have n_b8_0_b7 : (b8_0 : Nat) ≠ b7 := by omega
  have o_b8_0_12 := (o_b8_0_11.other W12 n_b8_0_b7)
  refine z_iaload C o_b8_0_12 (by decide) (v := (.int (z_ix y1))) (by rfl) z_d19_345 346 rfl ?_
  refine z_istore C (Ls' := #[.val (.ref p0), .val (.ref p1), .val (.ref p2), .val (.ref p3), .val (.ref b2), .val (.ref b6), .val (.ref b7), .val (.int 3), .val (.int 0), .val (.ref b8_0), .val (.ref b8_0), .val (.int 3), .val (.int 1), .val (.int (z_ix y1)), .unset]) z_d19_346 rfl 348 rfl ?_
  refine z_aload C z_d19_348 rfl rfl 350 rfl ?_
  refine z_iload C z_d19_350 rfl 352 rfl ?_
  refine z_iconst C (v := (1 : Int32)) z_d19_352 (by decide) 353 rfl ?_
  refine z_ishr C (z := (2 : Int32)) z_d19_353 rq1 354 rfl ?_
  refine z_dup2 C z_d19_354 rfl rfl 355 rfl ?_
  refine z_iaload C o_b7_12 (by decide) (v := (.int 0)) (by rfl) z_d19_355 356 rfl ?_
  refine z_iconst C (v := (1 : Int32)) z_d19_356 (by decide) 357 rfl ?_
  refine z_iadd C (z := (1 : Int32)) z_d19_357 (by decide) 358 rfl ?_
  refine z_iastore C (z := (1 : Int32)) o_b7_12 (by decide) (of_decide_eq_true rfl) rfl (vs' := [(.int 0), (.int 1), (.int 1), (.int 0)]) (by rfl) e_b7 z_d19_358 359 rfl ?_
  intro h13 W13 o_b7_13
  have s13 : h13.size = h12.size := W13.size
  have k13 : Keep h h13 [p3, p0] := k12.wr W13 (Or.inr q_b7)
  refine z_iinc C (w := (2 : Int32)) (Ls' := #[.val (.ref p0), .val (.ref p1), .val (.ref p2), .val (.ref p3), .val (.ref b2), .val (.ref b6), .val (.ref b7), .val (.int 3), .val (.int 0), .val (.ref b8_0), .val (.ref b8_0), .val (.int 3), .val (.int 2), .val (.int (z_ix y1)), .unset]) z_d19_359 rfl (by decide) rfl 362 rfl ?_
  refine z_goto C z_d19_362 (by decide) 334 (by decide) ?_
  refine z_iload C z_d19_334 rfl 336 rfl ?_
  refine z_iload C z_d19_336 rfl 338 rfl ?_
  refine z_icmpN C z_d19_338 (by decide) 341 rfl ?_
  refine z_aload C z_d19_341 rfl rfl 343 rfl ?_
  refine z_iload C z_d19_343 rfl 345 rfl ?_
  have o_b8_0_13 := (o_b8_0_12.other W13 n_b8_0_b7)
  refine z_iaload C o_b8_0_13 (by decide) (v := (.int (z_ix y2))) (by rfl) z_d19_345 346 rfl ?_
  refine z_istore C (Ls' := #[.val (.ref p0), .val (.ref p1), .val (.ref p2), .val (.ref p3), .val (.ref b2), .val (.ref b6), .val (.ref b7), .val (.int 3), .val (.int 0), .val (.ref b8_0), .val (.ref b8_0), .val (.int 3), .val (.int 2), .val (.int (z_ix y2)), .unset]) z_d19_346 rfl 348 rfl ?_
  refine z_aload C z_d19_348 rfl rfl 350 rfl ?_
  refine z_iload C z_d19_350 rfl 352 rfl ?_
  refine z_iconst C (v := (1 : Int32)) z_d19_352 (by decide) 353 rfl ?_
  refine z_ishr C (z := (3 : Int32)) z_d19_353 rq2 354 rfl ?_
  refine z_dup2 C z_d19_354 rfl rfl 355 rfl ?_
  refine z_iaload C o_b7_13 (by decide) (v := (.int 0)) (by rfl) z_d19_355 356 rfl ?_
  refine z_iconst C (v := (1 : Int32)) z_d19_356 (by decide) 357 rfl ?_
  refine z_iadd C (z := (1 : Int32)) z_d19_357 (by decide) 358 rfl ?_
  refine z_iastore C (z := (1 : Int32)) o_b7_13 (by decide) (of_decide_eq_true rfl) rfl (vs' := [(.int 0), (.int 1), (.int 1), (.int 1)]) (by rfl) e_b7 z_d19_358 359 rfl ?_
  intro h14 W14 o_b7_14
  have s14 : h14.size = h13.size := W14.size
  have k14 : Keep h h14 [p3, p0] := k13.wr W14 (Or.inr q_b7)
  refine z_iinc C (w := (3 : Int32)) (Ls' := #[.val (.ref p0), .val (.ref p1), .val (.ref p2), .val (.ref p3), .val (.ref b2), .val (.ref b6), .val (.ref b7), .val (.int 3), .val (.int 0), .val (.ref b8_0), .val (.ref b8_0), .val (.int 3), .val (.int 3), .val (.int (z_ix y2)), .unset]) z_d19_359 rfl (by decide) rfl 362 rfl ?_
  refine z_goto C z_d19_362 (by decide) 334 (by decide) ?_
  refine z_iload C z_d19_334 rfl 336 rfl ?_
  have n_p3_b2 : (p3 : Nat) ≠ b2 := by omega
  have n_p3_b4 : (p3 : Nat) ≠ b4 := by omega
  have n_p3_b7 : (p3 : Nat) ≠ b7 := by omega
  have o_p3_14 := (((((((((((((o_p3_1.ext E2).keep K3 (ninS n_p3_b2 nin0)).ext E4).other W5 (Ne.symm ne_p0_p3)).ext E6).ext E7).keep K8 nin0).keep K9 nin0).other W10 n_p3_b4).keep K11 (ninS n_p3_b2 nin0)).other W12 n_p3_b7).other W13 n_p3_b7).other W14 n_p3_b7)
  have n_p0_b7 : (p0 : Nat) ≠ b7 := by omega
  have o_p0_14 := ((((((o_p0_8.keep K9 nin0).other W10 n_b4_p0.symm).keep K11 (ninS n_p0_b2 nin0)).other W12 n_p0_b7).other W13 n_p0_b7).other W14 n_p0_b7)
  have o_b2_14 := (((o_b2_11.other W12 n_b7_b2.symm).other W13 n_b7_b2.symm).other W14 n_b7_b2.symm)
  have o_b4_14 := ((((o_b4_10.keep K11 (ninS n_b2_b4.symm nin0)).other W12 n_b7_b4.symm).other W13 n_b7_b4.symm).other W14 n_b7_b4.symm)
  have n_b6_b4 : (b6 : Nat) ≠ b4 := by omega
  have n_b6_b2 : (b6 : Nat) ≠ b2 := by omega
  have n_b6_b7 : (b6 : Nat) ≠ b7 := by omega
  have o_b6_14 := ((((((((o_b6.ext E7).keep K8 nin0).keep K9 nin0).other W10 n_b6_b4).keep K11 (ninS n_b6_b2 nin0)).other W12 n_b6_b7).other W13 n_b6_b7).other W14 n_b6_b7)
  have o_b8_0_14 := (o_b8_0_13.other W14 n_b8_0_b7)
  have n_b11_0_b7 : (b11_0 : Nat) ≠ b7 := by omega
  have o_b11_0_14 := (((o_b11_0_11.other W12 n_b11_0_b7).other W13 n_b11_0_b7).other W14 n_b11_0_b7)
  exact K h14 b2 b4 b6 b7 b8_0 b11_0 k14 (by omega) (by omega) (by omega) (by omega) (by omega) (by omega) (by omega) o_p3_14 o_p0_14 o_b2_14 o_b4_14 o_b6_14 o_b7_14 o_b8_0_14 o_b11_0_14
set_option maxHeartbeats 2000000 in
theorem z_c24_63 (hw : z_T Z a0) (S : z_St Z a_DEF a_ONE a_NONE) (z0 : n0 ≤ h.size) (old : Old Z n0 h) :
    z_Met l Z (⟨"jdk/internal/util/Preconditions", "checkIndex", "(IILjava/util/function/BiFunction;)I"⟩ : MethodName) jdk_41_method_11_code 3 (some .int) [] ({ frames := 0, cells := 0, slots := 0, locals := 0 } : Room) n0 #[(.int 1), (.int 2), .null] h (z_pure (.int 1) h) := by
  refine z_met (Ls := #[.val (.int 1), .val (.int 2), .val .null]) (by first | exact plainFor_of_name (by first | (simp [plainName, overriddenIn]; done) | decide +kernel) | decide +kernel) rfl ?_
  intro p e s m below meth c C
  refine z_iloadN C z_d24_0 rfl 1 rfl ?_
  refine z_ifN C z_d24_1 (by decide) 4 rfl ?_
  refine z_iloadN C z_d24_4 rfl 5 rfl ?_
  refine z_iloadN C z_d24_5 rfl 6 rfl ?_
  refine z_icmpY C z_d24_6 (by decide) (by decide) 16 (by decide) ?_
  refine z_iloadN C z_d24_16 rfl 17 rfl ?_
  exact z_ireturn C (Or.inl rfl) rfl z_d24_17 (by decide) (by decide) ⟨rfl, rfl⟩
set_option maxHeartbeats 2000000 in
theorem z_c23_64 (hw : z_T Z a0) (S : z_St Z a_DEF a_ONE a_NONE) (z0 : n0 ≤ h.size) (old : Old Z n0 h) :
    z_Met l Z (⟨"java/util/Objects", "checkIndex", "(II)I"⟩ : MethodName) jdk_31_method_17_code 2 (some .int) [] ({ frames := 1, cells := 0, slots := 0, locals := 14 } : Room) n0 #[(.int 1), (.int 2)] h (z_pure (.int 1) h) := by
  refine z_met (Ls := #[.val (.int 1), .val (.int 2)]) (by first | exact plainFor_of_name (by first | (simp [plainName, overriddenIn]; done) | decide +kernel) | decide +kernel) rfl ?_
  intro p e s m below meth c C
  refine z_iloadN C z_d23_0 rfl 1 rfl ?_
  refine z_iloadN C z_d23_1 rfl 2 rfl ?_
  refine z_aconst_null C z_d23_2 3 rfl ?_
  refine z_callSp C (z_c24_63 l hw S z0 old) (z_w hw 171 rfl) (z_w hw 172 rfl) (z_w hw 173 rfl) (z_w hw 174 rfl) (by decide) z_d23_3 rfl (argsL := [(.int 1), (.int 2), .null]) (rest := []) rfl (lenOf z_pd11 rfl) (W := 0) (Nat.le_of_eq rfl) (by decide) (by decide) (by decide) (by decide) (by decide) (by decide) 6 rfl ?_
  exact z_ireturn C (Or.inl rfl) rfl z_d23_6 (by decide) (by decide) ⟨rfl, rfl⟩
set_option maxHeartbeats 2000000 in
theorem z_c25_65 (hw : z_T Z a0) (S : z_St Z a_DEF a_ONE a_NONE) (z0 : n0 ≤ h.size) (old : Old Z n0 h) (p0 : Nat) (p1 : Nat) (p2 : Nat) (p3 : Nat) (o_p0 : z_Ob Z h p0 "java/util/ArrayList" z_lay1 [(.int 2), (.ref p1), (.int 2)]) (o_p1 : z_Ar Z h p1 (.object "java/lang/Object") "[Ljava/lang/Object;" "java/lang/Object" [(.ref p2), (.ref p3), .null, .null, .null, .null, .null, .null, .null, .null]) :
    z_Met l Z (⟨"java/util/ArrayList", "elementData", "(I)Ljava/lang/Object;"⟩ : MethodName) jdk_38_method_18_code 2 (some (.object "java/lang/Object")) [] ({ frames := 0, cells := 0, slots := 0, locals := 0 } : Room) n0 #[(.ref p0), (.int 1)] h (z_pure (.ref p3) h) := by
  refine z_met (Ls := #[.val (.ref p0), .val (.int 1)]) (by first | exact plainFor_of_name (by first | (simp [plainName, overriddenIn]; done) | decide +kernel) | decide +kernel) rfl ?_
  intro p e s m below meth c C
  refine z_aloadN C z_d25_0 rfl rfl 1 rfl ?_
  refine z_getO C (z_w hw 31 rfl) Via.refl o_p0 1 rfl rfl z_d25_1 4 rfl ?_
  refine z_iloadN C z_d25_4 rfl 5 rfl ?_
  refine z_aaload C o_p1 rfl (by decide) (v := (.ref p3)) (by rfl) z_d25_5 6 rfl ?_
  exact z_areturn C rfl rfl z_d25_6 (by decide) (by decide) ⟨rfl, rfl⟩
set_option maxHeartbeats 2000000 in
theorem z_c22_66 (hw : z_T Z a0) (S : z_St Z a_DEF a_ONE a_NONE) (z0 : n0 ≤ h.size) (old : Old Z n0 h) (p0 : Nat) (p1 : Nat) (p2 : Nat) (p3 : Nat) (o_p0 : z_Ob Z h p0 "java/util/ArrayList" z_lay1 [(.int 2), (.ref p1), (.int 2)]) (o_p1 : z_Ar Z h p1 (.object "java/lang/Object") "[Ljava/lang/Object;" "java/lang/Object" [(.ref p2), (.ref p3), .null, .null, .null, .null, .null, .null, .null, .null]) :
    z_Met l Z (⟨"java/util/ArrayList", "get", "(I)Ljava/lang/Object;"⟩ : MethodName) jdk_38_method_20_code 2 (some (.object "java/lang/Object")) [] ({ frames := 2, cells := 0, slots := 0, locals := 27 } : Room) n0 #[(.ref p0), (.int 1)] h (z_pure (.ref p3) h) := by
  refine z_met (Ls := #[.val (.ref p0), .val (.int 1)]) (by first | exact plainFor_of_name (by first | (simp [plainName, overriddenIn]; done) | decide +kernel) | decide +kernel) rfl ?_
  intro p e s m below meth c C
  refine z_iloadN C z_d22_0 rfl 1 rfl ?_
  refine z_aloadN C z_d22_1 rfl rfl 2 rfl ?_
  refine z_getO C (z_w hw 83 rfl) Via.refl o_p0 2 rfl rfl z_d22_2 5 rfl ?_
  refine z_callSp C (z_c23_64 l hw S z0 old) (z_w hw 167 rfl) (z_w hw 168 rfl) (z_w hw 169 rfl) (z_w hw 170 rfl) (by decide) z_d22_5 rfl (argsL := [(.int 1), (.int 2)]) (rest := []) rfl (lenOf z_pd3 rfl) (W := 0) (Nat.le_of_eq rfl) (by decide) (by decide) (by decide) (by decide) (by decide) (by decide) 8 rfl ?_
  refine z_pop C z_d22_8 rfl 9 rfl ?_
  refine z_aloadN C z_d22_9 rfl rfl 10 rfl ?_
  refine z_iloadN C z_d22_10 rfl 11 rfl ?_
  refine z_callVp C o_p0.1 (z_c25_65 l hw S z0 old p0 p1 p2 p3 o_p0 o_p1) (z_w hw 175 rfl) (z_w hw 176 rfl) (z_w hw 178 rfl) (z_w hw 177 rfl) (z_w hw 11 rfl) (z_w hw 179 rfl) (by decide) z_d22_11 rfl (argsL := [(.int 1)]) (rest := []) rfl (lenOf z_pd12 rfl) (W := 0) (Nat.le_of_eq rfl) (by decide) (by decide) (by decide) (by decide) (by decide) (by decide) 14 rfl ?_
  exact z_areturn C rfl rfl z_d22_14 (by decide) (by decide) ⟨rfl, rfl⟩
set_option maxHeartbeats 2000000 in
theorem z_c8_67 (hw : z_T Z a0) (S : z_St Z a_DEF a_ONE a_NONE) (z0 : n0 ≤ h.size) (old : Old Z n0 h) :
    z_Met l Z (⟨"java/util/BitSet", "wordIndex", "(I)I"⟩ : MethodName) jdk_92_method_1_code 1 (some .int) [] ({ frames := 0, cells := 0, slots := 0, locals := 0 } : Room) n0 #[(.int 1)] h (z_pure (.int 0) h) := by
  refine z_met (Ls := #[.val (.int 1)]) (by first | exact plainFor_of_name (by first | (simp [plainName, overriddenIn]; done) | decide +kernel) | decide +kernel) rfl ?_
  intro p e s m below meth c C
  refine z_iloadN C z_d8_0 rfl 1 rfl ?_
  refine z_bipush C (v := (6 : Int32)) z_d8_1 (by decide) 3 rfl ?_
  refine z_ishr C (z := (0 : Int32)) z_d8_3 (by decide) 4 rfl ?_
  exact z_ireturn C (Or.inl rfl) rfl z_d8_4 (by decide) (by decide) ⟨rfl, rfl⟩
set_option maxHeartbeats 2000000 in
theorem z_c29_68 (hw : z_T Z a0) (S : z_St Z a_DEF a_ONE a_NONE) (z0 : n0 ≤ h.size) (old : Old Z n0 h) (p0 : Nat) (p1 : Nat) (o_p0 : z_Ob Z h p0 "java/util/BitSet" z_lay2 [(.int 0), (.int 0), (.ref p1)]) :
    z_Met l Z (⟨"java/util/BitSet", "get", "(I)Z"⟩ : MethodName) jdk_92_method_26_code 3 (some .boolean) [] ({ frames := 1, cells := 0, slots := 0, locals := 12 } : Room) n0 #[(.ref p0), (.int 1)] h (z_val fun w h' => w = (.int 0) ∧ Keep h h' []) := by
  refine z_met (Ls := #[.val (.ref p0), .val (.int 1), .unset]) (by first | exact plainFor_of_name (by first | (simp [plainName, overriddenIn]; done) | decide +kernel) | decide +kernel) rfl ?_
  intro p e s m below meth c C
  refine z_iloadN C z_d29_0 rfl 1 rfl ?_
  refine z_ifY C z_d29_1 (by decide) (by decide) 31 (by decide) ?_
  refine z_aloadN C z_d29_31 rfl rfl 32 rfl ?_
  refine z_callPV C o_p0.1 (z_c30_58 l hw S z0 old p0) (z_w hw 214 rfl) (z_w hw 215 rfl) (z_w hw 217 rfl) (z_w hw 216 rfl) (z_w hw 37 rfl) (z_w hw 218 rfl) (by decide) z_d29_32 rfl (argsL := []) (rest := []) rfl (lenOf z_pd0 rfl) (W := 0) (Nat.le_of_eq rfl) (by decide) (by decide) (by decide) (by decide) 35 rfl ?_
  rintro h1 K1
  have s1 : h.size ≤ h1.size := K1.1
  have k1 : Keep h h1 [] := (Keep.refl h []).trans K1 all0
  refine z_iloadN C z_d29_35 rfl 36 rfl ?_
  have zz1 : n0 ≤ h1.size := by omega
  have old1 := (old.keep K1 all0)
  refine z_callSp C (z_c8_67 l hw S zz1 old1) (z_w hw 51 rfl) (z_w hw 52 rfl) (z_w hw 37 rfl) (z_w hw 53 rfl) (by decide) z_d29_36 rfl (argsL := [(.int 1)]) (rest := []) rfl (lenOf z_pd1 rfl) (W := 0) (Nat.le_of_eq rfl) (by decide) (by decide) (by decide) (by decide) (by decide) (by decide) 39 rfl ?_
  refine z_istoreN C (Ls' := #[.val (.ref p0), .val (.int 1), .val (.int 0)]) z_d29_39 rfl 40 rfl ?_
  refine z_iloadN C z_d29_40 rfl 41 rfl ?_
  refine z_aloadN C z_d29_41 rfl rfl 42 rfl ?_
  have o_p0_1 := (o_p0.keep K1 nin0)
  refine z_getO C (z_w hw 42 rfl) Via.refl o_p0_1 0 rfl rfl z_d29_42 45 rfl ?_
  refine z_icmpY C z_d29_45 (by decide) (by decide) 67 (by decide) ?_
  refine z_iconst C (v := (0 : Int32)) z_d29_67 (by decide) 68 rfl ?_
  exact z_ireturn C (by simp) rfl z_d29_68 (by decide) (by decide) ⟨_, rfl, rfl, k1⟩
set_option maxHeartbeats 2000000 in
theorem z_c28_69 (hw : z_T Z a0) (S : z_St Z a_DEF a_ONE a_NONE) (z0 : n0 ≤ h.size) (old : Old Z n0 h) (p0 : Nat) (p1 : Nat) (p2 : Nat) (p3 : Nat) (p4 : Nat) (p5 : Nat) (p6 : Nat) (o_p0 : z_Ob Z h p0 "com/example/variegate/variegate/service/Cnf" z_lay0 [(.ref p1), (.ref p2), (.ref p3), (.ref p4), (.ref p5), (.long (2 : Int64))]) (o_p2 : z_Ob Z h p2 "java/util/BitSet" z_lay2 [(.int 0), (.int 0), (.ref p6)]) :
    z_Met l Z (⟨"com/example/variegate/variegate/service/Cnf", "isRedundant", "(I)Z"⟩ : MethodName) prog_73_method_5_code 2 (some .boolean) [] ({ frames := 2, cells := 0, slots := 0, locals := 26 } : Room) n0 #[(.ref p0), (.int 1)] h (z_val fun w h' => w = (.int 0) ∧ Keep h h' []) := by
  refine z_met (Ls := #[.val (.ref p0), .val (.int 1)]) (by first | exact plainFor_of_name (by first | (simp [plainName, overriddenIn]; done) | decide +kernel) | decide +kernel) rfl ?_
  intro p e s m below meth c C
  refine z_aloadN C z_d28_0 rfl rfl 1 rfl ?_
  refine z_getO C (z_w hw 57 rfl) Via.refl o_p0 1 rfl rfl z_d28_1 4 rfl ?_
  refine z_iloadN C z_d28_4 rfl 5 rfl ?_
  refine z_callV C o_p2.1 (z_c29_68 l hw S z0 old p2 p6 o_p2) (z_w hw 209 rfl) (z_w hw 210 rfl) (z_w hw 212 rfl) (z_w hw 211 rfl) (z_w hw 37 rfl) (z_w hw 213 rfl) (by decide) z_d28_5 rfl (argsL := [(.int 1)]) (rest := []) rfl (lenOf z_pd16 rfl) (W := 0) (Nat.le_of_eq rfl) (by decide) (by decide) (by decide) (by decide) 8 rfl ?_
  rintro _ h1 ⟨rfl, K1⟩
  have s1 : h.size ≤ h1.size := K1.1
  have k1 : Keep h h1 [] := (Keep.refl h []).trans K1 all0
  exact z_ireturn C (by simp) rfl z_d28_8 (by decide) (by decide) ⟨_, rfl, rfl, k1⟩
set_option maxHeartbeats 8000000 in
theorem z_k19_70 (hw : z_T Z a0) (S : z_St Z a_DEF a_ONE a_NONE) (z0 : n0 ≤ h.size) (old : Old Z n0 h) (y2 y3 y4 y5 : Int32) (p0 p1 p2 p3 p4 p5 p6 p7 p8 p9 p10 p11 p12 p13 p14 p15 p16 p17 p18 p19 p20 p21 : Nat) (o_p1 : z_Ob Z h p1 "com/example/variegate/variegate/service/Cnf" z_lay0 [(.ref p8), (.ref p9), (.ref p10), (.ref p11), (.ref p12), (.long (2 : Int64))]) (o_p8 : z_Ob Z h p8 "java/util/ArrayList" z_lay1 [(.int 2), (.ref p13), (.int 2)]) (o_p13 : z_Ar Z h p13 (.object "java/lang/Object") "[Ljava/lang/Object;" "java/lang/Object" [(.ref p14), (.ref p15), .null, .null, .null, .null, .null, .null, .null, .null]) (o_p15 : z_Ar Z h p15 .int "[I" "" [(.int y3), (.int y4), (.int y5)]) (o_p0 : z_Ob Z h p0 "com/example/variegate/variegate/service/Propagation" z_lay3 [(.int 3), (.ref p16), (.ref p17), (.ref p18), (.ref p19), .null, .null, .null, .null, .null, .null, (.int 0), (.int 0)]) (o_p4 : z_Ob Z h p4 "java/util/ArrayList" z_lay1 [(.int 1), (.ref p20), (.int 1)]) (o_p9 : z_Ob Z h p9 "java/util/BitSet" z_lay2 [(.int 0), (.int 0), (.ref p21)]) (o_p19 : z_Ar Z h p19 .boolean "[Z" "" [(.int 0), (.int 0)]) (o_p20 : z_Ar Z h p20 (.object "java/lang/Object") "[Ljava/lang/Object;" "java/lang/Object" [(.ref p7), .null, .null, .null, .null, .null, .null, .null, .null, .null]) (o_p6 : z_Ar Z h p6 .int "[I" "" [(.int 0), (.int 1), (.int 1), (.int 1)]) (o_p5 : z_Ar Z h p5 .int "[I" "" [(.int 0), (.int 0), (.int 0), (.int 0), (.int 0), (.int 0), (.int 0), (.int 0)]) (ne_p19_p4 : p19 ≠ p4) (ne_p19_p20 : p19 ≠ p20) (ne_p20_p4 : p20 ≠ p4) (ne_p19_p6 : p19 ≠ p6) (ne_p20_p6 : p20 ≠ p6) (ne_p4_p6 : p4 ≠ p6) (ne_p1_p19 : p1 ≠ p19) (ne_p1_p20 : p1 ≠ p20) (ne_p1_p4 : p1 ≠ p4) (ne_p1_p6 : p1 ≠ p6) (ne_p19_p8 : p19 ≠ p8) (ne_p20_p8 : p20 ≠ p8) (ne_p4_p8 : p4 ≠ p8) (ne_p6_p8 : p6 ≠ p8) (ne_p0_p19 : p0 ≠ p19) (ne_p0_p20 : p0 ≠ p20) (ne_p0_p4 : p0 ≠ p4) (ne_p0_p6 : p0 ≠ p6) (ne_p19_p5 : p19 ≠ p5) (ne_p20_p5 : p20 ≠ p5) (ne_p4_p5 : p4 ≠ p5) (ne_p5_p6 : p5 ≠ p6) (ne_p0_p5 : p0 ≠ p5) (g_p19 : n0 ≤ p19) (g_p4 : n0 ≤ p4) (g_p20 : n0 ≤ p20) (g_p6 : n0 ≤ p6) (g_p0 : n0 ≤ p0) (rq0 : ((z_ix y3) >>> ((1 : Int32) &&& 31)) = (1 : Int32)) (rq1 : ((z_ix y4) >>> ((1 : Int32) &&& 31)) = (2 : Int32)) (rq2 : ((z_ix y5) >>> ((1 : Int32) &&& 31)) = (3 : Int32)) {p : Program} {e : Env} {s : State} {m : MethodId} {args : Array Value} {below : List Frame} {meth : Method} {c : Code} {Q : Option Value → Heap → Prop} (C : z_Cx Z p s m meth c "com/example/variegate/variegate/service/Propagation" prog_97_method_1_code 15 none "<init>")
    (K : ∀ (h' : Heap) (b1_0 b8 : Nat), Keep h h' [p19, p20, p4, p6, p0] → h.size ≤ b1_0 → b1_0 < b8 → b8 < h'.size → z_Ob Z h' p0 "com/example/variegate/variegate/service/Propagation" z_lay3 [(.int 3), (.ref p16), (.ref p17), (.ref p18), (.ref p19), (.ref b8), .null, .null, .null, .null, .null, (.int 0), (.int 0)] → z_Ob Z h' p4 "java/util/ArrayList" z_lay1 [(.int 2), (.ref p20), (.int 2)] → z_Ar Z h' p19 .boolean "[Z" "" [(.int 0), (.int 0)] → z_Ar Z h' p20 (.object "java/lang/Object") "[Ljava/lang/Object;" "java/lang/Object" [(.ref p7), (.ref b1_0), .null, .null, .null, .null, .null, .null, .null, .null] → z_Ar Z h' p6 .int "[I" "" [(.int 0), (.int 2), (.int 2), (.int 2)] → z_Ar Z h' b1_0 .int "[I" "" [(.int (z_ix y3)), (.int (z_ix y4)), (.int (z_ix y5))] → z_Ar Z h' b8 (.array .int) "[[I" "[I" [(.ref a_NONE), (.ref a_NONE), .null, .null, .null, .null, .null, .null] → z_At p l e ({ frames := 5, cells := 27, slots := 126, locals := 70 } : Room) s m args below meth c n0 Q h' 13 67 (mkF m 389 #[.val (.ref p0), .val (.ref p1), .val (.ref p2), .val (.ref p3), .val (.ref p4), .val (.ref p5), .val (.ref p6), .val (.int 6), .val (.int 2), .val (.ref b1_0), .val (.ref b1_0), .val (.int 3), .val (.int 3), .val (.int (z_ix y5)), .unset] [])) :
    z_At p l e ({ frames := 5, cells := 27, slots := 126, locals := 70 } : Room) s m args below meth c n0 Q h 11 56 (mkF m 336 #[.val (.ref p0), .val (.ref p1), .val (.ref p2), .val (.ref p3), .val (.ref p4), .val (.ref p5), .val (.ref p6), .val (.int 3), .val (.int 0), .val (.ref p7), .val (.ref p7), .val (.int 3), .val (.int 3), .val (.int (z_ix y2)), .unset] [(.int 3)]) := by
  have lt_p1 := o_p1.lt
  have lt_p8 := o_p8.lt
  have lt_p13 := o_p13.lt
  have lt_p15 := o_p15.lt
  have lt_p0 := o_p0.lt
  have lt_p4 := o_p4.lt
  have lt_p9 := o_p9.lt
  have lt_p19 := o_p19.lt
  have lt_p20 := o_p20.lt
  have lt_p6 := o_p6.lt
  have lt_p5 := o_p5.lt
  refine z_iload C z_d19_336 rfl 338 rfl ?_
  refine z_icmpY C z_d19_338 (by decide) (by decide) 365 (by decide) ?_
  refine z_iinc C (w := (1 : Int32)) (Ls' := #[.val (.ref p0), .val (.ref p1), .val (.ref p2), .val (.ref p3), .val (.ref p4), .val (.ref p5), .val (.ref p6), .val (.int 3), .val (.int 1), .val (.ref p7), .val (.ref p7), .val (.int 3), .val (.int 3), .val (.int (z_ix y2)), .unset]) z_d19_365 rfl (by decide) rfl 368 rfl ?_
  refine z_goto C z_d19_368 (by decide) 166 (by decide) ?_
  refine z_iload C z_d19_166 rfl 168 rfl ?_
  refine z_aloadN C z_d19_168 rfl rfl 169 rfl ?_
  refine z_callVp C o_p1.1 (z_c26_51 l hw S z0 old p1 p8 p9 p10 p11 p12 o_p1) (z_w hw 189 rfl) (z_w hw 190 rfl) (z_w hw 192 rfl) (z_w hw 191 rfl) (z_w hw 2 rfl) (z_w hw 193 rfl) (by decide) z_d19_169 rfl (argsL := []) (rest := [(.int 1)]) rfl (lenOf z_pd14 rfl) (W := 1) (Nat.le_of_eq rfl) (by decide) (by decide) (by decide) (by decide) (by decide) (by decide) 172 rfl ?_
  refine z_callFp C o_p8.1 (z_c15_16 l hw S z0 old p8 p13 o_p8) (z_w hw 194 rfl) (z_w hw 108 rfl) (z_w hw 109 rfl) (z_w hw 110 rfl) (z_w hw 111 rfl) (z_w hw 112 rfl) (z_w hw 113 rfl) (z_w hw 79 rfl) (z_w hw 11 rfl) (z_w hw 114 rfl) (by decide) z_d19_172 rfl (argsL := []) (rest := [(.int 1)]) rfl (lenOf z_pd8 rfl) (W := 1) (Nat.le_of_eq rfl) (by decide) (by decide) (by decide) (by decide) (by decide) (by decide) 177 rfl ?_
  refine z_icmpN C z_d19_177 (by decide) 180 rfl ?_
  refine z_aloadN C z_d19_180 rfl rfl 181 rfl ?_
  refine z_callVp C o_p1.1 (z_c26_51 l hw S z0 old p1 p8 p9 p10 p11 p12 o_p1) (z_w hw 189 rfl) (z_w hw 190 rfl) (z_w hw 192 rfl) (z_w hw 191 rfl) (z_w hw 2 rfl) (z_w hw 193 rfl) (by decide) z_d19_181 rfl (argsL := []) (rest := []) rfl (lenOf z_pd14 rfl) (W := 0) (Nat.le_of_eq rfl) (by decide) (by decide) (by decide) (by decide) (by decide) (by decide) 184 rfl ?_
  refine z_iload C z_d19_184 rfl 186 rfl ?_
  refine z_callFp C o_p8.1 (z_c22_66 l hw S z0 old p8 p13 p14 p15 o_p8 o_p13) (z_w hw 198 rfl) (z_w hw 160 rfl) (z_w hw 161 rfl) (z_w hw 162 rfl) (z_w hw 163 rfl) (z_w hw 164 rfl) (z_w hw 165 rfl) (z_w hw 79 rfl) (z_w hw 11 rfl) (z_w hw 166 rfl) (by decide) z_d19_186 rfl (argsL := [(.int 1)]) (rest := []) rfl (lenOf z_pd12 rfl) (W := 0) (Nat.le_of_eq rfl) (by decide) (by decide) (by decide) (by decide) (by decide) (by decide) 191 rfl ?_
  refine z_castY C (z_w hw 199 rfl) (Ins.self o_p15.exa) z_d19_191 194 rfl ?_
  refine z_callS C (z_c27_56 l hw S z0 old y3 y4 y5 p15 o_p15) (z_w hw 201 rfl) (z_w hw 202 rfl) (z_w hw 138 rfl) (z_w hw 203 rfl) (by decide) z_d19_194 rfl (argsL := [(.ref p15)]) (rest := []) rfl (lenOf z_pd15 rfl) (W := 0) (Nat.le_of_eq rfl) (by decide) (by decide) (by decide) (by decide) 197 rfl ?_
  rintro _ h1 ⟨b1_0, rfl, K1, l1_0, l1_1, o_b1_0_1⟩
  have s1 : h.size ≤ h1.size := K1.1
  have k1 : Keep h h1 [p19, p20, p4, p6, p0] := (Keep.refl h [p19, p20, p4, p6, p0]).trans K1 all0
  refine z_astore C (Ls' := #[.val (.ref p0), .val (.ref p1), .val (.ref p2), .val (.ref p3), .val (.ref p4), .val (.ref p5), .val (.ref p6), .val (.int 3), .val (.int 1), .val (.ref b1_0), .val (.ref p7), .val (.int 3), .val (.int 3), .val (.int (z_ix y2)), .unset]) z_d19_197 rfl rfl 199 rfl ?_
  refine z_aload C z_d19_199 rfl rfl 201 rfl ?_
  refine z_arraylength C (z := (3 : Int32)) o_b1_0_1 (by rfl) z_d19_201 202 rfl ?_
  refine z_ifY C z_d19_202 (by decide) (by decide) 213 (by decide) ?_
  refine z_aload C z_d19_213 rfl rfl 215 rfl ?_
  refine z_arraylength C (z := (3 : Int32)) o_b1_0_1 (by rfl) z_d19_215 216 rfl ?_
  refine z_iconst C (v := (1 : Int32)) z_d19_216 (by decide) 217 rfl ?_
  refine z_icmpY C z_d19_217 (by decide) (by decide) 232 (by decide) ?_
  refine z_aload C z_d19_232 rfl rfl 234 rfl ?_
  refine z_arraylength C (z := (3 : Int32)) o_b1_0_1 (by rfl) z_d19_234 235 rfl ?_
  refine z_iconst C (v := (2 : Int32)) z_d19_235 (by decide) 236 rfl ?_
  refine z_icmpY C z_d19_236 (by decide) (by decide) 286 (by decide) ?_
  refine z_aloadN C z_d19_286 rfl rfl 287 rfl ?_
  have o_p0_1 := (o_p0.keep K1 nin0)
  refine z_getO C (z_w hw 196 rfl) Via.refl o_p0_1 4 rfl rfl z_d19_287 290 rfl ?_
  refine z_aload C z_d19_290 rfl rfl 292 rfl ?_
  have zz1 : n0 ≤ h1.size := by omega
  have o_p4_1 := (o_p4.keep K1 nin0)
  have old1 := (old.keep K1 all0)
  refine z_callFp C o_p4_1.1 (z_c15_12 l hw S zz1 old1 p4 p20 o_p4_1) (z_w hw 194 rfl) (z_w hw 108 rfl) (z_w hw 109 rfl) (z_w hw 110 rfl) (z_w hw 111 rfl) (z_w hw 112 rfl) (z_w hw 113 rfl) (z_w hw 79 rfl) (z_w hw 11 rfl) (z_w hw 114 rfl) (by decide) z_d19_292 rfl (argsL := []) (rest := [(.ref p19)]) rfl (lenOf z_pd8 rfl) (W := 1) (Nat.le_of_eq rfl) (by decide) (by decide) (by decide) (by decide) (by decide) (by decide) 297 rfl ?_
  refine z_aloadN C z_d19_297 rfl rfl 298 rfl ?_
  refine z_iload C z_d19_298 rfl 300 rfl ?_
  have o_p1_1 := (o_p1.keep K1 nin0)
  have o_p9_1 := (o_p9.keep K1 nin0)
  refine z_callV C o_p1_1.1 (z_c28_69 l hw S zz1 old1 p1 p8 p9 p10 p11 p12 p21 o_p1_1 o_p9_1) (z_w hw 204 rfl) (z_w hw 205 rfl) (z_w hw 207 rfl) (z_w hw 206 rfl) (z_w hw 2 rfl) (z_w hw 208 rfl) (by decide) z_d19_300 rfl (argsL := [(.int 1)]) (rest := [(.int 1), (.ref p19)]) rfl (lenOf z_pd16 rfl) (W := 2) (Nat.le_of_eq rfl) (by decide) (by decide) (by decide) (by decide) 303 rfl ?_
  rintro _ h2 ⟨rfl, K2⟩
  have s2 : h1.size ≤ h2.size := K2.1
  have k2 : Keep h h2 [p19, p20, p4, p6, p0] := k1.trans K2 all0
  have o_p19_2 := ((o_p19.keep K1 nin0).keep K2 nin0)
  refine z_bastoreZ C (z := (0 : Int32)) o_p19_2 (by decide) (of_decide_eq_true rfl) (by decide) (vs' := [(.int 0), (.int 0)]) (by rfl) g_p19 z_d19_303 304 rfl ?_
  intro h3 W3 o_p19_3
  have s3 : h3.size = h2.size := W3.size
  have k3 : Keep h h3 [p19, p20, p4, p6, p0] := k2.wr W3 (Or.inl (by simp))
  refine z_aload C z_d19_304 rfl rfl 306 rfl ?_
  refine z_aload C z_d19_306 rfl rfl 308 rfl ?_
  have zz3 : n0 ≤ h3.size := by omega
  have o_p4_3 := ((o_p4_1.keep K2 nin0).other W3 (Ne.symm ne_p19_p4))
  have o_p20_3 := (((o_p20.keep K1 nin0).keep K2 nin0).other W3 (Ne.symm ne_p19_p20))
  have n_b1_0_p19 : (b1_0 : Nat) ≠ p19 := by omega
  have o_b1_0_3 := ((o_b1_0_1.keep K2 nin0).other W3 n_b1_0_p19)
  have old3 := ((old1.keep K2 all0).wr W3 g_p19)
  have n_p4_b1_0 : (p4 : Nat) ≠ b1_0 := by omega
  refine z_callF C o_p4_3.1 (z_c10_29 l hw S zz3 old3 (z_ix y3) (z_ix y4) (z_ix y5) p4 b1_0 p20 p7 o_p4_3 o_p20_3 o_b1_0_3 (Ne.symm ne_p20_p4) n_p4_b1_0 g_p4 g_p20) (z_w hw 220 rfl) (z_w hw 73 rfl) (z_w hw 74 rfl) (z_w hw 75 rfl) (z_w hw 76 rfl) (z_w hw 77 rfl) (z_w hw 78 rfl) (z_w hw 79 rfl) (z_w hw 11 rfl) (z_w hw 80 rfl) (by decide) z_d19_308 rfl (argsL := [(.ref b1_0)]) (rest := []) rfl (lenOf z_pd7 rfl) (W := 0) (Nat.le_of_eq rfl) (by decide) (by decide) (by decide) (by decide) 313 rfl ?_
  rintro _ h4 ⟨rfl, K4, o_p4_4, o_p20_4⟩
  have s4 : h3.size ≤ h4.size := K4.1
  have k4 : Keep h h4 [p19, p20, p4, p6, p0] := k3.trans K4 (allS (Or.inl (by simp)) (allS (Or.inl (by simp)) all0))
  refine z_pop C z_d19_313 rfl 314 rfl ?_
  refine z_iload C z_d19_314 rfl 316 rfl ?_
  refine z_aload C z_d19_316 rfl rfl 318 rfl ?_
  have n_b1_0_p20 : (b1_0 : Nat) ≠ p20 := by omega
  have o_b1_0_4 := (o_b1_0_3.keep K4 (ninS n_p4_b1_0.symm (ninS n_b1_0_p20 nin0)))
  refine z_arraylength C (z := (3 : Int32)) o_b1_0_4 (by rfl) z_d19_318 319 rfl ?_
  refine z_iadd C (z := (6 : Int32)) z_d19_319 (by decide) 320 rfl ?_
  refine z_istore C (Ls' := #[.val (.ref p0), .val (.ref p1), .val (.ref p2), .val (.ref p3), .val (.ref p4), .val (.ref p5), .val (.ref p6), .val (.int 6), .val (.int 1), .val (.ref b1_0), .val (.ref p7), .val (.int 3), .val (.int 3), .val (.int (z_ix y2)), .unset]) z_d19_320 rfl 322 rfl ?_
  refine z_aload C z_d19_322 rfl rfl 324 rfl ?_
  refine z_astore C (Ls' := #[.val (.ref p0), .val (.ref p1), .val (.ref p2), .val (.ref p3), .val (.ref p4), .val (.ref p5), .val (.ref p6), .val (.int 6), .val (.int 1), .val (.ref b1_0), .val (.ref b1_0), .val (.int 3), .val (.int 3), .val (.int (z_ix y2)), .unset]) z_d19_324 rfl rfl 326 rfl ?_
  refine z_aload C z_d19_326 rfl rfl 328 rfl ?_
  refine z_arraylength C (z := (3 : Int32)) o_b1_0_4 (by rfl) z_d19_328 329 rfl ?_
  refine z_istore C (Ls' := #[.val (.ref p0), .val (.ref p1), .val (.ref p2), .val (.ref p3), .val (.ref p4), .val (.ref p5), .val (.ref p6), .val (.int 6), .val (.int 1), .val (.ref b1_0), .val (.ref b1_0), .val (.int 3), .val (.int 3), .val (.int (z_ix y2)), .unset]) z_d19_329 rfl 331 rfl ?_
  refine z_iconst C (v := (0 : Int32)) z_d19_331 (by decide) 332 rfl ?_
  refine z_istore C (Ls' := #[.val (.ref p0), .val (.ref p1), .val (.ref p2), .val (.ref p3), .val (.ref p4), .val (.ref p5), .val (.ref p6), .val (.int 6), .val (.int 1), .val (.ref b1_0), .val (.ref b1_0), .val (.int 3), .val (.int 0), .val (.int (z_ix y2)), .unset]) z_d19_332 rfl 334 rfl ?_
  refine z_iload C z_d19_334 rfl 336 rfl ?_
  refine z_iload C z_d19_336 rfl 338 rfl ?_
  refine z_icmpN C z_d19_338 (by decide) 341 rfl ?_
  refine z_aload C z_d19_341 rfl rfl 343 rfl ?_
  refine z_iload C z_d19_343 rfl 345 rfl ?_
  refine z_iaload C o_b1_0_4 (by decide) (v := (.int (z_ix y3))) (by rfl) z_d19_345 346 rfl ?_
  refine z_istore C (Ls' := #[.val (.ref p0), .val (.ref p1), .val (.ref p2), .val (.ref p3), .val (.ref p4), .val (.ref p5), .val (.ref p6), .val (.int 6), .val (.int 1), .val (.ref b1_0), .val (.ref b1_0), .val (.int 3), .val (.int 0), .val (.int (z_ix y3)), .unset]) z_d19_346 rfl 348 rfl ?_
  refine z_aload C z_d19_348 rfl rfl 350 rfl ?_
  refine z_iload C z_d19_350 rfl 352 rfl ?_
  refine z_iconst C (v := (1 : Int32)) z_d19_352 (by decide) 353 rfl ?_
  refine z_ishr C (z := (1 : Int32)) z_d19_353 rq0 354 rfl ?_
  refine z_dup2 C z_d19_354 rfl rfl 355 rfl ?_
  have o_p6_4 := ((((o_p6.keep K1 nin0).keep K2 nin0).other W3 (Ne.symm ne_p19_p6)).keep K4 (ninS (Ne.symm ne_p4_p6) (ninS (Ne.symm ne_p20_p6) nin0)))
  refine z_iaload C o_p6_4 (by decide) (v := (.int 1)) (by rfl) z_d19_355 356 rfl ?_
  refine z_iconst C (v := (1 : Int32)) z_d19_356 (by decide) 357 rfl ?_
  refine z_iadd C (z := (2 : Int32)) z_d19_357 (by decide) 358 rfl ?_
  refine z_iastore C (z := (2 : Int32)) o_p6_4 (by decide) (of_decide_eq_true rfl) rfl (vs' := [(.int 0), (.int 2), (.int 1), (.int 1)]) (by rfl) g_p6 z_d19_358 359 rfl ?_
  intro h5 W5 o_p6_5
  have s5 : h5.size = h4.size := W5.size
  have k5 : Keep h h5 [p19, p20, p4, p6, p0] := k4.wr W5 (Or.inl (by simp))
  refine z_iinc C (w := (1 : Int32)) (Ls' := #[.val (.ref p0), .val (.ref p1), .val (.ref p2), .val (.ref p3), .val (.ref p4), .val (.ref p5), .val (.ref p6), .val (.int 6), .val (.int 1), .val (.ref b1_0), .val (.ref b1_0), .val (.int 3), .val (.int 1), .val (.int (z_ix y3)), .unset]) z_d19_359 rfl (by decide) rfl 362 rfl ?_
  refine z_goto C z_d19_362 (by decide) 334 (by decide) ?_
  refine z_iload C z_d19_334 rfl 336 rfl ?_
  refine z_iload C z_d19_336 rfl 338 rfl ?_
  refine z_icmpN C z_d19_338 (by decide) 341 rfl ?_
  refine z_aload C z_d19_341 rfl rfl 343 rfl ?_
  refine z_iload C z_d19_343 rfl 345 rfl ?_
  have n_b1_0_p6 : (b1_0 : Nat) ≠ p6 := by omega
  have o_b1_0_5 := (o_b1_0_4.other W5 n_b1_0_p6)
  refine z_iaload C o_b1_0_5 (by decide) (v := (.int (z_ix y4))) (by rfl) z_d19_345 346 rfl ?_
  refine z_istore C (Ls' := #[.val (.ref p0), .val (.ref p1), .val (.ref p2), .val (.ref p3), .val (.ref p4), .val (.ref p5), .val (.ref p6), .val (.int 6), .val (.int 1), .val (.ref b1_0), .val (.ref b1_0), .val (.int 3), .val (.int 1), .val (.int (z_ix y4)), .unset]) z_d19_346 rfl 348 rfl ?_
  refine z_aload C z_d19_348 rfl rfl 350 rfl ?_
  refine z_iload C z_d19_350 rfl 352 rfl ?_
  refine z_iconst C (v := (1 : Int32)) z_d19_352 (by decide) 353 rfl ?_
  refine z_ishr C (z := (2 : Int32)) z_d19_353 rq1 354 rfl ?_
  refine z_dup2 C z_d19_354 rfl rfl 355 rfl ?_
  refine z_iaload C o_p6_5 (by decide) (v := (.int 1)) (by rfl) z_d19_355 356 rfl ?_
  refine z_iconst C (v := (1 : Int32)) z_d19_356 (by decide) 357 rfl ?_
  refine z_iadd C (z := (2 : Int32)) z_d19_357 (by decide) 358 rfl ?_
  refine z_iastore C (z := (2 : Int32)) o_p6_5 (by decide) (of_decide_eq_true rfl) rfl (vs' := [(.int 0), (.int 2), (.int 2), (.int 1)]) (by rfl) g_p6 z_d19_358 359 rfl ?_
  intro h6 W6 o_p6_6
  have s6 : h6.size = h5.size := W6.size
  have k6 : Keep h h6 [p19, p20, p4, p6, p0] := k5.wr W6 (Or.inl (by simp))
  refine z_iinc C (w := (2 : Int32)) (Ls' := #[.val (.ref p0), .val (.ref p1), .val (.ref p2), .val (.ref p3), .val (.ref p4), .val (.ref p5), .val (.ref p6), .val (.int 6), .val (.int 1), .val (.ref b1_0), .val (.ref b1_0), .val (.int 3), .val (.int 2), .val (.int (z_ix y4)), .unset]) z_d19_359 rfl (by decide) rfl 362 rfl ?_
  refine z_goto C z_d19_362 (by decide) 334 (by decide) ?_
  refine z_iload C z_d19_334 rfl 336 rfl ?_
  refine z_iload C z_d19_336 rfl 338 rfl ?_
  refine z_icmpN C z_d19_338 (by decide) 341 rfl ?_
  refine z_aload C z_d19_341 rfl rfl 343 rfl ?_
  refine z_iload C z_d19_343 rfl 345 rfl ?_
  have o_b1_0_6 := (o_b1_0_5.other W6 n_b1_0_p6)
  refine z_iaload C o_b1_0_6 (by decide) (v := (.int (z_ix y5))) (by rfl) z_d19_345 346 rfl ?_
  refine z_istore C (Ls' := #[.val (.ref p0), .val (.ref p1), .val (.ref p2), .val (.ref p3), .val (.ref p4), .val (.ref p5), .val (.ref p6), .val (.int 6), .val (.int 1), .val (.ref b1_0), .val (.ref b1_0), .val (.int 3), .val (.int 2), .val (.int (z_ix y5)), .unset]) z_d19_346 rfl 348 rfl ?_
  refine z_aload C z_d19_348 rfl rfl 350 rfl ?_
  refine z_iload C z_d19_350 rfl 352 rfl ?_
  refine z_iconst C (v := (1 : Int32)) z_d19_352 (by decide) 353 rfl ?_
  refine z_ishr C (z := (3 : Int32)) z_d19_353 rq2 354 rfl ?_
  refine z_dup2 C z_d19_354 rfl rfl 355 rfl ?_
  refine z_iaload C o_p6_6 (by decide) (v := (.int 1)) (by rfl) z_d19_355 356 rfl ?_
  refine z_iconst C (v := (1 : Int32)) z_d19_356 (by decide) 357 rfl ?_
  refine z_iadd C (z := (2 : Int32)) z_d19_357 (by decide) 358 rfl ?_
  refine z_iastore C (z := (2 : Int32)) o_p6_6 (by decide) (of_decide_eq_true rfl) rfl (vs' := [(.int 0), (.int 2), (.int 2), (.int 2)]) (by rfl) g_p6 z_d19_358 359 rfl ?_
  intro h7 W7 o_p6_7
  have s7 : h7.size = h6.size := W7.size
  have k7 : Keep h h7 [p19, p20, p4, p6, p0] := k6.wr W7 (Or.inl (by simp))
  refine z_iinc C (w := (3 : Int32)) (Ls' := #[.val (.ref p0), .val (.ref p1), .val (.ref p2), .val (.ref p3), .val (.ref p4), .val (.ref p5), .val (.ref p6), .val (.int 6), .val (.int 1), .val (.ref b1_0), .val (.ref b1_0), .val (.int 3), .val (.int 3), .val (.int (z_ix y5)), .unset]) z_d19_359 rfl (by decide) rfl 362 rfl ?_
  refine z_goto C z_d19_362 (by decide) 334 (by decide) ?_
  refine z_iload C z_d19_334 rfl 336 rfl ?_
  refine z_iload C z_d19_336 rfl 338 rfl ?_
  refine z_icmpY C z_d19_338 (by decide) (by decide) 365 (by decide) ?_
  refine z_iinc C (w := (2 : Int32)) (Ls' := #[.val (.ref p0), .val (.ref p1), .val (.ref p2), .val (.ref p3), .val (.ref p4), .val (.ref p5), .val (.ref p6), .val (.int 6), .val (.int 2), .val (.ref b1_0), .val (.ref b1_0), .val (.int 3), .val (.int 3), .val (.int (z_ix y5)), .unset]) z_d19_365 rfl (by decide) rfl 368 rfl ?_
  refine z_goto C z_d19_368 (by decide) 166 (by decide) ?_
  refine z_iload C z_d19_166 rfl 168 rfl ?_
  refine z_aloadN C z_d19_168 rfl rfl 169 rfl ?_
  have zz7 : n0 ≤ h7.size := by omega
  have o_p1_7 := ((((((o_p1_1.keep K2 nin0).other W3 ne_p1_p19).keep K4 (ninS ne_p1_p4 (ninS ne_p1_p20 nin0))).other W5 ne_p1_p6).other W6 ne_p1_p6).other W7 ne_p1_p6)
  have old7 := ((((old3.keep K4 (allS g_p4 (allS g_p20 all0))).wr W5 g_p6).wr W6 g_p6).wr W7 g_p6)
  refine z_callVp C o_p1_7.1 (z_c26_51 l hw S zz7 old7 p1 p8 p9 p10 p11 p12 o_p1_7) (z_w hw 189 rfl) (z_w hw 190 rfl) (z_w hw 192 rfl) (z_w hw 191 rfl) (z_w hw 2 rfl) (z_w hw 193 rfl) (by decide) z_d19_169 rfl (argsL := []) (rest := [(.int 2)]) rfl (lenOf z_pd14 rfl) (W := 1) (Nat.le_of_eq rfl) (by decide) (by decide) (by decide) (by decide) (by decide) (by decide) 172 rfl ?_
  have o_p8_7 := (((((((o_p8.keep K1 nin0).keep K2 nin0).other W3 (Ne.symm ne_p19_p8)).keep K4 (ninS (Ne.symm ne_p4_p8) (ninS (Ne.symm ne_p20_p8) nin0))).other W5 (Ne.symm ne_p6_p8)).other W6 (Ne.symm ne_p6_p8)).other W7 (Ne.symm ne_p6_p8))
  refine z_callFp C o_p8_7.1 (z_c15_16 l hw S zz7 old7 p8 p13 o_p8_7) (z_w hw 194 rfl) (z_w hw 108 rfl) (z_w hw 109 rfl) (z_w hw 110 rfl) (z_w hw 111 rfl) (z_w hw 112 rfl) (z_w hw 113 rfl) (z_w hw 79 rfl) (z_w hw 11 rfl) (z_w hw 114 rfl) (by decide) z_d19_172 rfl (argsL := []) (rest := [(.int 2)]) rfl (lenOf z_pd8 rfl) (W := 1) (Nat.le_of_eq rfl) (by decide) (by decide) (by decide) (by decide) (by decide) (by decide) 177 rfl ?_
  refine z_icmpY C z_d19_177 (by decide) (by decide) 371 (by decide) ?_
  refine z_aloadN C z_d19_371 rfl rfl 372 rfl ?_
  refine z_iconst C (v := (2 : Int32)) z_d19_372 (by decide) 373 rfl ?_
  refine z_aloadN C z_d19_373 rfl rfl 374 rfl ?_
  have o_p0_7 := ((((((o_p0_1.keep K2 nin0).other W3 ne_p0_p19).keep K4 (ninS ne_p0_p4 (ninS ne_p0_p20 nin0))).other W5 ne_p0_p6).other W6 ne_p0_p6).other W7 ne_p0_p6)
  refine z_getO C (z_w hw 148 rfl) Via.refl o_p0_7 0 rfl rfl z_d19_374 377 rfl ?_
  refine z_imul C (z := (6 : Int32)) z_d19_377 (by decide) 378 rfl ?_
  refine z_iconst C (v := (2 : Int32)) z_d19_378 (by decide) 379 rfl ?_
  refine z_iadd C (z := (8 : Int32)) z_d19_379 (by decide) 380 rfl ?_
  refine z_anewarrayA C (Cn := "[I") (ty := .int) (by decide +kernel) (z_w hw 199 rfl) (z_w hw 221 rfl) (by decide) (cap := 8) (by decide) (by decide) (ad := "[[I") (by decide +kernel) (vs := [.null, .null, .null, .null, .null, .null, .null, .null]) (by rfl) z_d19_380 (by decide) (by decide) 383 rfl ?_
  intro h8 b8 g8 E8 o_b8
  have s8 : h7.size ≤ h8.size := E8.1
  have k8 : Keep h h8 [p19, p20, p4, p6, p0] := k7.ext E8
  have t8 := o_b8.lt
  have o_p0_8 := (o_p0_7.ext E8)
  refine z_putO C (z_w hw 222 rfl) Via.refl o_p0_8 (z_lay3_ok hw) 5 rfl (vs' := [(.int 3), (.ref p16), (.ref p17), (.ref p18), (.ref p19), (.ref b8), .null, .null, .null, .null, .null, (.int 0), (.int 0)]) rfl (Or.inr ⟨(z_w hw 223 rfl), rfl, rfl⟩) (z_w hw 137 rfl) (ty := (.array (.array .int))) (by decide) (by first | rfl | decide) (by first | rfl | decide) g_p0 z_d19_383 386 rfl ?_
  intro h9 W9 o_p0_9
  have s9 : h9.size = h8.size := W9.size
  have k9 : Keep h h9 [p19, p20, p4, p6, p0] := k8.wr W9 (Or.inl (by simp))
  refine z_iconst C (v := (0 : Int32)) z_d19_386 (by decide) 387 rfl ?_
  refine z_istore C (Ls' := #[.val (.ref p0), .val (.ref p1), .val (.ref p2), .val (.ref p3), .val (.ref p4), .val (.ref p5), .val (.ref p6), .val (.int 6), .val (.int 0), .val (.ref b1_0), .val (.ref b1_0), .val (.int 3), .val (.int 3), .val (.int (z_ix y5)), .unset]) z_d19_387 rfl 389 rfl ?_
  refine z_iload C z_d19_389 rfl 391 rfl ?_
  refine z_aloadN C z_d19_391 rfl rfl 392 rfl ?_
  refine z_getO C (z_w hw 222 rfl) Via.refl o_p0_9 5 rfl rfl z_d19_392 395 rfl ?_
  have n_b8_p0 : (b8 : Nat) ≠ p0 := by omega
  have o_b8_9 := (o_b8.other W9 n_b8_p0)
  refine z_arraylength C (z := (8 : Int32)) o_b8_9 (by rfl) z_d19_395 396 rfl ?_
  refine z_icmpN C z_d19_396 (by decide) 399 rfl ?_
  refine z_aloadN C z_d19_399 rfl rfl 400 rfl ?_
  refine z_getO C (z_w hw 222 rfl) Via.refl o_p0_9 5 rfl rfl z_d19_400 403 rfl ?_
  refine z_iload C z_d19_403 rfl 405 rfl ?_
  refine z_aload C z_d19_405 rfl rfl 407 rfl ?_
  refine z_iload C z_d19_407 rfl 409 rfl ?_
  have o_p5_9 := (((((((((o_p5.keep K1 nin0).keep K2 nin0).other W3 (Ne.symm ne_p19_p5)).keep K4 (ninS (Ne.symm ne_p4_p5) (ninS (Ne.symm ne_p20_p5) nin0))).other W5 ne_p5_p6).other W6 ne_p5_p6).other W7 ne_p5_p6).ext E8).other W9 (Ne.symm ne_p0_p5))
  refine z_iaload C o_p5_9 (by decide) (v := (.int 0)) (by rfl) z_d19_409 410 rfl ?_
  refine z_ifN C z_d19_410 (by decide) 413 rfl ?_
  have old9 := ((old7.ext E8).wr W9 g_p0)
  refine z_getstatic C (z_w hw 224 rfl) (S.2.2.1.1.ext old9.2) z_d19_413 416 rfl ?_
  refine z_goto C z_d19_416 (by decide) 426 (by decide) ?_
  have e_b8 : n0 ≤ (b8 : Nat) := by omega
  refine z_aastore C o_b8_9 rfl (o_b8_9.sto (by decide) (Ins.self (S.2.2.1.2.ext old9.2).exa)) (by decide) (of_decide_eq_true rfl) (vs' := [(.ref a_NONE), .null, .null, .null, .null, .null, .null, .null]) (by rfl) e_b8 z_d19_426 427 rfl ?_
  intro h10 W10 o_b8_10
  have s10 : h10.size = h9.size := W10.size
  have q_b8 : h.size ≤ (b8 : Nat) := by omega
  have k10 : Keep h h10 [p19, p20, p4, p6, p0] := k9.wr W10 (Or.inr q_b8)
  refine z_iinc C (w := (1 : Int32)) (Ls' := #[.val (.ref p0), .val (.ref p1), .val (.ref p2), .val (.ref p3), .val (.ref p4), .val (.ref p5), .val (.ref p6), .val (.int 6), .val (.int 1), .val (.ref b1_0), .val (.ref b1_0), .val (.int 3), .val (.int 3), .val (.int (z_ix y5)), .unset]) z_d19_427 rfl (by decide) rfl 430 rfl ?_
  refine z_goto C z_d19_430 (by decide) 389 (by decide) ?_
  refine z_iload C z_d19_389 rfl 391 rfl ?_
  refine z_aloadN C z_d19_391 rfl rfl 392 rfl ?_
  have o_p0_10 := (o_p0_9.other W10 n_b8_p0.symm)
  refine z_getO C (z_w hw 222 rfl) Via.refl o_p0_10 5 rfl rfl z_d19_392 395 rfl ?_
  refine z_arraylength C (z := (8 : Int32)) o_b8_10 (by rfl) z_d19_395 396 rfl ?_
  refine z_icmpN C z_d19_396 (by decide) 399 rfl ?_
  refine z_aloadN C z_d19_399 rfl rfl 400 rfl ?_
  refine z_getO C (z_w hw 222 rfl) Via.refl o_p0_10 5 rfl rfl z_d19_400 403 rfl ?_
  refine z_iload C z_d19_403 rfl 405 rfl ?_
  refine z_aload C z_d19_405 rfl rfl 407 rfl ?_
  refine z_iload C z_d19_407 rfl 409 rfl ?_
  have n_p5_b8 : (p5 : Nat) ≠ b8 := by omega
  have o_p5_10 := (o_p5_9.other W10 n_p5_b8)
  refine z_iaload C o_p5_10 (by decide) (v := (.int 0)) (by rfl) z_d19_409 410 rfl ?_
  refine z_ifN C z_d19_410 (by decide) 413 rfl ?_
  have old10 := (old9.wr W10 e_b8)
  refine z_getstatic C (z_w hw 224 rfl) (S.2.2.1.1.ext old10.2) z_d19_413 416 rfl ?_
  refine z_goto C z_d19_416 (by decide) 426 (by decide) ?_
  refine z_aastore C o_b8_10 rfl (o_b8_10.sto (by decide) (Ins.self (S.2.2.1.2.ext old10.2).exa)) (by decide) (of_decide_eq_true rfl) (vs' := [(.ref a_NONE), (.ref a_NONE), .null, .null, .null, .null, .null, .null]) (by rfl) e_b8 z_d19_426 427 rfl ?_
  intro h11 W11 o_b8_11
  have s11 : h11.size = h10.size := W11.size
  have k11 : Keep h h11 [p19, p20, p4, p6, p0] := k10.wr W11 (Or.inr q_b8)
  refine z_iinc C (w := (2 : Int32)) (Ls' := #[.val (.ref p0), .val (.ref p1), .val (.ref p2), .val (.ref p3), .val (.ref p4), .val (.ref p5), .val (.ref p6), .val (.int 6), .val (.int 2), .val (.ref b1_0), .val (.ref b1_0), .val (.int 3), .val (.int 3), .val (.int (z_ix y5)), .unset]) z_d19_427 rfl (by decide) rfl 430 rfl ?_
  refine z_goto C z_d19_430 (by decide) 389 (by decide) ?_
  have o_p0_11 := (o_p0_10.other W11 n_b8_p0.symm)
  have n_p4_b8 : (p4 : Nat) ≠ b8 := by omega
  have o_p4_11 := (((((((o_p4_4.other W5 ne_p4_p6).other W6 ne_p4_p6).other W7 ne_p4_p6).ext E8).other W9 (Ne.symm ne_p0_p4)).other W10 n_p4_b8).other W11 n_p4_b8)
  have n_p19_b8 : (p19 : Nat) ≠ b8 := by omega
  have o_p19_11 := ((((((((o_p19_3.keep K4 (ninS ne_p19_p4 (ninS ne_p19_p20 nin0))).other W5 ne_p19_p6).other W6 ne_p19_p6).other W7 ne_p19_p6).ext E8).other W9 (Ne.symm ne_p0_p19)).other W10 n_p19_b8).other W11 n_p19_b8)
  have n_p20_b8 : (p20 : Nat) ≠ b8 := by omega
  have o_p20_11 := (((((((o_p20_4.other W5 ne_p20_p6).other W6 ne_p20_p6).other W7 ne_p20_p6).ext E8).other W9 (Ne.symm ne_p0_p20)).other W10 n_p20_b8).other W11 n_p20_b8)
  have n_p6_b8 : (p6 : Nat) ≠ b8 := by omega
  have o_p6_11 := ((((o_p6_7.ext E8).other W9 (Ne.symm ne_p0_p6)).other W10 n_p6_b8).other W11 n_p6_b8)
  have n_b1_0_p0 : (b1_0 : Nat) ≠ p0 := by omega
  have n_b1_0_b8 : (b1_0 : Nat) ≠ b8 := by omega
  have o_b1_0_11 := (((((o_b1_0_6.other W7 n_b1_0_p6).ext E8).other W9 n_b1_0_p0).other W10 n_b1_0_b8).other W11 n_b1_0_b8)
  exact K h11 b1_0 b8 k11 (by omega) (by omega) (by omega) o_p0_11 o_p4_11 o_p19_11 o_p20_11 o_p6_11 o_b1_0_11 o_b8_11
set_option maxHeartbeats 2000000 in
theorem z_c31_71 (hw : z_T Z a0) (S : z_St Z a_DEF a_ONE a_NONE) (z0 : n0 ≤ h.size) (old : Old Z n0 h) (p0 : Nat) (o_p0 : z_Ar Z h p0 .int "[I" "" [(.int 0), (.int 0), (.int 0), (.int 0), (.int 0), (.int 0), (.int 0), (.int 0)]) (g_p0 : n0 ≤ p0) :
    z_Met l Z (⟨"java/util/Arrays", "fill", "([II)V"⟩ : MethodName) jdk_65_method_103_code 4 none [] ({ frames := 0, cells := 0, slots := 0, locals := 0 } : Room) n0 #[(.ref p0), (.int 0)] h (z_nov fun h' => Keep h h' [p0] ∧ z_Ar Z h' p0 .int "[I" "" [(.int 0), (.int 0), (.int 0), (.int 0), (.int 0), (.int 0), (.int 0), (.int 0)]) := by
  refine z_met (Ls := #[.val (.ref p0), .val (.int 0), .unset, .unset]) (by first | exact plainFor_of_name (by first | (simp [plainName, overriddenIn]; done) | decide +kernel) | decide +kernel) rfl ?_
  intro p e s m below meth c C
  refine z_iconst C (v := (0 : Int32)) z_d31_0 (by decide) 1 rfl ?_
  refine z_istoreN C (Ls' := #[.val (.ref p0), .val (.int 0), .val (.int 0), .unset]) z_d31_1 rfl 2 rfl ?_
  refine z_aloadN C z_d31_2 rfl rfl 3 rfl ?_
  refine z_arraylength C (z := (8 : Int32)) o_p0 (by rfl) z_d31_3 4 rfl ?_
  refine z_istoreN C (Ls' := #[.val (.ref p0), .val (.int 0), .val (.int 0), .val (.int 8)]) z_d31_4 rfl 5 rfl ?_
  refine z_iloadN C z_d31_5 rfl 6 rfl ?_
  refine z_iloadN C z_d31_6 rfl 7 rfl ?_
  refine z_icmpN C z_d31_7 (by decide) 10 rfl ?_
  refine z_aloadN C z_d31_10 rfl rfl 11 rfl ?_
  refine z_iloadN C z_d31_11 rfl 12 rfl ?_
  refine z_iloadN C z_d31_12 rfl 13 rfl ?_
  refine z_iastore C (z := (0 : Int32)) o_p0 (by decide) (of_decide_eq_true rfl) rfl (vs' := [(.int 0), (.int 0), (.int 0), (.int 0), (.int 0), (.int 0), (.int 0), (.int 0)]) (by rfl) g_p0 z_d31_13 14 rfl ?_
  intro h1 W1 o_p0_1
  have s1 : h1.size = h.size := W1.size
  have k1 : Keep h h1 [p0] := (Keep.refl h [p0]).wr W1 (Or.inl (by simp))
  refine z_iinc C (w := (1 : Int32)) (Ls' := #[.val (.ref p0), .val (.int 0), .val (.int 1), .val (.int 8)]) z_d31_14 rfl (by decide) rfl 17 rfl ?_
  refine z_goto C z_d31_17 (by decide) 5 (by decide) ?_
  refine z_iloadN C z_d31_5 rfl 6 rfl ?_
  refine z_iloadN C z_d31_6 rfl 7 rfl ?_
  refine z_icmpN C z_d31_7 (by decide) 10 rfl ?_
  refine z_aloadN C z_d31_10 rfl rfl 11 rfl ?_
  refine z_iloadN C z_d31_11 rfl 12 rfl ?_
  refine z_iloadN C z_d31_12 rfl 13 rfl ?_
  refine z_iastore C (z := (0 : Int32)) o_p0_1 (by decide) (of_decide_eq_true rfl) rfl (vs' := [(.int 0), (.int 0), (.int 0), (.int 0), (.int 0), (.int 0), (.int 0), (.int 0)]) (by rfl) g_p0 z_d31_13 14 rfl ?_
  intro h2 W2 o_p0_2
  have s2 : h2.size = h1.size := W2.size
  have k2 : Keep h h2 [p0] := k1.wr W2 (Or.inl (by simp))
  refine z_iinc C (w := (2 : Int32)) (Ls' := #[.val (.ref p0), .val (.int 0), .val (.int 2), .val (.int 8)]) z_d31_14 rfl (by decide) rfl 17 rfl ?_
  refine z_goto C z_d31_17 (by decide) 5 (by decide) ?_
  refine z_iloadN C z_d31_5 rfl 6 rfl ?_
  refine z_iloadN C z_d31_6 rfl 7 rfl ?_
  refine z_icmpN C z_d31_7 (by decide) 10 rfl ?_
  refine z_aloadN C z_d31_10 rfl rfl 11 rfl ?_
  refine z_iloadN C z_d31_11 rfl 12 rfl ?_
  refine z_iloadN C z_d31_12 rfl 13 rfl ?_
  refine z_iastore C (z := (0 : Int32)) o_p0_2 (by decide) (of_decide_eq_true rfl) rfl (vs' := [(.int 0), (.int 0), (.int 0), (.int 0), (.int 0), (.int 0), (.int 0), (.int 0)]) (by rfl) g_p0 z_d31_13 14 rfl ?_
  intro h3 W3 o_p0_3
  have s3 : h3.size = h2.size := W3.size
  have k3 : Keep h h3 [p0] := k2.wr W3 (Or.inl (by simp))
  refine z_iinc C (w := (3 : Int32)) (Ls' := #[.val (.ref p0), .val (.int 0), .val (.int 3), .val (.int 8)]) z_d31_14 rfl (by decide) rfl 17 rfl ?_
  refine z_goto C z_d31_17 (by decide) 5 (by decide) ?_
  refine z_iloadN C z_d31_5 rfl 6 rfl ?_
  refine z_iloadN C z_d31_6 rfl 7 rfl ?_
  refine z_icmpN C z_d31_7 (by decide) 10 rfl ?_
  refine z_aloadN C z_d31_10 rfl rfl 11 rfl ?_
  refine z_iloadN C z_d31_11 rfl 12 rfl ?_
  refine z_iloadN C z_d31_12 rfl 13 rfl ?_
  refine z_iastore C (z := (0 : Int32)) o_p0_3 (by decide) (of_decide_eq_true rfl) rfl (vs' := [(.int 0), (.int 0), (.int 0), (.int 0), (.int 0), (.int 0), (.int 0), (.int 0)]) (by rfl) g_p0 z_d31_13 14 rfl ?_
  intro h4 W4 o_p0_4
  have s4 : h4.size = h3.size := W4.size
  have k4 : Keep h h4 [p0] := k3.wr W4 (Or.inl (by simp))
  refine z_iinc C (w := (4 : Int32)) (Ls' := #[.val (.ref p0), .val (.int 0), .val (.int 4), .val (.int 8)]) z_d31_14 rfl (by decide) rfl 17 rfl ?_
  refine z_goto C z_d31_17 (by decide) 5 (by decide) ?_
  refine z_iloadN C z_d31_5 rfl 6 rfl ?_
  refine z_iloadN C z_d31_6 rfl 7 rfl ?_
  refine z_icmpN C z_d31_7 (by decide) 10 rfl ?_
  refine z_aloadN C z_d31_10 rfl rfl 11 rfl ?_
  refine z_iloadN C z_d31_11 rfl 12 rfl ?_
  refine z_iloadN C z_d31_12 rfl 13 rfl ?_
  refine z_iastore C (z := (0 : Int32)) o_p0_4 (by decide) (of_decide_eq_true rfl) rfl (vs' := [(.int 0), (.int 0), (.int 0), (.int 0), (.int 0), (.int 0), (.int 0), (.int 0)]) (by rfl) g_p0 z_d31_13 14 rfl ?_
  intro h5 W5 o_p0_5
  have s5 : h5.size = h4.size := W5.size
  have k5 : Keep h h5 [p0] := k4.wr W5 (Or.inl (by simp))
  refine z_iinc C (w := (5 : Int32)) (Ls' := #[.val (.ref p0), .val (.int 0), .val (.int 5), .val (.int 8)]) z_d31_14 rfl (by decide) rfl 17 rfl ?_
  refine z_goto C z_d31_17 (by decide) 5 (by decide) ?_
  refine z_iloadN C z_d31_5 rfl 6 rfl ?_
  refine z_iloadN C z_d31_6 rfl 7 rfl ?_
  refine z_icmpN C z_d31_7 (by decide) 10 rfl ?_
  refine z_aloadN C z_d31_10 rfl rfl 11 rfl ?_
  refine z_iloadN C z_d31_11 rfl 12 rfl ?_
  refine z_iloadN C z_d31_12 rfl 13 rfl ?_
  refine z_iastore C (z := (0 : Int32)) o_p0_5 (by decide) (of_decide_eq_true rfl) rfl (vs' := [(.int 0), (.int 0), (.int 0), (.int 0), (.int 0), (.int 0), (.int 0), (.int 0)]) (by rfl) g_p0 z_d31_13 14 rfl ?_
  intro h6 W6 o_p0_6
  have s6 : h6.size = h5.size := W6.size
  have k6 : Keep h h6 [p0] := k5.wr W6 (Or.inl (by simp))
  refine z_iinc C (w := (6 : Int32)) (Ls' := #[.val (.ref p0), .val (.int 0), .val (.int 6), .val (.int 8)]) z_d31_14 rfl (by decide) rfl 17 rfl ?_
  refine z_goto C z_d31_17 (by decide) 5 (by decide) ?_
  refine z_iloadN C z_d31_5 rfl 6 rfl ?_
  refine z_iloadN C z_d31_6 rfl 7 rfl ?_
  refine z_icmpN C z_d31_7 (by decide) 10 rfl ?_
  refine z_aloadN C z_d31_10 rfl rfl 11 rfl ?_
  refine z_iloadN C z_d31_11 rfl 12 rfl ?_
  refine z_iloadN C z_d31_12 rfl 13 rfl ?_
  refine z_iastore C (z := (0 : Int32)) o_p0_6 (by decide) (of_decide_eq_true rfl) rfl (vs' := [(.int 0), (.int 0), (.int 0), (.int 0), (.int 0), (.int 0), (.int 0), (.int 0)]) (by rfl) g_p0 z_d31_13 14 rfl ?_
  intro h7 W7 o_p0_7
  have s7 : h7.size = h6.size := W7.size
  have k7 : Keep h h7 [p0] := k6.wr W7 (Or.inl (by simp))
  refine z_iinc C (w := (7 : Int32)) (Ls' := #[.val (.ref p0), .val (.int 0), .val (.int 7), .val (.int 8)]) z_d31_14 rfl (by decide) rfl 17 rfl ?_
  refine z_goto C z_d31_17 (by decide) 5 (by decide) ?_
  refine z_iloadN C z_d31_5 rfl 6 rfl ?_
  refine z_iloadN C z_d31_6 rfl 7 rfl ?_
  refine z_icmpN C z_d31_7 (by decide) 10 rfl ?_
  refine z_aloadN C z_d31_10 rfl rfl 11 rfl ?_
  refine z_iloadN C z_d31_11 rfl 12 rfl ?_
  refine z_iloadN C z_d31_12 rfl 13 rfl ?_
  refine z_iastore C (z := (0 : Int32)) o_p0_7 (by decide) (of_decide_eq_true rfl) rfl (vs' := [(.int 0), (.int 0), (.int 0), (.int 0), (.int 0), (.int 0), (.int 0), (.int 0)]) (by rfl) g_p0 z_d31_13 14 rfl ?_
  intro h8 W8 o_p0_8
  have s8 : h8.size = h7.size := W8.size
  have k8 : Keep h h8 [p0] := k7.wr W8 (Or.inl (by simp))
  refine z_iinc C (w := (8 : Int32)) (Ls' := #[.val (.ref p0), .val (.int 0), .val (.int 8), .val (.int 8)]) z_d31_14 rfl (by decide) rfl 17 rfl ?_
  refine z_goto C z_d31_17 (by decide) 5 (by decide) ?_
  refine z_iloadN C z_d31_5 rfl 6 rfl ?_
  refine z_iloadN C z_d31_6 rfl 7 rfl ?_
  refine z_icmpY C z_d31_7 (by decide) (by decide) 20 (by decide) ?_
  exact z_return C z_d31_20 (by decide) (by decide) ⟨rfl, k8, o_p0_8⟩
set_option maxHeartbeats 2000000 in
theorem z_c33_72 (hw : z_T Z a0) (S : z_St Z a_DEF a_ONE a_NONE) (z0 : n0 ≤ h.size) (old : Old Z n0 h) (p0 : Nat) (p1 : Nat) (o_p0 : z_Ob Z h p0 "java/util/ArrayList$Itr" z_lay4 [.null, (.int 0), (.int 0), (.int 0)]) (o_p1 : z_Ob Z h p1 "java/util/ArrayList" z_lay1 [(.int 0), (.ref a_DEF), (.int 0)]) (ne_p0_p1 : p0 ≠ p1) (g_p0 : n0 ≤ p0) :
    z_Met l Z (⟨"java/util/ArrayList$Itr", "<init>", "(Ljava/util/ArrayList;)V"⟩ : MethodName) jdk_49_method_1_code 2 none [] ({ frames := 1, cells := 0, slots := 0, locals := 12 } : Room) n0 #[(.ref p0), (.ref p1)] h (z_nov fun h' => Keep h h' [p0] ∧ z_Ob Z h' p0 "java/util/ArrayList$Itr" z_lay4 [(.ref p1), (.int (-1)), (.int 0), (.int 0)]) := by
  refine z_met (Ls := #[.val (.ref p0), .val (.ref p1)]) (by first | exact plainFor_of_name (by first | (simp [plainName, overriddenIn]; done) | decide +kernel) | decide +kernel) rfl ?_
  intro p e s m below meth c C
  refine z_aloadN C z_d33_0 rfl rfl 1 rfl ?_
  refine z_aloadN C z_d33_1 rfl rfl 2 rfl ?_
  refine z_putO C (z_w hw 244 rfl) Via.refl o_p0 (z_lay4_ok hw) 0 rfl (vs' := [(.ref p1), (.int 0), (.int 0), (.int 0)]) rfl (Or.inr ⟨(z_w hw 245 rfl), rfl, rfl⟩) (z_w hw 238 rfl) (ty := (.object "java/util/ArrayList")) (by decide) (by first | rfl | decide) (by first | rfl | decide) g_p0 z_d33_2 5 rfl ?_
  intro h1 W1 o_p0_1
  have s1 : h1.size = h.size := W1.size
  have k1 : Keep h h1 [p0] := (Keep.refl h [p0]).wr W1 (Or.inl (by simp))
  refine z_aloadN C z_d33_5 rfl rfl 6 rfl ?_
  refine z_init0 C (z_w hw 246 rfl) (z_w hw 7 rfl) (z_w hw 8 rfl) z_d33_6 rfl (W := 0) (Nat.le_of_eq rfl) (by decide) (by decide) 9 rfl ?_
  refine z_aloadN C z_d33_9 rfl rfl 10 rfl ?_
  refine z_iconst C (v := (-1 : Int32)) z_d33_10 (by decide) 11 rfl ?_
  refine z_putO C (z_w hw 247 rfl) Via.refl o_p0_1 (z_lay4_ok hw) 1 rfl (vs' := [(.ref p1), (.int (-1)), (.int 0), (.int 0)]) rfl (Or.inl (z_w hw 248 rfl)) (z_w hw 238 rfl) (ty := .int) (by decide) (by first | rfl | decide) (by first | rfl | decide) g_p0 z_d33_11 14 rfl ?_
  intro h2 W2 o_p0_2
  have s2 : h2.size = h1.size := W2.size
  have k2 : Keep h h2 [p0] := k1.wr W2 (Or.inl (by simp))
  refine z_aloadN C z_d33_14 rfl rfl 15 rfl ?_
  refine z_aloadN C z_d33_15 rfl rfl 16 rfl ?_
  refine z_getO C (z_w hw 244 rfl) Via.refl o_p0_2 0 rfl rfl z_d33_16 19 rfl ?_
  have o_p1_2 := ((o_p1.other W1 (Ne.symm ne_p0_p1)).other W2 (Ne.symm ne_p0_p1))
  refine z_getO C (z_w hw 249 rfl) (Via.of (z_w hw 82 rfl)) o_p1_2 0 rfl rfl z_d33_19 22 rfl ?_
  refine z_putO C (z_w hw 250 rfl) Via.refl o_p0_2 (z_lay4_ok hw) 2 rfl (vs' := [(.ref p1), (.int (-1)), (.int 0), (.int 0)]) rfl (Or.inl (z_w hw 251 rfl)) (z_w hw 238 rfl) (ty := .int) (by decide) (by first | rfl | decide) (by first | rfl | decide) g_p0 z_d33_22 25 rfl ?_
  intro h3 W3 o_p0_3
  have s3 : h3.size = h2.size := W3.size
  have k3 : Keep h h3 [p0] := k2.wr W3 (Or.inl (by simp))
  exact z_return C z_d33_25 (by decide) (by decide) ⟨rfl, k3, o_p0_3⟩
set_option maxHeartbeats 2000000 in
theorem z_c32_73 (hw : z_T Z a0) (S : z_St Z a_DEF a_ONE a_NONE) (z0 : n0 ≤ h.size) (old : Old Z n0 h) (p0 : Nat) (o_p0 : z_Ob Z h p0 "java/util/ArrayList" z_lay1 [(.int 0), (.ref a_DEF), (.int 0)]) :
    z_Met l Z (⟨"java/util/ArrayList", "iterator", "()Ljava/util/Iterator;"⟩ : MethodName) jdk_38_method_55_code 1 (some (.object "java/util/Iterator")) [] ({ frames := 2, cells := 1, slots := 4, locals := 26 } : Room) n0 #[(.ref p0)] h (z_val fun w h' => ∃ b1 : Nat, w = (.ref b1) ∧ Keep h h' [] ∧ h.size ≤ b1 ∧ b1 < h'.size ∧ z_Ob Z h' b1 "java/util/ArrayList$Itr" z_lay4 [(.ref p0), (.int (-1)), (.int 0), (.int 0)]) := by
  have lt_p0 := o_p0.lt
  refine z_met (Ls := #[.val (.ref p0)]) (by first | exact plainFor_of_name (by first | (simp [plainName, overriddenIn]; done) | decide +kernel) | decide +kernel) rfl ?_
  intro p e s m below meth c C
  refine z_newO C (z_w hw 237 rfl) (z_w hw 238 rfl) (z_w hw 239 rfl) (z_lay4_ok hw) z_lay4_df z_d32_0 (by decide) (by decide) 3 rfl ?_
  intro h1 b1 g1 E1 o_b1
  have s1 : h.size ≤ h1.size := E1.1
  have k1 : Keep h h1 [] := (Keep.refl h []).ext E1
  have t1 := o_b1.lt
  refine z_dup C z_d32_3 rfl 4 rfl ?_
  refine z_aloadN C z_d32_4 rfl rfl 5 rfl ?_
  have zz1 : n0 ≤ h1.size := by omega
  have o_p0_1 := (o_p0.ext E1)
  have old1 := (old.ext E1)
  have n_b1_p0 : (b1 : Nat) ≠ p0 := by omega
  have e_b1 : n0 ≤ (b1 : Nat) := by omega
  refine z_callI C rfl (z_c33_72 l hw S zz1 old1 b1 p0 o_b1 o_p0_1 n_b1_p0 e_b1) (z_w hw 240 rfl) (z_w hw 241 rfl) (z_w hw 239 rfl) (z_w hw 243 rfl) (by decide) z_d32_5 rfl (argsL := [(.ref p0)]) (rest := [(.ref b1)]) rfl (lenOf z_pd18 rfl) (W := 1) (Nat.le_of_eq rfl) (by decide) (by decide) (by decide) (by decide) 8 rfl ?_
  rintro h2 ⟨K2, o_b1_2⟩
  have s2 : h1.size ≤ h2.size := K2.1
  have q_b1 : h.size ≤ (b1 : Nat) := by omega
  have k2 : Keep h h2 [] := k1.trans K2 (allS (Or.inr q_b1) all0)
  exact z_areturn C rfl rfl z_d32_8 (by decide) (by decide) ⟨_, rfl, b1, rfl, k2, by omega, by omega, o_b1_2⟩
set_option maxHeartbeats 2000000 in
theorem z_c34_74 (hw : z_T Z a0) (S : z_St Z a_DEF a_ONE a_NONE) (z0 : n0 ≤ h.size) (old : Old Z n0 h) (p0 : Nat) (p1 : Nat) (o_p0 : z_Ob Z h p0 "java/util/ArrayList$Itr" z_lay4 [(.ref p1), (.int (-1)), (.int 0), (.int 0)]) (o_p1 : z_Ob Z h p1 "java/util/ArrayList" z_lay1 [(.int 0), (.ref a_DEF), (.int 0)]) :
    z_Met l Z (⟨"java/util/ArrayList$Itr", "hasNext", "()Z"⟩ : MethodName) jdk_49_method_2_code 1 (some .boolean) [] ({ frames := 0, cells := 0, slots := 0, locals := 0 } : Room) n0 #[(.ref p0)] h (z_pure (.int 0) h) := by
  refine z_met (Ls := #[.val (.ref p0)]) (by first | exact plainFor_of_name (by first | (simp [plainName, overriddenIn]; done) | decide +kernel) | decide +kernel) rfl ?_
  intro p e s m below meth c C
  refine z_aloadN C z_d34_0 rfl rfl 1 rfl ?_
  refine z_getO C (z_w hw 261 rfl) Via.refl o_p0 3 rfl rfl z_d34_1 4 rfl ?_
  refine z_aloadN C z_d34_4 rfl rfl 5 rfl ?_
  refine z_getO C (z_w hw 244 rfl) Via.refl o_p0 0 rfl rfl z_d34_5 8 rfl ?_
  refine z_getN C (z_w hw 263 rfl) Via.refl o_p1 2 rfl rfl z_d34_8 11 rfl ?_
  refine z_icmpY C z_d34_11 (by decide) (by decide) 18 (by decide) ?_
  refine z_iconst C (v := (0 : Int32)) z_d34_18 (by decide) 19 rfl ?_
  exact z_ireturn C (by simp) rfl z_d34_19 (by decide) (by decide) ⟨rfl, rfl⟩
set_option maxHeartbeats 8000000 in
theorem z_k19_75 (hw : z_T Z a0) (S : z_St Z a_DEF a_ONE a_NONE) (z0 : n0 ≤ h.size) (old : Old Z n0 h) (y5 : Int32) (p0 p1 p2 p3 p4 p5 p6 p7 p8 p9 p10 p11 p12 p13 : Nat) (o_p0 : z_Ob Z h p0 "com/example/variegate/variegate/service/Propagation" z_lay3 [(.int 3), (.ref p8), (.ref p9), (.ref p10), (.ref p11), (.ref p12), .null, .null, .null, .null, .null, (.int 0), (.int 0)]) (o_p12 : z_Ar Z h p12 (.array .int) "[[I" "[I" [(.ref a_NONE), (.ref a_NONE), .null, .null, .null, .null, .null, .null]) (o_p5 : z_Ar Z h p5 .int "[I" "" [(.int 0), (.int 0), (.int 0), (.int 0), (.int 0), (.int 0), (.int 0), (.int 0)]) (o_p3 : z_Ob Z h p3 "java/util/ArrayList" z_lay1 [(.int 0), (.ref a_DEF), (.int 0)]) (o_p4 : z_Ob Z h p4 "java/util/ArrayList" z_lay1 [(.int 2), (.ref p13), (.int 2)]) (o_p6 : z_Ar Z h p6 .int "[I" "" [(.int 0), (.int 2), (.int 2), (.int 2)]) (ne_p0_p12 : p0 ≠ p12) (ne_p12_p5 : p12 ≠ p5) (ne_p12_p3 : p12 ≠ p3) (ne_p3_p5 : p3 ≠ p5) (ne_p0_p5 : p0 ≠ p5) (ne_p12_p4 : p12 ≠ p4) (ne_p4_p5 : p4 ≠ p5) (ne_p0_p4 : p0 ≠ p4) (ne_p12_p6 : p12 ≠ p6) (ne_p5_p6 : p5 ≠ p6) (ne_p0_p6 : p0 ≠ p6) (g_p12 : n0 ≤ p12) (g_p5 : n0 ≤ p5) (g_p0 : n0 ≤ p0) {p : Program} {e : Env} {s : State} {m : MethodId} {args : Array Value} {below : List Frame} {meth : Method} {c : Code} {Q : Option Value → Heap → Prop} (C : z_Cx Z p s m meth c "com/example/variegate/variegate/service/Propagation" prog_97_method_1_code 15 none "<init>")
    (K : ∀ (h' : Heap) (b9 b11 b13 : Nat), Keep h h' [p12, p5, p0] → h.size ≤ b9 → b9 < b11 → b11 < b13 → b13 < h'.size → z_Ob Z h' p0 "com/example/variegate/variegate/service/Propagation" z_lay3 [(.int 3), (.ref p8), (.ref p9), (.ref p10), (.ref p11), (.ref p12), (.ref b9), (.ref b11), (.ref b13), .null, .null, (.int 0), (.int 0)] → z_Ar Z h' p12 (.array .int) "[[I" "[I" [(.ref a_NONE), (.ref a_NONE), (.ref a_NONE), (.ref a_NONE), (.ref a_NONE), (.ref a_NONE), (.ref a_NONE), (.ref a_NONE)] → z_Ar Z h' p5 .int "[I" "" [(.int 0), (.int 0), (.int 0), (.int 0), (.int 0), (.int 0), (.int 0), (.int 0)] → z_Ar Z h' b9 .int "[I" "" [(.int 0), (.int 0), (.int 0), (.int 0), (.int 0), (.int 0)] → z_Ar Z h' b11 .int "[I" "" [(.int 0), (.int 0), (.int 0)] → z_Ar Z h' b13 (.array .int) "[[I" "[I" [(.ref a_NONE), .null, .null, .null] → z_At p l e ({ frames := 5, cells := 27, slots := 126, locals := 70 } : Room) s m args below meth c n0 Q h' 17 84 (mkF m 608 #[.val (.ref p0), .val (.ref p1), .val (.ref p2), .val (.ref p3), .val (.ref p4), .val (.ref p5), .val (.ref p6), .val (.int 6), .val (.int 0), .val (.ref p7), .val (.ref p7), .val (.int 3), .val (.int 3), .val (.int (z_ix y5)), .unset] [])) :
    z_At p l e ({ frames := 5, cells := 27, slots := 126, locals := 70 } : Room) s m args below meth c n0 Q h 13 67 (mkF m 389 #[.val (.ref p0), .val (.ref p1), .val (.ref p2), .val (.ref p3), .val (.ref p4), .val (.ref p5), .val (.ref p6), .val (.int 6), .val (.int 2), .val (.ref p7), .val (.ref p7), .val (.int 3), .val (.int 3), .val (.int (z_ix y5)), .unset] []) := by
  have lt_p0 := o_p0.lt
  have lt_p12 := o_p12.lt
  have lt_p5 := o_p5.lt
  have lt_p3 := o_p3.lt
  have lt_p4 := o_p4.lt
  have lt_p6 := o_p6.lt
  refine z_iload C z_d19_389 rfl 391 rfl ?_
  refine z_aloadN C z_d19_391 rfl rfl 392 rfl ?_
  refine z_getO C (z_w hw 222 rfl) Via.refl o_p0 5 rfl rfl z_d19_392 395 rfl ?_
  refine z_arraylength C (z := (8 : Int32)) o_p12 (by rfl) z_d19_395 396 rfl ?_
  refine z_icmpN C z_d19_396 (by decide) 399 rfl ?_
  refine z_aloadN C z_d19_399 rfl rfl 400 rfl ?_
  refine z_getO C (z_w hw 222 rfl) Via.refl o_p0 5 rfl rfl z_d19_400 403 rfl ?_
  refine z_iload C z_d19_403 rfl 405 rfl ?_
  refine z_aload C z_d19_405 rfl rfl 407 rfl ?_
  refine z_iload C z_d19_407 rfl 409 rfl ?_
  refine z_iaload C o_p5 (by decide) (v := (.int 0)) (by rfl) z_d19_409 410 rfl ?_
  refine z_ifN C z_d19_410 (by decide) 413 rfl ?_
  refine z_getstatic C (z_w hw 224 rfl) (S.2.2.1.1.ext old.2) z_d19_413 416 rfl ?_
  refine z_goto C z_d19_416 (by decide) 426 (by decide) ?_
  refine z_aastore C o_p12 rfl (o_p12.sto (by decide) (Ins.self (S.2.2.1.2.ext old.2).exa)) (by decide) (of_decide_eq_true rfl) (vs' := [(.ref a_NONE), (.ref a_NONE), (.ref a_NONE), .null, .null, .null, .null, .null]) (by rfl) g_p12 z_d19_426 427 rfl ?_
  intro h1 W1 o_p12_1
  have s1 : h1.size = h.size := W1.size
  have k1 : Keep h h1 [p12, p5, p0] := (Keep.refl h [p12, p5, p0]).wr W1 (Or.inl (by simp))
  refine z_iinc C (w := (3 : Int32)) (Ls' := #[.val (.ref p0), .val (.ref p1), .val (.ref p2), .val (.ref p3), .val (.ref p4), .val (.ref p5), .val (.ref p6), .val (.int 6), .val (.int 3), .val (.ref p7), .val (.ref p7), .val (.int 3), .val (.int 3), .val (.int (z_ix y5)), .unset]) z_d19_427 rfl (by decide) rfl 430 rfl ?_
  refine z_goto C z_d19_430 (by decide) 389 (by decide) ?_
  refine z_iload C z_d19_389 rfl 391 rfl ?_
  refine z_aloadN C z_d19_391 rfl rfl 392 rfl ?_
  have o_p0_1 := (o_p0.other W1 ne_p0_p12)
  refine z_getO C (z_w hw 222 rfl) Via.refl o_p0_1 5 rfl rfl z_d19_392 395 rfl ?_
  refine z_arraylength C (z := (8 : Int32)) o_p12_1 (by rfl) z_d19_395 396 rfl ?_
  refine z_icmpN C z_d19_396 (by decide) 399 rfl ?_
  refine z_aloadN C z_d19_399 rfl rfl 400 rfl ?_
  refine z_getO C (z_w hw 222 rfl) Via.refl o_p0_1 5 rfl rfl z_d19_400 403 rfl ?_
  refine z_iload C z_d19_403 rfl 405 rfl ?_
  refine z_aload C z_d19_405 rfl rfl 407 rfl ?_
  refine z_iload C z_d19_407 rfl 409 rfl ?_
  have o_p5_1 := (o_p5.other W1 (Ne.symm ne_p12_p5))
  refine z_iaload C o_p5_1 (by decide) (v := (.int 0)) (by rfl) z_d19_409 410 rfl ?_
  refine z_ifN C z_d19_410 (by decide) 413 rfl ?_
  have old1 := (old.wr W1 g_p12)
  refine z_getstatic C (z_w hw 224 rfl) (S.2.2.1.1.ext old1.2) z_d19_413 416 rfl ?_
  refine z_goto C z_d19_416 (by decide) 426 (by decide) ?_
  refine z_aastore C o_p12_1 rfl (o_p12_1.sto (by decide) (Ins.self (S.2.2.1.2.ext old1.2).exa)) (by decide) (of_decide_eq_true rfl) (vs' := [(.ref a_NONE), (.ref a_NONE), (.ref a_NONE), (.ref a_NONE), .null, .null, .null, .null]) (by rfl) g_p12 z_d19_426 427 rfl ?_
  intro h2 W2 o_p12_2
  have s2 : h2.size = h1.size := W2.size
  have k2 : Keep h h2 [p12, p5, p0] := k1.wr W2 (Or.inl (by simp))
  refine z_iinc C (w := (4 : Int32)) (Ls' := #[.val (.ref p0), .val (.ref p1), .val (.ref p2), .val (.ref p3), .val (.ref p4), .val (.ref p5), .val (.ref p6), .val (.int 6), .val (.int 4), .val (.ref p7), .val (.ref p7), .val (.int 3), .val (.int 3), .val (.int (z_ix y5)), .unset]) z_d19_427 rfl (by decide) rfl 430 rfl ?_
  refine z_goto C z_d19_430 (by decide) 389 (by decide) ?_
  refine z_iload C z_d19_389 rfl 391 rfl ?_
  refine z_aloadN C z_d19_391 rfl rfl 392 rfl ?_
  have o_p0_2 := (o_p0_1.other W2 ne_p0_p12)
  refine z_getO C (z_w hw 222 rfl) Via.refl o_p0_2 5 rfl rfl z_d19_392 395 rfl ?_
  refine z_arraylength C (z := (8 : Int32)) o_p12_2 (by rfl) z_d19_395 396 rfl ?_
  refine z_icmpN C z_d19_396 (by decide) 399 rfl ?_
  refine z_aloadN C z_d19_399 rfl rfl 400 rfl ?_
  refine z_getO C (z_w hw 222 rfl) Via.refl o_p0_2 5 rfl rfl z_d19_400 403 rfl ?_
  refine z_iload C z_d19_403 rfl 405 rfl ?_
  refine z_aload C z_d19_405 rfl rfl 407 rfl ?_
  refine z_iload C z_d19_407 rfl 409 rfl ?_
  have o_p5_2 := (o_p5_1.other W2 (Ne.symm ne_p12_p5))
  refine z_iaload C o_p5_2 (by decide) (v := (.int 0)) (by rfl) z_d19_409 410 rfl ?_
  refine z_ifN C z_d19_410 (by decide) 413 rfl ?_
  have old2 := (old1.wr W2 g_p12)
  refine z_getstatic C (z_w hw 224 rfl) (S.2.2.1.1.ext old2.2) z_d19_413 416 rfl ?_
  refine z_goto C z_d19_416 (by decide) 426 (by decide) ?_
  refine z_aastore C o_p12_2 rfl (o_p12_2.sto (by decide) (Ins.self (S.2.2.1.2.ext old2.2).exa)) (by decide) (of_decide_eq_true rfl) (vs' := [(.ref a_NONE), (.ref a_NONE), (.ref a_NONE), (.ref a_NONE), (.ref a_NONE), .null, .null, .null]) (by rfl) g_p12 z_d19_426 427 rfl ?_
  intro h3 W3 o_p12_3
  have s3 : h3.size = h2.size := W3.size
  have k3 : Keep h h3 [p12, p5, p0] := k2.wr W3 (Or.inl (by simp))
  refine z_iinc C (w := (5 : Int32)) (Ls' := #[.val (.ref p0), .val (.ref p1), .val (.ref p2), .val (.ref p3), .val (.ref p4), .val (.ref p5), .val (.ref p6), .val (.int 6), .val (.int 5), .val (.ref p7), .val (.ref p7), .val (.int 3), .val (.int 3), .val (.int (z_ix y5)), .unset]) z_d19_427 rfl (by decide) rfl 430 rfl ?_
  refine z_goto C z_d19_430 (by decide) 389 (by decide) ?_
  refine z_iload C z_d19_389 rfl 391 rfl ?_
  refine z_aloadN C z_d19_391 rfl rfl 392 rfl ?_
  have o_p0_3 := (o_p0_2.other W3 ne_p0_p12)
  refine z_getO C (z_w hw 222 rfl) Via.refl o_p0_3 5 rfl rfl z_d19_392 395 rfl ?_
  refine z_arraylength C (z := (8 : Int32)) o_p12_3 (by rfl) z_d19_395 396 rfl ?_
  refine z_icmpN C z_d19_396 (by decide) 399 rfl ?_
  refine z_aloadN C z_d19_399 rfl rfl 400 rfl ?_
  refine z_getO C (z_w hw 222 rfl) Via.refl o_p0_3 5 rfl rfl z_d19_400 403 rfl ?_
  refine z_iload C z_d19_403 rfl 405 rfl ?_
  refine z_aload C z_d19_405 rfl rfl 407 rfl ?_
  refine z_iload C z_d19_407 rfl 409 rfl ?_
  have o_p5_3 := (o_p5_2.other W3 (Ne.symm ne_p12_p5))
  refine z_iaload C o_p5_3 (by decide) (v := (.int 0)) (by rfl) z_d19_409 410 rfl ?_
  refine z_ifN C z_d19_410 (by decide) 413 rfl ?_
  have old3 := (old2.wr W3 g_p12)
  refine z_getstatic C (z_w hw 224 rfl) (S.2.2.1.1.ext old3.2) z_d19_413 416 rfl ?_
  refine z_goto C z_d19_416 (by decide) 426 (by decide) ?_
  refine z_aastore C o_p12_3 rfl (o_p12_3.sto (by decide) (Ins.self (S.2.2.1.2.ext old3.2).exa)) (by decide) (of_decide_eq_true rfl) (vs' := [(.ref a_NONE), (.ref a_NONE), (.ref a_NONE), (.ref a_NONE), (.ref a_NONE), (.ref a_NONE), .null, .null]) (by rfl) g_p12 z_d19_426 427 rfl ?_
  intro h4 W4 o_p12_4
  have s4 : h4.size = h3.size := W4.size
  have k4 : Keep h h4 [p12, p5, p0] := k3.wr W4 (Or.inl (by simp))
  refine z_iinc C (w := (6 : Int32)) (Ls' := #[.val (.ref p0), .val (.ref p1), .val (.ref p2), .val (.ref p3), .val (.ref p4), .val (.ref p5), .val (.ref p6), .val (.int 6), .val (.int 6), .val (.ref p7), .val (.ref p7), .val (.int 3), .val (.int 3), .val (.int (z_ix y5)), .unset]) z_d19_427 rfl (by decide) rfl 430 rfl ?_
  refine z_goto C z_d19_430 (by decide) 389 (by decide) ?_
  refine z_iload C z_d19_389 rfl 391 rfl ?_
  refine z_aloadN C z_d19_391 rfl rfl 392 rfl ?_
  have o_p0_4 := (o_p0_3.other W4 ne_p0_p12)
  refine z_getO C (z_w hw 222 rfl) Via.refl o_p0_4 5 rfl rfl z_d19_392 395 rfl ?_
  refine z_arraylength C (z := (8 : Int32)) o_p12_4 (by rfl) z_d19_395 396 rfl ?_
  refine z_icmpN C z_d19_396 (by decide) 399 rfl ?_
  refine z_aloadN C z_d19_399 rfl rfl 400 rfl ?_
  refine z_getO C (z_w hw 222 rfl) Via.refl o_p0_4 5 rfl rfl z_d19_400 403 rfl ?_
  refine z_iload C z_d19_403 rfl 405 rfl ?_
  refine z_aload C z_d19_405 rfl rfl 407 rfl ?_
  refine z_iload C z_d19_407 rfl 409 rfl ?_
  have o_p5_4 := (o_p5_3.other W4 (Ne.symm ne_p12_p5))
  refine z_iaload C o_p5_4 (by decide) (v := (.int 0)) (by rfl) z_d19_409 410 rfl ?_
  refine z_ifN C z_d19_410 (by decide) 413 rfl ?_
  have old4 := (old3.wr W4 g_p12)
  refine z_getstatic C (z_w hw 224 rfl) (S.2.2.1.1.ext old4.2) z_d19_413 416 rfl ?_
  refine z_goto C z_d19_416 (by decide) 426 (by decide) ?_
  refine z_aastore C o_p12_4 rfl (o_p12_4.sto (by decide) (Ins.self (S.2.2.1.2.ext old4.2).exa)) (by decide) (of_decide_eq_true rfl) (vs' := [(.ref a_NONE), (.ref a_NONE), (.ref a_NONE), (.ref a_NONE), (.ref a_NONE), (.ref a_NONE), (.ref a_NONE), .null]) (by rfl) g_p12 z_d19_426 427 rfl ?_
  intro h5 W5 o_p12_5
  have s5 : h5.size = h4.size := W5.size
  have k5 : Keep h h5 [p12, p5, p0] := k4.wr W5 (Or.inl (by simp))
  refine z_iinc C (w := (7 : Int32)) (Ls' := #[.val (.ref p0), .val (.ref p1), .val (.ref p2), .val (.ref p3), .val (.ref p4), .val (.ref p5), .val (.ref p6), .val (.int 6), .val (.int 7), .val (.ref p7), .val (.ref p7), .val (.int 3), .val (.int 3), .val (.int (z_ix y5)), .unset]) z_d19_427 rfl (by decide) rfl 430 rfl ?_
  refine z_goto C z_d19_430 (by decide) 389 (by decide) ?_
  refine z_iload C z_d19_389 rfl 391 rfl ?_
  refine z_aloadN C z_d19_391 rfl rfl 392 rfl ?_
  have o_p0_5 := (o_p0_4.other W5 ne_p0_p12)
  refine z_getO C (z_w hw 222 rfl) Via.refl o_p0_5 5 rfl rfl z_d19_392 395 rfl ?_
  refine z_arraylength C (z := (8 : Int32)) o_p12_5 (by rfl) z_d19_395 396 rfl ?_
  refine z_icmpN C z_d19_396 (by decide) 399 rfl ?_
  refine z_aloadN C z_d19_399 rfl rfl 400 rfl ?_
  refine z_getO C (z_w hw 222 rfl) Via.refl o_p0_5 5 rfl rfl z_d19_400 403 rfl ?_
  refine z_iload C z_d19_403 rfl 405 rfl ?_
  refine z_aload C z_d19_405 rfl rfl 407 rfl ?_
  refine z_iload C z_d19_407 rfl 409 rfl ?_
  have o_p5_5 := (o_p5_4.other W5 (Ne.symm ne_p12_p5))
  refine z_iaload C o_p5_5 (by decide) (v := (.int 0)) (by rfl) z_d19_409 410 rfl ?_
  refine z_ifN C z_d19_410 (by decide) 413 rfl ?_
  have old5 := (old4.wr W5 g_p12)
  refine z_getstatic C (z_w hw 224 rfl) (S.2.2.1.1.ext old5.2) z_d19_413 416 rfl ?_
  refine z_goto C z_d19_416 (by decide) 426 (by decide) ?_
  refine z_aastore C o_p12_5 rfl (o_p12_5.sto (by decide) (Ins.self (S.2.2.1.2.ext old5.2).exa)) (by decide) (of_decide_eq_true rfl) (vs' := [(.ref a_NONE), (.ref a_NONE), (.ref a_NONE), (.ref a_NONE), (.ref a_NONE), (.ref a_NONE), (.ref a_NONE), (.ref a_NONE)]) (by rfl) g_p12 z_d19_426 427 rfl ?_
  intro h6 W6 o_p12_6
  have s6 : h6.size = h5.size := W6.size
  have k6 : Keep h h6 [p12, p5, p0] := k5.wr W6 (Or.inl (by simp))
  refine z_iinc C (w := (8 : Int32)) (Ls' := #[.val (.ref p0), .val (.ref p1), .val (.ref p2), .val (.ref p3), .val (.ref p4), .val (.ref p5), .val (.ref p6), .val (.int 6), .val (.int 8), .val (.ref p7), .val (.ref p7), .val (.int 3), .val (.int 3), .val (.int (z_ix y5)), .unset]) z_d19_427 rfl (by decide) rfl 430 rfl ?_
  refine z_goto C z_d19_430 (by decide) 389 (by decide) ?_
  refine z_iload C z_d19_389 rfl 391 rfl ?_
  refine z_aloadN C z_d19_391 rfl rfl 392 rfl ?_
  have o_p0_6 := (o_p0_5.other W6 ne_p0_p12)
  refine z_getO C (z_w hw 222 rfl) Via.refl o_p0_6 5 rfl rfl z_d19_392 395 rfl ?_
  refine z_arraylength C (z := (8 : Int32)) o_p12_6 (by rfl) z_d19_395 396 rfl ?_
  refine z_icmpY C z_d19_396 (by decide) (by decide) 433 (by decide) ?_
  refine z_aload C z_d19_433 rfl rfl 435 rfl ?_
  refine z_iconst C (v := (0 : Int32)) z_d19_435 (by decide) 436 rfl ?_
  have zz6 : n0 ≤ h6.size := by omega
  have o_p5_6 := (o_p5_5.other W6 (Ne.symm ne_p12_p5))
  have old6 := (old5.wr W6 g_p12)
  refine z_callSV C (z_c31_71 l hw S zz6 old6 p5 o_p5_6 g_p5) (z_w hw 226 rfl) (z_w hw 227 rfl) (z_w hw 124 rfl) (z_w hw 228 rfl) (by decide) z_d19_436 rfl (argsL := [(.ref p5), (.int 0)]) (rest := []) rfl (lenOf z_pd17 rfl) (W := 0) (Nat.le_of_eq rfl) (by decide) (by decide) (by decide) (by decide) 439 rfl ?_
  rintro h7 ⟨K7, o_p5_7⟩
  have s7 : h6.size ≤ h7.size := K7.1
  have k7 : Keep h h7 [p12, p5, p0] := k6.trans K7 (allS (Or.inl (by simp)) all0)
  refine z_aloadN C z_d19_439 rfl rfl 440 rfl ?_
  have zz7 : n0 ≤ h7.size := by omega
  have o_p3_7 := (((((((o_p3.other W1 (Ne.symm ne_p12_p3)).other W2 (Ne.symm ne_p12_p3)).other W3 (Ne.symm ne_p12_p3)).other W4 (Ne.symm ne_p12_p3)).other W5 (Ne.symm ne_p12_p3)).other W6 (Ne.symm ne_p12_p3)).keep K7 (ninS ne_p3_p5 nin0))
  have old7 := (old6.keep K7 (allS g_p5 all0))
  refine z_callF C o_p3_7.1 (z_c32_73 l hw S zz7 old7 p3 o_p3_7) (z_w hw 229 rfl) (z_w hw 230 rfl) (z_w hw 231 rfl) (z_w hw 232 rfl) (z_w hw 233 rfl) (z_w hw 234 rfl) (z_w hw 235 rfl) (z_w hw 79 rfl) (z_w hw 11 rfl) (z_w hw 236 rfl) (by decide) z_d19_440 rfl (argsL := []) (rest := []) rfl (lenOf z_pd19 rfl) (W := 0) (Nat.le_of_eq rfl) (by decide) (by decide) (by decide) (by decide) 445 rfl ?_
  rintro _ h8 ⟨b8_0, rfl, K8, l8_0, l8_1, o_b8_0_8⟩
  have s8 : h7.size ≤ h8.size := K8.1
  have k8 : Keep h h8 [p12, p5, p0] := k7.trans K8 all0
  refine z_astore C (Ls' := #[.val (.ref p0), .val (.ref p1), .val (.ref p2), .val (.ref p3), .val (.ref p4), .val (.ref p5), .val (.ref p6), .val (.int 6), .val (.ref b8_0), .val (.ref p7), .val (.ref p7), .val (.int 3), .val (.int 3), .val (.int (z_ix y5)), .unset]) z_d19_445 rfl rfl 447 rfl ?_
  refine z_aload C z_d19_447 rfl rfl 449 rfl ?_
  have zz8 : n0 ≤ h8.size := by omega
  have o_p3_8 := (o_p3_7.keep K8 nin0)
  have old8 := (old7.keep K8 all0)
  refine z_callFp C o_b8_0_8.1 (z_c34_74 l hw S zz8 old8 b8_0 p3 o_b8_0_8 o_p3_8) (z_w hw 252 rfl) (z_w hw 253 rfl) (z_w hw 254 rfl) (z_w hw 255 rfl) (z_w hw 256 rfl) (z_w hw 257 rfl) (z_w hw 258 rfl) (z_w hw 259 rfl) (z_w hw 239 rfl) (z_w hw 260 rfl) (by decide) z_d19_449 rfl (argsL := []) (rest := []) rfl (lenOf z_pd20 rfl) (W := 0) (Nat.le_of_eq rfl) (by decide) (by decide) (by decide) (by decide) (by decide) (by decide) 454 rfl ?_
  refine z_ifY C z_d19_454 (by decide) (by decide) 532 (by decide) ?_
  refine z_aloadN C z_d19_532 rfl rfl 533 rfl ?_
  refine z_iload C z_d19_533 rfl 535 rfl ?_
  refine z_newarray C (aty := .int) (z_w hw 115 rfl) (by decide) (cap := 6) (by decide) (by decide) (ad := "[I") (by decide +kernel) (vs := [(.int 0), (.int 0), (.int 0), (.int 0), (.int 0), (.int 0)]) (by rfl) z_d19_535 (by decide) (by decide) 537 rfl ?_
  intro h9 b9 g9 E9 o_b9
  have s9 : h8.size ≤ h9.size := E9.1
  have k9 : Keep h h9 [p12, p5, p0] := k8.ext E9
  have o_b9 : z_Ar Z h9 b9 .int "[I" "" [(.int 0), (.int 0), (.int 0), (.int 0), (.int 0), (.int 0)] := o_b9
  have t9 := o_b9.lt
  have o_p0_9 := (((o_p0_6.keep K7 (ninS ne_p0_p5 nin0)).keep K8 nin0).ext E9)
  refine z_putO C (z_w hw 264 rfl) Via.refl o_p0_9 (z_lay3_ok hw) 6 rfl (vs' := [(.int 3), (.ref p8), (.ref p9), (.ref p10), (.ref p11), (.ref p12), (.ref b9), .null, .null, .null, .null, (.int 0), (.int 0)]) rfl (Or.inr ⟨(z_w hw 265 rfl), rfl, rfl⟩) (z_w hw 137 rfl) (ty := (.array .int)) (by decide) (by first | rfl | decide) (by first | rfl | decide) g_p0 z_d19_537 540 rfl ?_
  intro h10 W10 o_p0_10
  have s10 : h10.size = h9.size := W10.size
  have k10 : Keep h h10 [p12, p5, p0] := k9.wr W10 (Or.inl (by simp))
  refine z_aloadN C z_d19_540 rfl rfl 541 rfl ?_
  refine z_aload C z_d19_541 rfl rfl 543 rfl ?_
  have zz10 : n0 ≤ h10.size := by omega
  have o_p4_10 := ((((((((((o_p4.other W1 (Ne.symm ne_p12_p4)).other W2 (Ne.symm ne_p12_p4)).other W3 (Ne.symm ne_p12_p4)).other W4 (Ne.symm ne_p12_p4)).other W5 (Ne.symm ne_p12_p4)).other W6 (Ne.symm ne_p12_p4)).keep K7 (ninS ne_p4_p5 nin0)).keep K8 nin0).ext E9).other W10 (Ne.symm ne_p0_p4))
  have old10 := ((old8.ext E9).wr W10 g_p0)
  refine z_callFp C o_p4_10.1 (z_c15_16 l hw S zz10 old10 p4 p13 o_p4_10) (z_w hw 194 rfl) (z_w hw 108 rfl) (z_w hw 109 rfl) (z_w hw 110 rfl) (z_w hw 111 rfl) (z_w hw 112 rfl) (z_w hw 113 rfl) (z_w hw 79 rfl) (z_w hw 11 rfl) (z_w hw 114 rfl) (by decide) z_d19_543 rfl (argsL := []) (rest := [(.ref p0)]) rfl (lenOf z_pd8 rfl) (W := 1) (Nat.le_of_eq rfl) (by decide) (by decide) (by decide) (by decide) (by decide) (by decide) 548 rfl ?_
  refine z_iconst C (v := (1 : Int32)) z_d19_548 (by decide) 549 rfl ?_
  refine z_iadd C (z := (3 : Int32)) z_d19_549 (by decide) 550 rfl ?_
  refine z_newarray C (aty := .int) (z_w hw 115 rfl) (by decide) (cap := 3) (by decide) (by decide) (ad := "[I") (by decide +kernel) (vs := [(.int 0), (.int 0), (.int 0)]) (by rfl) z_d19_550 (by decide) (by decide) 552 rfl ?_
  intro h11 b11 g11 E11 o_b11
  have s11 : h10.size ≤ h11.size := E11.1
  have k11 : Keep h h11 [p12, p5, p0] := k10.ext E11
  have o_b11 : z_Ar Z h11 b11 .int "[I" "" [(.int 0), (.int 0), (.int 0)] := o_b11
  have t11 := o_b11.lt
  have o_p0_11 := (o_p0_10.ext E11)
  refine z_putO C (z_w hw 266 rfl) Via.refl o_p0_11 (z_lay3_ok hw) 7 rfl (vs' := [(.int 3), (.ref p8), (.ref p9), (.ref p10), (.ref p11), (.ref p12), (.ref b9), (.ref b11), .null, .null, .null, (.int 0), (.int 0)]) rfl (Or.inr ⟨(z_w hw 267 rfl), rfl, rfl⟩) (z_w hw 137 rfl) (ty := (.array .int)) (by decide) (by first | rfl | decide) (by first | rfl | decide) g_p0 z_d19_552 555 rfl ?_
  intro h12 W12 o_p0_12
  have s12 : h12.size = h11.size := W12.size
  have k12 : Keep h h12 [p12, p5, p0] := k11.wr W12 (Or.inl (by simp))
  refine z_aloadN C z_d19_555 rfl rfl 556 rfl ?_
  refine z_aloadN C z_d19_556 rfl rfl 557 rfl ?_
  refine z_getO C (z_w hw 148 rfl) Via.refl o_p0_12 0 rfl rfl z_d19_557 560 rfl ?_
  refine z_iconst C (v := (1 : Int32)) z_d19_560 (by decide) 561 rfl ?_
  refine z_iadd C (z := (4 : Int32)) z_d19_561 (by decide) 562 rfl ?_
  refine z_anewarrayA C (Cn := "[I") (ty := .int) (by decide +kernel) (z_w hw 199 rfl) (z_w hw 221 rfl) (by decide) (cap := 4) (by decide) (by decide) (ad := "[[I") (by decide +kernel) (vs := [.null, .null, .null, .null]) (by rfl) z_d19_562 (by decide) (by decide) 565 rfl ?_
  intro h13 b13 g13 E13 o_b13
  have s13 : h12.size ≤ h13.size := E13.1
  have k13 : Keep h h13 [p12, p5, p0] := k12.ext E13
  have t13 := o_b13.lt
  have o_p0_13 := (o_p0_12.ext E13)
  refine z_putO C (z_w hw 268 rfl) Via.refl o_p0_13 (z_lay3_ok hw) 8 rfl (vs' := [(.int 3), (.ref p8), (.ref p9), (.ref p10), (.ref p11), (.ref p12), (.ref b9), (.ref b11), (.ref b13), .null, .null, (.int 0), (.int 0)]) rfl (Or.inr ⟨(z_w hw 269 rfl), rfl, rfl⟩) (z_w hw 137 rfl) (ty := (.array (.array .int))) (by decide) (by first | rfl | decide) (by first | rfl | decide) g_p0 z_d19_565 568 rfl ?_
  intro h14 W14 o_p0_14
  have s14 : h14.size = h13.size := W14.size
  have k14 : Keep h h14 [p12, p5, p0] := k13.wr W14 (Or.inl (by simp))
  refine z_iconst C (v := (0 : Int32)) z_d19_568 (by decide) 569 rfl ?_
  refine z_istore C (Ls' := #[.val (.ref p0), .val (.ref p1), .val (.ref p2), .val (.ref p3), .val (.ref p4), .val (.ref p5), .val (.ref p6), .val (.int 6), .val (.int 0), .val (.ref p7), .val (.ref p7), .val (.int 3), .val (.int 3), .val (.int (z_ix y5)), .unset]) z_d19_569 rfl 571 rfl ?_
  refine z_iload C z_d19_571 rfl 573 rfl ?_
  refine z_aloadN C z_d19_573 rfl rfl 574 rfl ?_
  refine z_getO C (z_w hw 148 rfl) Via.refl o_p0_14 0 rfl rfl z_d19_574 577 rfl ?_
  refine z_icmpN C z_d19_577 (by decide) 580 rfl ?_
  refine z_aloadN C z_d19_580 rfl rfl 581 rfl ?_
  refine z_getO C (z_w hw 268 rfl) Via.refl o_p0_14 8 rfl rfl z_d19_581 584 rfl ?_
  refine z_iload C z_d19_584 rfl 586 rfl ?_
  refine z_aload C z_d19_586 rfl rfl 588 rfl ?_
  refine z_iload C z_d19_588 rfl 590 rfl ?_
  have o_p6_14 := ((((((((((((((o_p6.other W1 (Ne.symm ne_p12_p6)).other W2 (Ne.symm ne_p12_p6)).other W3 (Ne.symm ne_p12_p6)).other W4 (Ne.symm ne_p12_p6)).other W5 (Ne.symm ne_p12_p6)).other W6 (Ne.symm ne_p12_p6)).keep K7 (ninS (Ne.symm ne_p5_p6) nin0)).keep K8 nin0).ext E9).other W10 (Ne.symm ne_p0_p6)).ext E11).other W12 (Ne.symm ne_p0_p6)).ext E13).other W14 (Ne.symm ne_p0_p6))
  refine z_iaload C o_p6_14 (by decide) (v := (.int 0)) (by rfl) z_d19_590 591 rfl ?_
  refine z_ifN C z_d19_591 (by decide) 594 rfl ?_
  have old14 := ((((old10.ext E11).wr W12 g_p0).ext E13).wr W14 g_p0)
  refine z_getstatic C (z_w hw 224 rfl) (S.2.2.1.1.ext old14.2) z_d19_594 597 rfl ?_
  refine z_goto C z_d19_597 (by decide) 607 (by decide) ?_
  have n_b13_p0 : (b13 : Nat) ≠ p0 := by omega
  have o_b13_14 := (o_b13.other W14 n_b13_p0)
  have e_b13 : n0 ≤ (b13 : Nat) := by omega
  refine z_aastore C o_b13_14 rfl (o_b13_14.sto (by decide) (Ins.self (S.2.2.1.2.ext old14.2).exa)) (by decide) (of_decide_eq_true rfl) (vs' := [(.ref a_NONE), .null, .null, .null]) (by rfl) e_b13 z_d19_607 608 rfl ?_
  intro h15 W15 o_b13_15
  have s15 : h15.size = h14.size := W15.size
  have q_b13 : h.size ≤ (b13 : Nat) := by omega
  have k15 : Keep h h15 [p12, p5, p0] := k14.wr W15 (Or.inr q_b13)
  have o_p0_15 := (o_p0_14.other W15 n_b13_p0.symm)
  have n_p12_b13 : (p12 : Nat) ≠ b13 := by omega
  have o_p12_15 := (((((((((o_p12_6.keep K7 (ninS ne_p12_p5 nin0)).keep K8 nin0).ext E9).other W10 (Ne.symm ne_p0_p12)).ext E11).other W12 (Ne.symm ne_p0_p12)).ext E13).other W14 (Ne.symm ne_p0_p12)).other W15 n_p12_b13)
  have n_p5_b13 : (p5 : Nat) ≠ b13 := by omega
  have o_p5_15 := ((((((((o_p5_7.keep K8 nin0).ext E9).other W10 (Ne.symm ne_p0_p5)).ext E11).other W12 (Ne.symm ne_p0_p5)).ext E13).other W14 (Ne.symm ne_p0_p5)).other W15 n_p5_b13)
  have n_b9_p0 : (b9 : Nat) ≠ p0 := by omega
  have n_b9_b13 : (b9 : Nat) ≠ b13 := by omega
  have o_b9_15 := ((((((o_b9.other W10 n_b9_p0).ext E11).other W12 n_b9_p0).ext E13).other W14 n_b9_p0).other W15 n_b9_b13)
  have n_b11_p0 : (b11 : Nat) ≠ p0 := by omega
  have n_b11_b13 : (b11 : Nat) ≠ b13 := by omega
  have o_b11_15 := ((((o_b11.other W12 n_b11_p0).ext E13).other W14 n_b11_p0).other W15 n_b11_b13)
  exact K h15 b9 b11 b13 k15 (by omega) (by omega) (by omega) (by omega) o_p0_15 o_p12_15 o_p5_15 o_b9_15 o_b11_15 o_b13_15
set_option maxHeartbeats 2000000 in
theorem z_c31_76 (hw : z_T Z a0) (S : z_St Z a_DEF a_ONE a_NONE) (z0 : n0 ≤ h.size) (old : Old Z n0 h) (p0 : Nat) (o_p0 : z_Ar Z h p0 .int "[I" "" [(.int 0), (.int 2), (.int 2), (.int 2)]) (g_p0 : n0 ≤ p0) :
    z_Met l Z (⟨"java/util/Arrays", "fill", "([II)V"⟩ : MethodName) jdk_65_method_103_code 4 none [] ({ frames := 0, cells := 0, slots := 0, locals := 0 } : Room) n0 #[(.ref p0), (.int 0)] h (z_nov fun h' => Keep h h' [p0] ∧ z_Ar Z h' p0 .int "[I" "" [(.int 0), (.int 0), (.int 0), (.int 0)]) := by
  refine z_met (Ls := #[.val (.ref p0), .val (.int 0), .unset, .unset]) (by first | exact plainFor_of_name (by first | (simp [plainName, overriddenIn]; done) | decide +kernel) | decide +kernel) rfl ?_
  intro p e s m below meth c C
  refine z_iconst C (v := (0 : Int32)) z_d31_0 (by decide) 1 rfl ?_
  refine z_istoreN C (Ls' := #[.val (.ref p0), .val (.int 0), .val (.int 0), .unset]) z_d31_1 rfl 2 rfl ?_
  refine z_aloadN C z_d31_2 rfl rfl 3 rfl ?_
  refine z_arraylength C (z := (4 : Int32)) o_p0 (by rfl) z_d31_3 4 rfl ?_
  refine z_istoreN C (Ls' := #[.val (.ref p0), .val (.int 0), .val (.int 0), .val (.int 4)]) z_d31_4 rfl 5 rfl ?_
  refine z_iloadN C z_d31_5 rfl 6 rfl ?_
  refine z_iloadN C z_d31_6 rfl 7 rfl ?_
  refine z_icmpN C z_d31_7 (by decide) 10 rfl ?_
  refine z_aloadN C z_d31_10 rfl rfl 11 rfl ?_
  refine z_iloadN C z_d31_11 rfl 12 rfl ?_
  refine z_iloadN C z_d31_12 rfl 13 rfl ?_
  refine z_iastore C (z := (0 : Int32)) o_p0 (by decide) (of_decide_eq_true rfl) rfl (vs' := [(.int 0), (.int 2), (.int 2), (.int 2)]) (by rfl) g_p0 z_d31_13 14 rfl ?_
  intro h1 W1 o_p0_1
  have s1 : h1.size = h.size := W1.size
  have k1 : Keep h h1 [p0] := (Keep.refl h [p0]).wr W1 (Or.inl (by simp))
  refine z_iinc C (w := (1 : Int32)) (Ls' := #[.val (.ref p0), .val (.int 0), .val (.int 1), .val (.int 4)]) z_d31_14 rfl (by decide) rfl 17 rfl ?_
  refine z_goto C z_d31_17 (by decide) 5 (by decide) ?_
  refine z_iloadN C z_d31_5 rfl 6 rfl ?_
  refine z_iloadN C z_d31_6 rfl 7 rfl ?_
  refine z_icmpN C z_d31_7 (by decide) 10 rfl ?_
  refine z_aloadN C z_d31_10 rfl rfl 11 rfl ?_
  refine z_iloadN C z_d31_11 rfl 12 rfl ?_
  refine z_iloadN C z_d31_12 rfl 13 rfl ?_
  refine z_iastore C (z := (0 : Int32)) o_p0_1 (by decide) (of_decide_eq_true rfl) rfl (vs' := [(.int 0), (.int 0), (.int 2), (.int 2)]) (by rfl) g_p0 z_d31_13 14 rfl ?_
  intro h2 W2 o_p0_2
  have s2 : h2.size = h1.size := W2.size
  have k2 : Keep h h2 [p0] := k1.wr W2 (Or.inl (by simp))
  refine z_iinc C (w := (2 : Int32)) (Ls' := #[.val (.ref p0), .val (.int 0), .val (.int 2), .val (.int 4)]) z_d31_14 rfl (by decide) rfl 17 rfl ?_
  refine z_goto C z_d31_17 (by decide) 5 (by decide) ?_
  refine z_iloadN C z_d31_5 rfl 6 rfl ?_
  refine z_iloadN C z_d31_6 rfl 7 rfl ?_
  refine z_icmpN C z_d31_7 (by decide) 10 rfl ?_
  refine z_aloadN C z_d31_10 rfl rfl 11 rfl ?_
  refine z_iloadN C z_d31_11 rfl 12 rfl ?_
  refine z_iloadN C z_d31_12 rfl 13 rfl ?_
  refine z_iastore C (z := (0 : Int32)) o_p0_2 (by decide) (of_decide_eq_true rfl) rfl (vs' := [(.int 0), (.int 0), (.int 0), (.int 2)]) (by rfl) g_p0 z_d31_13 14 rfl ?_
  intro h3 W3 o_p0_3
  have s3 : h3.size = h2.size := W3.size
  have k3 : Keep h h3 [p0] := k2.wr W3 (Or.inl (by simp))
  refine z_iinc C (w := (3 : Int32)) (Ls' := #[.val (.ref p0), .val (.int 0), .val (.int 3), .val (.int 4)]) z_d31_14 rfl (by decide) rfl 17 rfl ?_
  refine z_goto C z_d31_17 (by decide) 5 (by decide) ?_
  refine z_iloadN C z_d31_5 rfl 6 rfl ?_
  refine z_iloadN C z_d31_6 rfl 7 rfl ?_
  refine z_icmpN C z_d31_7 (by decide) 10 rfl ?_
  refine z_aloadN C z_d31_10 rfl rfl 11 rfl ?_
  refine z_iloadN C z_d31_11 rfl 12 rfl ?_
  refine z_iloadN C z_d31_12 rfl 13 rfl ?_
  refine z_iastore C (z := (0 : Int32)) o_p0_3 (by decide) (of_decide_eq_true rfl) rfl (vs' := [(.int 0), (.int 0), (.int 0), (.int 0)]) (by rfl) g_p0 z_d31_13 14 rfl ?_
  intro h4 W4 o_p0_4
  have s4 : h4.size = h3.size := W4.size
  have k4 : Keep h h4 [p0] := k3.wr W4 (Or.inl (by simp))
  refine z_iinc C (w := (4 : Int32)) (Ls' := #[.val (.ref p0), .val (.int 0), .val (.int 4), .val (.int 4)]) z_d31_14 rfl (by decide) rfl 17 rfl ?_
  refine z_goto C z_d31_17 (by decide) 5 (by decide) ?_
  refine z_iloadN C z_d31_5 rfl 6 rfl ?_
  refine z_iloadN C z_d31_6 rfl 7 rfl ?_
  refine z_icmpY C z_d31_7 (by decide) (by decide) 20 (by decide) ?_
  exact z_return C z_d31_20 (by decide) (by decide) ⟨rfl, k4, o_p0_4⟩
set_option maxHeartbeats 2000000 in
theorem z_c35_77 (hw : z_T Z a0) (S : z_St Z a_DEF a_ONE a_NONE) (z0 : n0 ≤ h.size) (old : Old Z n0 h) (p0 : Nat) (o_p0 : z_Ar Z h p0 (.array .int) "[[I" "[I" [.null, .null, .null, .null, .null, .null, .null, .null]) (g_p0 : n0 ≤ p0) :
    z_Met l Z (⟨"java/util/Arrays", "fill", "([Ljava/lang/Object;Ljava/lang/Object;)V"⟩ : MethodName) jdk_65_method_117_code 4 none [] ({ frames := 0, cells := 0, slots := 0, locals := 0 } : Room) n0 #[(.ref p0), (.ref a_NONE)] h (z_nov fun h' => Keep h h' [p0] ∧ z_Ar Z h' p0 (.array .int) "[[I" "[I" [(.ref a_NONE), (.ref a_NONE), (.ref a_NONE), (.ref a_NONE), (.ref a_NONE), (.ref a_NONE), (.ref a_NONE), (.ref a_NONE)]) := by
  refine z_met (Ls := #[.val (.ref p0), .val (.ref a_NONE), .unset, .unset]) (by first | exact plainFor_of_name (by first | (simp [plainName, overriddenIn]; done) | decide +kernel) | decide +kernel) rfl ?_
  intro p e s m below meth c C
  refine z_iconst C (v := (0 : Int32)) z_d35_0 (by decide) 1 rfl ?_
  refine z_istoreN C (Ls' := #[.val (.ref p0), .val (.ref a_NONE), .val (.int 0), .unset]) z_d35_1 rfl 2 rfl ?_
  refine z_aloadN C z_d35_2 rfl rfl 3 rfl ?_
  refine z_arraylength C (z := (8 : Int32)) o_p0 (by rfl) z_d35_3 4 rfl ?_
  refine z_istoreN C (Ls' := #[.val (.ref p0), .val (.ref a_NONE), .val (.int 0), .val (.int 8)]) z_d35_4 rfl 5 rfl ?_
  refine z_iloadN C z_d35_5 rfl 6 rfl ?_
  refine z_iloadN C z_d35_6 rfl 7 rfl ?_
  refine z_icmpN C z_d35_7 (by decide) 10 rfl ?_
  refine z_aloadN C z_d35_10 rfl rfl 11 rfl ?_
  refine z_iloadN C z_d35_11 rfl 12 rfl ?_
  refine z_aloadN C z_d35_12 rfl rfl 13 rfl ?_
  refine z_aastore C o_p0 rfl (o_p0.sto (by decide) (Ins.self (S.2.2.1.2.ext old.2).exa)) (by decide) (of_decide_eq_true rfl) (vs' := [(.ref a_NONE), .null, .null, .null, .null, .null, .null, .null]) (by rfl) g_p0 z_d35_13 14 rfl ?_
  intro h1 W1 o_p0_1
  have s1 : h1.size = h.size := W1.size
  have k1 : Keep h h1 [p0] := (Keep.refl h [p0]).wr W1 (Or.inl (by simp))
  refine z_iinc C (w := (1 : Int32)) (Ls' := #[.val (.ref p0), .val (.ref a_NONE), .val (.int 1), .val (.int 8)]) z_d35_14 rfl (by decide) rfl 17 rfl ?_
  refine z_goto C z_d35_17 (by decide) 5 (by decide) ?_
  refine z_iloadN C z_d35_5 rfl 6 rfl ?_
  refine z_iloadN C z_d35_6 rfl 7 rfl ?_
  refine z_icmpN C z_d35_7 (by decide) 10 rfl ?_
  refine z_aloadN C z_d35_10 rfl rfl 11 rfl ?_
  refine z_iloadN C z_d35_11 rfl 12 rfl ?_
  refine z_aloadN C z_d35_12 rfl rfl 13 rfl ?_
  have old1 := (old.wr W1 g_p0)
  refine z_aastore C o_p0_1 rfl (o_p0_1.sto (by decide) (Ins.self (S.2.2.1.2.ext old1.2).exa)) (by decide) (of_decide_eq_true rfl) (vs' := [(.ref a_NONE), (.ref a_NONE), .null, .null, .null, .null, .null, .null]) (by rfl) g_p0 z_d35_13 14 rfl ?_
  intro h2 W2 o_p0_2
  have s2 : h2.size = h1.size := W2.size
  have k2 : Keep h h2 [p0] := k1.wr W2 (Or.inl (by simp))
  refine z_iinc C (w := (2 : Int32)) (Ls' := #[.val (.ref p0), .val (.ref a_NONE), .val (.int 2), .val (.int 8)]) z_d35_14 rfl (by decide) rfl 17 rfl ?_
  refine z_goto C z_d35_17 (by decide) 5 (by decide) ?_
  refine z_iloadN C z_d35_5 rfl 6 rfl ?_
  refine z_iloadN C z_d35_6 rfl 7 rfl ?_
  refine z_icmpN C z_d35_7 (by decide) 10 rfl ?_
  refine z_aloadN C z_d35_10 rfl rfl 11 rfl ?_
  refine z_iloadN C z_d35_11 rfl 12 rfl ?_
  refine z_aloadN C z_d35_12 rfl rfl 13 rfl ?_
  have old2 := (old1.wr W2 g_p0)
  refine z_aastore C o_p0_2 rfl (o_p0_2.sto (by decide) (Ins.self (S.2.2.1.2.ext old2.2).exa)) (by decide) (of_decide_eq_true rfl) (vs' := [(.ref a_NONE), (.ref a_NONE), (.ref a_NONE), .null, .null, .null, .null, .null]) (by rfl) g_p0 z_d35_13 14 rfl ?_
  intro h3 W3 o_p0_3
  have s3 : h3.size = h2.size := W3.size
  have k3 : Keep h h3 [p0] := k2.wr W3 (Or.inl (by simp))
  refine z_iinc C (w := (3 : Int32)) (Ls' := #[.val (.ref p0), .val (.ref a_NONE), .val (.int 3), .val (.int 8)]) z_d35_14 rfl (by decide) rfl 17 rfl ?_
  refine z_goto C z_d35_17 (by decide) 5 (by decide) ?_
  refine z_iloadN C z_d35_5 rfl 6 rfl ?_
  refine z_iloadN C z_d35_6 rfl 7 rfl ?_
  refine z_icmpN C z_d35_7 (by decide) 10 rfl ?_
  refine z_aloadN C z_d35_10 rfl rfl 11 rfl ?_
  refine z_iloadN C z_d35_11 rfl 12 rfl ?_
  refine z_aloadN C z_d35_12 rfl rfl 13 rfl ?_
  have old3 := (old2.wr W3 g_p0)
  refine z_aastore C o_p0_3 rfl (o_p0_3.sto (by decide) (Ins.self (S.2.2.1.2.ext old3.2).exa)) (by decide) (of_decide_eq_true rfl) (vs' := [(.ref a_NONE), (.ref a_NONE), (.ref a_NONE), (.ref a_NONE), .null, .null, .null, .null]) (by rfl) g_p0 z_d35_13 14 rfl ?_
  intro h4 W4 o_p0_4
  have s4 : h4.size = h3.size := W4.size
  have k4 : Keep h h4 [p0] := k3.wr W4 (Or.inl (by simp))
  refine z_iinc C (w := (4 : Int32)) (Ls' := #[.val (.ref p0), .val (.ref a_NONE), .val (.int 4), .val (.int 8)]) z_d35_14 rfl (by decide) rfl 17 rfl ?_
  refine z_goto C z_d35_17 (by decide) 5 (by decide) ?_
  refine z_iloadN C z_d35_5 rfl 6 rfl ?_
  refine z_iloadN C z_d35_6 rfl 7 rfl ?_
  refine z_icmpN C z_d35_7 (by decide) 10 rfl ?_
  refine z_aloadN C z_d35_10 rfl rfl 11 rfl ?_
  refine z_iloadN C z_d35_11 rfl 12 rfl ?_
  refine z_aloadN C z_d35_12 rfl rfl 13 rfl ?_
  have old4 := (old3.wr W4 g_p0)
  refine z_aastore C o_p0_4 rfl (o_p0_4.sto (by decide) (Ins.self (S.2.2.1.2.ext old4.2).exa)) (by decide) (of_decide_eq_true rfl) (vs' := [(.ref a_NONE), (.ref a_NONE), (.ref a_NONE), (.ref a_NONE), (.ref a_NONE), .null, .null, .null]) (by rfl) g_p0 z_d35_13 14 rfl ?_
  intro h5 W5 o_p0_5
  have s5 : h5.size = h4.size := W5.size
  have k5 : Keep h h5 [p0] := k4.wr W5 (Or.inl (by simp))
  refine z_iinc C (w := (5 : Int32)) (Ls' := #[.val (.ref p0), .val (.ref a_NONE), .val (.int 5), .val (.int 8)]) z_d35_14 rfl (by decide) rfl 17 rfl ?_
  refine z_goto C z_d35_17 (by decide) 5 (by decide) ?_
  refine z_iloadN C z_d35_5 rfl 6 rfl ?_
  refine z_iloadN C z_d35_6 rfl 7 rfl ?_
  refine z_icmpN C z_d35_7 (by decide) 10 rfl ?_
  refine z_aloadN C z_d35_10 rfl rfl 11 rfl ?_
  refine z_iloadN C z_d35_11 rfl 12 rfl ?_
  refine z_aloadN C z_d35_12 rfl rfl 13 rfl ?_
  have old5 := (old4.wr W5 g_p0)
  refine z_aastore C o_p0_5 rfl (o_p0_5.sto (by decide) (Ins.self (S.2.2.1.2.ext old5.2).exa)) (by decide) (of_decide_eq_true rfl) (vs' := [(.ref a_NONE), (.ref a_NONE), (.ref a_NONE), (.ref a_NONE), (.ref a_NONE), (.ref a_NONE), .null, .null]) (by rfl) g_p0 z_d35_13 14 rfl ?_
  intro h6 W6 o_p0_6
  have s6 : h6.size = h5.size := W6.size
  have k6 : Keep h h6 [p0] := k5.wr W6 (Or.inl (by simp))
  refine z_iinc C (w := (6 : Int32)) (Ls' := #[.val (.ref p0), .val (.ref a_NONE), .val (.int 6), .val (.int 8)]) z_d35_14 rfl (by decide) rfl 17 rfl ?_
  refine z_goto C z_d35_17 (by decide) 5 (by decide) ?_
  refine z_iloadN C z_d35_5 rfl 6 rfl ?_
  refine z_iloadN C z_d35_6 rfl 7 rfl ?_
  refine z_icmpN C z_d35_7 (by decide) 10 rfl ?_
  refine z_aloadN C z_d35_10 rfl rfl 11 rfl ?_
  refine z_iloadN C z_d35_11 rfl 12 rfl ?_
  refine z_aloadN C z_d35_12 rfl rfl 13 rfl ?_
  have old6 := (old5.wr W6 g_p0)
  refine z_aastore C o_p0_6 rfl (o_p0_6.sto (by decide) (Ins.self (S.2.2.1.2.ext old6.2).exa)) (by decide) (of_decide_eq_true rfl) (vs' := [(.ref a_NONE), (.ref a_NONE), (.ref a_NONE), (.ref a_NONE), (.ref a_NONE), (.ref a_NONE), (.ref a_NONE), .null]) (by rfl) g_p0 z_d35_13 14 rfl ?_
  intro h7 W7 o_p0_7
  have s7 : h7.size = h6.size := W7.size
  have k7 : Keep h h7 [p0] := k6.wr W7 (Or.inl (by simp))
  refine z_iinc C (w := (7 : Int32)) (Ls' := #[.val (.ref p0), .val (.ref a_NONE), .val (.int 7), .val (.int 8)]) z_d35_14 rfl (by decide) rfl 17 rfl ?_
  refine z_goto C z_d35_17 (by decide) 5 (by decide) ?_
  refine z_iloadN C z_d35_5 rfl 6 rfl ?_
  refine z_iloadN C z_d35_6 rfl 7 rfl ?_
  refine z_icmpN C z_d35_7 (by decide) 10 rfl ?_
  refine z_aloadN C z_d35_10 rfl rfl 11 rfl ?_
  refine z_iloadN C z_d35_11 rfl 12 rfl ?_
  refine z_aloadN C z_d35_12 rfl rfl 13 rfl ?_
  have old7 := (old6.wr W7 g_p0)
  refine z_aastore C o_p0_7 rfl (o_p0_7.sto (by decide) (Ins.self (S.2.2.1.2.ext old7.2).exa)) (by decide) (of_decide_eq_true rfl) (vs' := [(.ref a_NONE), (.ref a_NONE), (.ref a_NONE), (.ref a_NONE), (.ref a_NONE), (.ref a_NONE), (.ref a_NONE), (.ref a_NONE)]) (by rfl) g_p0 z_d35_13 14 rfl ?_
  intro h8 W8 o_p0_8
  have s8 : h8.size = h7.size := W8.size
  have k8 : Keep h h8 [p0] := k7.wr W8 (Or.inl (by simp))
  refine z_iinc C (w := (8 : Int32)) (Ls' := #[.val (.ref p0), .val (.ref a_NONE), .val (.int 8), .val (.int 8)]) z_d35_14 rfl (by decide) rfl 17 rfl ?_
  refine z_goto C z_d35_17 (by decide) 5 (by decide) ?_
  refine z_iloadN C z_d35_5 rfl 6 rfl ?_
  refine z_iloadN C z_d35_6 rfl 7 rfl ?_
  refine z_icmpY C z_d35_7 (by decide) (by decide) 20 (by decide) ?_
  exact z_return C z_d35_20 (by decide) (by decide) ⟨rfl, k8, o_p0_8⟩
set_option maxHeartbeats 8000000 in
theorem z_k19_78 (hw : z_T Z a0) (S : z_St Z a_DEF a_ONE a_NONE) (z0 : n0 ≤ h.size) (old : Old Z n0 h) (y0 y1 y2 y5 : Int32) (p0 p1 p2 p3 p4 p5 p6 p7 p8 p9 p10 p11 p12 p13 p14 p15 p16 p17 : Nat) (o_p0 : z_Ob Z h p0 "com/example/variegate/variegate/service/Propagation" z_lay3 [(.int 3), (.ref p8), (.ref p9), (.ref p10), (.ref p11), (.ref p12), (.ref p13), (.ref p14), (.ref p15), .null, .null, (.int 0), (.int 0)]) (o_p6 : z_Ar Z h p6 .int "[I" "" [(.int 0), (.int 2), (.int 2), (.int 2)]) (o_p15 : z_Ar Z h p15 (.array .int) "[[I" "[I" [(.ref a_NONE), .null, .null, .null]) (o_p4 : z_Ob Z h p4 "java/util/ArrayList" z_lay1 [(.int 2), (.ref p16), (.int 2)]) (o_p16 : z_Ar Z h p16 (.object "java/lang/Object") "[Ljava/lang/Object;" "java/lang/Object" [(.ref p17), (.ref p7), .null, .null, .null, .null, .null, .null, .null, .null]) (o_p17 : z_Ar Z h p17 .int "[I" "" [(.int (z_ix y0)), (.int (z_ix y1)), (.int (z_ix y2))]) (o_p14 : z_Ar Z h p14 .int "[I" "" [(.int 0), (.int 0), (.int 0)]) (o_p13 : z_Ar Z h p13 .int "[I" "" [(.int 0), (.int 0), (.int 0), (.int 0), (.int 0), (.int 0)]) (ne_p0_p15 : p0 ≠ p15) (ne_p15_p6 : p15 ≠ p6) (ne_p0_p6 : p0 ≠ p6) (ne_p15_p4 : p15 ≠ p4) (ne_p4_p6 : p4 ≠ p6) (ne_p0_p4 : p0 ≠ p4) (ne_p15_p16 : p15 ≠ p16) (ne_p16_p6 : p16 ≠ p6) (ne_p0_p16 : p0 ≠ p16) (ne_p15_p17 : p15 ≠ p17) (ne_p17_p6 : p17 ≠ p6) (ne_p0_p17 : p0 ≠ p17) (ne_p14_p15 : p14 ≠ p15) (ne_p14_p6 : p14 ≠ p6) (ne_p0_p14 : p0 ≠ p14) (ne_p14_p17 : p14 ≠ p17) (ne_p13_p15 : p13 ≠ p15) (ne_p13_p6 : p13 ≠ p6) (ne_p0_p13 : p0 ≠ p13) (ne_p13_p14 : p13 ≠ p14) (ne_p13_p17 : p13 ≠ p17) (g_p15 : n0 ≤ p15) (g_p6 : n0 ≤ p6) (g_p0 : n0 ≤ p0) (g_p14 : n0 ≤ p14) (g_p13 : n0 ≤ p13) (rq0 : ((z_ix y0) >>> ((1 : Int32) &&& 31)) = (1 : Int32)) {p : Program} {e : Env} {s : State} {m : MethodId} {args : Array Value} {below : List Frame} {meth : Method} {c : Code} {Q : Option Value → Heap → Prop} (C : z_Cx Z p s m meth c "com/example/variegate/variegate/service/Propagation" prog_97_method_1_code 15 none "<init>")
    (K : ∀ (h' : Heap) (b1 b3 b5 b8 b11 : Nat), Keep h h' [p15, p6, p0, p14, p13] → h.size ≤ b1 → b1 < b3 → b3 < b5 → b5 < b8 → b8 < b11 → b11 < h'.size → z_Ob Z h' p0 "com/example/variegate/variegate/service/Propagation" z_lay3 [(.int 3), (.ref p8), (.ref p9), (.ref p10), (.ref p11), (.ref p12), (.ref p13), (.ref p14), (.ref p15), (.ref b8), (.ref b11), (.int 0), (.int 0)] → z_Ar Z h' p6 .int "[I" "" [(.int 0), (.int 0), (.int 0), (.int 0)] → z_Ar Z h' p15 (.array .int) "[[I" "[I" [(.ref a_NONE), (.ref b1), (.ref b3), (.ref b5)] → z_Ar Z h' p14 .int "[I" "" [(.int 0), (.int 0), (.int 0)] → z_Ar Z h' p13 .int "[I" "" [(.int (z_ix y0)), (.int (z_ix y1)), (.int (z_ix y2)), (.int 0), (.int 0), (.int 0)] → z_Ar Z h' b1 .int "[I" "" [(.int 0), (.int 0)] → z_Ar Z h' b3 .int "[I" "" [(.int 0), (.int 0)] → z_Ar Z h' b5 .int "[I" "" [(.int 0), (.int 0)] → z_Ar Z h' b8 (.array .int) "[[I" "[I" [(.ref a_NONE), (.ref a_NONE), (.ref a_NONE), (.ref a_NONE), (.ref a_NONE), (.ref a_NONE), (.ref a_NONE), (.ref a_NONE)] → z_Ar Z h' b11 .int "[I" "" [(.int 0), (.int 0), (.int 0), (.int 0), (.int 0), (.int 0), (.int 0), (.int 0)] → z_At p l e ({ frames := 5, cells := 27, slots := 126, locals := 70 } : Room) s m args below meth c n0 Q h' 22 106 (mkF m 764 #[.val (.ref p0), .val (.ref p1), .val (.ref p2), .val (.ref p3), .val (.ref p4), .val (.ref p5), .val (.ref p6), .val (.int 6), .val (.int 3), .val (.int 0), .val (.ref p17), .val (.ref p17), .val (.int 3), .val (.int 0), .val (.int (z_ix y0))] [(.int 1), (.ref p6), (.ref b1)])) :
    z_At p l e ({ frames := 5, cells := 27, slots := 126, locals := 70 } : Room) s m args below meth c n0 Q h 17 84 (mkF m 608 #[.val (.ref p0), .val (.ref p1), .val (.ref p2), .val (.ref p3), .val (.ref p4), .val (.ref p5), .val (.ref p6), .val (.int 6), .val (.int 0), .val (.ref p7), .val (.ref p7), .val (.int 3), .val (.int 3), .val (.int (z_ix y5)), .unset] []) := by
  have lt_p0 := o_p0.lt
  have lt_p6 := o_p6.lt
  have lt_p15 := o_p15.lt
  have lt_p4 := o_p4.lt
  have lt_p16 := o_p16.lt
  have lt_p17 := o_p17.lt
  have lt_p14 := o_p14.lt
  have lt_p13 := o_p13.lt
  refine z_iinc C (w := (1 : Int32)) (Ls' := #[.val (.ref p0), .val (.ref p1), .val (.ref p2), .val (.ref p3), .val (.ref p4), .val (.ref p5), .val (.ref p6), .val (.int 6), .val (.int 1), .val (.ref p7), .val (.ref p7), .val (.int 3), .val (.int 3), .val (.int (z_ix y5)), .unset]) z_d19_608 rfl (by decide) rfl 611 rfl ?_
  refine z_goto C z_d19_611 (by decide) 571 (by decide) ?_
  refine z_iload C z_d19_571 rfl 573 rfl ?_
  refine z_aloadN C z_d19_573 rfl rfl 574 rfl ?_
  refine z_getO C (z_w hw 148 rfl) Via.refl o_p0 0 rfl rfl z_d19_574 577 rfl ?_
  refine z_icmpN C z_d19_577 (by decide) 580 rfl ?_
  refine z_aloadN C z_d19_580 rfl rfl 581 rfl ?_
  refine z_getO C (z_w hw 268 rfl) Via.refl o_p0 8 rfl rfl z_d19_581 584 rfl ?_
  refine z_iload C z_d19_584 rfl 586 rfl ?_
  refine z_aload C z_d19_586 rfl rfl 588 rfl ?_
  refine z_iload C z_d19_588 rfl 590 rfl ?_
  refine z_iaload C o_p6 (by decide) (v := (.int 2)) (by rfl) z_d19_590 591 rfl ?_
  refine z_ifY C z_d19_591 (by decide) (by decide) 600 (by decide) ?_
  refine z_aload C z_d19_600 rfl rfl 602 rfl ?_
  refine z_iload C z_d19_602 rfl 604 rfl ?_
  refine z_iaload C o_p6 (by decide) (v := (.int 2)) (by rfl) z_d19_604 605 rfl ?_
  refine z_newarray C (aty := .int) (z_w hw 115 rfl) (by decide) (cap := 2) (by decide) (by decide) (ad := "[I") (by decide +kernel) (vs := [(.int 0), (.int 0)]) (by rfl) z_d19_605 (by decide) (by decide) 607 rfl ?_
  intro h1 b1 g1 E1 o_b1
  have s1 : h.size ≤ h1.size := E1.1
  have k1 : Keep h h1 [p15, p6, p0, p14, p13] := (Keep.refl h [p15, p6, p0, p14, p13]).ext E1
  have o_b1 : z_Ar Z h1 b1 .int "[I" "" [(.int 0), (.int 0)] := o_b1
  have t1 := o_b1.lt
  have o_p15_1 := (o_p15.ext E1)
  refine z_aastore C o_p15_1 rfl (o_p15_1.sto (by decide) (Ins.self o_b1.exa)) (by decide) (of_decide_eq_true rfl) (vs' := [(.ref a_NONE), (.ref b1), .null, .null]) (by rfl) g_p15 z_d19_607 608 rfl ?_
  intro h2 W2 o_p15_2
  have s2 : h2.size = h1.size := W2.size
  have k2 : Keep h h2 [p15, p6, p0, p14, p13] := k1.wr W2 (Or.inl (by simp))
  refine z_iinc C (w := (2 : Int32)) (Ls' := #[.val (.ref p0), .val (.ref p1), .val (.ref p2), .val (.ref p3), .val (.ref p4), .val (.ref p5), .val (.ref p6), .val (.int 6), .val (.int 2), .val (.ref p7), .val (.ref p7), .val (.int 3), .val (.int 3), .val (.int (z_ix y5)), .unset]) z_d19_608 rfl (by decide) rfl 611 rfl ?_
  refine z_goto C z_d19_611 (by decide) 571 (by decide) ?_
  refine z_iload C z_d19_571 rfl 573 rfl ?_
  refine z_aloadN C z_d19_573 rfl rfl 574 rfl ?_
  have o_p0_2 := ((o_p0.ext E1).other W2 ne_p0_p15)
  refine z_getO C (z_w hw 148 rfl) Via.refl o_p0_2 0 rfl rfl z_d19_574 577 rfl ?_
  refine z_icmpN C z_d19_577 (by decide) 580 rfl ?_
  refine z_aloadN C z_d19_580 rfl rfl 581 rfl ?_
  refine z_getO C (z_w hw 268 rfl) Via.refl o_p0_2 8 rfl rfl z_d19_581 584 rfl ?_
  refine z_iload C z_d19_584 rfl 586 rfl ?_
  refine z_aload C z_d19_586 rfl rfl 588 rfl ?_
  refine z_iload C z_d19_588 rfl 590 rfl ?_
  have o_p6_2 := ((o_p6.ext E1).other W2 (Ne.symm ne_p15_p6))
  refine z_iaload C o_p6_2 (by decide) (v := (.int 2)) (by rfl) z_d19_590 591 rfl ?_
  refine z_ifY C z_d19_591 (by decide) (by decide) 600 (by decide) ?_
  refine z_aload C z_d19_600 rfl rfl 602 rfl ?_
  refine z_iload C z_d19_602 rfl 604 rfl ?_
  refine z_iaload C o_p6_2 (by decide) (v := (.int 2)) (by rfl) z_d19_604 605 rfl ?_
  refine z_newarray C (aty := .int) (z_w hw 115 rfl) (by decide) (cap := 2) (by decide) (by decide) (ad := "[I") (by decide +kernel) (vs := [(.int 0), (.int 0)]) (by rfl) z_d19_605 (by decide) (by decide) 607 rfl ?_
  intro h3 b3 g3 E3 o_b3
  have s3 : h2.size ≤ h3.size := E3.1
  have k3 : Keep h h3 [p15, p6, p0, p14, p13] := k2.ext E3
  have o_b3 : z_Ar Z h3 b3 .int "[I" "" [(.int 0), (.int 0)] := o_b3
  have t3 := o_b3.lt
  have o_p15_3 := (o_p15_2.ext E3)
  refine z_aastore C o_p15_3 rfl (o_p15_3.sto (by decide) (Ins.self o_b3.exa)) (by decide) (of_decide_eq_true rfl) (vs' := [(.ref a_NONE), (.ref b1), (.ref b3), .null]) (by rfl) g_p15 z_d19_607 608 rfl ?_
  intro h4 W4 o_p15_4
  have s4 : h4.size = h3.size := W4.size
  have k4 : Keep h h4 [p15, p6, p0, p14, p13] := k3.wr W4 (Or.inl (by simp))
  refine z_iinc C (w := (3 : Int32)) (Ls' := #[.val (.ref p0), .val (.ref p1), .val (.ref p2), .val (.ref p3), .val (.ref p4), .val (.ref p5), .val (.ref p6), .val (.int 6), .val (.int 3), .val (.ref p7), .val (.ref p7), .val (.int 3), .val (.int 3), .val (.int (z_ix y5)), .unset]) z_d19_608 rfl (by decide) rfl 611 rfl ?_
  refine z_goto C z_d19_611 (by decide) 571 (by decide) ?_
  refine z_iload C z_d19_571 rfl 573 rfl ?_
  refine z_aloadN C z_d19_573 rfl rfl 574 rfl ?_
  have o_p0_4 := ((o_p0_2.ext E3).other W4 ne_p0_p15)
  refine z_getO C (z_w hw 148 rfl) Via.refl o_p0_4 0 rfl rfl z_d19_574 577 rfl ?_
  refine z_icmpN C z_d19_577 (by decide) 580 rfl ?_
  refine z_aloadN C z_d19_580 rfl rfl 581 rfl ?_
  refine z_getO C (z_w hw 268 rfl) Via.refl o_p0_4 8 rfl rfl z_d19_581 584 rfl ?_
  refine z_iload C z_d19_584 rfl 586 rfl ?_
  refine z_aload C z_d19_586 rfl rfl 588 rfl ?_
  refine z_iload C z_d19_588 rfl 590 rfl ?_
  have o_p6_4 := ((o_p6_2.ext E3).other W4 (Ne.symm ne_p15_p6))
  refine z_iaload C o_p6_4 (by decide) (v := (.int 2)) (by rfl) z_d19_590 591 rfl ?_
  refine z_ifY C z_d19_591 (by decide) (by decide) 600 (by decide) ?_
  refine z_aload C z_d19_600 rfl rfl 602 rfl ?_
  refine z_iload C z_d19_602 rfl 604 rfl ?_
  refine z_iaload C o_p6_4 (by decide) (v := (.int 2)) (by rfl) z_d19_604 605 rfl ?_
  refine z_newarray C (aty := .int) (z_w hw 115 rfl) (by decide) (cap := 2) (by decide) (by decide) (ad := "[I") (by decide +kernel) (vs := [(.int 0), (.int 0)]) (by rfl) z_d19_605 (by decide) (by decide) 607 rfl ?_
  intro h5 b5 g5 E5 o_b5
  have s5 : h4.size ≤ h5.size := E5.1
  have k5 : Keep h h5 [p15, p6, p0, p14, p13] := k4.ext E5
  have o_b5 : z_Ar Z h5 b5 .int "[I" "" [(.int 0), (.int 0)] := o_b5
  have t5 := o_b5.lt
  have o_p15_5 := (o_p15_4.ext E5)
  refine z_aastore C o_p15_5 rfl (o_p15_5.sto (by decide) (Ins.self o_b5.exa)) (by decide) (of_decide_eq_true rfl) (vs' := [(.ref a_NONE), (.ref b1), (.ref b3), (.ref b5)]) (by rfl) g_p15 z_d19_607 608 rfl ?_
  intro h6 W6 o_p15_6
  have s6 : h6.size = h5.size := W6.size
  have k6 : Keep h h6 [p15, p6, p0, p14, p13] := k5.wr W6 (Or.inl (by simp))
  refine z_iinc C (w := (4 : Int32)) (Ls' := #[.val (.ref p0), .val (.ref p1), .val (.ref p2), .val (.ref p3), .val (.ref p4), .val (.ref p5), .val (.ref p6), .val (.int 6), .val (.int 4), .val (.ref p7), .val (.ref p7), .val (.int 3), .val (.int 3), .val (.int (z_ix y5)), .unset]) z_d19_608 rfl (by decide) rfl 611 rfl ?_
  refine z_goto C z_d19_611 (by decide) 571 (by decide) ?_
  refine z_iload C z_d19_571 rfl 573 rfl ?_
  refine z_aloadN C z_d19_573 rfl rfl 574 rfl ?_
  have o_p0_6 := ((o_p0_4.ext E5).other W6 ne_p0_p15)
  refine z_getO C (z_w hw 148 rfl) Via.refl o_p0_6 0 rfl rfl z_d19_574 577 rfl ?_
  refine z_icmpY C z_d19_577 (by decide) (by decide) 614 (by decide) ?_
  refine z_aload C z_d19_614 rfl rfl 616 rfl ?_
  refine z_iconst C (v := (0 : Int32)) z_d19_616 (by decide) 617 rfl ?_
  have zz6 : n0 ≤ h6.size := by omega
  have o_p6_6 := ((o_p6_4.ext E5).other W6 (Ne.symm ne_p15_p6))
  have old6 := ((((((old.ext E1).wr W2 g_p15).ext E3).wr W4 g_p15).ext E5).wr W6 g_p15)
  refine z_callSV C (z_c31_76 l hw S zz6 old6 p6 o_p6_6 g_p6) (z_w hw 226 rfl) (z_w hw 227 rfl) (z_w hw 124 rfl) (z_w hw 228 rfl) (by decide) z_d19_617 rfl (argsL := [(.ref p6), (.int 0)]) (rest := []) rfl (lenOf z_pd17 rfl) (W := 0) (Nat.le_of_eq rfl) (by decide) (by decide) (by decide) (by decide) 620 rfl ?_
  rintro h7 ⟨K7, o_p6_7⟩
  have s7 : h6.size ≤ h7.size := K7.1
  have k7 : Keep h h7 [p15, p6, p0, p14, p13] := k6.trans K7 (allS (Or.inl (by simp)) all0)
  refine z_aloadN C z_d19_620 rfl rfl 621 rfl ?_
  refine z_iconst C (v := (2 : Int32)) z_d19_621 (by decide) 622 rfl ?_
  refine z_aloadN C z_d19_622 rfl rfl 623 rfl ?_
  have o_p0_7 := (o_p0_6.keep K7 (ninS ne_p0_p6 nin0))
  refine z_getO C (z_w hw 148 rfl) Via.refl o_p0_7 0 rfl rfl z_d19_623 626 rfl ?_
  refine z_imul C (z := (6 : Int32)) z_d19_626 (by decide) 627 rfl ?_
  refine z_iconst C (v := (2 : Int32)) z_d19_627 (by decide) 628 rfl ?_
  refine z_iadd C (z := (8 : Int32)) z_d19_628 (by decide) 629 rfl ?_
  refine z_anewarrayA C (Cn := "[I") (ty := .int) (by decide +kernel) (z_w hw 199 rfl) (z_w hw 221 rfl) (by decide) (cap := 8) (by decide) (by decide) (ad := "[[I") (by decide +kernel) (vs := [.null, .null, .null, .null, .null, .null, .null, .null]) (by rfl) z_d19_629 (by decide) (by decide) 632 rfl ?_
  intro h8 b8 g8 E8 o_b8
  have s8 : h7.size ≤ h8.size := E8.1
  have k8 : Keep h h8 [p15, p6, p0, p14, p13] := k7.ext E8
  have t8 := o_b8.lt
  have o_p0_8 := (o_p0_7.ext E8)
  refine z_putO C (z_w hw 270 rfl) Via.refl o_p0_8 (z_lay3_ok hw) 9 rfl (vs' := [(.int 3), (.ref p8), (.ref p9), (.ref p10), (.ref p11), (.ref p12), (.ref p13), (.ref p14), (.ref p15), (.ref b8), .null, (.int 0), (.int 0)]) rfl (Or.inr ⟨(z_w hw 271 rfl), rfl, rfl⟩) (z_w hw 137 rfl) (ty := (.array (.array .int))) (by decide) (by first | rfl | decide) (by first | rfl | decide) g_p0 z_d19_632 635 rfl ?_
  intro h9 W9 o_p0_9
  have s9 : h9.size = h8.size := W9.size
  have k9 : Keep h h9 [p15, p6, p0, p14, p13] := k8.wr W9 (Or.inl (by simp))
  refine z_aloadN C z_d19_635 rfl rfl 636 rfl ?_
  refine z_getO C (z_w hw 270 rfl) Via.refl o_p0_9 9 rfl rfl z_d19_636 639 rfl ?_
  have old9 := (((old6.keep K7 (allS g_p6 all0)).ext E8).wr W9 g_p0)
  refine z_getstatic C (z_w hw 224 rfl) (S.2.2.1.1.ext old9.2) z_d19_639 642 rfl ?_
  have zz9 : n0 ≤ h9.size := by omega
  have n_b8_p0 : (b8 : Nat) ≠ p0 := by omega
  have o_b8_9 := (o_b8.other W9 n_b8_p0)
  have e_b8 : n0 ≤ (b8 : Nat) := by omega
  refine z_callSV C (z_c35_77 l hw S zz9 old9 b8 o_b8_9 e_b8) (z_w hw 272 rfl) (z_w hw 273 rfl) (z_w hw 124 rfl) (z_w hw 274 rfl) (by decide) z_d19_642 rfl (argsL := [(.ref b8), (.ref a_NONE)]) (rest := []) rfl (lenOf z_pd21 rfl) (W := 0) (Nat.le_of_eq rfl) (by decide) (by decide) (by decide) (by decide) 645 rfl ?_
  rintro h10 ⟨K10, o_b8_10⟩
  have s10 : h9.size ≤ h10.size := K10.1
  have q_b8 : h.size ≤ (b8 : Nat) := by omega
  have k10 : Keep h h10 [p15, p6, p0, p14, p13] := k9.trans K10 (allS (Or.inr q_b8) all0)
  refine z_aloadN C z_d19_645 rfl rfl 646 rfl ?_
  refine z_iconst C (v := (2 : Int32)) z_d19_646 (by decide) 647 rfl ?_
  refine z_aloadN C z_d19_647 rfl rfl 648 rfl ?_
  have o_p0_10 := (o_p0_9.keep K10 (ninS n_b8_p0.symm nin0))
  refine z_getO C (z_w hw 148 rfl) Via.refl o_p0_10 0 rfl rfl z_d19_648 651 rfl ?_
  refine z_imul C (z := (6 : Int32)) z_d19_651 (by decide) 652 rfl ?_
  refine z_iconst C (v := (2 : Int32)) z_d19_652 (by decide) 653 rfl ?_
  refine z_iadd C (z := (8 : Int32)) z_d19_653 (by decide) 654 rfl ?_
  refine z_newarray C (aty := .int) (z_w hw 115 rfl) (by decide) (cap := 8) (by decide) (by decide) (ad := "[I") (by decide +kernel) (vs := [(.int 0), (.int 0), (.int 0), (.int 0), (.int 0), (.int 0), (.int 0), (.int 0)]) (by rfl) z_d19_654 (by decide) (by decide) 656 rfl ?_
  intro h11 b11 g11 E11 o_b11
  have s11 : h10.size ≤ h11.size := E11.1
  have k11 : Keep h h11 [p15, p6, p0, p14, p13] := k10.ext E11
  have o_b11 : z_Ar Z h11 b11 .int "[I" "" [(.int 0), (.int 0), (.int 0), (.int 0), (.int 0), (.int 0), (.int 0), (.int 0)] := o_b11
  have t11 := o_b11.lt
  have o_p0_11 := (o_p0_10.ext E11)
  refine z_putO C (z_w hw 275 rfl) Via.refl o_p0_11 (z_lay3_ok hw) 10 rfl (vs' := [(.int 3), (.ref p8), (.ref p9), (.ref p10), (.ref p11), (.ref p12), (.ref p13), (.ref p14), (.ref p15), (.ref b8), (.ref b11), (.int 0), (.int 0)]) rfl (Or.inr ⟨(z_w hw 276 rfl), rfl, rfl⟩) (z_w hw 137 rfl) (ty := (.array .int)) (by decide) (by first | rfl | decide) (by first | rfl | decide) g_p0 z_d19_656 659 rfl ?_
  intro h12 W12 o_p0_12
  have s12 : h12.size = h11.size := W12.size
  have k12 : Keep h h12 [p15, p6, p0, p14, p13] := k11.wr W12 (Or.inl (by simp))
  refine z_iconst C (v := (0 : Int32)) z_d19_659 (by decide) 660 rfl ?_
  refine z_istore C (Ls' := #[.val (.ref p0), .val (.ref p1), .val (.ref p2), .val (.ref p3), .val (.ref p4), .val (.ref p5), .val (.ref p6), .val (.int 6), .val (.int 0), .val (.ref p7), .val (.ref p7), .val (.int 3), .val (.int 3), .val (.int (z_ix y5)), .unset]) z_d19_660 rfl 662 rfl ?_
  refine z_iconst C (v := (0 : Int32)) z_d19_662 (by decide) 663 rfl ?_
  refine z_istore C (Ls' := #[.val (.ref p0), .val (.ref p1), .val (.ref p2), .val (.ref p3), .val (.ref p4), .val (.ref p5), .val (.ref p6), .val (.int 6), .val (.int 0), .val (.int 0), .val (.ref p7), .val (.int 3), .val (.int 3), .val (.int (z_ix y5)), .unset]) z_d19_663 rfl 665 rfl ?_
  refine z_iload C z_d19_665 rfl 667 rfl ?_
  refine z_aload C z_d19_667 rfl rfl 669 rfl ?_
  have zz12 : n0 ≤ h12.size := by omega
  have n_p4_b8 : (p4 : Nat) ≠ b8 := by omega
  have o_p4_12 := ((((((((((((o_p4.ext E1).other W2 (Ne.symm ne_p15_p4)).ext E3).other W4 (Ne.symm ne_p15_p4)).ext E5).other W6 (Ne.symm ne_p15_p4)).keep K7 (ninS ne_p4_p6 nin0)).ext E8).other W9 (Ne.symm ne_p0_p4)).keep K10 (ninS n_p4_b8 nin0)).ext E11).other W12 (Ne.symm ne_p0_p4))
  have old12 := (((old9.keep K10 (allS e_b8 all0)).ext E11).wr W12 g_p0)
  refine z_callFp C o_p4_12.1 (z_c15_16 l hw S zz12 old12 p4 p16 o_p4_12) (z_w hw 194 rfl) (z_w hw 108 rfl) (z_w hw 109 rfl) (z_w hw 110 rfl) (z_w hw 111 rfl) (z_w hw 112 rfl) (z_w hw 113 rfl) (z_w hw 79 rfl) (z_w hw 11 rfl) (z_w hw 114 rfl) (by decide) z_d19_669 rfl (argsL := []) (rest := [(.int 0)]) rfl (lenOf z_pd8 rfl) (W := 1) (Nat.le_of_eq rfl) (by decide) (by decide) (by decide) (by decide) (by decide) (by decide) 674 rfl ?_
  refine z_icmpN C z_d19_674 (by decide) 677 rfl ?_
  refine z_aload C z_d19_677 rfl rfl 679 rfl ?_
  refine z_iload C z_d19_679 rfl 681 rfl ?_
  have n_p16_b8 : (p16 : Nat) ≠ b8 := by omega
  have o_p16_12 := ((((((((((((o_p16.ext E1).other W2 (Ne.symm ne_p15_p16)).ext E3).other W4 (Ne.symm ne_p15_p16)).ext E5).other W6 (Ne.symm ne_p15_p16)).keep K7 (ninS ne_p16_p6 nin0)).ext E8).other W9 (Ne.symm ne_p0_p16)).keep K10 (ninS n_p16_b8 nin0)).ext E11).other W12 (Ne.symm ne_p0_p16))
  refine z_callFp C o_p4_12.1 (z_c22_55 l hw S zz12 old12 p4 p16 p17 p7 o_p4_12 o_p16_12) (z_w hw 198 rfl) (z_w hw 160 rfl) (z_w hw 161 rfl) (z_w hw 162 rfl) (z_w hw 163 rfl) (z_w hw 164 rfl) (z_w hw 165 rfl) (z_w hw 79 rfl) (z_w hw 11 rfl) (z_w hw 166 rfl) (by decide) z_d19_681 rfl (argsL := [(.int 0)]) (rest := []) rfl (lenOf z_pd12 rfl) (W := 0) (Nat.le_of_eq rfl) (by decide) (by decide) (by decide) (by decide) (by decide) (by decide) 686 rfl ?_
  have n_p17_b8 : (p17 : Nat) ≠ b8 := by omega
  have o_p17_12 := ((((((((((((o_p17.ext E1).other W2 (Ne.symm ne_p15_p17)).ext E3).other W4 (Ne.symm ne_p15_p17)).ext E5).other W6 (Ne.symm ne_p15_p17)).keep K7 (ninS ne_p17_p6 nin0)).ext E8).other W9 (Ne.symm ne_p0_p17)).keep K10 (ninS n_p17_b8 nin0)).ext E11).other W12 (Ne.symm ne_p0_p17))
  refine z_castY C (z_w hw 199 rfl) (Ins.self o_p17_12.exa) z_d19_686 689 rfl ?_
  refine z_astore C (Ls' := #[.val (.ref p0), .val (.ref p1), .val (.ref p2), .val (.ref p3), .val (.ref p4), .val (.ref p5), .val (.ref p6), .val (.int 6), .val (.int 0), .val (.int 0), .val (.ref p17), .val (.int 3), .val (.int 3), .val (.int (z_ix y5)), .unset]) z_d19_689 rfl rfl 691 rfl ?_
  refine z_aloadN C z_d19_691 rfl rfl 692 rfl ?_
  refine z_getO C (z_w hw 266 rfl) Via.refl o_p0_12 7 rfl rfl z_d19_692 695 rfl ?_
  refine z_iload C z_d19_695 rfl 697 rfl ?_
  refine z_iload C z_d19_697 rfl 699 rfl ?_
  have n_p14_b8 : (p14 : Nat) ≠ b8 := by omega
  have o_p14_12 := ((((((((((((o_p14.ext E1).other W2 ne_p14_p15).ext E3).other W4 ne_p14_p15).ext E5).other W6 ne_p14_p15).keep K7 (ninS ne_p14_p6 nin0)).ext E8).other W9 (Ne.symm ne_p0_p14)).keep K10 (ninS n_p14_b8 nin0)).ext E11).other W12 (Ne.symm ne_p0_p14))
  refine z_iastore C (z := (0 : Int32)) o_p14_12 (by decide) (of_decide_eq_true rfl) rfl (vs' := [(.int 0), (.int 0), (.int 0)]) (by rfl) g_p14 z_d19_699 700 rfl ?_
  intro h13 W13 o_p14_13
  have s13 : h13.size = h12.size := W13.size
  have k13 : Keep h h13 [p15, p6, p0, p14, p13] := k12.wr W13 (Or.inl (by simp))
  refine z_aload C z_d19_700 rfl rfl 702 rfl ?_
  refine z_iconst C (v := (0 : Int32)) z_d19_702 (by decide) 703 rfl ?_
  refine z_aloadN C z_d19_703 rfl rfl 704 rfl ?_
  have o_p0_13 := (o_p0_12.other W13 ne_p0_p14)
  refine z_getO C (z_w hw 264 rfl) Via.refl o_p0_13 6 rfl rfl z_d19_704 707 rfl ?_
  refine z_iload C z_d19_707 rfl 709 rfl ?_
  refine z_aload C z_d19_709 rfl rfl 711 rfl ?_
  have o_p17_13 := (o_p17_12.other W13 (Ne.symm ne_p14_p17))
  refine z_arraylength C (z := (3 : Int32)) o_p17_13 (by rfl) z_d19_711 712 rfl ?_
  have n_p13_b8 : (p13 : Nat) ≠ b8 := by omega
  have o_p13_13 := (((((((((((((o_p13.ext E1).other W2 ne_p13_p15).ext E3).other W4 ne_p13_p15).ext E5).other W6 ne_p13_p15).keep K7 (ninS ne_p13_p6 nin0)).ext E8).other W9 (Ne.symm ne_p0_p13)).keep K10 (ninS n_p13_b8 nin0)).ext E11).other W12 (Ne.symm ne_p0_p13)).other W13 ne_p13_p14)
  refine z_arraycopy C (z_w hw 277 rfl) (z_w hw 132 rfl) (z_w hw 130 rfl) (z_w hw 131 rfl) o_p17_13 o_p13_13 rfl (z_allS rfl (z_allS rfl (z_allS rfl z_nil))) (z_allS rfl (z_allS rfl (z_allS rfl (z_allS rfl (z_allS rfl (z_allS rfl z_nil)))))) (by decide) (by decide) (by decide) (of_decide_eq_true rfl) (of_decide_eq_true rfl) (vs' := [(.int (z_ix y0)), (.int (z_ix y1)), (.int (z_ix y2)), (.int 0), (.int 0), (.int 0)]) rfl rfl g_p13 z_d19_712 rfl (W := 0) (Nat.le_of_eq rfl) (by decide) (by decide) 715 rfl ?_
  intro h14 K14 o_p13_14
  have s14 : h13.size ≤ h14.size := K14.1
  have k14 : Keep h h14 [p15, p6, p0, p14, p13] := k13.trans K14 (allS (Or.inl (by simp)) all0)
  refine z_iload C z_d19_715 rfl 717 rfl ?_
  refine z_aload C z_d19_717 rfl rfl 719 rfl ?_
  have o_p17_14 := (o_p17_13.keep K14 (ninS (Ne.symm ne_p13_p17) nin0))
  refine z_arraylength C (z := (3 : Int32)) o_p17_14 (by rfl) z_d19_719 720 rfl ?_
  refine z_iadd C (z := (3 : Int32)) z_d19_720 (by decide) 721 rfl ?_
  refine z_istore C (Ls' := #[.val (.ref p0), .val (.ref p1), .val (.ref p2), .val (.ref p3), .val (.ref p4), .val (.ref p5), .val (.ref p6), .val (.int 6), .val (.int 3), .val (.int 0), .val (.ref p17), .val (.int 3), .val (.int 3), .val (.int (z_ix y5)), .unset]) z_d19_721 rfl 723 rfl ?_
  refine z_aload C z_d19_723 rfl rfl 725 rfl ?_
  refine z_astore C (Ls' := #[.val (.ref p0), .val (.ref p1), .val (.ref p2), .val (.ref p3), .val (.ref p4), .val (.ref p5), .val (.ref p6), .val (.int 6), .val (.int 3), .val (.int 0), .val (.ref p17), .val (.ref p17), .val (.int 3), .val (.int (z_ix y5)), .unset]) z_d19_725 rfl rfl 727 rfl ?_
  refine z_aload C z_d19_727 rfl rfl 729 rfl ?_
  refine z_arraylength C (z := (3 : Int32)) o_p17_14 (by rfl) z_d19_729 730 rfl ?_
  refine z_istore C (Ls' := #[.val (.ref p0), .val (.ref p1), .val (.ref p2), .val (.ref p3), .val (.ref p4), .val (.ref p5), .val (.ref p6), .val (.int 6), .val (.int 3), .val (.int 0), .val (.ref p17), .val (.ref p17), .val (.int 3), .val (.int (z_ix y5)), .unset]) z_d19_730 rfl 732 rfl ?_
  refine z_iconst C (v := (0 : Int32)) z_d19_732 (by decide) 733 rfl ?_
  refine z_istore C (Ls' := #[.val (.ref p0), .val (.ref p1), .val (.ref p2), .val (.ref p3), .val (.ref p4), .val (.ref p5), .val (.ref p6), .val (.int 6), .val (.int 3), .val (.int 0), .val (.ref p17), .val (.ref p17), .val (.int 3), .val (.int 0), .unset]) z_d19_733 rfl 735 rfl ?_
  refine z_iload C z_d19_735 rfl 737 rfl ?_
  refine z_iload C z_d19_737 rfl 739 rfl ?_
  refine z_icmpN C z_d19_739 (by decide) 742 rfl ?_
  refine z_aload C z_d19_742 rfl rfl 744 rfl ?_
  refine z_iload C z_d19_744 rfl 746 rfl ?_
  refine z_iaload C o_p17_14 (by decide) (v := (.int (z_ix y0))) (by rfl) z_d19_746 747 rfl ?_
  refine z_istore C (Ls' := #[.val (.ref p0), .val (.ref p1), .val (.ref p2), .val (.ref p3), .val (.ref p4), .val (.ref p5), .val (.ref p6), .val (.int 6), .val (.int 3), .val (.int 0), .val (.ref p17), .val (.ref p17), .val (.int 3), .val (.int 0), .val (.int (z_ix y0))]) z_d19_747 rfl 749 rfl ?_
  refine z_aloadN C z_d19_749 rfl rfl 750 rfl ?_
  have o_p0_14 := (o_p0_13.keep K14 (ninS ne_p0_p13 nin0))
  refine z_getO C (z_w hw 268 rfl) Via.refl o_p0_14 8 rfl rfl z_d19_750 753 rfl ?_
  refine z_iload C z_d19_753 rfl 755 rfl ?_
  refine z_iconst C (v := (1 : Int32)) z_d19_755 (by decide) 756 rfl ?_
  refine z_ishr C (z := (1 : Int32)) z_d19_756 rq0 757 rfl ?_
  have n_p15_b8 : (p15 : Nat) ≠ b8 := by omega
  have o_p15_14 := ((((((((o_p15_6.keep K7 (ninS ne_p15_p6 nin0)).ext E8).other W9 (Ne.symm ne_p0_p15)).keep K10 (ninS n_p15_b8 nin0)).ext E11).other W12 (Ne.symm ne_p0_p15)).other W13 (Ne.symm ne_p14_p15)).keep K14 (ninS (Ne.symm ne_p13_p15) nin0))
  refine z_aaload C o_p15_14 rfl (by decide) (v := (.ref b1)) (by rfl) z_d19_757 758 rfl ?_
  refine z_aload C z_d19_758 rfl rfl 760 rfl ?_
  refine z_iload C z_d19_760 rfl 762 rfl ?_
  refine z_iconst C (v := (1 : Int32)) z_d19_762 (by decide) 763 rfl ?_
  refine z_ishr C (z := (1 : Int32)) z_d19_763 rq0 764 rfl ?_
  have n_p6_b8 : (p6 : Nat) ≠ b8 := by omega
  have o_p6_14 := (((((((o_p6_7.ext E8).other W9 (Ne.symm ne_p0_p6)).keep K10 (ninS n_p6_b8 nin0)).ext E11).other W12 (Ne.symm ne_p0_p6)).other W13 (Ne.symm ne_p14_p6)).keep K14 (ninS (Ne.symm ne_p13_p6) nin0))
  have o_p14_14 := (o_p14_13.keep K14 (ninS (Ne.symm ne_p13_p14) nin0))
  have n_b1_p15 : (b1 : Nat) ≠ p15 := by omega
  have n_b1_p6 : (b1 : Nat) ≠ p6 := by omega
  have n_b1_p0 : (b1 : Nat) ≠ p0 := by omega
  have n_b1_b8 : (b1 : Nat) ≠ b8 := by omega
  have n_b1_p14 : (b1 : Nat) ≠ p14 := by omega
  have n_b1_p13 : (b1 : Nat) ≠ p13 := by omega
  have o_b1_14 := (((((((((((((o_b1.other W2 n_b1_p15).ext E3).other W4 n_b1_p15).ext E5).other W6 n_b1_p15).keep K7 (ninS n_b1_p6 nin0)).ext E8).other W9 n_b1_p0).keep K10 (ninS n_b1_b8 nin0)).ext E11).other W12 n_b1_p0).other W13 n_b1_p14).keep K14 (ninS n_b1_p13 nin0))
  have n_b3_p15 : (b3 : Nat) ≠ p15 := by omega
  have n_b3_p6 : (b3 : Nat) ≠ p6 := by omega
  have n_b3_p0 : (b3 : Nat) ≠ p0 := by omega
  have n_b3_b8 : (b3 : Nat) ≠ b8 := by omega
  have n_b3_p14 : (b3 : Nat) ≠ p14 := by omega
  have n_b3_p13 : (b3 : Nat) ≠ p13 := by omega
  have o_b3_14 := (((((((((((o_b3.other W4 n_b3_p15).ext E5).other W6 n_b3_p15).keep K7 (ninS n_b3_p6 nin0)).ext E8).other W9 n_b3_p0).keep K10 (ninS n_b3_b8 nin0)).ext E11).other W12 n_b3_p0).other W13 n_b3_p14).keep K14 (ninS n_b3_p13 nin0))
  have n_b5_p15 : (b5 : Nat) ≠ p15 := by omega
  have n_b5_p6 : (b5 : Nat) ≠ p6 := by omega
  have n_b5_p0 : (b5 : Nat) ≠ p0 := by omega
  have n_b5_b8 : (b5 : Nat) ≠ b8 := by omega
  have n_b5_p14 : (b5 : Nat) ≠ p14 := by omega
  have n_b5_p13 : (b5 : Nat) ≠ p13 := by omega
  have o_b5_14 := (((((((((o_b5.other W6 n_b5_p15).keep K7 (ninS n_b5_p6 nin0)).ext E8).other W9 n_b5_p0).keep K10 (ninS n_b5_b8 nin0)).ext E11).other W12 n_b5_p0).other W13 n_b5_p14).keep K14 (ninS n_b5_p13 nin0))
  have o_b8_14 := ((((o_b8_10.ext E11).other W12 n_b8_p0).other W13 n_p14_b8.symm).keep K14 (ninS n_p13_b8.symm nin0))
  have n_b11_p0 : (b11 : Nat) ≠ p0 := by omega
  have n_b11_p14 : (b11 : Nat) ≠ p14 := by omega
  have n_b11_p13 : (b11 : Nat) ≠ p13 := by omega
  have o_b11_14 := (((o_b11.other W12 n_b11_p0).other W13 n_b11_p14).keep K14 (ninS n_b11_p13 nin0))
  exact K h14 b1 b3 b5 b8 b11 k14 (by omega) (by omega) (by omega) (by omega) (by omega) (by omega) o_p0_14 o_p6_14 o_p15_14 o_p14_14 o_p13_14 o_b1_14 o_b3_14 o_b5_14 o_b8_14 o_b11_14
set_option maxHeartbeats 8000000 in
theorem z_k19_79 (hw : z_T Z a0) (S : z_St Z a_DEF a_ONE a_NONE) (z0 : n0 ≤ h.size) (old : Old Z n0 h) (y0 y1 y2 : Int32) (p0 p1 p2 p3 p4 p5 p6 p7 p8 p9 p10 p11 p12 p13 p14 p15 p16 p17 p18 p19 p20 : Nat) (o_p6 : z_Ar Z h p6 .int "[I" "" [(.int 0), (.int 0), (.int 0), (.int 0)]) (o_p8 : z_Ar Z h p8 .int "[I" "" [(.int 0), (.int 0)]) (o_p7 : z_Ar Z h p7 .int "[I" "" [(.int (z_ix y0)), (.int (z_ix y1)), (.int (z_ix y2))]) (o_p0 : z_Ob Z h p0 "com/example/variegate/variegate/service/Propagation" z_lay3 [(.int 3), (.ref p9), (.ref p10), (.ref p11), (.ref p12), (.ref p13), (.ref p14), (.ref p15), (.ref p16), (.ref p17), (.ref p18), (.int 0), (.int 0)]) (o_p16 : z_Ar Z h p16 (.array .int) "[[I" "[I" [(.ref a_NONE), (.ref p8), (.ref p19), (.ref p20)]) (o_p19 : z_Ar Z h p19 .int "[I" "" [(.int 0), (.int 0)]) (o_p20 : z_Ar Z h p20 .int "[I" "" [(.int 0), (.int 0)]) (ne_p6_p8 : p6 ≠ p8) (ne_p6_p7 : p6 ≠ p7) (ne_p7_p8 : p7 ≠ p8) (ne_p0_p6 : p0 ≠ p6) (ne_p0_p8 : p0 ≠ p8) (ne_p16_p6 : p16 ≠ p6) (ne_p16_p8 : p16 ≠ p8) (ne_p19_p6 : p19 ≠ p6) (ne_p19_p8 : p19 ≠ p8) (ne_p19_p7 : p19 ≠ p7) (ne_p0_p19 : p0 ≠ p19) (ne_p16_p19 : p16 ≠ p19) (ne_p20_p6 : p20 ≠ p6) (ne_p20_p8 : p20 ≠ p8) (ne_p19_p20 : p19 ≠ p20) (ne_p20_p7 : p20 ≠ p7) (g_p6 : n0 ≤ p6) (g_p8 : n0 ≤ p8) (g_p19 : n0 ≤ p19) (g_p20 : n0 ≤ p20) (rq0 : ((z_ix y1) >>> ((1 : Int32) &&& 31)) = (2 : Int32)) (rq1 : ((z_ix y2) >>> ((1 : Int32) &&& 31)) = (3 : Int32)) {p : Program} {e : Env} {s : State} {m : MethodId} {args : Array Value} {below : List Frame} {meth : Method} {c : Code} {Q : Option Value → Heap → Prop} (C : z_Cx Z p s m meth c "com/example/variegate/variegate/service/Propagation" prog_97_method_1_code 15 none "<init>")
    (K : ∀ (h' : Heap), Keep h h' [p6, p8, p19, p20] → z_Ar Z h' p6 .int "[I" "" [(.int 0), (.int 1), (.int 1), (.int 1)] → z_Ar Z h' p8 .int "[I" "" [(.int 0), (.int 0)] → z_Ar Z h' p19 .int "[I" "" [(.int 0), (.int 0)] → z_Ar Z h' p20 .int "[I" "" [(.int 0), (.int 0)] → z_At p l e ({ frames := 5, cells := 27, slots := 126, locals := 70 } : Room) s m args below meth c n0 Q h' 22 106 (mkF m 784 #[.val (.ref p0), .val (.ref p1), .val (.ref p2), .val (.ref p3), .val (.ref p4), .val (.ref p5), .val (.ref p6), .val (.int 6), .val (.int 3), .val (.int 0), .val (.ref p7), .val (.ref p7), .val (.int 3), .val (.int 3), .val (.int (z_ix y2))] [(.int (z_ix y0)), (.ref p0)])) :
    z_At p l e ({ frames := 5, cells := 27, slots := 126, locals := 70 } : Room) s m args below meth c n0 Q h 22 106 (mkF m 764 #[.val (.ref p0), .val (.ref p1), .val (.ref p2), .val (.ref p3), .val (.ref p4), .val (.ref p5), .val (.ref p6), .val (.int 6), .val (.int 3), .val (.int 0), .val (.ref p7), .val (.ref p7), .val (.int 3), .val (.int 0), .val (.int (z_ix y0))] [(.int 1), (.ref p6), (.ref p8)]) := by
  refine z_dup2 C z_d19_764 rfl rfl 765 rfl ?_
  refine z_iaload C o_p6 (by decide) (v := (.int 0)) (by rfl) z_d19_765 766 rfl ?_
  refine z_dup_x2 C z_d19_766 rfl rfl rfl 767 rfl ?_
  refine z_iconst C (v := (1 : Int32)) z_d19_767 (by decide) 768 rfl ?_
  refine z_iadd C (z := (1 : Int32)) z_d19_768 (by decide) 769 rfl ?_
  refine z_iastore C (z := (1 : Int32)) o_p6 (by decide) (of_decide_eq_true rfl) rfl (vs' := [(.int 0), (.int 1), (.int 0), (.int 0)]) (by rfl) g_p6 z_d19_769 770 rfl ?_
  intro h1 W1 o_p6_1
  have s1 : h1.size = h.size := W1.size
  have k1 : Keep h h1 [p6, p8, p19, p20] := (Keep.refl h [p6, p8, p19, p20]).wr W1 (Or.inl (by simp))
  refine z_iload C z_d19_770 rfl 772 rfl ?_
  have o_p8_1 := (o_p8.other W1 (Ne.symm ne_p6_p8))
  refine z_iastore C (z := (0 : Int32)) o_p8_1 (by decide) (of_decide_eq_true rfl) rfl (vs' := [(.int 0), (.int 0)]) (by rfl) g_p8 z_d19_772 773 rfl ?_
  intro h2 W2 o_p8_2
  have s2 : h2.size = h1.size := W2.size
  have k2 : Keep h h2 [p6, p8, p19, p20] := k1.wr W2 (Or.inl (by simp))
  refine z_iinc C (w := (1 : Int32)) (Ls' := #[.val (.ref p0), .val (.ref p1), .val (.ref p2), .val (.ref p3), .val (.ref p4), .val (.ref p5), .val (.ref p6), .val (.int 6), .val (.int 3), .val (.int 0), .val (.ref p7), .val (.ref p7), .val (.int 3), .val (.int 1), .val (.int (z_ix y0))]) z_d19_773 rfl (by decide) rfl 776 rfl ?_
  refine z_goto C z_d19_776 (by decide) 735 (by decide) ?_
  refine z_iload C z_d19_735 rfl 737 rfl ?_
  refine z_iload C z_d19_737 rfl 739 rfl ?_
  refine z_icmpN C z_d19_739 (by decide) 742 rfl ?_
  refine z_aload C z_d19_742 rfl rfl 744 rfl ?_
  refine z_iload C z_d19_744 rfl 746 rfl ?_
  have o_p7_2 := ((o_p7.other W1 (Ne.symm ne_p6_p7)).other W2 ne_p7_p8)
  refine z_iaload C o_p7_2 (by decide) (v := (.int (z_ix y1))) (by rfl) z_d19_746 747 rfl ?_
  refine z_istore C (Ls' := #[.val (.ref p0), .val (.ref p1), .val (.ref p2), .val (.ref p3), .val (.ref p4), .val (.ref p5), .val (.ref p6), .val (.int 6), .val (.int 3), .val (.int 0), .val (.ref p7), .val (.ref p7), .val (.int 3), .val (.int 1), .val (.int (z_ix y1))]) z_d19_747 rfl 749 rfl ?_
  refine z_aloadN C z_d19_749 rfl rfl 750 rfl ?_
  have o_p0_2 := ((o_p0.other W1 ne_p0_p6).other W2 ne_p0_p8)
  refine z_getO C (z_w hw 268 rfl) Via.refl o_p0_2 8 rfl rfl z_d19_750 753 rfl ?_
  refine z_iload C z_d19_753 rfl 755 rfl ?_
  refine z_iconst C (v := (1 : Int32)) z_d19_755 (by decide) 756 rfl ?_
  refine z_ishr C (z := (2 : Int32)) z_d19_756 rq0 757 rfl ?_
  have o_p16_2 := ((o_p16.other W1 ne_p16_p6).other W2 ne_p16_p8)
  refine z_aaload C o_p16_2 rfl (by decide) (v := (.ref p19)) (by rfl) z_d19_757 758 rfl ?_
  refine z_aload C z_d19_758 rfl rfl 760 rfl ?_
  refine z_iload C z_d19_760 rfl 762 rfl ?_
  refine z_iconst C (v := (1 : Int32)) z_d19_762 (by decide) 763 rfl ?_
  refine z_ishr C (z := (2 : Int32)) z_d19_763 rq0 764 rfl ?_
  refine z_dup2 C z_d19_764 rfl rfl 765 rfl ?_
  have o_p6_2 := (o_p6_1.other W2 ne_p6_p8)
  refine z_iaload C o_p6_2 (by decide) (v := (.int 0)) (by rfl) z_d19_765 766 rfl ?_
  refine z_dup_x2 C z_d19_766 rfl rfl rfl 767 rfl ?_
  refine z_iconst C (v := (1 : Int32)) z_d19_767 (by decide) 768 rfl ?_
  refine z_iadd C (z := (1 : Int32)) z_d19_768 (by decide) 769 rfl ?_
  refine z_iastore C (z := (1 : Int32)) o_p6_2 (by decide) (of_decide_eq_true rfl) rfl (vs' := [(.int 0), (.int 1), (.int 1), (.int 0)]) (by rfl) g_p6 z_d19_769 770 rfl ?_
  intro h3 W3 o_p6_3
  have s3 : h3.size = h2.size := W3.size
  have k3 : Keep h h3 [p6, p8, p19, p20] := k2.wr W3 (Or.inl (by simp))
  refine z_iload C z_d19_770 rfl 772 rfl ?_
  have o_p19_3 := (((o_p19.other W1 ne_p19_p6).other W2 ne_p19_p8).other W3 ne_p19_p6)
  refine z_iastore C (z := (0 : Int32)) o_p19_3 (by decide) (of_decide_eq_true rfl) rfl (vs' := [(.int 0), (.int 0)]) (by rfl) g_p19 z_d19_772 773 rfl ?_
  intro h4 W4 o_p19_4
  have s4 : h4.size = h3.size := W4.size
  have k4 : Keep h h4 [p6, p8, p19, p20] := k3.wr W4 (Or.inl (by simp))
  refine z_iinc C (w := (2 : Int32)) (Ls' := #[.val (.ref p0), .val (.ref p1), .val (.ref p2), .val (.ref p3), .val (.ref p4), .val (.ref p5), .val (.ref p6), .val (.int 6), .val (.int 3), .val (.int 0), .val (.ref p7), .val (.ref p7), .val (.int 3), .val (.int 2), .val (.int (z_ix y1))]) z_d19_773 rfl (by decide) rfl 776 rfl ?_
  refine z_goto C z_d19_776 (by decide) 735 (by decide) ?_
  refine z_iload C z_d19_735 rfl 737 rfl ?_
  refine z_iload C z_d19_737 rfl 739 rfl ?_
  refine z_icmpN C z_d19_739 (by decide) 742 rfl ?_
  refine z_aload C z_d19_742 rfl rfl 744 rfl ?_
  refine z_iload C z_d19_744 rfl 746 rfl ?_
  have o_p7_4 := ((o_p7_2.other W3 (Ne.symm ne_p6_p7)).other W4 (Ne.symm ne_p19_p7))
  refine z_iaload C o_p7_4 (by decide) (v := (.int (z_ix y2))) (by rfl) z_d19_746 747 rfl ?_
  refine z_istore C (Ls' := #[.val (.ref p0), .val (.ref p1), .val (.ref p2), .val (.ref p3), .val (.ref p4), .val (.ref p5), .val (.ref p6), .val (.int 6), .val (.int 3), .val (.int 0), .val (.ref p7), .val (.ref p7), .val (.int 3), .val (.int 2), .val (.int (z_ix y2))]) z_d19_747 rfl 749 rfl ?_
  refine z_aloadN C z_d19_749 rfl rfl 750 rfl ?_
  have o_p0_4 := ((o_p0_2.other W3 ne_p0_p6).other W4 ne_p0_p19)
  refine z_getO C (z_w hw 268 rfl) Via.refl o_p0_4 8 rfl rfl z_d19_750 753 rfl ?_
  refine z_iload C z_d19_753 rfl 755 rfl ?_
  refine z_iconst C (v := (1 : Int32)) z_d19_755 (by decide) 756 rfl ?_
  refine z_ishr C (z := (3 : Int32)) z_d19_756 rq1 757 rfl ?_
  have o_p16_4 := ((o_p16_2.other W3 ne_p16_p6).other W4 ne_p16_p19)
  refine z_aaload C o_p16_4 rfl (by decide) (v := (.ref p20)) (by rfl) z_d19_757 758 rfl ?_
  refine z_aload C z_d19_758 rfl rfl 760 rfl ?_
  refine z_iload C z_d19_760 rfl 762 rfl ?_
  refine z_iconst C (v := (1 : Int32)) z_d19_762 (by decide) 763 rfl ?_
  refine z_ishr C (z := (3 : Int32)) z_d19_763 rq1 764 rfl ?_
  refine z_dup2 C z_d19_764 rfl rfl 765 rfl ?_
  have o_p6_4 := (o_p6_3.other W4 (Ne.symm ne_p19_p6))
  refine z_iaload C o_p6_4 (by decide) (v := (.int 0)) (by rfl) z_d19_765 766 rfl ?_
  refine z_dup_x2 C z_d19_766 rfl rfl rfl 767 rfl ?_
  refine z_iconst C (v := (1 : Int32)) z_d19_767 (by decide) 768 rfl ?_
  refine z_iadd C (z := (1 : Int32)) z_d19_768 (by decide) 769 rfl ?_
  refine z_iastore C (z := (1 : Int32)) o_p6_4 (by decide) (of_decide_eq_true rfl) rfl (vs' := [(.int 0), (.int 1), (.int 1), (.int 1)]) (by rfl) g_p6 z_d19_769 770 rfl ?_
  intro h5 W5 o_p6_5
  have s5 : h5.size = h4.size := W5.size
  have k5 : Keep h h5 [p6, p8, p19, p20] := k4.wr W5 (Or.inl (by simp))
  refine z_iload C z_d19_770 rfl 772 rfl ?_
  have o_p20_5 := (((((o_p20.other W1 ne_p20_p6).other W2 ne_p20_p8).other W3 ne_p20_p6).other W4 (Ne.symm ne_p19_p20)).other W5 ne_p20_p6)
  refine z_iastore C (z := (0 : Int32)) o_p20_5 (by decide) (of_decide_eq_true rfl) rfl (vs' := [(.int 0), (.int 0)]) (by rfl) g_p20 z_d19_772 773 rfl ?_
  intro h6 W6 o_p20_6
  have s6 : h6.size = h5.size := W6.size
  have k6 : Keep h h6 [p6, p8, p19, p20] := k5.wr W6 (Or.inl (by simp))
  refine z_iinc C (w := (3 : Int32)) (Ls' := #[.val (.ref p0), .val (.ref p1), .val (.ref p2), .val (.ref p3), .val (.ref p4), .val (.ref p5), .val (.ref p6), .val (.int 6), .val (.int 3), .val (.int 0), .val (.ref p7), .val (.ref p7), .val (.int 3), .val (.int 3), .val (.int (z_ix y2))]) z_d19_773 rfl (by decide) rfl 776 rfl ?_
  refine z_goto C z_d19_776 (by decide) 735 (by decide) ?_
  refine z_iload C z_d19_735 rfl 737 rfl ?_
  refine z_iload C z_d19_737 rfl 739 rfl ?_
  refine z_icmpY C z_d19_739 (by decide) (by decide) 779 (by decide) ?_
  refine z_aloadN C z_d19_779 rfl rfl 780 rfl ?_
  refine z_aload C z_d19_780 rfl rfl 782 rfl ?_
  refine z_iconst C (v := (0 : Int32)) z_d19_782 (by decide) 783 rfl ?_
  have o_p7_6 := ((o_p7_4.other W5 (Ne.symm ne_p6_p7)).other W6 (Ne.symm ne_p20_p7))
  refine z_iaload C o_p7_6 (by decide) (v := (.int (z_ix y0))) (by rfl) z_d19_783 784 rfl ?_
  have o_p6_6 := (o_p6_5.other W6 (Ne.symm ne_p20_p6))
  have o_p8_6 := ((((o_p8_2.other W3 (Ne.symm ne_p6_p8)).other W4 (Ne.symm ne_p19_p8)).other W5 (Ne.symm ne_p6_p8)).other W6 (Ne.symm ne_p20_p8))
  have o_p19_6 := ((o_p19_4.other W5 ne_p19_p6).other W6 ne_p19_p20)
  exact K h6 k6 o_p6_6 o_p8_6 o_p19_6 o_p20_6
set_option maxHeartbeats 2000000 in
theorem z_c14_80 (hw : z_T Z a0) (S : z_St Z a_DEF a_ONE a_NONE) (z0 : n0 ≤ h.size) (old : Old Z n0 h) :
    z_Met l Z (⟨"java/lang/Math", "max", "(II)I"⟩ : MethodName) jdk_29_method_65_code 2 (some .int) [] ({ frames := 0, cells := 0, slots := 0, locals := 0 } : Room) n0 #[(.int 4), (.int 0)] h (z_pure (.int 4) h) := by
  refine z_met (Ls := #[.val (.int 4), .val (.int 0)]) (by first | exact plainFor_of_name (by first | (simp [plainName, overriddenIn]; done) | decide +kernel) | decide +kernel) rfl ?_
  intro p e s m below meth c C
  refine z_iloadN C z_d14_0 rfl 1 rfl ?_
  refine z_iloadN C z_d14_1 rfl 2 rfl ?_
  refine z_icmpN C z_d14_2 (by decide) 5 rfl ?_
  refine z_iloadN C z_d14_5 rfl 6 rfl ?_
  refine z_goto C z_d14_6 (by decide) 10 (by decide) ?_
  exact z_ireturn C (Or.inl rfl) rfl z_d14_10 (by decide) (by decide) ⟨rfl, rfl⟩
set_option maxHeartbeats 2000000 in
theorem z_c18_81 (hw : z_T Z a0) (S : z_St Z a_DEF a_ONE a_NONE) (z0 : n0 ≤ h.size) (old : Old Z n0 h) :
    z_Met l Z (⟨"java/lang/Math", "min", "(II)I"⟩ : MethodName) jdk_29_method_69_code 2 (some .int) [] ({ frames := 0, cells := 0, slots := 0, locals := 0 } : Room) n0 #[(.int 0), (.int 4)] h (z_pure (.int 0) h) := by
  refine z_met (Ls := #[.val (.int 0), .val (.int 4)]) (by first | exact plainFor_of_name (by first | (simp [plainName, overriddenIn]; done) | decide +kernel) | decide +kernel) rfl ?_
  intro p e s m below meth c C
  refine z_iloadN C z_d18_0 rfl 1 rfl ?_
  refine z_iloadN C z_d18_1 rfl 2 rfl ?_
  refine z_icmpN C z_d18_2 (by decide) 5 rfl ?_
  refine z_iloadN C z_d18_5 rfl 6 rfl ?_
  refine z_goto C z_d18_6 (by decide) 10 (by decide) ?_
  exact z_ireturn C (Or.inl rfl) rfl z_d18_10 (by decide) (by decide) ⟨rfl, rfl⟩
set_option maxHeartbeats 2000000 in
theorem z_c37_82 (hw : z_T Z a0) (S : z_St Z a_DEF a_ONE a_NONE) (z0 : n0 ≤ h.size) (old : Old Z n0 h) :
    z_Met l Z (⟨"java/util/Arrays", "copyOf", "([II)[I"⟩ : MethodName) jdk_65_method_123_code 3 (some (.array .int)) [] ({ frames := 1, cells := 1, slots := 4, locals := 40 } : Room) n0 #[(.ref a_NONE), (.int 4)] h (z_val fun w h' => ∃ b1 : Nat, w = (.ref b1) ∧ Keep h h' [] ∧ h.size ≤ b1 ∧ b1 < h'.size ∧ z_Ar Z h' b1 .int "[I" "" [(.int 0), (.int 0), (.int 0), (.int 0)]) := by
  refine z_met (Ls := #[.val (.ref a_NONE), .val (.int 4), .unset]) (by first | exact plainFor_of_name (by first | (simp [plainName, overriddenIn]; done) | decide +kernel) | decide +kernel) rfl ?_
  intro p e s m below meth c C
  refine z_iloadN C z_d37_0 rfl 1 rfl ?_
  refine z_aloadN C z_d37_1 rfl rfl 2 rfl ?_
  refine z_arraylength C (z := (0 : Int32)) (S.2.2.1.2.ext old.2) (by rfl) z_d37_2 3 rfl ?_
  refine z_icmpY C z_d37_3 (by decide) (by decide) 14 (by decide) ?_
  refine z_iloadN C z_d37_14 rfl 15 rfl ?_
  refine z_newarray C (aty := .int) (z_w hw 115 rfl) (by decide) (cap := 4) (by decide) (by decide) (ad := "[I") (by decide +kernel) (vs := [(.int 0), (.int 0), (.int 0), (.int 0)]) (by rfl) z_d37_15 (by decide) (by decide) 17 rfl ?_
  intro h1 b1 g1 E1 o_b1
  have s1 : h.size ≤ h1.size := E1.1
  have k1 : Keep h h1 [] := (Keep.refl h []).ext E1
  have o_b1 : z_Ar Z h1 b1 .int "[I" "" [(.int 0), (.int 0), (.int 0), (.int 0)] := o_b1
  have t1 := o_b1.lt
  refine z_astoreN C (Ls' := #[.val (.ref a_NONE), .val (.int 4), .val (.ref b1)]) z_d37_17 rfl rfl 18 rfl ?_
  refine z_aloadN C z_d37_18 rfl rfl 19 rfl ?_
  refine z_iconst C (v := (0 : Int32)) z_d37_19 (by decide) 20 rfl ?_
  refine z_aloadN C z_d37_20 rfl rfl 21 rfl ?_
  refine z_iconst C (v := (0 : Int32)) z_d37_21 (by decide) 22 rfl ?_
  refine z_aloadN C z_d37_22 rfl rfl 23 rfl ?_
  have old1 := (old.ext E1)
  refine z_arraylength C (z := (0 : Int32)) (S.2.2.1.2.ext old1.2) (by rfl) z_d37_23 24 rfl ?_
  refine z_iloadN C z_d37_24 rfl 25 rfl ?_
  have zz1 : n0 ≤ h1.size := by omega
  refine z_callSp C (z_c18_81 l hw S zz1 old1) (z_w hw 126 rfl) (z_w hw 127 rfl) (z_w hw 102 rfl) (z_w hw 128 rfl) (by decide) z_d37_25 rfl (argsL := [(.int 0), (.int 4)]) (rest := [(.int 0), (.ref b1), (.int 0), (.ref a_NONE)]) rfl (lenOf z_pd3 rfl) (W := 4) (Nat.le_of_eq rfl) (by decide) (by decide) (by decide) (by decide) (by decide) (by decide) 28 rfl ?_
  have e_b1 : n0 ≤ (b1 : Nat) := by omega
  refine z_arraycopy C (z_w hw 129 rfl) (z_w hw 132 rfl) (z_w hw 130 rfl) (z_w hw 131 rfl) (S.2.2.1.2.ext old1.2) o_b1 rfl z_nil (z_allS rfl (z_allS rfl (z_allS rfl (z_allS rfl z_nil)))) (by decide) (by decide) (by decide) (of_decide_eq_true rfl) (of_decide_eq_true rfl) (vs' := [(.int 0), (.int 0), (.int 0), (.int 0)]) rfl rfl e_b1 z_d37_28 rfl (W := 0) (Nat.le_of_eq rfl) (by decide) (by decide) 31 rfl ?_
  intro h2 K2 o_b1_2
  have s2 : h1.size ≤ h2.size := K2.1
  have q_b1 : h.size ≤ (b1 : Nat) := by omega
  have k2 : Keep h h2 [] := k1.trans K2 (allS (Or.inr q_b1) all0)
  refine z_aloadN C z_d37_31 rfl rfl 32 rfl ?_
  exact z_areturn C rfl rfl z_d37_32 (by decide) (by decide) ⟨_, rfl, b1, rfl, k2, by omega, by omega, o_b1_2⟩
set_option maxHeartbeats 2000000 in
theorem z_c36_83 (hw : z_T Z a0) (S : z_St Z a_DEF a_ONE a_NONE) (z0 : n0 ≤ h.size) (old : Old Z n0 h) (y0 : Int32) (va0 : List Value) (va1 : List Value) (p0 : Nat) (p1 : Nat) (p2 : Nat) (p3 : Nat) (p4 : Nat) (p5 : Nat) (p6 : Nat) (p7 : Nat) (p8 : Nat) (p9 : Nat) (p10 : Nat) (o_p0 : z_Ob Z h p0 "com/example/variegate/variegate/service/Propagation" z_lay3 [(.int 3), (.ref p1), (.ref p2), (.ref p3), (.ref p4), (.ref p5), (.ref p6), (.ref p7), (.ref p8), (.ref p9), (.ref p10), (.int 0), (.int 0)]) (o_p10 : z_Ar Z h p10 .int "[I" "" va0) (o_p9 : z_Ar Z h p9 (.array .int) "[[I" "[I" va1) (ne_p0_p9 : p0 ≠ p9) (ne_p10_p9 : p10 ≠ p9) (g_p9 : n0 ≤ p9) (g_p10 : n0 ≤ p10) (rq0 : ¬ y0 < 0) (rq1 : (va0)[(y0).toNatClampNeg]? = some (.int 0)) (rq2 : (va1)[(y0).toNatClampNeg]? = some (.ref a_NONE)) (rq3 : (y0).toNatClampNeg < (va1).length) (rq4 : (y0).toNatClampNeg < (va0).length) :
    z_Met l Z (⟨"com/example/variegate/variegate/service/Propagation", "watch", "(II)V"⟩ : MethodName) prog_97_method_12_code 3 none [] ({ frames := 2, cells := 1, slots := 4, locals := 56 } : Room) n0 #[(.ref p0), (.int y0), (.int 0)] h (z_nov fun h' => ∃ b1_0 : Nat, Keep h h' [p9, p10] ∧ h.size ≤ b1_0 ∧ b1_0 < h'.size ∧ z_Ar Z h' p10 .int "[I" "" (List.set (va0) (y0).toNatClampNeg (.int 1)) ∧ z_Ar Z h' p9 (.array .int) "[[I" "[I" (List.set (va1) (y0).toNatClampNeg (.ref b1_0)) ∧ z_Ar Z h' b1_0 .int "[I" "" [(.int 0), (.int 0), (.int 0), (.int 0)]) := by
  have lt_p0 := o_p0.lt
  have lt_p10 := o_p10.lt
  have lt_p9 := o_p9.lt
  refine z_met (Ls := #[.val (.ref p0), .val (.int y0), .val (.int 0)]) (by first | exact plainFor_of_name (by first | (simp [plainName, overriddenIn]; done) | decide +kernel) | decide +kernel) rfl ?_
  intro p e s m below meth c C
  refine z_aloadN C z_d36_0 rfl rfl 1 rfl ?_
  refine z_getO C (z_w hw 275 rfl) Via.refl o_p0 10 rfl rfl z_d36_1 4 rfl ?_
  refine z_iloadN C z_d36_4 rfl 5 rfl ?_
  refine z_iaload C o_p10 rq0 rq1 z_d36_5 6 rfl ?_
  refine z_aloadN C z_d36_6 rfl rfl 7 rfl ?_
  refine z_getO C (z_w hw 270 rfl) Via.refl o_p0 9 rfl rfl z_d36_7 10 rfl ?_
  refine z_iloadN C z_d36_10 rfl 11 rfl ?_
  refine z_aaload C o_p9 rfl rq0 rq2 z_d36_11 12 rfl ?_
  refine z_arraylength C (z := (0 : Int32)) (S.2.2.1.2.ext old.2) (by rfl) z_d36_12 13 rfl ?_
  refine z_icmpN C z_d36_13 (by decide) 16 rfl ?_
  refine z_aloadN C z_d36_16 rfl rfl 17 rfl ?_
  refine z_getO C (z_w hw 270 rfl) Via.refl o_p0 9 rfl rfl z_d36_17 20 rfl ?_
  refine z_iloadN C z_d36_20 rfl 21 rfl ?_
  refine z_aloadN C z_d36_21 rfl rfl 22 rfl ?_
  refine z_getO C (z_w hw 270 rfl) Via.refl o_p0 9 rfl rfl z_d36_22 25 rfl ?_
  refine z_iloadN C z_d36_25 rfl 26 rfl ?_
  refine z_aaload C o_p9 rfl rq0 rq2 z_d36_26 27 rfl ?_
  refine z_iconst C (v := (4 : Int32)) z_d36_27 (by decide) 28 rfl ?_
  refine z_iconst C (v := (2 : Int32)) z_d36_28 (by decide) 29 rfl ?_
  refine z_aloadN C z_d36_29 rfl rfl 30 rfl ?_
  refine z_getO C (z_w hw 275 rfl) Via.refl o_p0 10 rfl rfl z_d36_30 33 rfl ?_
  refine z_iloadN C z_d36_33 rfl 34 rfl ?_
  refine z_iaload C o_p10 rq0 rq1 z_d36_34 35 rfl ?_
  refine z_imul C (z := (0 : Int32)) z_d36_35 (by decide) 36 rfl ?_
  refine z_callSp C (z_c14_80 l hw S z0 old) (z_w hw 282 rfl) (z_w hw 101 rfl) (z_w hw 102 rfl) (z_w hw 103 rfl) (by decide) z_d36_36 rfl (argsL := [(.int 4), (.int 0)]) (rest := [(.ref a_NONE), (.int y0), (.ref p9)]) rfl (lenOf z_pd3 rfl) (W := 3) (Nat.le_of_eq rfl) (by decide) (by decide) (by decide) (by decide) (by decide) (by decide) 39 rfl ?_
  refine z_callS C (z_c37_82 l hw S z0 old) (z_w hw 283 rfl) (z_w hw 284 rfl) (z_w hw 124 rfl) (z_w hw 285 rfl) (by decide) z_d36_39 rfl (argsL := [(.ref a_NONE), (.int 4)]) (rest := [(.int y0), (.ref p9)]) rfl (lenOf z_pd22 rfl) (W := 2) (Nat.le_of_eq rfl) (by decide) (by decide) (by decide) (by decide) 42 rfl ?_
  rintro _ h1 ⟨b1_0, rfl, K1, l1_0, l1_1, o_b1_0_1⟩
  have s1 : h.size ≤ h1.size := K1.1
  have k1 : Keep h h1 [p9, p10] := (Keep.refl h [p9, p10]).trans K1 all0
  have o_p9_1 := (o_p9.keep K1 nin0)
  refine z_aastore C o_p9_1 rfl (o_p9_1.sto (by decide) (Ins.self o_b1_0_1.exa)) rq0 rq3 (vs' := (List.set (va1) (y0).toNatClampNeg (.ref b1_0))) rfl g_p9 z_d36_42 43 rfl ?_
  intro h2 W2 o_p9_2
  have s2 : h2.size = h1.size := W2.size
  have k2 : Keep h h2 [p9, p10] := k1.wr W2 (Or.inl (by simp))
  refine z_aloadN C z_d36_43 rfl rfl 44 rfl ?_
  have o_p0_2 := ((o_p0.keep K1 nin0).other W2 ne_p0_p9)
  refine z_getO C (z_w hw 270 rfl) Via.refl o_p0_2 9 rfl rfl z_d36_44 47 rfl ?_
  refine z_iloadN C z_d36_47 rfl 48 rfl ?_
  refine z_aaload C o_p9_2 rfl rq0 (z_setget rq3) z_d36_48 49 rfl ?_
  refine z_aloadN C z_d36_49 rfl rfl 50 rfl ?_
  refine z_getO C (z_w hw 275 rfl) Via.refl o_p0_2 10 rfl rfl z_d36_50 53 rfl ?_
  refine z_iloadN C z_d36_53 rfl 54 rfl ?_
  refine z_dup2 C z_d36_54 rfl rfl 55 rfl ?_
  have o_p10_2 := ((o_p10.keep K1 nin0).other W2 ne_p10_p9)
  refine z_iaload C o_p10_2 rq0 rq1 z_d36_55 56 rfl ?_
  refine z_dup_x2 C z_d36_56 rfl rfl rfl 57 rfl ?_
  refine z_iconst C (v := (1 : Int32)) z_d36_57 (by decide) 58 rfl ?_
  refine z_iadd C (z := (1 : Int32)) z_d36_58 (by decide) 59 rfl ?_
  refine z_iastore C (z := (1 : Int32)) o_p10_2 rq0 rq4 rfl (vs' := (List.set (va0) (y0).toNatClampNeg (.int 1))) rfl g_p10 z_d36_59 60 rfl ?_
  intro h3 W3 o_p10_3
  have s3 : h3.size = h2.size := W3.size
  have k3 : Keep h h3 [p9, p10] := k2.wr W3 (Or.inl (by simp))
  refine z_iloadN C z_d36_60 rfl 61 rfl ?_
  have n_b1_0_p9 : (b1_0 : Nat) ≠ p9 := by omega
  have n_b1_0_p10 : (b1_0 : Nat) ≠ p10 := by omega
  have o_b1_0_3 := ((o_b1_0_1.other W2 n_b1_0_p9).other W3 n_b1_0_p10)
  have e_b1_0 : n0 ≤ (b1_0 : Nat) := by omega
  refine z_iastore C (z := (0 : Int32)) o_b1_0_3 (by decide) (of_decide_eq_true rfl) rfl (vs' := [(.int 0), (.int 0), (.int 0), (.int 0)]) (by rfl) e_b1_0 z_d36_61 62 rfl ?_
  intro h4 W4 o_b1_0_4
  have s4 : h4.size = h3.size := W4.size
  have q_b1_0 : h.size ≤ (b1_0 : Nat) := by omega
  have k4 : Keep h h4 [p9, p10] := k3.wr W4 (Or.inr q_b1_0)
  have o_p10_4 := (o_p10_3.other W4 n_b1_0_p10.symm)
  have o_p9_4 := ((o_p9_2.other W3 (Ne.symm ne_p10_p9)).other W4 n_b1_0_p9.symm)
  exact z_return C z_d36_62 (by decide) (by decide) ⟨rfl, b1_0, k4, by omega, by omega, o_p10_4, o_p9_4, o_b1_0_4⟩
set_option maxHeartbeats 2000000 in
theorem z_c36_84 (hw : z_T Z a0) (S : z_St Z a_DEF a_ONE a_NONE) (z0 : n0 ≤ h.size) (old : Old Z n0 h) (y0 : Int32) (va0 : List Value) (va1 : List Value) (p0 : Nat) (p1 : Nat) (p2 : Nat) (p3 : Nat) (p4 : Nat) (p5 : Nat) (p6 : Nat) (p7 : Nat) (p8 : Nat) (p9 : Nat) (p10 : Nat) (o_p0 : z_Ob Z h p0 "com/example/variegate/variegate/service/Propagation" z_lay3 [(.int 3), (.ref p1), (.ref p2), (.ref p3), (.ref p4), (.ref p5), (.ref p6), (.ref p7), (.ref p8), (.ref p9), (.ref p10), (.int 0), (.int 0)]) (o_p10 : z_Ar Z h p10 .int "[I" "" va0) (o_p9 : z_Ar Z h p9 (.array .int) "[[I" "[I" va1) (ne_p0_p9 : p0 ≠ p9) (ne_p10_p9 : p10 ≠ p9) (g_p9 : n0 ≤ p9) (g_p10 : n0 ≤ p10) (rq0 : ¬ y0 < 0) (rq1 : (va0)[(y0).toNatClampNeg]? = some (.int 0)) (rq2 : (va1)[(y0).toNatClampNeg]? = some (.ref a_NONE)) (rq3 : (y0).toNatClampNeg < (va1).length) (rq4 : (y0).toNatClampNeg < (va0).length) :
    z_Met l Z (⟨"com/example/variegate/variegate/service/Propagation", "watch", "(II)V"⟩ : MethodName) prog_97_method_12_code 3 none [] ({ frames := 2, cells := 1, slots := 4, locals := 56 } : Room) n0 #[(.ref p0), (.int y0), (.int 1)] h (z_nov fun h' => ∃ b1_0 : Nat, Keep h h' [p9, p10] ∧ h.size ≤ b1_0 ∧ b1_0 < h'.size ∧ z_Ar Z h' p10 .int "[I" "" (List.set (va0) (y0).toNatClampNeg (.int 1)) ∧ z_Ar Z h' p9 (.array .int) "[[I" "[I" (List.set (va1) (y0).toNatClampNeg (.ref b1_0)) ∧ z_Ar Z h' b1_0 .int "[I" "" [(.int 1), (.int 0), (.int 0), (.int 0)]) := by
  have lt_p0 := o_p0.lt
  have lt_p10 := o_p10.lt
  have lt_p9 := o_p9.lt
  refine z_met (Ls := #[.val (.ref p0), .val (.int y0), .val (.int 1)]) (by first | exact plainFor_of_name (by first | (simp [plainName, overriddenIn]; done) | decide +kernel) | decide +kernel) rfl ?_
  intro p e s m below meth c C
  refine z_aloadN C z_d36_0 rfl rfl 1 rfl ?_
  refine z_getO C (z_w hw 275 rfl) Via.refl o_p0 10 rfl rfl z_d36_1 4 rfl ?_
  refine z_iloadN C z_d36_4 rfl 5 rfl ?_
  refine z_iaload C o_p10 rq0 rq1 z_d36_5 6 rfl ?_
  refine z_aloadN C z_d36_6 rfl rfl 7 rfl ?_
  refine z_getO C (z_w hw 270 rfl) Via.refl o_p0 9 rfl rfl z_d36_7 10 rfl ?_
  refine z_iloadN C z_d36_10 rfl 11 rfl ?_
  refine z_aaload C o_p9 rfl rq0 rq2 z_d36_11 12 rfl ?_
  refine z_arraylength C (z := (0 : Int32)) (S.2.2.1.2.ext old.2) (by rfl) z_d36_12 13 rfl ?_
  refine z_icmpN C z_d36_13 (by decide) 16 rfl ?_
  refine z_aloadN C z_d36_16 rfl rfl 17 rfl ?_
  refine z_getO C (z_w hw 270 rfl) Via.refl o_p0 9 rfl rfl z_d36_17 20 rfl ?_
  refine z_iloadN C z_d36_20 rfl 21 rfl ?_
  refine z_aloadN C z_d36_21 rfl rfl 22 rfl ?_
  refine z_getO C (z_w hw 270 rfl) Via.refl o_p0 9 rfl rfl z_d36_22 25 rfl ?_
  refine z_iloadN C z_d36_25 rfl 26 rfl ?_
  refine z_aaload C o_p9 rfl rq0 rq2 z_d36_26 27 rfl ?_
  refine z_iconst C (v := (4 : Int32)) z_d36_27 (by decide) 28 rfl ?_
  refine z_iconst C (v := (2 : Int32)) z_d36_28 (by decide) 29 rfl ?_
  refine z_aloadN C z_d36_29 rfl rfl 30 rfl ?_
  refine z_getO C (z_w hw 275 rfl) Via.refl o_p0 10 rfl rfl z_d36_30 33 rfl ?_
  refine z_iloadN C z_d36_33 rfl 34 rfl ?_
  refine z_iaload C o_p10 rq0 rq1 z_d36_34 35 rfl ?_
  refine z_imul C (z := (0 : Int32)) z_d36_35 (by decide) 36 rfl ?_
  refine z_callSp C (z_c14_80 l hw S z0 old) (z_w hw 282 rfl) (z_w hw 101 rfl) (z_w hw 102 rfl) (z_w hw 103 rfl) (by decide) z_d36_36 rfl (argsL := [(.int 4), (.int 0)]) (rest := [(.ref a_NONE), (.int y0), (.ref p9)]) rfl (lenOf z_pd3 rfl) (W := 3) (Nat.le_of_eq rfl) (by decide) (by decide) (by decide) (by decide) (by decide) (by decide) 39 rfl ?_
  refine z_callS C (z_c37_82 l hw S z0 old) (z_w hw 283 rfl) (z_w hw 284 rfl) (z_w hw 124 rfl) (z_w hw 285 rfl) (by decide) z_d36_39 rfl (argsL := [(.ref a_NONE), (.int 4)]) (rest := [(.int y0), (.ref p9)]) rfl (lenOf z_pd22 rfl) (W := 2) (Nat.le_of_eq rfl) (by decide) (by decide) (by decide) (by decide) 42 rfl ?_
  rintro _ h1 ⟨b1_0, rfl, K1, l1_0, l1_1, o_b1_0_1⟩
  have s1 : h.size ≤ h1.size := K1.1
  have k1 : Keep h h1 [p9, p10] := (Keep.refl h [p9, p10]).trans K1 all0
  have o_p9_1 := (o_p9.keep K1 nin0)
  refine z_aastore C o_p9_1 rfl (o_p9_1.sto (by decide) (Ins.self o_b1_0_1.exa)) rq0 rq3 (vs' := (List.set (va1) (y0).toNatClampNeg (.ref b1_0))) rfl g_p9 z_d36_42 43 rfl ?_
  intro h2 W2 o_p9_2
  have s2 : h2.size = h1.size := W2.size
  have k2 : Keep h h2 [p9, p10] := k1.wr W2 (Or.inl (by simp))
  refine z_aloadN C z_d36_43 rfl rfl 44 rfl ?_
  have o_p0_2 := ((o_p0.keep K1 nin0).other W2 ne_p0_p9)
  refine z_getO C (z_w hw 270 rfl) Via.refl o_p0_2 9 rfl rfl z_d36_44 47 rfl ?_
  refine z_iloadN C z_d36_47 rfl 48 rfl ?_
  refine z_aaload C o_p9_2 rfl rq0 (z_setget rq3) z_d36_48 49 rfl ?_
  refine z_aloadN C z_d36_49 rfl rfl 50 rfl ?_
  refine z_getO C (z_w hw 275 rfl) Via.refl o_p0_2 10 rfl rfl z_d36_50 53 rfl ?_
  refine z_iloadN C z_d36_53 rfl 54 rfl ?_
  refine z_dup2 C z_d36_54 rfl rfl 55 rfl ?_
  have o_p10_2 := ((o_p10.keep K1 nin0).other W2 ne_p10_p9)
  refine z_iaload C o_p10_2 rq0 rq1 z_d36_55 56 rfl ?_
  refine z_dup_x2 C z_d36_56 rfl rfl rfl 57 rfl ?_
  refine z_iconst C (v := (1 : Int32)) z_d36_57 (by decide) 58 rfl ?_
  refine z_iadd C (z := (1 : Int32)) z_d36_58 (by decide) 59 rfl ?_
  refine z_iastore C (z := (1 : Int32)) o_p10_2 rq0 rq4 rfl (vs' := (List.set (va0) (y0).toNatClampNeg (.int 1))) rfl g_p10 z_d36_59 60 rfl ?_
  intro h3 W3 o_p10_3
  have s3 : h3.size = h2.size := W3.size
  have k3 : Keep h h3 [p9, p10] := k2.wr W3 (Or.inl (by simp))
  refine z_iloadN C z_d36_60 rfl 61 rfl ?_
  have n_b1_0_p9 : (b1_0 : Nat) ≠ p9 := by omega
  have n_b1_0_p10 : (b1_0 : Nat) ≠ p10 := by omega
  have o_b1_0_3 := ((o_b1_0_1.other W2 n_b1_0_p9).other W3 n_b1_0_p10)
  have e_b1_0 : n0 ≤ (b1_0 : Nat) := by omega
  refine z_iastore C (z := (1 : Int32)) o_b1_0_3 (by decide) (of_decide_eq_true rfl) rfl (vs' := [(.int 1), (.int 0), (.int 0), (.int 0)]) (by rfl) e_b1_0 z_d36_61 62 rfl ?_
  intro h4 W4 o_b1_0_4
  have s4 : h4.size = h3.size := W4.size
  have q_b1_0 : h.size ≤ (b1_0 : Nat) := by omega
  have k4 : Keep h h4 [p9, p10] := k3.wr W4 (Or.inr q_b1_0)
  have o_p10_4 := (o_p10_3.other W4 n_b1_0_p10.symm)
  have o_p9_4 := ((o_p9_2.other W3 (Ne.symm ne_p10_p9)).other W4 n_b1_0_p9.symm)
  exact z_return C z_d36_62 (by decide) (by decide) ⟨rfl, b1_0, k4, by omega, by omega, o_p10_4, o_p9_4, o_b1_0_4⟩
set_option maxHeartbeats 2000000 in
theorem z_c36_85 (hw : z_T Z a0) (S : z_St Z a_DEF a_ONE a_NONE) (z0 : n0 ≤ h.size) (old : Old Z n0 h) (y0 : Int32) (va0 : List Value) (va1 : List Value) (p0 : Nat) (p1 : Nat) (p2 : Nat) (p3 : Nat) (p4 : Nat) (p5 : Nat) (p6 : Nat) (p7 : Nat) (p8 : Nat) (p9 : Nat) (p10 : Nat) (p11 : Nat) (o_p0 : z_Ob Z h p0 "com/example/variegate/variegate/service/Propagation" z_lay3 [(.int 3), (.ref p1), (.ref p2), (.ref p3), (.ref p4), (.ref p5), (.ref p6), (.ref p7), (.ref p8), (.ref p9), (.ref p10), (.int 0), (.int 0)]) (o_p10 : z_Ar Z h p10 .int "[I" "" va0) (o_p9 : z_Ar Z h p9 (.array .int) "[[I" "[I" va1) (o_p11 : z_Ar Z h p11 .int "[I" "" [(.int 0), (.int 0), (.int 0), (.int 0)]) (ne_p10_p11 : p10 ≠ p11) (g_p10 : n0 ≤ p10) (g_p11 : n0 ≤ p11) (rq0 : ¬ y0 < 0) (rq1 : (va0)[(y0).toNatClampNeg]? = some (.int 1)) (rq2 : (va1)[(y0).toNatClampNeg]? = some (.ref p11)) (rq3 : (y0).toNatClampNeg < (va0).length) :
    z_Met l Z (⟨"com/example/variegate/variegate/service/Propagation", "watch", "(II)V"⟩ : MethodName) prog_97_method_12_code 3 none [] ({ frames := 2, cells := 1, slots := 4, locals := 56 } : Room) n0 #[(.ref p0), (.int y0), (.int 1)] h (z_nov fun h' => Keep h h' [p10, p11] ∧ z_Ar Z h' p10 .int "[I" "" (List.set (va0) (y0).toNatClampNeg (.int 2)) ∧ z_Ar Z h' p11 .int "[I" "" [(.int 0), (.int 1), (.int 0), (.int 0)]) := by
  refine z_met (Ls := #[.val (.ref p0), .val (.int y0), .val (.int 1)]) (by first | exact plainFor_of_name (by first | (simp [plainName, overriddenIn]; done) | decide +kernel) | decide +kernel) rfl ?_
  intro p e s m below meth c C
  refine z_aloadN C z_d36_0 rfl rfl 1 rfl ?_
  refine z_getO C (z_w hw 275 rfl) Via.refl o_p0 10 rfl rfl z_d36_1 4 rfl ?_
  refine z_iloadN C z_d36_4 rfl 5 rfl ?_
  refine z_iaload C o_p10 rq0 rq1 z_d36_5 6 rfl ?_
  refine z_aloadN C z_d36_6 rfl rfl 7 rfl ?_
  refine z_getO C (z_w hw 270 rfl) Via.refl o_p0 9 rfl rfl z_d36_7 10 rfl ?_
  refine z_iloadN C z_d36_10 rfl 11 rfl ?_
  refine z_aaload C o_p9 rfl rq0 rq2 z_d36_11 12 rfl ?_
  refine z_arraylength C (z := (4 : Int32)) o_p11 (by rfl) z_d36_12 13 rfl ?_
  refine z_icmpY C z_d36_13 (by decide) (by decide) 43 (by decide) ?_
  refine z_aloadN C z_d36_43 rfl rfl 44 rfl ?_
  refine z_getO C (z_w hw 270 rfl) Via.refl o_p0 9 rfl rfl z_d36_44 47 rfl ?_
  refine z_iloadN C z_d36_47 rfl 48 rfl ?_
  refine z_aaload C o_p9 rfl rq0 rq2 z_d36_48 49 rfl ?_
  refine z_aloadN C z_d36_49 rfl rfl 50 rfl ?_
  refine z_getO C (z_w hw 275 rfl) Via.refl o_p0 10 rfl rfl z_d36_50 53 rfl ?_
  refine z_iloadN C z_d36_53 rfl 54 rfl ?_
  refine z_dup2 C z_d36_54 rfl rfl 55 rfl ?_
  refine z_iaload C o_p10 rq0 rq1 z_d36_55 56 rfl ?_
  refine z_dup_x2 C z_d36_56 rfl rfl rfl 57 rfl ?_
  refine z_iconst C (v := (1 : Int32)) z_d36_57 (by decide) 58 rfl ?_
  refine z_iadd C (z := (2 : Int32)) z_d36_58 (by decide) 59 rfl ?_
  refine z_iastore C (z := (2 : Int32)) o_p10 rq0 rq3 rfl (vs' := (List.set (va0) (y0).toNatClampNeg (.int 2))) rfl g_p10 z_d36_59 60 rfl ?_
  intro h1 W1 o_p10_1
  have s1 : h1.size = h.size := W1.size
  have k1 : Keep h h1 [p10, p11] := (Keep.refl h [p10, p11]).wr W1 (Or.inl (by simp))
  refine z_iloadN C z_d36_60 rfl 61 rfl ?_
  have o_p11_1 := (o_p11.other W1 (Ne.symm ne_p10_p11))
  refine z_iastore C (z := (1 : Int32)) o_p11_1 (by decide) (of_decide_eq_true rfl) rfl (vs' := [(.int 0), (.int 1), (.int 0), (.int 0)]) (by rfl) g_p11 z_d36_61 62 rfl ?_
  intro h2 W2 o_p11_2
  have s2 : h2.size = h1.size := W2.size
  have k2 : Keep h h2 [p10, p11] := k1.wr W2 (Or.inl (by simp))
  have o_p10_2 := (o_p10_1.other W2 ne_p10_p11)
  exact z_return C z_d36_62 (by decide) (by decide) ⟨rfl, k2, o_p10_2, o_p11_2⟩
set_option maxHeartbeats 2000000 in
theorem z_watch (hw : z_T Z a0) (S : z_St Z a_DEF a_ONE a_NONE) (z0 : n0 ≤ h.size) (old : Old Z n0 h) (y0 : Int32) (va0 va1 : List Value) (p0 p1 p2 p3 p4 p5 p6 p7 p8 p9 p10 p11 : Nat) (o_p0 : z_Ob Z h p0 "com/example/variegate/variegate/service/Propagation" z_lay3 [(.int 3), (.ref p1), (.ref p2), (.ref p3), (.ref p4), (.ref p5), (.ref p6), (.ref p7), (.ref p8), (.ref p9), (.ref p10), (.int 0), (.int 0)]) (o_p10 : z_Ar Z h p10 .int "[I" "" va0) (o_p9 : z_Ar Z h p9 (.array .int) "[[I" "[I" va1) (o_p11 : z_Ar Z h p11 .int "[I" "" [(.int 0), (.int 0), (.int 0), (.int 0)]) (ne_p0_p9 : p0 ≠ p9) (ne_p10_p9 : p10 ≠ p9) (ne_p9_p11 : p9 ≠ p11) (ne_p10_p11 : p10 ≠ p11) (g_p9 : n0 ≤ p9) (g_p10 : n0 ≤ p10) (g_p11 : n0 ≤ p11) (rq0 : ¬ y0 < 0) (rq3 : (y0).toNatClampNeg < va1.length) (rq4 : (y0).toNatClampNeg < va0.length) (D : (va0[(y0).toNatClampNeg]? = some (.int 0) ∧ va1[(y0).toNatClampNeg]? = some (.ref a_NONE)) ∨ (va0[(y0).toNatClampNeg]? = some (.int 1) ∧ va1[(y0).toNatClampNeg]? = some (.ref p11))) :
    z_Met l Z (⟨"com/example/variegate/variegate/service/Propagation", "watch", "(II)V"⟩ : MethodName) prog_97_method_12_code 3 none [] ({ frames := 2, cells := 1, slots := 4, locals := 56 } : Room) n0 #[(.ref p0), (.int y0), (.int 1)] h (z_nov fun h' => ∃ r : Nat, ∃ c : Int32, Keep h h' [p9, p10, p11] ∧ z_Ar Z h' p10 .int "[I" "" (List.set va0 (y0).toNatClampNeg (.int c)) ∧ z_Ar Z h' p9 (.array .int) "[[I" "[I" (List.set va1 (y0).toNatClampNeg (.ref r))) := by
  rcases D with ⟨d1, d2⟩ | ⟨d1, d2⟩
  · refine z_mono (z_c36_84 l hw S z0 old y0 va0 va1 p0 p1 p2 p3 p4 p5 p6 p7 p8 p9 p10 o_p0 o_p10 o_p9 ne_p0_p9 ne_p10_p9 g_p9 g_p10 rq0 d1 d2 rq3 rq4) ?_
    rintro _ h' ⟨rfl, r, K, _, _, q1, q2, _⟩
    exact ⟨rfl, r, _, (Keep.refl h [p9, p10, p11]).trans K (allS (Or.inl (by simp)) (allS (Or.inl (by simp)) all0)), q1, q2⟩
  · refine z_mono (z_c36_85 l hw S z0 old y0 va0 va1 p0 p1 p2 p3 p4 p5 p6 p7 p8 p9 p10 p11 o_p0 o_p10 o_p9 o_p11 ne_p10_p11 g_p10 g_p11 rq0 d1 d2 rq4) ?_
    rintro _ h' ⟨rfl, K, q1, _⟩
    exact ⟨rfl, p11, _, (Keep.refl h [p9, p10, p11]).trans K (allS (Or.inl (by simp)) (allS (Or.inl (by simp)) all0)), q1, (z_setself d2).symm ▸ (o_p9.keep K (ninS (Ne.symm ne_p10_p9) (ninS ne_p9_p11 nin0)))⟩
set_option maxHeartbeats 2000000 in
theorem z_c38_86 (hw : z_T Z a0) (S : z_St Z a_DEF a_ONE a_NONE) (z0 : n0 ≤ h.size) (old : Old Z n0 h) :
    z_Met l Z (⟨"java/math/BigInteger", "signum", "()I"⟩ : MethodName) jdk_2097_method_81_code 1 (some .int) [] ({ frames := 0, cells := 0, slots := 0, locals := 0 } : Room) n0 #[(.ref a_ONE)] h (z_pure (.int 1) h) := by
  refine z_met (Ls := #[.val (.ref a_ONE)]) (by first | exact plainFor_of_name (by first | (simp [plainName, overriddenIn]; done) | decide +kernel) | decide +kernel) rfl ?_
  intro p e s m below meth c C
  refine z_aloadN C z_d38_0 rfl rfl 1 rfl ?_
  refine z_getO C (z_w hw 291 rfl) Via.refl (S.2.1.2.ext old.2) 0 rfl rfl z_d38_1 4 rfl ?_
  exact z_ireturn C (Or.inl rfl) rfl z_d38_4 (by decide) (by decide) ⟨rfl, rfl⟩
set_option maxHeartbeats 32000000 in
theorem z_c19_87 (hw : z_T Z a0) (S : z_St Z a_DEF a_ONE a_NONE) (z0 : n0 ≤ h.size) (old : Old Z n0 h) (y0 : Int32) (y1 : Int32) (y2 : Int32) (y3 : Int32) (y4 : Int32) (y5 : Int32) (p0 : Nat) (p1 : Nat) (p2 : Nat) (p3 : Nat) (p4 : Nat) (p5 : Nat) (p6 : Nat) (p7 : Nat) (p8 : Nat) (p9 : Nat) (p10 : Nat) (p11 : Nat) (p12 : Nat) (o_p1 : z_Ob Z h p1 "com/example/variegate/variegate/service/Cnf" z_lay0 [(.ref p2), (.ref p3), (.ref p4), (.ref p5), (.ref p6), (.long (2 : Int64))]) (o_p4 : z_Ob Z h p4 "java/util/ArrayList" z_lay1 [(.int 3), (.ref p7), (.int 3)]) (o_p0 : z_Ob Z h p0 "com/example/variegate/variegate/service/Propagation" z_lay3 [(.int 0), .null, .null, .null, .null, .null, .null, .null, .null, .null, .null, (.int 0), (.int 0)]) (o_p7 : z_Ar Z h p7 (.object "java/lang/Object") "[Ljava/lang/Object;" "java/lang/Object" [(.ref a_ONE), (.ref a_ONE), (.ref a_ONE), .null, .null, .null, .null, .null, .null, .null]) (o_p5 : z_Ob Z h p5 "java/util/ArrayList" z_lay1 [(.int 3), (.ref p8), (.int 3)]) (o_p8 : z_Ar Z h p8 (.object "java/lang/Object") "[Ljava/lang/Object;" "java/lang/Object" [(.ref a_ONE), (.ref a_ONE), (.ref a_ONE), .null, .null, .null, .null, .null, .null, .null]) (o_p2 : z_Ob Z h p2 "java/util/ArrayList" z_lay1 [(.int 2), (.ref p9), (.int 2)]) (o_p9 : z_Ar Z h p9 (.object "java/lang/Object") "[Ljava/lang/Object;" "java/lang/Object" [(.ref p10), (.ref p11), .null, .null, .null, .null, .null, .null, .null, .null]) (o_p10 : z_Ar Z h p10 .int "[I" "" [(.int y0), (.int y1), (.int y2)]) (o_p3 : z_Ob Z h p3 "java/util/BitSet" z_lay2 [(.int 0), (.int 0), (.ref p12)]) (o_p11 : z_Ar Z h p11 .int "[I" "" [(.int y3), (.int y4), (.int y5)]) (ne_p0_p1 : p0 ≠ p1) (ne_p0_p4 : p0 ≠ p4) (ne_p0_p7 : p0 ≠ p7) (ne_p0_p5 : p0 ≠ p5) (ne_p0_p8 : p0 ≠ p8) (ne_p0_p2 : p0 ≠ p2) (ne_p0_p9 : p0 ≠ p9) (ne_p0_p10 : p0 ≠ p10) (ne_p0_p3 : p0 ≠ p3) (ne_p0_p11 : p0 ≠ p11) (g_p0 : n0 ≤ p0) (rq0 : ((z_ix y0) >>> ((1 : Int32) &&& 31)) = (1 : Int32)) (rq1 : ((z_ix y1) >>> ((1 : Int32) &&& 31)) = (2 : Int32)) (rq2 : ((z_ix y2) >>> ((1 : Int32) &&& 31)) = (3 : Int32)) (rq3 : ((z_ix y3) >>> ((1 : Int32) &&& 31)) = (1 : Int32)) (rq4 : ((z_ix y4) >>> ((1 : Int32) &&& 31)) = (2 : Int32)) (rq5 : ((z_ix y5) >>> ((1 : Int32) &&& 31)) = (3 : Int32)) (rq6 : ¬ (z_ix y0) < 0) (rq7 : ((([(.int 0), (.int 0), (.int 0), (.int 0), (.int 0), (.int 0), (.int 0), (.int 0)] : List Value)))[((z_ix y0)).toNatClampNeg]? = some (.int 0)) (rq8 : ((([(.ref a_NONE), (.ref a_NONE), (.ref a_NONE), (.ref a_NONE), (.ref a_NONE), (.ref a_NONE), (.ref a_NONE), (.ref a_NONE)] : List Value)))[((z_ix y0)).toNatClampNeg]? = some (.ref a_NONE)) (rq9 : ((z_ix y0)).toNatClampNeg < ((([(.ref a_NONE), (.ref a_NONE), (.ref a_NONE), (.ref a_NONE), (.ref a_NONE), (.ref a_NONE), (.ref a_NONE), (.ref a_NONE)] : List Value))).length) (rq10 : ((z_ix y0)).toNatClampNeg < ((([(.int 0), (.int 0), (.int 0), (.int 0), (.int 0), (.int 0), (.int 0), (.int 0)] : List Value))).length) (rq11 : ¬ (z_ix y1) < 0) (rq12 : (((List.set ((([(.int 0), (.int 0), (.int 0), (.int 0), (.int 0), (.int 0), (.int 0), (.int 0)] : List Value))) ((z_ix y0)).toNatClampNeg (.int 1))))[((z_ix y1)).toNatClampNeg]? = some (.int 0)) (rq13 : ∀ (b7_0 : Nat), (((List.set ((([(.ref a_NONE), (.ref a_NONE), (.ref a_NONE), (.ref a_NONE), (.ref a_NONE), (.ref a_NONE), (.ref a_NONE), (.ref a_NONE)] : List Value))) ((z_ix y0)).toNatClampNeg (.ref b7_0))))[((z_ix y1)).toNatClampNeg]? = some (.ref a_NONE)) (rq14 : ∀ (b7_0 : Nat), ((z_ix y1)).toNatClampNeg < (((List.set ((([(.ref a_NONE), (.ref a_NONE), (.ref a_NONE), (.ref a_NONE), (.ref a_NONE), (.ref a_NONE), (.ref a_NONE), (.ref a_NONE)] : List Value))) ((z_ix y0)).toNatClampNeg (.ref b7_0)))).length) (rq15 : ((z_ix y1)).toNatClampNeg < (((List.set ((([(.int 0), (.int 0), (.int 0), (.int 0), (.int 0), (.int 0), (.int 0), (.int 0)] : List Value))) ((z_ix y0)).toNatClampNeg (.int 1)))).length) (rq16 : ∀ (b7_0 : Nat) (b8_0 : Nat), (((List.set (((List.set ((([(.int 0), (.int 0), (.int 0), (.int 0), (.int 0), (.int 0), (.int 0), (.int 0)] : List Value))) ((z_ix y0)).toNatClampNeg (.int 1)))) ((z_ix y1)).toNatClampNeg (.int 1)))[((z_ix y3)).toNatClampNeg]? = some (.int 0) ∧ ((List.set (((List.set ((([(.ref a_NONE), (.ref a_NONE), (.ref a_NONE), (.ref a_NONE), (.ref a_NONE), (.ref a_NONE), (.ref a_NONE), (.ref a_NONE)] : List Value))) ((z_ix y0)).toNatClampNeg (.ref b7_0)))) ((z_ix y1)).toNatClampNeg (.ref b8_0)))[((z_ix y3)).toNatClampNeg]? = some (.ref a_NONE)) ∨ (((List.set (((List.set ((([(.int 0), (.int 0), (.int 0), (.int 0), (.int 0), (.int 0), (.int 0), (.int 0)] : List Value))) ((z_ix y0)).toNatClampNeg (.int 1)))) ((z_ix y1)).toNatClampNeg (.int 1)))[((z_ix y3)).toNatClampNeg]? = some (.int 1) ∧ ((List.set (((List.set ((([(.ref a_NONE), (.ref a_NONE), (.ref a_NONE), (.ref a_NONE), (.ref a_NONE), (.ref a_NONE), (.ref a_NONE), (.ref a_NONE)] : List Value))) ((z_ix y0)).toNatClampNeg (.ref b7_0)))) ((z_ix y1)).toNatClampNeg (.ref b8_0)))[((z_ix y3)).toNatClampNeg]? = some (.ref b7_0))) (rq17 : ¬ (z_ix y3) < 0) (rq18 : ∀ (b7_0 : Nat) (b8_0 : Nat), ((z_ix y3)).toNatClampNeg < ((List.set (((List.set ((([(.ref a_NONE), (.ref a_NONE), (.ref a_NONE), (.ref a_NONE), (.ref a_NONE), (.ref a_NONE), (.ref a_NONE), (.ref a_NONE)] : List Value))) ((z_ix y0)).toNatClampNeg (.ref b7_0)))) ((z_ix y1)).toNatClampNeg (.ref b8_0))).length) (rq19 : ((z_ix y3)).toNatClampNeg < ((List.set (((List.set ((([(.int 0), (.int 0), (.int 0), (.int 0), (.int 0), (.int 0), (.int 0), (.int 0)] : List Value))) ((z_ix y0)).toNatClampNeg (.int 1)))) ((z_ix y1)).toNatClampNeg (.int 1))).length) (rq20 : ∀ (b7_0 : Nat) (b8_0 : Nat) (bw17 : Nat) (cw17 : Int32), (((List.set ((List.set (((List.set ((([(.int 0), (.int 0), (.int 0), (.int 0), (.int 0), (.int 0), (.int 0), (.int 0)] : List Value))) ((z_ix y0)).toNatClampNeg (.int 1)))) ((z_ix y1)).toNatClampNeg (.int 1))) ((z_ix y3)).toNatClampNeg (.int cw17)))[((z_ix y4)).toNatClampNeg]? = some (.int 0) ∧ ((List.set ((List.set (((List.set ((([(.ref a_NONE), (.ref a_NONE), (.ref a_NONE), (.ref a_NONE), (.ref a_NONE), (.ref a_NONE), (.ref a_NONE), (.ref a_NONE)] : List Value))) ((z_ix y0)).toNatClampNeg (.ref b7_0)))) ((z_ix y1)).toNatClampNeg (.ref b8_0))) ((z_ix y3)).toNatClampNeg (.ref bw17)))[((z_ix y4)).toNatClampNeg]? = some (.ref a_NONE)) ∨ (((List.set ((List.set (((List.set ((([(.int 0), (.int 0), (.int 0), (.int 0), (.int 0), (.int 0), (.int 0), (.int 0)] : List Value))) ((z_ix y0)).toNatClampNeg (.int 1)))) ((z_ix y1)).toNatClampNeg (.int 1))) ((z_ix y3)).toNatClampNeg (.int cw17)))[((z_ix y4)).toNatClampNeg]? = some (.int 1) ∧ ((List.set ((List.set (((List.set ((([(.ref a_NONE), (.ref a_NONE), (.ref a_NONE), (.ref a_NONE), (.ref a_NONE), (.ref a_NONE), (.ref a_NONE), (.ref a_NONE)] : List Value))) ((z_ix y0)).toNatClampNeg (.ref b7_0)))) ((z_ix y1)).toNatClampNeg (.ref b8_0))) ((z_ix y3)).toNatClampNeg (.ref bw17)))[((z_ix y4)).toNatClampNeg]? = some (.ref b8_0))) (rq21 : ¬ (z_ix y4) < 0) (rq22 : ∀ (b7_0 : Nat) (b8_0 : Nat) (bw17 : Nat), ((z_ix y4)).toNatClampNeg < ((List.set ((List.set (((List.set ((([(.ref a_NONE), (.ref a_NONE), (.ref a_NONE), (.ref a_NONE), (.ref a_NONE), (.ref a_NONE), (.ref a_NONE), (.ref a_NONE)] : List Value))) ((z_ix y0)).toNatClampNeg (.ref b7_0)))) ((z_ix y1)).toNatClampNeg (.ref b8_0))) ((z_ix y3)).toNatClampNeg (.ref bw17))).length) (rq23 : ∀ (cw17 : Int32), ((z_ix y4)).toNatClampNeg < ((List.set ((List.set (((List.set ((([(.int 0), (.int 0), (.int 0), (.int 0), (.int 0), (.int 0), (.int 0), (.int 0)] : List Value))) ((z_ix y0)).toNatClampNeg (.int 1)))) ((z_ix y1)).toNatClampNeg (.int 1))) ((z_ix y3)).toNatClampNeg (.int cw17))).length) :
    z_Met l Z (⟨"com/example/variegate/variegate/service/Propagation", "<init>", "(Lcom/example/variegate/variegate/service/Cnf;)V"⟩ : MethodName) prog_97_method_1_code 15 none [] ({ frames := 5, cells := 27, slots := 126, locals := 70 } : Room) n0 #[(.ref p0), (.ref p1)] h (z_nov fun h' => ∃ b1_0 : Nat, ∃ b1_1 : Nat, ∃ b1_2 : Nat, ∃ b2_1 : Nat, ∃ b3_1 : Nat, ∃ b4_0 : Nat, ∃ b4_1 : Nat, ∃ b4_2 : Nat, ∃ b5_3 : Nat, ∃ b5_4 : Nat, Keep h h' [p0] ∧ h.size ≤ b1_0 ∧ b1_0 < b1_1 ∧ b1_1 < b1_2 ∧ b1_2 < b2_1 ∧ b2_1 < b3_1 ∧ b3_1 < b4_0 ∧ b4_0 < b4_1 ∧ b4_1 < b4_2 ∧ b4_2 < b5_3 ∧ b5_3 < b5_4 ∧ b5_4 < h'.size ∧ z_Ob Z h' p0 "com/example/variegate/variegate/service/Propagation" z_lay3 [(.int 3), (.ref b1_0), (.ref b1_1), (.ref b1_2), (.ref b2_1), (.ref b3_1), (.ref b4_0), (.ref b4_1), (.ref b4_2), (.ref b5_3), (.ref b5_4), (.int 0), (.int 0)] ∧ z_Ar Z h' b1_1 .byte "[B" "" [(.int 0), (.int 0), (.int 0), (.int 0), (.int 0), (.int 0), (.int 0), (.int 0)] ∧ z_Ar Z h' b1_2 .int "[I" "" [(.int 0), (.int 0), (.int 0), (.int 0)] ∧ z_Ar Z h' b4_0 .int "[I" "" [(.int (z_ix y0)), (.int (z_ix y1)), (.int (z_ix y2)), (.int (z_ix y3)), (.int (z_ix y4)), (.int (z_ix y5))] ∧ z_Ar Z h' b4_1 .int "[I" "" [(.int 0), (.int 3), (.int 6)]) := by
  have lt_p1 := o_p1.lt
  have lt_p4 := o_p4.lt
  have lt_p0 := o_p0.lt
  have lt_p7 := o_p7.lt
  have lt_p5 := o_p5.lt
  have lt_p8 := o_p8.lt
  have lt_p2 := o_p2.lt
  have lt_p9 := o_p9.lt
  have lt_p10 := o_p10.lt
  have lt_p3 := o_p3.lt
  have lt_p11 := o_p11.lt
  refine z_met (Ls := #[.val (.ref p0), .val (.ref p1), .unset, .unset, .unset, .unset, .unset, .unset, .unset, .unset, .unset, .unset, .unset, .unset, .unset]) (by first | exact plainFor_of_name (by first | (simp [plainName, overriddenIn]; done) | decide +kernel) | decide +kernel) rfl ?_
  intro p e s m below meth c C
  refine z_k19_50 l hw S z0 old p0 p1 p2 p3 p4 p5 p6 p7 p8 o_p1 o_p4 o_p0 o_p7 o_p5 o_p8 ne_p0_p1 ne_p0_p4 ne_p0_p7 ne_p0_p5 ne_p0_p8 g_p0 C ?_
  intro h1 b1_0 b1_1 b1_2 b1_3 b1_4 K1 l1_0 l1_1 l1_2 l1_3 l1_4 l1_5 o_p0_1 o_b1_0_1 o_b1_1_1 o_b1_2_1 o_b1_3_1 o_b1_4_1
  have s1 : h.size ≤ h1.size := K1.1
  have k1 : Keep h h1 [p0] := (Keep.refl h [p0]).trans K1 (allS (Or.inl (by simp)) all0)
  have zz1 : n0 ≤ h1.size := by omega
  have o_p1_1 := (o_p1.keep K1 (ninS (Ne.symm ne_p0_p1) nin0))
  have o_p2_1 := (o_p2.keep K1 (ninS (Ne.symm ne_p0_p2) nin0))
  have o_p9_1 := (o_p9.keep K1 (ninS (Ne.symm ne_p0_p9) nin0))
  have o_p10_1 := (o_p10.keep K1 (ninS (Ne.symm ne_p0_p10) nin0))
  have o_p3_1 := (o_p3.keep K1 (ninS (Ne.symm ne_p0_p3) nin0))
  have old1 := (old.keep K1 (allS g_p0 all0))
  have n_p1_b1_4 : (p1 : Nat) ≠ b1_4 := by omega
  have n_b1_4_p2 : (b1_4 : Nat) ≠ p2 := by omega
  have n_p0_b1_4 : (p0 : Nat) ≠ b1_4 := by omega
  have n_b1_4_p9 : (b1_4 : Nat) ≠ p9 := by omega
  have n_p10_b1_4 : (p10 : Nat) ≠ b1_4 := by omega
  have n_b1_4_p3 : (b1_4 : Nat) ≠ p3 := by omega
  have e_b1_4 : n0 ≤ (b1_4 : Nat) := by omega
  refine z_k19_62 l hw S zz1 old1 y0 y1 y2 p0 p1 b1_3 b1_4 p2 p3 p4 p5 p6 p9 b1_0 b1_1 b1_2 p10 p11 p12 o_b1_4_1 o_p1_1 o_p2_1 o_p0_1 o_p9_1 o_p10_1 o_p3_1 n_p1_b1_4 n_b1_4_p2 n_p0_b1_4 ne_p0_p1 ne_p0_p2 n_b1_4_p9 ne_p0_p9 n_p10_b1_4 ne_p0_p10 n_b1_4_p3 ne_p0_p3 e_b1_4 g_p0 rq0 rq1 rq2 C ?_
  intro h2 b2_0 b2_1 b2_2 b2_3 b2_4 b2_5 K2 l2_0 l2_1 l2_2 l2_3 l2_4 l2_5 l2_6 o_b1_4_2 o_p0_2 o_b2_0_2 o_b2_1_2 o_b2_2_2 o_b2_3_2 o_b2_4_2 o_b2_5_2
  have s2 : h1.size ≤ h2.size := K2.1
  have q_b1_4 : h.size ≤ (b1_4 : Nat) := by omega
  have k2 : Keep h h2 [p0] := k1.trans K2 (allS (Or.inr q_b1_4) (allS (Or.inl (by simp)) all0))
  have zz2 : n0 ≤ h2.size := by omega
  have o_p1_2 := (o_p1_1.keep K2 (ninS n_p1_b1_4 (ninS (Ne.symm ne_p0_p1) nin0)))
  have o_p2_2 := (o_p2_1.keep K2 (ninS n_b1_4_p2.symm (ninS (Ne.symm ne_p0_p2) nin0)))
  have o_p9_2 := (o_p9_1.keep K2 (ninS n_b1_4_p9.symm (ninS (Ne.symm ne_p0_p9) nin0)))
  have n_p11_b1_4 : (p11 : Nat) ≠ b1_4 := by omega
  have o_p11_2 := ((o_p11.keep K1 (ninS (Ne.symm ne_p0_p11) nin0)).keep K2 (ninS n_p11_b1_4 (ninS (Ne.symm ne_p0_p11) nin0)))
  have o_p3_2 := (o_p3_1.keep K2 (ninS n_b1_4_p3.symm (ninS (Ne.symm ne_p0_p3) nin0)))
  have old2 := (old1.keep K2 (allS e_b1_4 (allS g_p0 all0)))
  have n_b2_1_b2_0 : (b2_1 : Nat) ≠ b2_0 := by omega
  have n_b2_1_b2_5 : (b2_1 : Nat) ≠ b2_5 := by omega
  have n_b2_5_b2_0 : (b2_5 : Nat) ≠ b2_0 := by omega
  have n_b2_1_b2_3 : (b2_1 : Nat) ≠ b2_3 := by omega
  have n_b2_5_b2_3 : (b2_5 : Nat) ≠ b2_3 := by omega
  have n_b2_0_b2_3 : (b2_0 : Nat) ≠ b2_3 := by omega
  have n_p1_b2_1 : (p1 : Nat) ≠ b2_1 := by omega
  have n_p1_b2_5 : (p1 : Nat) ≠ b2_5 := by omega
  have n_p1_b2_0 : (p1 : Nat) ≠ b2_0 := by omega
  have n_p1_b2_3 : (p1 : Nat) ≠ b2_3 := by omega
  have n_b2_1_p2 : (b2_1 : Nat) ≠ p2 := by omega
  have n_b2_5_p2 : (b2_5 : Nat) ≠ p2 := by omega
  have n_b2_0_p2 : (b2_0 : Nat) ≠ p2 := by omega
  have n_b2_3_p2 : (b2_3 : Nat) ≠ p2 := by omega
  have n_p0_b2_1 : (p0 : Nat) ≠ b2_1 := by omega
  have n_p0_b2_5 : (p0 : Nat) ≠ b2_5 := by omega
  have n_p0_b2_0 : (p0 : Nat) ≠ b2_0 := by omega
  have n_p0_b2_3 : (p0 : Nat) ≠ b2_3 := by omega
  have n_b2_1_b2_2 : (b2_1 : Nat) ≠ b2_2 := by omega
  have n_b2_5_b2_2 : (b2_5 : Nat) ≠ b2_2 := by omega
  have n_b2_0_b2_2 : (b2_0 : Nat) ≠ b2_2 := by omega
  have n_b2_2_b2_3 : (b2_2 : Nat) ≠ b2_3 := by omega
  have n_p0_b2_2 : (p0 : Nat) ≠ b2_2 := by omega
  have e_b2_1 : n0 ≤ (b2_1 : Nat) := by omega
  have e_b2_0 : n0 ≤ (b2_0 : Nat) := by omega
  have e_b2_5 : n0 ≤ (b2_5 : Nat) := by omega
  have e_b2_3 : n0 ≤ (b2_3 : Nat) := by omega
  refine z_k19_70 l hw S zz2 old2 y2 y3 y4 y5 p0 p1 b1_3 b1_4 b2_0 b2_2 b2_3 b2_4 p2 p3 p4 p5 p6 p9 p10 p11 b1_0 b1_1 b1_2 b2_1 b2_5 p12 o_p1_2 o_p2_2 o_p9_2 o_p11_2 o_p0_2 o_b2_0_2 o_p3_2 o_b2_1_2 o_b2_5_2 o_b2_3_2 o_b2_2_2 n_b2_1_b2_0 n_b2_1_b2_5 n_b2_5_b2_0 n_b2_1_b2_3 n_b2_5_b2_3 n_b2_0_b2_3 n_p1_b2_1 n_p1_b2_5 n_p1_b2_0 n_p1_b2_3 n_b2_1_p2 n_b2_5_p2 n_b2_0_p2 n_b2_3_p2 n_p0_b2_1 n_p0_b2_5 n_p0_b2_0 n_p0_b2_3 n_b2_1_b2_2 n_b2_5_b2_2 n_b2_0_b2_2 n_b2_2_b2_3 n_p0_b2_2 e_b2_1 e_b2_0 e_b2_5 e_b2_3 g_p0 rq3 rq4 rq5 C ?_
  intro h3 b3_0 b3_1 K3 l3_0 l3_1 l3_2 o_p0_3 o_b2_0_3 o_b2_1_3 o_b2_5_3 o_b2_3_3 o_b3_0_3 o_b3_1_3
  have s3 : h2.size ≤ h3.size := K3.1
  have q_b2_3 : h.size ≤ (b2_3 : Nat) := by omega
  have q_b2_0 : h.size ≤ (b2_0 : Nat) := by omega
  have q_b2_5 : h.size ≤ (b2_5 : Nat) := by omega
  have q_b2_1 : h.size ≤ (b2_1 : Nat) := by omega
  have k3 : Keep h h3 [p0] := k2.trans K3 (allS (Or.inr q_b2_1) (allS (Or.inr q_b2_5) (allS (Or.inr q_b2_0) (allS (Or.inr q_b2_3) (allS (Or.inl (by simp)) all0)))))
  have zz3 : n0 ≤ h3.size := by omega
  have o_b2_2_3 := (o_b2_2_2.keep K3 (ninS n_b2_1_b2_2.symm (ninS n_b2_5_b2_2.symm (ninS n_b2_0_b2_2.symm (ninS n_b2_2_b2_3 (ninS n_p0_b2_2.symm nin0))))))
  have n_b1_4_b2_3 : (b1_4 : Nat) ≠ b2_3 := by omega
  have n_b1_4_b2_0 : (b1_4 : Nat) ≠ b2_0 := by omega
  have n_b1_4_b2_5 : (b1_4 : Nat) ≠ b2_5 := by omega
  have n_b1_4_b2_1 : (b1_4 : Nat) ≠ b2_1 := by omega
  have o_b1_4_3 := (o_b1_4_2.keep K3 (ninS n_b1_4_b2_1 (ninS n_b1_4_b2_5 (ninS n_b1_4_b2_0 (ninS n_b1_4_b2_3 (ninS n_p0_b1_4.symm nin0))))))
  have old3 := (old2.keep K3 (allS e_b2_1 (allS e_b2_5 (allS e_b2_0 (allS e_b2_3 (allS g_p0 all0))))))
  have n_p0_b3_1 : (p0 : Nat) ≠ b3_1 := by omega
  have n_b3_1_b2_2 : (b3_1 : Nat) ≠ b2_2 := by omega
  have n_b3_1_b1_4 : (b3_1 : Nat) ≠ b1_4 := by omega
  have n_b1_4_b2_2 : (b1_4 : Nat) ≠ b2_2 := by omega
  have n_b3_1_b2_0 : (b3_1 : Nat) ≠ b2_0 := by omega
  have n_b3_1_b2_3 : (b3_1 : Nat) ≠ b2_3 := by omega
  have e_b3_1 : n0 ≤ (b3_1 : Nat) := by omega
  have e_b2_2 : n0 ≤ (b2_2 : Nat) := by omega
  refine z_k19_75 l hw S zz3 old3 y5 p0 p1 b1_3 b1_4 b2_0 b2_2 b2_3 b3_0 b1_0 b1_1 b1_2 b2_1 b3_1 b2_5 o_p0_3 o_b3_1_3 o_b2_2_3 o_b1_4_3 o_b2_0_3 o_b2_3_3 n_p0_b3_1 n_b3_1_b2_2 n_b3_1_b1_4 n_b1_4_b2_2 n_p0_b2_2 n_b3_1_b2_0 n_b2_0_b2_2 n_p0_b2_0 n_b3_1_b2_3 n_b2_2_b2_3 n_p0_b2_3 e_b3_1 e_b2_2 g_p0 C ?_
  intro h4 b4_0 b4_1 b4_2 K4 l4_0 l4_1 l4_2 l4_3 o_p0_4 o_b3_1_4 o_b2_2_4 o_b4_0_4 o_b4_1_4 o_b4_2_4
  have s4 : h3.size ≤ h4.size := K4.1
  have q_b2_2 : h.size ≤ (b2_2 : Nat) := by omega
  have q_b3_1 : h.size ≤ (b3_1 : Nat) := by omega
  have k4 : Keep h h4 [p0] := k3.trans K4 (allS (Or.inr q_b3_1) (allS (Or.inr q_b2_2) (allS (Or.inl (by simp)) all0)))
  have zz4 : n0 ≤ h4.size := by omega
  have o_b2_3_4 := (o_b2_3_3.keep K4 (ninS n_b3_1_b2_3.symm (ninS n_b2_2_b2_3.symm (ninS n_p0_b2_3.symm nin0))))
  have o_b2_0_4 := (o_b2_0_3.keep K4 (ninS n_b3_1_b2_0.symm (ninS n_b2_0_b2_2 (ninS n_p0_b2_0.symm nin0))))
  have n_b2_5_b3_1 : (b2_5 : Nat) ≠ b3_1 := by omega
  have o_b2_5_4 := (o_b2_5_3.keep K4 (ninS n_b2_5_b3_1 (ninS n_b2_5_b2_2 (ninS n_p0_b2_5.symm nin0))))
  have n_b2_4_p0 : (b2_4 : Nat) ≠ p0 := by omega
  have n_b2_4_b2_3 : (b2_4 : Nat) ≠ b2_3 := by omega
  have n_b2_4_b2_0 : (b2_4 : Nat) ≠ b2_0 := by omega
  have n_b2_4_b2_5 : (b2_4 : Nat) ≠ b2_5 := by omega
  have n_b2_4_b2_1 : (b2_4 : Nat) ≠ b2_1 := by omega
  have n_b2_4_b2_2 : (b2_4 : Nat) ≠ b2_2 := by omega
  have n_b2_4_b3_1 : (b2_4 : Nat) ≠ b3_1 := by omega
  have o_b2_4_4 := ((o_b2_4_2.keep K3 (ninS n_b2_4_b2_1 (ninS n_b2_4_b2_5 (ninS n_b2_4_b2_0 (ninS n_b2_4_b2_3 (ninS n_b2_4_p0 nin0)))))).keep K4 (ninS n_b2_4_b3_1 (ninS n_b2_4_b2_2 (ninS n_b2_4_p0 nin0))))
  have old4 := (old3.keep K4 (allS e_b3_1 (allS e_b2_2 (allS g_p0 all0))))
  have n_p0_b4_2 : (p0 : Nat) ≠ b4_2 := by omega
  have n_b4_2_b2_3 : (b4_2 : Nat) ≠ b2_3 := by omega
  have n_b4_2_b2_0 : (b4_2 : Nat) ≠ b2_0 := by omega
  have n_b4_2_b2_5 : (b4_2 : Nat) ≠ b2_5 := by omega
  have n_b4_2_b2_4 : (b4_2 : Nat) ≠ b2_4 := by omega
  have n_b4_1_b4_2 : (b4_1 : Nat) ≠ b4_2 := by omega
  have n_b4_1_b2_3 : (b4_1 : Nat) ≠ b2_3 := by omega
  have n_p0_b4_1 : (p0 : Nat) ≠ b4_1 := by omega
  have n_b4_1_b2_4 : (b4_1 : Nat) ≠ b2_4 := by omega
  have n_b4_0_b4_2 : (b4_0 : Nat) ≠ b4_2 := by omega
  have n_b4_0_b2_3 : (b4_0 : Nat) ≠ b2_3 := by omega
  have n_p0_b4_0 : (p0 : Nat) ≠ b4_0 := by omega
  have n_b4_0_b4_1 : (b4_0 : Nat) ≠ b4_1 := by omega
  have n_b4_0_b2_4 : (b4_0 : Nat) ≠ b2_4 := by omega
  have e_b4_2 : n0 ≤ (b4_2 : Nat) := by omega
  have e_b4_1 : n0 ≤ (b4_1 : Nat) := by omega
  have e_b4_0 : n0 ≤ (b4_0 : Nat) := by omega
  refine z_k19_78 l hw S zz4 old4 y0 y1 y2 y5 p0 p1 b1_3 b1_4 b2_0 b2_2 b2_3 b3_0 b1_0 b1_1 b1_2 b2_1 b3_1 b4_0 b4_1 b4_2 b2_5 b2_4 o_p0_4 o_b2_3_4 o_b4_2_4 o_b2_0_4 o_b2_5_4 o_b2_4_4 o_b4_1_4 o_b4_0_4 n_p0_b4_2 n_b4_2_b2_3 n_p0_b2_3 n_b4_2_b2_0 n_b2_0_b2_3 n_p0_b2_0 n_b4_2_b2_5 n_b2_5_b2_3 n_p0_b2_5 n_b4_2_b2_4 n_b2_4_b2_3 n_b2_4_p0.symm n_b4_1_b4_2 n_b4_1_b2_3 n_p0_b4_1 n_b4_1_b2_4 n_b4_0_b4_2 n_b4_0_b2_3 n_p0_b4_0 n_b4_0_b4_1 n_b4_0_b2_4 e_b4_2 e_b2_3 g_p0 e_b4_1 e_b4_0 rq0 C ?_
  intro h5 b5_0 b5_1 b5_2 b5_3 b5_4 K5 l5_0 l5_1 l5_2 l5_3 l5_4 l5_5 o_p0_5 o_b2_3_5 o_b4_2_5 o_b4_1_5 o_b4_0_5 o_b5_0_5 o_b5_1_5 o_b5_2_5 o_b5_3_5 o_b5_4_5
  have s5 : h4.size ≤ h5.size := K5.1
  have q_b4_0 : h.size ≤ (b4_0 : Nat) := by omega
  have q_b4_1 : h.size ≤ (b4_1 : Nat) := by omega
  have q_b4_2 : h.size ≤ (b4_2 : Nat) := by omega
  have k5 : Keep h h5 [p0] := k4.trans K5 (allS (Or.inr q_b4_2) (allS (Or.inr q_b2_3) (allS (Or.inl (by simp)) (allS (Or.inr q_b4_1) (allS (Or.inr q_b4_0) all0)))))
  have zz5 : n0 ≤ h5.size := by omega
  have o_b2_4_5 := (o_b2_4_4.keep K5 (ninS n_b4_2_b2_4.symm (ninS n_b2_4_b2_3 (ninS n_b2_4_p0 (ninS n_b4_1_b2_4.symm (ninS n_b4_0_b2_4.symm nin0))))))
  have old5 := (old4.keep K5 (allS e_b4_2 (allS e_b2_3 (allS g_p0 (allS e_b4_1 (allS e_b4_0 all0))))))
  have n_b2_3_b5_0 : (b2_3 : Nat) ≠ b5_0 := by omega
  have n_b2_4_b5_0 : (b2_4 : Nat) ≠ b5_0 := by omega
  have n_p0_b5_0 : (p0 : Nat) ≠ b5_0 := by omega
  have n_b4_2_b5_0 : (b4_2 : Nat) ≠ b5_0 := by omega
  have n_b5_1_b2_3 : (b5_1 : Nat) ≠ b2_3 := by omega
  have n_b5_1_b5_0 : (b5_1 : Nat) ≠ b5_0 := by omega
  have n_b5_1_b2_4 : (b5_1 : Nat) ≠ b2_4 := by omega
  have n_p0_b5_1 : (p0 : Nat) ≠ b5_1 := by omega
  have n_b4_2_b5_1 : (b4_2 : Nat) ≠ b5_1 := by omega
  have n_b5_2_b2_3 : (b5_2 : Nat) ≠ b2_3 := by omega
  have n_b5_2_b5_0 : (b5_2 : Nat) ≠ b5_0 := by omega
  have n_b5_1_b5_2 : (b5_1 : Nat) ≠ b5_2 := by omega
  have n_b5_2_b2_4 : (b5_2 : Nat) ≠ b2_4 := by omega
  have e_b5_0 : n0 ≤ (b5_0 : Nat) := by omega
  have e_b5_1 : n0 ≤ (b5_1 : Nat) := by omega
  have e_b5_2 : n0 ≤ (b5_2 : Nat) := by omega
  refine z_k19_79 l hw S zz5 old5 y0 y1 y2 p0 p1 b1_3 b1_4 b2_0 b2_2 b2_3 b2_4 b5_0 b1_0 b1_1 b1_2 b2_1 b3_1 b4_0 b4_1 b4_2 b5_3 b5_4 b5_1 b5_2 o_b2_3_5 o_b5_0_5 o_b2_4_5 o_p0_5 o_b4_2_5 o_b5_1_5 o_b5_2_5 n_b2_3_b5_0 n_b2_4_b2_3.symm n_b2_4_b5_0 n_p0_b2_3 n_p0_b5_0 n_b4_2_b2_3 n_b4_2_b5_0 n_b5_1_b2_3 n_b5_1_b5_0 n_b5_1_b2_4 n_p0_b5_1 n_b4_2_b5_1 n_b5_2_b2_3 n_b5_2_b5_0 n_b5_1_b5_2 n_b5_2_b2_4 e_b2_3 e_b5_0 e_b5_1 e_b5_2 rq1 rq2 C ?_
  intro h6 K6 o_b2_3_6 o_b5_0_6 o_b5_1_6 o_b5_2_6
  have s6 : h5.size ≤ h6.size := K6.1
  have q_b5_2 : h.size ≤ (b5_2 : Nat) := by omega
  have q_b5_1 : h.size ≤ (b5_1 : Nat) := by omega
  have q_b5_0 : h.size ≤ (b5_0 : Nat) := by omega
  have k6 : Keep h h6 [p0] := k5.trans K6 (allS (Or.inr q_b2_3) (allS (Or.inr q_b5_0) (allS (Or.inr q_b5_1) (allS (Or.inr q_b5_2) all0))))
  refine z_iload C z_d19_784 rfl 786 rfl ?_
  have zz6 : n0 ≤ h6.size := by omega
  have n_p0_b5_2 : (p0 : Nat) ≠ b5_2 := by omega
  have o_p0_6 := (o_p0_5.keep K6 (ninS n_p0_b2_3 (ninS n_p0_b5_0 (ninS n_p0_b5_1 (ninS n_p0_b5_2 nin0)))))
  have n_b5_4_b5_2 : (b5_4 : Nat) ≠ b5_2 := by omega
  have n_b5_4_b5_1 : (b5_4 : Nat) ≠ b5_1 := by omega
  have n_b5_4_b5_0 : (b5_4 : Nat) ≠ b5_0 := by omega
  have n_b5_4_b2_3 : (b5_4 : Nat) ≠ b2_3 := by omega
  have o_b5_4_6 := (o_b5_4_5.keep K6 (ninS n_b5_4_b2_3 (ninS n_b5_4_b5_0 (ninS n_b5_4_b5_1 (ninS n_b5_4_b5_2 nin0)))))
  have n_b5_3_b5_2 : (b5_3 : Nat) ≠ b5_2 := by omega
  have n_b5_3_b5_1 : (b5_3 : Nat) ≠ b5_1 := by omega
  have n_b5_3_b5_0 : (b5_3 : Nat) ≠ b5_0 := by omega
  have n_b5_3_b2_3 : (b5_3 : Nat) ≠ b2_3 := by omega
  have o_b5_3_6 := (o_b5_3_5.keep K6 (ninS n_b5_3_b2_3 (ninS n_b5_3_b5_0 (ninS n_b5_3_b5_1 (ninS n_b5_3_b5_2 nin0)))))
  have old6 := (old5.keep K6 (allS e_b2_3 (allS e_b5_0 (allS e_b5_1 (allS e_b5_2 all0)))))
  have n_p0_b5_3 : (p0 : Nat) ≠ b5_3 := by omega
  have n_b5_4_b5_3 : (b5_4 : Nat) ≠ b5_3 := by omega
  have e_b5_3 : n0 ≤ (b5_3 : Nat) := by omega
  have e_b5_4 : n0 ≤ (b5_4 : Nat) := by omega
  refine z_callPV C o_p0_6.1 (z_c36_83 l hw S zz6 old6 (z_ix y0) (([(.int 0), (.int 0), (.int 0), (.int 0), (.int 0), (.int 0), (.int 0), (.int 0)] : List Value)) (([(.ref a_NONE), (.ref a_NONE), (.ref a_NONE), (.ref a_NONE), (.ref a_NONE), (.ref a_NONE), (.ref a_NONE), (.ref a_NONE)] : List Value)) p0 b1_0 b1_1 b1_2 b2_1 b3_1 b4_0 b4_1 b4_2 b5_3 b5_4 o_p0_6 o_b5_4_6 o_b5_3_6 n_p0_b5_3 n_b5_4_b5_3 e_b5_3 e_b5_4 rq6 rq7 rq8 rq9 rq10) (z_w hw 278 rfl) (z_w hw 279 rfl) (z_selp (by decide) (z_w hw 137 rfl) (z_w hw 280 rfl) (z_w hw 279 rfl)) (z_w hw 280 rfl) (z_w hw 138 rfl) (z_w hw 281 rfl) (by decide) z_d19_786 rfl (argsL := [(.int (z_ix y0)), (.int 0)]) (rest := []) rfl (lenOf z_pd23 rfl) (W := 0) (Nat.le_of_eq rfl) (by decide) (by decide) (by decide) (by decide) 789 rfl ?_
  rintro h7 ⟨b7_0, K7, l7_0, l7_1, o_b5_4_7, o_b5_3_7, o_b7_0_7⟩
  have s7 : h6.size ≤ h7.size := K7.1
  have q_b5_4 : h.size ≤ (b5_4 : Nat) := by omega
  have q_b5_3 : h.size ≤ (b5_3 : Nat) := by omega
  have k7 : Keep h h7 [p0] := k6.trans K7 (allS (Or.inr q_b5_3) (allS (Or.inr q_b5_4) all0))
  refine z_aloadN C z_d19_789 rfl rfl 790 rfl ?_
  refine z_aload C z_d19_790 rfl rfl 792 rfl ?_
  refine z_iconst C (v := (1 : Int32)) z_d19_792 (by decide) 793 rfl ?_
  have n_b2_4_b5_4 : (b2_4 : Nat) ≠ b5_4 := by omega
  have n_b2_4_b5_3 : (b2_4 : Nat) ≠ b5_3 := by omega
  have o_b2_4_7 := ((o_b2_4_5.keep K6 (ninS n_b2_4_b2_3 (ninS n_b2_4_b5_0 (ninS n_b5_1_b2_4.symm (ninS n_b5_2_b2_4.symm nin0))))).keep K7 (ninS n_b2_4_b5_3 (ninS n_b2_4_b5_4 nin0)))
  refine z_iaload C o_b2_4_7 (by decide) (v := (.int (z_ix y1))) (by rfl) z_d19_793 794 rfl ?_
  refine z_iload C z_d19_794 rfl 796 rfl ?_
  have zz7 : n0 ≤ h7.size := by omega
  have n_p0_b5_4 : (p0 : Nat) ≠ b5_4 := by omega
  have o_p0_7 := (o_p0_6.keep K7 (ninS n_p0_b5_3 (ninS n_p0_b5_4 nin0)))
  have old7 := (old6.keep K7 (allS e_b5_3 (allS e_b5_4 all0)))
  refine z_callPV C o_p0_7.1 (z_c36_83 l hw S zz7 old7 (z_ix y1) ((List.set ((([(.int 0), (.int 0), (.int 0), (.int 0), (.int 0), (.int 0), (.int 0), (.int 0)] : List Value))) ((z_ix y0)).toNatClampNeg (.int 1))) ((List.set ((([(.ref a_NONE), (.ref a_NONE), (.ref a_NONE), (.ref a_NONE), (.ref a_NONE), (.ref a_NONE), (.ref a_NONE), (.ref a_NONE)] : List Value))) ((z_ix y0)).toNatClampNeg (.ref b7_0))) p0 b1_0 b1_1 b1_2 b2_1 b3_1 b4_0 b4_1 b4_2 b5_3 b5_4 o_p0_7 o_b5_4_7 o_b5_3_7 n_p0_b5_3 n_b5_4_b5_3 e_b5_3 e_b5_4 rq11 rq12 (rq13 b7_0) (rq14 b7_0) rq15) (z_w hw 278 rfl) (z_w hw 279 rfl) (z_selp (by decide) (z_w hw 137 rfl) (z_w hw 280 rfl) (z_w hw 279 rfl)) (z_w hw 280 rfl) (z_w hw 138 rfl) (z_w hw 281 rfl) (by decide) z_d19_796 rfl (argsL := [(.int (z_ix y1)), (.int 0)]) (rest := []) rfl (lenOf z_pd23 rfl) (W := 0) (Nat.le_of_eq rfl) (by decide) (by decide) (by decide) (by decide) 799 rfl ?_
  rintro h8 ⟨b8_0, K8, l8_0, l8_1, o_b5_4_8, o_b5_3_8, o_b8_0_8⟩
  have s8 : h7.size ≤ h8.size := K8.1
  have k8 : Keep h h8 [p0] := k7.trans K8 (allS (Or.inr q_b5_3) (allS (Or.inr q_b5_4) all0))
  refine z_iinc C (w := (1 : Int32)) (Ls' := #[.val (.ref p0), .val (.ref p1), .val (.ref b1_3), .val (.ref b1_4), .val (.ref b2_0), .val (.ref b2_2), .val (.ref b2_3), .val (.int 6), .val (.int 3), .val (.int 1), .val (.ref b2_4), .val (.ref b2_4), .val (.int 3), .val (.int 3), .val (.int (z_ix y2))]) z_d19_799 rfl (by decide) rfl 802 rfl ?_
  refine z_goto C z_d19_802 (by decide) 665 (by decide) ?_
  refine z_iload C z_d19_665 rfl 667 rfl ?_
  refine z_aload C z_d19_667 rfl rfl 669 rfl ?_
  have zz8 : n0 ≤ h8.size := by omega
  have n_b2_0_b4_0 : (b2_0 : Nat) ≠ b4_0 := by omega
  have n_b2_0_b4_1 : (b2_0 : Nat) ≠ b4_1 := by omega
  have n_b2_0_b5_2 : (b2_0 : Nat) ≠ b5_2 := by omega
  have n_b2_0_b5_1 : (b2_0 : Nat) ≠ b5_1 := by omega
  have n_b2_0_b5_0 : (b2_0 : Nat) ≠ b5_0 := by omega
  have n_b2_0_b5_4 : (b2_0 : Nat) ≠ b5_4 := by omega
  have n_b2_0_b5_3 : (b2_0 : Nat) ≠ b5_3 := by omega
  have o_b2_0_8 := ((((o_b2_0_4.keep K5 (ninS n_b4_2_b2_0.symm (ninS n_b2_0_b2_3 (ninS n_p0_b2_0.symm (ninS n_b2_0_b4_1 (ninS n_b2_0_b4_0 nin0)))))).keep K6 (ninS n_b2_0_b2_3 (ninS n_b2_0_b5_0 (ninS n_b2_0_b5_1 (ninS n_b2_0_b5_2 nin0))))).keep K7 (ninS n_b2_0_b5_3 (ninS n_b2_0_b5_4 nin0))).keep K8 (ninS n_b2_0_b5_3 (ninS n_b2_0_b5_4 nin0)))
  have old8 := (old7.keep K8 (allS e_b5_3 (allS e_b5_4 all0)))
  refine z_callFp C o_b2_0_8.1 (z_c15_16 l hw S zz8 old8 b2_0 b2_5 o_b2_0_8) (z_w hw 194 rfl) (z_w hw 108 rfl) (z_w hw 109 rfl) (z_w hw 110 rfl) (z_w hw 111 rfl) (z_w hw 112 rfl) (z_w hw 113 rfl) (z_w hw 79 rfl) (z_w hw 11 rfl) (z_w hw 114 rfl) (by decide) z_d19_669 rfl (argsL := []) (rest := [(.int 1)]) rfl (lenOf z_pd8 rfl) (W := 1) (Nat.le_of_eq rfl) (by decide) (by decide) (by decide) (by decide) (by decide) (by decide) 674 rfl ?_
  refine z_icmpN C z_d19_674 (by decide) 677 rfl ?_
  refine z_aload C z_d19_677 rfl rfl 679 rfl ?_
  refine z_iload C z_d19_679 rfl 681 rfl ?_
  have n_b2_5_b4_0 : (b2_5 : Nat) ≠ b4_0 := by omega
  have n_b2_5_b4_1 : (b2_5 : Nat) ≠ b4_1 := by omega
  have n_b2_5_b5_2 : (b2_5 : Nat) ≠ b5_2 := by omega
  have n_b2_5_b5_1 : (b2_5 : Nat) ≠ b5_1 := by omega
  have n_b2_5_b5_0 : (b2_5 : Nat) ≠ b5_0 := by omega
  have n_b2_5_b5_4 : (b2_5 : Nat) ≠ b5_4 := by omega
  have n_b2_5_b5_3 : (b2_5 : Nat) ≠ b5_3 := by omega
  have o_b2_5_8 := ((((o_b2_5_4.keep K5 (ninS n_b4_2_b2_5.symm (ninS n_b2_5_b2_3 (ninS n_p0_b2_5.symm (ninS n_b2_5_b4_1 (ninS n_b2_5_b4_0 nin0)))))).keep K6 (ninS n_b2_5_b2_3 (ninS n_b2_5_b5_0 (ninS n_b2_5_b5_1 (ninS n_b2_5_b5_2 nin0))))).keep K7 (ninS n_b2_5_b5_3 (ninS n_b2_5_b5_4 nin0))).keep K8 (ninS n_b2_5_b5_3 (ninS n_b2_5_b5_4 nin0)))
  refine z_callFp C o_b2_0_8.1 (z_c22_66 l hw S zz8 old8 b2_0 b2_5 b2_4 b3_0 o_b2_0_8 o_b2_5_8) (z_w hw 198 rfl) (z_w hw 160 rfl) (z_w hw 161 rfl) (z_w hw 162 rfl) (z_w hw 163 rfl) (z_w hw 164 rfl) (z_w hw 165 rfl) (z_w hw 79 rfl) (z_w hw 11 rfl) (z_w hw 166 rfl) (by decide) z_d19_681 rfl (argsL := [(.int 1)]) (rest := []) rfl (lenOf z_pd12 rfl) (W := 0) (Nat.le_of_eq rfl) (by decide) (by decide) (by decide) (by decide) (by decide) (by decide) 686 rfl ?_
  have n_b3_0_p0 : (b3_0 : Nat) ≠ p0 := by omega
  have n_b3_0_b2_2 : (b3_0 : Nat) ≠ b2_2 := by omega
  have n_b3_0_b3_1 : (b3_0 : Nat) ≠ b3_1 := by omega
  have n_b3_0_b4_0 : (b3_0 : Nat) ≠ b4_0 := by omega
  have n_b3_0_b4_1 : (b3_0 : Nat) ≠ b4_1 := by omega
  have n_b3_0_b2_3 : (b3_0 : Nat) ≠ b2_3 := by omega
  have n_b3_0_b4_2 : (b3_0 : Nat) ≠ b4_2 := by omega
  have n_b3_0_b5_2 : (b3_0 : Nat) ≠ b5_2 := by omega
  have n_b3_0_b5_1 : (b3_0 : Nat) ≠ b5_1 := by omega
  have n_b3_0_b5_0 : (b3_0 : Nat) ≠ b5_0 := by omega
  have n_b3_0_b5_4 : (b3_0 : Nat) ≠ b5_4 := by omega
  have n_b3_0_b5_3 : (b3_0 : Nat) ≠ b5_3 := by omega
  have o_b3_0_8 := (((((o_b3_0_3.keep K4 (ninS n_b3_0_b3_1 (ninS n_b3_0_b2_2 (ninS n_b3_0_p0 nin0)))).keep K5 (ninS n_b3_0_b4_2 (ninS n_b3_0_b2_3 (ninS n_b3_0_p0 (ninS n_b3_0_b4_1 (ninS n_b3_0_b4_0 nin0)))))).keep K6 (ninS n_b3_0_b2_3 (ninS n_b3_0_b5_0 (ninS n_b3_0_b5_1 (ninS n_b3_0_b5_2 nin0))))).keep K7 (ninS n_b3_0_b5_3 (ninS n_b3_0_b5_4 nin0))).keep K8 (ninS n_b3_0_b5_3 (ninS n_b3_0_b5_4 nin0)))
  refine z_castY C (z_w hw 199 rfl) (Ins.self o_b3_0_8.exa) z_d19_686 689 rfl ?_
  refine z_astore C (Ls' := #[.val (.ref p0), .val (.ref p1), .val (.ref b1_3), .val (.ref b1_4), .val (.ref b2_0), .val (.ref b2_2), .val (.ref b2_3), .val (.int 6), .val (.int 3), .val (.int 1), .val (.ref b3_0), .val (.ref b2_4), .val (.int 3), .val (.int 3), .val (.int (z_ix y2))]) z_d19_689 rfl rfl 691 rfl ?_
  refine z_aloadN C z_d19_691 rfl rfl 692 rfl ?_
  have o_p0_8 := (o_p0_7.keep K8 (ninS n_p0_b5_3 (ninS n_p0_b5_4 nin0)))
  refine z_getO C (z_w hw 266 rfl) Via.refl o_p0_8 7 rfl rfl z_d19_692 695 rfl ?_
  refine z_iload C z_d19_695 rfl 697 rfl ?_
  refine z_iload C z_d19_697 rfl 699 rfl ?_
  have n_b4_1_b5_2 : (b4_1 : Nat) ≠ b5_2 := by omega
  have n_b4_1_b5_1 : (b4_1 : Nat) ≠ b5_1 := by omega
  have n_b4_1_b5_0 : (b4_1 : Nat) ≠ b5_0 := by omega
  have n_b4_1_b5_4 : (b4_1 : Nat) ≠ b5_4 := by omega
  have n_b4_1_b5_3 : (b4_1 : Nat) ≠ b5_3 := by omega
  have o_b4_1_8 := (((o_b4_1_5.keep K6 (ninS n_b4_1_b2_3 (ninS n_b4_1_b5_0 (ninS n_b4_1_b5_1 (ninS n_b4_1_b5_2 nin0))))).keep K7 (ninS n_b4_1_b5_3 (ninS n_b4_1_b5_4 nin0))).keep K8 (ninS n_b4_1_b5_3 (ninS n_b4_1_b5_4 nin0)))
  refine z_iastore C (z := (3 : Int32)) o_b4_1_8 (by decide) (of_decide_eq_true rfl) rfl (vs' := [(.int 0), (.int 3), (.int 0)]) (by rfl) e_b4_1 z_d19_699 700 rfl ?_
  intro h9 W9 o_b4_1_9
  have s9 : h9.size = h8.size := W9.size
  have k9 : Keep h h9 [p0] := k8.wr W9 (Or.inr q_b4_1)
  refine z_aload C z_d19_700 rfl rfl 702 rfl ?_
  refine z_iconst C (v := (0 : Int32)) z_d19_702 (by decide) 703 rfl ?_
  refine z_aloadN C z_d19_703 rfl rfl 704 rfl ?_
  have o_p0_9 := (o_p0_8.other W9 n_p0_b4_1)
  refine z_getO C (z_w hw 264 rfl) Via.refl o_p0_9 6 rfl rfl z_d19_704 707 rfl ?_
  refine z_iload C z_d19_707 rfl 709 rfl ?_
  refine z_aload C z_d19_709 rfl rfl 711 rfl ?_
  have o_b3_0_9 := (o_b3_0_8.other W9 n_b3_0_b4_1)
  refine z_arraylength C (z := (3 : Int32)) o_b3_0_9 (by rfl) z_d19_711 712 rfl ?_
  have n_b4_0_b5_2 : (b4_0 : Nat) ≠ b5_2 := by omega
  have n_b4_0_b5_1 : (b4_0 : Nat) ≠ b5_1 := by omega
  have n_b4_0_b5_0 : (b4_0 : Nat) ≠ b5_0 := by omega
  have n_b4_0_b5_4 : (b4_0 : Nat) ≠ b5_4 := by omega
  have n_b4_0_b5_3 : (b4_0 : Nat) ≠ b5_3 := by omega
  have o_b4_0_9 := ((((o_b4_0_5.keep K6 (ninS n_b4_0_b2_3 (ninS n_b4_0_b5_0 (ninS n_b4_0_b5_1 (ninS n_b4_0_b5_2 nin0))))).keep K7 (ninS n_b4_0_b5_3 (ninS n_b4_0_b5_4 nin0))).keep K8 (ninS n_b4_0_b5_3 (ninS n_b4_0_b5_4 nin0))).other W9 n_b4_0_b4_1)
  refine z_arraycopy C (z_w hw 277 rfl) (z_w hw 132 rfl) (z_w hw 130 rfl) (z_w hw 131 rfl) o_b3_0_9 o_b4_0_9 rfl (z_allS rfl (z_allS rfl (z_allS rfl z_nil))) (z_allS rfl (z_allS rfl (z_allS rfl (z_allS rfl (z_allS rfl (z_allS rfl z_nil)))))) (by decide) (by decide) (by decide) (of_decide_eq_true rfl) (of_decide_eq_true rfl) (vs' := [(.int (z_ix y0)), (.int (z_ix y1)), (.int (z_ix y2)), (.int (z_ix y3)), (.int (z_ix y4)), (.int (z_ix y5))]) rfl rfl e_b4_0 z_d19_712 rfl (W := 0) (Nat.le_of_eq rfl) (by decide) (by decide) 715 rfl ?_
  intro h10 K10 o_b4_0_10
  have s10 : h9.size ≤ h10.size := K10.1
  have k10 : Keep h h10 [p0] := k9.trans K10 (allS (Or.inr q_b4_0) all0)
  refine z_iload C z_d19_715 rfl 717 rfl ?_
  refine z_aload C z_d19_717 rfl rfl 719 rfl ?_
  have o_b3_0_10 := (o_b3_0_9.keep K10 (ninS n_b3_0_b4_0 nin0))
  refine z_arraylength C (z := (3 : Int32)) o_b3_0_10 (by rfl) z_d19_719 720 rfl ?_
  refine z_iadd C (z := (6 : Int32)) z_d19_720 (by decide) 721 rfl ?_
  refine z_istore C (Ls' := #[.val (.ref p0), .val (.ref p1), .val (.ref b1_3), .val (.ref b1_4), .val (.ref b2_0), .val (.ref b2_2), .val (.ref b2_3), .val (.int 6), .val (.int 6), .val (.int 1), .val (.ref b3_0), .val (.ref b2_4), .val (.int 3), .val (.int 3), .val (.int (z_ix y2))]) z_d19_721 rfl 723 rfl ?_
  refine z_aload C z_d19_723 rfl rfl 725 rfl ?_
  refine z_astore C (Ls' := #[.val (.ref p0), .val (.ref p1), .val (.ref b1_3), .val (.ref b1_4), .val (.ref b2_0), .val (.ref b2_2), .val (.ref b2_3), .val (.int 6), .val (.int 6), .val (.int 1), .val (.ref b3_0), .val (.ref b3_0), .val (.int 3), .val (.int 3), .val (.int (z_ix y2))]) z_d19_725 rfl rfl 727 rfl ?_
  refine z_aload C z_d19_727 rfl rfl 729 rfl ?_
  refine z_arraylength C (z := (3 : Int32)) o_b3_0_10 (by rfl) z_d19_729 730 rfl ?_
  refine z_istore C (Ls' := #[.val (.ref p0), .val (.ref p1), .val (.ref b1_3), .val (.ref b1_4), .val (.ref b2_0), .val (.ref b2_2), .val (.ref b2_3), .val (.int 6), .val (.int 6), .val (.int 1), .val (.ref b3_0), .val (.ref b3_0), .val (.int 3), .val (.int 3), .val (.int (z_ix y2))]) z_d19_730 rfl 732 rfl ?_
  refine z_iconst C (v := (0 : Int32)) z_d19_732 (by decide) 733 rfl ?_
  refine z_istore C (Ls' := #[.val (.ref p0), .val (.ref p1), .val (.ref b1_3), .val (.ref b1_4), .val (.ref b2_0), .val (.ref b2_2), .val (.ref b2_3), .val (.int 6), .val (.int 6), .val (.int 1), .val (.ref b3_0), .val (.ref b3_0), .val (.int 3), .val (.int 0), .val (.int (z_ix y2))]) z_d19_733 rfl 735 rfl ?_
  refine z_iload C z_d19_735 rfl 737 rfl ?_
  refine z_iload C z_d19_737 rfl 739 rfl ?_
  refine z_icmpN C z_d19_739 (by decide) 742 rfl ?_
  refine z_aload C z_d19_742 rfl rfl 744 rfl ?_
  refine z_iload C z_d19_744 rfl 746 rfl ?_
  refine z_iaload C o_b3_0_10 (by decide) (v := (.int (z_ix y3))) (by rfl) z_d19_746 747 rfl ?_
  refine z_istore C (Ls' := #[.val (.ref p0), .val (.ref p1), .val (.ref b1_3), .val (.ref b1_4), .val (.ref b2_0), .val (.ref b2_2), .val (.ref b2_3), .val (.int 6), .val (.int 6), .val (.int 1), .val (.ref b3_0), .val (.ref b3_0), .val (.int 3), .val (.int 0), .val (.int (z_ix y3))]) z_d19_747 rfl 749 rfl ?_
  refine z_aloadN C z_d19_749 rfl rfl 750 rfl ?_
  have o_p0_10 := (o_p0_9.keep K10 (ninS n_p0_b4_0 nin0))
  refine z_getO C (z_w hw 268 rfl) Via.refl o_p0_10 8 rfl rfl z_d19_750 753 rfl ?_
  refine z_iload C z_d19_753 rfl 755 rfl ?_
  refine z_iconst C (v := (1 : Int32)) z_d19_755 (by decide) 756 rfl ?_
  refine z_ishr C (z := (1 : Int32)) z_d19_756 rq3 757 rfl ?_
  have n_b4_2_b5_2 : (b4_2 : Nat) ≠ b5_2 := by omega
  have n_b4_2_b5_4 : (b4_2 : Nat) ≠ b5_4 := by omega
  have n_b4_2_b5_3 : (b4_2 : Nat) ≠ b5_3 := by omega
  have o_b4_2_10 := (((((o_b4_2_5.keep K6 (ninS n_b4_2_b2_3 (ninS n_b4_2_b5_0 (ninS n_b4_2_b5_1 (ninS n_b4_2_b5_2 nin0))))).keep K7 (ninS n_b4_2_b5_3 (ninS n_b4_2_b5_4 nin0))).keep K8 (ninS n_b4_2_b5_3 (ninS n_b4_2_b5_4 nin0))).other W9 n_b4_1_b4_2.symm).keep K10 (ninS n_b4_0_b4_2.symm nin0))
  refine z_aaload C o_b4_2_10 rfl (by decide) (v := (.ref b5_0)) (by rfl) z_d19_757 758 rfl ?_
  refine z_aload C z_d19_758 rfl rfl 760 rfl ?_
  refine z_iload C z_d19_760 rfl 762 rfl ?_
  refine z_iconst C (v := (1 : Int32)) z_d19_762 (by decide) 763 rfl ?_
  refine z_ishr C (z := (1 : Int32)) z_d19_763 rq3 764 rfl ?_
  refine z_dup2 C z_d19_764 rfl rfl 765 rfl ?_
  have o_b2_3_10 := ((((o_b2_3_6.keep K7 (ninS n_b5_3_b2_3.symm (ninS n_b5_4_b2_3.symm nin0))).keep K8 (ninS n_b5_3_b2_3.symm (ninS n_b5_4_b2_3.symm nin0))).other W9 n_b4_1_b2_3.symm).keep K10 (ninS n_b4_0_b2_3.symm nin0))
  refine z_iaload C o_b2_3_10 (by decide) (v := (.int 1)) (by rfl) z_d19_765 766 rfl ?_
  refine z_dup_x2 C z_d19_766 rfl rfl rfl 767 rfl ?_
  refine z_iconst C (v := (1 : Int32)) z_d19_767 (by decide) 768 rfl ?_
  refine z_iadd C (z := (2 : Int32)) z_d19_768 (by decide) 769 rfl ?_
  refine z_iastore C (z := (2 : Int32)) o_b2_3_10 (by decide) (of_decide_eq_true rfl) rfl (vs' := [(.int 0), (.int 2), (.int 1), (.int 1)]) (by rfl) e_b2_3 z_d19_769 770 rfl ?_
  intro h11 W11 o_b2_3_11
  have s11 : h11.size = h10.size := W11.size
  have k11 : Keep h h11 [p0] := k10.wr W11 (Or.inr q_b2_3)
  refine z_iload C z_d19_770 rfl 772 rfl ?_
  have o_b5_0_11 := (((((o_b5_0_6.keep K7 (ninS n_b5_3_b5_0.symm (ninS n_b5_4_b5_0.symm nin0))).keep K8 (ninS n_b5_3_b5_0.symm (ninS n_b5_4_b5_0.symm nin0))).other W9 n_b4_1_b5_0.symm).keep K10 (ninS n_b4_0_b5_0.symm nin0)).other W11 n_b2_3_b5_0.symm)
  refine z_iastore C (z := (1 : Int32)) o_b5_0_11 (by decide) (of_decide_eq_true rfl) rfl (vs' := [(.int 0), (.int 1)]) (by rfl) e_b5_0 z_d19_772 773 rfl ?_
  intro h12 W12 o_b5_0_12
  have s12 : h12.size = h11.size := W12.size
  have k12 : Keep h h12 [p0] := k11.wr W12 (Or.inr q_b5_0)
  refine z_iinc C (w := (1 : Int32)) (Ls' := #[.val (.ref p0), .val (.ref p1), .val (.ref b1_3), .val (.ref b1_4), .val (.ref b2_0), .val (.ref b2_2), .val (.ref b2_3), .val (.int 6), .val (.int 6), .val (.int 1), .val (.ref b3_0), .val (.ref b3_0), .val (.int 3), .val (.int 1), .val (.int (z_ix y3))]) z_d19_773 rfl (by decide) rfl 776 rfl ?_
  refine z_goto C z_d19_776 (by decide) 735 (by decide) ?_
  refine z_iload C z_d19_735 rfl 737 rfl ?_
  refine z_iload C z_d19_737 rfl 739 rfl ?_
  refine z_icmpN C z_d19_739 (by decide) 742 rfl ?_
  refine z_aload C z_d19_742 rfl rfl 744 rfl ?_
  refine z_iload C z_d19_744 rfl 746 rfl ?_
  have o_b3_0_12 := ((o_b3_0_10.other W11 n_b3_0_b2_3).other W12 n_b3_0_b5_0)
  refine z_iaload C o_b3_0_12 (by decide) (v := (.int (z_ix y4))) (by rfl) z_d19_746 747 rfl ?_
  refine z_istore C (Ls' := #[.val (.ref p0), .val (.ref p1), .val (.ref b1_3), .val (.ref b1_4), .val (.ref b2_0), .val (.ref b2_2), .val (.ref b2_3), .val (.int 6), .val (.int 6), .val (.int 1), .val (.ref b3_0), .val (.ref b3_0), .val (.int 3), .val (.int 1), .val (.int (z_ix y4))]) z_d19_747 rfl 749 rfl ?_
  refine z_aloadN C z_d19_749 rfl rfl 750 rfl ?_
  have o_p0_12 := ((o_p0_10.other W11 n_p0_b2_3).other W12 n_p0_b5_0)
  refine z_getO C (z_w hw 268 rfl) Via.refl o_p0_12 8 rfl rfl z_d19_750 753 rfl ?_
  refine z_iload C z_d19_753 rfl 755 rfl ?_
  refine z_iconst C (v := (1 : Int32)) z_d19_755 (by decide) 756 rfl ?_
  refine z_ishr C (z := (2 : Int32)) z_d19_756 rq4 757 rfl ?_
  have o_b4_2_12 := ((o_b4_2_10.other W11 n_b4_2_b2_3).other W12 n_b4_2_b5_0)
  refine z_aaload C o_b4_2_12 rfl (by decide) (v := (.ref b5_1)) (by rfl) z_d19_757 758 rfl ?_
  refine z_aload C z_d19_758 rfl rfl 760 rfl ?_
  refine z_iload C z_d19_760 rfl 762 rfl ?_
  refine z_iconst C (v := (1 : Int32)) z_d19_762 (by decide) 763 rfl ?_
  refine z_ishr C (z := (2 : Int32)) z_d19_763 rq4 764 rfl ?_
  refine z_dup2 C z_d19_764 rfl rfl 765 rfl ?_
  have o_b2_3_12 := (o_b2_3_11.other W12 n_b2_3_b5_0)
  refine z_iaload C o_b2_3_12 (by decide) (v := (.int 1)) (by rfl) z_d19_765 766 rfl ?_
  refine z_dup_x2 C z_d19_766 rfl rfl rfl 767 rfl ?_
  refine z_iconst C (v := (1 : Int32)) z_d19_767 (by decide) 768 rfl ?_
  refine z_iadd C (z := (2 : Int32)) z_d19_768 (by decide) 769 rfl ?_
  refine z_iastore C (z := (2 : Int32)) o_b2_3_12 (by decide) (of_decide_eq_true rfl) rfl (vs' := [(.int 0), (.int 2), (.int 2), (.int 1)]) (by rfl) e_b2_3 z_d19_769 770 rfl ?_
  intro h13 W13 o_b2_3_13
  have s13 : h13.size = h12.size := W13.size
  have k13 : Keep h h13 [p0] := k12.wr W13 (Or.inr q_b2_3)
  refine z_iload C z_d19_770 rfl 772 rfl ?_
  have o_b5_1_13 := (((((((o_b5_1_6.keep K7 (ninS n_b5_3_b5_1.symm (ninS n_b5_4_b5_1.symm nin0))).keep K8 (ninS n_b5_3_b5_1.symm (ninS n_b5_4_b5_1.symm nin0))).other W9 n_b4_1_b5_1.symm).keep K10 (ninS n_b4_0_b5_1.symm nin0)).other W11 n_b5_1_b2_3).other W12 n_b5_1_b5_0).other W13 n_b5_1_b2_3)
  refine z_iastore C (z := (1 : Int32)) o_b5_1_13 (by decide) (of_decide_eq_true rfl) rfl (vs' := [(.int 0), (.int 1)]) (by rfl) e_b5_1 z_d19_772 773 rfl ?_
  intro h14 W14 o_b5_1_14
  have s14 : h14.size = h13.size := W14.size
  have k14 : Keep h h14 [p0] := k13.wr W14 (Or.inr q_b5_1)
  refine z_iinc C (w := (2 : Int32)) (Ls' := #[.val (.ref p0), .val (.ref p1), .val (.ref b1_3), .val (.ref b1_4), .val (.ref b2_0), .val (.ref b2_2), .val (.ref b2_3), .val (.int 6), .val (.int 6), .val (.int 1), .val (.ref b3_0), .val (.ref b3_0), .val (.int 3), .val (.int 2), .val (.int (z_ix y4))]) z_d19_773 rfl (by decide) rfl 776 rfl ?_
  refine z_goto C z_d19_776 (by decide) 735 (by decide) ?_
  refine z_iload C z_d19_735 rfl 737 rfl ?_
  refine z_iload C z_d19_737 rfl 739 rfl ?_
  refine z_icmpN C z_d19_739 (by decide) 742 rfl ?_
  refine z_aload C z_d19_742 rfl rfl 744 rfl ?_
  refine z_iload C z_d19_744 rfl 746 rfl ?_
  have o_b3_0_14 := ((o_b3_0_12.other W13 n_b3_0_b2_3).other W14 n_b3_0_b5_1)
  refine z_iaload C o_b3_0_14 (by decide) (v := (.int (z_ix y5))) (by rfl) z_d19_746 747 rfl ?_
  refine z_istore C (Ls' := #[.val (.ref p0), .val (.ref p1), .val (.ref b1_3), .val (.ref b1_4), .val (.ref b2_0), .val (.ref b2_2), .val (.ref b2_3), .val (.int 6), .val (.int 6), .val (.int 1), .val (.ref b3_0), .val (.ref b3_0), .val (.int 3), .val (.int 2), .val (.int (z_ix y5))]) z_d19_747 rfl 749 rfl ?_
  refine z_aloadN C z_d19_749 rfl rfl 750 rfl ?_
  have o_p0_14 := ((o_p0_12.other W13 n_p0_b2_3).other W14 n_p0_b5_1)
  refine z_getO C (z_w hw 268 rfl) Via.refl o_p0_14 8 rfl rfl z_d19_750 753 rfl ?_
  refine z_iload C z_d19_753 rfl 755 rfl ?_
  refine z_iconst C (v := (1 : Int32)) z_d19_755 (by decide) 756 rfl ?_
  refine z_ishr C (z := (3 : Int32)) z_d19_756 rq5 757 rfl ?_
  have o_b4_2_14 := ((o_b4_2_12.other W13 n_b4_2_b2_3).other W14 n_b4_2_b5_1)
  refine z_aaload C o_b4_2_14 rfl (by decide) (v := (.ref b5_2)) (by rfl) z_d19_757 758 rfl ?_
  refine z_aload C z_d19_758 rfl rfl 760 rfl ?_
  refine z_iload C z_d19_760 rfl 762 rfl ?_
  refine z_iconst C (v := (1 : Int32)) z_d19_762 (by decide) 763 rfl ?_
  refine z_ishr C (z := (3 : Int32)) z_d19_763 rq5 764 rfl ?_
  refine z_dup2 C z_d19_764 rfl rfl 765 rfl ?_
  have o_b2_3_14 := (o_b2_3_13.other W14 n_b5_1_b2_3.symm)
  refine z_iaload C o_b2_3_14 (by decide) (v := (.int 1)) (by rfl) z_d19_765 766 rfl ?_
  refine z_dup_x2 C z_d19_766 rfl rfl rfl 767 rfl ?_
  refine z_iconst C (v := (1 : Int32)) z_d19_767 (by decide) 768 rfl ?_
  refine z_iadd C (z := (2 : Int32)) z_d19_768 (by decide) 769 rfl ?_
  refine z_iastore C (z := (2 : Int32)) o_b2_3_14 (by decide) (of_decide_eq_true rfl) rfl (vs' := [(.int 0), (.int 2), (.int 2), (.int 2)]) (by rfl) e_b2_3 z_d19_769 770 rfl ?_
  intro h15 W15 o_b2_3_15
  have s15 : h15.size = h14.size := W15.size
  have k15 : Keep h h15 [p0] := k14.wr W15 (Or.inr q_b2_3)
  refine z_iload C z_d19_770 rfl 772 rfl ?_
  have o_b5_2_15 := (((((((((o_b5_2_6.keep K7 (ninS n_b5_3_b5_2.symm (ninS n_b5_4_b5_2.symm nin0))).keep K8 (ninS n_b5_3_b5_2.symm (ninS n_b5_4_b5_2.symm nin0))).other W9 n_b4_1_b5_2.symm).keep K10 (ninS n_b4_0_b5_2.symm nin0)).other W11 n_b5_2_b2_3).other W12 n_b5_2_b5_0).other W13 n_b5_2_b2_3).other W14 n_b5_1_b5_2.symm).other W15 n_b5_2_b2_3)
  refine z_iastore C (z := (1 : Int32)) o_b5_2_15 (by decide) (of_decide_eq_true rfl) rfl (vs' := [(.int 0), (.int 1)]) (by rfl) e_b5_2 z_d19_772 773 rfl ?_
  intro h16 W16 o_b5_2_16
  have s16 : h16.size = h15.size := W16.size
  have k16 : Keep h h16 [p0] := k15.wr W16 (Or.inr q_b5_2)
  refine z_iinc C (w := (3 : Int32)) (Ls' := #[.val (.ref p0), .val (.ref p1), .val (.ref b1_3), .val (.ref b1_4), .val (.ref b2_0), .val (.ref b2_2), .val (.ref b2_3), .val (.int 6), .val (.int 6), .val (.int 1), .val (.ref b3_0), .val (.ref b3_0), .val (.int 3), .val (.int 3), .val (.int (z_ix y5))]) z_d19_773 rfl (by decide) rfl 776 rfl ?_
  refine z_goto C z_d19_776 (by decide) 735 (by decide) ?_
  refine z_iload C z_d19_735 rfl 737 rfl ?_
  refine z_iload C z_d19_737 rfl 739 rfl ?_
  refine z_icmpY C z_d19_739 (by decide) (by decide) 779 (by decide) ?_
  refine z_aloadN C z_d19_779 rfl rfl 780 rfl ?_
  refine z_aload C z_d19_780 rfl rfl 782 rfl ?_
  refine z_iconst C (v := (0 : Int32)) z_d19_782 (by decide) 783 rfl ?_
  have o_b3_0_16 := ((o_b3_0_14.other W15 n_b3_0_b2_3).other W16 n_b3_0_b5_2)
  refine z_iaload C o_b3_0_16 (by decide) (v := (.int (z_ix y3))) (by rfl) z_d19_783 784 rfl ?_
  refine z_iload C z_d19_784 rfl 786 rfl ?_
  have o_p0_16 := ((o_p0_14.other W15 n_p0_b2_3).other W16 n_p0_b5_2)
  have o_b5_4_16 := ((((((((o_b5_4_8.other W9 n_b4_1_b5_4.symm).keep K10 (ninS n_b4_0_b5_4.symm nin0)).other W11 n_b5_4_b2_3).other W12 n_b5_4_b5_0).other W13 n_b5_4_b2_3).other W14 n_b5_4_b5_1).other W15 n_b5_4_b2_3).other W16 n_b5_4_b5_2)
  have o_b5_3_16 := ((((((((o_b5_3_8.other W9 n_b4_1_b5_3.symm).keep K10 (ninS n_b4_0_b5_3.symm nin0)).other W11 n_b5_3_b2_3).other W12 n_b5_3_b5_0).other W13 n_b5_3_b2_3).other W14 n_b5_3_b5_1).other W15 n_b5_3_b2_3).other W16 n_b5_3_b5_2)
  have n_b7_0_b5_4 : (b7_0 : Nat) ≠ b5_4 := by omega
  have n_b7_0_b5_3 : (b7_0 : Nat) ≠ b5_3 := by omega
  have n_b7_0_b4_1 : (b7_0 : Nat) ≠ b4_1 := by omega
  have n_b7_0_b4_0 : (b7_0 : Nat) ≠ b4_0 := by omega
  have n_b7_0_b2_3 : (b7_0 : Nat) ≠ b2_3 := by omega
  have n_b7_0_b5_0 : (b7_0 : Nat) ≠ b5_0 := by omega
  have n_b7_0_b5_1 : (b7_0 : Nat) ≠ b5_1 := by omega
  have n_b7_0_b5_2 : (b7_0 : Nat) ≠ b5_2 := by omega
  have o_b7_0_16 := (((((((((o_b7_0_7.keep K8 (ninS n_b7_0_b5_3 (ninS n_b7_0_b5_4 nin0))).other W9 n_b7_0_b4_1).keep K10 (ninS n_b7_0_b4_0 nin0)).other W11 n_b7_0_b2_3).other W12 n_b7_0_b5_0).other W13 n_b7_0_b2_3).other W14 n_b7_0_b5_1).other W15 n_b7_0_b2_3).other W16 n_b7_0_b5_2)
  have old16 := ((((((((old8.wr W9 e_b4_1).keep K10 (allS e_b4_0 all0)).wr W11 e_b2_3).wr W12 e_b5_0).wr W13 e_b2_3).wr W14 e_b5_1).wr W15 e_b2_3).wr W16 e_b5_2)
  have e_b7_0 : n0 ≤ (b7_0 : Nat) := by omega
  refine z_callPV C o_p0_16.1 (z_watch l hw S (by omega) old16 (z_ix y3) ((List.set (((List.set ((([(.int 0), (.int 0), (.int 0), (.int 0), (.int 0), (.int 0), (.int 0), (.int 0)] : List Value))) ((z_ix y0)).toNatClampNeg (.int 1)))) ((z_ix y1)).toNatClampNeg (.int 1))) ((List.set (((List.set ((([(.ref a_NONE), (.ref a_NONE), (.ref a_NONE), (.ref a_NONE), (.ref a_NONE), (.ref a_NONE), (.ref a_NONE), (.ref a_NONE)] : List Value))) ((z_ix y0)).toNatClampNeg (.ref b7_0)))) ((z_ix y1)).toNatClampNeg (.ref b8_0))) p0 b1_0 b1_1 b1_2 b2_1 b3_1 b4_0 b4_1 b4_2 b5_3 b5_4 b7_0 o_p0_16 o_b5_4_16 o_b5_3_16 o_b7_0_16 n_p0_b5_3 n_b5_4_b5_3 n_b7_0_b5_3.symm n_b7_0_b5_4.symm e_b5_3 e_b5_4 e_b7_0 rq17 ((rq18 b7_0 b8_0)) (rq19) (rq16 b7_0 b8_0)) (z_w hw 278 rfl) (z_w hw 279 rfl) (z_selp (by decide) (z_w hw 137 rfl) (z_w hw 280 rfl) (z_w hw 279 rfl)) (z_w hw 280 rfl) (z_w hw 138 rfl) (z_w hw 281 rfl) (by decide) z_d19_786 rfl (argsL := [(.int (z_ix y3)), (.int 1)]) (rest := []) rfl (lenOf z_pd23 rfl) (W := 0) (Nat.le_of_eq rfl) (by decide) (by decide) (by decide) (by decide) 789 rfl ?_
  rintro h17 ⟨bw17, cw17, K17, o_b5_4_17, o_b5_3_17⟩
  have s17 : h16.size ≤ h17.size := K17.1
  have q_b7_0 : h.size ≤ (b7_0 : Nat) := by omega
  have k17 : Keep h h17 [p0] := k16.trans K17 (allS (Or.inr q_b5_3) (allS (Or.inr q_b5_4) (allS (Or.inr q_b7_0) all0)))
  refine z_aloadN C z_d19_789 rfl rfl 790 rfl ?_
  refine z_aload C z_d19_790 rfl rfl 792 rfl ?_
  refine z_iconst C (v := (1 : Int32)) z_d19_792 (by decide) 793 rfl ?_
  have n_b3_0_b7_0 : (b3_0 : Nat) ≠ b7_0 := by omega
  have o_b3_0_17 := (o_b3_0_16.keep K17 (ninS n_b3_0_b5_3 (ninS n_b3_0_b5_4 (ninS n_b3_0_b7_0 nin0))))
  refine z_iaload C o_b3_0_17 (by decide) (v := (.int (z_ix y4))) (by rfl) z_d19_793 794 rfl ?_
  refine z_iload C z_d19_794 rfl 796 rfl ?_
  have n_p0_b7_0 : (p0 : Nat) ≠ b7_0 := by omega
  have o_p0_17 := (o_p0_16.keep K17 (ninS n_p0_b5_3 (ninS n_p0_b5_4 (ninS n_p0_b7_0 nin0))))
  have n_b8_0_b4_1 : (b8_0 : Nat) ≠ b4_1 := by omega
  have n_b8_0_b4_0 : (b8_0 : Nat) ≠ b4_0 := by omega
  have n_b8_0_b2_3 : (b8_0 : Nat) ≠ b2_3 := by omega
  have n_b8_0_b5_0 : (b8_0 : Nat) ≠ b5_0 := by omega
  have n_b8_0_b5_1 : (b8_0 : Nat) ≠ b5_1 := by omega
  have n_b8_0_b5_2 : (b8_0 : Nat) ≠ b5_2 := by omega
  have n_b8_0_b7_0 : (b8_0 : Nat) ≠ b7_0 := by omega
  have n_b8_0_b5_4 : (b8_0 : Nat) ≠ b5_4 := by omega
  have n_b8_0_b5_3 : (b8_0 : Nat) ≠ b5_3 := by omega
  have o_b8_0_17 := (((((((((o_b8_0_8.other W9 n_b8_0_b4_1).keep K10 (ninS n_b8_0_b4_0 nin0)).other W11 n_b8_0_b2_3).other W12 n_b8_0_b5_0).other W13 n_b8_0_b2_3).other W14 n_b8_0_b5_1).other W15 n_b8_0_b2_3).other W16 n_b8_0_b5_2).keep K17 (ninS n_b8_0_b5_3 (ninS n_b8_0_b5_4 (ninS n_b8_0_b7_0 nin0))))
  have old17 := (old16.keep K17 (allS e_b5_3 (allS e_b5_4 (allS e_b7_0 all0))))
  have e_b8_0 : n0 ≤ (b8_0 : Nat) := by omega
  refine z_callPV C o_p0_17.1 (z_watch l hw S (by omega) old17 (z_ix y4) ((List.set ((List.set (((List.set ((([(.int 0), (.int 0), (.int 0), (.int 0), (.int 0), (.int 0), (.int 0), (.int 0)] : List Value))) ((z_ix y0)).toNatClampNeg (.int 1)))) ((z_ix y1)).toNatClampNeg (.int 1))) ((z_ix y3)).toNatClampNeg (.int cw17))) ((List.set ((List.set (((List.set ((([(.ref a_NONE), (.ref a_NONE), (.ref a_NONE), (.ref a_NONE), (.ref a_NONE), (.ref a_NONE), (.ref a_NONE), (.ref a_NONE)] : List Value))) ((z_ix y0)).toNatClampNeg (.ref b7_0)))) ((z_ix y1)).toNatClampNeg (.ref b8_0))) ((z_ix y3)).toNatClampNeg (.ref bw17))) p0 b1_0 b1_1 b1_2 b2_1 b3_1 b4_0 b4_1 b4_2 b5_3 b5_4 b8_0 o_p0_17 o_b5_4_17 o_b5_3_17 o_b8_0_17 n_p0_b5_3 n_b5_4_b5_3 n_b8_0_b5_3.symm n_b8_0_b5_4.symm e_b5_3 e_b5_4 e_b8_0 rq21 ((rq22 b7_0 b8_0 bw17)) ((rq23 cw17)) (rq20 b7_0 b8_0 bw17 cw17)) (z_w hw 278 rfl) (z_w hw 279 rfl) (z_selp (by decide) (z_w hw 137 rfl) (z_w hw 280 rfl) (z_w hw 279 rfl)) (z_w hw 280 rfl) (z_w hw 138 rfl) (z_w hw 281 rfl) (by decide) z_d19_796 rfl (argsL := [(.int (z_ix y4)), (.int 1)]) (rest := []) rfl (lenOf z_pd23 rfl) (W := 0) (Nat.le_of_eq rfl) (by decide) (by decide) (by decide) (by decide) 799 rfl ?_
  rintro h18 ⟨bw18, cw18, K18, o_b5_4_18, o_b5_3_18⟩
  have s18 : h17.size ≤ h18.size := K18.1
  have q_b8_0 : h.size ≤ (b8_0 : Nat) := by omega
  have k18 : Keep h h18 [p0] := k17.trans K18 (allS (Or.inr q_b5_3) (allS (Or.inr q_b5_4) (allS (Or.inr q_b8_0) all0)))
  refine z_iinc C (w := (2 : Int32)) (Ls' := #[.val (.ref p0), .val (.ref p1), .val (.ref b1_3), .val (.ref b1_4), .val (.ref b2_0), .val (.ref b2_2), .val (.ref b2_3), .val (.int 6), .val (.int 6), .val (.int 2), .val (.ref b3_0), .val (.ref b3_0), .val (.int 3), .val (.int 3), .val (.int (z_ix y5))]) z_d19_799 rfl (by decide) rfl 802 rfl ?_
  refine z_goto C z_d19_802 (by decide) 665 (by decide) ?_
  refine z_iload C z_d19_665 rfl 667 rfl ?_
  refine z_aload C z_d19_667 rfl rfl 669 rfl ?_
  have zz18 : n0 ≤ h18.size := by omega
  have n_b2_0_b7_0 : (b2_0 : Nat) ≠ b7_0 := by omega
  have n_b2_0_b8_0 : (b2_0 : Nat) ≠ b8_0 := by omega
  have o_b2_0_18 := ((((((((((o_b2_0_8.other W9 n_b2_0_b4_1).keep K10 (ninS n_b2_0_b4_0 nin0)).other W11 n_b2_0_b2_3).other W12 n_b2_0_b5_0).other W13 n_b2_0_b2_3).other W14 n_b2_0_b5_1).other W15 n_b2_0_b2_3).other W16 n_b2_0_b5_2).keep K17 (ninS n_b2_0_b5_3 (ninS n_b2_0_b5_4 (ninS n_b2_0_b7_0 nin0)))).keep K18 (ninS n_b2_0_b5_3 (ninS n_b2_0_b5_4 (ninS n_b2_0_b8_0 nin0))))
  have old18 := (old17.keep K18 (allS e_b5_3 (allS e_b5_4 (allS e_b8_0 all0))))
  refine z_callFp C o_b2_0_18.1 (z_c15_16 l hw S zz18 old18 b2_0 b2_5 o_b2_0_18) (z_w hw 194 rfl) (z_w hw 108 rfl) (z_w hw 109 rfl) (z_w hw 110 rfl) (z_w hw 111 rfl) (z_w hw 112 rfl) (z_w hw 113 rfl) (z_w hw 79 rfl) (z_w hw 11 rfl) (z_w hw 114 rfl) (by decide) z_d19_669 rfl (argsL := []) (rest := [(.int 2)]) rfl (lenOf z_pd8 rfl) (W := 1) (Nat.le_of_eq rfl) (by decide) (by decide) (by decide) (by decide) (by decide) (by decide) 674 rfl ?_
  refine z_icmpY C z_d19_674 (by decide) (by decide) 805 (by decide) ?_
  refine z_aloadN C z_d19_805 rfl rfl 806 rfl ?_
  have n_p0_b8_0 : (p0 : Nat) ≠ b8_0 := by omega
  have o_p0_18 := (o_p0_17.keep K18 (ninS n_p0_b5_3 (ninS n_p0_b5_4 (ninS n_p0_b8_0 nin0))))
  refine z_getO C (z_w hw 266 rfl) Via.refl o_p0_18 7 rfl rfl z_d19_806 809 rfl ?_
  refine z_aload C z_d19_809 rfl rfl 811 rfl ?_
  refine z_callFp C o_b2_0_18.1 (z_c15_16 l hw S zz18 old18 b2_0 b2_5 o_b2_0_18) (z_w hw 194 rfl) (z_w hw 108 rfl) (z_w hw 109 rfl) (z_w hw 110 rfl) (z_w hw 111 rfl) (z_w hw 112 rfl) (z_w hw 113 rfl) (z_w hw 79 rfl) (z_w hw 11 rfl) (z_w hw 114 rfl) (by decide) z_d19_811 rfl (argsL := []) (rest := [(.ref b4_1)]) rfl (lenOf z_pd8 rfl) (W := 1) (Nat.le_of_eq rfl) (by decide) (by decide) (by decide) (by decide) (by decide) (by decide) 816 rfl ?_
  refine z_iload C z_d19_816 rfl 818 rfl ?_
  have o_b4_1_18 := (((((((((o_b4_1_9.keep K10 (ninS n_b4_0_b4_1.symm nin0)).other W11 n_b4_1_b2_3).other W12 n_b4_1_b5_0).other W13 n_b4_1_b2_3).other W14 n_b4_1_b5_1).other W15 n_b4_1_b2_3).other W16 n_b4_1_b5_2).keep K17 (ninS n_b4_1_b5_3 (ninS n_b4_1_b5_4 (ninS n_b7_0_b4_1.symm nin0)))).keep K18 (ninS n_b4_1_b5_3 (ninS n_b4_1_b5_4 (ninS n_b8_0_b4_1.symm nin0))))
  refine z_iastore C (z := (6 : Int32)) o_b4_1_18 (by decide) (of_decide_eq_true rfl) rfl (vs' := [(.int 0), (.int 3), (.int 6)]) (by rfl) e_b4_1 z_d19_818 819 rfl ?_
  intro h19 W19 o_b4_1_19
  have s19 : h19.size = h18.size := W19.size
  have k19 : Keep h h19 [p0] := k18.wr W19 (Or.inr q_b4_1)
  refine z_aloadN C z_d19_819 rfl rfl 820 rfl ?_
  have zz19 : n0 ≤ h19.size := by omega
  have n_b1_3_p0 : (b1_3 : Nat) ≠ p0 := by omega
  have n_b1_3_b1_4 : (b1_3 : Nat) ≠ b1_4 := by omega
  have n_b1_3_b2_3 : (b1_3 : Nat) ≠ b2_3 := by omega
  have n_b1_3_b2_0 : (b1_3 : Nat) ≠ b2_0 := by omega
  have n_b1_3_b2_5 : (b1_3 : Nat) ≠ b2_5 := by omega
  have n_b1_3_b2_1 : (b1_3 : Nat) ≠ b2_1 := by omega
  have n_b1_3_b2_2 : (b1_3 : Nat) ≠ b2_2 := by omega
  have n_b1_3_b3_1 : (b1_3 : Nat) ≠ b3_1 := by omega
  have n_b1_3_b4_0 : (b1_3 : Nat) ≠ b4_0 := by omega
  have n_b1_3_b4_1 : (b1_3 : Nat) ≠ b4_1 := by omega
  have n_b1_3_b4_2 : (b1_3 : Nat) ≠ b4_2 := by omega
  have n_b1_3_b5_2 : (b1_3 : Nat) ≠ b5_2 := by omega
  have n_b1_3_b5_1 : (b1_3 : Nat) ≠ b5_1 := by omega
  have n_b1_3_b5_0 : (b1_3 : Nat) ≠ b5_0 := by omega
  have n_b1_3_b5_4 : (b1_3 : Nat) ≠ b5_4 := by omega
  have n_b1_3_b5_3 : (b1_3 : Nat) ≠ b5_3 := by omega
  have n_b1_3_b7_0 : (b1_3 : Nat) ≠ b7_0 := by omega
  have n_b1_3_b8_0 : (b1_3 : Nat) ≠ b8_0 := by omega
  have o_b1_3_19 := ((((((((((((((((((o_b1_3_1.keep K2 (ninS n_b1_3_b1_4 (ninS n_b1_3_p0 nin0))).keep K3 (ninS n_b1_3_b2_1 (ninS n_b1_3_b2_5 (ninS n_b1_3_b2_0 (ninS n_b1_3_b2_3 (ninS n_b1_3_p0 nin0)))))).keep K4 (ninS n_b1_3_b3_1 (ninS n_b1_3_b2_2 (ninS n_b1_3_p0 nin0)))).keep K5 (ninS n_b1_3_b4_2 (ninS n_b1_3_b2_3 (ninS n_b1_3_p0 (ninS n_b1_3_b4_1 (ninS n_b1_3_b4_0 nin0)))))).keep K6 (ninS n_b1_3_b2_3 (ninS n_b1_3_b5_0 (ninS n_b1_3_b5_1 (ninS n_b1_3_b5_2 nin0))))).keep K7 (ninS n_b1_3_b5_3 (ninS n_b1_3_b5_4 nin0))).keep K8 (ninS n_b1_3_b5_3 (ninS n_b1_3_b5_4 nin0))).other W9 n_b1_3_b4_1).keep K10 (ninS n_b1_3_b4_0 nin0)).other W11 n_b1_3_b2_3).other W12 n_b1_3_b5_0).other W13 n_b1_3_b2_3).other W14 n_b1_3_b5_1).other W15 n_b1_3_b2_3).other W16 n_b1_3_b5_2).keep K17 (ninS n_b1_3_b5_3 (ninS n_b1_3_b5_4 (ninS n_b1_3_b7_0 nin0)))).keep K18 (ninS n_b1_3_b5_3 (ninS n_b1_3_b5_4 (ninS n_b1_3_b8_0 nin0)))).other W19 n_b1_3_b4_1)
  have old19 := (old18.wr W19 e_b4_1)
  refine z_callF C o_b1_3_19.1 (z_c32_73 l hw S zz19 old19 b1_3 o_b1_3_19) (z_w hw 229 rfl) (z_w hw 230 rfl) (z_w hw 231 rfl) (z_w hw 232 rfl) (z_w hw 233 rfl) (z_w hw 234 rfl) (z_w hw 235 rfl) (z_w hw 79 rfl) (z_w hw 11 rfl) (z_w hw 236 rfl) (by decide) z_d19_820 rfl (argsL := []) (rest := []) rfl (lenOf z_pd19 rfl) (W := 0) (Nat.le_of_eq rfl) (by decide) (by decide) (by decide) (by decide) 825 rfl ?_
  rintro _ h20 ⟨b20_0, rfl, K20, l20_0, l20_1, o_b20_0_20⟩
  have s20 : h19.size ≤ h20.size := K20.1
  have k20 : Keep h h20 [p0] := k19.trans K20 all0
  refine z_astore C (Ls' := #[.val (.ref p0), .val (.ref p1), .val (.ref b1_3), .val (.ref b1_4), .val (.ref b2_0), .val (.ref b2_2), .val (.ref b2_3), .val (.int 6), .val (.int 6), .val (.ref b20_0), .val (.ref b3_0), .val (.ref b3_0), .val (.int 3), .val (.int 3), .val (.int (z_ix y5))]) z_d19_825 rfl rfl 827 rfl ?_
  refine z_aload C z_d19_827 rfl rfl 829 rfl ?_
  have zz20 : n0 ≤ h20.size := by omega
  have o_b1_3_20 := (o_b1_3_19.keep K20 nin0)
  have old20 := (old19.keep K20 all0)
  refine z_callFp C o_b20_0_20.1 (z_c34_74 l hw S zz20 old20 b20_0 b1_3 o_b20_0_20 o_b1_3_20) (z_w hw 252 rfl) (z_w hw 253 rfl) (z_w hw 254 rfl) (z_w hw 255 rfl) (z_w hw 256 rfl) (z_w hw 257 rfl) (z_w hw 258 rfl) (z_w hw 259 rfl) (z_w hw 239 rfl) (z_w hw 260 rfl) (by decide) z_d19_829 rfl (argsL := []) (rest := []) rfl (lenOf z_pd20 rfl) (W := 0) (Nat.le_of_eq rfl) (by decide) (by decide) (by decide) (by decide) (by decide) (by decide) 834 rfl ?_
  refine z_ifY C z_d19_834 (by decide) (by decide) 892 (by decide) ?_
  refine z_iconst C (v := (2 : Int32)) z_d19_892 (by decide) 893 rfl ?_
  refine z_istore C (Ls' := #[.val (.ref p0), .val (.ref p1), .val (.ref b1_3), .val (.ref b1_4), .val (.ref b2_0), .val (.ref b2_2), .val (.ref b2_3), .val (.int 6), .val (.int 6), .val (.int 2), .val (.ref b3_0), .val (.ref b3_0), .val (.int 3), .val (.int 3), .val (.int (z_ix y5))]) z_d19_893 rfl 895 rfl ?_
  refine z_iload C z_d19_895 rfl 897 rfl ?_
  refine z_aloadN C z_d19_897 rfl rfl 898 rfl ?_
  have o_p0_20 := ((o_p0_18.other W19 n_p0_b4_1).keep K20 nin0)
  refine z_getO C (z_w hw 152 rfl) Via.refl o_p0_20 1 rfl rfl z_d19_898 901 rfl ?_
  have n_b1_0_p0 : (b1_0 : Nat) ≠ p0 := by omega
  have n_b1_0_b1_4 : (b1_0 : Nat) ≠ b1_4 := by omega
  have n_b1_0_b2_3 : (b1_0 : Nat) ≠ b2_3 := by omega
  have n_b1_0_b2_0 : (b1_0 : Nat) ≠ b2_0 := by omega
  have n_b1_0_b2_5 : (b1_0 : Nat) ≠ b2_5 := by omega
  have n_b1_0_b2_1 : (b1_0 : Nat) ≠ b2_1 := by omega
  have n_b1_0_b2_2 : (b1_0 : Nat) ≠ b2_2 := by omega
  have n_b1_0_b3_1 : (b1_0 : Nat) ≠ b3_1 := by omega
  have n_b1_0_b4_0 : (b1_0 : Nat) ≠ b4_0 := by omega
  have n_b1_0_b4_1 : (b1_0 : Nat) ≠ b4_1 := by omega
  have n_b1_0_b4_2 : (b1_0 : Nat) ≠ b4_2 := by omega
  have n_b1_0_b5_2 : (b1_0 : Nat) ≠ b5_2 := by omega
  have n_b1_0_b5_1 : (b1_0 : Nat) ≠ b5_1 := by omega
  have n_b1_0_b5_0 : (b1_0 : Nat) ≠ b5_0 := by omega
  have n_b1_0_b5_4 : (b1_0 : Nat) ≠ b5_4 := by omega
  have n_b1_0_b5_3 : (b1_0 : Nat) ≠ b5_3 := by omega
  have n_b1_0_b7_0 : (b1_0 : Nat) ≠ b7_0 := by omega
  have n_b1_0_b8_0 : (b1_0 : Nat) ≠ b8_0 := by omega
  have o_b1_0_20 := (((((((((((((((((((o_b1_0_1.keep K2 (ninS n_b1_0_b1_4 (ninS n_b1_0_p0 nin0))).keep K3 (ninS n_b1_0_b2_1 (ninS n_b1_0_b2_5 (ninS n_b1_0_b2_0 (ninS n_b1_0_b2_3 (ninS n_b1_0_p0 nin0)))))).keep K4 (ninS n_b1_0_b3_1 (ninS n_b1_0_b2_2 (ninS n_b1_0_p0 nin0)))).keep K5 (ninS n_b1_0_b4_2 (ninS n_b1_0_b2_3 (ninS n_b1_0_p0 (ninS n_b1_0_b4_1 (ninS n_b1_0_b4_0 nin0)))))).keep K6 (ninS n_b1_0_b2_3 (ninS n_b1_0_b5_0 (ninS n_b1_0_b5_1 (ninS n_b1_0_b5_2 nin0))))).keep K7 (ninS n_b1_0_b5_3 (ninS n_b1_0_b5_4 nin0))).keep K8 (ninS n_b1_0_b5_3 (ninS n_b1_0_b5_4 nin0))).other W9 n_b1_0_b4_1).keep K10 (ninS n_b1_0_b4_0 nin0)).other W11 n_b1_0_b2_3).other W12 n_b1_0_b5_0).other W13 n_b1_0_b2_3).other W14 n_b1_0_b5_1).other W15 n_b1_0_b2_3).other W16 n_b1_0_b5_2).keep K17 (ninS n_b1_0_b5_3 (ninS n_b1_0_b5_4 (ninS n_b1_0_b7_0 nin0)))).keep K18 (ninS n_b1_0_b5_3 (ninS n_b1_0_b5_4 (ninS n_b1_0_b8_0 nin0)))).other W19 n_b1_0_b4_1).keep K20 nin0)
  refine z_arraylength C (z := (8 : Int32)) o_b1_0_20 (by rfl) z_d19_901 902 rfl ?_
  refine z_icmpN C z_d19_902 (by decide) 905 rfl ?_
  refine z_aloadN C z_d19_905 rfl rfl 906 rfl ?_
  refine z_getO C (z_w hw 152 rfl) Via.refl o_p0_20 1 rfl rfl z_d19_906 909 rfl ?_
  refine z_iload C z_d19_909 rfl 911 rfl ?_
  refine z_aaload C o_b1_0_20 rfl (by decide) (v := (.ref a_ONE)) (by rfl) z_d19_911 912 rfl ?_
  refine z_callVp C (S.2.1.2.ext old20.2).1 (z_c38_86 l hw S zz20 old20) (z_w hw 286 rfl) (z_w hw 287 rfl) (z_w hw 289 rfl) (z_w hw 288 rfl) (z_w hw 71 rfl) (z_w hw 290 rfl) (by decide) z_d19_912 rfl (argsL := []) (rest := []) rfl (lenOf z_pd8 rfl) (W := 0) (Nat.le_of_eq rfl) (by decide) (by decide) (by decide) (by decide) (by decide) (by decide) 915 rfl ?_
  refine z_ifY C z_d19_915 (by decide) (by decide) 939 (by decide) ?_
  refine z_aloadN C z_d19_939 rfl rfl 940 rfl ?_
  refine z_getO C (z_w hw 152 rfl) Via.refl o_p0_20 1 rfl rfl z_d19_940 943 rfl ?_
  refine z_iload C z_d19_943 rfl 945 rfl ?_
  refine z_aaload C o_b1_0_20 rfl (by decide) (v := (.ref a_ONE)) (by rfl) z_d19_945 946 rfl ?_
  refine z_callVp C (S.2.1.2.ext old20.2).1 (z_c38_86 l hw S zz20 old20) (z_w hw 286 rfl) (z_w hw 287 rfl) (z_w hw 289 rfl) (z_w hw 288 rfl) (z_w hw 71 rfl) (z_w hw 290 rfl) (by decide) z_d19_946 rfl (argsL := []) (rest := []) rfl (lenOf z_pd8 rfl) (W := 0) (Nat.le_of_eq rfl) (by decide) (by decide) (by decide) (by decide) (by decide) (by decide) 949 rfl ?_
  refine z_ifY C z_d19_949 (by decide) (by decide) 967 (by decide) ?_
  refine z_iinc C (w := (3 : Int32)) (Ls' := #[.val (.ref p0), .val (.ref p1), .val (.ref b1_3), .val (.ref b1_4), .val (.ref b2_0), .val (.ref b2_2), .val (.ref b2_3), .val (.int 6), .val (.int 6), .val (.int 3), .val (.ref b3_0), .val (.ref b3_0), .val (.int 3), .val (.int 3), .val (.int (z_ix y5))]) z_d19_967 rfl (by decide) rfl 970 rfl ?_
  refine z_goto C z_d19_970 (by decide) 895 (by decide) ?_
  refine z_iload C z_d19_895 rfl 897 rfl ?_
  refine z_aloadN C z_d19_897 rfl rfl 898 rfl ?_
  refine z_getO C (z_w hw 152 rfl) Via.refl o_p0_20 1 rfl rfl z_d19_898 901 rfl ?_
  refine z_arraylength C (z := (8 : Int32)) o_b1_0_20 (by rfl) z_d19_901 902 rfl ?_
  refine z_icmpN C z_d19_902 (by decide) 905 rfl ?_
  refine z_aloadN C z_d19_905 rfl rfl 906 rfl ?_
  refine z_getO C (z_w hw 152 rfl) Via.refl o_p0_20 1 rfl rfl z_d19_906 909 rfl ?_
  refine z_iload C z_d19_909 rfl 911 rfl ?_
  refine z_aaload C o_b1_0_20 rfl (by decide) (v := (.ref a_ONE)) (by rfl) z_d19_911 912 rfl ?_
  refine z_callVp C (S.2.1.2.ext old20.2).1 (z_c38_86 l hw S zz20 old20) (z_w hw 286 rfl) (z_w hw 287 rfl) (z_w hw 289 rfl) (z_w hw 288 rfl) (z_w hw 71 rfl) (z_w hw 290 rfl) (by decide) z_d19_912 rfl (argsL := []) (rest := []) rfl (lenOf z_pd8 rfl) (W := 0) (Nat.le_of_eq rfl) (by decide) (by decide) (by decide) (by decide) (by decide) (by decide) 915 rfl ?_
  refine z_ifY C z_d19_915 (by decide) (by decide) 939 (by decide) ?_
  refine z_aloadN C z_d19_939 rfl rfl 940 rfl ?_
  refine z_getO C (z_w hw 152 rfl) Via.refl o_p0_20 1 rfl rfl z_d19_940 943 rfl ?_
  refine z_iload C z_d19_943 rfl 945 rfl ?_
  refine z_aaload C o_b1_0_20 rfl (by decide) (v := (.ref a_ONE)) (by rfl) z_d19_945 946 rfl ?_
  refine z_callVp C (S.2.1.2.ext old20.2).1 (z_c38_86 l hw S zz20 old20) (z_w hw 286 rfl) (z_w hw 287 rfl) (z_w hw 289 rfl) (z_w hw 288 rfl) (z_w hw 71 rfl) (z_w hw 290 rfl) (by decide) z_d19_946 rfl (argsL := []) (rest := []) rfl (lenOf z_pd8 rfl) (W := 0) (Nat.le_of_eq rfl) (by decide) (by decide) (by decide) (by decide) (by decide) (by decide) 949 rfl ?_
  refine z_ifY C z_d19_949 (by decide) (by decide) 967 (by decide) ?_
  refine z_iinc C (w := (4 : Int32)) (Ls' := #[.val (.ref p0), .val (.ref p1), .val (.ref b1_3), .val (.ref b1_4), .val (.ref b2_0), .val (.ref b2_2), .val (.ref b2_3), .val (.int 6), .val (.int 6), .val (.int 4), .val (.ref b3_0), .val (.ref b3_0), .val (.int 3), .val (.int 3), .val (.int (z_ix y5))]) z_d19_967 rfl (by decide) rfl 970 rfl ?_
  refine z_goto C z_d19_970 (by decide) 895 (by decide) ?_
  refine z_iload C z_d19_895 rfl 897 rfl ?_
  refine z_aloadN C z_d19_897 rfl rfl 898 rfl ?_
  refine z_getO C (z_w hw 152 rfl) Via.refl o_p0_20 1 rfl rfl z_d19_898 901 rfl ?_
  refine z_arraylength C (z := (8 : Int32)) o_b1_0_20 (by rfl) z_d19_901 902 rfl ?_
  refine z_icmpN C z_d19_902 (by decide) 905 rfl ?_
  refine z_aloadN C z_d19_905 rfl rfl 906 rfl ?_
  refine z_getO C (z_w hw 152 rfl) Via.refl o_p0_20 1 rfl rfl z_d19_906 909 rfl ?_
  refine z_iload C z_d19_909 rfl 911 rfl ?_
  refine z_aaload C o_b1_0_20 rfl (by decide) (v := (.ref a_ONE)) (by rfl) z_d19_911 912 rfl ?_
  refine z_callVp C (S.2.1.2.ext old20.2).1 (z_c38_86 l hw S zz20 old20) (z_w hw 286 rfl) (z_w hw 287 rfl) (z_w hw 289 rfl) (z_w hw 288 rfl) (z_w hw 71 rfl) (z_w hw 290 rfl) (by decide) z_d19_912 rfl (argsL := []) (rest := []) rfl (lenOf z_pd8 rfl) (W := 0) (Nat.le_of_eq rfl) (by decide) (by decide) (by decide) (by decide) (by decide) (by decide) 915 rfl ?_
  refine z_ifY C z_d19_915 (by decide) (by decide) 939 (by decide) ?_
  refine z_aloadN C z_d19_939 rfl rfl 940 rfl ?_
  refine z_getO C (z_w hw 152 rfl) Via.refl o_p0_20 1 rfl rfl z_d19_940 943 rfl ?_
  refine z_iload C z_d19_943 rfl 945 rfl ?_
  refine z_aaload C o_b1_0_20 rfl (by decide) (v := (.ref a_ONE)) (by rfl) z_d19_945 946 rfl ?_
  refine z_callVp C (S.2.1.2.ext old20.2).1 (z_c38_86 l hw S zz20 old20) (z_w hw 286 rfl) (z_w hw 287 rfl) (z_w hw 289 rfl) (z_w hw 288 rfl) (z_w hw 71 rfl) (z_w hw 290 rfl) (by decide) z_d19_946 rfl (argsL := []) (rest := []) rfl (lenOf z_pd8 rfl) (W := 0) (Nat.le_of_eq rfl) (by decide) (by decide) (by decide) (by decide) (by decide) (by decide) 949 rfl ?_
  refine z_ifY C z_d19_949 (by decide) (by decide) 967 (by decide) ?_
  refine z_iinc C (w := (5 : Int32)) (Ls' := #[.val (.ref p0), .val (.ref p1), .val (.ref b1_3), .val (.ref b1_4), .val (.ref b2_0), .val (.ref b2_2), .val (.ref b2_3), .val (.int 6), .val (.int 6), .val (.int 5), .val (.ref b3_0), .val (.ref b3_0), .val (.int 3), .val (.int 3), .val (.int (z_ix y5))]) z_d19_967 rfl (by decide) rfl 970 rfl ?_
  refine z_goto C z_d19_970 (by decide) 895 (by decide) ?_
  refine z_iload C z_d19_895 rfl 897 rfl ?_
  refine z_aloadN C z_d19_897 rfl rfl 898 rfl ?_
  refine z_getO C (z_w hw 152 rfl) Via.refl o_p0_20 1 rfl rfl z_d19_898 901 rfl ?_
  refine z_arraylength C (z := (8 : Int32)) o_b1_0_20 (by rfl) z_d19_901 902 rfl ?_
  refine z_icmpN C z_d19_902 (by decide) 905 rfl ?_
  refine z_aloadN C z_d19_905 rfl rfl 906 rfl ?_
  refine z_getO C (z_w hw 152 rfl) Via.refl o_p0_20 1 rfl rfl z_d19_906 909 rfl ?_
  refine z_iload C z_d19_909 rfl 911 rfl ?_
  refine z_aaload C o_b1_0_20 rfl (by decide) (v := (.ref a_ONE)) (by rfl) z_d19_911 912 rfl ?_
  refine z_callVp C (S.2.1.2.ext old20.2).1 (z_c38_86 l hw S zz20 old20) (z_w hw 286 rfl) (z_w hw 287 rfl) (z_w hw 289 rfl) (z_w hw 288 rfl) (z_w hw 71 rfl) (z_w hw 290 rfl) (by decide) z_d19_912 rfl (argsL := []) (rest := []) rfl (lenOf z_pd8 rfl) (W := 0) (Nat.le_of_eq rfl) (by decide) (by decide) (by decide) (by decide) (by decide) (by decide) 915 rfl ?_
  refine z_ifY C z_d19_915 (by decide) (by decide) 939 (by decide) ?_
  refine z_aloadN C z_d19_939 rfl rfl 940 rfl ?_
  refine z_getO C (z_w hw 152 rfl) Via.refl o_p0_20 1 rfl rfl z_d19_940 943 rfl ?_
  refine z_iload C z_d19_943 rfl 945 rfl ?_
  refine z_aaload C o_b1_0_20 rfl (by decide) (v := (.ref a_ONE)) (by rfl) z_d19_945 946 rfl ?_
  refine z_callVp C (S.2.1.2.ext old20.2).1 (z_c38_86 l hw S zz20 old20) (z_w hw 286 rfl) (z_w hw 287 rfl) (z_w hw 289 rfl) (z_w hw 288 rfl) (z_w hw 71 rfl) (z_w hw 290 rfl) (by decide) z_d19_946 rfl (argsL := []) (rest := []) rfl (lenOf z_pd8 rfl) (W := 0) (Nat.le_of_eq rfl) (by decide) (by decide) (by decide) (by decide) (by decide) (by decide) 949 rfl ?_
  refine z_ifY C z_d19_949 (by decide) (by decide) 967 (by decide) ?_
  refine z_iinc C (w := (6 : Int32)) (Ls' := #[.val (.ref p0), .val (.ref p1), .val (.ref b1_3), .val (.ref b1_4), .val (.ref b2_0), .val (.ref b2_2), .val (.ref b2_3), .val (.int 6), .val (.int 6), .val (.int 6), .val (.ref b3_0), .val (.ref b3_0), .val (.int 3), .val (.int 3), .val (.int (z_ix y5))]) z_d19_967 rfl (by decide) rfl 970 rfl ?_
  refine z_goto C z_d19_970 (by decide) 895 (by decide) ?_
  refine z_iload C z_d19_895 rfl 897 rfl ?_
  refine z_aloadN C z_d19_897 rfl rfl 898 rfl ?_
  refine z_getO C (z_w hw 152 rfl) Via.refl o_p0_20 1 rfl rfl z_d19_898 901 rfl ?_
  refine z_arraylength C (z := (8 : Int32)) o_b1_0_20 (by rfl) z_d19_901 902 rfl ?_
  refine z_icmpN C z_d19_902 (by decide) 905 rfl ?_
  refine z_aloadN C z_d19_905 rfl rfl 906 rfl ?_
  refine z_getO C (z_w hw 152 rfl) Via.refl o_p0_20 1 rfl rfl z_d19_906 909 rfl ?_
  refine z_iload C z_d19_909 rfl 911 rfl ?_
  refine z_aaload C o_b1_0_20 rfl (by decide) (v := (.ref a_ONE)) (by rfl) z_d19_911 912 rfl ?_
  refine z_callVp C (S.2.1.2.ext old20.2).1 (z_c38_86 l hw S zz20 old20) (z_w hw 286 rfl) (z_w hw 287 rfl) (z_w hw 289 rfl) (z_w hw 288 rfl) (z_w hw 71 rfl) (z_w hw 290 rfl) (by decide) z_d19_912 rfl (argsL := []) (rest := []) rfl (lenOf z_pd8 rfl) (W := 0) (Nat.le_of_eq rfl) (by decide) (by decide) (by decide) (by decide) (by decide) (by decide) 915 rfl ?_
  refine z_ifY C z_d19_915 (by decide) (by decide) 939 (by decide) ?_
  refine z_aloadN C z_d19_939 rfl rfl 940 rfl ?_
  refine z_getO C (z_w hw 152 rfl) Via.refl o_p0_20 1 rfl rfl z_d19_940 943 rfl ?_
  refine z_iload C z_d19_943 rfl 945 rfl ?_
  refine z_aaload C o_b1_0_20 rfl (by decide) (v := (.ref a_ONE)) (by rfl) z_d19_945 946 rfl ?_
  refine z_callVp C (S.2.1.2.ext old20.2).1 (z_c38_86 l hw S zz20 old20) (z_w hw 286 rfl) (z_w hw 287 rfl) (z_w hw 289 rfl) (z_w hw 288 rfl) (z_w hw 71 rfl) (z_w hw 290 rfl) (by decide) z_d19_946 rfl (argsL := []) (rest := []) rfl (lenOf z_pd8 rfl) (W := 0) (Nat.le_of_eq rfl) (by decide) (by decide) (by decide) (by decide) (by decide) (by decide) 949 rfl ?_
  refine z_ifY C z_d19_949 (by decide) (by decide) 967 (by decide) ?_
  refine z_iinc C (w := (7 : Int32)) (Ls' := #[.val (.ref p0), .val (.ref p1), .val (.ref b1_3), .val (.ref b1_4), .val (.ref b2_0), .val (.ref b2_2), .val (.ref b2_3), .val (.int 6), .val (.int 6), .val (.int 7), .val (.ref b3_0), .val (.ref b3_0), .val (.int 3), .val (.int 3), .val (.int (z_ix y5))]) z_d19_967 rfl (by decide) rfl 970 rfl ?_
  refine z_goto C z_d19_970 (by decide) 895 (by decide) ?_
  refine z_iload C z_d19_895 rfl 897 rfl ?_
  refine z_aloadN C z_d19_897 rfl rfl 898 rfl ?_
  refine z_getO C (z_w hw 152 rfl) Via.refl o_p0_20 1 rfl rfl z_d19_898 901 rfl ?_
  refine z_arraylength C (z := (8 : Int32)) o_b1_0_20 (by rfl) z_d19_901 902 rfl ?_
  refine z_icmpN C z_d19_902 (by decide) 905 rfl ?_
  refine z_aloadN C z_d19_905 rfl rfl 906 rfl ?_
  refine z_getO C (z_w hw 152 rfl) Via.refl o_p0_20 1 rfl rfl z_d19_906 909 rfl ?_
  refine z_iload C z_d19_909 rfl 911 rfl ?_
  refine z_aaload C o_b1_0_20 rfl (by decide) (v := (.ref a_ONE)) (by rfl) z_d19_911 912 rfl ?_
  refine z_callVp C (S.2.1.2.ext old20.2).1 (z_c38_86 l hw S zz20 old20) (z_w hw 286 rfl) (z_w hw 287 rfl) (z_w hw 289 rfl) (z_w hw 288 rfl) (z_w hw 71 rfl) (z_w hw 290 rfl) (by decide) z_d19_912 rfl (argsL := []) (rest := []) rfl (lenOf z_pd8 rfl) (W := 0) (Nat.le_of_eq rfl) (by decide) (by decide) (by decide) (by decide) (by decide) (by decide) 915 rfl ?_
  refine z_ifY C z_d19_915 (by decide) (by decide) 939 (by decide) ?_
  refine z_aloadN C z_d19_939 rfl rfl 940 rfl ?_
  refine z_getO C (z_w hw 152 rfl) Via.refl o_p0_20 1 rfl rfl z_d19_940 943 rfl ?_
  refine z_iload C z_d19_943 rfl 945 rfl ?_
  refine z_aaload C o_b1_0_20 rfl (by decide) (v := (.ref a_ONE)) (by rfl) z_d19_945 946 rfl ?_
  refine z_callVp C (S.2.1.2.ext old20.2).1 (z_c38_86 l hw S zz20 old20) (z_w hw 286 rfl) (z_w hw 287 rfl) (z_w hw 289 rfl) (z_w hw 288 rfl) (z_w hw 71 rfl) (z_w hw 290 rfl) (by decide) z_d19_946 rfl (argsL := []) (rest := []) rfl (lenOf z_pd8 rfl) (W := 0) (Nat.le_of_eq rfl) (by decide) (by decide) (by decide) (by decide) (by decide) (by decide) 949 rfl ?_
  refine z_ifY C z_d19_949 (by decide) (by decide) 967 (by decide) ?_
  refine z_iinc C (w := (8 : Int32)) (Ls' := #[.val (.ref p0), .val (.ref p1), .val (.ref b1_3), .val (.ref b1_4), .val (.ref b2_0), .val (.ref b2_2), .val (.ref b2_3), .val (.int 6), .val (.int 6), .val (.int 8), .val (.ref b3_0), .val (.ref b3_0), .val (.int 3), .val (.int 3), .val (.int (z_ix y5))]) z_d19_967 rfl (by decide) rfl 970 rfl ?_
  refine z_goto C z_d19_970 (by decide) 895 (by decide) ?_
  refine z_iload C z_d19_895 rfl 897 rfl ?_
  refine z_aloadN C z_d19_897 rfl rfl 898 rfl ?_
  refine z_getO C (z_w hw 152 rfl) Via.refl o_p0_20 1 rfl rfl z_d19_898 901 rfl ?_
  refine z_arraylength C (z := (8 : Int32)) o_b1_0_20 (by rfl) z_d19_901 902 rfl ?_
  refine z_icmpY C z_d19_902 (by decide) (by decide) 973 (by decide) ?_
  have n_b1_1_p0 : (b1_1 : Nat) ≠ p0 := by omega
  have n_b1_1_b1_4 : (b1_1 : Nat) ≠ b1_4 := by omega
  have n_b1_1_b2_3 : (b1_1 : Nat) ≠ b2_3 := by omega
  have n_b1_1_b2_0 : (b1_1 : Nat) ≠ b2_0 := by omega
  have n_b1_1_b2_5 : (b1_1 : Nat) ≠ b2_5 := by omega
  have n_b1_1_b2_1 : (b1_1 : Nat) ≠ b2_1 := by omega
  have n_b1_1_b2_2 : (b1_1 : Nat) ≠ b2_2 := by omega
  have n_b1_1_b3_1 : (b1_1 : Nat) ≠ b3_1 := by omega
  have n_b1_1_b4_0 : (b1_1 : Nat) ≠ b4_0 := by omega
  have n_b1_1_b4_1 : (b1_1 : Nat) ≠ b4_1 := by omega
  have n_b1_1_b4_2 : (b1_1 : Nat) ≠ b4_2 := by omega
  have n_b1_1_b5_2 : (b1_1 : Nat) ≠ b5_2 := by omega
  have n_b1_1_b5_1 : (b1_1 : Nat) ≠ b5_1 := by omega
  have n_b1_1_b5_0 : (b1_1 : Nat) ≠ b5_0 := by omega
  have n_b1_1_b5_4 : (b1_1 : Nat) ≠ b5_4 := by omega
  have n_b1_1_b5_3 : (b1_1 : Nat) ≠ b5_3 := by omega
  have n_b1_1_b7_0 : (b1_1 : Nat) ≠ b7_0 := by omega
  have n_b1_1_b8_0 : (b1_1 : Nat) ≠ b8_0 := by omega
  have o_b1_1_20 := (((((((((((((((((((o_b1_1_1.keep K2 (ninS n_b1_1_b1_4 (ninS n_b1_1_p0 nin0))).keep K3 (ninS n_b1_1_b2_1 (ninS n_b1_1_b2_5 (ninS n_b1_1_b2_0 (ninS n_b1_1_b2_3 (ninS n_b1_1_p0 nin0)))))).keep K4 (ninS n_b1_1_b3_1 (ninS n_b1_1_b2_2 (ninS n_b1_1_p0 nin0)))).keep K5 (ninS n_b1_1_b4_2 (ninS n_b1_1_b2_3 (ninS n_b1_1_p0 (ninS n_b1_1_b4_1 (ninS n_b1_1_b4_0 nin0)))))).keep K6 (ninS n_b1_1_b2_3 (ninS n_b1_1_b5_0 (ninS n_b1_1_b5_1 (ninS n_b1_1_b5_2 nin0))))).keep K7 (ninS n_b1_1_b5_3 (ninS n_b1_1_b5_4 nin0))).keep K8 (ninS n_b1_1_b5_3 (ninS n_b1_1_b5_4 nin0))).other W9 n_b1_1_b4_1).keep K10 (ninS n_b1_1_b4_0 nin0)).other W11 n_b1_1_b2_3).other W12 n_b1_1_b5_0).other W13 n_b1_1_b2_3).other W14 n_b1_1_b5_1).other W15 n_b1_1_b2_3).other W16 n_b1_1_b5_2).keep K17 (ninS n_b1_1_b5_3 (ninS n_b1_1_b5_4 (ninS n_b1_1_b7_0 nin0)))).keep K18 (ninS n_b1_1_b5_3 (ninS n_b1_1_b5_4 (ninS n_b1_1_b8_0 nin0)))).other W19 n_b1_1_b4_1).keep K20 nin0)
  have n_b1_2_p0 : (b1_2 : Nat) ≠ p0 := by omega
  have n_b1_2_b1_4 : (b1_2 : Nat) ≠ b1_4 := by omega
  have n_b1_2_b2_3 : (b1_2 : Nat) ≠ b2_3 := by omega
  have n_b1_2_b2_0 : (b1_2 : Nat) ≠ b2_0 := by omega
  have n_b1_2_b2_5 : (b1_2 : Nat) ≠ b2_5 := by omega
  have n_b1_2_b2_1 : (b1_2 : Nat) ≠ b2_1 := by omega
  have n_b1_2_b2_2 : (b1_2 : Nat) ≠ b2_2 := by omega
  have n_b1_2_b3_1 : (b1_2 : Nat) ≠ b3_1 := by omega
  have n_b1_2_b4_0 : (b1_2 : Nat) ≠ b4_0 := by omega
  have n_b1_2_b4_1 : (b1_2 : Nat) ≠ b4_1 := by omega
  have n_b1_2_b4_2 : (b1_2 : Nat) ≠ b4_2 := by omega
  have n_b1_2_b5_2 : (b1_2 : Nat) ≠ b5_2 := by omega
  have n_b1_2_b5_1 : (b1_2 : Nat) ≠ b5_1 := by omega
  have n_b1_2_b5_0 : (b1_2 : Nat) ≠ b5_0 := by omega
  have n_b1_2_b5_4 : (b1_2 : Nat) ≠ b5_4 := by omega
  have n_b1_2_b5_3 : (b1_2 : Nat) ≠ b5_3 := by omega
  have n_b1_2_b7_0 : (b1_2 : Nat) ≠ b7_0 := by omega
  have n_b1_2_b8_0 : (b1_2 : Nat) ≠ b8_0 := by omega
  have o_b1_2_20 := (((((((((((((((((((o_b1_2_1.keep K2 (ninS n_b1_2_b1_4 (ninS n_b1_2_p0 nin0))).keep K3 (ninS n_b1_2_b2_1 (ninS n_b1_2_b2_5 (ninS n_b1_2_b2_0 (ninS n_b1_2_b2_3 (ninS n_b1_2_p0 nin0)))))).keep K4 (ninS n_b1_2_b3_1 (ninS n_b1_2_b2_2 (ninS n_b1_2_p0 nin0)))).keep K5 (ninS n_b1_2_b4_2 (ninS n_b1_2_b2_3 (ninS n_b1_2_p0 (ninS n_b1_2_b4_1 (ninS n_b1_2_b4_0 nin0)))))).keep K6 (ninS n_b1_2_b2_3 (ninS n_b1_2_b5_0 (ninS n_b1_2_b5_1 (ninS n_b1_2_b5_2 nin0))))).keep K7 (ninS n_b1_2_b5_3 (ninS n_b1_2_b5_4 nin0))).keep K8 (ninS n_b1_2_b5_3 (ninS n_b1_2_b5_4 nin0))).other W9 n_b1_2_b4_1).keep K10 (ninS n_b1_2_b4_0 nin0)).other W11 n_b1_2_b2_3).other W12 n_b1_2_b5_0).other W13 n_b1_2_b2_3).other W14 n_b1_2_b5_1).other W15 n_b1_2_b2_3).other W16 n_b1_2_b5_2).keep K17 (ninS n_b1_2_b5_3 (ninS n_b1_2_b5_4 (ninS n_b1_2_b7_0 nin0)))).keep K18 (ninS n_b1_2_b5_3 (ninS n_b1_2_b5_4 (ninS n_b1_2_b8_0 nin0)))).other W19 n_b1_2_b4_1).keep K20 nin0)
  have o_b4_0_20 := ((((((((((o_b4_0_10.other W11 n_b4_0_b2_3).other W12 n_b4_0_b5_0).other W13 n_b4_0_b2_3).other W14 n_b4_0_b5_1).other W15 n_b4_0_b2_3).other W16 n_b4_0_b5_2).keep K17 (ninS n_b4_0_b5_3 (ninS n_b4_0_b5_4 (ninS n_b7_0_b4_0.symm nin0)))).keep K18 (ninS n_b4_0_b5_3 (ninS n_b4_0_b5_4 (ninS n_b8_0_b4_0.symm nin0)))).other W19 n_b4_0_b4_1).keep K20 nin0)
  have o_b4_1_20 := (o_b4_1_19.keep K20 nin0)
  exact z_return C z_d19_973 (by decide) (by decide) ⟨rfl, b1_0, b1_1, b1_2, b2_1, b3_1, b4_0, b4_1, b4_2, b5_3, b5_4, k20, by omega, by omega, by omega, by omega, by omega, by omega, by omega, by omega, by omega, by omega, by omega, o_p0_20, o_b1_1_20, o_b1_2_20, o_b4_0_20, o_b4_1_20⟩
set_option maxHeartbeats 2000000 in
theorem z_c39_88 (hw : z_T Z a0) (S : z_St Z a_DEF a_ONE a_NONE) (z0 : n0 ≤ h.size) (old : Old Z n0 h) (p0 : Nat) :
    z_Met l Z (⟨"com/example/variegate/variegate/service/PropagationSatisfiedPinLaw", "set", "(Lcom/example/variegate/variegate/service/Propagation;II)V"⟩ : MethodName) method_3_code 3 none [] ({ frames := 1, cells := 0, slots := 0, locals := 13 } : Room) n0 #[(.ref p0), (.int 1), (.int 0)] h (z_nov fun h' => Keep h h' []) := by
  refine z_met (Ls := #[.val (.ref p0), .val (.int 1), .val (.int 0)]) (by first | exact plainFor_of_name (by first | (simp [plainName, overriddenIn]; done) | decide +kernel) | decide +kernel) rfl ?_
  intro p e s m below meth c C
  refine z_iloadN C z_d39_0 rfl 1 rfl ?_
  refine z_iconst C (v := (1 : Int32)) z_d39_1 (by decide) 2 rfl ?_
  refine z_icmpY C z_d39_2 (by decide) (by decide) 15 (by decide) ?_
  refine z_iloadN C z_d39_15 rfl 16 rfl ?_
  refine z_iconst C (v := (2 : Int32)) z_d39_16 (by decide) 17 rfl ?_
  refine z_icmpY C z_d39_17 (by decide) (by decide) 29 (by decide) ?_
  exact z_return C z_d39_29 (by decide) (by decide) ⟨rfl, (Keep.refl h [])⟩
set_option maxHeartbeats 2000000 in
theorem z_c40_89 (hw : z_T Z a0) (S : z_St Z a_DEF a_ONE a_NONE) (z0 : n0 ≤ h.size) (old : Old Z n0 h) (y0 : Int32) (va0 : List Value) (va1 : List Value) (p0 : Nat) (p1 : Nat) (p2 : Nat) (p3 : Nat) (p4 : Nat) (p5 : Nat) (p6 : Nat) (p7 : Nat) (p8 : Nat) (p9 : Nat) (p10 : Nat) (o_p0 : z_Ob Z h p0 "com/example/variegate/variegate/service/Propagation" z_lay3 [(.int 3), (.ref p1), (.ref p2), (.ref p3), (.ref p4), (.ref p5), (.ref p6), (.ref p7), (.ref p8), (.ref p9), (.ref p10), (.int y0), (.int 0)]) (o_p2 : z_Ar Z h p2 .byte "[B" "" va0) (o_p3 : z_Ar Z h p3 .int "[I" "" va1) (ne_p0_p2 : p0 ≠ p2) (ne_p2_p3 : p2 ≠ p3) (ne_p0_p3 : p0 ≠ p3) (g_p2 : n0 ≤ p2) (g_p0 : n0 ≤ p0) (g_p3 : n0 ≤ p3) (rq0 : ((2 : Int32)).toNatClampNeg < (va0).length) (rq1 : ((3 : Int32)).toNatClampNeg < ((List.set (va0) ((2 : Int32)).toNatClampNeg (.int 1))).length) (rq2 : ¬ y0 < 0) (rq3 : (y0).toNatClampNeg < (va1).length) :
    z_Met l Z (⟨"com/example/variegate/variegate/service/Propagation", "assign", "(I)V"⟩ : MethodName) prog_97_method_10_code 2 none [] ({ frames := 0, cells := 0, slots := 0, locals := 0 } : Room) n0 #[(.ref p0), (.int 2)] h (z_nov fun h' => Keep h h' [p2, p0, p3] ∧ z_Ob Z h' p0 "com/example/variegate/variegate/service/Propagation" z_lay3 [(.int 3), (.ref p1), (.ref p2), (.ref p3), (.ref p4), (.ref p5), (.ref p6), (.ref p7), (.ref p8), (.ref p9), (.ref p10), (.int (y0 + (1 : Int32))), (.int 0)] ∧ z_Ar Z h' p2 .byte "[B" "" (List.set ((List.set (va0) ((2 : Int32)).toNatClampNeg (.int 1))) ((3 : Int32)).toNatClampNeg (.int (-1))) ∧ z_Ar Z h' p3 .int "[I" "" (List.set (va1) (y0).toNatClampNeg (.int 2))) := by
  refine z_met (Ls := #[.val (.ref p0), .val (.int 2)]) (by first | exact plainFor_of_name (by first | (simp [plainName, overriddenIn]; done) | decide +kernel) | decide +kernel) rfl ?_
  intro p e s m below meth c C
  refine z_aloadN C z_d40_0 rfl rfl 1 rfl ?_
  refine z_getO C (z_w hw 183 rfl) Via.refl o_p0 2 rfl rfl z_d40_1 4 rfl ?_
  refine z_iloadN C z_d40_4 rfl 5 rfl ?_
  refine z_iconst C (v := (1 : Int32)) z_d40_5 (by decide) 6 rfl ?_
  refine z_bastore C (z := (1 : Int32)) o_p2 (by decide) rq0 (by decide) (vs' := (List.set (va0) ((2 : Int32)).toNatClampNeg (.int 1))) rfl g_p2 z_d40_6 7 rfl ?_
  intro h1 W1 o_p2_1
  have s1 : h1.size = h.size := W1.size
  have k1 : Keep h h1 [p2, p0, p3] := (Keep.refl h [p2, p0, p3]).wr W1 (Or.inl (by simp))
  refine z_aloadN C z_d40_7 rfl rfl 8 rfl ?_
  have o_p0_1 := (o_p0.other W1 ne_p0_p2)
  refine z_getO C (z_w hw 183 rfl) Via.refl o_p0_1 2 rfl rfl z_d40_8 11 rfl ?_
  refine z_iloadN C z_d40_11 rfl 12 rfl ?_
  refine z_iconst C (v := (1 : Int32)) z_d40_12 (by decide) 13 rfl ?_
  refine z_ixor C (z := (3 : Int32)) z_d40_13 (by decide) 14 rfl ?_
  refine z_iconst C (v := (-1 : Int32)) z_d40_14 (by decide) 15 rfl ?_
  refine z_bastore C (z := (-1 : Int32)) o_p2_1 (by decide) rq1 (by decide) (vs' := (List.set ((List.set (va0) ((2 : Int32)).toNatClampNeg (.int 1))) ((3 : Int32)).toNatClampNeg (.int (-1)))) rfl g_p2 z_d40_15 16 rfl ?_
  intro h2 W2 o_p2_2
  have s2 : h2.size = h1.size := W2.size
  have k2 : Keep h h2 [p2, p0, p3] := k1.wr W2 (Or.inl (by simp))
  refine z_aloadN C z_d40_16 rfl rfl 17 rfl ?_
  have o_p0_2 := (o_p0_1.other W2 ne_p0_p2)
  refine z_getO C (z_w hw 185 rfl) Via.refl o_p0_2 3 rfl rfl z_d40_17 20 rfl ?_
  refine z_aloadN C z_d40_20 rfl rfl 21 rfl ?_
  refine z_dup C z_d40_21 rfl 22 rfl ?_
  refine z_getO C (z_w hw 303 rfl) Via.refl o_p0_2 11 rfl rfl z_d40_22 25 rfl ?_
  refine z_dup_x1 C z_d40_25 rfl rfl 26 rfl ?_
  refine z_iconst C (v := (1 : Int32)) z_d40_26 (by decide) 27 rfl ?_
  refine z_iadd C z_d40_27 rfl 28 rfl ?_
  refine z_putO C (z_w hw 303 rfl) Via.refl o_p0_2 (z_lay3_ok hw) 11 rfl (vs' := [(.int 3), (.ref p1), (.ref p2), (.ref p3), (.ref p4), (.ref p5), (.ref p6), (.ref p7), (.ref p8), (.ref p9), (.ref p10), (.int (y0 + (1 : Int32))), (.int 0)]) rfl (Or.inl (z_w hw 304 rfl)) (z_w hw 137 rfl) (ty := .int) (by decide) (by first | rfl | decide) (by first | rfl | decide) g_p0 z_d40_28 31 rfl ?_
  intro h3 W3 o_p0_3
  have s3 : h3.size = h2.size := W3.size
  have k3 : Keep h h3 [p2, p0, p3] := k2.wr W3 (Or.inl (by simp))
  refine z_iloadN C z_d40_31 rfl 32 rfl ?_
  have o_p3_3 := (((o_p3.other W1 (Ne.symm ne_p2_p3)).other W2 (Ne.symm ne_p2_p3)).other W3 (Ne.symm ne_p0_p3))
  refine z_iastore C (z := (2 : Int32)) o_p3_3 rq2 rq3 rfl (vs' := (List.set (va1) (y0).toNatClampNeg (.int 2))) rfl g_p3 z_d40_32 33 rfl ?_
  intro h4 W4 o_p3_4
  have s4 : h4.size = h3.size := W4.size
  have k4 : Keep h h4 [p2, p0, p3] := k3.wr W4 (Or.inl (by simp))
  have o_p0_4 := (o_p0_3.other W4 ne_p0_p3)
  have o_p2_4 := ((o_p2_2.other W3 (Ne.symm ne_p0_p2)).other W4 ne_p2_p3)
  exact z_return C z_d40_33 (by decide) (by decide) ⟨rfl, k4, o_p0_4, o_p2_4, o_p3_4⟩
set_option maxHeartbeats 2000000 in
theorem z_c39_90 (hw : z_T Z a0) (S : z_St Z a_DEF a_ONE a_NONE) (z0 : n0 ≤ h.size) (old : Old Z n0 h) (y0 : Int32) (va0 : List Value) (va1 : List Value) (p0 : Nat) (p1 : Nat) (p2 : Nat) (p3 : Nat) (p4 : Nat) (p5 : Nat) (p6 : Nat) (p7 : Nat) (p8 : Nat) (p9 : Nat) (p10 : Nat) (o_p0 : z_Ob Z h p0 "com/example/variegate/variegate/service/Propagation" z_lay3 [(.int 3), (.ref p1), (.ref p2), (.ref p3), (.ref p4), (.ref p5), (.ref p6), (.ref p7), (.ref p8), (.ref p9), (.ref p10), (.int y0), (.int 0)]) (o_p2 : z_Ar Z h p2 .byte "[B" "" va0) (o_p3 : z_Ar Z h p3 .int "[I" "" va1) (ne_p0_p2 : p0 ≠ p2) (ne_p2_p3 : p2 ≠ p3) (ne_p0_p3 : p0 ≠ p3) (g_p2 : n0 ≤ p2) (g_p0 : n0 ≤ p0) (g_p3 : n0 ≤ p3) (rq0 : ((2 : Int32)).toNatClampNeg < ((va0)).length) (rq1 : ((3 : Int32)).toNatClampNeg < ((List.set ((va0)) ((2 : Int32)).toNatClampNeg (.int 1))).length) (rq2 : ¬ y0 < 0) (rq3 : (y0).toNatClampNeg < ((va1)).length) :
    z_Met l Z (⟨"com/example/variegate/variegate/service/PropagationSatisfiedPinLaw", "set", "(Lcom/example/variegate/variegate/service/Propagation;II)V"⟩ : MethodName) method_3_code 3 none [] ({ frames := 1, cells := 0, slots := 0, locals := 13 } : Room) n0 #[(.ref p0), (.int 1), (.int 1)] h (z_nov fun h' => Keep h h' [p3, p0, p2] ∧ z_Ob Z h' p0 "com/example/variegate/variegate/service/Propagation" z_lay3 [(.int 3), (.ref p1), (.ref p2), (.ref p3), (.ref p4), (.ref p5), (.ref p6), (.ref p7), (.ref p8), (.ref p9), (.ref p10), (.int (y0 + (1 : Int32))), (.int 0)] ∧ z_Ar Z h' p2 .byte "[B" "" (List.set ((List.set ((va0)) ((2 : Int32)).toNatClampNeg (.int 1))) ((3 : Int32)).toNatClampNeg (.int (-1))) ∧ z_Ar Z h' p3 .int "[I" "" (List.set ((va1)) (y0).toNatClampNeg (.int 2))) := by
  refine z_met (Ls := #[.val (.ref p0), .val (.int 1), .val (.int 1)]) (by first | exact plainFor_of_name (by first | (simp [plainName, overriddenIn]; done) | decide +kernel) | decide +kernel) rfl ?_
  intro p e s m below meth c C
  refine z_iloadN C z_d39_0 rfl 1 rfl ?_
  refine z_iconst C (v := (1 : Int32)) z_d39_1 (by decide) 2 rfl ?_
  refine z_icmpN C z_d39_2 (by decide) 5 rfl ?_
  refine z_aloadN C z_d39_5 rfl rfl 6 rfl ?_
  refine z_iconst C (v := (2 : Int32)) z_d39_6 (by decide) 7 rfl ?_
  refine z_iloadN C z_d39_7 rfl 8 rfl ?_
  refine z_imul C (z := (2 : Int32)) z_d39_8 (by decide) 9 rfl ?_
  refine z_callVV C o_p0.1 (z_c40_89 l hw S z0 old y0 (va0) (va1) p0 p1 p2 p3 p4 p5 p6 p7 p8 p9 p10 o_p0 o_p2 o_p3 ne_p0_p2 ne_p2_p3 ne_p0_p3 g_p2 g_p0 g_p3 rq0 rq1 rq2 rq3) (z_w hw 298 rfl) (z_w hw 299 rfl) (z_w hw 301 rfl) (z_w hw 300 rfl) (z_w hw 138 rfl) (z_w hw 302 rfl) (by decide) z_d39_9 rfl (argsL := [(.int 2)]) (rest := []) rfl (lenOf z_pd2 rfl) (W := 0) (Nat.le_of_eq rfl) (by decide) (by decide) (by decide) (by decide) 12 rfl ?_
  rintro h1 ⟨K1, o_p0_1, o_p2_1, o_p3_1⟩
  have s1 : h.size ≤ h1.size := K1.1
  have k1 : Keep h h1 [p3, p0, p2] := (Keep.refl h [p3, p0, p2]).trans K1 (allS (Or.inl (by simp)) (allS (Or.inl (by simp)) (allS (Or.inl (by simp)) all0)))
  refine z_goto C z_d39_12 (by decide) 29 (by decide) ?_
  exact z_return C z_d39_29 (by decide) (by decide) ⟨rfl, k1, o_p0_1, o_p2_1, o_p3_1⟩
set_option maxHeartbeats 2000000 in
theorem z_c40_91 (hw : z_T Z a0) (S : z_St Z a_DEF a_ONE a_NONE) (z0 : n0 ≤ h.size) (old : Old Z n0 h) (y0 : Int32) (va0 : List Value) (va1 : List Value) (p0 : Nat) (p1 : Nat) (p2 : Nat) (p3 : Nat) (p4 : Nat) (p5 : Nat) (p6 : Nat) (p7 : Nat) (p8 : Nat) (p9 : Nat) (p10 : Nat) (o_p0 : z_Ob Z h p0 "com/example/variegate/variegate/service/Propagation" z_lay3 [(.int 3), (.ref p1), (.ref p2), (.ref p3), (.ref p4), (.ref p5), (.ref p6), (.ref p7), (.ref p8), (.ref p9), (.ref p10), (.int y0), (.int 0)]) (o_p2 : z_Ar Z h p2 .byte "[B" "" va0) (o_p3 : z_Ar Z h p3 .int "[I" "" va1) (ne_p0_p2 : p0 ≠ p2) (ne_p2_p3 : p2 ≠ p3) (ne_p0_p3 : p0 ≠ p3) (g_p2 : n0 ≤ p2) (g_p0 : n0 ≤ p0) (g_p3 : n0 ≤ p3) (rq0 : ((3 : Int32)).toNatClampNeg < (va0).length) (rq1 : ((2 : Int32)).toNatClampNeg < ((List.set (va0) ((3 : Int32)).toNatClampNeg (.int 1))).length) (rq2 : ¬ y0 < 0) (rq3 : (y0).toNatClampNeg < (va1).length) :
    z_Met l Z (⟨"com/example/variegate/variegate/service/Propagation", "assign", "(I)V"⟩ : MethodName) prog_97_method_10_code 2 none [] ({ frames := 0, cells := 0, slots := 0, locals := 0 } : Room) n0 #[(.ref p0), (.int 3)] h (z_nov fun h' => Keep h h' [p2, p0, p3] ∧ z_Ob Z h' p0 "com/example/variegate/variegate/service/Propagation" z_lay3 [(.int 3), (.ref p1), (.ref p2), (.ref p3), (.ref p4), (.ref p5), (.ref p6), (.ref p7), (.ref p8), (.ref p9), (.ref p10), (.int (y0 + (1 : Int32))), (.int 0)] ∧ z_Ar Z h' p2 .byte "[B" "" (List.set ((List.set (va0) ((3 : Int32)).toNatClampNeg (.int 1))) ((2 : Int32)).toNatClampNeg (.int (-1))) ∧ z_Ar Z h' p3 .int "[I" "" (List.set (va1) (y0).toNatClampNeg (.int 3))) := by
  refine z_met (Ls := #[.val (.ref p0), .val (.int 3)]) (by first | exact plainFor_of_name (by first | (simp [plainName, overriddenIn]; done) | decide +kernel) | decide +kernel) rfl ?_
  intro p e s m below meth c C
  refine z_aloadN C z_d40_0 rfl rfl 1 rfl ?_
  refine z_getO C (z_w hw 183 rfl) Via.refl o_p0 2 rfl rfl z_d40_1 4 rfl ?_
  refine z_iloadN C z_d40_4 rfl 5 rfl ?_
  refine z_iconst C (v := (1 : Int32)) z_d40_5 (by decide) 6 rfl ?_
  refine z_bastore C (z := (1 : Int32)) o_p2 (by decide) rq0 (by decide) (vs' := (List.set (va0) ((3 : Int32)).toNatClampNeg (.int 1))) rfl g_p2 z_d40_6 7 rfl ?_
  intro h1 W1 o_p2_1
  have s1 : h1.size = h.size := W1.size
  have k1 : Keep h h1 [p2, p0, p3] := (Keep.refl h [p2, p0, p3]).wr W1 (Or.inl (by simp))
  refine z_aloadN C z_d40_7 rfl rfl 8 rfl ?_
  have o_p0_1 := (o_p0.other W1 ne_p0_p2)
  refine z_getO C (z_w hw 183 rfl) Via.refl o_p0_1 2 rfl rfl z_d40_8 11 rfl ?_
  refine z_iloadN C z_d40_11 rfl 12 rfl ?_
  refine z_iconst C (v := (1 : Int32)) z_d40_12 (by decide) 13 rfl ?_
  refine z_ixor C (z := (2 : Int32)) z_d40_13 (by decide) 14 rfl ?_
  refine z_iconst C (v := (-1 : Int32)) z_d40_14 (by decide) 15 rfl ?_
  refine z_bastore C (z := (-1 : Int32)) o_p2_1 (by decide) rq1 (by decide) (vs' := (List.set ((List.set (va0) ((3 : Int32)).toNatClampNeg (.int 1))) ((2 : Int32)).toNatClampNeg (.int (-1)))) rfl g_p2 z_d40_15 16 rfl ?_
  intro h2 W2 o_p2_2
  have s2 : h2.size = h1.size := W2.size
  have k2 : Keep h h2 [p2, p0, p3] := k1.wr W2 (Or.inl (by simp))
  refine z_aloadN C z_d40_16 rfl rfl 17 rfl ?_
  have o_p0_2 := (o_p0_1.other W2 ne_p0_p2)
  refine z_getO C (z_w hw 185 rfl) Via.refl o_p0_2 3 rfl rfl z_d40_17 20 rfl ?_
  refine z_aloadN C z_d40_20 rfl rfl 21 rfl ?_
  refine z_dup C z_d40_21 rfl 22 rfl ?_
  refine z_getO C (z_w hw 303 rfl) Via.refl o_p0_2 11 rfl rfl z_d40_22 25 rfl ?_
  refine z_dup_x1 C z_d40_25 rfl rfl 26 rfl ?_
  refine z_iconst C (v := (1 : Int32)) z_d40_26 (by decide) 27 rfl ?_
  refine z_iadd C z_d40_27 rfl 28 rfl ?_
  refine z_putO C (z_w hw 303 rfl) Via.refl o_p0_2 (z_lay3_ok hw) 11 rfl (vs' := [(.int 3), (.ref p1), (.ref p2), (.ref p3), (.ref p4), (.ref p5), (.ref p6), (.ref p7), (.ref p8), (.ref p9), (.ref p10), (.int (y0 + (1 : Int32))), (.int 0)]) rfl (Or.inl (z_w hw 304 rfl)) (z_w hw 137 rfl) (ty := .int) (by decide) (by first | rfl | decide) (by first | rfl | decide) g_p0 z_d40_28 31 rfl ?_
  intro h3 W3 o_p0_3
  have s3 : h3.size = h2.size := W3.size
  have k3 : Keep h h3 [p2, p0, p3] := k2.wr W3 (Or.inl (by simp))
  refine z_iloadN C z_d40_31 rfl 32 rfl ?_
  have o_p3_3 := (((o_p3.other W1 (Ne.symm ne_p2_p3)).other W2 (Ne.symm ne_p2_p3)).other W3 (Ne.symm ne_p0_p3))
  refine z_iastore C (z := (3 : Int32)) o_p3_3 rq2 rq3 rfl (vs' := (List.set (va1) (y0).toNatClampNeg (.int 3))) rfl g_p3 z_d40_32 33 rfl ?_
  intro h4 W4 o_p3_4
  have s4 : h4.size = h3.size := W4.size
  have k4 : Keep h h4 [p2, p0, p3] := k3.wr W4 (Or.inl (by simp))
  have o_p0_4 := (o_p0_3.other W4 ne_p0_p3)
  have o_p2_4 := ((o_p2_2.other W3 (Ne.symm ne_p0_p2)).other W4 ne_p2_p3)
  exact z_return C z_d40_33 (by decide) (by decide) ⟨rfl, k4, o_p0_4, o_p2_4, o_p3_4⟩
set_option maxHeartbeats 2000000 in
theorem z_c39_92 (hw : z_T Z a0) (S : z_St Z a_DEF a_ONE a_NONE) (z0 : n0 ≤ h.size) (old : Old Z n0 h) (y0 : Int32) (va0 : List Value) (va1 : List Value) (p0 : Nat) (p1 : Nat) (p2 : Nat) (p3 : Nat) (p4 : Nat) (p5 : Nat) (p6 : Nat) (p7 : Nat) (p8 : Nat) (p9 : Nat) (p10 : Nat) (o_p0 : z_Ob Z h p0 "com/example/variegate/variegate/service/Propagation" z_lay3 [(.int 3), (.ref p1), (.ref p2), (.ref p3), (.ref p4), (.ref p5), (.ref p6), (.ref p7), (.ref p8), (.ref p9), (.ref p10), (.int y0), (.int 0)]) (o_p2 : z_Ar Z h p2 .byte "[B" "" va0) (o_p3 : z_Ar Z h p3 .int "[I" "" va1) (ne_p0_p2 : p0 ≠ p2) (ne_p2_p3 : p2 ≠ p3) (ne_p0_p3 : p0 ≠ p3) (g_p2 : n0 ≤ p2) (g_p0 : n0 ≤ p0) (g_p3 : n0 ≤ p3) (rq0 : ((3 : Int32)).toNatClampNeg < ((va0)).length) (rq1 : ((2 : Int32)).toNatClampNeg < ((List.set ((va0)) ((3 : Int32)).toNatClampNeg (.int 1))).length) (rq2 : ¬ y0 < 0) (rq3 : (y0).toNatClampNeg < ((va1)).length) :
    z_Met l Z (⟨"com/example/variegate/variegate/service/PropagationSatisfiedPinLaw", "set", "(Lcom/example/variegate/variegate/service/Propagation;II)V"⟩ : MethodName) method_3_code 3 none [] ({ frames := 1, cells := 0, slots := 0, locals := 13 } : Room) n0 #[(.ref p0), (.int 1), (.int 2)] h (z_nov fun h' => Keep h h' [p3, p0, p2] ∧ z_Ob Z h' p0 "com/example/variegate/variegate/service/Propagation" z_lay3 [(.int 3), (.ref p1), (.ref p2), (.ref p3), (.ref p4), (.ref p5), (.ref p6), (.ref p7), (.ref p8), (.ref p9), (.ref p10), (.int (y0 + (1 : Int32))), (.int 0)] ∧ z_Ar Z h' p2 .byte "[B" "" (List.set ((List.set ((va0)) ((3 : Int32)).toNatClampNeg (.int 1))) ((2 : Int32)).toNatClampNeg (.int (-1))) ∧ z_Ar Z h' p3 .int "[I" "" (List.set ((va1)) (y0).toNatClampNeg (.int 3))) := by
  refine z_met (Ls := #[.val (.ref p0), .val (.int 1), .val (.int 2)]) (by first | exact plainFor_of_name (by first | (simp [plainName, overriddenIn]; done) | decide +kernel) | decide +kernel) rfl ?_
  intro p e s m below meth c C
  refine z_iloadN C z_d39_0 rfl 1 rfl ?_
  refine z_iconst C (v := (1 : Int32)) z_d39_1 (by decide) 2 rfl ?_
  refine z_icmpY C z_d39_2 (by decide) (by decide) 15 (by decide) ?_
  refine z_iloadN C z_d39_15 rfl 16 rfl ?_
  refine z_iconst C (v := (2 : Int32)) z_d39_16 (by decide) 17 rfl ?_
  refine z_icmpN C z_d39_17 (by decide) 20 rfl ?_
  refine z_aloadN C z_d39_20 rfl rfl 21 rfl ?_
  refine z_iconst C (v := (2 : Int32)) z_d39_21 (by decide) 22 rfl ?_
  refine z_iloadN C z_d39_22 rfl 23 rfl ?_
  refine z_imul C (z := (2 : Int32)) z_d39_23 (by decide) 24 rfl ?_
  refine z_iconst C (v := (1 : Int32)) z_d39_24 (by decide) 25 rfl ?_
  refine z_iadd C (z := (3 : Int32)) z_d39_25 (by decide) 26 rfl ?_
  refine z_callVV C o_p0.1 (z_c40_91 l hw S z0 old y0 (va0) (va1) p0 p1 p2 p3 p4 p5 p6 p7 p8 p9 p10 o_p0 o_p2 o_p3 ne_p0_p2 ne_p2_p3 ne_p0_p3 g_p2 g_p0 g_p3 rq0 rq1 rq2 rq3) (z_w hw 298 rfl) (z_w hw 299 rfl) (z_w hw 301 rfl) (z_w hw 300 rfl) (z_w hw 138 rfl) (z_w hw 302 rfl) (by decide) z_d39_26 rfl (argsL := [(.int 3)]) (rest := []) rfl (lenOf z_pd2 rfl) (W := 0) (Nat.le_of_eq rfl) (by decide) (by decide) (by decide) (by decide) 29 rfl ?_
  rintro h1 ⟨K1, o_p0_1, o_p2_1, o_p3_1⟩
  have s1 : h.size ≤ h1.size := K1.1
  have k1 : Keep h h1 [p3, p0, p2] := (Keep.refl h [p3, p0, p2]).trans K1 (allS (Or.inl (by simp)) (allS (Or.inl (by simp)) (allS (Or.inl (by simp)) all0)))
  exact z_return C z_d39_29 (by decide) (by decide) ⟨rfl, k1, o_p0_1, o_p2_1, o_p3_1⟩
set_option maxHeartbeats 2000000 in
theorem z_set1 (hw : z_T Z a0) (S : z_St Z a_DEF a_ONE a_NONE) (z0 : n0 ≤ h.size) (old : Old Z n0 h) (y0 : Int32) (va0 : List Value) (va1 : List Value) (p0 : Nat) (p1 : Nat) (p2 : Nat) (p3 : Nat) (p4 : Nat) (p5 : Nat) (p6 : Nat) (p7 : Nat) (p8 : Nat) (p9 : Nat) (p10 : Nat) (o_p0 : z_Ob Z h p0 "com/example/variegate/variegate/service/Propagation" z_lay3 [(.int 3), (.ref p1), (.ref p2), (.ref p3), (.ref p4), (.ref p5), (.ref p6), (.ref p7), (.ref p8), (.ref p9), (.ref p10), (.int y0), (.int 0)]) (o_p2 : z_Ar Z h p2 .byte "[B" "" va0) (o_p3 : z_Ar Z h p3 .int "[I" "" va1) (ne_p0_p2 : p0 ≠ p2) (ne_p2_p3 : p2 ≠ p3) (ne_p0_p3 : p0 ≠ p3) (g_p2 : n0 ≤ p2) (g_p0 : n0 ≤ p0) (g_p3 : n0 ≤ p3) (t : Int32) (ht : t = 0 ∨ t = 1 ∨ t = 2) (hn : y0 = 0) (hv8 : va0.length = 8) (ht4 : va1.length = 4) :
    z_Met l Z (⟨"com/example/variegate/variegate/service/PropagationSatisfiedPinLaw", "set", "(Lcom/example/variegate/variegate/service/Propagation;II)V"⟩ : MethodName) method_3_code 3 none [] ({ frames := 1, cells := 0, slots := 0, locals := 13 } : Room) n0 #[(.ref p0), (.int 1), (.int t)] h (z_nov fun h' => ∃ n' : Int32, ∃ vt' : List Value, (n' = 0 ∨ n' = 1) ∧ vt'.length = 4 ∧ Keep h h' [p0, p2, p3] ∧ z_Ob Z h' p0 "com/example/variegate/variegate/service/Propagation" z_lay3 [(.int 3), (.ref p1), (.ref p2), (.ref p3), (.ref p4), (.ref p5), (.ref p6), (.ref p7), (.ref p8), (.ref p9), (.ref p10), (.int n'), (.int 0)] ∧ z_Ar Z h' p2 .byte "[B" "" (z_sv (1 : Int32) t va0) ∧ z_Ar Z h' p3 .int "[I" "" vt') := by
  rcases ht with ht | ht | ht
  · subst ht
    refine z_mono (z_c39_88 l hw S z0 old p0) ?_
    rintro _ h' ⟨rfl, K⟩
    exact ⟨rfl, y0, va1, (by have q := hn; simp [q]), ht4, (Keep.refl h [p0, p2, p3]).trans K all0, o_p0.keep K nin0, (show z_sv (1 : Int32) 0 va0 = va0 from rfl) ▸ o_p2.keep K nin0, o_p3.keep K nin0⟩
  · subst ht
    refine z_mono (z_c39_90 l hw S z0 old y0 va0 va1 p0 p1 p2 p3 p4 p5 p6 p7 p8 p9 p10 o_p0 o_p2 o_p3 ne_p0_p2 ne_p2_p3 ne_p0_p3 g_p2 g_p0 g_p3 (by simp only [List.length_set, hv8]; decide) (by simp only [List.length_set, hv8]; decide) (by rcases hn with rfl <;> decide) (by simp only [List.length_set, ht4]; rcases hn with rfl <;> decide)) ?_
    rintro _ h' ⟨rfl, K, f_p0, f_p2, f_p3⟩
    exact ⟨rfl, _, _, (by have q := hn; (subst q; decide)), (by simp only [List.length_set]; exact ht4), (Keep.refl h [p0, p2, p3]).trans K (allS (Or.inl (by simp)) (allS (Or.inl (by simp)) (allS (Or.inl (by simp)) all0))), f_p0, f_p2, f_p3⟩
  · subst ht
    refine z_mono (z_c39_92 l hw S z0 old y0 va0 va1 p0 p1 p2 p3 p4 p5 p6 p7 p8 p9 p10 o_p0 o_p2 o_p3 ne_p0_p2 ne_p2_p3 ne_p0_p3 g_p2 g_p0 g_p3 (by simp only [List.length_set, hv8]; decide) (by simp only [List.length_set, hv8]; decide) (by rcases hn with rfl <;> decide) (by simp only [List.length_set, ht4]; rcases hn with rfl <;> decide)) ?_
    rintro _ h' ⟨rfl, K, f_p0, f_p2, f_p3⟩
    exact ⟨rfl, _, _, (by have q := hn; (subst q; decide)), (by simp only [List.length_set]; exact ht4), (Keep.refl h [p0, p2, p3]).trans K (allS (Or.inl (by simp)) (allS (Or.inl (by simp)) (allS (Or.inl (by simp)) all0))), f_p0, f_p2, f_p3⟩
set_option maxHeartbeats 2000000 in
theorem z_c39_93 (hw : z_T Z a0) (S : z_St Z a_DEF a_ONE a_NONE) (z0 : n0 ≤ h.size) (old : Old Z n0 h) (p0 : Nat) :
    z_Met l Z (⟨"com/example/variegate/variegate/service/PropagationSatisfiedPinLaw", "set", "(Lcom/example/variegate/variegate/service/Propagation;II)V"⟩ : MethodName) method_3_code 3 none [] ({ frames := 1, cells := 0, slots := 0, locals := 13 } : Room) n0 #[(.ref p0), (.int 2), (.int 0)] h (z_nov fun h' => Keep h h' []) := by
  refine z_met (Ls := #[.val (.ref p0), .val (.int 2), .val (.int 0)]) (by first | exact plainFor_of_name (by first | (simp [plainName, overriddenIn]; done) | decide +kernel) | decide +kernel) rfl ?_
  intro p e s m below meth c C
  refine z_iloadN C z_d39_0 rfl 1 rfl ?_
  refine z_iconst C (v := (1 : Int32)) z_d39_1 (by decide) 2 rfl ?_
  refine z_icmpY C z_d39_2 (by decide) (by decide) 15 (by decide) ?_
  refine z_iloadN C z_d39_15 rfl 16 rfl ?_
  refine z_iconst C (v := (2 : Int32)) z_d39_16 (by decide) 17 rfl ?_
  refine z_icmpY C z_d39_17 (by decide) (by decide) 29 (by decide) ?_
  exact z_return C z_d39_29 (by decide) (by decide) ⟨rfl, (Keep.refl h [])⟩
set_option maxHeartbeats 2000000 in
theorem z_c40_94 (hw : z_T Z a0) (S : z_St Z a_DEF a_ONE a_NONE) (z0 : n0 ≤ h.size) (old : Old Z n0 h) (y0 : Int32) (va0 : List Value) (va1 : List Value) (p0 : Nat) (p1 : Nat) (p2 : Nat) (p3 : Nat) (p4 : Nat) (p5 : Nat) (p6 : Nat) (p7 : Nat) (p8 : Nat) (p9 : Nat) (p10 : Nat) (o_p0 : z_Ob Z h p0 "com/example/variegate/variegate/service/Propagation" z_lay3 [(.int 3), (.ref p1), (.ref p2), (.ref p3), (.ref p4), (.ref p5), (.ref p6), (.ref p7), (.ref p8), (.ref p9), (.ref p10), (.int y0), (.int 0)]) (o_p2 : z_Ar Z h p2 .byte "[B" "" va0) (o_p3 : z_Ar Z h p3 .int "[I" "" va1) (ne_p0_p2 : p0 ≠ p2) (ne_p2_p3 : p2 ≠ p3) (ne_p0_p3 : p0 ≠ p3) (g_p2 : n0 ≤ p2) (g_p0 : n0 ≤ p0) (g_p3 : n0 ≤ p3) (rq0 : ((4 : Int32)).toNatClampNeg < (va0).length) (rq1 : ((5 : Int32)).toNatClampNeg < ((List.set (va0) ((4 : Int32)).toNatClampNeg (.int 1))).length) (rq2 : ¬ y0 < 0) (rq3 : (y0).toNatClampNeg < (va1).length) :
    z_Met l Z (⟨"com/example/variegate/variegate/service/Propagation", "assign", "(I)V"⟩ : MethodName) prog_97_method_10_code 2 none [] ({ frames := 0, cells := 0, slots := 0, locals := 0 } : Room) n0 #[(.ref p0), (.int 4)] h (z_nov fun h' => Keep h h' [p2, p0, p3] ∧ z_Ob Z h' p0 "com/example/variegate/variegate/service/Propagation" z_lay3 [(.int 3), (.ref p1), (.ref p2), (.ref p3), (.ref p4), (.ref p5), (.ref p6), (.ref p7), (.ref p8), (.ref p9), (.ref p10), (.int (y0 + (1 : Int32))), (.int 0)] ∧ z_Ar Z h' p2 .byte "[B" "" (List.set ((List.set (va0) ((4 : Int32)).toNatClampNeg (.int 1))) ((5 : Int32)).toNatClampNeg (.int (-1))) ∧ z_Ar Z h' p3 .int "[I" "" (List.set (va1) (y0).toNatClampNeg (.int 4))) := by
  refine z_met (Ls := #[.val (.ref p0), .val (.int 4)]) (by first | exact plainFor_of_name (by first | (simp [plainName, overriddenIn]; done) | decide +kernel) | decide +kernel) rfl ?_
  intro p e s m below meth c C
  refine z_aloadN C z_d40_0 rfl rfl 1 rfl ?_
  refine z_getO C (z_w hw 183 rfl) Via.refl o_p0 2 rfl rfl z_d40_1 4 rfl ?_
  refine z_iloadN C z_d40_4 rfl 5 rfl ?_
  refine z_iconst C (v := (1 : Int32)) z_d40_5 (by decide) 6 rfl ?_
  refine z_bastore C (z := (1 : Int32)) o_p2 (by decide) rq0 (by decide) (vs' := (List.set (va0) ((4 : Int32)).toNatClampNeg (.int 1))) rfl g_p2 z_d40_6 7 rfl ?_
  intro h1 W1 o_p2_1
  have s1 : h1.size = h.size := W1.size
  have k1 : Keep h h1 [p2, p0, p3] := (Keep.refl h [p2, p0, p3]).wr W1 (Or.inl (by simp))
  refine z_aloadN C z_d40_7 rfl rfl 8 rfl ?_
  have o_p0_1 := (o_p0.other W1 ne_p0_p2)
  refine z_getO C (z_w hw 183 rfl) Via.refl o_p0_1 2 rfl rfl z_d40_8 11 rfl ?_
  refine z_iloadN C z_d40_11 rfl 12 rfl ?_
  refine z_iconst C (v := (1 : Int32)) z_d40_12 (by decide) 13 rfl ?_
  refine z_ixor C (z := (5 : Int32)) z_d40_13 (by decide) 14 rfl ?_
  refine z_iconst C (v := (-1 : Int32)) z_d40_14 (by decide) 15 rfl ?_
  refine z_bastore C (z := (-1 : Int32)) o_p2_1 (by decide) rq1 (by decide) (vs' := (List.set ((List.set (va0) ((4 : Int32)).toNatClampNeg (.int 1))) ((5 : Int32)).toNatClampNeg (.int (-1)))) rfl g_p2 z_d40_15 16 rfl ?_
  intro h2 W2 o_p2_2
  have s2 : h2.size = h1.size := W2.size
  have k2 : Keep h h2 [p2, p0, p3] := k1.wr W2 (Or.inl (by simp))
  refine z_aloadN C z_d40_16 rfl rfl 17 rfl ?_
  have o_p0_2 := (o_p0_1.other W2 ne_p0_p2)
  refine z_getO C (z_w hw 185 rfl) Via.refl o_p0_2 3 rfl rfl z_d40_17 20 rfl ?_
  refine z_aloadN C z_d40_20 rfl rfl 21 rfl ?_
  refine z_dup C z_d40_21 rfl 22 rfl ?_
  refine z_getO C (z_w hw 303 rfl) Via.refl o_p0_2 11 rfl rfl z_d40_22 25 rfl ?_
  refine z_dup_x1 C z_d40_25 rfl rfl 26 rfl ?_
  refine z_iconst C (v := (1 : Int32)) z_d40_26 (by decide) 27 rfl ?_
  refine z_iadd C z_d40_27 rfl 28 rfl ?_
  refine z_putO C (z_w hw 303 rfl) Via.refl o_p0_2 (z_lay3_ok hw) 11 rfl (vs' := [(.int 3), (.ref p1), (.ref p2), (.ref p3), (.ref p4), (.ref p5), (.ref p6), (.ref p7), (.ref p8), (.ref p9), (.ref p10), (.int (y0 + (1 : Int32))), (.int 0)]) rfl (Or.inl (z_w hw 304 rfl)) (z_w hw 137 rfl) (ty := .int) (by decide) (by first | rfl | decide) (by first | rfl | decide) g_p0 z_d40_28 31 rfl ?_
  intro h3 W3 o_p0_3
  have s3 : h3.size = h2.size := W3.size
  have k3 : Keep h h3 [p2, p0, p3] := k2.wr W3 (Or.inl (by simp))
  refine z_iloadN C z_d40_31 rfl 32 rfl ?_
  have o_p3_3 := (((o_p3.other W1 (Ne.symm ne_p2_p3)).other W2 (Ne.symm ne_p2_p3)).other W3 (Ne.symm ne_p0_p3))
  refine z_iastore C (z := (4 : Int32)) o_p3_3 rq2 rq3 rfl (vs' := (List.set (va1) (y0).toNatClampNeg (.int 4))) rfl g_p3 z_d40_32 33 rfl ?_
  intro h4 W4 o_p3_4
  have s4 : h4.size = h3.size := W4.size
  have k4 : Keep h h4 [p2, p0, p3] := k3.wr W4 (Or.inl (by simp))
  have o_p0_4 := (o_p0_3.other W4 ne_p0_p3)
  have o_p2_4 := ((o_p2_2.other W3 (Ne.symm ne_p0_p2)).other W4 ne_p2_p3)
  exact z_return C z_d40_33 (by decide) (by decide) ⟨rfl, k4, o_p0_4, o_p2_4, o_p3_4⟩
set_option maxHeartbeats 2000000 in
theorem z_c39_95 (hw : z_T Z a0) (S : z_St Z a_DEF a_ONE a_NONE) (z0 : n0 ≤ h.size) (old : Old Z n0 h) (y0 : Int32) (va0 : List Value) (va1 : List Value) (p0 : Nat) (p1 : Nat) (p2 : Nat) (p3 : Nat) (p4 : Nat) (p5 : Nat) (p6 : Nat) (p7 : Nat) (p8 : Nat) (p9 : Nat) (p10 : Nat) (o_p0 : z_Ob Z h p0 "com/example/variegate/variegate/service/Propagation" z_lay3 [(.int 3), (.ref p1), (.ref p2), (.ref p3), (.ref p4), (.ref p5), (.ref p6), (.ref p7), (.ref p8), (.ref p9), (.ref p10), (.int y0), (.int 0)]) (o_p2 : z_Ar Z h p2 .byte "[B" "" va0) (o_p3 : z_Ar Z h p3 .int "[I" "" va1) (ne_p0_p2 : p0 ≠ p2) (ne_p2_p3 : p2 ≠ p3) (ne_p0_p3 : p0 ≠ p3) (g_p2 : n0 ≤ p2) (g_p0 : n0 ≤ p0) (g_p3 : n0 ≤ p3) (rq0 : ((4 : Int32)).toNatClampNeg < ((va0)).length) (rq1 : ((5 : Int32)).toNatClampNeg < ((List.set ((va0)) ((4 : Int32)).toNatClampNeg (.int 1))).length) (rq2 : ¬ y0 < 0) (rq3 : (y0).toNatClampNeg < ((va1)).length) :
    z_Met l Z (⟨"com/example/variegate/variegate/service/PropagationSatisfiedPinLaw", "set", "(Lcom/example/variegate/variegate/service/Propagation;II)V"⟩ : MethodName) method_3_code 3 none [] ({ frames := 1, cells := 0, slots := 0, locals := 13 } : Room) n0 #[(.ref p0), (.int 2), (.int 1)] h (z_nov fun h' => Keep h h' [p3, p0, p2] ∧ z_Ob Z h' p0 "com/example/variegate/variegate/service/Propagation" z_lay3 [(.int 3), (.ref p1), (.ref p2), (.ref p3), (.ref p4), (.ref p5), (.ref p6), (.ref p7), (.ref p8), (.ref p9), (.ref p10), (.int (y0 + (1 : Int32))), (.int 0)] ∧ z_Ar Z h' p2 .byte "[B" "" (List.set ((List.set ((va0)) ((4 : Int32)).toNatClampNeg (.int 1))) ((5 : Int32)).toNatClampNeg (.int (-1))) ∧ z_Ar Z h' p3 .int "[I" "" (List.set ((va1)) (y0).toNatClampNeg (.int 4))) := by
  refine z_met (Ls := #[.val (.ref p0), .val (.int 2), .val (.int 1)]) (by first | exact plainFor_of_name (by first | (simp [plainName, overriddenIn]; done) | decide +kernel) | decide +kernel) rfl ?_
  intro p e s m below meth c C
  refine z_iloadN C z_d39_0 rfl 1 rfl ?_
  refine z_iconst C (v := (1 : Int32)) z_d39_1 (by decide) 2 rfl ?_
  refine z_icmpN C z_d39_2 (by decide) 5 rfl ?_
  refine z_aloadN C z_d39_5 rfl rfl 6 rfl ?_
  refine z_iconst C (v := (2 : Int32)) z_d39_6 (by decide) 7 rfl ?_
  refine z_iloadN C z_d39_7 rfl 8 rfl ?_
  refine z_imul C (z := (4 : Int32)) z_d39_8 (by decide) 9 rfl ?_
  refine z_callVV C o_p0.1 (z_c40_94 l hw S z0 old y0 (va0) (va1) p0 p1 p2 p3 p4 p5 p6 p7 p8 p9 p10 o_p0 o_p2 o_p3 ne_p0_p2 ne_p2_p3 ne_p0_p3 g_p2 g_p0 g_p3 rq0 rq1 rq2 rq3) (z_w hw 298 rfl) (z_w hw 299 rfl) (z_w hw 301 rfl) (z_w hw 300 rfl) (z_w hw 138 rfl) (z_w hw 302 rfl) (by decide) z_d39_9 rfl (argsL := [(.int 4)]) (rest := []) rfl (lenOf z_pd2 rfl) (W := 0) (Nat.le_of_eq rfl) (by decide) (by decide) (by decide) (by decide) 12 rfl ?_
  rintro h1 ⟨K1, o_p0_1, o_p2_1, o_p3_1⟩
  have s1 : h.size ≤ h1.size := K1.1
  have k1 : Keep h h1 [p3, p0, p2] := (Keep.refl h [p3, p0, p2]).trans K1 (allS (Or.inl (by simp)) (allS (Or.inl (by simp)) (allS (Or.inl (by simp)) all0)))
  refine z_goto C z_d39_12 (by decide) 29 (by decide) ?_
  exact z_return C z_d39_29 (by decide) (by decide) ⟨rfl, k1, o_p0_1, o_p2_1, o_p3_1⟩
set_option maxHeartbeats 2000000 in
theorem z_c40_96 (hw : z_T Z a0) (S : z_St Z a_DEF a_ONE a_NONE) (z0 : n0 ≤ h.size) (old : Old Z n0 h) (y0 : Int32) (va0 : List Value) (va1 : List Value) (p0 : Nat) (p1 : Nat) (p2 : Nat) (p3 : Nat) (p4 : Nat) (p5 : Nat) (p6 : Nat) (p7 : Nat) (p8 : Nat) (p9 : Nat) (p10 : Nat) (o_p0 : z_Ob Z h p0 "com/example/variegate/variegate/service/Propagation" z_lay3 [(.int 3), (.ref p1), (.ref p2), (.ref p3), (.ref p4), (.ref p5), (.ref p6), (.ref p7), (.ref p8), (.ref p9), (.ref p10), (.int y0), (.int 0)]) (o_p2 : z_Ar Z h p2 .byte "[B" "" va0) (o_p3 : z_Ar Z h p3 .int "[I" "" va1) (ne_p0_p2 : p0 ≠ p2) (ne_p2_p3 : p2 ≠ p3) (ne_p0_p3 : p0 ≠ p3) (g_p2 : n0 ≤ p2) (g_p0 : n0 ≤ p0) (g_p3 : n0 ≤ p3) (rq0 : ((5 : Int32)).toNatClampNeg < (va0).length) (rq1 : ((4 : Int32)).toNatClampNeg < ((List.set (va0) ((5 : Int32)).toNatClampNeg (.int 1))).length) (rq2 : ¬ y0 < 0) (rq3 : (y0).toNatClampNeg < (va1).length) :
    z_Met l Z (⟨"com/example/variegate/variegate/service/Propagation", "assign", "(I)V"⟩ : MethodName) prog_97_method_10_code 2 none [] ({ frames := 0, cells := 0, slots := 0, locals := 0 } : Room) n0 #[(.ref p0), (.int 5)] h (z_nov fun h' => Keep h h' [p2, p0, p3] ∧ z_Ob Z h' p0 "com/example/variegate/variegate/service/Propagation" z_lay3 [(.int 3), (.ref p1), (.ref p2), (.ref p3), (.ref p4), (.ref p5), (.ref p6), (.ref p7), (.ref p8), (.ref p9), (.ref p10), (.int (y0 + (1 : Int32))), (.int 0)] ∧ z_Ar Z h' p2 .byte "[B" "" (List.set ((List.set (va0) ((5 : Int32)).toNatClampNeg (.int 1))) ((4 : Int32)).toNatClampNeg (.int (-1))) ∧ z_Ar Z h' p3 .int "[I" "" (List.set (va1) (y0).toNatClampNeg (.int 5))) := by
  refine z_met (Ls := #[.val (.ref p0), .val (.int 5)]) (by first | exact plainFor_of_name (by first | (simp [plainName, overriddenIn]; done) | decide +kernel) | decide +kernel) rfl ?_
  intro p e s m below meth c C
  refine z_aloadN C z_d40_0 rfl rfl 1 rfl ?_
  refine z_getO C (z_w hw 183 rfl) Via.refl o_p0 2 rfl rfl z_d40_1 4 rfl ?_
  refine z_iloadN C z_d40_4 rfl 5 rfl ?_
  refine z_iconst C (v := (1 : Int32)) z_d40_5 (by decide) 6 rfl ?_
  refine z_bastore C (z := (1 : Int32)) o_p2 (by decide) rq0 (by decide) (vs' := (List.set (va0) ((5 : Int32)).toNatClampNeg (.int 1))) rfl g_p2 z_d40_6 7 rfl ?_
  intro h1 W1 o_p2_1
  have s1 : h1.size = h.size := W1.size
  have k1 : Keep h h1 [p2, p0, p3] := (Keep.refl h [p2, p0, p3]).wr W1 (Or.inl (by simp))
  refine z_aloadN C z_d40_7 rfl rfl 8 rfl ?_
  have o_p0_1 := (o_p0.other W1 ne_p0_p2)
  refine z_getO C (z_w hw 183 rfl) Via.refl o_p0_1 2 rfl rfl z_d40_8 11 rfl ?_
  refine z_iloadN C z_d40_11 rfl 12 rfl ?_
  refine z_iconst C (v := (1 : Int32)) z_d40_12 (by decide) 13 rfl ?_
  refine z_ixor C (z := (4 : Int32)) z_d40_13 (by decide) 14 rfl ?_
  refine z_iconst C (v := (-1 : Int32)) z_d40_14 (by decide) 15 rfl ?_
  refine z_bastore C (z := (-1 : Int32)) o_p2_1 (by decide) rq1 (by decide) (vs' := (List.set ((List.set (va0) ((5 : Int32)).toNatClampNeg (.int 1))) ((4 : Int32)).toNatClampNeg (.int (-1)))) rfl g_p2 z_d40_15 16 rfl ?_
  intro h2 W2 o_p2_2
  have s2 : h2.size = h1.size := W2.size
  have k2 : Keep h h2 [p2, p0, p3] := k1.wr W2 (Or.inl (by simp))
  refine z_aloadN C z_d40_16 rfl rfl 17 rfl ?_
  have o_p0_2 := (o_p0_1.other W2 ne_p0_p2)
  refine z_getO C (z_w hw 185 rfl) Via.refl o_p0_2 3 rfl rfl z_d40_17 20 rfl ?_
  refine z_aloadN C z_d40_20 rfl rfl 21 rfl ?_
  refine z_dup C z_d40_21 rfl 22 rfl ?_
  refine z_getO C (z_w hw 303 rfl) Via.refl o_p0_2 11 rfl rfl z_d40_22 25 rfl ?_
  refine z_dup_x1 C z_d40_25 rfl rfl 26 rfl ?_
  refine z_iconst C (v := (1 : Int32)) z_d40_26 (by decide) 27 rfl ?_
  refine z_iadd C z_d40_27 rfl 28 rfl ?_
  refine z_putO C (z_w hw 303 rfl) Via.refl o_p0_2 (z_lay3_ok hw) 11 rfl (vs' := [(.int 3), (.ref p1), (.ref p2), (.ref p3), (.ref p4), (.ref p5), (.ref p6), (.ref p7), (.ref p8), (.ref p9), (.ref p10), (.int (y0 + (1 : Int32))), (.int 0)]) rfl (Or.inl (z_w hw 304 rfl)) (z_w hw 137 rfl) (ty := .int) (by decide) (by first | rfl | decide) (by first | rfl | decide) g_p0 z_d40_28 31 rfl ?_
  intro h3 W3 o_p0_3
  have s3 : h3.size = h2.size := W3.size
  have k3 : Keep h h3 [p2, p0, p3] := k2.wr W3 (Or.inl (by simp))
  refine z_iloadN C z_d40_31 rfl 32 rfl ?_
  have o_p3_3 := (((o_p3.other W1 (Ne.symm ne_p2_p3)).other W2 (Ne.symm ne_p2_p3)).other W3 (Ne.symm ne_p0_p3))
  refine z_iastore C (z := (5 : Int32)) o_p3_3 rq2 rq3 rfl (vs' := (List.set (va1) (y0).toNatClampNeg (.int 5))) rfl g_p3 z_d40_32 33 rfl ?_
  intro h4 W4 o_p3_4
  have s4 : h4.size = h3.size := W4.size
  have k4 : Keep h h4 [p2, p0, p3] := k3.wr W4 (Or.inl (by simp))
  have o_p0_4 := (o_p0_3.other W4 ne_p0_p3)
  have o_p2_4 := ((o_p2_2.other W3 (Ne.symm ne_p0_p2)).other W4 ne_p2_p3)
  exact z_return C z_d40_33 (by decide) (by decide) ⟨rfl, k4, o_p0_4, o_p2_4, o_p3_4⟩
set_option maxHeartbeats 2000000 in
theorem z_c39_97 (hw : z_T Z a0) (S : z_St Z a_DEF a_ONE a_NONE) (z0 : n0 ≤ h.size) (old : Old Z n0 h) (y0 : Int32) (va0 : List Value) (va1 : List Value) (p0 : Nat) (p1 : Nat) (p2 : Nat) (p3 : Nat) (p4 : Nat) (p5 : Nat) (p6 : Nat) (p7 : Nat) (p8 : Nat) (p9 : Nat) (p10 : Nat) (o_p0 : z_Ob Z h p0 "com/example/variegate/variegate/service/Propagation" z_lay3 [(.int 3), (.ref p1), (.ref p2), (.ref p3), (.ref p4), (.ref p5), (.ref p6), (.ref p7), (.ref p8), (.ref p9), (.ref p10), (.int y0), (.int 0)]) (o_p2 : z_Ar Z h p2 .byte "[B" "" va0) (o_p3 : z_Ar Z h p3 .int "[I" "" va1) (ne_p0_p2 : p0 ≠ p2) (ne_p2_p3 : p2 ≠ p3) (ne_p0_p3 : p0 ≠ p3) (g_p2 : n0 ≤ p2) (g_p0 : n0 ≤ p0) (g_p3 : n0 ≤ p3) (rq0 : ((5 : Int32)).toNatClampNeg < ((va0)).length) (rq1 : ((4 : Int32)).toNatClampNeg < ((List.set ((va0)) ((5 : Int32)).toNatClampNeg (.int 1))).length) (rq2 : ¬ y0 < 0) (rq3 : (y0).toNatClampNeg < ((va1)).length) :
    z_Met l Z (⟨"com/example/variegate/variegate/service/PropagationSatisfiedPinLaw", "set", "(Lcom/example/variegate/variegate/service/Propagation;II)V"⟩ : MethodName) method_3_code 3 none [] ({ frames := 1, cells := 0, slots := 0, locals := 13 } : Room) n0 #[(.ref p0), (.int 2), (.int 2)] h (z_nov fun h' => Keep h h' [p3, p0, p2] ∧ z_Ob Z h' p0 "com/example/variegate/variegate/service/Propagation" z_lay3 [(.int 3), (.ref p1), (.ref p2), (.ref p3), (.ref p4), (.ref p5), (.ref p6), (.ref p7), (.ref p8), (.ref p9), (.ref p10), (.int (y0 + (1 : Int32))), (.int 0)] ∧ z_Ar Z h' p2 .byte "[B" "" (List.set ((List.set ((va0)) ((5 : Int32)).toNatClampNeg (.int 1))) ((4 : Int32)).toNatClampNeg (.int (-1))) ∧ z_Ar Z h' p3 .int "[I" "" (List.set ((va1)) (y0).toNatClampNeg (.int 5))) := by
  refine z_met (Ls := #[.val (.ref p0), .val (.int 2), .val (.int 2)]) (by first | exact plainFor_of_name (by first | (simp [plainName, overriddenIn]; done) | decide +kernel) | decide +kernel) rfl ?_
  intro p e s m below meth c C
  refine z_iloadN C z_d39_0 rfl 1 rfl ?_
  refine z_iconst C (v := (1 : Int32)) z_d39_1 (by decide) 2 rfl ?_
  refine z_icmpY C z_d39_2 (by decide) (by decide) 15 (by decide) ?_
  refine z_iloadN C z_d39_15 rfl 16 rfl ?_
  refine z_iconst C (v := (2 : Int32)) z_d39_16 (by decide) 17 rfl ?_
  refine z_icmpN C z_d39_17 (by decide) 20 rfl ?_
  refine z_aloadN C z_d39_20 rfl rfl 21 rfl ?_
  refine z_iconst C (v := (2 : Int32)) z_d39_21 (by decide) 22 rfl ?_
  refine z_iloadN C z_d39_22 rfl 23 rfl ?_
  refine z_imul C (z := (4 : Int32)) z_d39_23 (by decide) 24 rfl ?_
  refine z_iconst C (v := (1 : Int32)) z_d39_24 (by decide) 25 rfl ?_
  refine z_iadd C (z := (5 : Int32)) z_d39_25 (by decide) 26 rfl ?_
  refine z_callVV C o_p0.1 (z_c40_96 l hw S z0 old y0 (va0) (va1) p0 p1 p2 p3 p4 p5 p6 p7 p8 p9 p10 o_p0 o_p2 o_p3 ne_p0_p2 ne_p2_p3 ne_p0_p3 g_p2 g_p0 g_p3 rq0 rq1 rq2 rq3) (z_w hw 298 rfl) (z_w hw 299 rfl) (z_w hw 301 rfl) (z_w hw 300 rfl) (z_w hw 138 rfl) (z_w hw 302 rfl) (by decide) z_d39_26 rfl (argsL := [(.int 5)]) (rest := []) rfl (lenOf z_pd2 rfl) (W := 0) (Nat.le_of_eq rfl) (by decide) (by decide) (by decide) (by decide) 29 rfl ?_
  rintro h1 ⟨K1, o_p0_1, o_p2_1, o_p3_1⟩
  have s1 : h.size ≤ h1.size := K1.1
  have k1 : Keep h h1 [p3, p0, p2] := (Keep.refl h [p3, p0, p2]).trans K1 (allS (Or.inl (by simp)) (allS (Or.inl (by simp)) (allS (Or.inl (by simp)) all0)))
  exact z_return C z_d39_29 (by decide) (by decide) ⟨rfl, k1, o_p0_1, o_p2_1, o_p3_1⟩
set_option maxHeartbeats 2000000 in
theorem z_set2 (hw : z_T Z a0) (S : z_St Z a_DEF a_ONE a_NONE) (z0 : n0 ≤ h.size) (old : Old Z n0 h) (y0 : Int32) (va0 : List Value) (va1 : List Value) (p0 : Nat) (p1 : Nat) (p2 : Nat) (p3 : Nat) (p4 : Nat) (p5 : Nat) (p6 : Nat) (p7 : Nat) (p8 : Nat) (p9 : Nat) (p10 : Nat) (o_p0 : z_Ob Z h p0 "com/example/variegate/variegate/service/Propagation" z_lay3 [(.int 3), (.ref p1), (.ref p2), (.ref p3), (.ref p4), (.ref p5), (.ref p6), (.ref p7), (.ref p8), (.ref p9), (.ref p10), (.int y0), (.int 0)]) (o_p2 : z_Ar Z h p2 .byte "[B" "" va0) (o_p3 : z_Ar Z h p3 .int "[I" "" va1) (ne_p0_p2 : p0 ≠ p2) (ne_p2_p3 : p2 ≠ p3) (ne_p0_p3 : p0 ≠ p3) (g_p2 : n0 ≤ p2) (g_p0 : n0 ≤ p0) (g_p3 : n0 ≤ p3) (t : Int32) (ht : t = 0 ∨ t = 1 ∨ t = 2) (hn : y0 = 0 ∨ y0 = 1) (hv8 : va0.length = 8) (ht4 : va1.length = 4) :
    z_Met l Z (⟨"com/example/variegate/variegate/service/PropagationSatisfiedPinLaw", "set", "(Lcom/example/variegate/variegate/service/Propagation;II)V"⟩ : MethodName) method_3_code 3 none [] ({ frames := 1, cells := 0, slots := 0, locals := 13 } : Room) n0 #[(.ref p0), (.int 2), (.int t)] h (z_nov fun h' => ∃ n' : Int32, ∃ vt' : List Value, (n' = 0 ∨ n' = 1 ∨ n' = 2) ∧ vt'.length = 4 ∧ Keep h h' [p0, p2, p3] ∧ z_Ob Z h' p0 "com/example/variegate/variegate/service/Propagation" z_lay3 [(.int 3), (.ref p1), (.ref p2), (.ref p3), (.ref p4), (.ref p5), (.ref p6), (.ref p7), (.ref p8), (.ref p9), (.ref p10), (.int n'), (.int 0)] ∧ z_Ar Z h' p2 .byte "[B" "" (z_sv (2 : Int32) t va0) ∧ z_Ar Z h' p3 .int "[I" "" vt') := by
  rcases ht with ht | ht | ht
  · subst ht
    refine z_mono (z_c39_93 l hw S z0 old p0) ?_
    rintro _ h' ⟨rfl, K⟩
    exact ⟨rfl, y0, va1, (by rcases hn with q | q <;> simp [q]), ht4, (Keep.refl h [p0, p2, p3]).trans K all0, o_p0.keep K nin0, (show z_sv (2 : Int32) 0 va0 = va0 from rfl) ▸ o_p2.keep K nin0, o_p3.keep K nin0⟩
  · subst ht
    refine z_mono (z_c39_95 l hw S z0 old y0 va0 va1 p0 p1 p2 p3 p4 p5 p6 p7 p8 p9 p10 o_p0 o_p2 o_p3 ne_p0_p2 ne_p2_p3 ne_p0_p3 g_p2 g_p0 g_p3 (by simp only [List.length_set, hv8]; decide) (by simp only [List.length_set, hv8]; decide) (by rcases hn with rfl | rfl <;> decide) (by simp only [List.length_set, ht4]; rcases hn with rfl | rfl <;> decide)) ?_
    rintro _ h' ⟨rfl, K, f_p0, f_p2, f_p3⟩
    exact ⟨rfl, _, _, (by rcases hn with q | q <;> (subst q; decide)), (by simp only [List.length_set]; exact ht4), (Keep.refl h [p0, p2, p3]).trans K (allS (Or.inl (by simp)) (allS (Or.inl (by simp)) (allS (Or.inl (by simp)) all0))), f_p0, f_p2, f_p3⟩
  · subst ht
    refine z_mono (z_c39_97 l hw S z0 old y0 va0 va1 p0 p1 p2 p3 p4 p5 p6 p7 p8 p9 p10 o_p0 o_p2 o_p3 ne_p0_p2 ne_p2_p3 ne_p0_p3 g_p2 g_p0 g_p3 (by simp only [List.length_set, hv8]; decide) (by simp only [List.length_set, hv8]; decide) (by rcases hn with rfl | rfl <;> decide) (by simp only [List.length_set, ht4]; rcases hn with rfl | rfl <;> decide)) ?_
    rintro _ h' ⟨rfl, K, f_p0, f_p2, f_p3⟩
    exact ⟨rfl, _, _, (by rcases hn with q | q <;> (subst q; decide)), (by simp only [List.length_set]; exact ht4), (Keep.refl h [p0, p2, p3]).trans K (allS (Or.inl (by simp)) (allS (Or.inl (by simp)) (allS (Or.inl (by simp)) all0))), f_p0, f_p2, f_p3⟩
set_option maxHeartbeats 2000000 in
theorem z_c39_98 (hw : z_T Z a0) (S : z_St Z a_DEF a_ONE a_NONE) (z0 : n0 ≤ h.size) (old : Old Z n0 h) (p0 : Nat) :
    z_Met l Z (⟨"com/example/variegate/variegate/service/PropagationSatisfiedPinLaw", "set", "(Lcom/example/variegate/variegate/service/Propagation;II)V"⟩ : MethodName) method_3_code 3 none [] ({ frames := 1, cells := 0, slots := 0, locals := 13 } : Room) n0 #[(.ref p0), (.int 3), (.int 0)] h (z_nov fun h' => Keep h h' []) := by
  refine z_met (Ls := #[.val (.ref p0), .val (.int 3), .val (.int 0)]) (by first | exact plainFor_of_name (by first | (simp [plainName, overriddenIn]; done) | decide +kernel) | decide +kernel) rfl ?_
  intro p e s m below meth c C
  refine z_iloadN C z_d39_0 rfl 1 rfl ?_
  refine z_iconst C (v := (1 : Int32)) z_d39_1 (by decide) 2 rfl ?_
  refine z_icmpY C z_d39_2 (by decide) (by decide) 15 (by decide) ?_
  refine z_iloadN C z_d39_15 rfl 16 rfl ?_
  refine z_iconst C (v := (2 : Int32)) z_d39_16 (by decide) 17 rfl ?_
  refine z_icmpY C z_d39_17 (by decide) (by decide) 29 (by decide) ?_
  exact z_return C z_d39_29 (by decide) (by decide) ⟨rfl, (Keep.refl h [])⟩
set_option maxHeartbeats 2000000 in
theorem z_c40_99 (hw : z_T Z a0) (S : z_St Z a_DEF a_ONE a_NONE) (z0 : n0 ≤ h.size) (old : Old Z n0 h) (y0 : Int32) (va0 : List Value) (va1 : List Value) (p0 : Nat) (p1 : Nat) (p2 : Nat) (p3 : Nat) (p4 : Nat) (p5 : Nat) (p6 : Nat) (p7 : Nat) (p8 : Nat) (p9 : Nat) (p10 : Nat) (o_p0 : z_Ob Z h p0 "com/example/variegate/variegate/service/Propagation" z_lay3 [(.int 3), (.ref p1), (.ref p2), (.ref p3), (.ref p4), (.ref p5), (.ref p6), (.ref p7), (.ref p8), (.ref p9), (.ref p10), (.int y0), (.int 0)]) (o_p2 : z_Ar Z h p2 .byte "[B" "" va0) (o_p3 : z_Ar Z h p3 .int "[I" "" va1) (ne_p0_p2 : p0 ≠ p2) (ne_p2_p3 : p2 ≠ p3) (ne_p0_p3 : p0 ≠ p3) (g_p2 : n0 ≤ p2) (g_p0 : n0 ≤ p0) (g_p3 : n0 ≤ p3) (rq0 : ((6 : Int32)).toNatClampNeg < (va0).length) (rq1 : ((7 : Int32)).toNatClampNeg < ((List.set (va0) ((6 : Int32)).toNatClampNeg (.int 1))).length) (rq2 : ¬ y0 < 0) (rq3 : (y0).toNatClampNeg < (va1).length) :
    z_Met l Z (⟨"com/example/variegate/variegate/service/Propagation", "assign", "(I)V"⟩ : MethodName) prog_97_method_10_code 2 none [] ({ frames := 0, cells := 0, slots := 0, locals := 0 } : Room) n0 #[(.ref p0), (.int 6)] h (z_nov fun h' => Keep h h' [p2, p0, p3] ∧ z_Ob Z h' p0 "com/example/variegate/variegate/service/Propagation" z_lay3 [(.int 3), (.ref p1), (.ref p2), (.ref p3), (.ref p4), (.ref p5), (.ref p6), (.ref p7), (.ref p8), (.ref p9), (.ref p10), (.int (y0 + (1 : Int32))), (.int 0)] ∧ z_Ar Z h' p2 .byte "[B" "" (List.set ((List.set (va0) ((6 : Int32)).toNatClampNeg (.int 1))) ((7 : Int32)).toNatClampNeg (.int (-1))) ∧ z_Ar Z h' p3 .int "[I" "" (List.set (va1) (y0).toNatClampNeg (.int 6))) := by
  refine z_met (Ls := #[.val (.ref p0), .val (.int 6)]) (by first | exact plainFor_of_name (by first | (simp [plainName, overriddenIn]; done) | decide +kernel) | decide +kernel) rfl ?_
  intro p e s m below meth c C
  refine z_aloadN C z_d40_0 rfl rfl 1 rfl ?_
  refine z_getO C (z_w hw 183 rfl) Via.refl o_p0 2 rfl rfl z_d40_1 4 rfl ?_
  refine z_iloadN C z_d40_4 rfl 5 rfl ?_
  refine z_iconst C (v := (1 : Int32)) z_d40_5 (by decide) 6 rfl ?_
  refine z_bastore C (z := (1 : Int32)) o_p2 (by decide) rq0 (by decide) (vs' := (List.set (va0) ((6 : Int32)).toNatClampNeg (.int 1))) rfl g_p2 z_d40_6 7 rfl ?_
  intro h1 W1 o_p2_1
  have s1 : h1.size = h.size := W1.size
  have k1 : Keep h h1 [p2, p0, p3] := (Keep.refl h [p2, p0, p3]).wr W1 (Or.inl (by simp))
  refine z_aloadN C z_d40_7 rfl rfl 8 rfl ?_
  have o_p0_1 := (o_p0.other W1 ne_p0_p2)
  refine z_getO C (z_w hw 183 rfl) Via.refl o_p0_1 2 rfl rfl z_d40_8 11 rfl ?_
  refine z_iloadN C z_d40_11 rfl 12 rfl ?_
  refine z_iconst C (v := (1 : Int32)) z_d40_12 (by decide) 13 rfl ?_
  refine z_ixor C (z := (7 : Int32)) z_d40_13 (by decide) 14 rfl ?_
  refine z_iconst C (v := (-1 : Int32)) z_d40_14 (by decide) 15 rfl ?_
  refine z_bastore C (z := (-1 : Int32)) o_p2_1 (by decide) rq1 (by decide) (vs' := (List.set ((List.set (va0) ((6 : Int32)).toNatClampNeg (.int 1))) ((7 : Int32)).toNatClampNeg (.int (-1)))) rfl g_p2 z_d40_15 16 rfl ?_
  intro h2 W2 o_p2_2
  have s2 : h2.size = h1.size := W2.size
  have k2 : Keep h h2 [p2, p0, p3] := k1.wr W2 (Or.inl (by simp))
  refine z_aloadN C z_d40_16 rfl rfl 17 rfl ?_
  have o_p0_2 := (o_p0_1.other W2 ne_p0_p2)
  refine z_getO C (z_w hw 185 rfl) Via.refl o_p0_2 3 rfl rfl z_d40_17 20 rfl ?_
  refine z_aloadN C z_d40_20 rfl rfl 21 rfl ?_
  refine z_dup C z_d40_21 rfl 22 rfl ?_
  refine z_getO C (z_w hw 303 rfl) Via.refl o_p0_2 11 rfl rfl z_d40_22 25 rfl ?_
  refine z_dup_x1 C z_d40_25 rfl rfl 26 rfl ?_
  refine z_iconst C (v := (1 : Int32)) z_d40_26 (by decide) 27 rfl ?_
  refine z_iadd C z_d40_27 rfl 28 rfl ?_
  refine z_putO C (z_w hw 303 rfl) Via.refl o_p0_2 (z_lay3_ok hw) 11 rfl (vs' := [(.int 3), (.ref p1), (.ref p2), (.ref p3), (.ref p4), (.ref p5), (.ref p6), (.ref p7), (.ref p8), (.ref p9), (.ref p10), (.int (y0 + (1 : Int32))), (.int 0)]) rfl (Or.inl (z_w hw 304 rfl)) (z_w hw 137 rfl) (ty := .int) (by decide) (by first | rfl | decide) (by first | rfl | decide) g_p0 z_d40_28 31 rfl ?_
  intro h3 W3 o_p0_3
  have s3 : h3.size = h2.size := W3.size
  have k3 : Keep h h3 [p2, p0, p3] := k2.wr W3 (Or.inl (by simp))
  refine z_iloadN C z_d40_31 rfl 32 rfl ?_
  have o_p3_3 := (((o_p3.other W1 (Ne.symm ne_p2_p3)).other W2 (Ne.symm ne_p2_p3)).other W3 (Ne.symm ne_p0_p3))
  refine z_iastore C (z := (6 : Int32)) o_p3_3 rq2 rq3 rfl (vs' := (List.set (va1) (y0).toNatClampNeg (.int 6))) rfl g_p3 z_d40_32 33 rfl ?_
  intro h4 W4 o_p3_4
  have s4 : h4.size = h3.size := W4.size
  have k4 : Keep h h4 [p2, p0, p3] := k3.wr W4 (Or.inl (by simp))
  have o_p0_4 := (o_p0_3.other W4 ne_p0_p3)
  have o_p2_4 := ((o_p2_2.other W3 (Ne.symm ne_p0_p2)).other W4 ne_p2_p3)
  exact z_return C z_d40_33 (by decide) (by decide) ⟨rfl, k4, o_p0_4, o_p2_4, o_p3_4⟩
set_option maxHeartbeats 2000000 in
theorem z_c39_100 (hw : z_T Z a0) (S : z_St Z a_DEF a_ONE a_NONE) (z0 : n0 ≤ h.size) (old : Old Z n0 h) (y0 : Int32) (va0 : List Value) (va1 : List Value) (p0 : Nat) (p1 : Nat) (p2 : Nat) (p3 : Nat) (p4 : Nat) (p5 : Nat) (p6 : Nat) (p7 : Nat) (p8 : Nat) (p9 : Nat) (p10 : Nat) (o_p0 : z_Ob Z h p0 "com/example/variegate/variegate/service/Propagation" z_lay3 [(.int 3), (.ref p1), (.ref p2), (.ref p3), (.ref p4), (.ref p5), (.ref p6), (.ref p7), (.ref p8), (.ref p9), (.ref p10), (.int y0), (.int 0)]) (o_p2 : z_Ar Z h p2 .byte "[B" "" va0) (o_p3 : z_Ar Z h p3 .int "[I" "" va1) (ne_p0_p2 : p0 ≠ p2) (ne_p2_p3 : p2 ≠ p3) (ne_p0_p3 : p0 ≠ p3) (g_p2 : n0 ≤ p2) (g_p0 : n0 ≤ p0) (g_p3 : n0 ≤ p3) (rq0 : ((6 : Int32)).toNatClampNeg < ((va0)).length) (rq1 : ((7 : Int32)).toNatClampNeg < ((List.set ((va0)) ((6 : Int32)).toNatClampNeg (.int 1))).length) (rq2 : ¬ y0 < 0) (rq3 : (y0).toNatClampNeg < ((va1)).length) :
    z_Met l Z (⟨"com/example/variegate/variegate/service/PropagationSatisfiedPinLaw", "set", "(Lcom/example/variegate/variegate/service/Propagation;II)V"⟩ : MethodName) method_3_code 3 none [] ({ frames := 1, cells := 0, slots := 0, locals := 13 } : Room) n0 #[(.ref p0), (.int 3), (.int 1)] h (z_nov fun h' => Keep h h' [p3, p0, p2] ∧ z_Ob Z h' p0 "com/example/variegate/variegate/service/Propagation" z_lay3 [(.int 3), (.ref p1), (.ref p2), (.ref p3), (.ref p4), (.ref p5), (.ref p6), (.ref p7), (.ref p8), (.ref p9), (.ref p10), (.int (y0 + (1 : Int32))), (.int 0)] ∧ z_Ar Z h' p2 .byte "[B" "" (List.set ((List.set ((va0)) ((6 : Int32)).toNatClampNeg (.int 1))) ((7 : Int32)).toNatClampNeg (.int (-1))) ∧ z_Ar Z h' p3 .int "[I" "" (List.set ((va1)) (y0).toNatClampNeg (.int 6))) := by
  refine z_met (Ls := #[.val (.ref p0), .val (.int 3), .val (.int 1)]) (by first | exact plainFor_of_name (by first | (simp [plainName, overriddenIn]; done) | decide +kernel) | decide +kernel) rfl ?_
  intro p e s m below meth c C
  refine z_iloadN C z_d39_0 rfl 1 rfl ?_
  refine z_iconst C (v := (1 : Int32)) z_d39_1 (by decide) 2 rfl ?_
  refine z_icmpN C z_d39_2 (by decide) 5 rfl ?_
  refine z_aloadN C z_d39_5 rfl rfl 6 rfl ?_
  refine z_iconst C (v := (2 : Int32)) z_d39_6 (by decide) 7 rfl ?_
  refine z_iloadN C z_d39_7 rfl 8 rfl ?_
  refine z_imul C (z := (6 : Int32)) z_d39_8 (by decide) 9 rfl ?_
  refine z_callVV C o_p0.1 (z_c40_99 l hw S z0 old y0 (va0) (va1) p0 p1 p2 p3 p4 p5 p6 p7 p8 p9 p10 o_p0 o_p2 o_p3 ne_p0_p2 ne_p2_p3 ne_p0_p3 g_p2 g_p0 g_p3 rq0 rq1 rq2 rq3) (z_w hw 298 rfl) (z_w hw 299 rfl) (z_w hw 301 rfl) (z_w hw 300 rfl) (z_w hw 138 rfl) (z_w hw 302 rfl) (by decide) z_d39_9 rfl (argsL := [(.int 6)]) (rest := []) rfl (lenOf z_pd2 rfl) (W := 0) (Nat.le_of_eq rfl) (by decide) (by decide) (by decide) (by decide) 12 rfl ?_
  rintro h1 ⟨K1, o_p0_1, o_p2_1, o_p3_1⟩
  have s1 : h.size ≤ h1.size := K1.1
  have k1 : Keep h h1 [p3, p0, p2] := (Keep.refl h [p3, p0, p2]).trans K1 (allS (Or.inl (by simp)) (allS (Or.inl (by simp)) (allS (Or.inl (by simp)) all0)))
  refine z_goto C z_d39_12 (by decide) 29 (by decide) ?_
  exact z_return C z_d39_29 (by decide) (by decide) ⟨rfl, k1, o_p0_1, o_p2_1, o_p3_1⟩
set_option maxHeartbeats 2000000 in
theorem z_c40_101 (hw : z_T Z a0) (S : z_St Z a_DEF a_ONE a_NONE) (z0 : n0 ≤ h.size) (old : Old Z n0 h) (y0 : Int32) (va0 : List Value) (va1 : List Value) (p0 : Nat) (p1 : Nat) (p2 : Nat) (p3 : Nat) (p4 : Nat) (p5 : Nat) (p6 : Nat) (p7 : Nat) (p8 : Nat) (p9 : Nat) (p10 : Nat) (o_p0 : z_Ob Z h p0 "com/example/variegate/variegate/service/Propagation" z_lay3 [(.int 3), (.ref p1), (.ref p2), (.ref p3), (.ref p4), (.ref p5), (.ref p6), (.ref p7), (.ref p8), (.ref p9), (.ref p10), (.int y0), (.int 0)]) (o_p2 : z_Ar Z h p2 .byte "[B" "" va0) (o_p3 : z_Ar Z h p3 .int "[I" "" va1) (ne_p0_p2 : p0 ≠ p2) (ne_p2_p3 : p2 ≠ p3) (ne_p0_p3 : p0 ≠ p3) (g_p2 : n0 ≤ p2) (g_p0 : n0 ≤ p0) (g_p3 : n0 ≤ p3) (rq0 : ((7 : Int32)).toNatClampNeg < (va0).length) (rq1 : ((6 : Int32)).toNatClampNeg < ((List.set (va0) ((7 : Int32)).toNatClampNeg (.int 1))).length) (rq2 : ¬ y0 < 0) (rq3 : (y0).toNatClampNeg < (va1).length) :
    z_Met l Z (⟨"com/example/variegate/variegate/service/Propagation", "assign", "(I)V"⟩ : MethodName) prog_97_method_10_code 2 none [] ({ frames := 0, cells := 0, slots := 0, locals := 0 } : Room) n0 #[(.ref p0), (.int 7)] h (z_nov fun h' => Keep h h' [p2, p0, p3] ∧ z_Ob Z h' p0 "com/example/variegate/variegate/service/Propagation" z_lay3 [(.int 3), (.ref p1), (.ref p2), (.ref p3), (.ref p4), (.ref p5), (.ref p6), (.ref p7), (.ref p8), (.ref p9), (.ref p10), (.int (y0 + (1 : Int32))), (.int 0)] ∧ z_Ar Z h' p2 .byte "[B" "" (List.set ((List.set (va0) ((7 : Int32)).toNatClampNeg (.int 1))) ((6 : Int32)).toNatClampNeg (.int (-1))) ∧ z_Ar Z h' p3 .int "[I" "" (List.set (va1) (y0).toNatClampNeg (.int 7))) := by
  refine z_met (Ls := #[.val (.ref p0), .val (.int 7)]) (by first | exact plainFor_of_name (by first | (simp [plainName, overriddenIn]; done) | decide +kernel) | decide +kernel) rfl ?_
  intro p e s m below meth c C
  refine z_aloadN C z_d40_0 rfl rfl 1 rfl ?_
  refine z_getO C (z_w hw 183 rfl) Via.refl o_p0 2 rfl rfl z_d40_1 4 rfl ?_
  refine z_iloadN C z_d40_4 rfl 5 rfl ?_
  refine z_iconst C (v := (1 : Int32)) z_d40_5 (by decide) 6 rfl ?_
  refine z_bastore C (z := (1 : Int32)) o_p2 (by decide) rq0 (by decide) (vs' := (List.set (va0) ((7 : Int32)).toNatClampNeg (.int 1))) rfl g_p2 z_d40_6 7 rfl ?_
  intro h1 W1 o_p2_1
  have s1 : h1.size = h.size := W1.size
  have k1 : Keep h h1 [p2, p0, p3] := (Keep.refl h [p2, p0, p3]).wr W1 (Or.inl (by simp))
  refine z_aloadN C z_d40_7 rfl rfl 8 rfl ?_
  have o_p0_1 := (o_p0.other W1 ne_p0_p2)
  refine z_getO C (z_w hw 183 rfl) Via.refl o_p0_1 2 rfl rfl z_d40_8 11 rfl ?_
  refine z_iloadN C z_d40_11 rfl 12 rfl ?_
  refine z_iconst C (v := (1 : Int32)) z_d40_12 (by decide) 13 rfl ?_
  refine z_ixor C (z := (6 : Int32)) z_d40_13 (by decide) 14 rfl ?_
  refine z_iconst C (v := (-1 : Int32)) z_d40_14 (by decide) 15 rfl ?_
  refine z_bastore C (z := (-1 : Int32)) o_p2_1 (by decide) rq1 (by decide) (vs' := (List.set ((List.set (va0) ((7 : Int32)).toNatClampNeg (.int 1))) ((6 : Int32)).toNatClampNeg (.int (-1)))) rfl g_p2 z_d40_15 16 rfl ?_
  intro h2 W2 o_p2_2
  have s2 : h2.size = h1.size := W2.size
  have k2 : Keep h h2 [p2, p0, p3] := k1.wr W2 (Or.inl (by simp))
  refine z_aloadN C z_d40_16 rfl rfl 17 rfl ?_
  have o_p0_2 := (o_p0_1.other W2 ne_p0_p2)
  refine z_getO C (z_w hw 185 rfl) Via.refl o_p0_2 3 rfl rfl z_d40_17 20 rfl ?_
  refine z_aloadN C z_d40_20 rfl rfl 21 rfl ?_
  refine z_dup C z_d40_21 rfl 22 rfl ?_
  refine z_getO C (z_w hw 303 rfl) Via.refl o_p0_2 11 rfl rfl z_d40_22 25 rfl ?_
  refine z_dup_x1 C z_d40_25 rfl rfl 26 rfl ?_
  refine z_iconst C (v := (1 : Int32)) z_d40_26 (by decide) 27 rfl ?_
  refine z_iadd C z_d40_27 rfl 28 rfl ?_
  refine z_putO C (z_w hw 303 rfl) Via.refl o_p0_2 (z_lay3_ok hw) 11 rfl (vs' := [(.int 3), (.ref p1), (.ref p2), (.ref p3), (.ref p4), (.ref p5), (.ref p6), (.ref p7), (.ref p8), (.ref p9), (.ref p10), (.int (y0 + (1 : Int32))), (.int 0)]) rfl (Or.inl (z_w hw 304 rfl)) (z_w hw 137 rfl) (ty := .int) (by decide) (by first | rfl | decide) (by first | rfl | decide) g_p0 z_d40_28 31 rfl ?_
  intro h3 W3 o_p0_3
  have s3 : h3.size = h2.size := W3.size
  have k3 : Keep h h3 [p2, p0, p3] := k2.wr W3 (Or.inl (by simp))
  refine z_iloadN C z_d40_31 rfl 32 rfl ?_
  have o_p3_3 := (((o_p3.other W1 (Ne.symm ne_p2_p3)).other W2 (Ne.symm ne_p2_p3)).other W3 (Ne.symm ne_p0_p3))
  refine z_iastore C (z := (7 : Int32)) o_p3_3 rq2 rq3 rfl (vs' := (List.set (va1) (y0).toNatClampNeg (.int 7))) rfl g_p3 z_d40_32 33 rfl ?_
  intro h4 W4 o_p3_4
  have s4 : h4.size = h3.size := W4.size
  have k4 : Keep h h4 [p2, p0, p3] := k3.wr W4 (Or.inl (by simp))
  have o_p0_4 := (o_p0_3.other W4 ne_p0_p3)
  have o_p2_4 := ((o_p2_2.other W3 (Ne.symm ne_p0_p2)).other W4 ne_p2_p3)
  exact z_return C z_d40_33 (by decide) (by decide) ⟨rfl, k4, o_p0_4, o_p2_4, o_p3_4⟩
set_option maxHeartbeats 2000000 in
theorem z_c39_102 (hw : z_T Z a0) (S : z_St Z a_DEF a_ONE a_NONE) (z0 : n0 ≤ h.size) (old : Old Z n0 h) (y0 : Int32) (va0 : List Value) (va1 : List Value) (p0 : Nat) (p1 : Nat) (p2 : Nat) (p3 : Nat) (p4 : Nat) (p5 : Nat) (p6 : Nat) (p7 : Nat) (p8 : Nat) (p9 : Nat) (p10 : Nat) (o_p0 : z_Ob Z h p0 "com/example/variegate/variegate/service/Propagation" z_lay3 [(.int 3), (.ref p1), (.ref p2), (.ref p3), (.ref p4), (.ref p5), (.ref p6), (.ref p7), (.ref p8), (.ref p9), (.ref p10), (.int y0), (.int 0)]) (o_p2 : z_Ar Z h p2 .byte "[B" "" va0) (o_p3 : z_Ar Z h p3 .int "[I" "" va1) (ne_p0_p2 : p0 ≠ p2) (ne_p2_p3 : p2 ≠ p3) (ne_p0_p3 : p0 ≠ p3) (g_p2 : n0 ≤ p2) (g_p0 : n0 ≤ p0) (g_p3 : n0 ≤ p3) (rq0 : ((7 : Int32)).toNatClampNeg < ((va0)).length) (rq1 : ((6 : Int32)).toNatClampNeg < ((List.set ((va0)) ((7 : Int32)).toNatClampNeg (.int 1))).length) (rq2 : ¬ y0 < 0) (rq3 : (y0).toNatClampNeg < ((va1)).length) :
    z_Met l Z (⟨"com/example/variegate/variegate/service/PropagationSatisfiedPinLaw", "set", "(Lcom/example/variegate/variegate/service/Propagation;II)V"⟩ : MethodName) method_3_code 3 none [] ({ frames := 1, cells := 0, slots := 0, locals := 13 } : Room) n0 #[(.ref p0), (.int 3), (.int 2)] h (z_nov fun h' => Keep h h' [p3, p0, p2] ∧ z_Ob Z h' p0 "com/example/variegate/variegate/service/Propagation" z_lay3 [(.int 3), (.ref p1), (.ref p2), (.ref p3), (.ref p4), (.ref p5), (.ref p6), (.ref p7), (.ref p8), (.ref p9), (.ref p10), (.int (y0 + (1 : Int32))), (.int 0)] ∧ z_Ar Z h' p2 .byte "[B" "" (List.set ((List.set ((va0)) ((7 : Int32)).toNatClampNeg (.int 1))) ((6 : Int32)).toNatClampNeg (.int (-1))) ∧ z_Ar Z h' p3 .int "[I" "" (List.set ((va1)) (y0).toNatClampNeg (.int 7))) := by
  refine z_met (Ls := #[.val (.ref p0), .val (.int 3), .val (.int 2)]) (by first | exact plainFor_of_name (by first | (simp [plainName, overriddenIn]; done) | decide +kernel) | decide +kernel) rfl ?_
  intro p e s m below meth c C
  refine z_iloadN C z_d39_0 rfl 1 rfl ?_
  refine z_iconst C (v := (1 : Int32)) z_d39_1 (by decide) 2 rfl ?_
  refine z_icmpY C z_d39_2 (by decide) (by decide) 15 (by decide) ?_
  refine z_iloadN C z_d39_15 rfl 16 rfl ?_
  refine z_iconst C (v := (2 : Int32)) z_d39_16 (by decide) 17 rfl ?_
  refine z_icmpN C z_d39_17 (by decide) 20 rfl ?_
  refine z_aloadN C z_d39_20 rfl rfl 21 rfl ?_
  refine z_iconst C (v := (2 : Int32)) z_d39_21 (by decide) 22 rfl ?_
  refine z_iloadN C z_d39_22 rfl 23 rfl ?_
  refine z_imul C (z := (6 : Int32)) z_d39_23 (by decide) 24 rfl ?_
  refine z_iconst C (v := (1 : Int32)) z_d39_24 (by decide) 25 rfl ?_
  refine z_iadd C (z := (7 : Int32)) z_d39_25 (by decide) 26 rfl ?_
  refine z_callVV C o_p0.1 (z_c40_101 l hw S z0 old y0 (va0) (va1) p0 p1 p2 p3 p4 p5 p6 p7 p8 p9 p10 o_p0 o_p2 o_p3 ne_p0_p2 ne_p2_p3 ne_p0_p3 g_p2 g_p0 g_p3 rq0 rq1 rq2 rq3) (z_w hw 298 rfl) (z_w hw 299 rfl) (z_w hw 301 rfl) (z_w hw 300 rfl) (z_w hw 138 rfl) (z_w hw 302 rfl) (by decide) z_d39_26 rfl (argsL := [(.int 7)]) (rest := []) rfl (lenOf z_pd2 rfl) (W := 0) (Nat.le_of_eq rfl) (by decide) (by decide) (by decide) (by decide) 29 rfl ?_
  rintro h1 ⟨K1, o_p0_1, o_p2_1, o_p3_1⟩
  have s1 : h.size ≤ h1.size := K1.1
  have k1 : Keep h h1 [p3, p0, p2] := (Keep.refl h [p3, p0, p2]).trans K1 (allS (Or.inl (by simp)) (allS (Or.inl (by simp)) (allS (Or.inl (by simp)) all0)))
  exact z_return C z_d39_29 (by decide) (by decide) ⟨rfl, k1, o_p0_1, o_p2_1, o_p3_1⟩
set_option maxHeartbeats 2000000 in
theorem z_set3 (hw : z_T Z a0) (S : z_St Z a_DEF a_ONE a_NONE) (z0 : n0 ≤ h.size) (old : Old Z n0 h) (y0 : Int32) (va0 : List Value) (va1 : List Value) (p0 : Nat) (p1 : Nat) (p2 : Nat) (p3 : Nat) (p4 : Nat) (p5 : Nat) (p6 : Nat) (p7 : Nat) (p8 : Nat) (p9 : Nat) (p10 : Nat) (o_p0 : z_Ob Z h p0 "com/example/variegate/variegate/service/Propagation" z_lay3 [(.int 3), (.ref p1), (.ref p2), (.ref p3), (.ref p4), (.ref p5), (.ref p6), (.ref p7), (.ref p8), (.ref p9), (.ref p10), (.int y0), (.int 0)]) (o_p2 : z_Ar Z h p2 .byte "[B" "" va0) (o_p3 : z_Ar Z h p3 .int "[I" "" va1) (ne_p0_p2 : p0 ≠ p2) (ne_p2_p3 : p2 ≠ p3) (ne_p0_p3 : p0 ≠ p3) (g_p2 : n0 ≤ p2) (g_p0 : n0 ≤ p0) (g_p3 : n0 ≤ p3) (t : Int32) (ht : t = 0 ∨ t = 1 ∨ t = 2) (hn : y0 = 0 ∨ y0 = 1 ∨ y0 = 2) (hv8 : va0.length = 8) (ht4 : va1.length = 4) :
    z_Met l Z (⟨"com/example/variegate/variegate/service/PropagationSatisfiedPinLaw", "set", "(Lcom/example/variegate/variegate/service/Propagation;II)V"⟩ : MethodName) method_3_code 3 none [] ({ frames := 1, cells := 0, slots := 0, locals := 13 } : Room) n0 #[(.ref p0), (.int 3), (.int t)] h (z_nov fun h' => ∃ n' : Int32, ∃ vt' : List Value, (n' = n') ∧ vt'.length = 4 ∧ Keep h h' [p0, p2, p3] ∧ z_Ob Z h' p0 "com/example/variegate/variegate/service/Propagation" z_lay3 [(.int 3), (.ref p1), (.ref p2), (.ref p3), (.ref p4), (.ref p5), (.ref p6), (.ref p7), (.ref p8), (.ref p9), (.ref p10), (.int n'), (.int 0)] ∧ z_Ar Z h' p2 .byte "[B" "" (z_sv (3 : Int32) t va0) ∧ z_Ar Z h' p3 .int "[I" "" vt') := by
  rcases ht with ht | ht | ht
  · subst ht
    refine z_mono (z_c39_98 l hw S z0 old p0) ?_
    rintro _ h' ⟨rfl, K⟩
    exact ⟨rfl, y0, va1, (by rcases hn with q | q | q <;> simp [q]), ht4, (Keep.refl h [p0, p2, p3]).trans K all0, o_p0.keep K nin0, (show z_sv (3 : Int32) 0 va0 = va0 from rfl) ▸ o_p2.keep K nin0, o_p3.keep K nin0⟩
  · subst ht
    refine z_mono (z_c39_100 l hw S z0 old y0 va0 va1 p0 p1 p2 p3 p4 p5 p6 p7 p8 p9 p10 o_p0 o_p2 o_p3 ne_p0_p2 ne_p2_p3 ne_p0_p3 g_p2 g_p0 g_p3 (by simp only [List.length_set, hv8]; decide) (by simp only [List.length_set, hv8]; decide) (by rcases hn with rfl | rfl | rfl <;> decide) (by simp only [List.length_set, ht4]; rcases hn with rfl | rfl | rfl <;> decide)) ?_
    rintro _ h' ⟨rfl, K, f_p0, f_p2, f_p3⟩
    exact ⟨rfl, _, _, (by rcases hn with q | q | q <;> (subst q; decide)), (by simp only [List.length_set]; exact ht4), (Keep.refl h [p0, p2, p3]).trans K (allS (Or.inl (by simp)) (allS (Or.inl (by simp)) (allS (Or.inl (by simp)) all0))), f_p0, f_p2, f_p3⟩
  · subst ht
    refine z_mono (z_c39_102 l hw S z0 old y0 va0 va1 p0 p1 p2 p3 p4 p5 p6 p7 p8 p9 p10 o_p0 o_p2 o_p3 ne_p0_p2 ne_p2_p3 ne_p0_p3 g_p2 g_p0 g_p3 (by simp only [List.length_set, hv8]; decide) (by simp only [List.length_set, hv8]; decide) (by rcases hn with rfl | rfl | rfl <;> decide) (by simp only [List.length_set, ht4]; rcases hn with rfl | rfl | rfl <;> decide)) ?_
    rintro _ h' ⟨rfl, K, f_p0, f_p2, f_p3⟩
    exact ⟨rfl, _, _, (by rcases hn with q | q | q <;> (subst q; decide)), (by simp only [List.length_set]; exact ht4), (Keep.refl h [p0, p2, p3]).trans K (allS (Or.inl (by simp)) (allS (Or.inl (by simp)) (allS (Or.inl (by simp)) all0))), f_p0, f_p2, f_p3⟩
set_option maxHeartbeats 2000000 in
theorem z_c41_103 (hw : z_T Z a0) (S : z_St Z a_DEF a_ONE a_NONE) (z0 : n0 ≤ h.size) (old : Old Z n0 h) (y0 : Int32) (y1 : Int32) :
    z_Met l Z (⟨"com/example/variegate/variegate/service/PropagationSatisfiedPinLaw", "holds", "(ZI)Z"⟩ : MethodName) method_4_code 2 (some .boolean) [] ({ frames := 0, cells := 0, slots := 0, locals := 0 } : Room) n0 #[(.int y0), (.int y1)] h (z_pure (.int (z_hd y0 y1)) h) := by
  refine z_met (Ls := #[.val (.int y0), .val (.int y1)]) (by first | exact plainFor_of_name (by first | (simp [plainName, overriddenIn]; done) | decide +kernel) | decide +kernel) rfl ?_
  intro p e s m below meth c C
  refine z_iloadN C z_d41_0 rfl 1 rfl ?_
  by_cases hc1 : y0 = (0 : Int32)
  · refine z_ifY C z_d41_1 ((if0 _ _).trans (teq hc1).1) (by decide) 17 (by decide) ?_
    refine z_iloadN C z_d41_17 rfl 18 rfl ?_
    refine z_iconst C (v := (2 : Int32)) z_d41_18 (by decide) 19 rfl ?_
    by_cases hc19 : y1 = (2 : Int32)
    · refine z_icmpN C z_d41_19 ((teq hc19).2) 22 rfl ?_
      refine z_iconst C (v := (1 : Int32)) z_d41_22 (by decide) 23 rfl ?_
      refine z_goto C z_d41_23 (by decide) 27 (by decide) ?_
      exact z_ireturn C (by simp) rfl z_d41_27 (by decide) (by decide) ⟨congrArg (fun z => some (Value.int z)) (show (1 : Int32) = (z_hd y0 y1) by simp +decide [z_hd, eq_true hc1, eq_true hc19]), rfl⟩
    · refine z_icmpY C z_d41_19 ((feq hc19).2) (by decide) 26 (by decide) ?_
      refine z_iconst C (v := (0 : Int32)) z_d41_26 (by decide) 27 rfl ?_
      exact z_ireturn C (by simp) rfl z_d41_27 (by decide) (by decide) ⟨congrArg (fun z => some (Value.int z)) (show (0 : Int32) = (z_hd y0 y1) by simp +decide [z_hd, eq_true hc1, eq_false hc19]), rfl⟩
  · refine z_ifN C z_d41_1 ((if0 _ _).trans (feq hc1).1) 4 rfl ?_
    refine z_iloadN C z_d41_4 rfl 5 rfl ?_
    refine z_iconst C (v := (1 : Int32)) z_d41_5 (by decide) 6 rfl ?_
    by_cases hc6 : y1 = (1 : Int32)
    · refine z_icmpN C z_d41_6 ((teq hc6).2) 9 rfl ?_
      refine z_iconst C (v := (1 : Int32)) z_d41_9 (by decide) 10 rfl ?_
      refine z_goto C z_d41_10 (by decide) 27 (by decide) ?_
      exact z_ireturn C (by simp) rfl z_d41_27 (by decide) (by decide) ⟨congrArg (fun z => some (Value.int z)) (show (1 : Int32) = (z_hd y0 y1) by simp +decide [z_hd, eq_false hc1, eq_true hc6]), rfl⟩
    · refine z_icmpY C z_d41_6 ((feq hc6).2) (by decide) 13 (by decide) ?_
      refine z_iconst C (v := (0 : Int32)) z_d41_13 (by decide) 14 rfl ?_
      refine z_goto C z_d41_14 (by decide) 27 (by decide) ?_
      exact z_ireturn C (by simp) rfl z_d41_27 (by decide) (by decide) ⟨congrArg (fun z => some (Value.int z)) (show (0 : Int32) = (z_hd y0 y1) by simp +decide [z_hd, eq_false hc1, eq_false hc6]), rfl⟩
set_option maxHeartbeats 2000000 in
theorem z_c42_104 (hw : z_T Z a0) (S : z_St Z a_DEF a_ONE a_NONE) (z0 : n0 ≤ h.size) (old : Old Z n0 h) (y0 : Int32) (y1 : Int32) (y2 : Int32) (y3 : Int32) (y4 : Int32) (y5 : Int32) (y6 : Int32) (va0 : List Value) (p0 : Nat) (p1 : Nat) (p2 : Nat) (p3 : Nat) (p4 : Nat) (p5 : Nat) (p6 : Nat) (p7 : Nat) (p8 : Nat) (p9 : Nat) (p10 : Nat) (o_p0 : z_Ob Z h p0 "com/example/variegate/variegate/service/Propagation" z_lay3 [(.int 3), (.ref p1), (.ref p2), (.ref p3), (.ref p4), (.ref p5), (.ref p6), (.ref p7), (.ref p8), (.ref p9), (.ref p10), (.int y0), (.int 0)]) (o_p7 : z_Ar Z h p7 .int "[I" "" [(.int 0), (.int 3), (.int 6)]) (o_p6 : z_Ar Z h p6 .int "[I" "" [(.int y1), (.int y2), (.int y3), (.int y4), (.int y5), (.int y6)]) (o_p2 : z_Ar Z h p2 .byte "[B" "" va0) (rq0 : ¬ y1 < 0) (rq1 : (va0)[(y1).toNatClampNeg]? = some (.int (z_gI va0 (y1).toNatClampNeg))) (rq2 : ¬ y2 < 0) (rq3 : (va0)[(y2).toNatClampNeg]? = some (.int (z_gI va0 (y2).toNatClampNeg))) (rq4 : ¬ y3 < 0) (rq5 : (va0)[(y3).toNatClampNeg]? = some (.int (z_gI va0 (y3).toNatClampNeg))) :
    z_Met l Z (⟨"com/example/variegate/variegate/service/Propagation", "satisfied", "(I)Z"⟩ : MethodName) prog_97_method_8_code 3 (some .boolean) [] ({ frames := 0, cells := 0, slots := 0, locals := 0 } : Room) n0 #[(.ref p0), (.int 0)] h (z_pure (.int (z_sat (z_gI va0 (y1).toNatClampNeg) (z_gI va0 (y2).toNatClampNeg) (z_gI va0 (y3).toNatClampNeg))) h) := by
  refine z_met (Ls := #[.val (.ref p0), .val (.int 0), .unset]) (by first | exact plainFor_of_name (by first | (simp [plainName, overriddenIn]; done) | decide +kernel) | decide +kernel) rfl ?_
  intro p e s m below meth c C
  refine z_aloadN C z_d42_0 rfl rfl 1 rfl ?_
  refine z_getO C (z_w hw 266 rfl) Via.refl o_p0 7 rfl rfl z_d42_1 4 rfl ?_
  refine z_iloadN C z_d42_4 rfl 5 rfl ?_
  refine z_iaload C o_p7 (by decide) (v := (.int 0)) (by rfl) z_d42_5 6 rfl ?_
  refine z_istoreN C (Ls' := #[.val (.ref p0), .val (.int 0), .val (.int 0)]) z_d42_6 rfl 7 rfl ?_
  refine z_iloadN C z_d42_7 rfl 8 rfl ?_
  refine z_aloadN C z_d42_8 rfl rfl 9 rfl ?_
  refine z_getO C (z_w hw 266 rfl) Via.refl o_p0 7 rfl rfl z_d42_9 12 rfl ?_
  refine z_iloadN C z_d42_12 rfl 13 rfl ?_
  refine z_iconst C (v := (1 : Int32)) z_d42_13 (by decide) 14 rfl ?_
  refine z_iadd C (z := (1 : Int32)) z_d42_14 (by decide) 15 rfl ?_
  refine z_iaload C o_p7 (by decide) (v := (.int 3)) (by rfl) z_d42_15 16 rfl ?_
  refine z_icmpN C z_d42_16 (by decide) 19 rfl ?_
  refine z_aloadN C z_d42_19 rfl rfl 20 rfl ?_
  refine z_getO C (z_w hw 183 rfl) Via.refl o_p0 2 rfl rfl z_d42_20 23 rfl ?_
  refine z_aloadN C z_d42_23 rfl rfl 24 rfl ?_
  refine z_getO C (z_w hw 264 rfl) Via.refl o_p0 6 rfl rfl z_d42_24 27 rfl ?_
  refine z_iloadN C z_d42_27 rfl 28 rfl ?_
  refine z_iaload C o_p6 (by decide) (v := (.int y1)) (by rfl) z_d42_28 29 rfl ?_
  refine z_baload C o_p2 rq0 rq1 z_d42_29 30 rfl ?_
  by_cases hc30 : (0 : Int32) < (z_gI va0 (y1).toNatClampNeg)
  · refine z_ifN C z_d42_30 ((if0 _ _).trans (tlt hc30).2.2.2) 33 rfl ?_
    refine z_iconst C (v := (1 : Int32)) z_d42_33 (by decide) 34 rfl ?_
    exact z_ireturn C (by simp) rfl z_d42_34 (by decide) (by decide) ⟨congrArg (fun z => some (Value.int z)) (show (1 : Int32) = (z_sat (z_gI va0 (y1).toNatClampNeg) (z_gI va0 (y2).toNatClampNeg) (z_gI va0 (y3).toNatClampNeg)) by simp +decide [z_sat, eq_true hc30]), rfl⟩
  · refine z_ifY C z_d42_30 ((if0 _ _).trans (flt hc30).2.2.2) (by decide) 35 (by decide) ?_
    refine z_iinc C (w := (1 : Int32)) (Ls' := #[.val (.ref p0), .val (.int 0), .val (.int 1)]) z_d42_35 rfl (by decide) rfl 38 rfl ?_
    refine z_goto C z_d42_38 (by decide) 7 (by decide) ?_
    refine z_iloadN C z_d42_7 rfl 8 rfl ?_
    refine z_aloadN C z_d42_8 rfl rfl 9 rfl ?_
    refine z_getO C (z_w hw 266 rfl) Via.refl o_p0 7 rfl rfl z_d42_9 12 rfl ?_
    refine z_iloadN C z_d42_12 rfl 13 rfl ?_
    refine z_iconst C (v := (1 : Int32)) z_d42_13 (by decide) 14 rfl ?_
    refine z_iadd C (z := (1 : Int32)) z_d42_14 (by decide) 15 rfl ?_
    refine z_iaload C o_p7 (by decide) (v := (.int 3)) (by rfl) z_d42_15 16 rfl ?_
    refine z_icmpN C z_d42_16 (by decide) 19 rfl ?_
    refine z_aloadN C z_d42_19 rfl rfl 20 rfl ?_
    refine z_getO C (z_w hw 183 rfl) Via.refl o_p0 2 rfl rfl z_d42_20 23 rfl ?_
    refine z_aloadN C z_d42_23 rfl rfl 24 rfl ?_
    refine z_getO C (z_w hw 264 rfl) Via.refl o_p0 6 rfl rfl z_d42_24 27 rfl ?_
    refine z_iloadN C z_d42_27 rfl 28 rfl ?_
    refine z_iaload C o_p6 (by decide) (v := (.int y2)) (by rfl) z_d42_28 29 rfl ?_
    refine z_baload C o_p2 rq2 rq3 z_d42_29 30 rfl ?_
    by_cases hc30_1 : (0 : Int32) < (z_gI va0 (y2).toNatClampNeg)
    · refine z_ifN C z_d42_30 ((if0 _ _).trans (tlt hc30_1).2.2.2) 33 rfl ?_
      refine z_iconst C (v := (1 : Int32)) z_d42_33 (by decide) 34 rfl ?_
      exact z_ireturn C (by simp) rfl z_d42_34 (by decide) (by decide) ⟨congrArg (fun z => some (Value.int z)) (show (1 : Int32) = (z_sat (z_gI va0 (y1).toNatClampNeg) (z_gI va0 (y2).toNatClampNeg) (z_gI va0 (y3).toNatClampNeg)) by simp +decide [z_sat, eq_false hc30, eq_true hc30_1]), rfl⟩
    · refine z_ifY C z_d42_30 ((if0 _ _).trans (flt hc30_1).2.2.2) (by decide) 35 (by decide) ?_
      refine z_iinc C (w := (2 : Int32)) (Ls' := #[.val (.ref p0), .val (.int 0), .val (.int 2)]) z_d42_35 rfl (by decide) rfl 38 rfl ?_
      refine z_goto C z_d42_38 (by decide) 7 (by decide) ?_
      refine z_iloadN C z_d42_7 rfl 8 rfl ?_
      refine z_aloadN C z_d42_8 rfl rfl 9 rfl ?_
      refine z_getO C (z_w hw 266 rfl) Via.refl o_p0 7 rfl rfl z_d42_9 12 rfl ?_
      refine z_iloadN C z_d42_12 rfl 13 rfl ?_
      refine z_iconst C (v := (1 : Int32)) z_d42_13 (by decide) 14 rfl ?_
      refine z_iadd C (z := (1 : Int32)) z_d42_14 (by decide) 15 rfl ?_
      refine z_iaload C o_p7 (by decide) (v := (.int 3)) (by rfl) z_d42_15 16 rfl ?_
      refine z_icmpN C z_d42_16 (by decide) 19 rfl ?_
      refine z_aloadN C z_d42_19 rfl rfl 20 rfl ?_
      refine z_getO C (z_w hw 183 rfl) Via.refl o_p0 2 rfl rfl z_d42_20 23 rfl ?_
      refine z_aloadN C z_d42_23 rfl rfl 24 rfl ?_
      refine z_getO C (z_w hw 264 rfl) Via.refl o_p0 6 rfl rfl z_d42_24 27 rfl ?_
      refine z_iloadN C z_d42_27 rfl 28 rfl ?_
      refine z_iaload C o_p6 (by decide) (v := (.int y3)) (by rfl) z_d42_28 29 rfl ?_
      refine z_baload C o_p2 rq4 rq5 z_d42_29 30 rfl ?_
      by_cases hc30_2 : (0 : Int32) < (z_gI va0 (y3).toNatClampNeg)
      · refine z_ifN C z_d42_30 ((if0 _ _).trans (tlt hc30_2).2.2.2) 33 rfl ?_
        refine z_iconst C (v := (1 : Int32)) z_d42_33 (by decide) 34 rfl ?_
        exact z_ireturn C (by simp) rfl z_d42_34 (by decide) (by decide) ⟨congrArg (fun z => some (Value.int z)) (show (1 : Int32) = (z_sat (z_gI va0 (y1).toNatClampNeg) (z_gI va0 (y2).toNatClampNeg) (z_gI va0 (y3).toNatClampNeg)) by simp +decide [z_sat, eq_false hc30, eq_false hc30_1, eq_true hc30_2]), rfl⟩
      · refine z_ifY C z_d42_30 ((if0 _ _).trans (flt hc30_2).2.2.2) (by decide) 35 (by decide) ?_
        refine z_iinc C (w := (3 : Int32)) (Ls' := #[.val (.ref p0), .val (.int 0), .val (.int 3)]) z_d42_35 rfl (by decide) rfl 38 rfl ?_
        refine z_goto C z_d42_38 (by decide) 7 (by decide) ?_
        refine z_iloadN C z_d42_7 rfl 8 rfl ?_
        refine z_aloadN C z_d42_8 rfl rfl 9 rfl ?_
        refine z_getO C (z_w hw 266 rfl) Via.refl o_p0 7 rfl rfl z_d42_9 12 rfl ?_
        refine z_iloadN C z_d42_12 rfl 13 rfl ?_
        refine z_iconst C (v := (1 : Int32)) z_d42_13 (by decide) 14 rfl ?_
        refine z_iadd C (z := (1 : Int32)) z_d42_14 (by decide) 15 rfl ?_
        refine z_iaload C o_p7 (by decide) (v := (.int 3)) (by rfl) z_d42_15 16 rfl ?_
        refine z_icmpY C z_d42_16 (by decide) (by decide) 41 (by decide) ?_
        refine z_iconst C (v := (0 : Int32)) z_d42_41 (by decide) 42 rfl ?_
        exact z_ireturn C (by simp) rfl z_d42_42 (by decide) (by decide) ⟨congrArg (fun z => some (Value.int z)) (show (0 : Int32) = (z_sat (z_gI va0 (y1).toNatClampNeg) (z_gI va0 (y2).toNatClampNeg) (z_gI va0 (y3).toNatClampNeg)) by simp +decide [z_sat, eq_false hc30, eq_false hc30_1, eq_false hc30_2]), rfl⟩
set_option maxHeartbeats 2000000 in
theorem z_c42_105 (hw : z_T Z a0) (S : z_St Z a_DEF a_ONE a_NONE) (z0 : n0 ≤ h.size) (old : Old Z n0 h) (y0 : Int32) (y1 : Int32) (y2 : Int32) (y3 : Int32) (y4 : Int32) (y5 : Int32) (y6 : Int32) (va0 : List Value) (p0 : Nat) (p1 : Nat) (p2 : Nat) (p3 : Nat) (p4 : Nat) (p5 : Nat) (p6 : Nat) (p7 : Nat) (p8 : Nat) (p9 : Nat) (p10 : Nat) (o_p0 : z_Ob Z h p0 "com/example/variegate/variegate/service/Propagation" z_lay3 [(.int 3), (.ref p1), (.ref p2), (.ref p3), (.ref p4), (.ref p5), (.ref p6), (.ref p7), (.ref p8), (.ref p9), (.ref p10), (.int y0), (.int 0)]) (o_p7 : z_Ar Z h p7 .int "[I" "" [(.int 0), (.int 3), (.int 6)]) (o_p6 : z_Ar Z h p6 .int "[I" "" [(.int y1), (.int y2), (.int y3), (.int y4), (.int y5), (.int y6)]) (o_p2 : z_Ar Z h p2 .byte "[B" "" va0) (rq0 : ¬ y4 < 0) (rq1 : (va0)[(y4).toNatClampNeg]? = some (.int (z_gI va0 (y4).toNatClampNeg))) (rq2 : ¬ y5 < 0) (rq3 : (va0)[(y5).toNatClampNeg]? = some (.int (z_gI va0 (y5).toNatClampNeg))) (rq4 : ¬ y6 < 0) (rq5 : (va0)[(y6).toNatClampNeg]? = some (.int (z_gI va0 (y6).toNatClampNeg))) :
    z_Met l Z (⟨"com/example/variegate/variegate/service/Propagation", "satisfied", "(I)Z"⟩ : MethodName) prog_97_method_8_code 3 (some .boolean) [] ({ frames := 0, cells := 0, slots := 0, locals := 0 } : Room) n0 #[(.ref p0), (.int 1)] h (z_pure (.int (z_sat (z_gI va0 (y4).toNatClampNeg) (z_gI va0 (y5).toNatClampNeg) (z_gI va0 (y6).toNatClampNeg))) h) := by
  refine z_met (Ls := #[.val (.ref p0), .val (.int 1), .unset]) (by first | exact plainFor_of_name (by first | (simp [plainName, overriddenIn]; done) | decide +kernel) | decide +kernel) rfl ?_
  intro p e s m below meth c C
  refine z_aloadN C z_d42_0 rfl rfl 1 rfl ?_
  refine z_getO C (z_w hw 266 rfl) Via.refl o_p0 7 rfl rfl z_d42_1 4 rfl ?_
  refine z_iloadN C z_d42_4 rfl 5 rfl ?_
  refine z_iaload C o_p7 (by decide) (v := (.int 3)) (by rfl) z_d42_5 6 rfl ?_
  refine z_istoreN C (Ls' := #[.val (.ref p0), .val (.int 1), .val (.int 3)]) z_d42_6 rfl 7 rfl ?_
  refine z_iloadN C z_d42_7 rfl 8 rfl ?_
  refine z_aloadN C z_d42_8 rfl rfl 9 rfl ?_
  refine z_getO C (z_w hw 266 rfl) Via.refl o_p0 7 rfl rfl z_d42_9 12 rfl ?_
  refine z_iloadN C z_d42_12 rfl 13 rfl ?_
  refine z_iconst C (v := (1 : Int32)) z_d42_13 (by decide) 14 rfl ?_
  refine z_iadd C (z := (2 : Int32)) z_d42_14 (by decide) 15 rfl ?_
  refine z_iaload C o_p7 (by decide) (v := (.int 6)) (by rfl) z_d42_15 16 rfl ?_
  refine z_icmpN C z_d42_16 (by decide) 19 rfl ?_
  refine z_aloadN C z_d42_19 rfl rfl 20 rfl ?_
  refine z_getO C (z_w hw 183 rfl) Via.refl o_p0 2 rfl rfl z_d42_20 23 rfl ?_
  refine z_aloadN C z_d42_23 rfl rfl 24 rfl ?_
  refine z_getO C (z_w hw 264 rfl) Via.refl o_p0 6 rfl rfl z_d42_24 27 rfl ?_
  refine z_iloadN C z_d42_27 rfl 28 rfl ?_
  refine z_iaload C o_p6 (by decide) (v := (.int y4)) (by rfl) z_d42_28 29 rfl ?_
  refine z_baload C o_p2 rq0 rq1 z_d42_29 30 rfl ?_
  by_cases hc30 : (0 : Int32) < (z_gI va0 (y4).toNatClampNeg)
  · refine z_ifN C z_d42_30 ((if0 _ _).trans (tlt hc30).2.2.2) 33 rfl ?_
    refine z_iconst C (v := (1 : Int32)) z_d42_33 (by decide) 34 rfl ?_
    exact z_ireturn C (by simp) rfl z_d42_34 (by decide) (by decide) ⟨congrArg (fun z => some (Value.int z)) (show (1 : Int32) = (z_sat (z_gI va0 (y4).toNatClampNeg) (z_gI va0 (y5).toNatClampNeg) (z_gI va0 (y6).toNatClampNeg)) by simp +decide [z_sat, eq_true hc30]), rfl⟩
  · refine z_ifY C z_d42_30 ((if0 _ _).trans (flt hc30).2.2.2) (by decide) 35 (by decide) ?_
    refine z_iinc C (w := (4 : Int32)) (Ls' := #[.val (.ref p0), .val (.int 1), .val (.int 4)]) z_d42_35 rfl (by decide) rfl 38 rfl ?_
    refine z_goto C z_d42_38 (by decide) 7 (by decide) ?_
    refine z_iloadN C z_d42_7 rfl 8 rfl ?_
    refine z_aloadN C z_d42_8 rfl rfl 9 rfl ?_
    refine z_getO C (z_w hw 266 rfl) Via.refl o_p0 7 rfl rfl z_d42_9 12 rfl ?_
    refine z_iloadN C z_d42_12 rfl 13 rfl ?_
    refine z_iconst C (v := (1 : Int32)) z_d42_13 (by decide) 14 rfl ?_
    refine z_iadd C (z := (2 : Int32)) z_d42_14 (by decide) 15 rfl ?_
    refine z_iaload C o_p7 (by decide) (v := (.int 6)) (by rfl) z_d42_15 16 rfl ?_
    refine z_icmpN C z_d42_16 (by decide) 19 rfl ?_
    refine z_aloadN C z_d42_19 rfl rfl 20 rfl ?_
    refine z_getO C (z_w hw 183 rfl) Via.refl o_p0 2 rfl rfl z_d42_20 23 rfl ?_
    refine z_aloadN C z_d42_23 rfl rfl 24 rfl ?_
    refine z_getO C (z_w hw 264 rfl) Via.refl o_p0 6 rfl rfl z_d42_24 27 rfl ?_
    refine z_iloadN C z_d42_27 rfl 28 rfl ?_
    refine z_iaload C o_p6 (by decide) (v := (.int y5)) (by rfl) z_d42_28 29 rfl ?_
    refine z_baload C o_p2 rq2 rq3 z_d42_29 30 rfl ?_
    by_cases hc30_1 : (0 : Int32) < (z_gI va0 (y5).toNatClampNeg)
    · refine z_ifN C z_d42_30 ((if0 _ _).trans (tlt hc30_1).2.2.2) 33 rfl ?_
      refine z_iconst C (v := (1 : Int32)) z_d42_33 (by decide) 34 rfl ?_
      exact z_ireturn C (by simp) rfl z_d42_34 (by decide) (by decide) ⟨congrArg (fun z => some (Value.int z)) (show (1 : Int32) = (z_sat (z_gI va0 (y4).toNatClampNeg) (z_gI va0 (y5).toNatClampNeg) (z_gI va0 (y6).toNatClampNeg)) by simp +decide [z_sat, eq_false hc30, eq_true hc30_1]), rfl⟩
    · refine z_ifY C z_d42_30 ((if0 _ _).trans (flt hc30_1).2.2.2) (by decide) 35 (by decide) ?_
      refine z_iinc C (w := (5 : Int32)) (Ls' := #[.val (.ref p0), .val (.int 1), .val (.int 5)]) z_d42_35 rfl (by decide) rfl 38 rfl ?_
      refine z_goto C z_d42_38 (by decide) 7 (by decide) ?_
      refine z_iloadN C z_d42_7 rfl 8 rfl ?_
      refine z_aloadN C z_d42_8 rfl rfl 9 rfl ?_
      refine z_getO C (z_w hw 266 rfl) Via.refl o_p0 7 rfl rfl z_d42_9 12 rfl ?_
      refine z_iloadN C z_d42_12 rfl 13 rfl ?_
      refine z_iconst C (v := (1 : Int32)) z_d42_13 (by decide) 14 rfl ?_
      refine z_iadd C (z := (2 : Int32)) z_d42_14 (by decide) 15 rfl ?_
      refine z_iaload C o_p7 (by decide) (v := (.int 6)) (by rfl) z_d42_15 16 rfl ?_
      refine z_icmpN C z_d42_16 (by decide) 19 rfl ?_
      refine z_aloadN C z_d42_19 rfl rfl 20 rfl ?_
      refine z_getO C (z_w hw 183 rfl) Via.refl o_p0 2 rfl rfl z_d42_20 23 rfl ?_
      refine z_aloadN C z_d42_23 rfl rfl 24 rfl ?_
      refine z_getO C (z_w hw 264 rfl) Via.refl o_p0 6 rfl rfl z_d42_24 27 rfl ?_
      refine z_iloadN C z_d42_27 rfl 28 rfl ?_
      refine z_iaload C o_p6 (by decide) (v := (.int y6)) (by rfl) z_d42_28 29 rfl ?_
      refine z_baload C o_p2 rq4 rq5 z_d42_29 30 rfl ?_
      by_cases hc30_2 : (0 : Int32) < (z_gI va0 (y6).toNatClampNeg)
      · refine z_ifN C z_d42_30 ((if0 _ _).trans (tlt hc30_2).2.2.2) 33 rfl ?_
        refine z_iconst C (v := (1 : Int32)) z_d42_33 (by decide) 34 rfl ?_
        exact z_ireturn C (by simp) rfl z_d42_34 (by decide) (by decide) ⟨congrArg (fun z => some (Value.int z)) (show (1 : Int32) = (z_sat (z_gI va0 (y4).toNatClampNeg) (z_gI va0 (y5).toNatClampNeg) (z_gI va0 (y6).toNatClampNeg)) by simp +decide [z_sat, eq_false hc30, eq_false hc30_1, eq_true hc30_2]), rfl⟩
      · refine z_ifY C z_d42_30 ((if0 _ _).trans (flt hc30_2).2.2.2) (by decide) 35 (by decide) ?_
        refine z_iinc C (w := (6 : Int32)) (Ls' := #[.val (.ref p0), .val (.int 1), .val (.int 6)]) z_d42_35 rfl (by decide) rfl 38 rfl ?_
        refine z_goto C z_d42_38 (by decide) 7 (by decide) ?_
        refine z_iloadN C z_d42_7 rfl 8 rfl ?_
        refine z_aloadN C z_d42_8 rfl rfl 9 rfl ?_
        refine z_getO C (z_w hw 266 rfl) Via.refl o_p0 7 rfl rfl z_d42_9 12 rfl ?_
        refine z_iloadN C z_d42_12 rfl 13 rfl ?_
        refine z_iconst C (v := (1 : Int32)) z_d42_13 (by decide) 14 rfl ?_
        refine z_iadd C (z := (2 : Int32)) z_d42_14 (by decide) 15 rfl ?_
        refine z_iaload C o_p7 (by decide) (v := (.int 6)) (by rfl) z_d42_15 16 rfl ?_
        refine z_icmpY C z_d42_16 (by decide) (by decide) 41 (by decide) ?_
        refine z_iconst C (v := (0 : Int32)) z_d42_41 (by decide) 42 rfl ?_
        exact z_ireturn C (by simp) rfl z_d42_42 (by decide) (by decide) ⟨congrArg (fun z => some (Value.int z)) (show (0 : Int32) = (z_sat (z_gI va0 (y4).toNatClampNeg) (z_gI va0 (y5).toNatClampNeg) (z_gI va0 (y6).toNatClampNeg)) by simp +decide [z_sat, eq_false hc30, eq_false hc30_1, eq_false hc30_2]), rfl⟩
set_option maxHeartbeats 32000000 in
theorem z_law (hw : z_T Z a0) (S : z_St Z a_DEF a_ONE a_NONE) (z0 : n0 ≤ h.size) (old : Old Z n0 h) (x0 x1 x2 x3 : Int32) :
    z_Met l Z x code maxLocals ret tables_1 room_1 n0 #[(.int x0), (.int x1), (.int x2), (.int x3)] h (fun v _ => v = some (.int 1)) := by
  obtain ⟨u0, hu0⟩ := z_bt 1 x0
  obtain ⟨u1, hu1⟩ := z_bt 2 x0
  obtain ⟨u2, hu2⟩ := z_bt 4 x0
  obtain ⟨u3, hu3⟩ := z_bt 8 x0
  obtain ⟨u4, hu4⟩ := z_bt 16 x0
  obtain ⟨u5, hu5⟩ := z_bt 32 x0
  obtain ⟨k1, hk1⟩ := z_tri x1
  obtain ⟨k2, hk2⟩ := z_tri x2
  obtain ⟨k3, hk3⟩ := z_tri x3
  refine z_met (Ls := #[.val (.int x0), .val (.int x1), .val (.int x2), .val (.int x3), .unset, .unset, .unset, .unset, .unset, .unset, .unset, .unset, .unset, .unset, .unset, .unset, .unset, .unset, .unset, .unset, .unset, .unset]) (by first | exact plainFor_of_name (by first | (simp [x, plainName, overriddenIn]; done) | decide +kernel) | decide +kernel) rfl ?_
  intro p e s m below meth c C
  refine z_newO C (z_w hw 0 rfl) (z_w hw 1 rfl) (z_w hw 2 rfl) (z_lay0_ok hw) z_lay0_df at_0 (by decide) (by decide) 3 rfl ?_
  intro h1 b1 g1 E1 o_b1
  have s1 : h.size ≤ h1.size := E1.1
  have t1 := o_b1.lt
  refine z_dup C at_3 rfl 4 rfl ?_
  have zz1 : n0 ≤ h1.size := by omega
  have old1 := (old.ext E1)
  have e_b1 : n0 ≤ (b1 : Nat) := by omega
  refine z_callI C rfl (z_c1_6 l hw S zz1 old1 b1 o_b1 e_b1) (z_w hw 3 rfl) (z_w hw 4 rfl) (z_w hw 2 rfl) (z_w hw 5 rfl) (by decide) at_4 rfl (argsL := []) (rest := [(.ref b1)]) rfl (lenOf z_pd0 rfl) (W := 1) (Nat.le_of_eq rfl) (by decide) (by decide) (by decide) (by decide) 7 rfl ?_
  rintro h2 ⟨b2_0, b2_1, b2_2, b2_3, b2_4, b2_5, K2, l2_0, l2_1, l2_2, l2_3, l2_4, l2_5, l2_6, o_b1_2, o_b2_0_2, o_b2_1_2, o_b2_2_2, o_b2_3_2, o_b2_4_2, o_b2_5_2⟩
  have s2 : h1.size ≤ h2.size := K2.1
  refine z_astore C (Ls' := #[.val (.int x0), .val (.int x1), .val (.int x2), .val (.int x3), .val (.ref b1), .unset, .unset, .unset, .unset, .unset, .unset, .unset, .unset, .unset, .unset, .unset, .unset, .unset, .unset, .unset, .unset, .unset]) at_7 rfl rfl 9 rfl ?_
  refine z_aload C at_9 rfl rfl 11 rfl ?_
  have zz2 : n0 ≤ h2.size := by omega
  have old2 := (old1.keep K2 (allS e_b1 all0))
  have n_b1_b2_3 : (b1 : Nat) ≠ b2_3 := by omega
  have n_b2_3_b2_4 : (b2_3 : Nat) ≠ b2_4 := by omega
  have n_b1_b2_4 : (b1 : Nat) ≠ b2_4 := by omega
  have e_b2_3 : n0 ≤ (b2_3 : Nat) := by omega
  have e_b2_4 : n0 ≤ (b2_4 : Nat) := by omega
  refine z_callV C o_b1_2.1 (z_c9_13 l hw S zz2 old2 b1 b2_0 b2_1 b2_3 b2_4 b2_5 o_b1_2 o_b2_3_2 o_b2_4_2 n_b1_b2_3 n_b2_3_b2_4 n_b1_b2_4 e_b2_3 e_b2_4) (z_w hw 65 rfl) (z_w hw 66 rfl) (z_w hw 68 rfl) (z_w hw 67 rfl) (z_w hw 2 rfl) (z_w hw 69 rfl) (by decide) at_11 rfl (argsL := []) (rest := []) rfl (lenOf z_pd8 rfl) (W := 0) (Nat.le_of_eq rfl) (by decide) (by decide) (by decide) (by decide) 14 rfl ?_
  rintro _ h3 ⟨b3_0, b3_1, rfl, K3, l3_0, l3_1, l3_2, o_b2_3_3, o_b2_4_3, o_b3_0_3, o_b3_1_3⟩
  have s3 : h2.size ≤ h3.size := K3.1
  refine z_istore C (Ls' := #[.val (.int x0), .val (.int x1), .val (.int x2), .val (.int x3), .val (.ref b1), .val (.int 1), .unset, .unset, .unset, .unset, .unset, .unset, .unset, .unset, .unset, .unset, .unset, .unset, .unset, .unset, .unset, .unset]) at_14 rfl 16 rfl ?_
  refine z_aload C at_16 rfl rfl 18 rfl ?_
  have zz3 : n0 ≤ h3.size := by omega
  have o_b1_3 := (o_b1_2.keep K3 (ninS n_b1_b2_3 (ninS n_b1_b2_4 nin0)))
  have old3 := (old2.keep K3 (allS e_b2_3 (allS e_b2_4 all0)))
  have n_b2_3_b3_0 : (b2_3 : Nat) ≠ b3_0 := by omega
  have n_b1_b3_0 : (b1 : Nat) ≠ b3_0 := by omega
  have n_b2_4_b3_0 : (b2_4 : Nat) ≠ b3_0 := by omega
  have n_b3_0_b3_1 : (b3_0 : Nat) ≠ b3_1 := by omega
  have n_b2_3_b3_1 : (b2_3 : Nat) ≠ b3_1 := by omega
  have n_b2_4_b3_1 : (b2_4 : Nat) ≠ b3_1 := by omega
  have n_b1_b3_1 : (b1 : Nat) ≠ b3_1 := by omega
  have e_b3_0 : n0 ≤ (b3_0 : Nat) := by omega
  have e_b3_1 : n0 ≤ (b3_1 : Nat) := by omega
  refine z_callV C o_b1_3.1 (z_c9_17 l hw S zz3 old3 b1 b2_0 b2_1 b2_3 b2_4 b2_5 b3_0 b3_1 o_b1_3 o_b2_3_3 o_b3_0_3 o_b2_4_3 o_b3_1_3 n_b2_3_b3_0 n_b1_b3_0 n_b1_b2_3 n_b2_4_b3_0 n_b2_3_b2_4 n_b3_0_b3_1 n_b2_3_b3_1 n_b2_4_b3_1 n_b1_b3_1 n_b1_b2_4 e_b2_3 e_b3_0 e_b2_4 e_b3_1) (z_w hw 65 rfl) (z_w hw 66 rfl) (z_w hw 68 rfl) (z_w hw 67 rfl) (z_w hw 2 rfl) (z_w hw 69 rfl) (by decide) at_18 rfl (argsL := []) (rest := []) rfl (lenOf z_pd8 rfl) (W := 0) (Nat.le_of_eq rfl) (by decide) (by decide) (by decide) (by decide) 21 rfl ?_
  rintro _ h4 ⟨rfl, K4, o_b2_3_4, o_b3_0_4, o_b2_4_4, o_b3_1_4⟩
  have s4 : h3.size ≤ h4.size := K4.1
  refine z_istore C (Ls' := #[.val (.int x0), .val (.int x1), .val (.int x2), .val (.int x3), .val (.ref b1), .val (.int 1), .val (.int 2), .unset, .unset, .unset, .unset, .unset, .unset, .unset, .unset, .unset, .unset, .unset, .unset, .unset, .unset, .unset]) at_21 rfl 23 rfl ?_
  refine z_aload C at_23 rfl rfl 25 rfl ?_
  have zz4 : n0 ≤ h4.size := by omega
  have o_b1_4 := (o_b1_3.keep K4 (ninS n_b1_b3_0 (ninS n_b1_b2_3 (ninS n_b1_b3_1 (ninS n_b1_b2_4 nin0)))))
  have old4 := (old3.keep K4 (allS e_b3_0 (allS e_b2_3 (allS e_b3_1 (allS e_b2_4 all0)))))
  refine z_callV C o_b1_4.1 (z_c9_21 l hw S zz4 old4 b1 b2_0 b2_1 b2_3 b2_4 b2_5 b3_0 b3_1 o_b1_4 o_b2_3_4 o_b3_0_4 o_b2_4_4 o_b3_1_4 n_b2_3_b3_0 n_b1_b3_0 n_b1_b2_3 n_b2_4_b3_0 n_b2_3_b2_4 n_b3_0_b3_1 n_b2_3_b3_1 n_b2_4_b3_1 n_b1_b3_1 n_b1_b2_4 e_b2_3 e_b3_0 e_b2_4 e_b3_1) (z_w hw 65 rfl) (z_w hw 66 rfl) (z_w hw 68 rfl) (z_w hw 67 rfl) (z_w hw 2 rfl) (z_w hw 69 rfl) (by decide) at_25 rfl (argsL := []) (rest := []) rfl (lenOf z_pd8 rfl) (W := 0) (Nat.le_of_eq rfl) (by decide) (by decide) (by decide) (by decide) 28 rfl ?_
  rintro _ h5 ⟨rfl, K5, o_b2_3_5, o_b3_0_5, o_b2_4_5, o_b3_1_5⟩
  have s5 : h4.size ≤ h5.size := K5.1
  refine z_istore C (Ls' := #[.val (.int x0), .val (.int x1), .val (.int x2), .val (.int x3), .val (.ref b1), .val (.int 1), .val (.int 2), .val (.int 3), .unset, .unset, .unset, .unset, .unset, .unset, .unset, .unset, .unset, .unset, .unset, .unset, .unset, .unset]) at_28 rfl 30 rfl ?_
  refine z_cut (fJ := mkF m 41 #[.val (.int x0), .val (.int x1), .val (.int x2), .val (.int x3), .val (.ref b1), .val (.int 1), .val (.int 2), .val (.int 3), .unset, .unset, .unset, .unset, .unset, .unset, .unset, .unset, .unset, .unset, .unset, .unset, .unset, .unset] [(.int (z_pb u0))]) (fun K => ?_) ?_
  · refine z_iloadN C at_30 rfl 31 rfl ?_
    refine z_iconst C (v := (1 : Int32)) at_31 (by decide) 32 rfl ?_
    refine z_iand C at_32 rfl 33 rfl ?_
    by_cases hc33 : (x0 &&& (1 : Int32)) = (0 : Int32)
    · refine z_ifY C at_33 ((if0 _ _).trans (teq hc33).1) (by decide) 40 (by decide) ?_
      refine z_iconst C (v := (0 : Int32)) at_40 (by decide) 41 rfl ?_
      exact z_castI ((congrArg z_pb (hu0.1 hc33)).trans (by decide)) K
    · refine z_ifN C at_33 ((if0 _ _).trans (feq hc33).1) 36 rfl ?_
      refine z_iconst C (v := (1 : Int32)) at_36 (by decide) 37 rfl ?_
      refine z_goto C at_37 (by decide) 41 (by decide) ?_
      exact z_castI ((congrArg z_pb (hu0.2 hc33)).trans (by decide)) K
  refine z_istore C (Ls' := #[.val (.int x0), .val (.int x1), .val (.int x2), .val (.int x3), .val (.ref b1), .val (.int 1), .val (.int 2), .val (.int 3), .val (.int (z_pb u0)), .unset, .unset, .unset, .unset, .unset, .unset, .unset, .unset, .unset, .unset, .unset, .unset, .unset]) at_41 rfl 43 rfl ?_
  refine z_cut (fJ := mkF m 54 #[.val (.int x0), .val (.int x1), .val (.int x2), .val (.int x3), .val (.ref b1), .val (.int 1), .val (.int 2), .val (.int 3), .val (.int (z_pb u0)), .unset, .unset, .unset, .unset, .unset, .unset, .unset, .unset, .unset, .unset, .unset, .unset, .unset] [(.int (z_pb u1))]) (fun K => ?_) ?_
  · refine z_iloadN C at_43 rfl 44 rfl ?_
    refine z_iconst C (v := (2 : Int32)) at_44 (by decide) 45 rfl ?_
    refine z_iand C at_45 rfl 46 rfl ?_
    by_cases hc46 : (x0 &&& (2 : Int32)) = (0 : Int32)
    · refine z_ifY C at_46 ((if0 _ _).trans (teq hc46).1) (by decide) 53 (by decide) ?_
      refine z_iconst C (v := (0 : Int32)) at_53 (by decide) 54 rfl ?_
      exact z_castI ((congrArg z_pb (hu1.1 hc46)).trans (by decide)) K
    · refine z_ifN C at_46 ((if0 _ _).trans (feq hc46).1) 49 rfl ?_
      refine z_iconst C (v := (1 : Int32)) at_49 (by decide) 50 rfl ?_
      refine z_goto C at_50 (by decide) 54 (by decide) ?_
      exact z_castI ((congrArg z_pb (hu1.2 hc46)).trans (by decide)) K
  refine z_istore C (Ls' := #[.val (.int x0), .val (.int x1), .val (.int x2), .val (.int x3), .val (.ref b1), .val (.int 1), .val (.int 2), .val (.int 3), .val (.int (z_pb u0)), .val (.int (z_pb u1)), .unset, .unset, .unset, .unset, .unset, .unset, .unset, .unset, .unset, .unset, .unset, .unset]) at_54 rfl 56 rfl ?_
  refine z_cut (fJ := mkF m 67 #[.val (.int x0), .val (.int x1), .val (.int x2), .val (.int x3), .val (.ref b1), .val (.int 1), .val (.int 2), .val (.int 3), .val (.int (z_pb u0)), .val (.int (z_pb u1)), .unset, .unset, .unset, .unset, .unset, .unset, .unset, .unset, .unset, .unset, .unset, .unset] [(.int (z_pb u2))]) (fun K => ?_) ?_
  · refine z_iloadN C at_56 rfl 57 rfl ?_
    refine z_iconst C (v := (4 : Int32)) at_57 (by decide) 58 rfl ?_
    refine z_iand C at_58 rfl 59 rfl ?_
    by_cases hc59 : (x0 &&& (4 : Int32)) = (0 : Int32)
    · refine z_ifY C at_59 ((if0 _ _).trans (teq hc59).1) (by decide) 66 (by decide) ?_
      refine z_iconst C (v := (0 : Int32)) at_66 (by decide) 67 rfl ?_
      exact z_castI ((congrArg z_pb (hu2.1 hc59)).trans (by decide)) K
    · refine z_ifN C at_59 ((if0 _ _).trans (feq hc59).1) 62 rfl ?_
      refine z_iconst C (v := (1 : Int32)) at_62 (by decide) 63 rfl ?_
      refine z_goto C at_63 (by decide) 67 (by decide) ?_
      exact z_castI ((congrArg z_pb (hu2.2 hc59)).trans (by decide)) K
  refine z_istore C (Ls' := #[.val (.int x0), .val (.int x1), .val (.int x2), .val (.int x3), .val (.ref b1), .val (.int 1), .val (.int 2), .val (.int 3), .val (.int (z_pb u0)), .val (.int (z_pb u1)), .val (.int (z_pb u2)), .unset, .unset, .unset, .unset, .unset, .unset, .unset, .unset, .unset, .unset, .unset]) at_67 rfl 69 rfl ?_
  refine z_cut (fJ := mkF m 81 #[.val (.int x0), .val (.int x1), .val (.int x2), .val (.int x3), .val (.ref b1), .val (.int 1), .val (.int 2), .val (.int 3), .val (.int (z_pb u0)), .val (.int (z_pb u1)), .val (.int (z_pb u2)), .unset, .unset, .unset, .unset, .unset, .unset, .unset, .unset, .unset, .unset, .unset] [(.int (z_pb u3))]) (fun K => ?_) ?_
  · refine z_iloadN C at_69 rfl 70 rfl ?_
    refine z_bipush C (v := (8 : Int32)) at_70 (by decide) 72 rfl ?_
    refine z_iand C at_72 rfl 73 rfl ?_
    by_cases hc73 : (x0 &&& (8 : Int32)) = (0 : Int32)
    · refine z_ifY C at_73 ((if0 _ _).trans (teq hc73).1) (by decide) 80 (by decide) ?_
      refine z_iconst C (v := (0 : Int32)) at_80 (by decide) 81 rfl ?_
      exact z_castI ((congrArg z_pb (hu3.1 hc73)).trans (by decide)) K
    · refine z_ifN C at_73 ((if0 _ _).trans (feq hc73).1) 76 rfl ?_
      refine z_iconst C (v := (1 : Int32)) at_76 (by decide) 77 rfl ?_
      refine z_goto C at_77 (by decide) 81 (by decide) ?_
      exact z_castI ((congrArg z_pb (hu3.2 hc73)).trans (by decide)) K
  refine z_istore C (Ls' := #[.val (.int x0), .val (.int x1), .val (.int x2), .val (.int x3), .val (.ref b1), .val (.int 1), .val (.int 2), .val (.int 3), .val (.int (z_pb u0)), .val (.int (z_pb u1)), .val (.int (z_pb u2)), .val (.int (z_pb u3)), .unset, .unset, .unset, .unset, .unset, .unset, .unset, .unset, .unset, .unset]) at_81 rfl 83 rfl ?_
  refine z_cut (fJ := mkF m 95 #[.val (.int x0), .val (.int x1), .val (.int x2), .val (.int x3), .val (.ref b1), .val (.int 1), .val (.int 2), .val (.int 3), .val (.int (z_pb u0)), .val (.int (z_pb u1)), .val (.int (z_pb u2)), .val (.int (z_pb u3)), .unset, .unset, .unset, .unset, .unset, .unset, .unset, .unset, .unset, .unset] [(.int (z_pb u4))]) (fun K => ?_) ?_
  · refine z_iloadN C at_83 rfl 84 rfl ?_
    refine z_bipush C (v := (16 : Int32)) at_84 (by decide) 86 rfl ?_
    refine z_iand C at_86 rfl 87 rfl ?_
    by_cases hc87 : (x0 &&& (16 : Int32)) = (0 : Int32)
    · refine z_ifY C at_87 ((if0 _ _).trans (teq hc87).1) (by decide) 94 (by decide) ?_
      refine z_iconst C (v := (0 : Int32)) at_94 (by decide) 95 rfl ?_
      exact z_castI ((congrArg z_pb (hu4.1 hc87)).trans (by decide)) K
    · refine z_ifN C at_87 ((if0 _ _).trans (feq hc87).1) 90 rfl ?_
      refine z_iconst C (v := (1 : Int32)) at_90 (by decide) 91 rfl ?_
      refine z_goto C at_91 (by decide) 95 (by decide) ?_
      exact z_castI ((congrArg z_pb (hu4.2 hc87)).trans (by decide)) K
  refine z_istore C (Ls' := #[.val (.int x0), .val (.int x1), .val (.int x2), .val (.int x3), .val (.ref b1), .val (.int 1), .val (.int 2), .val (.int 3), .val (.int (z_pb u0)), .val (.int (z_pb u1)), .val (.int (z_pb u2)), .val (.int (z_pb u3)), .val (.int (z_pb u4)), .unset, .unset, .unset, .unset, .unset, .unset, .unset, .unset, .unset]) at_95 rfl 97 rfl ?_
  refine z_cut (fJ := mkF m 109 #[.val (.int x0), .val (.int x1), .val (.int x2), .val (.int x3), .val (.ref b1), .val (.int 1), .val (.int 2), .val (.int 3), .val (.int (z_pb u0)), .val (.int (z_pb u1)), .val (.int (z_pb u2)), .val (.int (z_pb u3)), .val (.int (z_pb u4)), .unset, .unset, .unset, .unset, .unset, .unset, .unset, .unset, .unset] [(.int (z_pb u5))]) (fun K => ?_) ?_
  · refine z_iloadN C at_97 rfl 98 rfl ?_
    refine z_bipush C (v := (32 : Int32)) at_98 (by decide) 100 rfl ?_
    refine z_iand C at_100 rfl 101 rfl ?_
    by_cases hc101 : (x0 &&& (32 : Int32)) = (0 : Int32)
    · refine z_ifY C at_101 ((if0 _ _).trans (teq hc101).1) (by decide) 108 (by decide) ?_
      refine z_iconst C (v := (0 : Int32)) at_108 (by decide) 109 rfl ?_
      exact z_castI ((congrArg z_pb (hu5.1 hc101)).trans (by decide)) K
    · refine z_ifN C at_101 ((if0 _ _).trans (feq hc101).1) 104 rfl ?_
      refine z_iconst C (v := (1 : Int32)) at_104 (by decide) 105 rfl ?_
      refine z_goto C at_105 (by decide) 109 (by decide) ?_
      exact z_castI ((congrArg z_pb (hu5.2 hc101)).trans (by decide)) K
  refine z_istore C (Ls' := #[.val (.int x0), .val (.int x1), .val (.int x2), .val (.int x3), .val (.ref b1), .val (.int 1), .val (.int 2), .val (.int 3), .val (.int (z_pb u0)), .val (.int (z_pb u1)), .val (.int (z_pb u2)), .val (.int (z_pb u3)), .val (.int (z_pb u4)), .val (.int (z_pb u5)), .unset, .unset, .unset, .unset, .unset, .unset, .unset, .unset]) at_109 rfl 111 rfl ?_
  refine z_aload C at_111 rfl rfl 113 rfl ?_
  refine z_iconst C (v := (3 : Int32)) at_113 (by decide) 114 rfl ?_
  refine z_newarray C (aty := .int) (z_w hw 115 rfl) (by decide) (cap := 3) (by decide) (by decide) (ad := "[I") (by decide +kernel) (vs := [(.int 0), (.int 0), (.int 0)]) (by rfl) at_114 (by decide) (by decide) 116 rfl ?_
  intro h6 b6 g6 E6 o_b6
  have s6 : h5.size ≤ h6.size := E6.1
  have o_b6 : z_Ar Z h6 b6 .int "[I" "" [(.int 0), (.int 0), (.int 0)] := o_b6
  have t6 := o_b6.lt
  refine z_dup C at_116 rfl 117 rfl ?_
  refine z_iconst C (v := (0 : Int32)) at_117 (by decide) 118 rfl ?_
  refine z_cut (fJ := mkF m 131 #[.val (.int x0), .val (.int x1), .val (.int x2), .val (.int x3), .val (.ref b1), .val (.int 1), .val (.int 2), .val (.int 3), .val (.int (z_pb u0)), .val (.int (z_pb u1)), .val (.int (z_pb u2)), .val (.int (z_pb u3)), .val (.int (z_pb u4)), .val (.int (z_pb u5)), .unset, .unset, .unset, .unset, .unset, .unset, .unset, .unset] [(.int (z_li 1 u0)), (.int 0), (.ref b6), (.ref b6), (.ref b1)]) (fun K => ?_) ?_
  · refine z_iload C at_118 rfl 120 rfl ?_
    by_cases hc120 : (z_pb u0) = (0 : Int32)
    · refine z_ifY C at_120 ((if0 _ _).trans (teq hc120).1) (by decide) 128 (by decide) ?_
      refine z_iload C at_128 rfl 130 rfl ?_
      refine z_ineg C (z := (-1 : Int32)) at_130 (by decide) 131 rfl ?_
      exact z_castI ((if_pos hc120).trans (by decide)) K
    · refine z_ifN C at_120 ((if0 _ _).trans (feq hc120).1) 123 rfl ?_
      refine z_iload C at_123 rfl 125 rfl ?_
      refine z_goto C at_125 (by decide) 131 (by decide) ?_
      exact z_castI ((if_neg hc120).trans (by decide)) K
  have e_b6 : n0 ≤ (b6 : Nat) := by omega
  refine z_iastore C (z := (z_li 1 u0)) o_b6 (by decide) (of_decide_eq_true rfl) rfl (vs' := [(.int (z_li 1 u0)), (.int 0), (.int 0)]) (by rfl) e_b6 at_131 132 rfl ?_
  intro h7 W7 o_b6_7
  have s7 : h7.size = h6.size := W7.size
  have q_b6 : h.size ≤ (b6 : Nat) := by omega
  refine z_dup C at_132 rfl 133 rfl ?_
  refine z_iconst C (v := (1 : Int32)) at_133 (by decide) 134 rfl ?_
  refine z_cut (fJ := mkF m 147 #[.val (.int x0), .val (.int x1), .val (.int x2), .val (.int x3), .val (.ref b1), .val (.int 1), .val (.int 2), .val (.int 3), .val (.int (z_pb u0)), .val (.int (z_pb u1)), .val (.int (z_pb u2)), .val (.int (z_pb u3)), .val (.int (z_pb u4)), .val (.int (z_pb u5)), .unset, .unset, .unset, .unset, .unset, .unset, .unset, .unset] [(.int (z_li 2 u1)), (.int 1), (.ref b6), (.ref b6), (.ref b1)]) (fun K => ?_) ?_
  · refine z_iload C at_134 rfl 136 rfl ?_
    by_cases hc136 : (z_pb u1) = (0 : Int32)
    · refine z_ifY C at_136 ((if0 _ _).trans (teq hc136).1) (by decide) 144 (by decide) ?_
      refine z_iload C at_144 rfl 146 rfl ?_
      refine z_ineg C (z := (-2 : Int32)) at_146 (by decide) 147 rfl ?_
      exact z_castI ((if_pos hc136).trans (by decide)) K
    · refine z_ifN C at_136 ((if0 _ _).trans (feq hc136).1) 139 rfl ?_
      refine z_iload C at_139 rfl 141 rfl ?_
      refine z_goto C at_141 (by decide) 147 (by decide) ?_
      exact z_castI ((if_neg hc136).trans (by decide)) K
  refine z_iastore C (z := (z_li 2 u1)) o_b6_7 (by decide) (of_decide_eq_true rfl) rfl (vs' := [(.int (z_li 1 u0)), (.int (z_li 2 u1)), (.int 0)]) (by rfl) e_b6 at_147 148 rfl ?_
  intro h8 W8 o_b6_8
  have s8 : h8.size = h7.size := W8.size
  refine z_dup C at_148 rfl 149 rfl ?_
  refine z_iconst C (v := (2 : Int32)) at_149 (by decide) 150 rfl ?_
  refine z_cut (fJ := mkF m 163 #[.val (.int x0), .val (.int x1), .val (.int x2), .val (.int x3), .val (.ref b1), .val (.int 1), .val (.int 2), .val (.int 3), .val (.int (z_pb u0)), .val (.int (z_pb u1)), .val (.int (z_pb u2)), .val (.int (z_pb u3)), .val (.int (z_pb u4)), .val (.int (z_pb u5)), .unset, .unset, .unset, .unset, .unset, .unset, .unset, .unset] [(.int (z_li 3 u2)), (.int 2), (.ref b6), (.ref b6), (.ref b1)]) (fun K => ?_) ?_
  · refine z_iload C at_150 rfl 152 rfl ?_
    by_cases hc152 : (z_pb u2) = (0 : Int32)
    · refine z_ifY C at_152 ((if0 _ _).trans (teq hc152).1) (by decide) 160 (by decide) ?_
      refine z_iload C at_160 rfl 162 rfl ?_
      refine z_ineg C (z := (-3 : Int32)) at_162 (by decide) 163 rfl ?_
      exact z_castI ((if_pos hc152).trans (by decide)) K
    · refine z_ifN C at_152 ((if0 _ _).trans (feq hc152).1) 155 rfl ?_
      refine z_iload C at_155 rfl 157 rfl ?_
      refine z_goto C at_157 (by decide) 163 (by decide) ?_
      exact z_castI ((if_neg hc152).trans (by decide)) K
  refine z_iastore C (z := (z_li 3 u2)) o_b6_8 (by decide) (of_decide_eq_true rfl) rfl (vs' := [(.int (z_li 1 u0)), (.int (z_li 2 u1)), (.int (z_li 3 u2))]) (by rfl) e_b6 at_163 164 rfl ?_
  intro h9 W9 o_b6_9
  have s9 : h9.size = h8.size := W9.size
  have zz9 : n0 ≤ h9.size := by omega
  have n_b1_b6 : (b1 : Nat) ≠ b6 := by omega
  have o_b1_9 := (((((o_b1_4.keep K5 (ninS n_b1_b3_0 (ninS n_b1_b2_3 (ninS n_b1_b3_1 (ninS n_b1_b2_4 nin0))))).ext E6).other W7 n_b1_b6).other W8 n_b1_b6).other W9 n_b1_b6)
  have n_b2_5_b2_4 : (b2_5 : Nat) ≠ b2_4 := by omega
  have n_b2_5_b2_3 : (b2_5 : Nat) ≠ b2_3 := by omega
  have n_b2_5_b3_1 : (b2_5 : Nat) ≠ b3_1 := by omega
  have n_b2_5_b3_0 : (b2_5 : Nat) ≠ b3_0 := by omega
  have n_b2_5_b6 : (b2_5 : Nat) ≠ b6 := by omega
  have o_b2_5_9 := (((((((o_b2_5_2.keep K3 (ninS n_b2_5_b2_3 (ninS n_b2_5_b2_4 nin0))).keep K4 (ninS n_b2_5_b3_0 (ninS n_b2_5_b2_3 (ninS n_b2_5_b3_1 (ninS n_b2_5_b2_4 nin0))))).keep K5 (ninS n_b2_5_b3_0 (ninS n_b2_5_b2_3 (ninS n_b2_5_b3_1 (ninS n_b2_5_b2_4 nin0))))).ext E6).other W7 n_b2_5_b6).other W8 n_b2_5_b6).other W9 n_b2_5_b6)
  have n_b2_3_b6 : (b2_3 : Nat) ≠ b6 := by omega
  have o_b2_3_9 := ((((o_b2_3_5.ext E6).other W7 n_b2_3_b6).other W8 n_b2_3_b6).other W9 n_b2_3_b6)
  have n_b2_0_b2_4 : (b2_0 : Nat) ≠ b2_4 := by omega
  have n_b2_0_b2_3 : (b2_0 : Nat) ≠ b2_3 := by omega
  have n_b2_0_b3_1 : (b2_0 : Nat) ≠ b3_1 := by omega
  have n_b2_0_b3_0 : (b2_0 : Nat) ≠ b3_0 := by omega
  have n_b2_0_b6 : (b2_0 : Nat) ≠ b6 := by omega
  have o_b2_0_9 := (((((((o_b2_0_2.keep K3 (ninS n_b2_0_b2_3 (ninS n_b2_0_b2_4 nin0))).keep K4 (ninS n_b2_0_b3_0 (ninS n_b2_0_b2_3 (ninS n_b2_0_b3_1 (ninS n_b2_0_b2_4 nin0))))).keep K5 (ninS n_b2_0_b3_0 (ninS n_b2_0_b2_3 (ninS n_b2_0_b3_1 (ninS n_b2_0_b2_4 nin0))))).ext E6).other W7 n_b2_0_b6).other W8 n_b2_0_b6).other W9 n_b2_0_b6)
  have old9 := (((((old4.keep K5 (allS e_b3_0 (allS e_b2_3 (allS e_b3_1 (allS e_b2_4 all0))))).ext E6).wr W7 e_b6).wr W8 e_b6).wr W9 e_b6)
  have n_b1_b2_0 : (b1 : Nat) ≠ b2_0 := by omega
  have e_b2_0 : n0 ≤ (b2_0 : Nat) := by omega
  refine z_callVV C o_b1_9.1 (z_c16_27 l hw S zz9 old9 (z_li 1 u0) (z_li 2 u1) (z_li 3 u2) b1 b6 b2_0 b2_1 b2_3 b2_4 b2_5 b3_0 o_b1_9 o_b2_5_9 o_b2_3_9 o_b6_9 o_b2_0_9 n_b1_b6 n_b1_b2_3 n_b1_b2_0 e_b1 e_b2_0 (z_tab0 u0) (z_tab1 u0) (z_tab2 u0) (z_tab3 u0) (z_tab4 u0) (z_tab5 u0) (z_tab6 u0) (z_tab7 u0) (z_tab8 u0) (z_tab9 u0) (z_tab10 u1) (z_tab11 u1) (z_tab12 u1) (z_tab13 u1) (z_tab14 u0 u1) (z_tab15 u0 u1) (z_tab16 u0 u1) (z_tab17 u1) (z_tab18 u0 u1) (z_tab19 u0 u1) (z_tab20 u2) (z_tab21 u2) (z_tab22 u2) (z_tab23 u2) (z_tab24 u0 u1 u2) (z_tab25 u0 u1 u2) (z_tab26 u0 u1 u2) (z_tab27 u2) (z_tab28 u0 u1 u2) (z_tab29 u0 u1 u2)) (z_w hw 116 rfl) (z_w hw 117 rfl) (z_w hw 119 rfl) (z_w hw 118 rfl) (z_w hw 2 rfl) (z_w hw 120 rfl) (by decide) at_164 rfl (argsL := [(.ref b6)]) (rest := []) rfl (lenOf z_pd10 rfl) (W := 0) (Nat.le_of_eq rfl) (by decide) (by decide) (by decide) (by decide) 167 rfl ?_
  rintro h10 ⟨b10_0, b10_1, b10_2, K10, l10_0, l10_1, l10_2, l10_3, o_b1_10, o_b2_0_10, o_b10_0_10, o_b10_1_10, o_b10_2_10⟩
  have s10 : h9.size ≤ h10.size := K10.1
  refine z_aload C at_167 rfl rfl 169 rfl ?_
  refine z_iconst C (v := (3 : Int32)) at_169 (by decide) 170 rfl ?_
  refine z_newarray C (aty := .int) (z_w hw 115 rfl) (by decide) (cap := 3) (by decide) (by decide) (ad := "[I") (by decide +kernel) (vs := [(.int 0), (.int 0), (.int 0)]) (by rfl) at_170 (by decide) (by decide) 172 rfl ?_
  intro h11 b11 g11 E11 o_b11
  have s11 : h10.size ≤ h11.size := E11.1
  have o_b11 : z_Ar Z h11 b11 .int "[I" "" [(.int 0), (.int 0), (.int 0)] := o_b11
  have t11 := o_b11.lt
  refine z_dup C at_172 rfl 173 rfl ?_
  refine z_iconst C (v := (0 : Int32)) at_173 (by decide) 174 rfl ?_
  refine z_cut (fJ := mkF m 187 #[.val (.int x0), .val (.int x1), .val (.int x2), .val (.int x3), .val (.ref b1), .val (.int 1), .val (.int 2), .val (.int 3), .val (.int (z_pb u0)), .val (.int (z_pb u1)), .val (.int (z_pb u2)), .val (.int (z_pb u3)), .val (.int (z_pb u4)), .val (.int (z_pb u5)), .unset, .unset, .unset, .unset, .unset, .unset, .unset, .unset] [(.int (z_li 1 u3)), (.int 0), (.ref b11), (.ref b11), (.ref b1)]) (fun K => ?_) ?_
  · refine z_iload C at_174 rfl 176 rfl ?_
    by_cases hc176 : (z_pb u3) = (0 : Int32)
    · refine z_ifY C at_176 ((if0 _ _).trans (teq hc176).1) (by decide) 184 (by decide) ?_
      refine z_iload C at_184 rfl 186 rfl ?_
      refine z_ineg C (z := (-1 : Int32)) at_186 (by decide) 187 rfl ?_
      exact z_castI ((if_pos hc176).trans (by decide)) K
    · refine z_ifN C at_176 ((if0 _ _).trans (feq hc176).1) 179 rfl ?_
      refine z_iload C at_179 rfl 181 rfl ?_
      refine z_goto C at_181 (by decide) 187 (by decide) ?_
      exact z_castI ((if_neg hc176).trans (by decide)) K
  have e_b11 : n0 ≤ (b11 : Nat) := by omega
  refine z_iastore C (z := (z_li 1 u3)) o_b11 (by decide) (of_decide_eq_true rfl) rfl (vs' := [(.int (z_li 1 u3)), (.int 0), (.int 0)]) (by rfl) e_b11 at_187 188 rfl ?_
  intro h12 W12 o_b11_12
  have s12 : h12.size = h11.size := W12.size
  have q_b11 : h.size ≤ (b11 : Nat) := by omega
  refine z_dup C at_188 rfl 189 rfl ?_
  refine z_iconst C (v := (1 : Int32)) at_189 (by decide) 190 rfl ?_
  refine z_cut (fJ := mkF m 203 #[.val (.int x0), .val (.int x1), .val (.int x2), .val (.int x3), .val (.ref b1), .val (.int 1), .val (.int 2), .val (.int 3), .val (.int (z_pb u0)), .val (.int (z_pb u1)), .val (.int (z_pb u2)), .val (.int (z_pb u3)), .val (.int (z_pb u4)), .val (.int (z_pb u5)), .unset, .unset, .unset, .unset, .unset, .unset, .unset, .unset] [(.int (z_li 2 u4)), (.int 1), (.ref b11), (.ref b11), (.ref b1)]) (fun K => ?_) ?_
  · refine z_iload C at_190 rfl 192 rfl ?_
    by_cases hc192 : (z_pb u4) = (0 : Int32)
    · refine z_ifY C at_192 ((if0 _ _).trans (teq hc192).1) (by decide) 200 (by decide) ?_
      refine z_iload C at_200 rfl 202 rfl ?_
      refine z_ineg C (z := (-2 : Int32)) at_202 (by decide) 203 rfl ?_
      exact z_castI ((if_pos hc192).trans (by decide)) K
    · refine z_ifN C at_192 ((if0 _ _).trans (feq hc192).1) 195 rfl ?_
      refine z_iload C at_195 rfl 197 rfl ?_
      refine z_goto C at_197 (by decide) 203 (by decide) ?_
      exact z_castI ((if_neg hc192).trans (by decide)) K
  refine z_iastore C (z := (z_li 2 u4)) o_b11_12 (by decide) (of_decide_eq_true rfl) rfl (vs' := [(.int (z_li 1 u3)), (.int (z_li 2 u4)), (.int 0)]) (by rfl) e_b11 at_203 204 rfl ?_
  intro h13 W13 o_b11_13
  have s13 : h13.size = h12.size := W13.size
  refine z_dup C at_204 rfl 205 rfl ?_
  refine z_iconst C (v := (2 : Int32)) at_205 (by decide) 206 rfl ?_
  refine z_cut (fJ := mkF m 219 #[.val (.int x0), .val (.int x1), .val (.int x2), .val (.int x3), .val (.ref b1), .val (.int 1), .val (.int 2), .val (.int 3), .val (.int (z_pb u0)), .val (.int (z_pb u1)), .val (.int (z_pb u2)), .val (.int (z_pb u3)), .val (.int (z_pb u4)), .val (.int (z_pb u5)), .unset, .unset, .unset, .unset, .unset, .unset, .unset, .unset] [(.int (z_li 3 u5)), (.int 2), (.ref b11), (.ref b11), (.ref b1)]) (fun K => ?_) ?_
  · refine z_iload C at_206 rfl 208 rfl ?_
    by_cases hc208 : (z_pb u5) = (0 : Int32)
    · refine z_ifY C at_208 ((if0 _ _).trans (teq hc208).1) (by decide) 216 (by decide) ?_
      refine z_iload C at_216 rfl 218 rfl ?_
      refine z_ineg C (z := (-3 : Int32)) at_218 (by decide) 219 rfl ?_
      exact z_castI ((if_pos hc208).trans (by decide)) K
    · refine z_ifN C at_208 ((if0 _ _).trans (feq hc208).1) 211 rfl ?_
      refine z_iload C at_211 rfl 213 rfl ?_
      refine z_goto C at_213 (by decide) 219 (by decide) ?_
      exact z_castI ((if_neg hc208).trans (by decide)) K
  refine z_iastore C (z := (z_li 3 u5)) o_b11_13 (by decide) (of_decide_eq_true rfl) rfl (vs' := [(.int (z_li 1 u3)), (.int (z_li 2 u4)), (.int (z_li 3 u5))]) (by rfl) e_b11 at_219 220 rfl ?_
  intro h14 W14 o_b11_14
  have s14 : h14.size = h13.size := W14.size
  have zz14 : n0 ≤ h14.size := by omega
  have n_b1_b11 : (b1 : Nat) ≠ b11 := by omega
  have o_b1_14 := ((((o_b1_10.ext E11).other W12 n_b1_b11).other W13 n_b1_b11).other W14 n_b1_b11)
  have n_b10_0_b11 : (b10_0 : Nat) ≠ b11 := by omega
  have o_b10_0_14 := ((((o_b10_0_10.ext E11).other W12 n_b10_0_b11).other W13 n_b10_0_b11).other W14 n_b10_0_b11)
  have n_b2_3_b11 : (b2_3 : Nat) ≠ b11 := by omega
  have o_b2_3_14 := (((((o_b2_3_9.keep K10 (ninS n_b1_b2_3.symm (ninS n_b2_0_b2_3.symm nin0))).ext E11).other W12 n_b2_3_b11).other W13 n_b2_3_b11).other W14 n_b2_3_b11)
  have n_b2_0_b11 : (b2_0 : Nat) ≠ b11 := by omega
  have o_b2_0_14 := ((((o_b2_0_10.ext E11).other W12 n_b2_0_b11).other W13 n_b2_0_b11).other W14 n_b2_0_b11)
  have n_b10_2_b11 : (b10_2 : Nat) ≠ b11 := by omega
  have o_b10_2_14 := ((((o_b10_2_10.ext E11).other W12 n_b10_2_b11).other W13 n_b10_2_b11).other W14 n_b10_2_b11)
  have old14 := (((((old9.keep K10 (allS e_b1 (allS e_b2_0 all0))).ext E11).wr W12 e_b11).wr W13 e_b11).wr W14 e_b11)
  have n_b1_b10_0 : (b1 : Nat) ≠ b10_0 := by omega
  have n_b2_3_b10_0 : (b2_3 : Nat) ≠ b10_0 := by omega
  have n_b2_0_b10_0 : (b2_0 : Nat) ≠ b10_0 := by omega
  have n_b1_b10_2 : (b1 : Nat) ≠ b10_2 := by omega
  have n_b10_0_b10_2 : (b10_0 : Nat) ≠ b10_2 := by omega
  have n_b2_0_b10_2 : (b2_0 : Nat) ≠ b10_2 := by omega
  have e_b10_0 : n0 ≤ (b10_0 : Nat) := by omega
  have e_b10_2 : n0 ≤ (b10_2 : Nat) := by omega
  refine z_callVV C o_b1_14.1 (z_c16_30 l hw S zz14 old14 (z_li 1 u3) (z_li 2 u4) (z_li 3 u5) ((List.set ((List.set ((List.set (([(.long (0 : Int64)), (.long (0 : Int64)), (.long (0 : Int64)), (.long (0 : Int64)), (.long (0 : Int64)), (.long (0 : Int64)), (.long (0 : Int64)), (.long (0 : Int64))] : List Value)) ((z_ix (z_li 1 u0))).toNatClampNeg (.long (1 : Int64)))) ((z_ix (z_li 2 u1))).toNatClampNeg (.long (1 : Int64)))) ((z_ix (z_li 3 u2))).toNatClampNeg (.long (1 : Int64)))) b1 b11 b2_0 b2_1 b2_3 b2_4 b10_0 b3_0 b10_2 b10_1 o_b1_14 o_b10_0_14 o_b2_3_14 o_b11_14 o_b2_0_14 o_b10_2_14 n_b1_b11 n_b1_b2_3 n_b1_b10_0 n_b10_0_b11.symm n_b2_3_b10_0 n_b1_b2_0 n_b2_0_b10_0 n_b1_b10_2 n_b10_0_b10_2 n_b2_0_b10_2 e_b1 e_b10_0 e_b2_0 e_b10_2 (z_tab30 u0 u1 u2) (z_tab31 u3) (z_tab32 u3) (z_tab33 u3) (z_tab34 u3) (z_tab35 u0 u1 u2 u3) (z_tab36 u0 u1 u2 u3) (z_tab37 u0 u1 u2 u3) (z_tab38 u3) (z_tab39 u0 u1 u2 u3) (z_tab40 u0 u1 u2 u3) (z_tab41 u4) (z_tab42 u4) (z_tab43 u4) (z_tab44 u4) (z_tab45 u0 u1 u2 u3 u4) (z_tab46 u0 u1 u2 u3 u4) (z_tab47 u0 u1 u2 u3 u4) (z_tab48 u4) (z_tab49 u0 u1 u2 u3 u4) (z_tab50 u0 u1 u2 u3 u4) (z_tab51 u5) (z_tab52 u5) (z_tab53 u5) (z_tab54 u5) (z_tab55 u0 u1 u2 u3 u4 u5) (z_tab56 u0 u1 u2 u3 u4 u5) (z_tab57 u0 u1 u2 u3 u4 u5) (z_tab58 u5) (z_tab59 u0 u1 u2 u3 u4 u5) (z_tab60 u0 u1 u2 u3 u4 u5)) (z_w hw 116 rfl) (z_w hw 117 rfl) (z_w hw 119 rfl) (z_w hw 118 rfl) (z_w hw 2 rfl) (z_w hw 120 rfl) (by decide) at_220 rfl (argsL := [(.ref b11)]) (rest := []) rfl (lenOf z_pd10 rfl) (W := 0) (Nat.le_of_eq rfl) (by decide) (by decide) (by decide) (by decide) 223 rfl ?_
  rintro h15 ⟨b15_0, K15, l15_0, l15_1, o_b1_15, o_b10_0_15, o_b2_0_15, o_b10_2_15, o_b15_0_15⟩
  have s15 : h14.size ≤ h15.size := K15.1
  refine z_newO C (z_w hw 136 rfl) (z_w hw 137 rfl) (z_w hw 138 rfl) (z_lay3_ok hw) z_lay3_df at_223 (by decide) (by decide) 226 rfl ?_
  intro h16 b16 g16 E16 o_b16
  have s16 : h15.size ≤ h16.size := E16.1
  have t16 := o_b16.lt
  refine z_dup C at_226 rfl 227 rfl ?_
  refine z_aload C at_227 rfl rfl 229 rfl ?_
  have zz16 : n0 ≤ h16.size := by omega
  have o_b1_16 := (o_b1_15.ext E16)
  have n_b2_3_b10_2 : (b2_3 : Nat) ≠ b10_2 := by omega
  have o_b2_3_16 := ((o_b2_3_14.keep K15 (ninS n_b1_b2_3.symm (ninS n_b2_3_b10_0 (ninS n_b2_3_b10_2 (ninS n_b2_0_b2_3.symm nin0))))).ext E16)
  have n_b3_0_b6 : (b3_0 : Nat) ≠ b6 := by omega
  have n_b3_0_b11 : (b3_0 : Nat) ≠ b11 := by omega
  have n_b3_0_b10_2 : (b3_0 : Nat) ≠ b10_2 := by omega
  have n_b3_0_b10_0 : (b3_0 : Nat) ≠ b10_0 := by omega
  have o_b3_0_16 := (((((((((((o_b3_0_5.ext E6).other W7 n_b3_0_b6).other W8 n_b3_0_b6).other W9 n_b3_0_b6).keep K10 (ninS n_b1_b3_0.symm (ninS n_b2_0_b3_0.symm nin0))).ext E11).other W12 n_b3_0_b11).other W13 n_b3_0_b11).other W14 n_b3_0_b11).keep K15 (ninS n_b1_b3_0.symm (ninS n_b3_0_b10_0 (ninS n_b3_0_b10_2 (ninS n_b2_0_b3_0.symm nin0))))).ext E16)
  have n_b2_4_b6 : (b2_4 : Nat) ≠ b6 := by omega
  have n_b2_4_b11 : (b2_4 : Nat) ≠ b11 := by omega
  have n_b2_4_b10_2 : (b2_4 : Nat) ≠ b10_2 := by omega
  have n_b2_4_b10_0 : (b2_4 : Nat) ≠ b10_0 := by omega
  have o_b2_4_16 := (((((((((((o_b2_4_5.ext E6).other W7 n_b2_4_b6).other W8 n_b2_4_b6).other W9 n_b2_4_b6).keep K10 (ninS n_b1_b2_4.symm (ninS n_b2_0_b2_4.symm nin0))).ext E11).other W12 n_b2_4_b11).other W13 n_b2_4_b11).other W14 n_b2_4_b11).keep K15 (ninS n_b1_b2_4.symm (ninS n_b2_4_b10_0 (ninS n_b2_4_b10_2 (ninS n_b2_0_b2_4.symm nin0))))).ext E16)
  have n_b3_1_b6 : (b3_1 : Nat) ≠ b6 := by omega
  have n_b3_1_b11 : (b3_1 : Nat) ≠ b11 := by omega
  have n_b3_1_b10_2 : (b3_1 : Nat) ≠ b10_2 := by omega
  have n_b3_1_b10_0 : (b3_1 : Nat) ≠ b10_0 := by omega
  have o_b3_1_16 := (((((((((((o_b3_1_5.ext E6).other W7 n_b3_1_b6).other W8 n_b3_1_b6).other W9 n_b3_1_b6).keep K10 (ninS n_b1_b3_1.symm (ninS n_b2_0_b3_1.symm nin0))).ext E11).other W12 n_b3_1_b11).other W13 n_b3_1_b11).other W14 n_b3_1_b11).keep K15 (ninS n_b1_b3_1.symm (ninS n_b3_1_b10_0 (ninS n_b3_1_b10_2 (ninS n_b2_0_b3_1.symm nin0))))).ext E16)
  have o_b2_0_16 := (o_b2_0_15.ext E16)
  have o_b10_2_16 := (o_b10_2_15.ext E16)
  have n_b10_1_b11 : (b10_1 : Nat) ≠ b11 := by omega
  have n_b10_1_b2_0 : (b10_1 : Nat) ≠ b2_0 := by omega
  have n_b10_1_b10_2 : (b10_1 : Nat) ≠ b10_2 := by omega
  have n_b10_1_b10_0 : (b10_1 : Nat) ≠ b10_0 := by omega
  have n_b10_1_b1 : (b10_1 : Nat) ≠ b1 := by omega
  have o_b10_1_16 := ((((((o_b10_1_10.ext E11).other W12 n_b10_1_b11).other W13 n_b10_1_b11).other W14 n_b10_1_b11).keep K15 (ninS n_b10_1_b1 (ninS n_b10_1_b10_0 (ninS n_b10_1_b10_2 (ninS n_b10_1_b2_0 nin0))))).ext E16)
  have n_b2_1_b2_4 : (b2_1 : Nat) ≠ b2_4 := by omega
  have n_b2_1_b2_3 : (b2_1 : Nat) ≠ b2_3 := by omega
  have n_b2_1_b3_1 : (b2_1 : Nat) ≠ b3_1 := by omega
  have n_b2_1_b3_0 : (b2_1 : Nat) ≠ b3_0 := by omega
  have n_b2_1_b6 : (b2_1 : Nat) ≠ b6 := by omega
  have n_b2_1_b2_0 : (b2_1 : Nat) ≠ b2_0 := by omega
  have n_b2_1_b1 : (b2_1 : Nat) ≠ b1 := by omega
  have n_b2_1_b11 : (b2_1 : Nat) ≠ b11 := by omega
  have n_b2_1_b10_2 : (b2_1 : Nat) ≠ b10_2 := by omega
  have n_b2_1_b10_0 : (b2_1 : Nat) ≠ b10_0 := by omega
  have o_b2_1_16 := ((((((((((((((o_b2_1_2.keep K3 (ninS n_b2_1_b2_3 (ninS n_b2_1_b2_4 nin0))).keep K4 (ninS n_b2_1_b3_0 (ninS n_b2_1_b2_3 (ninS n_b2_1_b3_1 (ninS n_b2_1_b2_4 nin0))))).keep K5 (ninS n_b2_1_b3_0 (ninS n_b2_1_b2_3 (ninS n_b2_1_b3_1 (ninS n_b2_1_b2_4 nin0))))).ext E6).other W7 n_b2_1_b6).other W8 n_b2_1_b6).other W9 n_b2_1_b6).keep K10 (ninS n_b2_1_b1 (ninS n_b2_1_b2_0 nin0))).ext E11).other W12 n_b2_1_b11).other W13 n_b2_1_b11).other W14 n_b2_1_b11).keep K15 (ninS n_b2_1_b1 (ninS n_b2_1_b10_0 (ninS n_b2_1_b10_2 (ninS n_b2_1_b2_0 nin0))))).ext E16)
  have o_b15_0_16 := (o_b15_0_15.ext E16)
  have old16 := ((old14.keep K15 (allS e_b1 (allS e_b10_0 (allS e_b10_2 (allS e_b2_0 all0))))).ext E16)
  have n_b16_b1 : (b16 : Nat) ≠ b1 := by omega
  have n_b16_b2_3 : (b16 : Nat) ≠ b2_3 := by omega
  have n_b16_b3_0 : (b16 : Nat) ≠ b3_0 := by omega
  have n_b16_b2_4 : (b16 : Nat) ≠ b2_4 := by omega
  have n_b16_b3_1 : (b16 : Nat) ≠ b3_1 := by omega
  have n_b16_b2_0 : (b16 : Nat) ≠ b2_0 := by omega
  have n_b16_b10_2 : (b16 : Nat) ≠ b10_2 := by omega
  have n_b16_b10_1 : (b16 : Nat) ≠ b10_1 := by omega
  have n_b16_b2_1 : (b16 : Nat) ≠ b2_1 := by omega
  have n_b16_b15_0 : (b16 : Nat) ≠ b15_0 := by omega
  have e_b16 : n0 ≤ (b16 : Nat) := by omega
  refine z_callI C rfl (z_c19_87 l hw S zz16 old16 (z_li 1 u0) (z_li 2 u1) (z_li 3 u2) (z_li 1 u3) (z_li 2 u4) (z_li 3 u5) b16 b1 b2_0 b2_1 b2_3 b2_4 b10_0 b3_0 b3_1 b10_2 b10_1 b15_0 b2_2 o_b1_16 o_b2_3_16 o_b16 o_b3_0_16 o_b2_4_16 o_b3_1_16 o_b2_0_16 o_b10_2_16 o_b10_1_16 o_b2_1_16 o_b15_0_16 n_b16_b1 n_b16_b2_3 n_b16_b3_0 n_b16_b2_4 n_b16_b3_1 n_b16_b2_0 n_b16_b10_2 n_b16_b10_1 n_b16_b2_1 n_b16_b15_0 e_b16 (z_tab61 u0) (z_tab62 u1) (z_tab63 u2) (z_tab64 u3) (z_tab65 u4) (z_tab66 u5) (z_tab3 u0) (z_tab67 u0) (z_tab68 a_NONE u0) (z_tab69 a_NONE u0) (z_tab70 u0) (z_tab13 u1) (z_tab71 u0 u1) (z_tab72 a_NONE u0 u1) (z_tab73 a_NONE u0 u1) (z_tab74 u0 u1) (z_tab75 a_NONE u0 u1 u3) (z_tab34 u3) (z_tab76 a_NONE u0 u1 u3) (z_tab77 u0 u1 u3) (z_tab78 a_NONE u0 u1 u3 u4) (z_tab44 u4) (z_tab79 a_NONE u0 u1 u3 u4) (z_tab80 u0 u1 u3 u4)) (z_w hw 139 rfl) (z_w hw 140 rfl) (z_w hw 138 rfl) (z_w hw 141 rfl) (by decide) at_229 rfl (argsL := [(.ref b1)]) (rest := [(.ref b16)]) rfl (lenOf z_pd24 rfl) (W := 1) (Nat.le_of_eq rfl) (by decide) (by decide) (by decide) (by decide) 232 rfl ?_
  rintro h17 ⟨b17_0, b17_1, b17_2, b17_3, b17_4, b17_5, b17_6, b17_7, b17_8, b17_9, K17, l17_0, l17_1, l17_2, l17_3, l17_4, l17_5, l17_6, l17_7, l17_8, l17_9, l17_10, o_b16_17, o_b17_1_17, o_b17_2_17, o_b17_5_17, o_b17_6_17⟩
  have s17 : h16.size ≤ h17.size := K17.1
  refine z_astore C (Ls' := #[.val (.int x0), .val (.int x1), .val (.int x2), .val (.int x3), .val (.ref b1), .val (.int 1), .val (.int 2), .val (.int 3), .val (.int (z_pb u0)), .val (.int (z_pb u1)), .val (.int (z_pb u2)), .val (.int (z_pb u3)), .val (.int (z_pb u4)), .val (.int (z_pb u5)), .val (.ref b16), .unset, .unset, .unset, .unset, .unset, .unset, .unset]) at_232 rfl rfl 234 rfl ?_
  refine z_iloadN C at_234 rfl 235 rfl ?_
  refine z_ldc C (z_w hw 293 rfl) at_235 237 rfl ?_
  refine z_iand C at_237 rfl 238 rfl ?_
  refine z_iconst C (v := (3 : Int32)) at_238 (by decide) 239 rfl ?_
  refine z_irem C (z := (z_tr k1)) at_239 (by decide) hk1 240 rfl ?_
  refine z_istore C (Ls' := #[.val (.int x0), .val (.int x1), .val (.int x2), .val (.int x3), .val (.ref b1), .val (.int 1), .val (.int 2), .val (.int 3), .val (.int (z_pb u0)), .val (.int (z_pb u1)), .val (.int (z_pb u2)), .val (.int (z_pb u3)), .val (.int (z_pb u4)), .val (.int (z_pb u5)), .val (.ref b16), .val (.int (z_tr k1)), .unset, .unset, .unset, .unset, .unset, .unset]) at_240 rfl 242 rfl ?_
  refine z_iloadN C at_242 rfl 243 rfl ?_
  refine z_ldc C (z_w hw 293 rfl) at_243 245 rfl ?_
  refine z_iand C at_245 rfl 246 rfl ?_
  refine z_iconst C (v := (3 : Int32)) at_246 (by decide) 247 rfl ?_
  refine z_irem C (z := (z_tr k2)) at_247 (by decide) hk2 248 rfl ?_
  refine z_istore C (Ls' := #[.val (.int x0), .val (.int x1), .val (.int x2), .val (.int x3), .val (.ref b1), .val (.int 1), .val (.int 2), .val (.int 3), .val (.int (z_pb u0)), .val (.int (z_pb u1)), .val (.int (z_pb u2)), .val (.int (z_pb u3)), .val (.int (z_pb u4)), .val (.int (z_pb u5)), .val (.ref b16), .val (.int (z_tr k1)), .val (.int (z_tr k2)), .unset, .unset, .unset, .unset, .unset]) at_248 rfl 250 rfl ?_
  refine z_iloadN C at_250 rfl 251 rfl ?_
  refine z_ldc C (z_w hw 293 rfl) at_251 253 rfl ?_
  refine z_iand C at_253 rfl 254 rfl ?_
  refine z_iconst C (v := (3 : Int32)) at_254 (by decide) 255 rfl ?_
  refine z_irem C (z := (z_tr k3)) at_255 (by decide) hk3 256 rfl ?_
  refine z_istore C (Ls' := #[.val (.int x0), .val (.int x1), .val (.int x2), .val (.int x3), .val (.ref b1), .val (.int 1), .val (.int 2), .val (.int 3), .val (.int (z_pb u0)), .val (.int (z_pb u1)), .val (.int (z_pb u2)), .val (.int (z_pb u3)), .val (.int (z_pb u4)), .val (.int (z_pb u5)), .val (.ref b16), .val (.int (z_tr k1)), .val (.int (z_tr k2)), .val (.int (z_tr k3)), .unset, .unset, .unset, .unset]) at_256 rfl 258 rfl ?_
  refine z_aload C at_258 rfl rfl 260 rfl ?_
  refine z_iload C at_260 rfl 262 rfl ?_
  refine z_iload C at_262 rfl 264 rfl ?_
  have old17 := (old16.keep K17 (allS e_b16 all0))
  have n_b16_b17_1 : (b16 : Nat) ≠ b17_1 := by omega
  have n_b17_1_b17_2 : (b17_1 : Nat) ≠ b17_2 := by omega
  have n_b16_b17_2 : (b16 : Nat) ≠ b17_2 := by omega
  have e_b17_1 : n0 ≤ (b17_1 : Nat) := by omega
  have e_b17_2 : n0 ≤ (b17_2 : Nat) := by omega
  refine z_callSV C (z_set1 l hw S (by omega) old17 (0 : Int32) (([(.int 0), (.int 0), (.int 0), (.int 0), (.int 0), (.int 0), (.int 0), (.int 0)] : List Value)) (([(.int 0), (.int 0), (.int 0), (.int 0)] : List Value)) b16 b17_0 b17_1 b17_2 b17_3 b17_4 b17_5 b17_6 b17_7 b17_8 b17_9 o_b16_17 o_b17_1_17 o_b17_2_17 n_b16_b17_1 n_b17_1_b17_2 n_b16_b17_2 e_b17_1 e_b16 e_b17_2 (z_tr k1) (z_trc k1) rfl rfl rfl) (z_w hw 294 rfl) (z_w hw 295 rfl) (z_w hw 296 rfl) (z_w hw 297 rfl) (by decide) at_264 rfl (argsL := [(.ref b16), (.int 1), (.int (z_tr k1))]) (rest := []) rfl (lenOf z_pd25 rfl) (W := 0) (Nat.le_of_eq rfl) (by decide) (by decide) (by decide) (by decide) 267 rfl ?_
  rintro h18 ⟨n1, vt1, hn1, ht4_1, K18, o_b16_18, o_b17_1_18, o_b17_2_18⟩
  have s18 : h17.size ≤ h18.size := K18.1
  refine z_aload C at_267 rfl rfl 269 rfl ?_
  refine z_iload C at_269 rfl 271 rfl ?_
  refine z_iload C at_271 rfl 273 rfl ?_
  have old18 := (old17.keep K18 (allS e_b16 (allS e_b17_1 (allS e_b17_2 all0))))
  refine z_callSV C (z_set2 l hw S (by omega) old18 n1 ((z_sv (1 : Int32) (z_tr k1) ([(.int 0), (.int 0), (.int 0), (.int 0), (.int 0), (.int 0), (.int 0), (.int 0)] : List Value))) (vt1) b16 b17_0 b17_1 b17_2 b17_3 b17_4 b17_5 b17_6 b17_7 b17_8 b17_9 o_b16_18 o_b17_1_18 o_b17_2_18 n_b16_b17_1 n_b17_1_b17_2 n_b16_b17_2 e_b17_1 e_b16 e_b17_2 (z_tr k2) (z_trc k2) hn1 ((z_svl _ _ _).trans rfl) ht4_1) (z_w hw 294 rfl) (z_w hw 295 rfl) (z_w hw 296 rfl) (z_w hw 297 rfl) (by decide) at_273 rfl (argsL := [(.ref b16), (.int 2), (.int (z_tr k2))]) (rest := []) rfl (lenOf z_pd25 rfl) (W := 0) (Nat.le_of_eq rfl) (by decide) (by decide) (by decide) (by decide) 276 rfl ?_
  rintro h19 ⟨n2, vt2, hn2, ht4_2, K19, o_b16_19, o_b17_1_19, o_b17_2_19⟩
  have s19 : h18.size ≤ h19.size := K19.1
  refine z_aload C at_276 rfl rfl 278 rfl ?_
  refine z_iload C at_278 rfl 280 rfl ?_
  refine z_iload C at_280 rfl 282 rfl ?_
  have old19 := (old18.keep K19 (allS e_b16 (allS e_b17_1 (allS e_b17_2 all0))))
  refine z_callSV C (z_set3 l hw S (by omega) old19 n2 ((z_sv (2 : Int32) (z_tr k2) (z_sv (1 : Int32) (z_tr k1) ([(.int 0), (.int 0), (.int 0), (.int 0), (.int 0), (.int 0), (.int 0), (.int 0)] : List Value)))) (vt2) b16 b17_0 b17_1 b17_2 b17_3 b17_4 b17_5 b17_6 b17_7 b17_8 b17_9 o_b16_19 o_b17_1_19 o_b17_2_19 n_b16_b17_1 n_b17_1_b17_2 n_b16_b17_2 e_b17_1 e_b16 e_b17_2 (z_tr k3) (z_trc k3) hn2 ((z_svl _ _ _).trans ((z_svl _ _ _).trans rfl)) ht4_2) (z_w hw 294 rfl) (z_w hw 295 rfl) (z_w hw 296 rfl) (z_w hw 297 rfl) (by decide) at_282 rfl (argsL := [(.ref b16), (.int 3), (.int (z_tr k3))]) (rest := []) rfl (lenOf z_pd25 rfl) (W := 0) (Nat.le_of_eq rfl) (by decide) (by decide) (by decide) (by decide) 285 rfl ?_
  rintro h20 ⟨n3, vt3, hn3, ht4_3, K20, o_b16_20, o_b17_1_20, o_b17_2_20⟩
  have s20 : h19.size ≤ h20.size := K20.1
  refine z_cut (fJ := mkF m 320 #[.val (.int x0), .val (.int x1), .val (.int x2), .val (.int x3), .val (.ref b1), .val (.int 1), .val (.int 2), .val (.int 3), .val (.int (z_pb u0)), .val (.int (z_pb u1)), .val (.int (z_pb u2)), .val (.int (z_pb u3)), .val (.int (z_pb u4)), .val (.int (z_pb u5)), .val (.ref b16), .val (.int (z_tr k1)), .val (.int (z_tr k2)), .val (.int (z_tr k3)), .unset, .unset, .unset, .unset] [(.int (z_e (z_hd (z_pb u0) (z_tr k1)) (z_hd (z_pb u1) (z_tr k2)) (z_hd (z_pb u2) (z_tr k3))))]) (fun K => ?_) ?_
  · refine z_iload C at_285 rfl 287 rfl ?_
    refine z_iload C at_287 rfl 289 rfl ?_
    have zz20 : n0 ≤ h20.size := by omega
    have old20 := (old19.keep K20 (allS e_b16 (allS e_b17_1 (allS e_b17_2 all0))))
    refine z_callSp C (z_c41_103 l hw S zz20 old20 (z_pb u0) (z_tr k1)) (z_w hw 305 rfl) (z_w hw 306 rfl) (z_w hw 296 rfl) (z_w hw 307 rfl) (by decide) at_289 rfl (argsL := [(.int (z_pb u0)), (.int (z_tr k1))]) (rest := []) rfl (lenOf z_pd26 rfl) (W := 0) (Nat.le_of_eq rfl) (by decide) (by decide) (by decide) (by decide) (by decide) (by decide) 292 rfl ?_
    by_cases hc292 : (z_hd (z_pb u0) (z_tr k1)) = (0 : Int32)
    · refine z_ifN C at_292 ((if0 _ _).trans (teq hc292).2) 295 rfl ?_
      refine z_iload C at_295 rfl 297 rfl ?_
      refine z_iload C at_297 rfl 299 rfl ?_
      refine z_callSp C (z_c41_103 l hw S zz20 old20 (z_pb u1) (z_tr k2)) (z_w hw 305 rfl) (z_w hw 306 rfl) (z_w hw 296 rfl) (z_w hw 307 rfl) (by decide) at_299 rfl (argsL := [(.int (z_pb u1)), (.int (z_tr k2))]) (rest := []) rfl (lenOf z_pd26 rfl) (W := 0) (Nat.le_of_eq rfl) (by decide) (by decide) (by decide) (by decide) (by decide) (by decide) 302 rfl ?_
      by_cases hc302 : (z_hd (z_pb u1) (z_tr k2)) = (0 : Int32)
      · refine z_ifN C at_302 ((if0 _ _).trans (teq hc302).2) 305 rfl ?_
        refine z_iload C at_305 rfl 307 rfl ?_
        refine z_iload C at_307 rfl 309 rfl ?_
        refine z_callSp C (z_c41_103 l hw S zz20 old20 (z_pb u2) (z_tr k3)) (z_w hw 305 rfl) (z_w hw 306 rfl) (z_w hw 296 rfl) (z_w hw 307 rfl) (by decide) at_309 rfl (argsL := [(.int (z_pb u2)), (.int (z_tr k3))]) (rest := []) rfl (lenOf z_pd26 rfl) (W := 0) (Nat.le_of_eq rfl) (by decide) (by decide) (by decide) (by decide) (by decide) (by decide) 312 rfl ?_
        by_cases hc312 : (z_hd (z_pb u2) (z_tr k3)) = (0 : Int32)
        · refine z_ifY C at_312 ((if0 _ _).trans (teq hc312).1) (by decide) 319 (by decide) ?_
          refine z_iconst C (v := (0 : Int32)) at_319 (by decide) 320 rfl ?_
          exact z_castI (by simp +decide [z_e, eq_true hc292, eq_true hc302, eq_true hc312]) K
        · refine z_ifN C at_312 ((if0 _ _).trans (feq hc312).1) 315 rfl ?_
          refine z_iconst C (v := (1 : Int32)) at_315 (by decide) 316 rfl ?_
          refine z_goto C at_316 (by decide) 320 (by decide) ?_
          exact z_castI (by simp +decide [z_e, eq_true hc292, eq_true hc302, eq_false hc312]) K
      · refine z_ifY C at_302 ((if0 _ _).trans (feq hc302).2) (by decide) 315 (by decide) ?_
        refine z_iconst C (v := (1 : Int32)) at_315 (by decide) 316 rfl ?_
        refine z_goto C at_316 (by decide) 320 (by decide) ?_
        exact z_castI (by simp +decide [z_e, eq_true hc292, eq_false hc302]) K
    · refine z_ifY C at_292 ((if0 _ _).trans (feq hc292).2) (by decide) 315 (by decide) ?_
      refine z_iconst C (v := (1 : Int32)) at_315 (by decide) 316 rfl ?_
      refine z_goto C at_316 (by decide) 320 (by decide) ?_
      exact z_castI (by simp +decide [z_e, eq_false hc292]) K
  refine z_istore C (Ls' := #[.val (.int x0), .val (.int x1), .val (.int x2), .val (.int x3), .val (.ref b1), .val (.int 1), .val (.int 2), .val (.int 3), .val (.int (z_pb u0)), .val (.int (z_pb u1)), .val (.int (z_pb u2)), .val (.int (z_pb u3)), .val (.int (z_pb u4)), .val (.int (z_pb u5)), .val (.ref b16), .val (.int (z_tr k1)), .val (.int (z_tr k2)), .val (.int (z_tr k3)), .val (.int (z_e (z_hd (z_pb u0) (z_tr k1)) (z_hd (z_pb u1) (z_tr k2)) (z_hd (z_pb u2) (z_tr k3)))), .unset, .unset, .unset]) at_320 rfl 322 rfl ?_
  refine z_cut (fJ := mkF m 357 #[.val (.int x0), .val (.int x1), .val (.int x2), .val (.int x3), .val (.ref b1), .val (.int 1), .val (.int 2), .val (.int 3), .val (.int (z_pb u0)), .val (.int (z_pb u1)), .val (.int (z_pb u2)), .val (.int (z_pb u3)), .val (.int (z_pb u4)), .val (.int (z_pb u5)), .val (.ref b16), .val (.int (z_tr k1)), .val (.int (z_tr k2)), .val (.int (z_tr k3)), .val (.int (z_e (z_hd (z_pb u0) (z_tr k1)) (z_hd (z_pb u1) (z_tr k2)) (z_hd (z_pb u2) (z_tr k3)))), .unset, .unset, .unset] [(.int (z_e (z_hd (z_pb u3) (z_tr k1)) (z_hd (z_pb u4) (z_tr k2)) (z_hd (z_pb u5) (z_tr k3))))]) (fun K => ?_) ?_
  · refine z_iload C at_322 rfl 324 rfl ?_
    refine z_iload C at_324 rfl 326 rfl ?_
    have zz20 : n0 ≤ h20.size := by omega
    have old20 := (old19.keep K20 (allS e_b16 (allS e_b17_1 (allS e_b17_2 all0))))
    refine z_callSp C (z_c41_103 l hw S zz20 old20 (z_pb u3) (z_tr k1)) (z_w hw 305 rfl) (z_w hw 306 rfl) (z_w hw 296 rfl) (z_w hw 307 rfl) (by decide) at_326 rfl (argsL := [(.int (z_pb u3)), (.int (z_tr k1))]) (rest := []) rfl (lenOf z_pd26 rfl) (W := 0) (Nat.le_of_eq rfl) (by decide) (by decide) (by decide) (by decide) (by decide) (by decide) 329 rfl ?_
    by_cases hc329 : (z_hd (z_pb u3) (z_tr k1)) = (0 : Int32)
    · refine z_ifN C at_329 ((if0 _ _).trans (teq hc329).2) 332 rfl ?_
      refine z_iload C at_332 rfl 334 rfl ?_
      refine z_iload C at_334 rfl 336 rfl ?_
      refine z_callSp C (z_c41_103 l hw S zz20 old20 (z_pb u4) (z_tr k2)) (z_w hw 305 rfl) (z_w hw 306 rfl) (z_w hw 296 rfl) (z_w hw 307 rfl) (by decide) at_336 rfl (argsL := [(.int (z_pb u4)), (.int (z_tr k2))]) (rest := []) rfl (lenOf z_pd26 rfl) (W := 0) (Nat.le_of_eq rfl) (by decide) (by decide) (by decide) (by decide) (by decide) (by decide) 339 rfl ?_
      by_cases hc339 : (z_hd (z_pb u4) (z_tr k2)) = (0 : Int32)
      · refine z_ifN C at_339 ((if0 _ _).trans (teq hc339).2) 342 rfl ?_
        refine z_iload C at_342 rfl 344 rfl ?_
        refine z_iload C at_344 rfl 346 rfl ?_
        refine z_callSp C (z_c41_103 l hw S zz20 old20 (z_pb u5) (z_tr k3)) (z_w hw 305 rfl) (z_w hw 306 rfl) (z_w hw 296 rfl) (z_w hw 307 rfl) (by decide) at_346 rfl (argsL := [(.int (z_pb u5)), (.int (z_tr k3))]) (rest := []) rfl (lenOf z_pd26 rfl) (W := 0) (Nat.le_of_eq rfl) (by decide) (by decide) (by decide) (by decide) (by decide) (by decide) 349 rfl ?_
        by_cases hc349 : (z_hd (z_pb u5) (z_tr k3)) = (0 : Int32)
        · refine z_ifY C at_349 ((if0 _ _).trans (teq hc349).1) (by decide) 356 (by decide) ?_
          refine z_iconst C (v := (0 : Int32)) at_356 (by decide) 357 rfl ?_
          exact z_castI (by simp +decide [z_e, eq_true hc329, eq_true hc339, eq_true hc349]) K
        · refine z_ifN C at_349 ((if0 _ _).trans (feq hc349).1) 352 rfl ?_
          refine z_iconst C (v := (1 : Int32)) at_352 (by decide) 353 rfl ?_
          refine z_goto C at_353 (by decide) 357 (by decide) ?_
          exact z_castI (by simp +decide [z_e, eq_true hc329, eq_true hc339, eq_false hc349]) K
      · refine z_ifY C at_339 ((if0 _ _).trans (feq hc339).2) (by decide) 352 (by decide) ?_
        refine z_iconst C (v := (1 : Int32)) at_352 (by decide) 353 rfl ?_
        refine z_goto C at_353 (by decide) 357 (by decide) ?_
        exact z_castI (by simp +decide [z_e, eq_true hc329, eq_false hc339]) K
    · refine z_ifY C at_329 ((if0 _ _).trans (feq hc329).2) (by decide) 352 (by decide) ?_
      refine z_iconst C (v := (1 : Int32)) at_352 (by decide) 353 rfl ?_
      refine z_goto C at_353 (by decide) 357 (by decide) ?_
      exact z_castI (by simp +decide [z_e, eq_false hc329]) K
  refine z_istore C (Ls' := #[.val (.int x0), .val (.int x1), .val (.int x2), .val (.int x3), .val (.ref b1), .val (.int 1), .val (.int 2), .val (.int 3), .val (.int (z_pb u0)), .val (.int (z_pb u1)), .val (.int (z_pb u2)), .val (.int (z_pb u3)), .val (.int (z_pb u4)), .val (.int (z_pb u5)), .val (.ref b16), .val (.int (z_tr k1)), .val (.int (z_tr k2)), .val (.int (z_tr k3)), .val (.int (z_e (z_hd (z_pb u0) (z_tr k1)) (z_hd (z_pb u1) (z_tr k2)) (z_hd (z_pb u2) (z_tr k3)))), .val (.int (z_e (z_hd (z_pb u3) (z_tr k1)) (z_hd (z_pb u4) (z_tr k2)) (z_hd (z_pb u5) (z_tr k3)))), .unset, .unset]) at_357 rfl 359 rfl ?_
  refine z_aload C at_359 rfl rfl 361 rfl ?_
  refine z_iconst C (v := (0 : Int32)) at_361 (by decide) 362 rfl ?_
  have zz20 : n0 ≤ h20.size := by omega
  have n_b17_6_b17_2 : (b17_6 : Nat) ≠ b17_2 := by omega
  have n_b17_6_b17_1 : (b17_6 : Nat) ≠ b17_1 := by omega
  have n_b17_6_b16 : (b17_6 : Nat) ≠ b16 := by omega
  have o_b17_6_20 := (((o_b17_6_17.keep K18 (ninS n_b17_6_b16 (ninS n_b17_6_b17_1 (ninS n_b17_6_b17_2 nin0)))).keep K19 (ninS n_b17_6_b16 (ninS n_b17_6_b17_1 (ninS n_b17_6_b17_2 nin0)))).keep K20 (ninS n_b17_6_b16 (ninS n_b17_6_b17_1 (ninS n_b17_6_b17_2 nin0))))
  have n_b17_5_b17_2 : (b17_5 : Nat) ≠ b17_2 := by omega
  have n_b17_5_b17_1 : (b17_5 : Nat) ≠ b17_1 := by omega
  have n_b17_5_b16 : (b17_5 : Nat) ≠ b16 := by omega
  have o_b17_5_20 := (((o_b17_5_17.keep K18 (ninS n_b17_5_b16 (ninS n_b17_5_b17_1 (ninS n_b17_5_b17_2 nin0)))).keep K19 (ninS n_b17_5_b16 (ninS n_b17_5_b17_1 (ninS n_b17_5_b17_2 nin0)))).keep K20 (ninS n_b17_5_b16 (ninS n_b17_5_b17_1 (ninS n_b17_5_b17_2 nin0))))
  have old20 := (old19.keep K20 (allS e_b16 (allS e_b17_1 (allS e_b17_2 all0))))
  refine z_callVp C o_b16_20.1 (z_c42_104 l hw S zz20 old20 n3 (z_ix (z_li 1 u0)) (z_ix (z_li 2 u1)) (z_ix (z_li 3 u2)) (z_ix (z_li 1 u3)) (z_ix (z_li 2 u4)) (z_ix (z_li 3 u5)) ((z_sv (3 : Int32) (z_tr k3) (z_sv (2 : Int32) (z_tr k2) (z_sv (1 : Int32) (z_tr k1) ([(.int 0), (.int 0), (.int 0), (.int 0), (.int 0), (.int 0), (.int 0), (.int 0)] : List Value))))) b16 b17_0 b17_1 b17_2 b17_3 b17_4 b17_5 b17_6 b17_7 b17_8 b17_9 o_b16_20 o_b17_6_20 o_b17_5_20 o_b17_1_20 (z_tab3 u0) (z_tab81 u0 k1 k2 k3) (z_tab13 u1) (z_tab82 u1 k1 k2 k3) (z_tab23 u2) (z_tab83 u2 k1 k2 k3)) (z_w hw 308 rfl) (z_w hw 309 rfl) (z_w hw 311 rfl) (z_w hw 310 rfl) (z_w hw 138 rfl) (z_w hw 312 rfl) (by decide) at_362 rfl (argsL := [(.int 0)]) (rest := []) rfl (lenOf z_pd16 rfl) (W := 0) (Nat.le_of_eq rfl) (by decide) (by decide) (by decide) (by decide) (by decide) (by decide) 365 rfl ?_
  refine z_istore C (Ls' := #[.val (.int x0), .val (.int x1), .val (.int x2), .val (.int x3), .val (.ref b1), .val (.int 1), .val (.int 2), .val (.int 3), .val (.int (z_pb u0)), .val (.int (z_pb u1)), .val (.int (z_pb u2)), .val (.int (z_pb u3)), .val (.int (z_pb u4)), .val (.int (z_pb u5)), .val (.ref b16), .val (.int (z_tr k1)), .val (.int (z_tr k2)), .val (.int (z_tr k3)), .val (.int (z_e (z_hd (z_pb u0) (z_tr k1)) (z_hd (z_pb u1) (z_tr k2)) (z_hd (z_pb u2) (z_tr k3)))), .val (.int (z_e (z_hd (z_pb u3) (z_tr k1)) (z_hd (z_pb u4) (z_tr k2)) (z_hd (z_pb u5) (z_tr k3)))), .val (.int (z_sat (z_gI ((z_sv (3 : Int32) (z_tr k3) (z_sv (2 : Int32) (z_tr k2) (z_sv (1 : Int32) (z_tr k1) ([(.int 0), (.int 0), (.int 0), (.int 0), (.int 0), (.int 0), (.int 0), (.int 0)] : List Value))))) ((z_ix (z_li 1 u0))).toNatClampNeg) (z_gI ((z_sv (3 : Int32) (z_tr k3) (z_sv (2 : Int32) (z_tr k2) (z_sv (1 : Int32) (z_tr k1) ([(.int 0), (.int 0), (.int 0), (.int 0), (.int 0), (.int 0), (.int 0), (.int 0)] : List Value))))) ((z_ix (z_li 2 u1))).toNatClampNeg) (z_gI ((z_sv (3 : Int32) (z_tr k3) (z_sv (2 : Int32) (z_tr k2) (z_sv (1 : Int32) (z_tr k1) ([(.int 0), (.int 0), (.int 0), (.int 0), (.int 0), (.int 0), (.int 0), (.int 0)] : List Value))))) ((z_ix (z_li 3 u2))).toNatClampNeg))), .unset]) at_365 rfl 367 rfl ?_
  refine z_aload C at_367 rfl rfl 369 rfl ?_
  refine z_iconst C (v := (1 : Int32)) at_369 (by decide) 370 rfl ?_
  refine z_callVp C o_b16_20.1 (z_c42_105 l hw S zz20 old20 n3 (z_ix (z_li 1 u0)) (z_ix (z_li 2 u1)) (z_ix (z_li 3 u2)) (z_ix (z_li 1 u3)) (z_ix (z_li 2 u4)) (z_ix (z_li 3 u5)) ((z_sv (3 : Int32) (z_tr k3) (z_sv (2 : Int32) (z_tr k2) (z_sv (1 : Int32) (z_tr k1) ([(.int 0), (.int 0), (.int 0), (.int 0), (.int 0), (.int 0), (.int 0), (.int 0)] : List Value))))) b16 b17_0 b17_1 b17_2 b17_3 b17_4 b17_5 b17_6 b17_7 b17_8 b17_9 o_b16_20 o_b17_6_20 o_b17_5_20 o_b17_1_20 (z_tab34 u3) (z_tab84 u3 k1 k2 k3) (z_tab44 u4) (z_tab85 u4 k1 k2 k3) (z_tab54 u5) (z_tab86 u5 k1 k2 k3)) (z_w hw 308 rfl) (z_w hw 309 rfl) (z_w hw 311 rfl) (z_w hw 310 rfl) (z_w hw 138 rfl) (z_w hw 312 rfl) (by decide) at_370 rfl (argsL := [(.int 1)]) (rest := []) rfl (lenOf z_pd16 rfl) (W := 0) (Nat.le_of_eq rfl) (by decide) (by decide) (by decide) (by decide) (by decide) (by decide) 373 rfl ?_
  refine z_istore C (Ls' := #[.val (.int x0), .val (.int x1), .val (.int x2), .val (.int x3), .val (.ref b1), .val (.int 1), .val (.int 2), .val (.int 3), .val (.int (z_pb u0)), .val (.int (z_pb u1)), .val (.int (z_pb u2)), .val (.int (z_pb u3)), .val (.int (z_pb u4)), .val (.int (z_pb u5)), .val (.ref b16), .val (.int (z_tr k1)), .val (.int (z_tr k2)), .val (.int (z_tr k3)), .val (.int (z_e (z_hd (z_pb u0) (z_tr k1)) (z_hd (z_pb u1) (z_tr k2)) (z_hd (z_pb u2) (z_tr k3)))), .val (.int (z_e (z_hd (z_pb u3) (z_tr k1)) (z_hd (z_pb u4) (z_tr k2)) (z_hd (z_pb u5) (z_tr k3)))), .val (.int (z_sat (z_gI ((z_sv (3 : Int32) (z_tr k3) (z_sv (2 : Int32) (z_tr k2) (z_sv (1 : Int32) (z_tr k1) ([(.int 0), (.int 0), (.int 0), (.int 0), (.int 0), (.int 0), (.int 0), (.int 0)] : List Value))))) ((z_ix (z_li 1 u0))).toNatClampNeg) (z_gI ((z_sv (3 : Int32) (z_tr k3) (z_sv (2 : Int32) (z_tr k2) (z_sv (1 : Int32) (z_tr k1) ([(.int 0), (.int 0), (.int 0), (.int 0), (.int 0), (.int 0), (.int 0), (.int 0)] : List Value))))) ((z_ix (z_li 2 u1))).toNatClampNeg) (z_gI ((z_sv (3 : Int32) (z_tr k3) (z_sv (2 : Int32) (z_tr k2) (z_sv (1 : Int32) (z_tr k1) ([(.int 0), (.int 0), (.int 0), (.int 0), (.int 0), (.int 0), (.int 0), (.int 0)] : List Value))))) ((z_ix (z_li 3 u2))).toNatClampNeg))), .val (.int (z_sat (z_gI ((z_sv (3 : Int32) (z_tr k3) (z_sv (2 : Int32) (z_tr k2) (z_sv (1 : Int32) (z_tr k1) ([(.int 0), (.int 0), (.int 0), (.int 0), (.int 0), (.int 0), (.int 0), (.int 0)] : List Value))))) ((z_ix (z_li 1 u3))).toNatClampNeg) (z_gI ((z_sv (3 : Int32) (z_tr k3) (z_sv (2 : Int32) (z_tr k2) (z_sv (1 : Int32) (z_tr k1) ([(.int 0), (.int 0), (.int 0), (.int 0), (.int 0), (.int 0), (.int 0), (.int 0)] : List Value))))) ((z_ix (z_li 2 u4))).toNatClampNeg) (z_gI ((z_sv (3 : Int32) (z_tr k3) (z_sv (2 : Int32) (z_tr k2) (z_sv (1 : Int32) (z_tr k1) ([(.int 0), (.int 0), (.int 0), (.int 0), (.int 0), (.int 0), (.int 0), (.int 0)] : List Value))))) ((z_ix (z_li 3 u5))).toNatClampNeg)))]) at_373 rfl 375 rfl ?_
  refine z_iload C at_375 rfl 377 rfl ?_
  refine z_iload C at_377 rfl 379 rfl ?_
  refine z_icmpN C at_379 (teq (z_tab87 u0 u1 u2 k1 k2 k3)).2 382 rfl ?_
  refine z_iload C at_382 rfl 384 rfl ?_
  refine z_iload C at_384 rfl 386 rfl ?_
  refine z_icmpN C at_386 (teq (z_tab88 u3 u4 u5 k1 k2 k3)).2 389 rfl ?_
  refine z_iconst C (v := (1 : Int32)) at_389 (by decide) 390 rfl ?_
  refine z_goto C at_390 (by decide) 394 (by decide) ?_
  exact z_ireturn C (by simp) rfl at_394 (by decide) (by decide) rfl

end
set_option maxRecDepth 65536 in
theorem z_comes {Post : Tables → Env → Array Value → State → Outcome → State → Prop} (hpost : ∀ tb e args s v u, (limb_1_1.after args s (.returned v) u = true ∧ limb_1_2.after args s (.returned v) u = true ∧ True) → FrameEnd s (.returned v) u (Jvm.fieldLocs frame_1_writes args s ++ Jvm.arrayLocs frame_1_arrays args s ++ Jvm.staticLocs frame_1_statics s) 96 512 → Post tb e args s (.returned v) u) :
    ArmFor flags0 classFile x code maxLocals ret World_1 tables_1 room_1 Calls_1 rest_1 Pre_1 Post := by
  intro l hfl _ _ p e ha hc hk s m args below hf hA hF happ hP
  obtain ⟨hcalls, hrest, hpre⟩ := hP
  obtain ⟨-, -, -, hnamed, -, -, -, hat⟩ := (Spec.applies_iff hf).mp happ
  obtain ⟨hg, hn⟩ := and_e (Cond.before_iff.mp (show (Jvm.Cond.and given_1 narrow_1).before args s = true from hpre))
  obtain ⟨g0, hg⟩ := and_e hg
  obtain ⟨w0, w1, w2, w3, rfl⟩ : ∃ w0 w1 w2 w3 : Value, args = #[w0, w1, w2, w3] := by
    have hs : args.size = 4 := by simpa [Cond.value, given_1] using g0
    obtain ⟨L⟩ := args
    match L, hs with
    | [w0, w1, w2, w3], _ => exact ⟨w0, w1, w2, w3, rfl⟩
  obtain ⟨g1, hg⟩ := and_e hg
  obtain ⟨x0, e0⟩ := is_v g1
  obtain rfl : w0 = (.int x0) := Option.some.inj e0
  obtain ⟨g2, hg⟩ := and_e hg
  obtain ⟨x1, e1⟩ := is_v g2
  obtain rfl : w1 = (.int x1) := Option.some.inj e1
  obtain ⟨g3, hg⟩ := and_e hg
  obtain ⟨x2, e2⟩ := is_v g3
  obtain rfl : w2 = (.int x2) := Option.some.inj e2
  obtain ⟨x3, e3⟩ := is_v hg
  obtain rfl : w3 = (.int x3) := Option.some.inj e3
  have hw := fun d (hd : d ∈ tables_1) => atoms_spec (ws := Jvm.Cond.code x code maxLocals ret :: tables_1) hat d (List.mem_cons_of_mem _ hd)
  obtain ⟨q0, hn⟩ := and_e hn
  obtain ⟨q1, q2⟩ := and_e hn
  have hsets := z_sets (L := jdkStatics_1) (R := restOwn_1) (show (jdkStatics_1.foldr Jvm.Cond.and restOwn_1).before _ s = true from hrest)
  obtain ⟨a_NONE, Ea_NONE⟩ := z_starr (K := "") q0 q1 q2 (Or.inr ⟨(z_w hw 138 rfl), (z_w hw 225 rfl)⟩)
  obtain ⟨a_DEF, Ea_DEF⟩ := z_starr (K := "") (Cond.before_iff.mp (hsets _ (List.mem_of_getElem? (i := 6) rfl))) (Cond.before_iff.mp (hsets _ (List.mem_of_getElem? (i := 7) rfl))) (Cond.before_iff.mp (hsets _ (List.mem_of_getElem? (i := 8) rfl))) (Or.inr ⟨(z_w hw 11 rfl), (hsets _ (List.mem_of_getElem? (i := 2) rfl))⟩)
  obtain ⟨a_ONE, Ea_ONE⟩ := z_stob (Cond.before_iff.mp (hsets _ (List.mem_of_getElem? (i := 11) rfl))) (Cond.before_iff.mp (hsets _ (List.mem_of_getElem? (i := 12) rfl))) (Or.inr ⟨(z_w hw 71 rfl), (hsets _ (List.mem_of_getElem? (i := 9) rfl))⟩)
  have Eb := z_stint (Cond.before_iff.mp (hsets _ (List.mem_of_getElem? (i := 19) rfl))) (Or.inl (hsets _ (List.mem_of_getElem? (i := 18) rfl)))
  obtain ⟨n, o, h1, h2, h3, _, L, rfl, ⟨rfl, N⟩, hq⟩ := z_law l hw (n0 := s.heap.size) ⟨Ea_DEF, Ea_ONE, Ea_NONE, Eb⟩ (Nat.le_refl _) (Old.start s) x0 x1 x2 x3 p e ha hc hk s m _ below hf ((Spec.applies_iff_loose hf).mp happ).1 ⟨rfl, State.Warmed39.refl s, rfl⟩ trivial
  exact ⟨n, _, h1, h2, h3, hpost _ _ _ _ _ _ ⟨Cond.after_iff.mpr rfl, Cond.after_iff.mpr (eq_i res_at (Term.int_eval (1)) rfl), trivial⟩ ⟨hq.1, hq.2.1, (hq.2.2.sift fun y hy => Or.inr (N y hy)).mono (by decide) (by decide)⟩⟩
theorem main_1_1 : Claimed_1_1 := z_comes fun _ _ _ _ _ _ h hF => ⟨h.1, hF⟩
theorem main_1_2 : Claimed_1_2 := z_comes fun _ _ _ _ _ _ h hF => ⟨h.2.1, hF⟩
end Jvm.Pilot.@@N@@
namespace Jvm.Pilot.@@N@@
open Jvm Jvm.ClassFile Sem Op Lib Jvm.Free Jvm.Stand Jvm.Pilot.@@N@@.Jvm.D
/-! MADE BY PROGRAM (witnessworld.py) out of the Statement's table words and the real class files: 35 classes; the members and pool entries that the words name. The judged class is class 1, her method 1. -/
namespace start1
open Jvm.ClassFile
def u (s : String) : CpInfo := .utf8 (stringToUtf16 s)
/-- a pool by its gaps: so many unusable entries, then the entry; so many at the end -/
def gap : Nat → List CpInfo → List CpInfo
  | 0, r => r
  | n + 1, r => .unusable :: gap n r
def poolList (es : List (Nat × CpInfo)) (last : Nat) : List CpInfo := es.foldr (fun e r => gap e.1 (e.2 :: r)) (gap last [])
def pool (es : List (Nat × CpInfo)) (last : Nat) : Array CpInfo := ⟨poolList es last⟩
def fileOf (pool : Array CpInfo) (this : Nat) (attrs : Array Attribute := #[]) (ms : Array MethodInfo := #[]) (fl : Nat := 33) (sup : Nat := 0) (ifs : Array Nat := #[]) (fds : Array FieldInfo := #[]) : ClassFile where
  minorVersion := 0
  majorVersion := 65
  constantPool := pool
  accessFlags := fl
  thisClass := this
  superClass := sup
  interfaces := ifs
  fields := fds
  methods := ms
  attributes := attrs
def plain (name : String) (sup : Option ClassId) : Class where
  name := name
  kind := .ordinary
  loader := none
  accessFlags := 33
  super := sup
  interfaces := #[]
  cf := none
  fields := #[]
  methods := #[]
  instanceTypes := #[]
  staticTypes := #[]
  resolved := #[]
  callSites := []
  init := .initialized
  statics := none
  mirror := none

def pool0 : Array CpInfo := pool [(5, u "<init>"), (0, u "()V"), (1, .class_ 10), (1, u "java/lang/Object")] 113

def k0c0 : Code := { maxStack := 0, maxLocals := 1, code := object_method_1_code, exceptionTable := #[], attributes := #[] }
def k0m0 : Method := { name := "<init>", desc := "()V", sig := { parameters := [], returnType := none }, accessFlags := 1, code := some k0c0 }
/-- java/lang/Object -/
def k0 : Class := { plain "java/lang/Object" none with
  accessFlags := 33
  interfaces := #[]
  cf := some (fileOf pool0 8 #[] #[{ accessFlags := 1, nameIndex := 5, descriptorIndex := 6, attributes := #[] }] 33 0 #[] #[])
  fields := #[]
  methods := #[k0m0]
  instanceTypes := #[]
  staticTypes := #[]
  resolved := Array.replicate 124 none
  statics := none }

def pool1 : Array CpInfo := pool [(2, .class_ 4), (0, .nameAndType 5 6), (0, u "java/lang/Object"), (0, u "<init>"), (0, u "()V"), (0, .class_ 8), (0, u "com/example/variegate/variegate/service/Cnf"), (0, .methodref 7 3), (0, .methodref 7 11), (0, .nameAndType 12 13), (0, u "newVariable"), (0, u "()I"), (0, .methodref 7 15), (0, .nameAndType 16 17), (0, u "addClause"), (0, u "([I)V"), (0, .class_ 19), (0, u "com/example/variegate/variegate/service/Propagation"), (0, .methodref 18 21), (0, .nameAndType 5 22), (0, u "(Lcom/example/variegate/variegate/service/Cnf;)V"), (0, .integer 2147483647), (0, .methodref 25 26), (0, .class_ 27), (0, .nameAndType 28 29), (0, u "com/example/variegate/variegate/service/PropagationSatisfiedPinLaw"), (0, u "set"), (0, u "(Lcom/example/variegate/variegate/service/Propagation;II)V"), (0, .methodref 25 31), (0, .nameAndType 32 33), (0, u "holds"), (0, u "(ZI)Z"), (0, .methodref 18 35), (0, .nameAndType 36 37), (0, u "satisfied"), (0, u "(I)Z"), (0, .methodref 18 39), (0, .nameAndType 40 41), (0, u "assign"), (0, u "(I)V"), (2, u "law"), (0, u "(IIII)Z")] 5

def k1m0 : Method := { name := "<init>", desc := "()V", sig := { parameters := [], returnType := none }, accessFlags := 1, code := none }
def k1c1 : Code := { maxStack := 5, maxLocals := 22, code := code, exceptionTable := #[], attributes := #[] }
def k1m1 : Method := { name := "law", desc := "(IIII)Z", sig := { parameters := [.int, .int, .int, .int], returnType := some .boolean }, accessFlags := 9, code := some k1c1 }
def k1c2 : Code := { maxStack := 3, maxLocals := 3, code := method_3_code, exceptionTable := #[], attributes := #[] }
def k1m2 : Method := { name := "set", desc := "(Lcom/example/variegate/variegate/service/Propagation;II)V", sig := { parameters := [(.object "com/example/variegate/variegate/service/Propagation"), .int, .int], returnType := none }, accessFlags := 10, code := some k1c2 }
def k1c3 : Code := { maxStack := 2, maxLocals := 2, code := method_4_code, exceptionTable := #[], attributes := #[] }
def k1m3 : Method := { name := "holds", desc := "(ZI)Z", sig := { parameters := [.boolean, .int], returnType := some .boolean }, accessFlags := 10, code := some k1c3 }
/-- com/example/variegate/variegate/service/PropagationSatisfiedPinLaw -/
def k1 : Class := { plain "com/example/variegate/variegate/service/PropagationSatisfiedPinLaw" (some 0) with
  accessFlags := 49
  interfaces := #[]
  cf := some (fileOf pool1 25 #[] #[{ accessFlags := 1, nameIndex := 5, descriptorIndex := 6, attributes := #[] }, { accessFlags := 9, nameIndex := 44, descriptorIndex := 45, attributes := #[] }, { accessFlags := 10, nameIndex := 28, descriptorIndex := 29, attributes := #[] }, { accessFlags := 10, nameIndex := 32, descriptorIndex := 33, attributes := #[] }] 49 2 #[] #[])
  fields := #[]
  methods := #[k1m0, k1m1, k1m2, k1m3]
  instanceTypes := #[]
  staticTypes := #[]
  resolved := Array.replicate 51 none
  statics := none }

def pool2 : Array CpInfo := pool [(1, .methodref 2 3), (0, .class_ 4), (0, .nameAndType 5 6), (0, u "java/lang/Object"), (0, u "<init>"), (0, u "()V"), (0, .class_ 8), (0, u "java/util/ArrayList"), (0, .methodref 7 3), (0, .fieldref 11 12), (0, .class_ 13), (0, .nameAndType 14 15), (0, u "com/example/variegate/variegate/service/Cnf"), (0, u "clauses"), (0, u "Ljava/util/List;"), (0, .class_ 17), (0, u "java/util/BitSet"), (0, .methodref 16 3), (0, .fieldref 11 20), (0, .nameAndType 21 22), (0, u "redundant"), (0, u "Ljava/util/BitSet;"), (0, .fieldref 11 24), (0, .nameAndType 25 15), (0, u "weights"), (0, .fieldref 11 27), (0, .nameAndType 28 15), (0, u "falseWeights"), (0, .fieldref 11 30), (0, .nameAndType 31 32), (0, u "lastHeld"), (0, u "[J"), (0, .fieldref 34 35), (0, .class_ 36), (0, .nameAndType 37 38), (0, u "java/math/BigInteger"), (0, u "ONE"), (0, u "Ljava/math/BigInteger;"), (0, .interfaceMethodref 40 41), (0, .class_ 42), (0, .nameAndType 43 44), (0, u "java/util/List"), (0, u "add"), (0, u "(Ljava/lang/Object;)Z"), (0, .interfaceMethodref 40 46), (0, .nameAndType 47 48), (0, u "size"), (0, u "()I"), (0, .methodref 50 51), (0, .class_ 52), (0, .nameAndType 53 54), (0, u "java/lang/Math"), (0, u "max"), (0, u "(II)I"), (0, .methodref 56 57), (0, .class_ 58), (0, .nameAndType 59 60), (0, u "java/util/Arrays"), (0, u "copyOf"), (0, u "([JI)[J"), (0, .fieldref 11 62), (0, .nameAndType 63 64), (0, u "added"), (0, u "J"), (9, .methodref 56 75), (0, .nameAndType 59 76), (0, u "([II)[I"), (2, u "addClause"), (0, u "([I)V"), (4, .methodref 16 86), (0, .nameAndType 87 88), (0, u "get"), (0, u "(I)Z"), (17, .interfaceMethodref 40 107), (0, .nameAndType 87 108), (0, u "(I)Ljava/lang/Object;"), (12, u "newVariable"), (4, u "isRedundant"), (3, u "variables"), (0, u "()Ljava/util/List;"), (1, u "weight"), (0, u "(I)Ljava/math/BigInteger;")] 19

def k2c0 : Code := { maxStack := 3, maxLocals := 1, code := prog_73_method_1_code, exceptionTable := #[], attributes := #[] }
def k2m0 : Method := { name := "<init>", desc := "()V", sig := { parameters := [], returnType := none }, accessFlags := 0, code := some k2c0 }
def k2c1 : Code := { maxStack := 2, maxLocals := 1, code := prog_73_method_2_code, exceptionTable := #[], attributes := #[] }
def k2m1 : Method := { name := "newVariable", desc := "()I", sig := { parameters := [], returnType := some .int }, accessFlags := 0, code := some k2c1 }
def k2c2 : Code := { maxStack := 5, maxLocals := 10, code := prog_73_method_3_code, exceptionTable := #[], attributes := #[] }
def k2m2 : Method := { name := "addClause", desc := "([I)V", sig := { parameters := [(.array .int)], returnType := none }, accessFlags := 128, code := some k2c2 }
def k2c3 : Code := { maxStack := 2, maxLocals := 2, code := prog_73_method_5_code, exceptionTable := #[], attributes := #[] }
def k2m3 : Method := { name := "isRedundant", desc := "(I)Z", sig := { parameters := [.int], returnType := some .boolean }, accessFlags := 0, code := some k2c3 }
def k2c4 : Code := { maxStack := 1, maxLocals := 1, code := prog_73_method_8_code, exceptionTable := #[], attributes := #[] }
def k2m4 : Method := { name := "variables", desc := "()I", sig := { parameters := [], returnType := some .int }, accessFlags := 0, code := some k2c4 }
def k2c5 : Code := { maxStack := 1, maxLocals := 1, code := prog_73_method_9_code, exceptionTable := #[], attributes := #[] }
def k2m5 : Method := { name := "clauses", desc := "()Ljava/util/List;", sig := { parameters := [], returnType := some (.object "java/util/List") }, accessFlags := 0, code := some k2c5 }
def k2c6 : Code := { maxStack := 3, maxLocals := 2, code := prog_73_method_10_code, exceptionTable := #[], attributes := #[] }
def k2m6 : Method := { name := "weight", desc := "(I)Ljava/math/BigInteger;", sig := { parameters := [.int], returnType := some (.object "java/math/BigInteger") }, accessFlags := 0, code := some k2c6 }
/-- com/example/variegate/variegate/service/Cnf -/
def k2 : Class := { plain "com/example/variegate/variegate/service/Cnf" (some 0) with
  accessFlags := 48
  interfaces := #[]
  cf := some (fileOf pool2 11 #[] #[{ accessFlags := 0, nameIndex := 5, descriptorIndex := 6, attributes := #[] }, { accessFlags := 0, nameIndex := 121, descriptorIndex := 48, attributes := #[] }, { accessFlags := 128, nameIndex := 79, descriptorIndex := 80, attributes := #[] }, { accessFlags := 0, nameIndex := 126, descriptorIndex := 88, attributes := #[] }, { accessFlags := 0, nameIndex := 130, descriptorIndex := 48, attributes := #[] }, { accessFlags := 0, nameIndex := 14, descriptorIndex := 131, attributes := #[] }, { accessFlags := 0, nameIndex := 133, descriptorIndex := 134, attributes := #[] }] 48 2 #[] #[{ accessFlags := 18, nameIndex := 14, descriptorIndex := 15, attributes := #[] }, { accessFlags := 18, nameIndex := 21, descriptorIndex := 22, attributes := #[] }, { accessFlags := 18, nameIndex := 25, descriptorIndex := 15, attributes := #[] }, { accessFlags := 18, nameIndex := 28, descriptorIndex := 15, attributes := #[] }, { accessFlags := 2, nameIndex := 31, descriptorIndex := 32, attributes := #[] }, { accessFlags := 2, nameIndex := 63, descriptorIndex := 64, attributes := #[] }])
  fields := #[{ name := "clauses", type := (.object "java/util/List"), accessFlags := 18, slot := 0, constantValue := 0 }, { name := "redundant", type := (.object "java/util/BitSet"), accessFlags := 18, slot := 1, constantValue := 0 }, { name := "weights", type := (.object "java/util/List"), accessFlags := 18, slot := 2, constantValue := 0 }, { name := "falseWeights", type := (.object "java/util/List"), accessFlags := 18, slot := 3, constantValue := 0 }, { name := "lastHeld", type := (.array .long), accessFlags := 2, slot := 4, constantValue := 0 }, { name := "added", type := .long, accessFlags := 2, slot := 5, constantValue := 0 }]
  methods := #[k2m0, k2m1, k2m2, k2m3, k2m4, k2m5, k2m6]
  instanceTypes := #[(.object "java/util/List"), (.object "java/util/BitSet"), (.object "java/util/List"), (.object "java/util/List"), (.array .long), .long]
  staticTypes := #[]
  resolved := Array.replicate 154 none
  statics := none }

def pool3 : Array CpInfo := pool [(8, .class_ 10), (1, u "java/lang/Iterable"), (24, .class_ 36), (0, u "java/lang/Object")] 25

/-- java/lang/Iterable -/
def k3 : Class := { plain "java/lang/Iterable" (some 0) with
  accessFlags := 1537
  interfaces := #[]
  cf := some (fileOf pool3 8 #[] #[] 1537 35 #[] #[])
  fields := #[]
  methods := #[]
  instanceTypes := #[]
  staticTypes := #[]
  resolved := Array.replicate 62 none
  statics := none }

def pool4 : Array CpInfo := pool [(10, .class_ 12), (1, u "java/util/Collection"), (47, .class_ 61), (0, u "java/lang/Object"), (0, .class_ 63), (0, u "java/lang/Iterable")] 51

/-- java/util/Collection -/
def k4 : Class := { plain "java/util/Collection" (some 0) with
  accessFlags := 1537
  interfaces := #[3]
  cf := some (fileOf pool4 10 #[] #[] 1537 60 #[62] #[])
  fields := #[]
  methods := #[]
  instanceTypes := #[]
  staticTypes := #[]
  resolved := Array.replicate 115 none
  statics := none }

def pool5 : Array CpInfo := pool [(1, .methodref 2 3), (0, .class_ 4), (0, .nameAndType 5 6), (0, u "java/lang/Object"), (0, u "<init>"), (0, u "()V"), (1, .class_ 10), (1, u "java/util/AbstractCollection"), (66, .class_ 78), (0, u "java/util/Collection")] 81

def k5c0 : Code := { maxStack := 1, maxLocals := 1, code := jdk_22_method_1_code, exceptionTable := #[], attributes := #[] }
def k5m0 : Method := { name := "<init>", desc := "()V", sig := { parameters := [], returnType := none }, accessFlags := 4, code := some k5c0 }
/-- java/util/AbstractCollection -/
def k5 : Class := { plain "java/util/AbstractCollection" (some 0) with
  accessFlags := 1057
  interfaces := #[4]
  cf := some (fileOf pool5 8 #[] #[{ accessFlags := 4, nameIndex := 5, descriptorIndex := 6, attributes := #[] }] 1057 2 #[77] #[])
  fields := #[]
  methods := #[k5m0]
  instanceTypes := #[]
  staticTypes := #[]
  resolved := Array.replicate 160 none
  statics := none }

def pool6 : Array CpInfo := pool [(8, .class_ 10), (1, u "java/util/SequencedCollection"), (15, .class_ 27), (0, u "java/lang/Object"), (0, .class_ 29), (0, u "java/util/Collection")] 27

/-- java/util/SequencedCollection -/
def k6 : Class := { plain "java/util/SequencedCollection" (some 0) with
  accessFlags := 1537
  interfaces := #[4]
  cf := some (fileOf pool6 8 #[] #[] 1537 26 #[28] #[])
  fields := #[]
  methods := #[]
  instanceTypes := #[]
  staticTypes := #[]
  resolved := Array.replicate 57 none
  statics := none }

def pool7 : Array CpInfo := pool [(8, .class_ 10), (1, u "java/util/List"), (49, u "add"), (3, u "(Ljava/lang/Object;)Z"), (10, u "get"), (0, u "(I)Ljava/lang/Object;"), (2, u "size"), (0, u "()I"), (22, .class_ 104), (0, u "java/lang/Object"), (15, .class_ 121), (0, u "java/util/SequencedCollection"), (1, u "iterator"), (0, u "()Ljava/util/Iterator;")] 126

def k7m0 : Method := { name := "size", desc := "()I", sig := { parameters := [], returnType := some .int }, accessFlags := 1025, code := none }
def k7m1 : Method := { name := "iterator", desc := "()Ljava/util/Iterator;", sig := { parameters := [], returnType := some (.object "java/util/Iterator") }, accessFlags := 1025, code := none }
def k7m2 : Method := { name := "add", desc := "(Ljava/lang/Object;)Z", sig := { parameters := [(.object "java/lang/Object")], returnType := some .boolean }, accessFlags := 1025, code := none }
def k7m3 : Method := { name := "get", desc := "(I)Ljava/lang/Object;", sig := { parameters := [.int], returnType := some (.object "java/lang/Object") }, accessFlags := 1025, code := none }
/-- java/util/List -/
def k7 : Class := { plain "java/util/List" (some 0) with
  accessFlags := 1537
  interfaces := #[6]
  cf := some (fileOf pool7 8 #[] #[{ accessFlags := 1025, nameIndex := 79, descriptorIndex := 80, attributes := #[] }, { accessFlags := 1025, nameIndex := 123, descriptorIndex := 124, attributes := #[] }, { accessFlags := 1025, nameIndex := 60, descriptorIndex := 64, attributes := #[] }, { accessFlags := 1025, nameIndex := 75, descriptorIndex := 76, attributes := #[] }] 1537 103 #[120] #[])
  fields := #[]
  methods := #[k7m0, k7m1, k7m2, k7m3]
  instanceTypes := #[]
  staticTypes := #[]
  resolved := Array.replicate 251 none
  statics := none }

def pool8 : Array CpInfo := pool [(1, .methodref 2 3), (0, .class_ 4), (0, .nameAndType 5 6), (0, u "java/util/AbstractCollection"), (0, u "<init>"), (0, u "()V"), (0, .fieldref 8 9), (0, .class_ 10), (0, .nameAndType 11 12), (0, u "java/util/AbstractList"), (0, u "modCount"), (0, u "I"), (64, .class_ 78), (0, u "java/util/AbstractList$Itr"), (3, .class_ 83), (0, u "java/util/AbstractList$ListItr"), (9, .class_ 94), (0, u "java/util/AbstractList$RandomAccessSubList"), (3, .class_ 99), (0, u "java/util/AbstractList$SubList"), (33, .class_ 134), (0, u "java/util/List"), (73, .class_ 209), (0, u "java/util/AbstractList$SubList$1"), (0, .class_ 211), (0, u "java/util/AbstractList$RandomAccessSpliterator")] 6

def k8c0 : Code := { maxStack := 2, maxLocals := 1, code := jdk_39_method_1_code, exceptionTable := #[], attributes := #[] }
def k8m0 : Method := { name := "<init>", desc := "()V", sig := { parameters := [], returnType := none }, accessFlags := 4, code := some k8c0 }
/-- java/util/AbstractList -/
def k8 : Class := { plain "java/util/AbstractList" (some 5) with
  accessFlags := 1057
  interfaces := #[7]
  cf := some (fileOf pool8 8 #[.nestMembers #[93, 98, 208, 210, 82, 77]] #[{ accessFlags := 4, nameIndex := 5, descriptorIndex := 6, attributes := #[] }] 1057 2 #[133] #[{ accessFlags := 132, nameIndex := 11, descriptorIndex := 12, attributes := #[] }])
  fields := #[{ name := "modCount", type := .int, accessFlags := 132, slot := 0, constantValue := 0 }]
  methods := #[k8m0]
  instanceTypes := #[.int]
  staticTypes := #[]
  resolved := Array.replicate 218 none
  statics := none }

def pool9 : Array CpInfo := pool [(1, .class_ 2), (0, u "java/util/RandomAccess"), (0, .class_ 4), (0, u "java/lang/Object")] 2

/-- java/util/RandomAccess -/
def k9 : Class := { plain "java/util/RandomAccess" (some 0) with
  accessFlags := 1537
  interfaces := #[]
  cf := some (fileOf pool9 1 #[] #[] 1537 3 #[] #[])
  fields := #[]
  methods := #[]
  instanceTypes := #[]
  staticTypes := #[]
  resolved := Array.replicate 7 none
  statics := none }

def pool10 : Array CpInfo := pool [(1, .class_ 2), (0, u "java/lang/Cloneable"), (0, .class_ 4), (0, u "java/lang/Object")] 2

/-- java/lang/Cloneable -/
def k10 : Class := { plain "java/lang/Cloneable" (some 0) with
  accessFlags := 1537
  interfaces := #[]
  cf := some (fileOf pool10 1 #[] #[] 1537 3 #[] #[])
  fields := #[]
  methods := #[]
  instanceTypes := #[]
  staticTypes := #[]
  resolved := Array.replicate 7 none
  statics := none }

def pool11 : Array CpInfo := pool [(1, .class_ 2), (0, u "java/io/Serializable"), (0, .class_ 4), (0, u "java/lang/Object")] 2

/-- java/io/Serializable -/
def k11 : Class := { plain "java/io/Serializable" (some 0) with
  accessFlags := 1537
  interfaces := #[]
  cf := some (fileOf pool11 1 #[] #[] 1537 3 #[] #[])
  fields := #[]
  methods := #[]
  instanceTypes := #[]
  staticTypes := #[]
  resolved := Array.replicate 7 none
  statics := none }

def pool12 : Array CpInfo := pool [(1, .methodref 2 3), (0, .class_ 4), (0, .nameAndType 5 6), (0, u "java/util/AbstractList"), (0, u "<init>"), (0, u "()V"), (0, .class_ 8), (0, u "java/lang/Object"), (0, .fieldref 10 11), (0, .class_ 12), (0, .nameAndType 13 14), (0, u "java/util/ArrayList"), (0, u "elementData"), (0, u "[Ljava/lang/Object;"), (2, u "EMPTY_ELEMENTDATA"), (21, .fieldref 10 40), (0, .nameAndType 41 14), (0, u "DEFAULTCAPACITY_EMPTY_ELEMENTDATA"), (5, u "()[Ljava/lang/Object;"), (0, .fieldref 10 49), (0, .nameAndType 50 51), (0, u "size"), (0, u "I"), (11, .fieldref 10 64), (0, .nameAndType 65 51), (0, u "modCount"), (3, .methodref 10 70), (0, .nameAndType 71 72), (0, u "grow"), (0, u "(I)[Ljava/lang/Object;"), (6, .methodref 80 81), (0, .class_ 82), (0, .nameAndType 83 84), (0, u "java/lang/Math"), (0, u "max"), (0, u "(II)I"), (11, u "(Ljava/lang/Object;)Z"), (21, .methodref 119 120), (0, .class_ 121), (0, .nameAndType 122 84), (0, u "java/util/Objects"), (0, u "checkIndex"), (0, .methodref 10 124), (0, .nameAndType 13 125), (0, u "(I)Ljava/lang/Object;"), (3, .methodref 10 130), (0, .nameAndType 71 47), (0, .methodref 10 132), (0, .nameAndType 133 134), (0, u "add"), (0, u "(Ljava/lang/Object;[Ljava/lang/Object;I)V"), (13, .class_ 149), (0, u "java/util/List"), (16, u "iterator"), (0, u "()Ljava/util/Iterator;"), (18, u "()I"), (75, .class_ 263), (0, u "java/util/ArrayList$ListItr"), (3, .class_ 268), (0, u "java/util/ArrayList$Itr"), (0, .methodref 267 270), (0, .nameAndType 5 271), (0, u "(Ljava/util/ArrayList;)V"), (4, .class_ 277), (0, u "java/util/ArrayList$SubList"), (12, .class_ 291), (0, u "java/util/ArrayList$ArrayListSpliterator"), (37, .class_ 330), (0, u "java/util/RandomAccess"), (0, .class_ 332), (0, u "java/lang/Cloneable"), (0, .class_ 334), (0, u "java/io/Serializable"), (0, u "serialVersionUID"), (0, u "J"), (3, u "DEFAULT_CAPACITY"), (40, u "get"), (118, .class_ 501), (0, u "java/util/ArrayList$SubList$2"), (0, .class_ 503), (0, u "java/util/ArrayList$SubList$1")] 5

def k12c0 : Code := { maxStack := 2, maxLocals := 1, code := jdk_38_method_2_code, exceptionTable := #[], attributes := #[] }
def k12m0 : Method := { name := "<init>", desc := "()V", sig := { parameters := [], returnType := none }, accessFlags := 1, code := some k12c0 }
def k12c1 : Code := { maxStack := 4, maxLocals := 4, code := jdk_38_method_6_code, exceptionTable := #[], attributes := #[] }
def k12m1 : Method := { name := "grow", desc := "(I)[Ljava/lang/Object;", sig := { parameters := [.int], returnType := some (.array (.object "java/lang/Object")) }, accessFlags := 2, code := some k12c1 }
def k12c2 : Code := { maxStack := 3, maxLocals := 1, code := jdk_38_method_7_code, exceptionTable := #[], attributes := #[] }
def k12m2 : Method := { name := "grow", desc := "()[Ljava/lang/Object;", sig := { parameters := [], returnType := some (.array (.object "java/lang/Object")) }, accessFlags := 2, code := some k12c2 }
def k12c3 : Code := { maxStack := 1, maxLocals := 1, code := jdk_38_method_8_code, exceptionTable := #[], attributes := #[] }
def k12m3 : Method := { name := "size", desc := "()I", sig := { parameters := [], returnType := some .int }, accessFlags := 1, code := some k12c3 }
def k12c4 : Code := { maxStack := 2, maxLocals := 2, code := jdk_38_method_18_code, exceptionTable := #[], attributes := #[] }
def k12m4 : Method := { name := "elementData", desc := "(I)Ljava/lang/Object;", sig := { parameters := [.int], returnType := some (.object "java/lang/Object") }, accessFlags := 0, code := some k12c4 }
def k12c5 : Code := { maxStack := 2, maxLocals := 2, code := jdk_38_method_20_code, exceptionTable := #[], attributes := #[] }
def k12m5 : Method := { name := "get", desc := "(I)Ljava/lang/Object;", sig := { parameters := [.int], returnType := some (.object "java/lang/Object") }, accessFlags := 1, code := some k12c5 }
def k12c6 : Code := { maxStack := 3, maxLocals := 4, code := jdk_38_method_24_code, exceptionTable := #[], attributes := #[] }
def k12m6 : Method := { name := "add", desc := "(Ljava/lang/Object;[Ljava/lang/Object;I)V", sig := { parameters := [(.object "java/lang/Object"), (.array (.object "java/lang/Object")), .int], returnType := none }, accessFlags := 2, code := some k12c6 }
def k12c7 : Code := { maxStack := 4, maxLocals := 2, code := jdk_38_method_25_code, exceptionTable := #[], attributes := #[] }
def k12m7 : Method := { name := "add", desc := "(Ljava/lang/Object;)Z", sig := { parameters := [(.object "java/lang/Object")], returnType := some .boolean }, accessFlags := 1, code := some k12c7 }
def k12c8 : Code := { maxStack := 3, maxLocals := 1, code := jdk_38_method_55_code, exceptionTable := #[], attributes := #[] }
def k12m8 : Method := { name := "iterator", desc := "()Ljava/util/Iterator;", sig := { parameters := [], returnType := some (.object "java/util/Iterator") }, accessFlags := 1, code := some k12c8 }
/-- java/util/ArrayList -/
def k12 : Class := { plain "java/util/ArrayList" (some 8) with
  accessFlags := 33
  interfaces := #[7, 9, 10, 11]
  cf := some (fileOf pool12 10 #[.nestMembers #[290, 276, 500, 502, 262, 267]] #[{ accessFlags := 1, nameIndex := 5, descriptorIndex := 6, attributes := #[] }, { accessFlags := 2, nameIndex := 71, descriptorIndex := 72, attributes := #[] }, { accessFlags := 2, nameIndex := 71, descriptorIndex := 47, attributes := #[] }, { accessFlags := 1, nameIndex := 50, descriptorIndex := 186, attributes := #[] }, { accessFlags := 0, nameIndex := 13, descriptorIndex := 125, attributes := #[] }, { accessFlags := 1, nameIndex := 381, descriptorIndex := 125, attributes := #[] }, { accessFlags := 2, nameIndex := 133, descriptorIndex := 134, attributes := #[] }, { accessFlags := 1, nameIndex := 133, descriptorIndex := 96, attributes := #[] }, { accessFlags := 1, nameIndex := 166, descriptorIndex := 167, attributes := #[] }] 33 2 #[148, 329, 331, 333] #[{ accessFlags := 26, nameIndex := 335, descriptorIndex := 336, attributes := #[] }, { accessFlags := 26, nameIndex := 340, descriptorIndex := 51, attributes := #[] }, { accessFlags := 26, nameIndex := 17, descriptorIndex := 14, attributes := #[] }, { accessFlags := 26, nameIndex := 41, descriptorIndex := 14, attributes := #[] }, { accessFlags := 128, nameIndex := 13, descriptorIndex := 14, attributes := #[] }, { accessFlags := 2, nameIndex := 50, descriptorIndex := 51, attributes := #[] }])
  fields := #[{ name := "serialVersionUID", type := .long, accessFlags := 26, slot := 0, constantValue := 0 }, { name := "DEFAULT_CAPACITY", type := .int, accessFlags := 26, slot := 1, constantValue := 0 }, { name := "EMPTY_ELEMENTDATA", type := (.array (.object "java/lang/Object")), accessFlags := 26, slot := 2, constantValue := 0 }, { name := "DEFAULTCAPACITY_EMPTY_ELEMENTDATA", type := (.array (.object "java/lang/Object")), accessFlags := 26, slot := 3, constantValue := 0 }, { name := "elementData", type := (.array (.object "java/lang/Object")), accessFlags := 128, slot := 1, constantValue := 0 }, { name := "size", type := .int, accessFlags := 2, slot := 2, constantValue := 0 }]
  methods := #[k12m0, k12m1, k12m2, k12m3, k12m4, k12m5, k12m6, k12m7, k12m8]
  instanceTypes := #[.int, (.array (.object "java/lang/Object")), .int]
  staticTypes := #[.long, .int, (.array (.object "java/lang/Object")), (.array (.object "java/lang/Object"))]
  resolved := Array.replicate 509 none
  statics := some 0 }

def pool13 : Array CpInfo := pool [(1, .class_ 2), (0, u "java/util/BitSet"), (0, .fieldref 1 4), (0, .nameAndType 5 6), (0, u "$assertionsDisabled"), (0, u "Z"), (0, .fieldref 1 8), (0, .nameAndType 9 10), (0, u "wordsInUse"), (0, u "I"), (0, .fieldref 1 12), (0, .nameAndType 13 14), (0, u "words"), (0, u "[J"), (3, .nameAndType 19 20), (0, u "<init>"), (0, u "()V"), (0, .methodref 22 18), (0, .class_ 23), (0, u "java/lang/Object"), (0, .fieldref 1 25), (0, .nameAndType 26 6), (0, u "sizeIsSticky"), (0, .methodref 1 28), (0, .nameAndType 29 30), (0, u "initWords"), (0, u "(I)V"), (21, .methodref 1 53), (0, .nameAndType 54 55), (0, u "wordIndex"), (0, u "(I)I"), (0, .methodref 1 57), (0, .nameAndType 58 20), (0, u "checkInvariants"), (21, u "get"), (188, .class_ 270), (0, u "java/util/BitSet$1BitSetSpliterator"), (22, u "serialPersistentFields"), (0, u "[Ljava/io/ObjectStreamField;"), (0, .class_ 296), (0, u "java/lang/Cloneable"), (0, .class_ 298), (0, u "java/io/Serializable"), (0, u "ADDRESS_BITS_PER_WORD"), (2, u "BITS_PER_WORD"), (1, u "BIT_INDEX_MASK"), (1, u "WORD_MASK"), (0, u "J"), (0, u "serialVersionUID"), (42, u "(I)Z")] 65

def k13c0 : Code := { maxStack := 2, maxLocals := 1, code := jdk_92_method_1_code, exceptionTable := #[], attributes := #[] }
def k13m0 : Method := { name := "wordIndex", desc := "(I)I", sig := { parameters := [.int], returnType := some .int }, accessFlags := 10, code := some k13c0 }
def k13c1 : Code := { maxStack := 4, maxLocals := 1, code := jdk_92_method_2_code, exceptionTable := #[], attributes := #[] }
def k13m1 : Method := { name := "checkInvariants", desc := "()V", sig := { parameters := [], returnType := none }, accessFlags := 2, code := some k13c1 }
def k13c2 : Code := { maxStack := 2, maxLocals := 1, code := jdk_92_method_4_code, exceptionTable := #[], attributes := #[] }
def k13m2 : Method := { name := "<init>", desc := "()V", sig := { parameters := [], returnType := none }, accessFlags := 1, code := some k13c2 }
def k13c3 : Code := { maxStack := 3, maxLocals := 2, code := jdk_92_method_6_code, exceptionTable := #[], attributes := #[] }
def k13m3 : Method := { name := "initWords", desc := "(I)V", sig := { parameters := [.int], returnType := none }, accessFlags := 2, code := some k13c3 }
def k13c4 : Code := { maxStack := 5, maxLocals := 3, code := jdk_92_method_26_code, exceptionTable := #[], attributes := #[] }
def k13m4 : Method := { name := "get", desc := "(I)Z", sig := { parameters := [.int], returnType := some .boolean }, accessFlags := 1, code := some k13c4 }
/-- java/util/BitSet -/
def k13 : Class := { plain "java/util/BitSet" (some 0) with
  accessFlags := 33
  interfaces := #[10, 11]
  cf := some (fileOf pool13 1 #[.nestMembers #[269]] #[{ accessFlags := 10, nameIndex := 54, descriptorIndex := 55, attributes := #[] }, { accessFlags := 2, nameIndex := 58, descriptorIndex := 20, attributes := #[] }, { accessFlags := 1, nameIndex := 19, descriptorIndex := 20, attributes := #[] }, { accessFlags := 2, nameIndex := 29, descriptorIndex := 30, attributes := #[] }, { accessFlags := 1, nameIndex := 80, descriptorIndex := 351, attributes := #[] }] 33 22 #[295, 297] #[{ accessFlags := 26, nameIndex := 299, descriptorIndex := 10, attributes := #[] }, { accessFlags := 26, nameIndex := 302, descriptorIndex := 10, attributes := #[] }, { accessFlags := 26, nameIndex := 304, descriptorIndex := 10, attributes := #[] }, { accessFlags := 26, nameIndex := 306, descriptorIndex := 307, attributes := #[] }, { accessFlags := 26, nameIndex := 293, descriptorIndex := 294, attributes := #[] }, { accessFlags := 2, nameIndex := 13, descriptorIndex := 14, attributes := #[] }, { accessFlags := 130, nameIndex := 9, descriptorIndex := 10, attributes := #[] }, { accessFlags := 130, nameIndex := 26, descriptorIndex := 6, attributes := #[] }, { accessFlags := 26, nameIndex := 308, descriptorIndex := 307, attributes := #[] }, { accessFlags := 4120, nameIndex := 5, descriptorIndex := 6, attributes := #[] }])
  fields := #[{ name := "ADDRESS_BITS_PER_WORD", type := .int, accessFlags := 26, slot := 0, constantValue := 0 }, { name := "BITS_PER_WORD", type := .int, accessFlags := 26, slot := 1, constantValue := 0 }, { name := "BIT_INDEX_MASK", type := .int, accessFlags := 26, slot := 2, constantValue := 0 }, { name := "WORD_MASK", type := .long, accessFlags := 26, slot := 3, constantValue := 0 }, { name := "serialPersistentFields", type := (.array (.object "java/io/ObjectStreamField")), accessFlags := 26, slot := 4, constantValue := 0 }, { name := "words", type := (.array .long), accessFlags := 2, slot := 0, constantValue := 0 }, { name := "wordsInUse", type := .int, accessFlags := 130, slot := 1, constantValue := 0 }, { name := "sizeIsSticky", type := .boolean, accessFlags := 130, slot := 2, constantValue := 0 }, { name := "serialVersionUID", type := .long, accessFlags := 26, slot := 5, constantValue := 0 }, { name := "$assertionsDisabled", type := .boolean, accessFlags := 4120, slot := 6, constantValue := 0 }]
  methods := #[k13m0, k13m1, k13m2, k13m3, k13m4]
  instanceTypes := #[(.array .long), .int, .boolean]
  staticTypes := #[.int, .int, .int, .long, (.array (.object "java/io/ObjectStreamField")), .long, .boolean]
  resolved := Array.replicate 417 none
  statics := some 1 }

def pool14 : Array CpInfo := pool [(2, .class_ 4), (1, u "java/lang/Object"), (0, u "<init>"), (0, u "()V"), (1, .class_ 10), (1, u "java/lang/Number"), (2, .class_ 14), (0, u "java/io/Serializable"), (0, u "serialVersionUID"), (0, u "J")] 20

def k14m0 : Method := { name := "<init>", desc := "()V", sig := { parameters := [], returnType := none }, accessFlags := 1, code := none }
/-- java/lang/Number -/
def k14 : Class := { plain "java/lang/Number" (some 0) with
  accessFlags := 1057
  interfaces := #[11]
  cf := some (fileOf pool14 8 #[] #[{ accessFlags := 1, nameIndex := 5, descriptorIndex := 6, attributes := #[] }] 1057 2 #[13] #[{ accessFlags := 26, nameIndex := 15, descriptorIndex := 16, attributes := #[] }])
  fields := #[{ name := "serialVersionUID", type := .long, accessFlags := 26, slot := 0, constantValue := 0 }]
  methods := #[k14m0]
  instanceTypes := #[]
  staticTypes := #[.long]
  resolved := Array.replicate 37 none
  statics := none }

def pool15 : Array CpInfo := pool [(1, .class_ 2), (0, u "java/lang/Comparable"), (0, .class_ 4), (0, u "java/lang/Object")] 7

/-- java/lang/Comparable -/
def k15 : Class := { plain "java/lang/Comparable" (some 0) with
  accessFlags := 1537
  interfaces := #[]
  cf := some (fileOf pool15 1 #[] #[] 1537 3 #[] #[])
  fields := #[]
  methods := #[]
  instanceTypes := #[]
  staticTypes := #[]
  resolved := Array.replicate 12 none
  statics := none }

def pool16 : Array CpInfo := pool [(4, .class_ 6), (1, u "java/lang/Number"), (16, .class_ 25), (1, u "java/math/BigInteger"), (0, u "ZERO"), (0, u "Ljava/math/BigInteger;"), (2, u "mag"), (0, u "[I"), (0, .fieldref 23 33), (0, .nameAndType 34 35), (0, u "signum"), (0, u "I"), (38, u "()I"), (20, u "bitsPerDigit"), (0, u "[J"), (9, u "digitsPerInt"), (12, u "intRadix"), (60, u "SMALL_PRIME_PRODUCT"), (79, u "ONE"), (6, u "TWO"), (43, u "$assertionsDisabled"), (0, u "Z"), (36, u "posConst"), (0, u "[Ljava/math/BigInteger;"), (4, u "negConst"), (116, .class_ 474), (1, u "java/math/BigInteger$RecursiveOp"), (106, u "NEGATIVE_ONE"), (91, u "bnExpModThreshTable"), (72, u "lowestSetBitPlusTwo"), (2, u "bitLengthPlusOne"), (2, u "bitCountPlusOne"), (6, u "LOG_TWO"), (0, u "D"), (2, u "logCache"), (0, u "[D"), (13, u "NUM_ZEROS"), (2, u "ZEROS"), (0, u "Ljava/lang/String;"), (9, u "longRadix"), (5, u "digitsPerLong"), (22, u "powerCache"), (0, u "[[Ljava/math/BigInteger;"), (45, u "firstNonzeroIntNumPlusTwo"), (38, .class_ 909), (1, u "java/math/BigInteger$UnsafeHolder"), (141, u "TEN"), (106, u "serialPersistentFields"), (0, u "[Ljava/io/ObjectStreamField;"), (0, .class_ 1161), (0, u "java/lang/Comparable"), (0, u "LONG_MASK"), (0, u "J"), (1, u "MAX_MAG_LENGTH"), (0, u "PRIME_SEARCH_BIT_LENGTH_LIMIT"), (1, u "KARATSUBA_THRESHOLD"), (1, u "TOOM_COOK_THRESHOLD"), (1, u "KARATSUBA_SQUARE_THRESHOLD"), (1, u "TOOM_COOK_SQUARE_THRESHOLD"), (1, u "BURNIKEL_ZIEGLER_THRESHOLD"), (0, u "BURNIKEL_ZIEGLER_OFFSET"), (1, u "SCHOENHAGE_BASE_CONVERSION_THRESHOLD"), (1, u "MULTIPLY_SQUARE_THRESHOLD"), (0, u "MONTGOMERY_INTRINSIC_THRESHOLD"), (1, u "SMALL_PRIME_THRESHOLD"), (1, u "DEFAULT_PRIME_CERTAINTY"), (1, u "MAX_CONSTANT"), (3, u "serialVersionUID"), (338, .class_ 1532), (0, u "java/math/BigInteger$RecursiveOp$RecursiveSquare"), (0, .class_ 1534), (0, u "java/math/BigInteger$RecursiveOp$RecursiveMultiply")] 7

def k16c0 : Code := { maxStack := 1, maxLocals := 1, code := jdk_2097_method_81_code, exceptionTable := #[], attributes := #[] }
def k16m0 : Method := { name := "signum", desc := "()I", sig := { parameters := [], returnType := some .int }, accessFlags := 1, code := some k16c0 }
/-- java/math/BigInteger -/
def k16 : Class := { plain "java/math/BigInteger" (some 14) with
  accessFlags := 33
  interfaces := #[15]
  cf := some (fileOf pool16 23 #[.nestMembers #[907, 472, 1531, 1533]] #[{ accessFlags := 1, nameIndex := 34, descriptorIndex := 74, attributes := #[] }] 33 4 #[1160] #[{ accessFlags := 16, nameIndex := 34, descriptorIndex := 35, attributes := #[] }, { accessFlags := 16, nameIndex := 30, descriptorIndex := 31, attributes := #[] }, { accessFlags := 2, nameIndex := 752, descriptorIndex := 35, attributes := #[] }, { accessFlags := 2, nameIndex := 749, descriptorIndex := 35, attributes := #[] }, { accessFlags := 2, nameIndex := 746, descriptorIndex := 35, attributes := #[] }, { accessFlags := 2, nameIndex := 868, descriptorIndex := 35, attributes := #[] }, { accessFlags := 24, nameIndex := 1162, descriptorIndex := 1163, attributes := #[] }, { accessFlags := 26, nameIndex := 1165, descriptorIndex := 35, attributes := #[] }, { accessFlags := 26, nameIndex := 1166, descriptorIndex := 35, attributes := #[] }, { accessFlags := 26, nameIndex := 1168, descriptorIndex := 35, attributes := #[] }, { accessFlags := 26, nameIndex := 1170, descriptorIndex := 35, attributes := #[] }, { accessFlags := 26, nameIndex := 1172, descriptorIndex := 35, attributes := #[] }, { accessFlags := 26, nameIndex := 1174, descriptorIndex := 35, attributes := #[] }, { accessFlags := 24, nameIndex := 1176, descriptorIndex := 35, attributes := #[] }, { accessFlags := 24, nameIndex := 1177, descriptorIndex := 35, attributes := #[] }, { accessFlags := 26, nameIndex := 1179, descriptorIndex := 35, attributes := #[] }, { accessFlags := 26, nameIndex := 1181, descriptorIndex := 35, attributes := #[] }, { accessFlags := 26, nameIndex := 1182, descriptorIndex := 35, attributes := #[] }, { accessFlags := 10, nameIndex := 95, descriptorIndex := 96, attributes := #[] }, { accessFlags := 26, nameIndex := 1184, descriptorIndex := 35, attributes := #[] }, { accessFlags := 26, nameIndex := 1186, descriptorIndex := 35, attributes := #[] }, { accessFlags := 26, nameIndex := 180, descriptorIndex := 27, attributes := #[] }, { accessFlags := 26, nameIndex := 1188, descriptorIndex := 35, attributes := #[] }, { accessFlags := 26, nameIndex := 349, descriptorIndex := 350, attributes := #[] }, { accessFlags := 26, nameIndex := 355, descriptorIndex := 350, attributes := #[] }, { accessFlags := 74, nameIndex := 821, descriptorIndex := 822, attributes := #[] }, { accessFlags := 26, nameIndex := 763, descriptorIndex := 764, attributes := #[] }, { accessFlags := 26, nameIndex := 759, descriptorIndex := 760, attributes := #[] }, { accessFlags := 25, nameIndex := 26, descriptorIndex := 27, attributes := #[] }, { accessFlags := 25, nameIndex := 260, descriptorIndex := 27, attributes := #[] }, { accessFlags := 25, nameIndex := 267, descriptorIndex := 27, attributes := #[] }, { accessFlags := 26, nameIndex := 581, descriptorIndex := 27, attributes := #[] }, { accessFlags := 25, nameIndex := 1051, descriptorIndex := 27, attributes := #[] }, { accessFlags := 8, nameIndex := 673, descriptorIndex := 31, attributes := #[] }, { accessFlags := 10, nameIndex := 778, descriptorIndex := 35, attributes := #[] }, { accessFlags := 26, nameIndex := 781, descriptorIndex := 782, attributes := #[] }, { accessFlags := 10, nameIndex := 798, descriptorIndex := 31, attributes := #[] }, { accessFlags := 10, nameIndex := 792, descriptorIndex := 350, attributes := #[] }, { accessFlags := 10, nameIndex := 106, descriptorIndex := 31, attributes := #[] }, { accessFlags := 10, nameIndex := 119, descriptorIndex := 31, attributes := #[] }, { accessFlags := 26, nameIndex := 1192, descriptorIndex := 1163, attributes := #[] }, { accessFlags := 26, nameIndex := 1158, descriptorIndex := 1159, attributes := #[] }, { accessFlags := 4120, nameIndex := 311, descriptorIndex := 312, attributes := #[] }])
  fields := #[{ name := "signum", type := .int, accessFlags := 16, slot := 0, constantValue := 0 }, { name := "mag", type := (.array .int), accessFlags := 16, slot := 1, constantValue := 0 }, { name := "bitCountPlusOne", type := .int, accessFlags := 2, slot := 2, constantValue := 0 }, { name := "bitLengthPlusOne", type := .int, accessFlags := 2, slot := 3, constantValue := 0 }, { name := "lowestSetBitPlusTwo", type := .int, accessFlags := 2, slot := 4, constantValue := 0 }, { name := "firstNonzeroIntNumPlusTwo", type := .int, accessFlags := 2, slot := 5, constantValue := 0 }, { name := "LONG_MASK", type := .long, accessFlags := 24, slot := 0, constantValue := 0 }, { name := "MAX_MAG_LENGTH", type := .int, accessFlags := 26, slot := 1, constantValue := 0 }, { name := "PRIME_SEARCH_BIT_LENGTH_LIMIT", type := .int, accessFlags := 26, slot := 2, constantValue := 0 }, { name := "KARATSUBA_THRESHOLD", type := .int, accessFlags := 26, slot := 3, constantValue := 0 }, { name := "TOOM_COOK_THRESHOLD", type := .int, accessFlags := 26, slot := 4, constantValue := 0 }, { name := "KARATSUBA_SQUARE_THRESHOLD", type := .int, accessFlags := 26, slot := 5, constantValue := 0 }, { name := "TOOM_COOK_SQUARE_THRESHOLD", type := .int, accessFlags := 26, slot := 6, constantValue := 0 }, { name := "BURNIKEL_ZIEGLER_THRESHOLD", type := .int, accessFlags := 24, slot := 7, constantValue := 0 }, { name := "BURNIKEL_ZIEGLER_OFFSET", type := .int, accessFlags := 24, slot := 8, constantValue := 0 }, { name := "SCHOENHAGE_BASE_CONVERSION_THRESHOLD", type := .int, accessFlags := 26, slot := 9, constantValue := 0 }, { name := "MULTIPLY_SQUARE_THRESHOLD", type := .int, accessFlags := 26, slot := 10, constantValue := 0 }, { name := "MONTGOMERY_INTRINSIC_THRESHOLD", type := .int, accessFlags := 26, slot := 11, constantValue := 0 }, { name := "bitsPerDigit", type := (.array .long), accessFlags := 10, slot := 12, constantValue := 0 }, { name := "SMALL_PRIME_THRESHOLD", type := .int, accessFlags := 26, slot := 13, constantValue := 0 }, { name := "DEFAULT_PRIME_CERTAINTY", type := .int, accessFlags := 26, slot := 14, constantValue := 0 }, { name := "SMALL_PRIME_PRODUCT", type := (.object "java/math/BigInteger"), accessFlags := 26, slot := 15, constantValue := 0 }, { name := "MAX_CONSTANT", type := .int, accessFlags := 26, slot := 16, constantValue := 0 }, { name := "posConst", type := (.array (.object "java/math/BigInteger")), accessFlags := 26, slot := 17, constantValue := 0 }, { name := "negConst", type := (.array (.object "java/math/BigInteger")), accessFlags := 26, slot := 18, constantValue := 0 }, { name := "powerCache", type := (.array (.array (.object "java/math/BigInteger"))), accessFlags := 74, slot := 19, constantValue := 0 }, { name := "logCache", type := (.array .double), accessFlags := 26, slot := 20, constantValue := 0 }, { name := "LOG_TWO", type := .double, accessFlags := 26, slot := 21, constantValue := 0 }, { name := "ZERO", type := (.object "java/math/BigInteger"), accessFlags := 25, slot := 22, constantValue := 0 }, { name := "ONE", type := (.object "java/math/BigInteger"), accessFlags := 25, slot := 23, constantValue := 0 }, { name := "TWO", type := (.object "java/math/BigInteger"), accessFlags := 25, slot := 24, constantValue := 0 }, { name := "NEGATIVE_ONE", type := (.object "java/math/BigInteger"), accessFlags := 26, slot := 25, constantValue := 0 }, { name := "TEN", type := (.object "java/math/BigInteger"), accessFlags := 25, slot := 26, constantValue := 0 }, { name := "bnExpModThreshTable", type := (.array .int), accessFlags := 8, slot := 27, constantValue := 0 }, { name := "NUM_ZEROS", type := .int, accessFlags := 10, slot := 28, constantValue := 0 }, { name := "ZEROS", type := (.object "java/lang/String"), accessFlags := 26, slot := 29, constantValue := 0 }, { name := "digitsPerLong", type := (.array .int), accessFlags := 10, slot := 30, constantValue := 0 }, { name := "longRadix", type := (.array (.object "java/math/BigInteger")), accessFlags := 10, slot := 31, constantValue := 0 }, { name := "digitsPerInt", type := (.array .int), accessFlags := 10, slot := 32, constantValue := 0 }, { name := "intRadix", type := (.array .int), accessFlags := 10, slot := 33, constantValue := 0 }, { name := "serialVersionUID", type := .long, accessFlags := 26, slot := 34, constantValue := 0 }, { name := "serialPersistentFields", type := (.array (.object "java/io/ObjectStreamField")), accessFlags := 26, slot := 35, constantValue := 0 }, { name := "$assertionsDisabled", type := .boolean, accessFlags := 4120, slot := 36, constantValue := 0 }]
  methods := #[k16m0]
  instanceTypes := #[.int, (.array .int), .int, .int, .int, .int]
  staticTypes := #[.long, .int, .int, .int, .int, .int, .int, .int, .int, .int, .int, .int, (.array .long), .int, .int, (.object "java/math/BigInteger"), .int, (.array (.object "java/math/BigInteger")), (.array (.object "java/math/BigInteger")), (.array (.array (.object "java/math/BigInteger"))), (.array .double), .double, (.object "java/math/BigInteger"), (.object "java/math/BigInteger"), (.object "java/math/BigInteger"), (.object "java/math/BigInteger"), (.object "java/math/BigInteger"), (.array .int), .int, (.object "java/lang/String"), (.array .int), (.array (.object "java/math/BigInteger")), (.array .int), (.array .int), .long, (.array (.object "java/io/ObjectStreamField")), .boolean]
  resolved := Array.replicate 1542 none
  statics := some 2 }

def pool17 : Array CpInfo := pool [(1, .class_ 2), (0, u "java/lang/Math"), (1, .class_ 6), (1, u "java/lang/Object"), (0, u "<init>"), (0, u "()V"), (89, .class_ 100), (1, u "java/lang/Math$RandomNumberGeneratorHolder"), (71, u "negativeZeroFloatBits"), (0, u "J"), (2, u "negativeZeroDoubleBits"), (21, u "max"), (2, u "min"), (43, u "$assertionsDisabled"), (0, u "Z"), (88, u "(II)I"), (2, u "twoToTheDoubleScaleDown"), (0, u "D"), (4, u "twoToTheDoubleScaleUp"), (9, u "E"), (3, u "PI"), (2, u "TAU"), (2, u "DEGREES_TO_RADIANS"), (0, u "RADIANS_TO_DEGREES")] 94

def k17m0 : Method := { name := "<init>", desc := "()V", sig := { parameters := [], returnType := none }, accessFlags := 2, code := none }
def k17c1 : Code := { maxStack := 2, maxLocals := 2, code := jdk_29_method_65_code, exceptionTable := #[], attributes := #[] }
def k17m1 : Method := { name := "max", desc := "(II)I", sig := { parameters := [.int, .int], returnType := some .int }, accessFlags := 9, code := some k17c1 }
def k17c2 : Code := { maxStack := 2, maxLocals := 2, code := jdk_29_method_69_code, exceptionTable := #[], attributes := #[] }
def k17m2 : Method := { name := "min", desc := "(II)I", sig := { parameters := [.int, .int], returnType := some .int }, accessFlags := 9, code := some k17c2 }
/-- java/lang/Math -/
def k17 : Class := { plain "java/lang/Math" (some 0) with
  accessFlags := 49
  interfaces := #[]
  cf := some (fileOf pool17 1 #[.nestMembers #[98]] #[{ accessFlags := 2, nameIndex := 7, descriptorIndex := 8, attributes := #[] }, { accessFlags := 9, nameIndex := 198, descriptorIndex := 335, attributes := #[] }, { accessFlags := 9, nameIndex := 201, descriptorIndex := 335, attributes := #[] }] 49 4 #[] #[{ accessFlags := 25, nameIndex := 354, descriptorIndex := 339, attributes := #[] }, { accessFlags := 25, nameIndex := 358, descriptorIndex := 339, attributes := #[] }, { accessFlags := 25, nameIndex := 361, descriptorIndex := 339, attributes := #[] }, { accessFlags := 26, nameIndex := 364, descriptorIndex := 339, attributes := #[] }, { accessFlags := 26, nameIndex := 365, descriptorIndex := 339, attributes := #[] }, { accessFlags := 26, nameIndex := 172, descriptorIndex := 173, attributes := #[] }, { accessFlags := 26, nameIndex := 176, descriptorIndex := 173, attributes := #[] }, { accessFlags := 8, nameIndex := 344, descriptorIndex := 339, attributes := #[] }, { accessFlags := 8, nameIndex := 338, descriptorIndex := 339, attributes := #[] }, { accessFlags := 4120, nameIndex := 245, descriptorIndex := 246, attributes := #[] }])
  fields := #[{ name := "E", type := .double, accessFlags := 25, slot := 0, constantValue := 0 }, { name := "PI", type := .double, accessFlags := 25, slot := 1, constantValue := 0 }, { name := "TAU", type := .double, accessFlags := 25, slot := 2, constantValue := 0 }, { name := "DEGREES_TO_RADIANS", type := .double, accessFlags := 26, slot := 3, constantValue := 0 }, { name := "RADIANS_TO_DEGREES", type := .double, accessFlags := 26, slot := 4, constantValue := 0 }, { name := "negativeZeroFloatBits", type := .long, accessFlags := 26, slot := 5, constantValue := 0 }, { name := "negativeZeroDoubleBits", type := .long, accessFlags := 26, slot := 6, constantValue := 0 }, { name := "twoToTheDoubleScaleUp", type := .double, accessFlags := 8, slot := 7, constantValue := 0 }, { name := "twoToTheDoubleScaleDown", type := .double, accessFlags := 8, slot := 8, constantValue := 0 }, { name := "$assertionsDisabled", type := .boolean, accessFlags := 4120, slot := 9, constantValue := 0 }]
  methods := #[k17m0, k17m1, k17m2]
  instanceTypes := #[]
  staticTypes := #[.double, .double, .double, .double, .double, .long, .long, .double, .double, .boolean]
  resolved := Array.replicate 460 none
  statics := none }

def pool18 : Array CpInfo := pool [(2, .class_ 4), (1, u "java/lang/Object"), (0, u "<init>"), (0, u "()V"), (7, .class_ 16), (1, u "java/util/Arrays"), (57, .class_ 76), (1, u "java/util/Arrays$NaturalOrder"), (36, .class_ 115), (1, u "java/util/Arrays$LegacyMergeSort"), (1, u "Z"), (32, .methodref 151 152), (0, .class_ 153), (0, .nameAndType 154 155), (0, u "java/lang/System"), (0, u "arraycopy"), (0, u "(Ljava/lang/Object;ILjava/lang/Object;II)V"), (146, u "copyOf"), (1, .methodref 305 306), (0, .class_ 307), (0, .nameAndType 308 309), (0, u "java/lang/Math"), (0, u "min"), (0, u "(II)I"), (65, .class_ 376), (0, u "java/util/Arrays$ArrayList"), (68, u "$assertionsDisabled"), (269, u "MIN_ARRAY_SORT_GRAN"), (0, u "I"), (2, u "INSERTIONSORT_THRESHOLD"), (120, u "fill"), (4, u "([II)V"), (12, u "([Ljava/lang/Object;Ljava/lang/Object;)V"), (12, u "([II)[I"), (0, u "([JI)[J"), (102, .class_ 976), (0, u "java/util/Arrays$ArrayItr")] 52

def k18m0 : Method := { name := "<init>", desc := "()V", sig := { parameters := [], returnType := none }, accessFlags := 2, code := none }
def k18c1 : Code := { maxStack := 3, maxLocals := 4, code := jdk_65_method_103_code, exceptionTable := #[], attributes := #[] }
def k18m1 : Method := { name := "fill", desc := "([II)V", sig := { parameters := [(.array .int), .int], returnType := none }, accessFlags := 9, code := some k18c1 }
def k18c2 : Code := { maxStack := 3, maxLocals := 4, code := jdk_65_method_117_code, exceptionTable := #[], attributes := #[] }
def k18m2 : Method := { name := "fill", desc := "([Ljava/lang/Object;Ljava/lang/Object;)V", sig := { parameters := [(.array (.object "java/lang/Object")), (.object "java/lang/Object")], returnType := none }, accessFlags := 9, code := some k18c2 }
def k18c3 : Code := { maxStack := 6, maxLocals := 3, code := jdk_65_method_123_code, exceptionTable := #[], attributes := #[] }
def k18m3 : Method := { name := "copyOf", desc := "([II)[I", sig := { parameters := [(.array .int), .int], returnType := some (.array .int) }, accessFlags := 9, code := some k18c3 }
def k18c4 : Code := { maxStack := 6, maxLocals := 3, code := jdk_65_method_124_code, exceptionTable := #[], attributes := #[] }
def k18m4 : Method := { name := "copyOf", desc := "([JI)[J", sig := { parameters := [(.array .long), .int], returnType := some (.array .long) }, accessFlags := 9, code := some k18c4 }
/-- java/util/Arrays -/
def k18 : Class := { plain "java/util/Arrays" (some 0) with
  accessFlags := 49
  interfaces := #[]
  cf := some (fileOf pool18 14 #[.nestMembers #[975, 375, 113, 74]] #[{ accessFlags := 2, nameIndex := 5, descriptorIndex := 6, attributes := #[] }, { accessFlags := 9, nameIndex := 840, descriptorIndex := 845, attributes := #[] }, { accessFlags := 9, nameIndex := 840, descriptorIndex := 858, attributes := #[] }, { accessFlags := 9, nameIndex := 302, descriptorIndex := 871, attributes := #[] }, { accessFlags := 9, nameIndex := 302, descriptorIndex := 872, attributes := #[] }] 49 2 #[] #[{ accessFlags := 26, nameIndex := 715, descriptorIndex := 716, attributes := #[] }, { accessFlags := 26, nameIndex := 719, descriptorIndex := 716, attributes := #[] }, { accessFlags := 4120, nameIndex := 445, descriptorIndex := 117, attributes := #[] }])
  fields := #[{ name := "MIN_ARRAY_SORT_GRAN", type := .int, accessFlags := 26, slot := 0, constantValue := 0 }, { name := "INSERTIONSORT_THRESHOLD", type := .int, accessFlags := 26, slot := 1, constantValue := 0 }, { name := "$assertionsDisabled", type := .boolean, accessFlags := 4120, slot := 2, constantValue := 0 }]
  methods := #[k18m0, k18m1, k18m2, k18m3, k18m4]
  instanceTypes := #[]
  staticTypes := #[.int, .int, .boolean]
  resolved := Array.replicate 1029 none
  statics := none }

def pool19 : Array CpInfo := pool [(2, .class_ 4), (1, u "java/lang/Object"), (0, u "<init>"), (0, u "()V"), (1, .class_ 10), (1, u "java/lang/System"), (0, u "allowSecurityManager"), (0, u "I"), (16, u "cons"), (0, u "Ljava/io/Console;"), (77, .class_ 110), (1, u "java/lang/System$CallersHolder"), (43, u "initialErrStream"), (0, u "Ljava/io/PrintStream;"), (19, u "security"), (0, u "Ljava/lang/SecurityManager;"), (31, .class_ 209), (0, u "java/lang/System$1"), (7, u "props"), (0, u "Ljava/util/Properties;"), (2, u "lineSeparator"), (0, u "Ljava/lang/String;"), (96, .class_ 321), (1, u "java/lang/System$LoggerFinder"), (5, .class_ 328), (0, u "java/lang/System$Logger"), (67, u "err"), (2, u "out"), (91, u "notSupportedJnuEncoding"), (15, u "in"), (17, u "initialIn"), (0, u "Ljava/io/InputStream;"), (35, u "bootLayer"), (0, u "Ljava/lang/ModuleLayer;"), (99, .class_ 664), (0, u "java/lang/System$2"), (9, u "NEVER"), (2, u "MAYBE"), (49, u "arraycopy"), (0, u "(Ljava/lang/Object;ILjava/lang/Object;II)V"), (72, .class_ 802), (0, u "java/lang/System$Logger$Level")] 31

def k19m0 : Method := { name := "<init>", desc := "()V", sig := { parameters := [], returnType := none }, accessFlags := 2, code := none }
def k19m1 : Method := { name := "arraycopy", desc := "(Ljava/lang/Object;ILjava/lang/Object;II)V", sig := { parameters := [(.object "java/lang/Object"), .int, (.object "java/lang/Object"), .int, .int], returnType := none }, accessFlags := 265, code := none }
/-- java/lang/System -/
def k19 : Class := { plain "java/lang/System" (some 0) with
  accessFlags := 49
  interfaces := #[]
  cf := some (fileOf pool19 8 #[.nestMembers #[319, 327, 801, 108, 663, 208]] #[{ accessFlags := 2, nameIndex := 5, descriptorIndex := 6, attributes := #[] }, { accessFlags := 265, nameIndex := 727, descriptorIndex := 728, attributes := #[] }] 49 2 #[] #[{ accessFlags := 25, nameIndex := 507, descriptorIndex := 526, attributes := #[] }, { accessFlags := 25, nameIndex := 399, descriptorIndex := 155, attributes := #[] }, { accessFlags := 25, nameIndex := 396, descriptorIndex := 155, attributes := #[] }, { accessFlags := 10, nameIndex := 525, descriptorIndex := 526, attributes := #[] }, { accessFlags := 26, nameIndex := 674, descriptorIndex := 12, attributes := #[] }, { accessFlags := 26, nameIndex := 677, descriptorIndex := 12, attributes := #[] }, { accessFlags := 10, nameIndex := 11, descriptorIndex := 12, attributes := #[] }, { accessFlags := 74, nameIndex := 175, descriptorIndex := 176, attributes := #[] }, { accessFlags := 10, nameIndex := 491, descriptorIndex := 222, attributes := #[] }, { accessFlags := 74, nameIndex := 29, descriptorIndex := 30, attributes := #[] }, { accessFlags := 74, nameIndex := 154, descriptorIndex := 155, attributes := #[] }, { accessFlags := 10, nameIndex := 217, descriptorIndex := 218, attributes := #[] }, { accessFlags := 10, nameIndex := 221, descriptorIndex := 222, attributes := #[] }, { accessFlags := 8, nameIndex := 562, descriptorIndex := 563, attributes := #[] }])
  fields := #[{ name := "in", type := (.object "java/io/InputStream"), accessFlags := 25, slot := 0, constantValue := 0 }, { name := "out", type := (.object "java/io/PrintStream"), accessFlags := 25, slot := 1, constantValue := 0 }, { name := "err", type := (.object "java/io/PrintStream"), accessFlags := 25, slot := 2, constantValue := 0 }, { name := "initialIn", type := (.object "java/io/InputStream"), accessFlags := 10, slot := 3, constantValue := 0 }, { name := "NEVER", type := .int, accessFlags := 26, slot := 4, constantValue := 0 }, { name := "MAYBE", type := .int, accessFlags := 26, slot := 5, constantValue := 0 }, { name := "allowSecurityManager", type := .int, accessFlags := 10, slot := 6, constantValue := 0 }, { name := "security", type := (.object "java/lang/SecurityManager"), accessFlags := 74, slot := 7, constantValue := 0 }, { name := "notSupportedJnuEncoding", type := (.object "java/lang/String"), accessFlags := 10, slot := 8, constantValue := 0 }, { name := "cons", type := (.object "java/io/Console"), accessFlags := 74, slot := 9, constantValue := 0 }, { name := "initialErrStream", type := (.object "java/io/PrintStream"), accessFlags := 74, slot := 10, constantValue := 0 }, { name := "props", type := (.object "java/util/Properties"), accessFlags := 10, slot := 11, constantValue := 0 }, { name := "lineSeparator", type := (.object "java/lang/String"), accessFlags := 10, slot := 12, constantValue := 0 }, { name := "bootLayer", type := (.object "java/lang/ModuleLayer"), accessFlags := 8, slot := 13, constantValue := 0 }]
  methods := #[k19m0, k19m1]
  instanceTypes := #[]
  staticTypes := #[(.object "java/io/InputStream"), (.object "java/io/PrintStream"), (.object "java/io/PrintStream"), (.object "java/io/InputStream"), .int, .int, .int, (.object "java/lang/SecurityManager"), (.object "java/lang/String"), (.object "java/io/Console"), (.object "java/io/PrintStream"), (.object "java/util/Properties"), (.object "java/lang/String"), (.object "java/lang/ModuleLayer")]
  resolved := Array.replicate 834 none
  statics := none }

def pool20 : Array CpInfo := pool [(1, .methodref 2 3), (0, .class_ 4), (0, .nameAndType 5 6), (0, u "java/lang/Object"), (0, u "<init>"), (0, u "()V"), (0, .methodref 8 9), (0, .class_ 10), (0, .nameAndType 11 12), (0, u "com/example/variegate/variegate/service/Cnf"), (0, u "variables"), (0, u "()I"), (0, .fieldref 14 15), (0, .class_ 16), (0, .nameAndType 11 17), (0, u "com/example/variegate/variegate/service/Propagation"), (0, u "I"), (0, .class_ 19), (0, u "java/math/BigInteger"), (0, .fieldref 14 21), (0, .nameAndType 22 23), (0, u "weight"), (0, u "[Ljava/math/BigInteger;"), (0, .methodref 8 25), (0, .nameAndType 22 26), (0, u "(I)Ljava/math/BigInteger;"), (0, .fieldref 14 28), (0, .nameAndType 29 30), (0, u "value"), (0, u "[B"), (0, .fieldref 14 32), (0, .nameAndType 33 34), (0, u "trail"), (0, u "[I"), (0, .class_ 36), (0, u "java/util/ArrayList"), (0, .methodref 35 3), (0, .methodref 8 39), (0, .nameAndType 40 41), (0, u "clauses"), (0, u "()Ljava/util/List;"), (0, .interfaceMethodref 43 44), (0, .class_ 45), (0, .nameAndType 46 12), (0, u "java/util/List"), (0, u "size"), (0, .fieldref 14 48), (0, .nameAndType 49 50), (0, u "redundant"), (0, u "[Z"), (0, .interfaceMethodref 43 52), (0, .nameAndType 53 54), (0, u "get"), (0, u "(I)Ljava/lang/Object;"), (0, .class_ 34), (0, .methodref 14 57), (0, .nameAndType 58 59), (0, u "toLiterals"), (0, u "([I)[I"), (0, .fieldref 14 61), (0, .nameAndType 62 63), (0, u "contradiction"), (0, u "Z"), (0, .interfaceMethodref 43 65), (0, .nameAndType 66 67), (0, u "add"), (0, u "(Ljava/lang/Object;)Z"), (0, .methodref 8 69), (0, .nameAndType 70 71), (0, u "isRedundant"), (0, u "(I)Z"), (0, .fieldref 14 73), (0, .nameAndType 74 75), (0, u "implied"), (0, u "[[I"), (0, .fieldref 14 77), (0, .nameAndType 78 34), (0, u "NONE"), (0, .methodref 80 81), (0, .class_ 82), (0, .nameAndType 83 84), (0, u "java/util/Arrays"), (0, u "fill"), (0, u "([II)V"), (0, .interfaceMethodref 43 86), (0, .nameAndType 87 88), (0, u "iterator"), (0, u "()Ljava/util/Iterator;"), (0, .interfaceMethodref 90 91), (0, .class_ 92), (0, .nameAndType 93 94), (0, u "java/util/Iterator"), (0, u "hasNext"), (0, u "()Z"), (4, .fieldref 14 100), (0, .nameAndType 101 34), (0, u "literals"), (0, .fieldref 14 103), (0, .nameAndType 104 34), (0, u "clauseStart"), (0, .fieldref 14 106), (0, .nameAndType 107 75), (0, u "occurrences"), (0, .fieldref 14 109), (0, .nameAndType 110 75), (0, u "watches"), (0, .methodref 80 112), (0, .nameAndType 83 113), (0, u "([Ljava/lang/Object;Ljava/lang/Object;)V"), (0, .fieldref 14 115), (0, .nameAndType 116 34), (0, u "watchCount"), (0, .methodref 118 119), (0, .class_ 120), (0, .nameAndType 121 122), (0, u "java/lang/System"), (0, u "arraycopy"), (0, u "(Ljava/lang/Object;ILjava/lang/Object;II)V"), (0, .methodref 14 124), (0, .nameAndType 125 126), (0, u "watch"), (0, u "(II)V"), (0, .methodref 14 128), (0, .nameAndType 129 130), (0, u "assign"), (0, u "(I)V"), (0, .methodref 18 132), (0, .nameAndType 133 12), (0, u "signum"), (16, .fieldref 14 151), (0, .nameAndType 152 17), (0, u "trailSize"), (8, u "satisfied"), (35, u "propagated"), (0, .methodref 199 200), (0, .class_ 201), (0, .nameAndType 202 203), (0, u "java/lang/Math"), (0, u "max"), (0, u "(II)I"), (0, .methodref 80 205), (0, .nameAndType 206 207), (0, u "copyOf"), (0, u "([II)[I"), (3, u "INTERRUPTED"), (0, u "Ljava/lang/String;"), (1, u "(Lcom/example/variegate/variegate/service/Cnf;)V")] 36

def k20c0 : Code := { maxStack := 6, maxLocals := 15, code := prog_97_method_1_code, exceptionTable := #[], attributes := #[] }
def k20m0 : Method := { name := "<init>", desc := "(Lcom/example/variegate/variegate/service/Cnf;)V", sig := { parameters := [(.object "com/example/variegate/variegate/service/Cnf")], returnType := none }, accessFlags := 0, code := some k20c0 }
def k20c1 : Code := { maxStack := 5, maxLocals := 3, code := prog_97_method_2_code, exceptionTable := #[], attributes := #[] }
def k20m1 : Method := { name := "toLiterals", desc := "([I)[I", sig := { parameters := [(.array .int)], returnType := some (.array .int) }, accessFlags := 10, code := some k20c1 }
def k20c2 : Code := { maxStack := 4, maxLocals := 3, code := prog_97_method_8_code, exceptionTable := #[], attributes := #[] }
def k20m2 : Method := { name := "satisfied", desc := "(I)Z", sig := { parameters := [.int], returnType := some .boolean }, accessFlags := 0, code := some k20c2 }
def k20c3 : Code := { maxStack := 5, maxLocals := 2, code := prog_97_method_10_code, exceptionTable := #[], attributes := #[] }
def k20m3 : Method := { name := "assign", desc := "(I)V", sig := { parameters := [.int], returnType := none }, accessFlags := 0, code := some k20c3 }
def k20c4 : Code := { maxStack := 7, maxLocals := 3, code := prog_97_method_12_code, exceptionTable := #[], attributes := #[] }
def k20m4 : Method := { name := "watch", desc := "(II)V", sig := { parameters := [.int, .int], returnType := none }, accessFlags := 2, code := some k20c4 }
/-- com/example/variegate/variegate/service/Propagation -/
def k20 : Class := { plain "com/example/variegate/variegate/service/Propagation" (some 0) with
  accessFlags := 48
  interfaces := #[]
  cf := some (fileOf pool20 14 #[] #[{ accessFlags := 0, nameIndex := 5, descriptorIndex := 214, attributes := #[] }, { accessFlags := 10, nameIndex := 58, descriptorIndex := 59, attributes := #[] }, { accessFlags := 0, nameIndex := 161, descriptorIndex := 71, attributes := #[] }, { accessFlags := 0, nameIndex := 129, descriptorIndex := 130, attributes := #[] }, { accessFlags := 2, nameIndex := 125, descriptorIndex := 126, attributes := #[] }] 48 2 #[] #[{ accessFlags := 24, nameIndex := 211, descriptorIndex := 212, attributes := #[] }, { accessFlags := 26, nameIndex := 78, descriptorIndex := 34, attributes := #[] }, { accessFlags := 16, nameIndex := 11, descriptorIndex := 17, attributes := #[] }, { accessFlags := 16, nameIndex := 22, descriptorIndex := 23, attributes := #[] }, { accessFlags := 16, nameIndex := 101, descriptorIndex := 34, attributes := #[] }, { accessFlags := 16, nameIndex := 104, descriptorIndex := 34, attributes := #[] }, { accessFlags := 18, nameIndex := 49, descriptorIndex := 50, attributes := #[] }, { accessFlags := 16, nameIndex := 74, descriptorIndex := 75, attributes := #[] }, { accessFlags := 16, nameIndex := 107, descriptorIndex := 75, attributes := #[] }, { accessFlags := 18, nameIndex := 110, descriptorIndex := 75, attributes := #[] }, { accessFlags := 18, nameIndex := 116, descriptorIndex := 34, attributes := #[] }, { accessFlags := 16, nameIndex := 29, descriptorIndex := 30, attributes := #[] }, { accessFlags := 16, nameIndex := 33, descriptorIndex := 34, attributes := #[] }, { accessFlags := 2, nameIndex := 152, descriptorIndex := 17, attributes := #[] }, { accessFlags := 2, nameIndex := 197, descriptorIndex := 17, attributes := #[] }, { accessFlags := 2, nameIndex := 62, descriptorIndex := 63, attributes := #[] }])
  fields := #[{ name := "INTERRUPTED", type := (.object "java/lang/String"), accessFlags := 24, slot := 0, constantValue := 0 }, { name := "NONE", type := (.array .int), accessFlags := 26, slot := 1, constantValue := 0 }, { name := "variables", type := .int, accessFlags := 16, slot := 0, constantValue := 0 }, { name := "weight", type := (.array (.object "java/math/BigInteger")), accessFlags := 16, slot := 1, constantValue := 0 }, { name := "literals", type := (.array .int), accessFlags := 16, slot := 2, constantValue := 0 }, { name := "clauseStart", type := (.array .int), accessFlags := 16, slot := 3, constantValue := 0 }, { name := "redundant", type := (.array .boolean), accessFlags := 18, slot := 4, constantValue := 0 }, { name := "implied", type := (.array (.array .int)), accessFlags := 16, slot := 5, constantValue := 0 }, { name := "occurrences", type := (.array (.array .int)), accessFlags := 16, slot := 6, constantValue := 0 }, { name := "watches", type := (.array (.array .int)), accessFlags := 18, slot := 7, constantValue := 0 }, { name := "watchCount", type := (.array .int), accessFlags := 18, slot := 8, constantValue := 0 }, { name := "value", type := (.array .byte), accessFlags := 16, slot := 9, constantValue := 0 }, { name := "trail", type := (.array .int), accessFlags := 16, slot := 10, constantValue := 0 }, { name := "trailSize", type := .int, accessFlags := 2, slot := 11, constantValue := 0 }, { name := "propagated", type := .int, accessFlags := 2, slot := 12, constantValue := 0 }, { name := "contradiction", type := .boolean, accessFlags := 2, slot := 13, constantValue := 0 }]
  methods := #[k20m0, k20m1, k20m2, k20m3, k20m4]
  instanceTypes := #[.int, (.array (.object "java/math/BigInteger")), (.array .int), (.array .int), (.array .boolean), (.array (.array .int)), (.array (.array .int)), (.array (.array .int)), (.array .int), (.array .byte), (.array .int), .int, .int, .boolean]
  staticTypes := #[(.object "java/lang/String"), (.array .int)]
  resolved := Array.replicate 251 none
  statics := some 3 }

def pool21 : Array CpInfo := pool [(2, .class_ 4), (1, u "java/lang/Object"), (0, u "<init>"), (0, u "()V"), (35, .class_ 44), (1, u "java/util/Objects"), (60, .methodref 106 107), (0, .class_ 108), (0, .nameAndType 109 110), (0, u "jdk/internal/util/Preconditions"), (0, u "checkIndex"), (0, u "(IILjava/util/function/BiFunction;)I"), (60, u "(II)I")] 12

def k21m0 : Method := { name := "<init>", desc := "()V", sig := { parameters := [], returnType := none }, accessFlags := 2, code := none }
def k21c1 : Code := { maxStack := 3, maxLocals := 2, code := jdk_31_method_17_code, exceptionTable := #[], attributes := #[] }
def k21m1 : Method := { name := "checkIndex", desc := "(II)I", sig := { parameters := [.int, .int], returnType := some .int }, accessFlags := 9, code := some k21c1 }
/-- java/util/Objects -/
def k21 : Class := { plain "java/util/Objects" (some 0) with
  accessFlags := 49
  interfaces := #[]
  cf := some (fileOf pool21 42 #[] #[{ accessFlags := 2, nameIndex := 5, descriptorIndex := 6, attributes := #[] }, { accessFlags := 9, nameIndex := 109, descriptorIndex := 171, attributes := #[] }] 49 2 #[] #[])
  fields := #[]
  methods := #[k21m0, k21m1]
  instanceTypes := #[]
  staticTypes := #[]
  resolved := Array.replicate 184 none
  statics := none }

def pool22 : Array CpInfo := pool [(2, .class_ 4), (1, u "java/lang/Object"), (0, u "<init>"), (0, u "()V"), (17, .class_ 26), (1, u "jdk/internal/util/Preconditions"), (6, u "checkIndex"), (21, .class_ 56), (0, u "jdk/internal/util/Preconditions$4"), (57, .class_ 115), (0, u "jdk/internal/util/Preconditions$1"), (7, u "SIOOBE_FORMATTER"), (0, u "Ljava/util/function/BiFunction;"), (0, .class_ 126), (0, u "jdk/internal/util/Preconditions$2"), (3, u "AIOOBE_FORMATTER"), (0, .class_ 132), (0, u "jdk/internal/util/Preconditions$3"), (3, u "IOOBE_FORMATTER"), (41, u "(IILjava/util/function/BiFunction;)I")] 15

def k22m0 : Method := { name := "<init>", desc := "()V", sig := { parameters := [], returnType := none }, accessFlags := 1, code := none }
def k22c1 : Code := { maxStack := 3, maxLocals := 3, code := jdk_41_method_11_code, exceptionTable := #[], attributes := #[] }
def k22m1 : Method := { name := "checkIndex", desc := "(IILjava/util/function/BiFunction;)I", sig := { parameters := [.int, .int, (.object "java/util/function/BiFunction")], returnType := some .int }, accessFlags := 9, code := some k22c1 }
/-- jdk/internal/util/Preconditions -/
def k22 : Class := { plain "jdk/internal/util/Preconditions" (some 0) with
  accessFlags := 33
  interfaces := #[]
  cf := some (fileOf pool22 24 #[.nestMembers #[55, 131, 125, 114]] #[{ accessFlags := 1, nameIndex := 5, descriptorIndex := 6, attributes := #[] }, { accessFlags := 9, nameIndex := 33, descriptorIndex := 178, attributes := #[] }] 33 2 #[] #[{ accessFlags := 25, nameIndex := 123, descriptorIndex := 124, attributes := #[] }, { accessFlags := 25, nameIndex := 130, descriptorIndex := 124, attributes := #[] }, { accessFlags := 25, nameIndex := 136, descriptorIndex := 124, attributes := #[] }])
  fields := #[{ name := "SIOOBE_FORMATTER", type := (.object "java/util/function/BiFunction"), accessFlags := 25, slot := 0, constantValue := 0 }, { name := "AIOOBE_FORMATTER", type := (.object "java/util/function/BiFunction"), accessFlags := 25, slot := 1, constantValue := 0 }, { name := "IOOBE_FORMATTER", type := (.object "java/util/function/BiFunction"), accessFlags := 25, slot := 2, constantValue := 0 }]
  methods := #[k22m0, k22m1]
  instanceTypes := #[]
  staticTypes := #[(.object "java/util/function/BiFunction"), (.object "java/util/function/BiFunction"), (.object "java/util/function/BiFunction")]
  resolved := Array.replicate 194 none
  statics := none }

def pool23 : Array CpInfo := pool [(16, .class_ 18), (1, u "java/util/Iterator"), (0, u "hasNext"), (0, u "()Z"), (10, .class_ 32), (0, u "java/lang/Object")] 20

def k23m0 : Method := { name := "hasNext", desc := "()Z", sig := { parameters := [], returnType := some .boolean }, accessFlags := 1025, code := none }
/-- java/util/Iterator -/
def k23 : Class := { plain "java/util/Iterator" (some 0) with
  accessFlags := 1537
  interfaces := #[]
  cf := some (fileOf pool23 16 #[] #[{ accessFlags := 1025, nameIndex := 19, descriptorIndex := 20, attributes := #[] }] 1537 31 #[] #[])
  fields := #[]
  methods := #[k23m0]
  instanceTypes := #[]
  staticTypes := #[]
  resolved := Array.replicate 53 none
  statics := none }

def pool24 : Array CpInfo := pool [(1, .fieldref 2 3), (0, .class_ 4), (0, .nameAndType 5 6), (0, u "java/util/ArrayList$Itr"), (0, u "this$0"), (0, u "Ljava/util/ArrayList;"), (0, .methodref 8 9), (0, .class_ 10), (0, .nameAndType 11 12), (0, u "java/lang/Object"), (0, u "<init>"), (0, u "()V"), (0, .fieldref 2 14), (0, .nameAndType 15 16), (0, u "lastRet"), (0, u "I"), (0, .fieldref 18 19), (0, .class_ 20), (0, .nameAndType 21 16), (0, u "java/util/ArrayList"), (0, u "modCount"), (0, .fieldref 2 23), (0, .nameAndType 24 16), (0, u "expectedModCount"), (0, .fieldref 2 26), (0, .nameAndType 27 16), (0, u "cursor"), (0, .fieldref 18 29), (0, .nameAndType 30 16), (0, u "size"), (38, .class_ 70), (0, u "java/util/Iterator"), (0, u "(Ljava/util/ArrayList;)V"), (8, u "hasNext"), (0, u "()Z")] 22

def k24c0 : Code := { maxStack := 2, maxLocals := 2, code := jdk_49_method_1_code, exceptionTable := #[], attributes := #[] }
def k24m0 : Method := { name := "<init>", desc := "(Ljava/util/ArrayList;)V", sig := { parameters := [(.object "java/util/ArrayList")], returnType := none }, accessFlags := 0, code := some k24c0 }
def k24c1 : Code := { maxStack := 2, maxLocals := 1, code := jdk_49_method_2_code, exceptionTable := #[], attributes := #[] }
def k24m1 : Method := { name := "hasNext", desc := "()Z", sig := { parameters := [], returnType := some .boolean }, accessFlags := 1, code := some k24c1 }
/-- java/util/ArrayList$Itr -/
def k24 : Class := { plain "java/util/ArrayList$Itr" (some 0) with
  accessFlags := 32
  interfaces := #[23]
  cf := some (fileOf pool24 2 #[.nestHost 18] #[{ accessFlags := 0, nameIndex := 11, descriptorIndex := 71, attributes := #[] }, { accessFlags := 1, nameIndex := 80, descriptorIndex := 81, attributes := #[] }] 32 8 #[69] #[{ accessFlags := 0, nameIndex := 27, descriptorIndex := 16, attributes := #[] }, { accessFlags := 0, nameIndex := 15, descriptorIndex := 16, attributes := #[] }, { accessFlags := 0, nameIndex := 24, descriptorIndex := 16, attributes := #[] }, { accessFlags := 4112, nameIndex := 5, descriptorIndex := 6, attributes := #[] }])
  fields := #[{ name := "cursor", type := .int, accessFlags := 0, slot := 0, constantValue := 0 }, { name := "lastRet", type := .int, accessFlags := 0, slot := 1, constantValue := 0 }, { name := "expectedModCount", type := .int, accessFlags := 0, slot := 2, constantValue := 0 }, { name := "this$0", type := (.object "java/util/ArrayList"), accessFlags := 4112, slot := 3, constantValue := 0 }]
  methods := #[k24m0, k24m1]
  instanceTypes := #[.int, .int, .int, (.object "java/util/ArrayList")]
  staticTypes := #[]
  resolved := Array.replicate 104 none
  statics := none }

/-- the primitive boolean -/
def k25 : Class := { plain "boolean" none with kind := .primitive 'Z', accessFlags := 0x411 }
/-- [Z -/
def k26 : Class := { plain "[Z" (some 0) with kind := .array 25 .boolean, interfaces := #[10, 11], accessFlags := 1041 }

/-- the primitive byte -/
def k27 : Class := { plain "byte" none with kind := .primitive 'B', accessFlags := 0x411 }
/-- [B -/
def k28 : Class := { plain "[B" (some 0) with kind := .array 27 .byte, interfaces := #[10, 11], accessFlags := 1041 }

/-- the primitive int -/
def k29 : Class := { plain "int" none with kind := .primitive 'I', accessFlags := 0x411 }
/-- [I -/
def k30 : Class := { plain "[I" (some 0) with kind := .array 29 .int, interfaces := #[10, 11], accessFlags := 1041 }

/-- the primitive long -/
def k31 : Class := { plain "long" none with kind := .primitive 'J', accessFlags := 0x411 }
/-- [J -/
def k32 : Class := { plain "[J" (some 0) with kind := .array 31 .long, interfaces := #[10, 11], accessFlags := 1041 }

/-- [Ljava/lang/Object; -/
def k33 : Class := { plain "[Ljava/lang/Object;" (some 0) with kind := .array 0 (.object "java/lang/Object"), interfaces := #[10, 11], accessFlags := 1041 }

/-- [Ljava/math/BigInteger; -/
def k34 : Class := { plain "[Ljava/math/BigInteger;" (some 0) with kind := .array 16 (.object "java/math/BigInteger"), interfaces := #[10, 11], accessFlags := 1041 }

def heap : Heap := #[{ cls := 12, slots := #[.long 0, .int 0, .ref 7, .ref 8], vm := .statics 12 },
  { cls := 13, slots := #[.int 0, .int 0, .int 0, .long 0, .null, .long 0, .int 1], vm := .statics 13 },
  { cls := 16, slots := #[.long 0, .int 0, .int 0, .int 0, .int 0, .int 0, .int 0, .int 0, .int 0, .int 0, .int 0, .int 0, .null, .int 0, .int 0, .null, .int 0, .null, .null, .null, .null, .double 0, .null, .ref 6, .null, .null, .null, .null, .int 0, .null, .null, .null, .null, .null, .long 0, .null, .int 0], vm := .statics 16 },
  { cls := 20, slots := #[.null, .ref 4], vm := .statics 20 },
  { cls := 30, slots := #[], vm := .none },
  { cls := 30, slots := #[.int 1], vm := .none },
  { cls := 16, slots := #[.int 1, .ref 5, .int 0, .int 0, .int 0, .int 0], vm := .none },
  { cls := 33, slots := #[], vm := .none },
  { cls := 33, slots := #[], vm := .none }]
/-- [[I -/
def k35 : Class := { plain "[[I" (some 0) with kind := .array 30 (.array .int), interfaces := #[10, 11], accessFlags := 1041 }
def classes : Array Class := #[k0, k1, k2, k3, k4, k5, k6, k7, k8, k9, k10, k11, k12, k13, k14, k15, k16, k17, k18, k19, k20, k21, k22, k23, k24, k25, k26, k27, k28, k29, k30, k31, k32, k33, k34, k35]
def interned : List (Array UInt16 × Addr) := []
def slotsUsed : Nat := 57
def theMethod : MethodId := ⟨1, 1⟩
def args0 : Array Value := #[.int 0, .int 0, .int 0, .int 0]
def aboutOver (below : List Frame) : State where
  vm := { classes := classes, interned := interned.toArray }
  heap := heap
  slotsUsed := slotsUsed
  threads := #[{ frames := .invoking theMethod args0 :: below }]
def below0 : List Frame := [.native { method := ⟨0, 0⟩, args := #[] }]
def about1 : State := aboutOver below0
def p0 : Program := .bare "" "" ""
def e0 : Env := launch0.env 0 0 0
theorem w_frames : about1.frames = Frame.invoking theMethod args0 :: below0 := rfl
set_option maxRecDepth 65536 in
theorem w_args : argsFit about1.vm theMethod args0 = true := by decide +kernel
set_option maxRecDepth 65536 in
theorem w_heap : heapFits about1 = true := by decide +kernel
set_option maxRecDepth 65536 in
theorem w_runnable : about1.curStatus? = some .runnable := by decide +kernel
set_option maxRecDepth 65536 in
theorem w_alone : about1.alone = true := by decide +kernel
set_option maxRecDepth 65536 in
theorem w_named : about1.methodNamed? x = some theMethod := by decide +kernel
set_option maxRecDepth 65536 in
theorem w_hears : about1.hears theMethod below0 = true := by decide +kernel
set_option maxRecDepth 65536 in
theorem w_ripe : about1.ripe theMethod args0 below0 = true := by decide +kernel
theorem w_running : about1.status = .running := rfl
set_option maxRecDepth 65536 in
theorem w_room : about1.hasRoom e0.platform room_1 = true :=
  launch0.hasRoom_least _ room_1 (by decide +kernel) (by decide +kernel) (by decide +kernel) (by decide +kernel) (by decide +kernel) (by decide +kernel)
theorem allAtoms_all (ts : List Jvm.Cond) (a : Array Jvm.Value) (st : Jvm.State) : (allAtoms ts).before a st = ts.all (fun c => c.before a st) := by
  induction ts with
  | nil => rfl
  | cons c t ih =>
    show (Jvm.Cond.and c (allAtoms t)).before a st = _
    rw [Jvm.Cond.before_and, ih, List.all_cons]
def words1 : List Jvm.Cond := Jvm.Cond.code x code maxLocals ret :: tables_1
/-- a 'code' word, met by the world's own term for the bytes: nothing is compared byte by byte -/
theorem code_word {y : MethodName} {bytes : ByteArray} {mx : Nat} {rt : Option FieldType} {a : Array Value} {s : State} {m : MethodId} {meth : Method} {c : Code} (h1 : s.methodNamed? y = some m) (h2 : s.vm.method? m = some meth) (h3 : meth.code = some c) (h4 : c.code = bytes)
    (h5 : (c.maxLocals == mx && c.exceptionTable.isEmpty && decide (c.maxStack ≤ mostOperands) && decide (meth.sig.returnType = rt) && !meth.locks && decide (parseMethodDescriptor y.desc = some meth.sig)) = true) : (Jvm.Cond.code y bytes mx rt).before a s = true := by
  simp only [Bool.and_eq_true, beq_iff_eq, Bool.not_eq_true', decide_eq_true_eq] at h5
  obtain ⟨⟨⟨⟨⟨g1, g2⟩, g3⟩, g4⟩, g5⟩, g6⟩ := h5
  simp [Cond.before, Cond.holds, Cond.value, h1, h2, h3, h4, g1, g2, g3, g4, g5, g6]
def isCode : Jvm.Cond → Bool
  | .code _ _ _ _ => true
  | _ => false
theorem all_split {L : List Jvm.Cond} {P : Jvm.Cond → Bool} (h1 : L.all (fun c => isCode c || P c) = true) (h2 : ∀ c ∈ L.filter isCode, P c = true) : L.all P = true := by
  refine List.all_eq_true.mpr fun c hc => ?_
  have h := List.all_eq_true.mp h1 c hc
  rcases Bool.eq_false_or_eq_true (isCode c) with hi | hi
  · exact h2 c (List.mem_filter.mpr ⟨hc, hi⟩)
  · simpa [hi] using h
set_option maxRecDepth 65536 in
theorem w_c0 : (Jvm.Cond.code x code maxLocals ret).before args0 about1 = true := code_word (m := ⟨1, 1⟩) (meth := k1m1) (c := k1c1) (by decide +kernel) rfl rfl rfl (by decide +kernel)
set_option maxRecDepth 65536 in
theorem w_c1 : (Jvm.Cond.code ({ cls := "com/example/variegate/variegate/service/Cnf", name := "<init>", desc := "()V" } : Jvm.MethodName) prog_73_method_1_code (1 : Nat) (Option.none : Option Jvm.ClassFile.FieldType)).before args0 about1 = true := code_word (m := ⟨2, 0⟩) (meth := k2m0) (c := k2c0) (by decide +kernel) rfl rfl rfl (by decide +kernel)
set_option maxRecDepth 65536 in
theorem w_c2 : (Jvm.Cond.code ({ cls := "java/lang/Object", name := "<init>", desc := "()V" } : Jvm.MethodName) object_method_1_code (1 : Nat) (Option.none : Option Jvm.ClassFile.FieldType)).before args0 about1 = true := code_word (m := ⟨0, 0⟩) (meth := k0m0) (c := k0c0) (by decide +kernel) rfl rfl rfl (by decide +kernel)
set_option maxRecDepth 65536 in
theorem w_c3 : (Jvm.Cond.code ({ cls := "java/util/ArrayList", name := "<init>", desc := "()V" } : Jvm.MethodName) jdk_38_method_2_code (1 : Nat) (Option.none : Option Jvm.ClassFile.FieldType)).before args0 about1 = true := code_word (m := ⟨12, 0⟩) (meth := k12m0) (c := k12c0) (by decide +kernel) rfl rfl rfl (by decide +kernel)
set_option maxRecDepth 65536 in
theorem w_c4 : (Jvm.Cond.code ({ cls := "java/util/AbstractList", name := "<init>", desc := "()V" } : Jvm.MethodName) jdk_39_method_1_code (1 : Nat) (Option.none : Option Jvm.ClassFile.FieldType)).before args0 about1 = true := code_word (m := ⟨8, 0⟩) (meth := k8m0) (c := k8c0) (by decide +kernel) rfl rfl rfl (by decide +kernel)
set_option maxRecDepth 65536 in
theorem w_c5 : (Jvm.Cond.code ({ cls := "java/util/AbstractCollection", name := "<init>", desc := "()V" } : Jvm.MethodName) jdk_22_method_1_code (1 : Nat) (Option.none : Option Jvm.ClassFile.FieldType)).before args0 about1 = true := code_word (m := ⟨5, 0⟩) (meth := k5m0) (c := k5c0) (by decide +kernel) rfl rfl rfl (by decide +kernel)
set_option maxRecDepth 65536 in
theorem w_c6 : (Jvm.Cond.code ({ cls := "java/util/BitSet", name := "<init>", desc := "()V" } : Jvm.MethodName) jdk_92_method_4_code (1 : Nat) (Option.none : Option Jvm.ClassFile.FieldType)).before args0 about1 = true := code_word (m := ⟨13, 2⟩) (meth := k13m2) (c := k13c2) (by decide +kernel) rfl rfl rfl (by decide +kernel)
set_option maxRecDepth 65536 in
theorem w_c7 : (Jvm.Cond.code ({ cls := "java/util/BitSet", name := "initWords", desc := "(I)V" } : Jvm.MethodName) jdk_92_method_6_code (2 : Nat) (Option.none : Option Jvm.ClassFile.FieldType)).before args0 about1 = true := code_word (m := ⟨13, 3⟩) (meth := k13m3) (c := k13c3) (by decide +kernel) rfl rfl rfl (by decide +kernel)
set_option maxRecDepth 65536 in
theorem w_c8 : (Jvm.Cond.code ({ cls := "java/util/BitSet", name := "wordIndex", desc := "(I)I" } : Jvm.MethodName) jdk_92_method_1_code (1 : Nat) (Option.some Jvm.ClassFile.FieldType.int)).before args0 about1 = true := code_word (m := ⟨13, 0⟩) (meth := k13m0) (c := k13c0) (by decide +kernel) rfl rfl rfl (by decide +kernel)
set_option maxRecDepth 65536 in
theorem w_c9 : (Jvm.Cond.code ({ cls := "com/example/variegate/variegate/service/Cnf", name := "newVariable", desc := "()I" } : Jvm.MethodName) prog_73_method_2_code (1 : Nat) (Option.some Jvm.ClassFile.FieldType.int)).before args0 about1 = true := code_word (m := ⟨2, 1⟩) (meth := k2m1) (c := k2c1) (by decide +kernel) rfl rfl rfl (by decide +kernel)
set_option maxRecDepth 65536 in
theorem w_c10 : (Jvm.Cond.code ({ cls := "java/util/ArrayList", name := "add", desc := "(Ljava/lang/Object;)Z" } : Jvm.MethodName) jdk_38_method_25_code (2 : Nat) (Option.some Jvm.ClassFile.FieldType.boolean)).before args0 about1 = true := code_word (m := ⟨12, 7⟩) (meth := k12m7) (c := k12c7) (by decide +kernel) rfl rfl rfl (by decide +kernel)
set_option maxRecDepth 65536 in
theorem w_c11 : (Jvm.Cond.code ({ cls := "java/util/ArrayList", name := "add", desc := "(Ljava/lang/Object;[Ljava/lang/Object;I)V" } : Jvm.MethodName) jdk_38_method_24_code (4 : Nat) (Option.none : Option Jvm.ClassFile.FieldType)).before args0 about1 = true := code_word (m := ⟨12, 6⟩) (meth := k12m6) (c := k12c6) (by decide +kernel) rfl rfl rfl (by decide +kernel)
set_option maxRecDepth 65536 in
theorem w_c12 : (Jvm.Cond.code ({ cls := "java/util/ArrayList", name := "grow", desc := "()[Ljava/lang/Object;" } : Jvm.MethodName) jdk_38_method_7_code (1 : Nat) (Option.some (Jvm.ClassFile.FieldType.array (Jvm.ClassFile.FieldType.object "java/lang/Object")))).before args0 about1 = true := code_word (m := ⟨12, 2⟩) (meth := k12m2) (c := k12c2) (by decide +kernel) rfl rfl rfl (by decide +kernel)
set_option maxRecDepth 65536 in
theorem w_c13 : (Jvm.Cond.code ({ cls := "java/util/ArrayList", name := "grow", desc := "(I)[Ljava/lang/Object;" } : Jvm.MethodName) jdk_38_method_6_code (4 : Nat) (Option.some (Jvm.ClassFile.FieldType.array (Jvm.ClassFile.FieldType.object "java/lang/Object")))).before args0 about1 = true := code_word (m := ⟨12, 1⟩) (meth := k12m1) (c := k12c1) (by decide +kernel) rfl rfl rfl (by decide +kernel)
set_option maxRecDepth 65536 in
theorem w_c14 : (Jvm.Cond.code ({ cls := "java/lang/Math", name := "max", desc := "(II)I" } : Jvm.MethodName) jdk_29_method_65_code (2 : Nat) (Option.some Jvm.ClassFile.FieldType.int)).before args0 about1 = true := code_word (m := ⟨17, 1⟩) (meth := k17m1) (c := k17c1) (by decide +kernel) rfl rfl rfl (by decide +kernel)
set_option maxRecDepth 65536 in
theorem w_c15 : (Jvm.Cond.code ({ cls := "java/util/ArrayList", name := "size", desc := "()I" } : Jvm.MethodName) jdk_38_method_8_code (1 : Nat) (Option.some Jvm.ClassFile.FieldType.int)).before args0 about1 = true := code_word (m := ⟨12, 3⟩) (meth := k12m3) (c := k12c3) (by decide +kernel) rfl rfl rfl (by decide +kernel)
set_option maxRecDepth 65536 in
theorem w_c16 : (Jvm.Cond.code ({ cls := "com/example/variegate/variegate/service/Cnf", name := "addClause", desc := "([I)V" } : Jvm.MethodName) prog_73_method_3_code (10 : Nat) (Option.none : Option Jvm.ClassFile.FieldType)).before args0 about1 = true := code_word (m := ⟨2, 2⟩) (meth := k2m2) (c := k2c2) (by decide +kernel) rfl rfl rfl (by decide +kernel)
set_option maxRecDepth 65536 in
theorem w_c17 : (Jvm.Cond.code ({ cls := "java/util/Arrays", name := "copyOf", desc := "([JI)[J" } : Jvm.MethodName) jdk_65_method_124_code (3 : Nat) (Option.some (Jvm.ClassFile.FieldType.array Jvm.ClassFile.FieldType.long))).before args0 about1 = true := code_word (m := ⟨18, 4⟩) (meth := k18m4) (c := k18c4) (by decide +kernel) rfl rfl rfl (by decide +kernel)
set_option maxRecDepth 65536 in
theorem w_c18 : (Jvm.Cond.code ({ cls := "java/lang/Math", name := "min", desc := "(II)I" } : Jvm.MethodName) jdk_29_method_69_code (2 : Nat) (Option.some Jvm.ClassFile.FieldType.int)).before args0 about1 = true := code_word (m := ⟨17, 2⟩) (meth := k17m2) (c := k17c2) (by decide +kernel) rfl rfl rfl (by decide +kernel)
set_option maxRecDepth 65536 in
theorem w_c19 : (Jvm.Cond.code ({ cls := "com/example/variegate/variegate/service/Propagation", name := "<init>", desc := "(Lcom/example/variegate/variegate/service/Cnf;)V" } : Jvm.MethodName) prog_97_method_1_code (15 : Nat) (Option.none : Option Jvm.ClassFile.FieldType)).before args0 about1 = true := code_word (m := ⟨20, 0⟩) (meth := k20m0) (c := k20c0) (by decide +kernel) rfl rfl rfl (by decide +kernel)
set_option maxRecDepth 65536 in
theorem w_c20 : (Jvm.Cond.code ({ cls := "com/example/variegate/variegate/service/Cnf", name := "variables", desc := "()I" } : Jvm.MethodName) prog_73_method_8_code (1 : Nat) (Option.some Jvm.ClassFile.FieldType.int)).before args0 about1 = true := code_word (m := ⟨2, 4⟩) (meth := k2m4) (c := k2c4) (by decide +kernel) rfl rfl rfl (by decide +kernel)
set_option maxRecDepth 65536 in
theorem w_c21 : (Jvm.Cond.code ({ cls := "com/example/variegate/variegate/service/Cnf", name := "weight", desc := "(I)Ljava/math/BigInteger;" } : Jvm.MethodName) prog_73_method_10_code (2 : Nat) (Option.some (Jvm.ClassFile.FieldType.object "java/math/BigInteger"))).before args0 about1 = true := code_word (m := ⟨2, 6⟩) (meth := k2m6) (c := k2c6) (by decide +kernel) rfl rfl rfl (by decide +kernel)
set_option maxRecDepth 65536 in
theorem w_c22 : (Jvm.Cond.code ({ cls := "java/util/ArrayList", name := "get", desc := "(I)Ljava/lang/Object;" } : Jvm.MethodName) jdk_38_method_20_code (2 : Nat) (Option.some (Jvm.ClassFile.FieldType.object "java/lang/Object"))).before args0 about1 = true := code_word (m := ⟨12, 5⟩) (meth := k12m5) (c := k12c5) (by decide +kernel) rfl rfl rfl (by decide +kernel)
set_option maxRecDepth 65536 in
theorem w_c23 : (Jvm.Cond.code ({ cls := "java/util/Objects", name := "checkIndex", desc := "(II)I" } : Jvm.MethodName) jdk_31_method_17_code (2 : Nat) (Option.some Jvm.ClassFile.FieldType.int)).before args0 about1 = true := code_word (m := ⟨21, 1⟩) (meth := k21m1) (c := k21c1) (by decide +kernel) rfl rfl rfl (by decide +kernel)
set_option maxRecDepth 65536 in
theorem w_c24 : (Jvm.Cond.code ({ cls := "jdk/internal/util/Preconditions", name := "checkIndex", desc := "(IILjava/util/function/BiFunction;)I" } : Jvm.MethodName) jdk_41_method_11_code (3 : Nat) (Option.some Jvm.ClassFile.FieldType.int)).before args0 about1 = true := code_word (m := ⟨22, 1⟩) (meth := k22m1) (c := k22c1) (by decide +kernel) rfl rfl rfl (by decide +kernel)
set_option maxRecDepth 65536 in
theorem w_c25 : (Jvm.Cond.code ({ cls := "java/util/ArrayList", name := "elementData", desc := "(I)Ljava/lang/Object;" } : Jvm.MethodName) jdk_38_method_18_code (2 : Nat) (Option.some (Jvm.ClassFile.FieldType.object "java/lang/Object"))).before args0 about1 = true := code_word (m := ⟨12, 4⟩) (meth := k12m4) (c := k12c4) (by decide +kernel) rfl rfl rfl (by decide +kernel)
set_option maxRecDepth 65536 in
theorem w_c26 : (Jvm.Cond.code ({ cls := "com/example/variegate/variegate/service/Cnf", name := "clauses", desc := "()Ljava/util/List;" } : Jvm.MethodName) prog_73_method_9_code (1 : Nat) (Option.some (Jvm.ClassFile.FieldType.object "java/util/List"))).before args0 about1 = true := code_word (m := ⟨2, 5⟩) (meth := k2m5) (c := k2c5) (by decide +kernel) rfl rfl rfl (by decide +kernel)
set_option maxRecDepth 65536 in
theorem w_c27 : (Jvm.Cond.code ({ cls := "com/example/variegate/variegate/service/Propagation", name := "toLiterals", desc := "([I)[I" } : Jvm.MethodName) prog_97_method_2_code (3 : Nat) (Option.some (Jvm.ClassFile.FieldType.array Jvm.ClassFile.FieldType.int))).before args0 about1 = true := code_word (m := ⟨20, 1⟩) (meth := k20m1) (c := k20c1) (by decide +kernel) rfl rfl rfl (by decide +kernel)
set_option maxRecDepth 65536 in
theorem w_c28 : (Jvm.Cond.code ({ cls := "com/example/variegate/variegate/service/Cnf", name := "isRedundant", desc := "(I)Z" } : Jvm.MethodName) prog_73_method_5_code (2 : Nat) (Option.some Jvm.ClassFile.FieldType.boolean)).before args0 about1 = true := code_word (m := ⟨2, 3⟩) (meth := k2m3) (c := k2c3) (by decide +kernel) rfl rfl rfl (by decide +kernel)
set_option maxRecDepth 65536 in
theorem w_c29 : (Jvm.Cond.code ({ cls := "java/util/BitSet", name := "get", desc := "(I)Z" } : Jvm.MethodName) jdk_92_method_26_code (3 : Nat) (Option.some Jvm.ClassFile.FieldType.boolean)).before args0 about1 = true := code_word (m := ⟨13, 4⟩) (meth := k13m4) (c := k13c4) (by decide +kernel) rfl rfl rfl (by decide +kernel)
set_option maxRecDepth 65536 in
theorem w_c30 : (Jvm.Cond.code ({ cls := "java/util/BitSet", name := "checkInvariants", desc := "()V" } : Jvm.MethodName) jdk_92_method_2_code (1 : Nat) (Option.none : Option Jvm.ClassFile.FieldType)).before args0 about1 = true := code_word (m := ⟨13, 1⟩) (meth := k13m1) (c := k13c1) (by decide +kernel) rfl rfl rfl (by decide +kernel)
set_option maxRecDepth 65536 in
theorem w_c31 : (Jvm.Cond.code ({ cls := "java/util/Arrays", name := "fill", desc := "([II)V" } : Jvm.MethodName) jdk_65_method_103_code (4 : Nat) (Option.none : Option Jvm.ClassFile.FieldType)).before args0 about1 = true := code_word (m := ⟨18, 1⟩) (meth := k18m1) (c := k18c1) (by decide +kernel) rfl rfl rfl (by decide +kernel)
set_option maxRecDepth 65536 in
theorem w_c32 : (Jvm.Cond.code ({ cls := "java/util/ArrayList", name := "iterator", desc := "()Ljava/util/Iterator;" } : Jvm.MethodName) jdk_38_method_55_code (1 : Nat) (Option.some (Jvm.ClassFile.FieldType.object "java/util/Iterator"))).before args0 about1 = true := code_word (m := ⟨12, 8⟩) (meth := k12m8) (c := k12c8) (by decide +kernel) rfl rfl rfl (by decide +kernel)
set_option maxRecDepth 65536 in
theorem w_c33 : (Jvm.Cond.code ({ cls := "java/util/ArrayList$Itr", name := "<init>", desc := "(Ljava/util/ArrayList;)V" } : Jvm.MethodName) jdk_49_method_1_code (2 : Nat) (Option.none : Option Jvm.ClassFile.FieldType)).before args0 about1 = true := code_word (m := ⟨24, 0⟩) (meth := k24m0) (c := k24c0) (by decide +kernel) rfl rfl rfl (by decide +kernel)
set_option maxRecDepth 65536 in
theorem w_c34 : (Jvm.Cond.code ({ cls := "java/util/ArrayList$Itr", name := "hasNext", desc := "()Z" } : Jvm.MethodName) jdk_49_method_2_code (1 : Nat) (Option.some Jvm.ClassFile.FieldType.boolean)).before args0 about1 = true := code_word (m := ⟨24, 1⟩) (meth := k24m1) (c := k24c1) (by decide +kernel) rfl rfl rfl (by decide +kernel)
set_option maxRecDepth 65536 in
theorem w_c35 : (Jvm.Cond.code ({ cls := "java/util/Arrays", name := "fill", desc := "([Ljava/lang/Object;Ljava/lang/Object;)V" } : Jvm.MethodName) jdk_65_method_117_code (4 : Nat) (Option.none : Option Jvm.ClassFile.FieldType)).before args0 about1 = true := code_word (m := ⟨18, 2⟩) (meth := k18m2) (c := k18c2) (by decide +kernel) rfl rfl rfl (by decide +kernel)
set_option maxRecDepth 65536 in
theorem w_c36 : (Jvm.Cond.code ({ cls := "com/example/variegate/variegate/service/Propagation", name := "watch", desc := "(II)V" } : Jvm.MethodName) prog_97_method_12_code (3 : Nat) (Option.none : Option Jvm.ClassFile.FieldType)).before args0 about1 = true := code_word (m := ⟨20, 4⟩) (meth := k20m4) (c := k20c4) (by decide +kernel) rfl rfl rfl (by decide +kernel)
set_option maxRecDepth 65536 in
theorem w_c37 : (Jvm.Cond.code ({ cls := "java/util/Arrays", name := "copyOf", desc := "([II)[I" } : Jvm.MethodName) jdk_65_method_123_code (3 : Nat) (Option.some (Jvm.ClassFile.FieldType.array Jvm.ClassFile.FieldType.int))).before args0 about1 = true := code_word (m := ⟨18, 3⟩) (meth := k18m3) (c := k18c3) (by decide +kernel) rfl rfl rfl (by decide +kernel)
set_option maxRecDepth 65536 in
theorem w_c38 : (Jvm.Cond.code ({ cls := "java/math/BigInteger", name := "signum", desc := "()I" } : Jvm.MethodName) jdk_2097_method_81_code (1 : Nat) (Option.some Jvm.ClassFile.FieldType.int)).before args0 about1 = true := code_word (m := ⟨16, 0⟩) (meth := k16m0) (c := k16c0) (by decide +kernel) rfl rfl rfl (by decide +kernel)
set_option maxRecDepth 65536 in
theorem w_c39 : (Jvm.Cond.code ({ cls := "com/example/variegate/variegate/service/PropagationSatisfiedPinLaw", name := "set", desc := "(Lcom/example/variegate/variegate/service/Propagation;II)V" } : Jvm.MethodName) method_3_code (3 : Nat) (Option.none : Option Jvm.ClassFile.FieldType)).before args0 about1 = true := code_word (m := ⟨1, 2⟩) (meth := k1m2) (c := k1c2) (by decide +kernel) rfl rfl rfl (by decide +kernel)
set_option maxRecDepth 65536 in
theorem w_c40 : (Jvm.Cond.code ({ cls := "com/example/variegate/variegate/service/Propagation", name := "assign", desc := "(I)V" } : Jvm.MethodName) prog_97_method_10_code (2 : Nat) (Option.none : Option Jvm.ClassFile.FieldType)).before args0 about1 = true := code_word (m := ⟨20, 3⟩) (meth := k20m3) (c := k20c3) (by decide +kernel) rfl rfl rfl (by decide +kernel)
set_option maxRecDepth 65536 in
theorem w_c41 : (Jvm.Cond.code ({ cls := "com/example/variegate/variegate/service/PropagationSatisfiedPinLaw", name := "holds", desc := "(ZI)Z" } : Jvm.MethodName) method_4_code (2 : Nat) (Option.some Jvm.ClassFile.FieldType.boolean)).before args0 about1 = true := code_word (m := ⟨1, 3⟩) (meth := k1m3) (c := k1c3) (by decide +kernel) rfl rfl rfl (by decide +kernel)
set_option maxRecDepth 65536 in
theorem w_c42 : (Jvm.Cond.code ({ cls := "com/example/variegate/variegate/service/Propagation", name := "satisfied", desc := "(I)Z" } : Jvm.MethodName) prog_97_method_8_code (3 : Nat) (Option.some Jvm.ClassFile.FieldType.boolean)).before args0 about1 = true := code_word (m := ⟨20, 2⟩) (meth := k20m2) (c := k20c2) (by decide +kernel) rfl rfl rfl (by decide +kernel)
def codes1 : List Jvm.Cond := [Jvm.Cond.code x code maxLocals ret, Jvm.Cond.code ({ cls := "com/example/variegate/variegate/service/Cnf", name := "<init>", desc := "()V" } : Jvm.MethodName) prog_73_method_1_code (1 : Nat) (Option.none : Option Jvm.ClassFile.FieldType), Jvm.Cond.code ({ cls := "java/lang/Object", name := "<init>", desc := "()V" } : Jvm.MethodName) object_method_1_code (1 : Nat) (Option.none : Option Jvm.ClassFile.FieldType), Jvm.Cond.code ({ cls := "java/util/ArrayList", name := "<init>", desc := "()V" } : Jvm.MethodName) jdk_38_method_2_code (1 : Nat) (Option.none : Option Jvm.ClassFile.FieldType), Jvm.Cond.code ({ cls := "java/util/AbstractList", name := "<init>", desc := "()V" } : Jvm.MethodName) jdk_39_method_1_code (1 : Nat) (Option.none : Option Jvm.ClassFile.FieldType), Jvm.Cond.code ({ cls := "java/util/AbstractCollection", name := "<init>", desc := "()V" } : Jvm.MethodName) jdk_22_method_1_code (1 : Nat) (Option.none : Option Jvm.ClassFile.FieldType), Jvm.Cond.code ({ cls := "java/util/BitSet", name := "<init>", desc := "()V" } : Jvm.MethodName) jdk_92_method_4_code (1 : Nat) (Option.none : Option Jvm.ClassFile.FieldType), Jvm.Cond.code ({ cls := "java/util/BitSet", name := "initWords", desc := "(I)V" } : Jvm.MethodName) jdk_92_method_6_code (2 : Nat) (Option.none : Option Jvm.ClassFile.FieldType), Jvm.Cond.code ({ cls := "java/util/BitSet", name := "wordIndex", desc := "(I)I" } : Jvm.MethodName) jdk_92_method_1_code (1 : Nat) (Option.some Jvm.ClassFile.FieldType.int), Jvm.Cond.code ({ cls := "com/example/variegate/variegate/service/Cnf", name := "newVariable", desc := "()I" } : Jvm.MethodName) prog_73_method_2_code (1 : Nat) (Option.some Jvm.ClassFile.FieldType.int), Jvm.Cond.code ({ cls := "java/util/ArrayList", name := "add", desc := "(Ljava/lang/Object;)Z" } : Jvm.MethodName) jdk_38_method_25_code (2 : Nat) (Option.some Jvm.ClassFile.FieldType.boolean), Jvm.Cond.code ({ cls := "java/util/ArrayList", name := "add", desc := "(Ljava/lang/Object;[Ljava/lang/Object;I)V" } : Jvm.MethodName) jdk_38_method_24_code (4 : Nat) (Option.none : Option Jvm.ClassFile.FieldType), Jvm.Cond.code ({ cls := "java/util/ArrayList", name := "grow", desc := "()[Ljava/lang/Object;" } : Jvm.MethodName) jdk_38_method_7_code (1 : Nat) (Option.some (Jvm.ClassFile.FieldType.array (Jvm.ClassFile.FieldType.object "java/lang/Object"))), Jvm.Cond.code ({ cls := "java/util/ArrayList", name := "grow", desc := "(I)[Ljava/lang/Object;" } : Jvm.MethodName) jdk_38_method_6_code (4 : Nat) (Option.some (Jvm.ClassFile.FieldType.array (Jvm.ClassFile.FieldType.object "java/lang/Object"))), Jvm.Cond.code ({ cls := "java/lang/Math", name := "max", desc := "(II)I" } : Jvm.MethodName) jdk_29_method_65_code (2 : Nat) (Option.some Jvm.ClassFile.FieldType.int), Jvm.Cond.code ({ cls := "java/util/ArrayList", name := "size", desc := "()I" } : Jvm.MethodName) jdk_38_method_8_code (1 : Nat) (Option.some Jvm.ClassFile.FieldType.int), Jvm.Cond.code ({ cls := "com/example/variegate/variegate/service/Cnf", name := "addClause", desc := "([I)V" } : Jvm.MethodName) prog_73_method_3_code (10 : Nat) (Option.none : Option Jvm.ClassFile.FieldType), Jvm.Cond.code ({ cls := "java/util/Arrays", name := "copyOf", desc := "([JI)[J" } : Jvm.MethodName) jdk_65_method_124_code (3 : Nat) (Option.some (Jvm.ClassFile.FieldType.array Jvm.ClassFile.FieldType.long)), Jvm.Cond.code ({ cls := "java/lang/Math", name := "min", desc := "(II)I" } : Jvm.MethodName) jdk_29_method_69_code (2 : Nat) (Option.some Jvm.ClassFile.FieldType.int), Jvm.Cond.code ({ cls := "com/example/variegate/variegate/service/Propagation", name := "<init>", desc := "(Lcom/example/variegate/variegate/service/Cnf;)V" } : Jvm.MethodName) prog_97_method_1_code (15 : Nat) (Option.none : Option Jvm.ClassFile.FieldType), Jvm.Cond.code ({ cls := "com/example/variegate/variegate/service/Cnf", name := "variables", desc := "()I" } : Jvm.MethodName) prog_73_method_8_code (1 : Nat) (Option.some Jvm.ClassFile.FieldType.int), Jvm.Cond.code ({ cls := "com/example/variegate/variegate/service/Cnf", name := "weight", desc := "(I)Ljava/math/BigInteger;" } : Jvm.MethodName) prog_73_method_10_code (2 : Nat) (Option.some (Jvm.ClassFile.FieldType.object "java/math/BigInteger")), Jvm.Cond.code ({ cls := "java/util/ArrayList", name := "get", desc := "(I)Ljava/lang/Object;" } : Jvm.MethodName) jdk_38_method_20_code (2 : Nat) (Option.some (Jvm.ClassFile.FieldType.object "java/lang/Object")), Jvm.Cond.code ({ cls := "java/util/Objects", name := "checkIndex", desc := "(II)I" } : Jvm.MethodName) jdk_31_method_17_code (2 : Nat) (Option.some Jvm.ClassFile.FieldType.int), Jvm.Cond.code ({ cls := "jdk/internal/util/Preconditions", name := "checkIndex", desc := "(IILjava/util/function/BiFunction;)I" } : Jvm.MethodName) jdk_41_method_11_code (3 : Nat) (Option.some Jvm.ClassFile.FieldType.int), Jvm.Cond.code ({ cls := "java/util/ArrayList", name := "elementData", desc := "(I)Ljava/lang/Object;" } : Jvm.MethodName) jdk_38_method_18_code (2 : Nat) (Option.some (Jvm.ClassFile.FieldType.object "java/lang/Object")), Jvm.Cond.code ({ cls := "com/example/variegate/variegate/service/Cnf", name := "clauses", desc := "()Ljava/util/List;" } : Jvm.MethodName) prog_73_method_9_code (1 : Nat) (Option.some (Jvm.ClassFile.FieldType.object "java/util/List")), Jvm.Cond.code ({ cls := "com/example/variegate/variegate/service/Propagation", name := "toLiterals", desc := "([I)[I" } : Jvm.MethodName) prog_97_method_2_code (3 : Nat) (Option.some (Jvm.ClassFile.FieldType.array Jvm.ClassFile.FieldType.int)), Jvm.Cond.code ({ cls := "com/example/variegate/variegate/service/Cnf", name := "isRedundant", desc := "(I)Z" } : Jvm.MethodName) prog_73_method_5_code (2 : Nat) (Option.some Jvm.ClassFile.FieldType.boolean), Jvm.Cond.code ({ cls := "java/util/BitSet", name := "get", desc := "(I)Z" } : Jvm.MethodName) jdk_92_method_26_code (3 : Nat) (Option.some Jvm.ClassFile.FieldType.boolean), Jvm.Cond.code ({ cls := "java/util/BitSet", name := "checkInvariants", desc := "()V" } : Jvm.MethodName) jdk_92_method_2_code (1 : Nat) (Option.none : Option Jvm.ClassFile.FieldType), Jvm.Cond.code ({ cls := "java/util/Arrays", name := "fill", desc := "([II)V" } : Jvm.MethodName) jdk_65_method_103_code (4 : Nat) (Option.none : Option Jvm.ClassFile.FieldType), Jvm.Cond.code ({ cls := "java/util/ArrayList", name := "iterator", desc := "()Ljava/util/Iterator;" } : Jvm.MethodName) jdk_38_method_55_code (1 : Nat) (Option.some (Jvm.ClassFile.FieldType.object "java/util/Iterator")), Jvm.Cond.code ({ cls := "java/util/ArrayList$Itr", name := "<init>", desc := "(Ljava/util/ArrayList;)V" } : Jvm.MethodName) jdk_49_method_1_code (2 : Nat) (Option.none : Option Jvm.ClassFile.FieldType), Jvm.Cond.code ({ cls := "java/util/ArrayList$Itr", name := "hasNext", desc := "()Z" } : Jvm.MethodName) jdk_49_method_2_code (1 : Nat) (Option.some Jvm.ClassFile.FieldType.boolean), Jvm.Cond.code ({ cls := "java/util/Arrays", name := "fill", desc := "([Ljava/lang/Object;Ljava/lang/Object;)V" } : Jvm.MethodName) jdk_65_method_117_code (4 : Nat) (Option.none : Option Jvm.ClassFile.FieldType), Jvm.Cond.code ({ cls := "com/example/variegate/variegate/service/Propagation", name := "watch", desc := "(II)V" } : Jvm.MethodName) prog_97_method_12_code (3 : Nat) (Option.none : Option Jvm.ClassFile.FieldType), Jvm.Cond.code ({ cls := "java/util/Arrays", name := "copyOf", desc := "([II)[I" } : Jvm.MethodName) jdk_65_method_123_code (3 : Nat) (Option.some (Jvm.ClassFile.FieldType.array Jvm.ClassFile.FieldType.int)), Jvm.Cond.code ({ cls := "java/math/BigInteger", name := "signum", desc := "()I" } : Jvm.MethodName) jdk_2097_method_81_code (1 : Nat) (Option.some Jvm.ClassFile.FieldType.int), Jvm.Cond.code ({ cls := "com/example/variegate/variegate/service/PropagationSatisfiedPinLaw", name := "set", desc := "(Lcom/example/variegate/variegate/service/Propagation;II)V" } : Jvm.MethodName) method_3_code (3 : Nat) (Option.none : Option Jvm.ClassFile.FieldType), Jvm.Cond.code ({ cls := "com/example/variegate/variegate/service/Propagation", name := "assign", desc := "(I)V" } : Jvm.MethodName) prog_97_method_10_code (2 : Nat) (Option.none : Option Jvm.ClassFile.FieldType), Jvm.Cond.code ({ cls := "com/example/variegate/variegate/service/PropagationSatisfiedPinLaw", name := "holds", desc := "(ZI)Z" } : Jvm.MethodName) method_4_code (2 : Nat) (Option.some Jvm.ClassFile.FieldType.boolean), Jvm.Cond.code ({ cls := "com/example/variegate/variegate/service/Propagation", name := "satisfied", desc := "(I)Z" } : Jvm.MethodName) prog_97_method_8_code (3 : Nat) (Option.some Jvm.ClassFile.FieldType.boolean)]
set_option maxRecDepth 65536 in
theorem codes_eq : words1.filter isCode = codes1 := rfl
theorem w_codes : ∀ c ∈ words1.filter isCode, c.before args0 about1 = true := by
  rw [codes_eq]
  intro c hc
  simp only [codes1, List.mem_cons, List.not_mem_nil, or_false] at hc
  rcases hc with rfl | rfl | rfl | rfl | rfl | rfl | rfl | rfl | rfl | rfl | rfl | rfl | rfl | rfl | rfl | rfl | rfl | rfl | rfl | rfl | rfl | rfl | rfl | rfl | rfl | rfl | rfl | rfl | rfl | rfl | rfl | rfl | rfl | rfl | rfl | rfl | rfl | rfl | rfl | rfl | rfl | rfl | rfl
  · exact w_c0
  · exact w_c1
  · exact w_c2
  · exact w_c3
  · exact w_c4
  · exact w_c5
  · exact w_c6
  · exact w_c7
  · exact w_c8
  · exact w_c9
  · exact w_c10
  · exact w_c11
  · exact w_c12
  · exact w_c13
  · exact w_c14
  · exact w_c15
  · exact w_c16
  · exact w_c17
  · exact w_c18
  · exact w_c19
  · exact w_c20
  · exact w_c21
  · exact w_c22
  · exact w_c23
  · exact w_c24
  · exact w_c25
  · exact w_c26
  · exact w_c27
  · exact w_c28
  · exact w_c29
  · exact w_c30
  · exact w_c31
  · exact w_c32
  · exact w_c33
  · exact w_c34
  · exact w_c35
  · exact w_c36
  · exact w_c37
  · exact w_c38
  · exact w_c39
  · exact w_c40
  · exact w_c41
  · exact w_c42
set_option maxRecDepth 65536 in
theorem w_t1 : (words1.take 24).all (fun c => isCode c || c.before args0 about1) = true := by decide +kernel
set_option maxRecDepth 65536 in
theorem w_t2 : ((words1.drop 24).take 24).all (fun c => isCode c || c.before args0 about1) = true := by decide +kernel
set_option maxRecDepth 65536 in
theorem w_t3 : (((words1.drop 24).drop 24).take 24).all (fun c => isCode c || c.before args0 about1) = true := by decide +kernel
set_option maxRecDepth 65536 in
theorem w_t4 : ((((words1.drop 24).drop 24).drop 24).take 24).all (fun c => isCode c || c.before args0 about1) = true := by decide +kernel
set_option maxRecDepth 65536 in
theorem w_t5 : (((((words1.drop 24).drop 24).drop 24).drop 24).take 24).all (fun c => isCode c || c.before args0 about1) = true := by decide +kernel
set_option maxRecDepth 65536 in
theorem w_t6 : ((((((words1.drop 24).drop 24).drop 24).drop 24).drop 24).take 24).all (fun c => isCode c || c.before args0 about1) = true := by decide +kernel
set_option maxRecDepth 65536 in
theorem w_t7 : (((((((words1.drop 24).drop 24).drop 24).drop 24).drop 24).drop 24).take 24).all (fun c => isCode c || c.before args0 about1) = true := by decide +kernel
set_option maxRecDepth 65536 in
theorem w_t8 : ((((((((words1.drop 24).drop 24).drop 24).drop 24).drop 24).drop 24).drop 24).take 24).all (fun c => isCode c || c.before args0 about1) = true := by decide +kernel
set_option maxRecDepth 65536 in
theorem w_t9 : (((((((((words1.drop 24).drop 24).drop 24).drop 24).drop 24).drop 24).drop 24).drop 24).take 24).all (fun c => isCode c || c.before args0 about1) = true := by decide +kernel
set_option maxRecDepth 65536 in
theorem w_t10 : ((((((((((words1.drop 24).drop 24).drop 24).drop 24).drop 24).drop 24).drop 24).drop 24).drop 24).take 24).all (fun c => isCode c || c.before args0 about1) = true := by decide +kernel
set_option maxRecDepth 65536 in
theorem w_t11 : (((((((((((words1.drop 24).drop 24).drop 24).drop 24).drop 24).drop 24).drop 24).drop 24).drop 24).drop 24).take 24).all (fun c => isCode c || c.before args0 about1) = true := by decide +kernel
set_option maxRecDepth 65536 in
theorem w_t12 : ((((((((((((words1.drop 24).drop 24).drop 24).drop 24).drop 24).drop 24).drop 24).drop 24).drop 24).drop 24).drop 24).take 24).all (fun c => isCode c || c.before args0 about1) = true := by decide +kernel
set_option maxRecDepth 65536 in
theorem w_t13 : (((((((((((((words1.drop 24).drop 24).drop 24).drop 24).drop 24).drop 24).drop 24).drop 24).drop 24).drop 24).drop 24).drop 24).take 24).all (fun c => isCode c || c.before args0 about1) = true := by decide +kernel
set_option maxRecDepth 65536 in
theorem w_t14 : (((((((((((((words1.drop 24).drop 24).drop 24).drop 24).drop 24).drop 24).drop 24).drop 24).drop 24).drop 24).drop 24).drop 24).drop 24).all (fun c => isCode c || c.before args0 about1) = true := by decide +kernel
theorem w_tables : (allAtoms (Jvm.Cond.code x code maxLocals ret :: tables_1)).before args0 about1 = true := by
  rw [allAtoms_all]
  show words1.all (fun c => c.before args0 about1) = true
  refine all_split ?_ w_codes
  rw [← List.take_append_drop 24 words1, List.all_append, w_t1, ← List.take_append_drop 24 (words1.drop 24), List.all_append, w_t2, ← List.take_append_drop 24 ((words1.drop 24).drop 24), List.all_append, w_t3, ← List.take_append_drop 24 (((words1.drop 24).drop 24).drop 24), List.all_append, w_t4, ← List.take_append_drop 24 ((((words1.drop 24).drop 24).drop 24).drop 24), List.all_append, w_t5, ← List.take_append_drop 24 (((((words1.drop 24).drop 24).drop 24).drop 24).drop 24), List.all_append, w_t6, ← List.take_append_drop 24 ((((((words1.drop 24).drop 24).drop 24).drop 24).drop 24).drop 24), List.all_append, w_t7, ← List.take_append_drop 24 (((((((words1.drop 24).drop 24).drop 24).drop 24).drop 24).drop 24).drop 24), List.all_append, w_t8, ← List.take_append_drop 24 ((((((((words1.drop 24).drop 24).drop 24).drop 24).drop 24).drop 24).drop 24).drop 24), List.all_append, w_t9, ← List.take_append_drop 24 (((((((((words1.drop 24).drop 24).drop 24).drop 24).drop 24).drop 24).drop 24).drop 24).drop 24), List.all_append, w_t10, ← List.take_append_drop 24 ((((((((((words1.drop 24).drop 24).drop 24).drop 24).drop 24).drop 24).drop 24).drop 24).drop 24).drop 24), List.all_append, w_t11, ← List.take_append_drop 24 (((((((((((words1.drop 24).drop 24).drop 24).drop 24).drop 24).drop 24).drop 24).drop 24).drop 24).drop 24).drop 24), List.all_append, w_t12, ← List.take_append_drop 24 ((((((((((((words1.drop 24).drop 24).drop 24).drop 24).drop 24).drop 24).drop 24).drop 24).drop 24).drop 24).drop 24).drop 24), List.all_append, w_t13, w_t14]
  rfl
set_option maxRecDepth 65536 in
theorem w_rest : rest_1_c.before args0 about1 = true := by decide +kernel
set_option maxRecDepth 65536 in
theorem w_case : (Jvm.Cond.and given_1 narrow_1).before args0 about1 = true := by decide +kernel
theorem w_applies : (headSpec (Jvm.Cond.code x code maxLocals ret :: tables_1) room_1).applies x e0.platform about1 = true :=
  (Spec.applies_iff w_frames).mpr ⟨w_running, w_runnable, w_alone, w_named, w_hears, w_ripe, w_room, w_tables⟩
theorem atStart : AtStart classFile x code maxLocals ret World_1 tables_1 room_1 Calls_1 rest_1 Pre_1 launch0 p0 e0 about1 theMethod args0 below0 :=
  ⟨lists_1, trivial, launch0.admits_env _ _ _, launch0.least_env, fairChoices_fair.cas, fairChoices_fair.clock, w_frames, w_args, w_heap, w_applies, trivial, w_rest, w_case⟩
end start1
theorem witness_1 : WitnessClaimed_1 := ⟨start1.p0, start1.e0, start1.about1, start1.theMethod, start1.args0, start1.below0, start1.atStart⟩
end Jvm.Pilot.@@N@@
