import JvmDerived
import JvmDerived.Pilot.@@N@@Statement
import JvmDerived.Pilot.@@N@@Code
set_option linter.unusedVariables false
set_option linter.unusedSimpArgs false
@@BLOCK:NumsL.lean.txt@@
namespace Jvm.Pilot.@@N@@
open Jvm Jvm.ClassFile Sem Op Lib Jvm.Free Jvm.Stand Jvm.LawKit Jvm.RoadKit Bundle Jvm.Pilot.@@N@@.Jvm.D
/-- what a body still owes at the state U: that it comes to a return with Q, within kc cells and ks slots -/
def Ow (p : Program) (e : Env) (below : List Frame) (s : State) (Q : Option Value → Heap → List Loc → Prop) (kc ks : Nat) (U : State) : Prop :=
  ∃ s₂ o, Steps p.tables e below U s₂ ∧ s₂.status = .running ∧ Ended s₂ below o ∧ ∃ v L, o = .returned v ∧ Q v s₂.heap L ∧ FrameEnd s o s₂ L kc ks
def lsr64 (x : Int64) (y : Int32) : Int64 := ((x.toUInt64 >>> (y &&& 0x3f).toInt64.toUInt64).toInt64)
def lsr32 (x y : Int32) : Int32 := ((x.toUInt32 >>> (y &&& 31).toUInt32).toInt32)
section W
variable {p : Program} {l : Launch} {e : Env} {R : Room} {s : State} {m : MethodId} {args : Array Value} {below : List Frame} {meth : Method} {c : Code} {T : State} {locs : List Loc} {cells slots : Nat} {Q : Option Value → Heap → List Loc → Prop} {kc ks : Nat} {pc pc' : Nat} {Ls Ls' : Array Slot} {st : List Value} {Z : State} {a0 : Array Value} {h : Heap}
theorem Ow.go {U U' : State} (k : Steps p.tables e below U U') (o : Ow p e below s Q kc ks U') : Ow p e below s Q kc ks U := by
  obtain ⟨s₂, o', h1, h2⟩ := o
  exact ⟨s₂, o', k.trans h1, h2⟩
theorem Ow.via {U U' : State} (k : ∀ t, Steps p.tables e below U' t → Steps p.tables e below U t) (o : Ow p e below s Q kc ks U') : Ow p e below s Q kc ks U := Ow.go (k _ (Steps.refl _)) o
theorem Ow.enter {n : Nat} (q : entryFrame m args n = mkF m 0 Ls []) (k : Ow p e below s Q kc ks (T.setTop (mkF m 0 Ls []))) :
    ∃ s₂ o, Steps p.tables e below (T.setTop (entryFrame m args n)) s₂ ∧ s₂.status = .running ∧ Ended s₂ below o ∧ ∃ v L, o = .returned v ∧ Q v s₂.heap L ∧ FrameEnd s o s₂ L kc ks := by
  rw [q]; exact k
theorem Ow.join {U : State} (T' : State) (g' : JFrame) (f : Ow p e below s Q kc ks (T'.setTop g') → Ow p e below s Q kc ks U) (k : Ow p e below s Q kc ks (T'.setTop g')) : Ow p e below s Q kc ks U := f k
theorem w_iloadN (X : Stand p l e R s m args below meth c T locs cells slots) (hx : p.tables.exec = Jvm.exec) {k : Fin 4} {v : Int32} (hd : decode c.code pc = .ok (.iload_n k, 1)) (hl : Ls[k.val]? = some (.val (.int v))) (hp : pc + 1 = pc') (k : Ow p e below s Q kc ks (T.setTop (mkF m pc' Ls (.int v :: st)))) : Ow p e below s Q kc ks (T.setTop (mkF m pc Ls st)) := by
  subst hp; exact Ow.go (XS.iloadN X.here hx rfl hd hl (Steps.refl _)) k
theorem w_iload (X : Stand p l e R s m args below meth c T locs cells slots) (hx : p.tables.exec = Jvm.exec) {k : Nat} {v : Int32} (hd : decode c.code pc = .ok (.iload k, 2)) (hl : Ls[k]? = some (.val (.int v))) (hp : pc + 2 = pc') (k : Ow p e below s Q kc ks (T.setTop (mkF m pc' Ls (.int v :: st)))) : Ow p e below s Q kc ks (T.setTop (mkF m pc Ls st)) := by
  subst hp; exact Ow.go (XS.iload X.here hx rfl hd hl (Steps.refl _)) k
theorem w_istoreN (X : Stand p l e R s m args below meth c T locs cells slots) (hx : p.tables.exec = Jvm.exec) {k : Fin 4} {v : Int32} (hd : decode c.code pc = .ok (.istore_n k, 1)) (Ls' : Array Slot) (hl : storeLocals Ls k.val (.int v) = some Ls') (hp : pc + 1 = pc') (k : Ow p e below s Q kc ks (T.setTop (mkF m pc' Ls' st))) : Ow p e below s Q kc ks (T.setTop (mkF m pc Ls (.int v :: st))) := by
  subst hp; exact Ow.go (XS.istoreN X.here hx rfl hd rfl hl (Steps.refl _)) k
theorem w_istore (X : Stand p l e R s m args below meth c T locs cells slots) (hx : p.tables.exec = Jvm.exec) {k : Nat} {v : Int32} (hd : decode c.code pc = .ok (.istore k, 2)) (Ls' : Array Slot) (hl : storeLocals Ls k (.int v) = some Ls') (hp : pc + 2 = pc') (k : Ow p e below s Q kc ks (T.setTop (mkF m pc' Ls' st))) : Ow p e below s Q kc ks (T.setTop (mkF m pc Ls (.int v :: st))) := by
  subst hp; exact Ow.go (XS.istore X.here hx rfl hd rfl hl (Steps.refl _)) k
theorem w_aloadN (X : Stand p l e R s m args below meth c T locs cells slots) (hx : p.tables.exec = Jvm.exec) {k : Fin 4} {v : Value} (hd : decode c.code pc = .ok (.aload_n k, 1)) (hl : Ls[k.val]? = some (.val v)) (hv : v.isRef = true) (hp : pc + 1 = pc') (k : Ow p e below s Q kc ks (T.setTop (mkF m pc' Ls (v :: st)))) : Ow p e below s Q kc ks (T.setTop (mkF m pc Ls st)) := by
  subst hp; exact Ow.go (XS.aloadN X.here hx rfl hd hl hv (Steps.refl _)) k
theorem w_aload (X : Stand p l e R s m args below meth c T locs cells slots) (hx : p.tables.exec = Jvm.exec) {k : Nat} {v : Value} (hd : decode c.code pc = .ok (.aload k, 2)) (hl : Ls[k]? = some (.val v)) (hv : v.isRef = true) (hp : pc + 2 = pc') (k : Ow p e below s Q kc ks (T.setTop (mkF m pc' Ls (v :: st)))) : Ow p e below s Q kc ks (T.setTop (mkF m pc Ls st)) := by
  subst hp; exact Ow.go (XS.aload X.here hx rfl hd hl hv (Steps.refl _)) k
theorem w_astore (X : Stand p l e R s m args below meth c T locs cells slots) (hx : p.tables.exec = Jvm.exec) {k : Nat} {v : Value} (hd : decode c.code pc = .ok (.astore k, 2)) (Ls' : Array Slot) (hl : storeLocals Ls k v = some Ls') (hv : v.isRef = true) (hp : pc + 2 = pc') (k : Ow p e below s Q kc ks (T.setTop (mkF m pc' Ls' st))) : Ow p e below s Q kc ks (T.setTop (mkF m pc Ls (v :: st))) := by
  subst hp; exact Ow.go (XS.astore X.here hx rfl hd rfl hv hl (Steps.refl _)) k
theorem w_iconst (X : Stand p l e R s m args below meth c T locs cells slots) (hx : p.tables.exec = Jvm.exec) {i : Int} (v : Int32) (hd : decode c.code pc = .ok (.iconst i, 1)) (hv : Int32.ofInt i = v) (hp : pc + 1 = pc') (k : Ow p e below s Q kc ks (T.setTop (mkF m pc' Ls (.int v :: st)))) : Ow p e below s Q kc ks (T.setTop (mkF m pc Ls st)) := by
  subst hp hv; exact Ow.go (XS.iconst X.here hx rfl hd (Steps.refl _)) k
theorem w_bipush (X : Stand p l e R s m args below meth c T locs cells slots) (hx : p.tables.exec = Jvm.exec) {i : Int} (v : Int32) (hd : decode c.code pc = .ok (.bipush i, 2)) (hv : (Int8.ofInt i).toInt32 = v) (hp : pc + 2 = pc') (k : Ow p e below s Q kc ks (T.setTop (mkF m pc' Ls (.int v :: st)))) : Ow p e below s Q kc ks (T.setTop (mkF m pc Ls st)) := by
  subst hp hv; exact Ow.go (XS.bipush X.here hx rfl hd (Steps.refl _)) k
theorem w_sipush (X : Stand p l e R s m args below meth c T locs cells slots) (hx : p.tables.exec = Jvm.exec) {i : Int} (v : Int32) (hd : decode c.code pc = .ok (.sipush i, 3)) (hv : (Int16.ofInt i).toInt32 = v) (hp : pc + 3 = pc') (k : Ow p e below s Q kc ks (T.setTop (mkF m pc' Ls (.int v :: st)))) : Ow p e below s Q kc ks (T.setTop (mkF m pc Ls st)) := by
  subst hp hv; exact Ow.go (XS.sipush X.here hx rfl hd (Steps.refl _)) k
theorem w_ldcI (X : Stand p l e R s m args below meth c T locs cells slots) (hx : p.tables.exec = Jvm.exec) (hZ : Z.Warmed39 s.vm) {own : String} {index : Nat} {v : Int32} (hown : s.vm.findClass own = some m.cls) (w : (Cond.constant own index v).before a0 Z = true) (hd : decode c.code pc = .ok (.ldc index, 2)) (hp : pc + 2 = pc') (k : Ow p e below s Q kc ks (T.setTop (mkF m pc' Ls (.int v :: st)))) : Ow p e below s Q kc ks (T.setTop (mkF m pc Ls st)) := by
  subst hp; exact Ow.via (X.ldcInt hx hown (mvT hZ w) (g := mkF m pc Ls st) rfl hd) k
theorem w_iadd (X : Stand p l e R s m args below meth c T locs cells slots) (hx : p.tables.exec = Jvm.exec) {x y : Int32} (hd : decode c.code pc = .ok (.iadd, 1))  (hp : pc + 1 = pc') (k : Ow p e below s Q kc ks (T.setTop (mkF m pc' Ls (.int (x + y) :: st)))) : Ow p e below s Q kc ks (T.setTop (mkF m pc Ls (.int y :: .int x :: st))) := by
  subst hp; exact Ow.go (XS.iadd X.here hx rfl hd rfl (Steps.refl _)) k
theorem w_isub (X : Stand p l e R s m args below meth c T locs cells slots) (hx : p.tables.exec = Jvm.exec) {x y : Int32} (hd : decode c.code pc = .ok (.isub, 1))  (hp : pc + 1 = pc') (k : Ow p e below s Q kc ks (T.setTop (mkF m pc' Ls (.int (x - y) :: st)))) : Ow p e below s Q kc ks (T.setTop (mkF m pc Ls (.int y :: .int x :: st))) := by
  subst hp; exact Ow.go (XS.isub X.here hx rfl hd rfl (Steps.refl _)) k
theorem w_iand (X : Stand p l e R s m args below meth c T locs cells slots) (hx : p.tables.exec = Jvm.exec) {x y : Int32} (hd : decode c.code pc = .ok (.iand, 1))  (hp : pc + 1 = pc') (k : Ow p e below s Q kc ks (T.setTop (mkF m pc' Ls (.int (x &&& y) :: st)))) : Ow p e below s Q kc ks (T.setTop (mkF m pc Ls (.int y :: .int x :: st))) := by
  subst hp; exact Ow.go (XS.iand X.here hx rfl hd rfl (Steps.refl _)) k
theorem w_irem (X : Stand p l e R s m args below meth c T locs cells slots) (hx : p.tables.exec = Jvm.exec) {x y : Int32} (hd : decode c.code pc = .ok (.irem, 1)) (hy : ¬ y = 0) (hp : pc + 1 = pc') (k : Ow p e below s Q kc ks (T.setTop (mkF m pc' Ls (.int (x % y) :: st)))) : Ow p e below s Q kc ks (T.setTop (mkF m pc Ls (.int y :: .int x :: st))) := by
  subst hp; exact Ow.go (iremM X hx (g := mkF m pc Ls (.int y :: .int x :: st)) rfl hd rfl hy (Steps.refl _)) k
theorem w_i2b (X : Stand p l e R s m args below meth c T locs cells slots) (hx : p.tables.exec = Jvm.exec) {x : Int32} (hd : decode c.code pc = .ok (.i2b, 1))  (hp : pc + 1 = pc') (k : Ow p e below s Q kc ks (T.setTop (mkF m pc' Ls (.int (x.toInt8.toInt32) :: st)))) : Ow p e below s Q kc ks (T.setTop (mkF m pc Ls (.int x :: st))) := by
  subst hp; exact Ow.go (XS.i2b X.here hx rfl hd rfl (Steps.refl _)) k
theorem w_iinc (X : Stand p l e R s m args below meth c T locs cells slots) (hx : p.tables.exec = Jvm.exec) {k : Nat} {i : Int} {x : Int32} (hd : decode c.code pc = .ok (.iinc k i, 3)) (hl : Ls[k]? = some (.val (.int x))) (Ls' : Array Slot) (hl' : storeLocals Ls k (.int (x + Int32.ofInt i)) = some Ls') (hp : pc + 3 = pc') (k : Ow p e below s Q kc ks (T.setTop (mkF m pc' Ls' st))) : Ow p e below s Q kc ks (T.setTop (mkF m pc Ls st)) := by
  subst hp; exact Ow.go (XS.iinc X.here hx rfl hd hl hl' (Steps.refl _)) k
theorem w_dup (X : Stand p l e R s m args below meth c T locs cells slots) (hx : p.tables.exec = Jvm.exec) {x : Value} (hd : decode c.code pc = .ok (.dup, 1)) (hc : x.category = 1) (hp : pc + 1 = pc') (k : Ow p e below s Q kc ks (T.setTop (mkF m pc' Ls (x :: x :: st)))) : Ow p e below s Q kc ks (T.setTop (mkF m pc Ls (x :: st))) := by
  subst hp; exact Ow.go (XS.dup X.here hx rfl hd rfl hc (Steps.refl _)) k
theorem w_goto (X : Stand p l e R s m args below meth c T locs cells slots) (hx : p.tables.exec = Jvm.exec) {o : Int} (hd : decode c.code pc = .ok (.goto o, 3)) (ho : 0 ≤ (pc : Int) + o) (hp : ((pc : Int) + o).toNat = pc') (k : Ow p e below s Q kc ks (T.setTop (mkF m pc' Ls st))) : Ow p e below s Q kc ks (T.setTop (mkF m pc Ls st)) := by
  exact Ow.go (XS.goto X.here hx rfl (pc0 := pc) rfl hd ho hp (Steps.refl _)) k
theorem w_icmp_eq (X : Stand p l e R s m args below meth c T locs cells slots) (hx : p.tables.exec = Jvm.exec) {x y : Int32} {o : Int} {pcT pcF : Nat} (hd : decode c.code pc = .ok (.if_icmp .eq o, 3)) (ho : 0 ≤ (pc : Int) + o) (ht : ((pc : Int) + o).toNat = pcT) (hp : pc + 3 = pcF) (k1 : x = y → Ow p e below s Q kc ks (T.setTop (mkF m pcT Ls st))) (k2 : ¬ (x = y) → Ow p e below s Q kc ks (T.setTop (mkF m pcF Ls st))) : Ow p e below s Q kc ks (T.setTop (mkF m pc Ls (.int y :: .int x :: st))) := by
  subst hp
  by_cases q : x = y
  · exact Ow.go (XS.icmpYes X.here hx rfl (pc0 := pc) rfl hd rfl (teq q).1 ho ht (Steps.refl _)) (k1 q)
  · exact Ow.go (XS.icmpNo X.here hx rfl hd rfl (feq q).1 (Steps.refl _)) (k2 q)
theorem w_if_eq (X : Stand p l e R s m args below meth c T locs cells slots) (hx : p.tables.exec = Jvm.exec) {x : Int32} {o : Int} {pcT pcF : Nat} (hd : decode c.code pc = .ok (.ifCond .eq o, 3)) (ho : 0 ≤ (pc : Int) + o) (ht : ((pc : Int) + o).toNat = pcT) (hp : pc + 3 = pcF) (k1 : x = (0 : Int32) → Ow p e below s Q kc ks (T.setTop (mkF m pcT Ls st))) (k2 : ¬ (x = (0 : Int32)) → Ow p e below s Q kc ks (T.setTop (mkF m pcF Ls st))) : Ow p e below s Q kc ks (T.setTop (mkF m pc Ls (.int x :: st))) := by
  subst hp
  by_cases q : x = (0 : Int32)
  · exact Ow.go (XS.ifYes X.here hx rfl (pc0 := pc) rfl hd rfl ((if0 _ _).trans (teq q).1) ho ht (Steps.refl _)) (k1 q)
  · exact Ow.go (XS.ifNo X.here hx rfl hd rfl ((if0 _ _).trans (feq q).1) (Steps.refl _)) (k2 q)
theorem w_icmp_ne (X : Stand p l e R s m args below meth c T locs cells slots) (hx : p.tables.exec = Jvm.exec) {x y : Int32} {o : Int} {pcT pcF : Nat} (hd : decode c.code pc = .ok (.if_icmp .ne o, 3)) (ho : 0 ≤ (pc : Int) + o) (ht : ((pc : Int) + o).toNat = pcT) (hp : pc + 3 = pcF) (k1 : ¬ (x = y) → Ow p e below s Q kc ks (T.setTop (mkF m pcT Ls st))) (k2 : x = y → Ow p e below s Q kc ks (T.setTop (mkF m pcF Ls st))) : Ow p e below s Q kc ks (T.setTop (mkF m pc Ls (.int y :: .int x :: st))) := by
  subst hp
  by_cases q : x = y
  · exact Ow.go (XS.icmpNo X.here hx rfl hd rfl (teq q).2 (Steps.refl _)) (k2 q)
  · exact Ow.go (XS.icmpYes X.here hx rfl (pc0 := pc) rfl hd rfl (feq q).2 ho ht (Steps.refl _)) (k1 q)
theorem w_icmp_lt (X : Stand p l e R s m args below meth c T locs cells slots) (hx : p.tables.exec = Jvm.exec) {x y : Int32} {o : Int} {pcT pcF : Nat} (hd : decode c.code pc = .ok (.if_icmp .lt o, 3)) (ho : 0 ≤ (pc : Int) + o) (ht : ((pc : Int) + o).toNat = pcT) (hp : pc + 3 = pcF) (k1 : x < y → Ow p e below s Q kc ks (T.setTop (mkF m pcT Ls st))) (k2 : ¬ (x < y) → Ow p e below s Q kc ks (T.setTop (mkF m pcF Ls st))) : Ow p e below s Q kc ks (T.setTop (mkF m pc Ls (.int y :: .int x :: st))) := by
  subst hp
  by_cases q : x < y
  · exact Ow.go (XS.icmpYes X.here hx rfl (pc0 := pc) rfl hd rfl (tlt q).1 ho ht (Steps.refl _)) (k1 q)
  · exact Ow.go (XS.icmpNo X.here hx rfl hd rfl (flt q).1 (Steps.refl _)) (k2 q)
theorem w_if_lt (X : Stand p l e R s m args below meth c T locs cells slots) (hx : p.tables.exec = Jvm.exec) {x : Int32} {o : Int} {pcT pcF : Nat} (hd : decode c.code pc = .ok (.ifCond .lt o, 3)) (ho : 0 ≤ (pc : Int) + o) (ht : ((pc : Int) + o).toNat = pcT) (hp : pc + 3 = pcF) (k1 : x < (0 : Int32) → Ow p e below s Q kc ks (T.setTop (mkF m pcT Ls st))) (k2 : ¬ (x < (0 : Int32)) → Ow p e below s Q kc ks (T.setTop (mkF m pcF Ls st))) : Ow p e below s Q kc ks (T.setTop (mkF m pc Ls (.int x :: st))) := by
  subst hp
  by_cases q : x < (0 : Int32)
  · exact Ow.go (XS.ifYes X.here hx rfl (pc0 := pc) rfl hd rfl ((if0 _ _).trans (tlt q).1) ho ht (Steps.refl _)) (k1 q)
  · exact Ow.go (XS.ifNo X.here hx rfl hd rfl ((if0 _ _).trans (flt q).1) (Steps.refl _)) (k2 q)
theorem w_icmp_ge (X : Stand p l e R s m args below meth c T locs cells slots) (hx : p.tables.exec = Jvm.exec) {x y : Int32} {o : Int} {pcT pcF : Nat} (hd : decode c.code pc = .ok (.if_icmp .ge o, 3)) (ho : 0 ≤ (pc : Int) + o) (ht : ((pc : Int) + o).toNat = pcT) (hp : pc + 3 = pcF) (k1 : ¬ (x < y) → Ow p e below s Q kc ks (T.setTop (mkF m pcT Ls st))) (k2 : x < y → Ow p e below s Q kc ks (T.setTop (mkF m pcF Ls st))) : Ow p e below s Q kc ks (T.setTop (mkF m pc Ls (.int y :: .int x :: st))) := by
  subst hp
  by_cases q : x < y
  · exact Ow.go (XS.icmpNo X.here hx rfl hd rfl (tlt q).2.1 (Steps.refl _)) (k2 q)
  · exact Ow.go (XS.icmpYes X.here hx rfl (pc0 := pc) rfl hd rfl (flt q).2.1 ho ht (Steps.refl _)) (k1 q)
theorem w_zreturn (X : Stand p l e R s m args below meth c T locs cells slots) (hx : p.tables.exec = Jvm.exec) {z : Int32} (hret : meth.sig.returnType = some .boolean) (hz : z = 0 ∨ z = 1) (hlk : meth.locks = false) (hc : cells ≤ kc) (hs : slots ≤ ks) (hd : decode c.code pc = .ok (.ireturn, 1)) (hq : Q (some (.int z)) T.heap locs) : Ow p e below s Q kc ks (T.setTop (mkF m pc Ls (.int z :: st))) := by
  obtain ⟨fs, hr, hrun, hended, hW, hsame⟩ := X.leave (v := some (.int z)) (fun h => by rw [hret] at h; cases h) hlk
  exact ⟨_, _, retOut X hx (t := .boolean) hret (by rcases hz with rfl | rfl <;> rfl) (Or.inl ⟨rfl, Or.inr (Or.inl rfl), _, rfl⟩) hd hr, hrun, hended, _, _, rfl, hq, ⟨_, rfl⟩, hW, hsame.mono hc hs⟩
theorem w_callS (X : Stand p l e R s m args below meth c T locs cells slots) (hx : p.tables.exec = Jvm.exec) (hZ : Z.Warmed39 s.vm) {own : String} {index : Nat} {y : MethodName} {bytes : ByteArray} {maxL : Nat} {ret : Option FieldType} (hown : s.vm.findClass own = some m.cls) (w1 : (Cond.methodLink own index y).before a0 Z = true) (w2 : (Cond.static y).before a0 Z = true) (w3 : (Cond.initialized y.cls).before a0 Z = true) (w4 : (Cond.code y bytes maxL ret).before a0 Z = true) (hy : y.cls ≠ "java/lang/invoke/MethodHandle" ∧ y.cls ≠ "java/lang/invoke/VarHandle") {rm : Room} {as' : Array Value} {Qf : Option Value → Heap → List Loc → Prop} {W : Nat} (hM : MetFree l y (head1 [Cond.code y bytes maxL ret] rm) (fun a U => a = as' ∧ Z.Warmed39 U.vm ∧ U.heap = h) (fun _ _ _ _ _ => True) (fun _ U o U' => ∃ v L, o = .returned v ∧ Qf v U'.heap L ∧ FrameEnd U o U' L rm.cells rm.slots)) (eT : T.heap = h) (hf : rm.frames + 1 ≤ R.frames) (hlo : W + (maxL + 11) + rm.locals ≤ R.locals) (hc : cells + rm.cells ≤ R.cells) (hs : slots + rm.slots ≤ R.slots) (hd : decode c.code pc = .ok (.invokestatic index, 3)) (hsz : Ls.size = c.maxLocals) {argsL rest : List Value} {ps : List FieldType} {r : Option FieldType} (pd : parseMethodDescriptor y.desc = some ⟨ps, r⟩) (hlen : argsL.length = ps.length) (hst : st = argsL.reverse ++ rest) (has : argsL.toArray = as') (hW : (rest.map fun v => v.category).sum ≤ W) (hp : pc + 3 = pc') (k : ∀ v T' L, Stand p l e R s m args below meth c T' (locs ++ L) (cells + rm.cells) (slots + rm.slots) → Qf v T'.heap L → Ow p e below s Q kc ks (T'.setTop (mkF m pc' Ls (v.toList ++ rest)))) : Ow p e below s Q kc ks (T.setTop (mkF m pc Ls st)) := by
  subst hp
  obtain ⟨v, vm₁, ⟨T', L', k', n'⟩, -, X', ⟨L, hq, l1, y1, z1⟩, st'⟩ := Jvm.LawKit.callS X hx hown (mvT hZ w1) (mvT hZ w2) (mvT hZ w3) (mvT hZ w4) hy (backOf (W := W) hM hZ w4 w3 hf hlo) (g := mkF m pc Ls st) rfl hsz (argsL := argsL) (rest := rest) (lenOf pd hlen) hst (by show 2 * 0 + _ ≤ _; omega) hd (fun _ _ => ⟨has, eT, hc, hs⟩)
  dsimp only [Pt.U, Pt.locs, Pt.cells, Pt.slots] at X' l1 y1 z1 st' hq
  subst l1 y1 z1
  exact Ow.via st' (k v T' L X' hq)
theorem w_newarray (X : Stand p l e R s m args below meth c T locs cells slots) (hx : p.tables.exec = Jvm.exec) (hZ : Z.Warmed39 s.vm) {aty : ArrayType} (w : (Cond.arrayClass (newarray.typeOf aty)).before a0 Z = true) (eT : T.heap = h) {n : Int32} (hd : decode c.code pc = .ok (.newarray aty, 2)) (hn : ¬ n < 0) {cap : Nat} (hcap : n.toNatClampNeg ≤ cap) (hb : cap * 8 ≤ 536870912) (hc : cells + 1 ≤ R.cells) (hl : slots + cap ≤ R.slots) {ad : String} (had : "[" ++ (newarray.typeOf aty).toString = ad) (hp : pc + 2 = pc') (k : ∀ T' h' a cA, a = h.size → Stand p l e R s m args below meth c T' locs (cells + 1) (slots + cap) → T'.heap = h' → Ext h h' → Arr Z h' a (newA cA (newarray.typeOf aty) n) (newarray.typeOf aty) → Exa Z h' a ad → Ow p e below s Q kc ks (T'.setTop (mkF m pc' Ls (.ref a :: st)))) : Ow p e below s Q kc ks (T.setTop (mkF m pc Ls (.int n :: st))) := by
  subst hp
  obtain ⟨T', h', cA, X', e', E', A', B', st'⟩ := newPE X hx hZ w eT (g := mkF m pc Ls (.int n :: st)) rfl hd rfl hn hcap hb hc hl had
  exact Ow.via st' (k T' h' _ cA rfl X' e' E' A' B')
theorem w_iastore (X : Stand p l e R s m args below meth c T locs cells slots) (hx : p.tables.exec = Jvm.exec) (hZ : Z.Warmed39 s.vm) (eT : T.heap = h) {a : Addr} {cl : Cell} (A : Arr Z h a cl .int) {j x : Int32} (hj : ¬ (j < 0 ∨ cl.slots.size ≤ j.toNatClampNeg)) (hd : decode c.code pc = .ok (.iastore, 1)) (hp : pc + 1 = pc') (k : ∀ T' h', Stand p l e R s m args below meth c T' (locs ++ [⟨a, j.toNatClampNeg⟩]) cells slots → T'.heap = h' → Wr h h' a j.toNatClampNeg (.int x) → Ow p e below s Q kc ks (T'.setTop (mkF m pc' Ls st))) : Ow p e below s Q kc ks (T.setTop (mkF m pc Ls (.int x :: .int j :: .ref a :: st))) := by
  subst hp
  obtain ⟨T', h', X', e', W', st'⟩ := stI X hx hZ eT A hj (g := mkF m pc Ls (.int x :: .int j :: .ref a :: st)) rfl rfl hd
  exact Ow.via st' (k T' h' X' e' W')
theorem w_bastore (X : Stand p l e R s m args below meth c T locs cells slots) (hx : p.tables.exec = Jvm.exec) (hZ : Z.Warmed39 s.vm) (eT : T.heap = h) {a : Addr} {cl : Cell} (A : Arr Z h a cl .byte) {j x : Int32} (hj : ¬ (j < 0 ∨ cl.slots.size ≤ j.toNatClampNeg)) (hd : decode c.code pc = .ok (.bastore, 1)) (hp : pc + 1 = pc') (k : ∀ T' h', Stand p l e R s m args below meth c T' (locs ++ [⟨a, j.toNatClampNeg⟩]) cells slots → T'.heap = h' → Wr h h' a j.toNatClampNeg (.int (nar .byte x)) → Ow p e below s Q kc ks (T'.setTop (mkF m pc' Ls st))) : Ow p e below s Q kc ks (T.setTop (mkF m pc Ls (.int x :: .int j :: .ref a :: st))) := by
  subst hp
  obtain ⟨T', h', X', e', W', st'⟩ := stB X hx hZ eT A hj (g := mkF m pc Ls (.int x :: .int j :: .ref a :: st)) rfl rfl hd
  exact Ow.via st' (k T' h' X' e' W')
theorem w_iaload (X : Stand p l e R s m args below meth c T locs cells slots) (hx : p.tables.exec = Jvm.exec) (hZ : Z.Warmed39 s.vm) (eT : T.heap = h) {a : Addr} {cl : Cell} (A : Arr Z h a cl .int) {j x : Int32} (hj : ¬ (j < 0 ∨ cl.slots.size ≤ j.toNatClampNeg)) (hv : cl.slots[j.toNatClampNeg]? = some (.int x)) (hd : decode c.code pc = .ok (.iaload, 1)) (hp : pc + 1 = pc') (k : Ow p e below s Q kc ks (T.setTop (mkF m pc' Ls (.int x :: st)))) : Ow p e below s Q kc ks (T.setTop (mkF m pc Ls (.int j :: .ref a :: st))) := by
  subst hp
  exact Ow.via (X.iaload hx (j := j) (v := .int x) (by rw [eT]; exact A.1) (State.isArrayOf_alike hZ.alike A.2.1) A.2.2 hj hv (g := mkF m pc Ls (.int j :: .ref a :: st)) rfl rfl hd) k
theorem w_baload (X : Stand p l e R s m args below meth c T locs cells slots) (hx : p.tables.exec = Jvm.exec) (hZ : Z.Warmed39 s.vm) (eT : T.heap = h) {a : Addr} {cl : Cell} (A : Arr Z h a cl .byte) {j x : Int32} (hj : ¬ (j < 0 ∨ cl.slots.size ≤ j.toNatClampNeg)) (hv : cl.slots[j.toNatClampNeg]? = some (.int x)) (hd : decode c.code pc = .ok (.baload, 1)) (hp : pc + 1 = pc') (k : Ow p e below s Q kc ks (T.setTop (mkF m pc' Ls (.int x :: st)))) : Ow p e below s Q kc ks (T.setTop (mkF m pc Ls (.int j :: .ref a :: st))) := by
  subst hp
  exact Ow.via (X.baloadBytes hx (j := j) (v := .int x) (by rw [eT]; exact A.1) (State.isArrayOf_alike hZ.alike A.2.1) A.2.2 hj hv (g := mkF m pc Ls (.int j :: .ref a :: st)) rfl rfl hd) k
theorem w_arraylength (X : Stand p l e R s m args below meth c T locs cells slots) (hx : p.tables.exec = Jvm.exec) (hZ : Z.Warmed39 s.vm) (eT : T.heap = h) {a : Addr} {cl : Cell} {ty : FieldType} (A : Arr Z h a cl ty) {n : Int32} (hn : cl.slots.size.toInt32 = n) (hd : decode c.code pc = .ok (.arraylength, 1)) (hp : pc + 1 = pc') (k : Ow p e below s Q kc ks (T.setTop (mkF m pc' Ls (.int n :: st)))) : Ow p e below s Q kc ks (T.setTop (mkF m pc Ls (.ref a :: st))) := by
  subst hp hn
  exact Ow.via (X.arraylength hx (by rw [eT]; exact A.1) (State.isArrayOf_alike hZ.alike A.2.1) (g := mkF m pc Ls (.ref a :: st)) rfl rfl hd) k
end W
section IA
/-- an array of ints or of bytes: its length, and what lies at each place -/
def IAr (Z : State) (h : Heap) (a : Addr) (ty : FieldType) (n : Nat) (f : Nat → Int32) : Prop := ∃ cl : Cell, Arr Z h a cl ty ∧ cl.slots.size = n ∧ n < 2 ^ 31 ∧ ∀ i, i < n → cl.slots[i]? = some (.int (f i))
variable {Z : State} {h h' : Heap} {a b : Addr} {ty : FieldType} {n i sl : Nat} {f f' : Nat → Int32} {x : Int32} {v : Value} {ws : List Addr}
theorem own_clamp {j : Int32} {i : Nat} (hj : j.toInt = (i : Int)) : j.toNatClampNeg = i := by
  show j.toInt.toNat = i
  rw [hj]; exact Int.toNat_natCast i
theorem own_zero : (0 : Int32).toInt = 0 := by decide
theorem own_inb {j : Int32} {cl : Cell} (hj : j.toInt = (i : Int)) (hs : cl.slots.size = n) (hi : i < n) : ¬ (j < 0 ∨ cl.slots.size ≤ j.toNatClampNeg) := by
  rw [own_clamp hj, hs]
  rintro (q | q)
  · rw [Int32.lt_iff_toInt_lt, hj, own_zero] at q; omega
  · omega
theorem IAr.lt (A : IAr Z h a ty n f) : a < h.size := by obtain ⟨cl, A, -⟩ := A; exact A.lt
theorem IAr.ext (A : IAr Z h a ty n f) (E : Ext h h') : IAr Z h' a ty n f := by obtain ⟨cl, A, r⟩ := A; exact ⟨cl, A.ext E, r⟩
theorem IAr.keep (A : IAr Z h a ty n f) (K : Keep h h' ws) (q : a ∉ ws) : IAr Z h' a ty n f := by obtain ⟨cl, A, r⟩ := A; exact ⟨cl, ⟨K.2.1 a cl A.1 q, A.2⟩, r⟩
theorem IAr.other (A : IAr Z h b ty n f) (W : Wr h h' a sl v) (q : b ≠ a) : IAr Z h' b ty n f := by obtain ⟨cl, A, r⟩ := A; exact ⟨cl, A.other W q, r⟩
theorem IAr.congr (A : IAr Z h a ty n f) (q : ∀ i, i < n → f i = f' i) : IAr Z h a ty n f' := by obtain ⟨cl, A, r1, r2, r3⟩ := A; exact ⟨cl, A, r1, r2, fun i hi => by rw [← q i hi]; exact r3 i hi⟩
theorem own_slot_hit {cl : Cell} {k : Nat} {v : Value} (hk : k < cl.slots.size) : (cl.setSlot k v).slots[k]? = some v := by
  show (cl.slots.setIfInBounds k v)[k]? = some v
  rw [Array.getElem?_setIfInBounds_self_of_lt hk]
theorem own_slot_miss {cl : Cell} {k i : Nat} {v : Value} (q : i ≠ k) : (cl.setSlot i v).slots[k]? = cl.slots[k]? := by
  show (cl.slots.setIfInBounds i v)[k]? = cl.slots[k]?
  rw [Array.getElem?_setIfInBounds_ne q]
theorem IAr.set (A : IAr Z h a ty n f) (W : Wr h h' a i (.int x)) (hi : i < n) : IAr Z h' a ty n (upd f i x) := by
  obtain ⟨cl, A, hs, hn, H⟩ := A
  refine ⟨_, A.same W, by rw [sz_set]; exact hs, hn, fun k hk => ?_⟩
  by_cases q : k = i
  · subst q; rw [own_slot_hit (by omega)]; show _ = some (Value.int (if k = k then x else f k)); rw [if_pos rfl]
  · rw [own_slot_miss (fun z => q z.symm), H k hk]; show _ = some (Value.int (if k = i then x else f k)); rw [if_neg q]
theorem IAr.new {cA : ClassId} {z : Int32} (A : Arr Z h a (newA cA ty z) ty) (hd : defaultValue ty = .int 0) (hz : z.toInt = (n : Int)) : IAr Z h a ty n (fun _ => 0) := by
  have hn : n < 2 ^ 31 := by have := Int32.toInt_lt z; omega
  refine ⟨_, A, by rw [sz_new, own_clamp hz], hn, fun i hi => ?_⟩
  show (Array.replicate z.toNatClampNeg (defaultValue ty))[i]? = _
  rw [own_clamp hz, hd, Array.getElem?_replicate, if_pos hi]
theorem IAr.len (A : IAr Z h a ty n f) : n < 2 ^ 31 := by obtain ⟨cl, -, -, hn, -⟩ := A; exact hn
end IA
section WA
variable {p : Program} {l : Launch} {e : Env} {R : Room} {s : State} {m : MethodId} {args : Array Value} {below : List Frame} {meth : Method} {c : Code} {T : State} {locs : List Loc} {cells slots : Nat} {Q : Option Value → Heap → List Loc → Prop} {kc ks : Nat} {pc pc' : Nat} {Ls Ls' : Array Slot} {st : List Value} {Z : State} {a0 : Array Value} {h : Heap} {a : Addr} {n i : Nat} {f : Nat → Int32} {j x : Int32}
theorem w_ialoadA (X : Stand p l e R s m args below meth c T locs cells slots) (hx : p.tables.exec = Jvm.exec) (hZ : Z.Warmed39 s.vm) (eT : T.heap = h) (A : IAr Z h a .int n f) (i : Nat) (hj : j.toInt = (i : Int)) (hi : i < n) (hd : decode c.code pc = .ok (.iaload, 1)) (hp : pc + 1 = pc') (k : Ow p e below s Q kc ks (T.setTop (mkF m pc' Ls (.int (f i) :: st)))) : Ow p e below s Q kc ks (T.setTop (mkF m pc Ls (.int j :: .ref a :: st))) := by
  obtain ⟨cl, A, hs, hn, H⟩ := A
  exact w_iaload X hx hZ eT A (own_inb hj hs hi) (by rw [own_clamp hj]; exact H i hi) hd hp k
theorem w_baloadA (X : Stand p l e R s m args below meth c T locs cells slots) (hx : p.tables.exec = Jvm.exec) (hZ : Z.Warmed39 s.vm) (eT : T.heap = h) (A : IAr Z h a .byte n f) (i : Nat) (hj : j.toInt = (i : Int)) (hi : i < n) (hd : decode c.code pc = .ok (.baload, 1)) (hp : pc + 1 = pc') (k : Ow p e below s Q kc ks (T.setTop (mkF m pc' Ls (.int (f i) :: st)))) : Ow p e below s Q kc ks (T.setTop (mkF m pc Ls (.int j :: .ref a :: st))) := by
  obtain ⟨cl, A, hs, hn, H⟩ := A
  exact w_baload X hx hZ eT A (own_inb hj hs hi) (by rw [own_clamp hj]; exact H i hi) hd hp k
theorem w_iastoreA (X : Stand p l e R s m args below meth c T locs cells slots) (hx : p.tables.exec = Jvm.exec) (hZ : Z.Warmed39 s.vm) (eT : T.heap = h) (A : IAr Z h a .int n f) (i : Nat) (hj : j.toInt = (i : Int)) (hi : i < n) (hd : decode c.code pc = .ok (.iastore, 1)) (hp : pc + 1 = pc') (k : ∀ T' h', Stand p l e R s m args below meth c T' (locs ++ [⟨a, i⟩]) cells slots → T'.heap = h' → Wr h h' a i (.int x) → IAr Z h' a .int n (upd f i x) → Ow p e below s Q kc ks (T'.setTop (mkF m pc' Ls st))) : Ow p e below s Q kc ks (T.setTop (mkF m pc Ls (.int x :: .int j :: .ref a :: st))) := by
  have A0 := A
  obtain ⟨cl, A, hs, hn, H⟩ := A
  refine w_iastore X hx hZ eT A (own_inb hj hs hi) hd hp ?_
  intro T' h' X' e' W'
  rw [own_clamp hj] at X' W'
  exact k T' h' X' e' W' (A0.set W' hi)
theorem w_bastoreA (X : Stand p l e R s m args below meth c T locs cells slots) (hx : p.tables.exec = Jvm.exec) (hZ : Z.Warmed39 s.vm) (eT : T.heap = h) (A : IAr Z h a .byte n f) (i : Nat) (hj : j.toInt = (i : Int)) (hi : i < n) (hd : decode c.code pc = .ok (.bastore, 1)) (hp : pc + 1 = pc') (k : ∀ T' h', Stand p l e R s m args below meth c T' (locs ++ [⟨a, i⟩]) cells slots → T'.heap = h' → Wr h h' a i (.int (nar .byte x)) → IAr Z h' a .byte n (upd f i (nar .byte x)) → Ow p e below s Q kc ks (T'.setTop (mkF m pc' Ls st))) : Ow p e below s Q kc ks (T.setTop (mkF m pc Ls (.int x :: .int j :: .ref a :: st))) := by
  have A0 := A
  obtain ⟨cl, A, hs, hn, H⟩ := A
  refine w_bastore X hx hZ eT A (own_inb hj hs hi) hd hp ?_
  intro T' h' X' e' W'
  rw [own_clamp hj] at X' W'
  exact k T' h' X' e' W' (A0.set W' hi)
theorem w_lengthA (X : Stand p l e R s m args below meth c T locs cells slots) (hx : p.tables.exec = Jvm.exec) (hZ : Z.Warmed39 s.vm) (eT : T.heap = h) {ty : FieldType} (A : IAr Z h a ty n f) (z : Int32) (hz : z.toInt = (n : Int)) (hd : decode c.code pc = .ok (.arraylength, 1)) (hp : pc + 1 = pc') (k : Ow p e below s Q kc ks (T.setTop (mkF m pc' Ls (.int z :: st)))) : Ow p e below s Q kc ks (T.setTop (mkF m pc Ls (.ref a :: st))) := by
  obtain ⟨cl, A, hs, hn, H⟩ := A
  refine w_arraylength X hx hZ eT A ?_ hd hp k
  rw [hs]; exact Int32.toInt_inj.mp ((len_toInt hn).trans hz.symm)
end WA
theorem d1_0 : decode method_3_code 0 = .ok (.iload_n 1, 1) := by decide +kernel
theorem d1_1 : decode method_3_code 1 = .ok (.iload_n 2, 1) := by decide +kernel
theorem d1_2 : decode method_3_code 2 = .ok (.if_icmp .lt 10, 3) := by decide +kernel
theorem d1_12 : decode method_3_code 12 = .ok (.iconst 1, 1) := by decide +kernel
theorem d1_13 : decode method_3_code 13 = .ok (.ireturn, 1) := by decide +kernel
theorem d1_5 : decode method_3_code 5 = .ok (.iload_n 1, 1) := by decide +kernel
theorem d1_6 : decode method_3_code 6 = .ok (.iload_n 2, 1) := by decide +kernel
theorem d1_7 : decode method_3_code 7 = .ok (.iload_n 3, 1) := by decide +kernel
theorem d1_8 : decode method_3_code 8 = .ok (.iadd, 1) := by decide +kernel
theorem d1_9 : decode method_3_code 9 = .ok (.if_icmp .lt 5, 3) := by decide +kernel
theorem d1_14 : decode method_3_code 14 = .ok (.iload_n 0, 1) := by decide +kernel
theorem d1_15 : decode method_3_code 15 = .ok (.sipush 255, 3) := by decide +kernel
theorem d1_18 : decode method_3_code 18 = .ok (.iand, 1) := by decide +kernel
theorem d1_19 : decode method_3_code 19 = .ok (.istore 4, 2) := by decide +kernel
theorem d1_21 : decode method_3_code 21 = .ok (.iload 4, 2) := by decide +kernel
theorem d1_23 : decode method_3_code 23 = .ok (.bipush 32, 2) := by decide +kernel
theorem d1_25 : decode method_3_code 25 = .ok (.if_icmp .ge 5, 3) := by decide +kernel
theorem d1_30 : decode method_3_code 30 = .ok (.iload 4, 2) := by decide +kernel
theorem d1_32 : decode method_3_code 32 = .ok (.bipush 34, 2) := by decide +kernel
theorem d1_34 : decode method_3_code 34 = .ok (.if_icmp .eq 10, 3) := by decide +kernel
theorem d1_44 : decode method_3_code 44 = .ok (.iconst 0, 1) := by decide +kernel
theorem d1_45 : decode method_3_code 45 = .ok (.ireturn, 1) := by decide +kernel
theorem d1_37 : decode method_3_code 37 = .ok (.iload 4, 2) := by decide +kernel
theorem d1_39 : decode method_3_code 39 = .ok (.bipush 92, 2) := by decide +kernel
theorem d1_41 : decode method_3_code 41 = .ok (.if_icmp .ne 5, 3) := by decide +kernel
theorem d1_46 : decode method_3_code 46 = .ok (.iconst 1, 1) := by decide +kernel
theorem d1_47 : decode method_3_code 47 = .ok (.ireturn, 1) := by decide +kernel
theorem d1_28 : decode method_3_code 28 = .ok (.iconst 0, 1) := by decide +kernel
theorem d1_29 : decode method_3_code 29 = .ok (.ireturn, 1) := by decide +kernel
theorem ef_1 (m : MethodId) (p0 : Int32) (p1 : Int32) (p2 : Int32) (p3 : Int32) : entryFrame m #[(.int p0), (.int p1), (.int p2), (.int p3)] 5 = mkF m 0 #[.val (.int p0), .val (.int p1), .val (.int p2), .val (.int p3), .unset] [] := by first | (simp [entryFrame, mkF, argsToLocals, Value.category]; done) | rfl
theorem pn_0 : plainName "com/example/metadata_for_discovery/metadatafordiscovery/search/IdentifiersIsPlainPinLaw" = true := by first | (simp [plainName, overriddenIn]; done) | decide +kernel
theorem d2_0 : decode prog_49_method_2_code 0 = .ok (.iconst 1, 1) := by decide +kernel
theorem d2_1 : decode prog_49_method_2_code 1 = .ok (.istore_n 3, 1) := by decide +kernel
theorem d2_2 : decode prog_49_method_2_code 2 = .ok (.iload_n 1, 1) := by decide +kernel
theorem d2_3 : decode prog_49_method_2_code 3 = .ok (.istore 4, 2) := by decide +kernel
theorem d2_63 : decode prog_49_method_2_code 63 = .ok (.iload_n 3, 1) := by decide +kernel
theorem d2_64 : decode prog_49_method_2_code 64 = .ok (.ireturn, 1) := by decide +kernel
theorem d2_5 : decode prog_49_method_2_code 5 = .ok (.iload 4, 2) := by decide +kernel
theorem d2_7 : decode prog_49_method_2_code 7 = .ok (.iload_n 1, 1) := by decide +kernel
theorem d2_8 : decode prog_49_method_2_code 8 = .ok (.iload_n 2, 1) := by decide +kernel
theorem d2_9 : decode prog_49_method_2_code 9 = .ok (.iadd, 1) := by decide +kernel
theorem d2_10 : decode prog_49_method_2_code 10 = .ok (.if_icmp .ge 53, 3) := by decide +kernel
theorem d2_13 : decode prog_49_method_2_code 13 = .ok (.iload_n 3, 1) := by decide +kernel
theorem d2_14 : decode prog_49_method_2_code 14 = .ok (.ifCond .eq 49, 3) := by decide +kernel
theorem d2_17 : decode prog_49_method_2_code 17 = .ok (.aload_n 0, 1) := by decide +kernel
theorem d2_18 : decode prog_49_method_2_code 18 = .ok (.iload 4, 2) := by decide +kernel
theorem d2_20 : decode prog_49_method_2_code 20 = .ok (.baload, 1) := by decide +kernel
theorem d2_21 : decode prog_49_method_2_code 21 = .ok (.bipush 34, 2) := by decide +kernel
theorem d2_23 : decode prog_49_method_2_code 23 = .ok (.if_icmp .eq 32, 3) := by decide +kernel
theorem d2_55 : decode prog_49_method_2_code 55 = .ok (.iconst 0, 1) := by decide +kernel
theorem d2_56 : decode prog_49_method_2_code 56 = .ok (.istore_n 3, 1) := by decide +kernel
theorem d2_57 : decode prog_49_method_2_code 57 = .ok (.iinc 4 1, 3) := by decide +kernel
theorem d2_60 : decode prog_49_method_2_code 60 = .ok (.goto (-55), 3) := by decide +kernel
theorem d2_26 : decode prog_49_method_2_code 26 = .ok (.aload_n 0, 1) := by decide +kernel
theorem d2_27 : decode prog_49_method_2_code 27 = .ok (.iload 4, 2) := by decide +kernel
theorem d2_29 : decode prog_49_method_2_code 29 = .ok (.baload, 1) := by decide +kernel
theorem d2_30 : decode prog_49_method_2_code 30 = .ok (.bipush 92, 2) := by decide +kernel
theorem d2_32 : decode prog_49_method_2_code 32 = .ok (.if_icmp .eq 23, 3) := by decide +kernel
theorem d2_35 : decode prog_49_method_2_code 35 = .ok (.aload_n 0, 1) := by decide +kernel
theorem d2_36 : decode prog_49_method_2_code 36 = .ok (.iload 4, 2) := by decide +kernel
theorem d2_38 : decode prog_49_method_2_code 38 = .ok (.baload, 1) := by decide +kernel
theorem d2_39 : decode prog_49_method_2_code 39 = .ok (.ifCond .lt 12, 3) := by decide +kernel
theorem d2_51 : decode prog_49_method_2_code 51 = .ok (.iconst 1, 1) := by decide +kernel
theorem d2_52 : decode prog_49_method_2_code 52 = .ok (.goto 4, 3) := by decide +kernel
theorem d2_42 : decode prog_49_method_2_code 42 = .ok (.aload_n 0, 1) := by decide +kernel
theorem d2_43 : decode prog_49_method_2_code 43 = .ok (.iload 4, 2) := by decide +kernel
theorem d2_45 : decode prog_49_method_2_code 45 = .ok (.baload, 1) := by decide +kernel
theorem d2_46 : decode prog_49_method_2_code 46 = .ok (.bipush 32, 2) := by decide +kernel
theorem d2_48 : decode prog_49_method_2_code 48 = .ok (.if_icmp .lt 7, 3) := by decide +kernel
theorem ef_2 (m : MethodId) (a0 : Addr) (p1 : Int32) (p2 : Int32) : entryFrame m #[(.ref a0), (.int p1), (.int p2)] 5 = mkF m 0 #[.val (.ref a0), .val (.int p1), .val (.int p2), .unset, .unset] [] := by first | (simp [entryFrame, mkF, argsToLocals, Value.category]; done) | rfl
theorem pn_1 : plainName "com/example/metadata_for_discovery/metadatafordiscovery/search/Identifiers" = true := by first | (simp [plainName, overriddenIn]; done) | decide +kernel
/-- IdentifiersIsPlainPinLaw.fine -/
def fine (p0 : Int32) (p1 : Int32) (p2 : Int32) (p3 : Int32) : Int32 := (if p1 < p2 then (1 : Int32) else (if p1 < (p2 + p3) then (if (p0 &&& (255 : Int32)) < (32 : Int32) then (0 : Int32) else (if (p0 &&& (255 : Int32)) = (34 : Int32) then (0 : Int32) else (if (p0 &&& (255 : Int32)) = (92 : Int32) then (0 : Int32) else (1 : Int32)))) else (1 : Int32)))
def Q1 (p0 : Int32) (p1 : Int32) (p2 : Int32) (p3 : Int32) (h0 : Heap) (v : Option Value) (h : Heap) (L : List Loc) : Prop := v = some (.int (fine p0 p1 p2 p3)) ∧ h = h0 ∧ L = []
set_option maxRecDepth 65536 in
set_option maxHeartbeats 40000000 in
theorem rm1 (l : Launch) (Z : State) (aw : Array Value) (hw : ∀ d ∈ tables_1, d.before aw Z = true) (ws : List Jvm.Cond) (p0 : Int32) (p1 : Int32) (p2 : Int32) (p3 : Int32) (h0 : Heap) :
    MetFree l (⟨"com/example/metadata_for_discovery/metadatafordiscovery/search/IdentifiersIsPlainPinLaw", "fine", "(BIII)Z"⟩ : MethodName) (head1 (Jvm.Cond.code (⟨"com/example/metadata_for_discovery/metadatafordiscovery/search/IdentifiersIsPlainPinLaw", "fine", "(BIII)Z"⟩ : MethodName) method_3_code 5 (some .boolean) :: ws) ({ frames := 0, cells := 0, slots := 0, locals := 0 } : Room)) (fun a U => a = #[(.int p0), (.int p1), (.int p2), (.int p3)] ∧ Z.Warmed39 U.vm ∧ U.heap = h0) (fun _ _ _ _ _ => True) (fun _ U o U' => ∃ v L, o = .returned v ∧ Q1 p0 p1 p2 p3 h0 v U'.heap L ∧ FrameEnd U o U' L ({ frames := 0, cells := 0, slots := 0, locals := 0 } : Room).cells ({ frames := 0, cells := 0, slots := 0, locals := 0 } : Room).slots) := by
  refine MetFree.of_bodySF (plainFor_of_name pn_0) hisR ?_
  intro p e s m args below meth c s₁ Bd hml0 hP _hKK
  obtain ⟨rfl, hZ, hh⟩ := hP
  have hx := Bd.exec
  have hby := Bd.bytes
  have hml : c.maxLocals = 5 := hml0
  have hown : s.vm.findClass "com/example/metadata_for_discovery/metadatafordiscovery/search/IdentifiersIsPlainPinLaw" = some m.cls := findClass_of_methodNamed Bd.named
  have hnm := (name_of_methodNamed Bd.named Bd.method).1
  have X0 : Stand p l e ({ frames := 0, cells := 0, slots := 0, locals := 0 } : Room) s m #[(.int p0), (.int p1), (.int p2), (.int p3)] below meth c s₁ [] 0 0 := Stand.of_body Bd
  have e0 : s₁.heap = h0 := by rw [← hh, Bd.state]; rfl
  refine Ow.enter (Q := Q1 p0 p1 p2 p3 h0) (ef_1 m p0 p1 p2 p3) ?_
  show Ow p e below s _ _ _ (s₁.setTop (mkF m 0 #[.val (.int p0), .val (.int p1), .val (.int p2), .val (.int p3), .unset] []))
  refine w_iloadN X0 hx (hb hby d1_0) rfl (pc' := 1) rfl ?_
  refine w_iloadN X0 hx (hb hby d1_1) rfl (pc' := 2) rfl ?_
  refine w_icmp_lt X0 hx (hb hby d1_2) (by decide) (pcT := 12) (by decide) (pcF := 5) rfl (fun hc2_0 => ?_) (fun hc2_0 => ?_)
  · refine w_iconst X0 hx (1 : Int32) (hb hby d1_12) (by decide) (pc' := 13) rfl ?_
    exact w_zreturn X0 hx Bd.returns (Or.inr rfl) (BodyLoose.notSynchronized Bd) (Nat.le_of_ble_eq_true rfl) (Nat.le_of_ble_eq_true rfl) (hb hby d1_13) ⟨congrArg (fun z => some (Value.int z)) (show (1 : Int32) = fine p0 p1 p2 p3 from by unfold fine; rw [if_pos hc2_0]), e0, rfl⟩
  · refine w_iloadN X0 hx (hb hby d1_5) rfl (pc' := 6) rfl ?_
    refine w_iloadN X0 hx (hb hby d1_6) rfl (pc' := 7) rfl ?_
    refine w_iloadN X0 hx (hb hby d1_7) rfl (pc' := 8) rfl ?_
    refine w_iadd X0 hx (hb hby d1_8) (pc' := 9) rfl ?_
    refine w_icmp_lt X0 hx (hb hby d1_9) (by decide) (pcT := 14) (by decide) (pcF := 12) rfl (fun hc9_1 => ?_) (fun hc9_1 => ?_)
    · refine w_iloadN X0 hx (hb hby d1_14) rfl (pc' := 15) rfl ?_
      refine w_sipush X0 hx (255 : Int32) (hb hby d1_15) (by decide) (pc' := 18) rfl ?_
      refine w_iand X0 hx (hb hby d1_18) (pc' := 19) rfl ?_
      refine w_istore X0 hx (hb hby d1_19) #[.val (.int p0), .val (.int p1), .val (.int p2), .val (.int p3), .val (.int (p0 &&& (255 : Int32)))] rfl  (pc' := 21) rfl ?_
      refine w_iload X0 hx (hb hby d1_21) rfl (pc' := 23) rfl ?_
      refine w_bipush X0 hx (32 : Int32) (hb hby d1_23) (by decide) (pc' := 25) rfl ?_
      refine w_icmp_ge X0 hx (hb hby d1_25) (by decide) (pcT := 30) (by decide) (pcF := 28) rfl (fun hc25_2 => ?_) (fun hc25_2 => ?_)
      · refine w_iload X0 hx (hb hby d1_30) rfl (pc' := 32) rfl ?_
        refine w_bipush X0 hx (34 : Int32) (hb hby d1_32) (by decide) (pc' := 34) rfl ?_
        refine w_icmp_eq X0 hx (hb hby d1_34) (by decide) (pcT := 44) (by decide) (pcF := 37) rfl (fun hc34_3 => ?_) (fun hc34_3 => ?_)
        · refine w_iconst X0 hx (0 : Int32) (hb hby d1_44) (by decide) (pc' := 45) rfl ?_
          exact w_zreturn X0 hx Bd.returns (Or.inl rfl) (BodyLoose.notSynchronized Bd) (Nat.le_of_ble_eq_true rfl) (Nat.le_of_ble_eq_true rfl) (hb hby d1_45) ⟨congrArg (fun z => some (Value.int z)) (show (0 : Int32) = fine p0 p1 p2 p3 from by unfold fine; rw [if_neg hc2_0, if_pos hc9_1, if_neg hc25_2, if_pos hc34_3]), e0, rfl⟩
        · refine w_iload X0 hx (hb hby d1_37) rfl (pc' := 39) rfl ?_
          refine w_bipush X0 hx (92 : Int32) (hb hby d1_39) (by decide) (pc' := 41) rfl ?_
          refine w_icmp_ne X0 hx (hb hby d1_41) (by decide) (pcT := 46) (by decide) (pcF := 44) rfl (fun hc41_4 => ?_) (fun hc41_4 => ?_)
          · refine w_iconst X0 hx (1 : Int32) (hb hby d1_46) (by decide) (pc' := 47) rfl ?_
            exact w_zreturn X0 hx Bd.returns (Or.inr rfl) (BodyLoose.notSynchronized Bd) (Nat.le_of_ble_eq_true rfl) (Nat.le_of_ble_eq_true rfl) (hb hby d1_47) ⟨congrArg (fun z => some (Value.int z)) (show (1 : Int32) = fine p0 p1 p2 p3 from by unfold fine; rw [if_neg hc2_0, if_pos hc9_1, if_neg hc25_2, if_neg hc34_3, if_neg hc41_4]), e0, rfl⟩
          · refine w_iconst X0 hx (0 : Int32) (hb hby d1_44) (by decide) (pc' := 45) rfl ?_
            exact w_zreturn X0 hx Bd.returns (Or.inl rfl) (BodyLoose.notSynchronized Bd) (Nat.le_of_ble_eq_true rfl) (Nat.le_of_ble_eq_true rfl) (hb hby d1_45) ⟨congrArg (fun z => some (Value.int z)) (show (0 : Int32) = fine p0 p1 p2 p3 from by unfold fine; rw [if_neg hc2_0, if_pos hc9_1, if_neg hc25_2, if_neg hc34_3, if_pos hc41_4]), e0, rfl⟩
      · refine w_iconst X0 hx (0 : Int32) (hb hby d1_28) (by decide) (pc' := 29) rfl ?_
        exact w_zreturn X0 hx Bd.returns (Or.inl rfl) (BodyLoose.notSynchronized Bd) (Nat.le_of_ble_eq_true rfl) (Nat.le_of_ble_eq_true rfl) (hb hby d1_29) ⟨congrArg (fun z => some (Value.int z)) (show (0 : Int32) = fine p0 p1 p2 p3 from by unfold fine; rw [if_neg hc2_0, if_pos hc9_1, if_pos hc25_2]), e0, rfl⟩
    · refine w_iconst X0 hx (1 : Int32) (hb hby d1_12) (by decide) (pc' := 13) rfl ?_
      exact w_zreturn X0 hx Bd.returns (Or.inr rfl) (BodyLoose.notSynchronized Bd) (Nat.le_of_ble_eq_true rfl) (Nat.le_of_ble_eq_true rfl) (hb hby d1_13) ⟨congrArg (fun z => some (Value.int z)) (show (1 : Int32) = fine p0 p1 p2 p3 from by unfold fine; rw [if_neg hc2_0, if_neg hc9_1]), e0, rfl⟩
def okB (b : Int32) : Int32 := if b = (34 : Int32) then (0 : Int32) else (if b = (92 : Int32) then (0 : Int32) else (if b < (0 : Int32) then (1 : Int32) else (if b < (32 : Int32) then (0 : Int32) else (1 : Int32))))
def plF (f : Nat → Int32) : Nat → Nat → Int32
  | _, 0 => 1
  | i, k + 1 => if okB (f i) = 1 then plF f (i + 1) k else 0
def Q2 (f : Nat → Int32) (sN lN : Nat) (h0 : Heap) (v : Option Value) (h : Heap) (L : List Loc) : Prop := v = some (.int (plF f sN lN)) ∧ h = h0 ∧ L = []
set_option maxRecDepth 65536 in
set_option maxHeartbeats 40000000 in
theorem rm2 (l : Launch) (Z : State) (aw : Array Value) (hw : ∀ d ∈ tables_1, d.before aw Z = true) (ws : List Jvm.Cond) (a0 : Addr) (p1 : Int32) (p2 : Int32) (n : Nat) (f : Nat → Int32) (sN lN : Nat) (h0 : Heap) (A : IAr Z h0 a0 .byte n f) (hs : p1.toInt = (sN : Int)) (hl : p2.toInt = (lN : Int)) (hle : sN + lN ≤ n) (hn : n ≤ 1000) :
    MetFree l (⟨"com/example/metadata_for_discovery/metadatafordiscovery/search/Identifiers", "isPlain", "([BII)Z"⟩ : MethodName) (head1 (Jvm.Cond.code (⟨"com/example/metadata_for_discovery/metadatafordiscovery/search/Identifiers", "isPlain", "([BII)Z"⟩ : MethodName) prog_49_method_2_code 5 (some .boolean) :: ws) ({ frames := 0, cells := 0, slots := 0, locals := 0 } : Room)) (fun a U => a = #[(.ref a0), (.int p1), (.int p2)] ∧ Z.Warmed39 U.vm ∧ U.heap = h0) (fun _ _ _ _ _ => True) (fun _ U o U' => ∃ v L, o = .returned v ∧ Q2 f sN lN h0 v U'.heap L ∧ FrameEnd U o U' L ({ frames := 0, cells := 0, slots := 0, locals := 0 } : Room).cells ({ frames := 0, cells := 0, slots := 0, locals := 0 } : Room).slots) := by
  refine MetFree.of_bodySF (plainFor_of_name pn_1) hisR ?_
  intro p e s m args below meth c s₁ Bd hml0 hP _hKK
  obtain ⟨rfl, hZ, hh⟩ := hP
  have hx := Bd.exec
  have hby := Bd.bytes
  have hml : c.maxLocals = 5 := hml0
  have hown : s.vm.findClass "com/example/metadata_for_discovery/metadatafordiscovery/search/Identifiers" = some m.cls := findClass_of_methodNamed Bd.named
  have hnm := (name_of_methodNamed Bd.named Bd.method).1
  have X0 : Stand p l e ({ frames := 0, cells := 0, slots := 0, locals := 0 } : Room) s m #[(.ref a0), (.int p1), (.int p2)] below meth c s₁ [] 0 0 := Stand.of_body Bd
  have e0 : s₁.heap = h0 := by rw [← hh, Bd.state]; rfl
  refine Ow.enter (Q := Q2 f sN lN h0) (ef_2 m a0 p1 p2) ?_
  show Ow p e below s _ _ _ (s₁.setTop (mkF m 0 #[.val (.ref a0), .val (.int p1), .val (.int p2), .unset, .unset] []))
  refine w_iconst X0 hx (1 : Int32) (hb hby d2_0) (by decide) (pc' := 1) rfl ?_
  refine w_istoreN X0 hx (hb hby d2_1) #[.val (.ref a0), .val (.int p1), .val (.int p2), .val (.int (1 : Int32)), .unset] rfl  (pc' := 2) rfl ?_
  refine w_iloadN X0 hx (hb hby d2_2) rfl (pc' := 3) rfl ?_
  refine w_istore X0 hx (hb hby d2_3) #[.val (.ref a0), .val (.int p1), .val (.int p2), .val (.int (1 : Int32)), .val (.int p1)] rfl  (pc' := 5) rfl ?_
  have hend : (p1 + p2).toInt = ((sN + lN : Nat) : Int) := by rw [Kit.i32_add (by omega) (by omega)]; omega
  have fin0 : ∀ (z : Int32) (V : Int32), V = 0 → plF f sN lN = 0 → Ow p e below s (Q2 f sN lN h0) 0 0 (s₁.setTop (mkF m 63 #[.val (.ref a0), .val (.int p1), .val (.int p2), .val (.int V), .val (.int z)] [])) := by
    intro z V hV hz
    subst hV
    refine w_iloadN X0 hx (hb hby d2_63) rfl (pc' := 64) rfl ?_
    exact w_zreturn X0 hx Bd.returns (Or.inl rfl) (BodyLoose.notSynchronized Bd) (Nat.le_of_ble_eq_true rfl) (Nat.le_of_ble_eq_true rfl) (hb hby d2_64) ⟨congrArg (fun z => some (Value.int z)) hz.symm, e0, rfl⟩
  have loop : ∀ (k i : Nat) (z : Int32), z.toInt = (i : Int) → i + k = sN + lN → plF f sN lN = plF f i k → Ow p e below s (Q2 f sN lN h0) 0 0 (s₁.setTop (mkF m 5 #[.val (.ref a0), .val (.int p1), .val (.int p2), .val (.int (1 : Int32)), .val (.int z)] [])) := by
    intro k
    induction k with
    | zero =>
      intro i z hi hk hpl
      refine w_iload X0 hx (hb hby d2_5) rfl (pc' := 7) rfl ?_
      refine w_iloadN X0 hx (hb hby d2_7) rfl (pc' := 8) rfl ?_
      refine w_iloadN X0 hx (hb hby d2_8) rfl (pc' := 9) rfl ?_
      refine w_iadd X0 hx (hb hby d2_9) (pc' := 10) rfl ?_
      refine w_icmp_ge X0 hx (hb hby d2_10) (by decide) (pcT := 63) (by decide) (pcF := 13) rfl (fun _ => ?_) (fun q => absurd q (show ¬ z < p1 + p2 from by rw [Int32.lt_iff_toInt_lt, hend, hi]; omega))
      refine w_iloadN X0 hx (hb hby d2_63) rfl (pc' := 64) rfl ?_
      exact w_zreturn X0 hx Bd.returns (Or.inr rfl) (BodyLoose.notSynchronized Bd) (Nat.le_of_ble_eq_true rfl) (Nat.le_of_ble_eq_true rfl) (hb hby d2_64) ⟨congrArg (fun z => some (Value.int z)) (show (1 : Int32) = plF f sN lN from by rw [hpl]; rfl), e0, rfl⟩
    | succ k ih =>
      intro i z hi hk hpl
      refine w_iload X0 hx (hb hby d2_5) rfl (pc' := 7) rfl ?_
      refine w_iloadN X0 hx (hb hby d2_7) rfl (pc' := 8) rfl ?_
      refine w_iloadN X0 hx (hb hby d2_8) rfl (pc' := 9) rfl ?_
      refine w_iadd X0 hx (hb hby d2_9) (pc' := 10) rfl ?_
      refine w_icmp_ge X0 hx (hb hby d2_10) (by decide) (pcT := 63) (by decide) (pcF := 13) rfl (fun q => absurd (show z < p1 + p2 from by rw [Int32.lt_iff_toInt_lt, hend, hi]; omega) q) (fun _ => ?_)
      refine w_iloadN X0 hx (hb hby d2_13) rfl (pc' := 14) rfl ?_
      refine w_if_eq X0 hx (hb hby d2_14) (by decide) (pcT := 63) (by decide) (pcF := 17) rfl (fun q => absurd q (show ¬ (1 : Int32) = (0 : Int32) from by decide)) (fun _ => ?_)
      have hz1 : (z + (1 : Int32)).toInt = ((i + 1 : Nat) : Int) := by rw [Kit.i32_add (by rw [hi]; exact Int.le_trans (by decide) (Int.ofNat_nonneg _)) (by have := A.len; rw [hi, show (1 : Int32).toInt = 1 from by decide]; omega), hi, show (1 : Int32).toInt = 1 from by decide]; omega
      refine w_aloadN X0 hx (hb hby d2_17) rfl rfl (pc' := 18) rfl ?_
      refine w_iload X0 hx (hb hby d2_18) rfl (pc' := 20) rfl ?_
      refine w_baloadA X0 hx hZ e0 A i hi (by omega) (hb hby d2_20) (pc' := 21) rfl ?_
      refine w_bipush X0 hx (34 : Int32) (hb hby d2_21) (by decide) (pc' := 23) rfl ?_
      refine w_icmp_eq X0 hx (hb hby d2_23) (by decide) (pcT := 55) (by decide) (pcF := 26) rfl (fun b1 => ?_) (fun b1 => ?_)
      · refine w_iconst X0 hx (0 : Int32) (hb hby d2_55) (by decide) (pc' := 56) rfl ?_
        refine w_istoreN X0 hx (hb hby d2_56) #[.val (.ref a0), .val (.int p1), .val (.int p2), .val (.int (0 : Int32)), .val (.int z)] rfl  (pc' := 57) rfl ?_
        refine w_iinc X0 hx (hb hby d2_57) rfl #[.val (.ref a0), .val (.int p1), .val (.int p2), .val (.int (0 : Int32)), .val (.int (z + (1 : Int32)))] rfl (pc' := 60) rfl ?_
        refine w_goto X0 hx (hb hby d2_60) (by decide) (pc' := 5) (by decide) ?_
        have hz0 : plF f sN lN = 0 := by rw [hpl]; show (if okB (f i) = 1 then _ else _) = _; rw [if_neg (by unfold okB; rw [if_pos b1]; decide)]
        refine w_iload X0 hx (hb hby d2_5) rfl (pc' := 7) rfl ?_
        refine w_iloadN X0 hx (hb hby d2_7) rfl (pc' := 8) rfl ?_
        refine w_iloadN X0 hx (hb hby d2_8) rfl (pc' := 9) rfl ?_
        refine w_iadd X0 hx (hb hby d2_9) (pc' := 10) rfl ?_
        refine w_icmp_ge X0 hx (hb hby d2_10) (by decide) (pcT := 63) (by decide) (pcF := 13) rfl (fun hlt => ?_) (fun hlt => ?_)
        · exact fin0 _ _ rfl hz0
        · refine w_iloadN X0 hx (hb hby d2_13) rfl (pc' := 14) rfl ?_
          refine w_if_eq X0 hx (hb hby d2_14) (by decide) (pcT := 63) (by decide) (pcF := 17) rfl (fun _ => ?_) (fun q => absurd (rfl : (0 : Int32) = 0) q)
          exact fin0 _ _ rfl hz0
      · refine w_aloadN X0 hx (hb hby d2_26) rfl rfl (pc' := 27) rfl ?_
        refine w_iload X0 hx (hb hby d2_27) rfl (pc' := 29) rfl ?_
        refine w_baloadA X0 hx hZ e0 A i hi (by omega) (hb hby d2_29) (pc' := 30) rfl ?_
        refine w_bipush X0 hx (92 : Int32) (hb hby d2_30) (by decide) (pc' := 32) rfl ?_
        refine w_icmp_eq X0 hx (hb hby d2_32) (by decide) (pcT := 55) (by decide) (pcF := 35) rfl (fun b2 => ?_) (fun b2 => ?_)
        · refine w_iconst X0 hx (0 : Int32) (hb hby d2_55) (by decide) (pc' := 56) rfl ?_
          refine w_istoreN X0 hx (hb hby d2_56) #[.val (.ref a0), .val (.int p1), .val (.int p2), .val (.int (0 : Int32)), .val (.int z)] rfl  (pc' := 57) rfl ?_
          refine w_iinc X0 hx (hb hby d2_57) rfl #[.val (.ref a0), .val (.int p1), .val (.int p2), .val (.int (0 : Int32)), .val (.int (z + (1 : Int32)))] rfl (pc' := 60) rfl ?_
          refine w_goto X0 hx (hb hby d2_60) (by decide) (pc' := 5) (by decide) ?_
          have hz0 : plF f sN lN = 0 := by rw [hpl]; show (if okB (f i) = 1 then _ else _) = _; rw [if_neg (by unfold okB; rw [if_neg b1, if_pos b2]; decide)]
          refine w_iload X0 hx (hb hby d2_5) rfl (pc' := 7) rfl ?_
          refine w_iloadN X0 hx (hb hby d2_7) rfl (pc' := 8) rfl ?_
          refine w_iloadN X0 hx (hb hby d2_8) rfl (pc' := 9) rfl ?_
          refine w_iadd X0 hx (hb hby d2_9) (pc' := 10) rfl ?_
          refine w_icmp_ge X0 hx (hb hby d2_10) (by decide) (pcT := 63) (by decide) (pcF := 13) rfl (fun hlt => ?_) (fun hlt => ?_)
          · exact fin0 _ _ rfl hz0
          · refine w_iloadN X0 hx (hb hby d2_13) rfl (pc' := 14) rfl ?_
            refine w_if_eq X0 hx (hb hby d2_14) (by decide) (pcT := 63) (by decide) (pcF := 17) rfl (fun _ => ?_) (fun q => absurd (rfl : (0 : Int32) = 0) q)
            exact fin0 _ _ rfl hz0
        · refine w_aloadN X0 hx (hb hby d2_35) rfl rfl (pc' := 36) rfl ?_
          refine w_iload X0 hx (hb hby d2_36) rfl (pc' := 38) rfl ?_
          refine w_baloadA X0 hx hZ e0 A i hi (by omega) (hb hby d2_38) (pc' := 39) rfl ?_
          refine w_if_lt X0 hx (hb hby d2_39) (by decide) (pcT := 51) (by decide) (pcF := 42) rfl (fun b3 => ?_) (fun b3 => ?_)
          · refine w_iconst X0 hx (1 : Int32) (hb hby d2_51) (by decide) (pc' := 52) rfl ?_
            refine w_goto X0 hx (hb hby d2_52) (by decide) (pc' := 56) (by decide) ?_
            refine w_istoreN X0 hx (hb hby d2_56) #[.val (.ref a0), .val (.int p1), .val (.int p2), .val (.int (1 : Int32)), .val (.int z)] rfl  (pc' := 57) rfl ?_
            refine w_iinc X0 hx (hb hby d2_57) rfl #[.val (.ref a0), .val (.int p1), .val (.int p2), .val (.int (1 : Int32)), .val (.int (z + (1 : Int32)))] rfl (pc' := 60) rfl ?_
            refine w_goto X0 hx (hb hby d2_60) (by decide) (pc' := 5) (by decide) ?_
            exact ih (i + 1) _ hz1 (by omega) (by rw [hpl]; show (if okB (f i) = 1 then _ else _) = _; rw [if_pos (by unfold okB; rw [if_neg b1, if_neg b2, if_pos b3])])
          · refine w_aloadN X0 hx (hb hby d2_42) rfl rfl (pc' := 43) rfl ?_
            refine w_iload X0 hx (hb hby d2_43) rfl (pc' := 45) rfl ?_
            refine w_baloadA X0 hx hZ e0 A i hi (by omega) (hb hby d2_45) (pc' := 46) rfl ?_
            refine w_bipush X0 hx (32 : Int32) (hb hby d2_46) (by decide) (pc' := 48) rfl ?_
            refine w_icmp_lt X0 hx (hb hby d2_48) (by decide) (pcT := 55) (by decide) (pcF := 51) rfl (fun b4 => ?_) (fun b4 => ?_)
            · refine w_iconst X0 hx (0 : Int32) (hb hby d2_55) (by decide) (pc' := 56) rfl ?_
              refine w_istoreN X0 hx (hb hby d2_56) #[.val (.ref a0), .val (.int p1), .val (.int p2), .val (.int (0 : Int32)), .val (.int z)] rfl  (pc' := 57) rfl ?_
              refine w_iinc X0 hx (hb hby d2_57) rfl #[.val (.ref a0), .val (.int p1), .val (.int p2), .val (.int (0 : Int32)), .val (.int (z + (1 : Int32)))] rfl (pc' := 60) rfl ?_
              refine w_goto X0 hx (hb hby d2_60) (by decide) (pc' := 5) (by decide) ?_
              have hz0 : plF f sN lN = 0 := by rw [hpl]; show (if okB (f i) = 1 then _ else _) = _; rw [if_neg (by unfold okB; rw [if_neg b1, if_neg b2, if_neg b3, if_pos b4]; decide)]
              refine w_iload X0 hx (hb hby d2_5) rfl (pc' := 7) rfl ?_
              refine w_iloadN X0 hx (hb hby d2_7) rfl (pc' := 8) rfl ?_
              refine w_iloadN X0 hx (hb hby d2_8) rfl (pc' := 9) rfl ?_
              refine w_iadd X0 hx (hb hby d2_9) (pc' := 10) rfl ?_
              refine w_icmp_ge X0 hx (hb hby d2_10) (by decide) (pcT := 63) (by decide) (pcF := 13) rfl (fun hlt => ?_) (fun hlt => ?_)
              · exact fin0 _ _ rfl hz0
              · refine w_iloadN X0 hx (hb hby d2_13) rfl (pc' := 14) rfl ?_
                refine w_if_eq X0 hx (hb hby d2_14) (by decide) (pcT := 63) (by decide) (pcF := 17) rfl (fun _ => ?_) (fun q => absurd (rfl : (0 : Int32) = 0) q)
                exact fin0 _ _ rfl hz0
            · refine w_iconst X0 hx (1 : Int32) (hb hby d2_51) (by decide) (pc' := 52) rfl ?_
              refine w_goto X0 hx (hb hby d2_52) (by decide) (pc' := 56) (by decide) ?_
              refine w_istoreN X0 hx (hb hby d2_56) #[.val (.ref a0), .val (.int p1), .val (.int p2), .val (.int (1 : Int32)), .val (.int z)] rfl  (pc' := 57) rfl ?_
              refine w_iinc X0 hx (hb hby d2_57) rfl #[.val (.ref a0), .val (.int p1), .val (.int p2), .val (.int (1 : Int32)), .val (.int (z + (1 : Int32)))] rfl (pc' := 60) rfl ?_
              refine w_goto X0 hx (hb hby d2_60) (by decide) (pc' := 5) (by decide) ?_
              exact ih (i + 1) _ hz1 (by omega) (by rw [hpl]; show (if okB (f i) = 1 then _ else _) = _; rw [if_pos (by unfold okB; rw [if_neg b1, if_neg b2, if_neg b3, if_neg b4])])
  exact loop lN sN p1 hs rfl rfl
def nb (x : Int32) : Int32 := nar .byte (x.toInt8.toInt32)
theorem own_nb (x : Int32) : -128 ≤ (nb x).toInt ∧ (nb x).toInt < 128 := by
  have h1 := Int8.toInt_lt (x.toInt8.toInt32).toInt8
  have h2 := Int8.le_toInt (x.toInt8.toInt32).toInt8
  have e : (nb x).toInt = ((x.toInt8.toInt32).toInt8).toInt := Int8.toInt_toInt32 _
  rw [e]; omega
theorem own_m3 (x : Int32) : (x &&& (3 : Int32)).toInt = x.toInt % 4 := Kit.i32_mask x 3 (k := 2) (by decide) (by decide)
theorem own_5 (x : Int32) : ((5 : Int32) - (x &&& (3 : Int32))).toInt = 5 - x.toInt % 4 := by
  have h := own_m3 x
  have k : (5 : Int32).toInt = 5 := by decide
  rw [Kit.i32_sub (by omega) (by omega), h, k]
theorem own_nz (x : Int32) : ¬ ((5 : Int32) - (x &&& (3 : Int32))) = 0 := fun q => by
  have h := own_5 x
  rw [q, own_zero] at h; omega
theorem own_range (p4 p5 : Int32) : ∃ sN lN : Nat, (p4 &&& (3 : Int32)).toInt = (sN : Int) ∧ ((p5 &&& (2147483647 : Int32)) % ((5 : Int32) - (p4 &&& (3 : Int32)))).toInt = (lN : Int) ∧ sN + lN ≤ 4 := by
  have h3 := own_m3 p4
  have h5 := own_5 p4
  have hm : (p5 &&& (2147483647 : Int32)).toInt = p5.toInt % 2 ^ 31 := Kit.i32_mask p5 2147483647 (k := 31) (by decide) (by decide)
  have hr : ((p5 &&& (2147483647 : Int32)) % ((5 : Int32) - (p4 &&& (3 : Int32)))).toInt = (p5.toInt % 2 ^ 31) % (5 - p4.toInt % 4) := by
    rw [Kit.i32_rem_nonneg (by omega), hm, h5]
  have b1 := Int.emod_nonneg (p5.toInt % 2 ^ 31) (show (5 - p4.toInt % 4) ≠ 0 by omega)
  have b2 := Int.emod_lt_of_pos (p5.toInt % 2 ^ 31) (show 0 < (5 - p4.toInt % 4) by omega)
  rw [hr, h3]
  generalize (p5.toInt % 2 ^ 31) % (5 - p4.toInt % 4) = r at b1 b2
  exact ⟨(p4.toInt % 4).toNat, r.toNat, by omega, by omega, by omega⟩
theorem own_lit (a : Int32) (k : Int) (h : a.toInt = k) (x : Int32) : (x = a ↔ x.toInt = k) ∧ (x < a ↔ x.toInt < k) ∧ (a < x ↔ k < x.toInt) := by
  subst h; exact ⟨Int32.toInt_inj.symm, Int32.lt_iff_toInt_lt, Int32.lt_iff_toInt_lt⟩
theorem own_okB (b : Int32) : (okB b = 1 ∧ ¬ (b.toInt = 34 ∨ b.toInt = 92 ∨ (0 ≤ b.toInt ∧ b.toInt < 32))) ∨ (okB b = 0 ∧ (b.toInt = 34 ∨ b.toInt = 92 ∨ (0 ≤ b.toInt ∧ b.toInt < 32))) := by
  unfold okB
  simp only [(own_lit 34 34 (by decide) b).1, (own_lit 92 92 (by decide) b).1, (own_lit 0 0 (by decide) b).2.1, (own_lit 32 32 (by decide) b).2.1]
  generalize b.toInt = y
  by_cases h1 : y = 34
  · rw [if_pos h1]; exact Or.inr ⟨rfl, by omega⟩
  · by_cases h2 : y = 92
    · rw [if_neg h1, if_pos h2]; exact Or.inr ⟨rfl, by omega⟩
    · by_cases h3 : y < 0
      · rw [if_neg h1, if_neg h2, if_pos h3]; exact Or.inl ⟨rfl, by omega⟩
      · by_cases h4 : y < 32
        · rw [if_neg h1, if_neg h2, if_neg h3, if_pos h4]; exact Or.inr ⟨rfl, by omega⟩
        · rw [if_neg h1, if_neg h2, if_neg h3, if_neg h4]; exact Or.inl ⟨rfl, by omega⟩
theorem own_fine (b z s l : Int32) (hb : -128 ≤ b.toInt ∧ b.toInt < 128) (j sN lN : Nat) (hz : z.toInt = (j : Int)) (hs : s.toInt = (sN : Int)) (hl : l.toInt = (lN : Int)) (hle : sN + lN ≤ 4) :
    (fine b z s l = 0 ∧ sN ≤ j ∧ j < sN + lN ∧ okB b = 0) ∨ (fine b z s l = 1 ∧ (sN ≤ j → j < sN + lN → okB b = 1)) := by
  have he : (s + l).toInt = ((sN + lN : Nat) : Int) := by rw [Kit.i32_add (by omega) (by omega)]; omega
  have hu : (b &&& (255 : Int32)).toInt = b.toInt % 256 := Kit.i32_mask b 255 (k := 8) (by decide) (by decide)
  have hok := own_okB b
  unfold fine
  by_cases h1 : z < s
  · rw [if_pos h1]; rw [Int32.lt_iff_toInt_lt] at h1; exact Or.inr ⟨rfl, by intros; omega⟩
  · rw [if_neg h1]; rw [Int32.lt_iff_toInt_lt] at h1
    by_cases h2 : z < s + l
    · rw [if_pos h2]; rw [Int32.lt_iff_toInt_lt] at h2
      simp only [(own_lit 32 32 (by decide) _).2.1, (own_lit 34 34 (by decide) _).1, (own_lit 92 92 (by decide) _).1, hu]
      by_cases h3 : b.toInt % 256 < 32
      · rw [if_pos h3]; rcases hok with ⟨k1, k2⟩ | ⟨k1, k2⟩
        · omega
        · exact Or.inl ⟨rfl, by omega, by omega, k1⟩
      · rw [if_neg h3]
        by_cases h4 : b.toInt % 256 = 34
        · rw [if_pos h4]; rcases hok with ⟨k1, k2⟩ | ⟨k1, k2⟩
          · omega
          · exact Or.inl ⟨rfl, by omega, by omega, k1⟩
        · rw [if_neg h4]
          by_cases h5 : b.toInt % 256 = 92
          · rw [if_pos h5]; rcases hok with ⟨k1, k2⟩ | ⟨k1, k2⟩
            · omega
            · exact Or.inl ⟨rfl, by omega, by omega, k1⟩
          · rw [if_neg h5]; rcases hok with ⟨k1, k2⟩ | ⟨k1, k2⟩
            · exact Or.inr ⟨rfl, fun _ _ => k1⟩
            · omega
    · rw [if_neg h2]; rw [Int32.lt_iff_toInt_lt] at h2; exact Or.inr ⟨rfl, by intros; omega⟩
theorem own_pl1 (f : Nat → Int32) : ∀ k i, (∀ j, i ≤ j → j < i + k → okB (f j) = 1) → plF f i k = 1
  | 0, _, _ => rfl
  | k + 1, i, h => by
    show (if okB (f i) = 1 then plF f (i + 1) k else 0) = 1
    rw [if_pos (h i (Nat.le_refl _) (by omega))]
    exact own_pl1 f k (i + 1) fun j h1 h2 => h j (by omega) (by omega)
theorem own_pl0 (f : Nat → Int32) : ∀ k i j, i ≤ j → j < i + k → okB (f j) = 0 → plF f i k = 0
  | 0, i, j, h1, h2, _ => by omega
  | k + 1, i, j, h1, h2, h3 => by
    show (if okB (f i) = 1 then plF f (i + 1) k else 0) = 0
    by_cases q : okB (f i) = 1
    · rw [if_pos q]
      have : i ≠ j := fun z => by rw [z, h3] at q; exact absurd q (by decide)
      exact own_pl0 f k (i + 1) j (by omega) (by omega) h3
    · rw [if_neg q]
theorem own_fail (f : Nat → Int32) (s l : Int32) (sN lN j : Nat) (z x : Int32) (hz : z.toInt = (j : Int)) (hf : f j = nb x) (hs : s.toInt = (sN : Int)) (hl : l.toInt = (lN : Int)) (hle : sN + lN ≤ 4) (q : (fine (f j) z s l) = (0 : Int32)) : (plF f sN lN) = (0 : Int32) := by
  rcases own_fine (f j) z s l (by rw [hf]; exact own_nb x) j sN lN hz hs hl hle with ⟨_, h1, h2, h3⟩ | ⟨h, _⟩
  · exact own_pl0 f lN sN j h1 h2 h3
  · rw [h] at q; exact absurd q (by decide)
theorem own_one (f : Nat → Int32) (s l : Int32) (sN lN j : Nat) (z x : Int32) (hz : z.toInt = (j : Int)) (hf : f j = nb x) (hs : s.toInt = (sN : Int)) (hl : l.toInt = (lN : Int)) (hle : sN + lN ≤ 4) (q : ¬ (fine (f j) z s l) = (0 : Int32)) : sN ≤ j → j < sN + lN → okB (f j) = 1 := by
  rcases own_fine (f j) z s l (by rw [hf]; exact own_nb x) j sN lN hz hs hl hle with ⟨h, _⟩ | ⟨_, h⟩
  · exact absurd h q
  · exact h
theorem own_all (f : Nat → Int32) (s l : Int32) (sN lN : Nat) (p0 p1 p2 p3 : Int32) (f0 : f 0 = nb p0) (f1 : f 1 = nb p1) (f2 : f 2 = nb p2) (f3 : f 3 = nb p3) (hs : s.toInt = (sN : Int)) (hl : l.toInt = (lN : Int)) (hle : sN + lN ≤ 4)
    (q0 : ¬ (fine (f 0) (0 : Int32) s l) = (0 : Int32)) (q1 : ¬ (fine (f 1) (1 : Int32) s l) = (0 : Int32)) (q2 : ¬ (fine (f 2) (2 : Int32) s l) = (0 : Int32)) (q3 : ¬ (fine (f 3) (3 : Int32) s l) = (0 : Int32)) : (plF f sN lN) = (1 : Int32) := by
  have r0 := own_one f s l sN lN 0 0 p0 (by decide) f0 hs hl hle q0
  have r1 := own_one f s l sN lN 1 1 p1 (by decide) f1 hs hl hle q1
  have r2 := own_one f s l sN lN 2 2 p2 (by decide) f2 hs hl hle q2
  have r3 := own_one f s l sN lN 3 3 p3 (by decide) f3 hs hl hle q3
  refine own_pl1 f lN sN fun j h1 h2 => ?_
  have : j = 0 ∨ j = 1 ∨ j = 2 ∨ j = 3 := by omega
  rcases this with rfl | rfl | rfl | rfl
  · exact r0 h1 h2
  · exact r1 h1 h2
  · exact r2 h1 h2
  · exact r3 h1 h2
theorem pd_0 : parseMethodDescriptor "(BIII)Z" = some ⟨[.byte, .int, .int, .int], some .boolean⟩ := by decide +kernel
theorem pd_1 : parseMethodDescriptor "([BII)Z" = some ⟨[(.array .byte), .int, .int], some .boolean⟩ := by decide +kernel
theorem ef_0 (m : MethodId) (p0 : Int32) (p1 : Int32) (p2 : Int32) (p3 : Int32) (p4 : Int32) (p5 : Int32) : entryFrame m #[(.int p0), (.int p1), (.int p2), (.int p3), (.int p4), (.int p5)] maxLocals = mkF m 0 #[.val (.int p0), .val (.int p1), .val (.int p2), .val (.int p3), .val (.int p4), .val (.int p5), .unset, .unset, .unset, .unset] [] := by first | (simp [entryFrame, mkF, argsToLocals, Value.category, maxLocals]; done) | rfl
def Q0 (n0 : Nat) (v : Option Value) (h : Heap) (L : List Loc) : Prop := v = some (.int 1) ∧ Fr n0 L
set_option maxRecDepth 65536 in
set_option maxHeartbeats 40000000 in
theorem rm0 (l : Launch) (Z : State) (aw : Array Value) (hw : ∀ d ∈ tables_1, d.before aw Z = true) (ws : List Jvm.Cond) (p0 : Int32) (p1 : Int32) (p2 : Int32) (p3 : Int32) (p4 : Int32) (p5 : Int32) (h0 : Heap) (n0 : Nat) (Z0 : n0 ≤ h0.size) :
    MetFree l x (head1 (Jvm.Cond.code x code maxLocals ret :: ws) room_1) (fun a U => a = #[(.int p0), (.int p1), (.int p2), (.int p3), (.int p4), (.int p5)] ∧ Z.Warmed39 U.vm ∧ U.heap = h0) (fun _ _ _ _ _ => True) (fun _ U o U' => ∃ v L, o = .returned v ∧ Q0 n0 v U'.heap L ∧ FrameEnd U o U' L 16 128) := by
  refine MetFree.of_bodySF (plainFor_of_name pn_0) hisR ?_
  intro p e s m args below meth c s₁ Bd hml0 hP _hKK
  obtain ⟨rfl, hZ, hh⟩ := hP
  have hx := Bd.exec
  have hby := Bd.bytes
  have hml : c.maxLocals = 10 := hml0
  have hown : s.vm.findClass "com/example/metadata_for_discovery/metadatafordiscovery/search/IdentifiersIsPlainPinLaw" = some m.cls := findClass_of_methodNamed Bd.named
  have hnm := (name_of_methodNamed Bd.named Bd.method).1
  have X0 : Stand p l e room_1 s m #[(.int p0), (.int p1), (.int p2), (.int p3), (.int p4), (.int p5)] below meth c s₁ [] 0 0 := Stand.of_body Bd
  have e0 : s₁.heap = h0 := by rw [← hh, Bd.state]; rfl
  refine Ow.enter (Q := Q0 n0) (ef_0 m p0 p1 p2 p3 p4 p5) ?_
  show Ow p e below s _ _ _ (s₁.setTop (mkF m 0 #[.val (.int p0), .val (.int p1), .val (.int p2), .val (.int p3), .val (.int p4), .val (.int p5), .unset, .unset, .unset, .unset] []))
  refine w_iconst X0 hx (4 : Int32) (hb hby at_0) (by decide) (pc' := 1) rfl ?_
  refine w_newarray X0 hx hZ (hw _ (List.mem_of_getElem? (i := 0) rfl)) e0 (hb hby at_1) (by decide) (cap := 4) (by decide) (by decide) (by decide) (by decide) (ad := "[B") (by decide) (pc' := 3) rfl ?_
  intro T1 h1 a1 c1 g1 X1 e1 E1 A1 B1
  have V1 : IAr Z h1 a1 .byte 4 (fun _ => 0) := IAr.new A1 rfl (by decide)
  have G : n0 ≤ a1 := Nat.le_trans Z0 (Nat.le_of_eq g1.symm)
  refine w_dup X1 hx (hb hby at_3) rfl (pc' := 4) rfl ?_
  refine w_iconst X1 hx (0 : Int32) (hb hby at_4) (by decide) (pc' := 5) rfl ?_
  refine w_iloadN X1 hx (hb hby at_5) rfl (pc' := 6) rfl ?_
  refine w_i2b X1 hx (hb hby at_6) (pc' := 7) rfl ?_
  refine w_bastoreA X1 hx hZ e1 V1 0 (by decide) (by decide) (hb hby at_7) (pc' := 8) rfl ?_
  intro T2 h2 X2 e2 W2 V2
  have N2 := Fr.snoc X2 (Fr.nil n0) G
  refine w_dup X2 hx (hb hby at_8) rfl (pc' := 9) rfl ?_
  refine w_iconst X2 hx (1 : Int32) (hb hby at_9) (by decide) (pc' := 10) rfl ?_
  refine w_iloadN X2 hx (hb hby at_10) rfl (pc' := 11) rfl ?_
  refine w_i2b X2 hx (hb hby at_11) (pc' := 12) rfl ?_
  refine w_bastoreA X2 hx hZ e2 V2 1 (by decide) (by decide) (hb hby at_12) (pc' := 13) rfl ?_
  intro T3 h3 X3 e3 W3 V3
  have N3 := Fr.snoc X3 N2 G
  refine w_dup X3 hx (hb hby at_13) rfl (pc' := 14) rfl ?_
  refine w_iconst X3 hx (2 : Int32) (hb hby at_14) (by decide) (pc' := 15) rfl ?_
  refine w_iloadN X3 hx (hb hby at_15) rfl (pc' := 16) rfl ?_
  refine w_i2b X3 hx (hb hby at_16) (pc' := 17) rfl ?_
  refine w_bastoreA X3 hx hZ e3 V3 2 (by decide) (by decide) (hb hby at_17) (pc' := 18) rfl ?_
  intro T4 h4 X4 e4 W4 V4
  have N4 := Fr.snoc X4 N3 G
  refine w_dup X4 hx (hb hby at_18) rfl (pc' := 19) rfl ?_
  refine w_iconst X4 hx (3 : Int32) (hb hby at_19) (by decide) (pc' := 20) rfl ?_
  refine w_iloadN X4 hx (hb hby at_20) rfl (pc' := 21) rfl ?_
  refine w_i2b X4 hx (hb hby at_21) (pc' := 22) rfl ?_
  refine w_bastoreA X4 hx hZ e4 V4 3 (by decide) (by decide) (hb hby at_22) (pc' := 23) rfl ?_
  intro T5 h5 X5 e5 W5 V5
  have N5 := Fr.snoc X5 N4 G
  obtain ⟨fA, VA, f0, f1, f2, f3⟩ : ∃ f, IAr Z h5 a1 .byte 4 f ∧ f 0 = nb p0 ∧ f 1 = nb p1 ∧ f 2 = nb p2 ∧ f 3 = nb p3 := ⟨_, V5, rfl, rfl, rfl, rfl⟩
  refine w_astore X5 hx (hb hby at_23) #[.val (.int p0), .val (.int p1), .val (.int p2), .val (.int p3), .val (.int p4), .val (.int p5), .val (.ref a1), .unset, .unset, .unset] rfl rfl (pc' := 25) rfl ?_
  refine w_iload X5 hx (hb hby at_25) rfl (pc' := 27) rfl ?_
  refine w_iconst X5 hx (3 : Int32) (hb hby at_27) (by decide) (pc' := 28) rfl ?_
  refine w_iand X5 hx (hb hby at_28) (pc' := 29) rfl ?_
  refine w_istore X5 hx (hb hby at_29) #[.val (.int p0), .val (.int p1), .val (.int p2), .val (.int p3), .val (.int p4), .val (.int p5), .val (.ref a1), .val (.int (p4 &&& (3 : Int32))), .unset, .unset] rfl  (pc' := 31) rfl ?_
  refine w_iload X5 hx (hb hby at_31) rfl (pc' := 33) rfl ?_
  refine w_ldcI X5 hx hZ hown (hw _ (List.mem_of_getElem? (i := 1) rfl)) (hb hby at_33) (pc' := 35) rfl ?_
  refine w_iand X5 hx (hb hby at_35) (pc' := 36) rfl ?_
  refine w_iconst X5 hx (5 : Int32) (hb hby at_36) (by decide) (pc' := 37) rfl ?_
  refine w_iload X5 hx (hb hby at_37) rfl (pc' := 39) rfl ?_
  refine w_isub X5 hx (hb hby at_39) (pc' := 40) rfl ?_
  refine w_irem X5 hx (hb hby at_40) (own_nz p4) (pc' := 41) rfl ?_
  refine w_istore X5 hx (hb hby at_41) #[.val (.int p0), .val (.int p1), .val (.int p2), .val (.int p3), .val (.int p4), .val (.int p5), .val (.ref a1), .val (.int (p4 &&& (3 : Int32))), .val (.int ((p5 &&& (2147483647 : Int32)) % ((5 : Int32) - (p4 &&& (3 : Int32))))), .unset] rfl  (pc' := 43) rfl ?_
  refine w_aload X5 hx (hb hby at_43) rfl rfl (pc' := 45) rfl ?_
  refine w_iconst X5 hx (0 : Int32) (hb hby at_45) (by decide) (pc' := 46) rfl ?_
  obtain ⟨sN, lN, hs, hl, hle⟩ := own_range p4 p5
  generalize hsv : (p4 &&& (3 : Int32)) = sv at hs hl ⊢
  generalize hlv : ((p5 &&& (2147483647 : Int32)) % ((5 : Int32) - sv)) = lv at hl ⊢
  show Ow p e below s _ _ _ (T5.setTop (mkF m 46 #[.val (.int p0), .val (.int p1), .val (.int p2), .val (.int p3), .val (.int p4), .val (.int p5), .val (.ref a1), .val (.int sv), .val (.int lv), .unset] [(.int (0 : Int32)), (.ref a1)]))
  refine w_baloadA X5 hx hZ e5 VA 0 (by decide) (by decide) (hb hby at_46) (pc' := 47) rfl ?_
  refine w_iconst X5 hx (0 : Int32) (hb hby at_47) (by decide) (pc' := 48) rfl ?_
  refine w_iload X5 hx (hb hby at_48) rfl (pc' := 50) rfl ?_
  refine w_iload X5 hx (hb hby at_50) rfl (pc' := 52) rfl ?_
  refine w_callS X5 hx hZ hown (hw _ (List.mem_of_getElem? (i := 2) rfl)) (hw _ (List.mem_of_getElem? (i := 3) rfl)) (hw _ (List.mem_of_getElem? (i := 4) rfl)) (hw _ (List.mem_of_getElem? (i := 5) rfl)) (by decide) (W := 0) (rm1 l Z aw hw [] (fA 0) (0 : Int32) sv lv h5) e5 (by decide) (by decide) (by decide) (by decide) (hb hby at_52) (by rw [hml]; rfl) (argsL := [(.int (fA 0)), (.int (0 : Int32)), (.int sv), (.int lv)]) (rest := []) pd_0 rfl rfl rfl (Nat.le_of_eq rfl) (pc' := 55) rfl ?_
  rintro _ T6 L6 X6 ⟨rfl, e6, rfl⟩
  show Ow p e below s _ _ _ (T6.setTop (mkF m 55 #[.val (.int p0), .val (.int p1), .val (.int p2), .val (.int p3), .val (.int p4), .val (.int p5), .val (.ref a1), .val (.int sv), .val (.int lv), .unset] [(.int (fine (fA 0) (0 : Int32) sv lv))]))
  refine w_if_eq X6 hx (hb hby at_55) (by decide) (pcT := 107) (by decide) (pcF := 58) rfl (fun q0 => ?_) (fun q0 => ?_)
  · refine w_iconst X6 hx (0 : Int32) (hb hby at_107) (by decide) (pc' := 108) rfl ?_
    refine w_istore X6 hx (hb hby at_108) #[.val (.int p0), .val (.int p1), .val (.int p2), .val (.int p3), .val (.int p4), .val (.int p5), .val (.ref a1), .val (.int sv), .val (.int lv), .val (.int (0 : Int32))] rfl  (pc' := 110) rfl ?_
    refine w_aload X6 hx (hb hby at_110) rfl rfl (pc' := 112) rfl ?_
    refine w_iload X6 hx (hb hby at_112) rfl (pc' := 114) rfl ?_
    refine w_iload X6 hx (hb hby at_114) rfl (pc' := 116) rfl ?_
    refine w_callS X6 hx hZ hown (hw _ (List.mem_of_getElem? (i := 6) rfl)) (hw _ (List.mem_of_getElem? (i := 7) rfl)) (hw _ (List.mem_of_getElem? (i := 8) rfl)) (hw _ (List.mem_of_getElem? (i := 9) rfl)) (by decide) (W := 0) (rm2 l Z aw hw [] a1 sv lv 4 fA sN lN h5 VA hs hl hle (by decide)) e6 (by decide) (by decide) (by decide) (by decide) (hb hby at_116) (by rw [hml]; rfl) (argsL := [(.ref a1), (.int sv), (.int lv)]) (rest := []) pd_1 rfl rfl rfl (Nat.le_of_eq rfl) (pc' := 119) rfl ?_
    rintro _ T7 L7 X7 ⟨rfl, e7, rfl⟩
    show Ow p e below s _ _ _ (T7.setTop (mkF m 119 #[.val (.int p0), .val (.int p1), .val (.int p2), .val (.int p3), .val (.int p4), .val (.int p5), .val (.ref a1), .val (.int sv), .val (.int lv), .val (.int (0 : Int32))] [(.int (plF fA sN lN))]))
    refine w_iload X7 hx (hb hby at_119) rfl (pc' := 121) rfl ?_
    refine w_icmp_ne X7 hx (hb hby at_121) (by decide) (pcT := 128) (by decide) (pcF := 124) rfl (fun q => absurd (own_fail fA sv lv sN lN 0 (0 : Int32) p0 (by decide) f0 hs hl hle q0) q) (fun _ => ?_)
    refine w_iconst X7 hx (1 : Int32) (hb hby at_124) (by decide) (pc' := 125) rfl ?_
    refine w_goto X7 hx (hb hby at_125) (by decide) (pc' := 129) (by decide) ?_
    exact w_zreturn X7 hx Bd.returns (Or.inr rfl) (BodyLoose.notSynchronized Bd) (Nat.le_of_ble_eq_true rfl) (Nat.le_of_ble_eq_true rfl) (hb hby at_129) ⟨rfl, by simpa using N5⟩
  · refine w_aload X6 hx (hb hby at_58) rfl rfl (pc' := 60) rfl ?_
    refine w_iconst X6 hx (1 : Int32) (hb hby at_60) (by decide) (pc' := 61) rfl ?_
    refine w_baloadA X6 hx hZ e6 VA 1 (by decide) (by decide) (hb hby at_61) (pc' := 62) rfl ?_
    refine w_iconst X6 hx (1 : Int32) (hb hby at_62) (by decide) (pc' := 63) rfl ?_
    refine w_iload X6 hx (hb hby at_63) rfl (pc' := 65) rfl ?_
    refine w_iload X6 hx (hb hby at_65) rfl (pc' := 67) rfl ?_
    refine w_callS X6 hx hZ hown (hw _ (List.mem_of_getElem? (i := 2) rfl)) (hw _ (List.mem_of_getElem? (i := 3) rfl)) (hw _ (List.mem_of_getElem? (i := 4) rfl)) (hw _ (List.mem_of_getElem? (i := 5) rfl)) (by decide) (W := 0) (rm1 l Z aw hw [] (fA 1) (1 : Int32) sv lv h5) e6 (by decide) (by decide) (by decide) (by decide) (hb hby at_67) (by rw [hml]; rfl) (argsL := [(.int (fA 1)), (.int (1 : Int32)), (.int sv), (.int lv)]) (rest := []) pd_0 rfl rfl rfl (Nat.le_of_eq rfl) (pc' := 70) rfl ?_
    rintro _ T8 L8 X8 ⟨rfl, e8, rfl⟩
    show Ow p e below s _ _ _ (T8.setTop (mkF m 70 #[.val (.int p0), .val (.int p1), .val (.int p2), .val (.int p3), .val (.int p4), .val (.int p5), .val (.ref a1), .val (.int sv), .val (.int lv), .unset] [(.int (fine (fA 1) (1 : Int32) sv lv))]))
    refine w_if_eq X8 hx (hb hby at_70) (by decide) (pcT := 107) (by decide) (pcF := 73) rfl (fun q1 => ?_) (fun q1 => ?_)
    · refine w_iconst X8 hx (0 : Int32) (hb hby at_107) (by decide) (pc' := 108) rfl ?_
      refine w_istore X8 hx (hb hby at_108) #[.val (.int p0), .val (.int p1), .val (.int p2), .val (.int p3), .val (.int p4), .val (.int p5), .val (.ref a1), .val (.int sv), .val (.int lv), .val (.int (0 : Int32))] rfl  (pc' := 110) rfl ?_
      refine w_aload X8 hx (hb hby at_110) rfl rfl (pc' := 112) rfl ?_
      refine w_iload X8 hx (hb hby at_112) rfl (pc' := 114) rfl ?_
      refine w_iload X8 hx (hb hby at_114) rfl (pc' := 116) rfl ?_
      refine w_callS X8 hx hZ hown (hw _ (List.mem_of_getElem? (i := 6) rfl)) (hw _ (List.mem_of_getElem? (i := 7) rfl)) (hw _ (List.mem_of_getElem? (i := 8) rfl)) (hw _ (List.mem_of_getElem? (i := 9) rfl)) (by decide) (W := 0) (rm2 l Z aw hw [] a1 sv lv 4 fA sN lN h5 VA hs hl hle (by decide)) e8 (by decide) (by decide) (by decide) (by decide) (hb hby at_116) (by rw [hml]; rfl) (argsL := [(.ref a1), (.int sv), (.int lv)]) (rest := []) pd_1 rfl rfl rfl (Nat.le_of_eq rfl) (pc' := 119) rfl ?_
      rintro _ T9 L9 X9 ⟨rfl, e9, rfl⟩
      show Ow p e below s _ _ _ (T9.setTop (mkF m 119 #[.val (.int p0), .val (.int p1), .val (.int p2), .val (.int p3), .val (.int p4), .val (.int p5), .val (.ref a1), .val (.int sv), .val (.int lv), .val (.int (0 : Int32))] [(.int (plF fA sN lN))]))
      refine w_iload X9 hx (hb hby at_119) rfl (pc' := 121) rfl ?_
      refine w_icmp_ne X9 hx (hb hby at_121) (by decide) (pcT := 128) (by decide) (pcF := 124) rfl (fun q => absurd (own_fail fA sv lv sN lN 1 (1 : Int32) p1 (by decide) f1 hs hl hle q1) q) (fun _ => ?_)
      refine w_iconst X9 hx (1 : Int32) (hb hby at_124) (by decide) (pc' := 125) rfl ?_
      refine w_goto X9 hx (hb hby at_125) (by decide) (pc' := 129) (by decide) ?_
      exact w_zreturn X9 hx Bd.returns (Or.inr rfl) (BodyLoose.notSynchronized Bd) (Nat.le_of_ble_eq_true rfl) (Nat.le_of_ble_eq_true rfl) (hb hby at_129) ⟨rfl, by simpa using N5⟩
    · refine w_aload X8 hx (hb hby at_73) rfl rfl (pc' := 75) rfl ?_
      refine w_iconst X8 hx (2 : Int32) (hb hby at_75) (by decide) (pc' := 76) rfl ?_
      refine w_baloadA X8 hx hZ e8 VA 2 (by decide) (by decide) (hb hby at_76) (pc' := 77) rfl ?_
      refine w_iconst X8 hx (2 : Int32) (hb hby at_77) (by decide) (pc' := 78) rfl ?_
      refine w_iload X8 hx (hb hby at_78) rfl (pc' := 80) rfl ?_
      refine w_iload X8 hx (hb hby at_80) rfl (pc' := 82) rfl ?_
      refine w_callS X8 hx hZ hown (hw _ (List.mem_of_getElem? (i := 2) rfl)) (hw _ (List.mem_of_getElem? (i := 3) rfl)) (hw _ (List.mem_of_getElem? (i := 4) rfl)) (hw _ (List.mem_of_getElem? (i := 5) rfl)) (by decide) (W := 0) (rm1 l Z aw hw [] (fA 2) (2 : Int32) sv lv h5) e8 (by decide) (by decide) (by decide) (by decide) (hb hby at_82) (by rw [hml]; rfl) (argsL := [(.int (fA 2)), (.int (2 : Int32)), (.int sv), (.int lv)]) (rest := []) pd_0 rfl rfl rfl (Nat.le_of_eq rfl) (pc' := 85) rfl ?_
      rintro _ T10 L10 X10 ⟨rfl, e10, rfl⟩
      show Ow p e below s _ _ _ (T10.setTop (mkF m 85 #[.val (.int p0), .val (.int p1), .val (.int p2), .val (.int p3), .val (.int p4), .val (.int p5), .val (.ref a1), .val (.int sv), .val (.int lv), .unset] [(.int (fine (fA 2) (2 : Int32) sv lv))]))
      refine w_if_eq X10 hx (hb hby at_85) (by decide) (pcT := 107) (by decide) (pcF := 88) rfl (fun q2 => ?_) (fun q2 => ?_)
      · refine w_iconst X10 hx (0 : Int32) (hb hby at_107) (by decide) (pc' := 108) rfl ?_
        refine w_istore X10 hx (hb hby at_108) #[.val (.int p0), .val (.int p1), .val (.int p2), .val (.int p3), .val (.int p4), .val (.int p5), .val (.ref a1), .val (.int sv), .val (.int lv), .val (.int (0 : Int32))] rfl  (pc' := 110) rfl ?_
        refine w_aload X10 hx (hb hby at_110) rfl rfl (pc' := 112) rfl ?_
        refine w_iload X10 hx (hb hby at_112) rfl (pc' := 114) rfl ?_
        refine w_iload X10 hx (hb hby at_114) rfl (pc' := 116) rfl ?_
        refine w_callS X10 hx hZ hown (hw _ (List.mem_of_getElem? (i := 6) rfl)) (hw _ (List.mem_of_getElem? (i := 7) rfl)) (hw _ (List.mem_of_getElem? (i := 8) rfl)) (hw _ (List.mem_of_getElem? (i := 9) rfl)) (by decide) (W := 0) (rm2 l Z aw hw [] a1 sv lv 4 fA sN lN h5 VA hs hl hle (by decide)) e10 (by decide) (by decide) (by decide) (by decide) (hb hby at_116) (by rw [hml]; rfl) (argsL := [(.ref a1), (.int sv), (.int lv)]) (rest := []) pd_1 rfl rfl rfl (Nat.le_of_eq rfl) (pc' := 119) rfl ?_
        rintro _ T11 L11 X11 ⟨rfl, e11, rfl⟩
        show Ow p e below s _ _ _ (T11.setTop (mkF m 119 #[.val (.int p0), .val (.int p1), .val (.int p2), .val (.int p3), .val (.int p4), .val (.int p5), .val (.ref a1), .val (.int sv), .val (.int lv), .val (.int (0 : Int32))] [(.int (plF fA sN lN))]))
        refine w_iload X11 hx (hb hby at_119) rfl (pc' := 121) rfl ?_
        refine w_icmp_ne X11 hx (hb hby at_121) (by decide) (pcT := 128) (by decide) (pcF := 124) rfl (fun q => absurd (own_fail fA sv lv sN lN 2 (2 : Int32) p2 (by decide) f2 hs hl hle q2) q) (fun _ => ?_)
        refine w_iconst X11 hx (1 : Int32) (hb hby at_124) (by decide) (pc' := 125) rfl ?_
        refine w_goto X11 hx (hb hby at_125) (by decide) (pc' := 129) (by decide) ?_
        exact w_zreturn X11 hx Bd.returns (Or.inr rfl) (BodyLoose.notSynchronized Bd) (Nat.le_of_ble_eq_true rfl) (Nat.le_of_ble_eq_true rfl) (hb hby at_129) ⟨rfl, by simpa using N5⟩
      · refine w_aload X10 hx (hb hby at_88) rfl rfl (pc' := 90) rfl ?_
        refine w_iconst X10 hx (3 : Int32) (hb hby at_90) (by decide) (pc' := 91) rfl ?_
        refine w_baloadA X10 hx hZ e10 VA 3 (by decide) (by decide) (hb hby at_91) (pc' := 92) rfl ?_
        refine w_iconst X10 hx (3 : Int32) (hb hby at_92) (by decide) (pc' := 93) rfl ?_
        refine w_iload X10 hx (hb hby at_93) rfl (pc' := 95) rfl ?_
        refine w_iload X10 hx (hb hby at_95) rfl (pc' := 97) rfl ?_
        refine w_callS X10 hx hZ hown (hw _ (List.mem_of_getElem? (i := 2) rfl)) (hw _ (List.mem_of_getElem? (i := 3) rfl)) (hw _ (List.mem_of_getElem? (i := 4) rfl)) (hw _ (List.mem_of_getElem? (i := 5) rfl)) (by decide) (W := 0) (rm1 l Z aw hw [] (fA 3) (3 : Int32) sv lv h5) e10 (by decide) (by decide) (by decide) (by decide) (hb hby at_97) (by rw [hml]; rfl) (argsL := [(.int (fA 3)), (.int (3 : Int32)), (.int sv), (.int lv)]) (rest := []) pd_0 rfl rfl rfl (Nat.le_of_eq rfl) (pc' := 100) rfl ?_
        rintro _ T12 L12 X12 ⟨rfl, e12, rfl⟩
        show Ow p e below s _ _ _ (T12.setTop (mkF m 100 #[.val (.int p0), .val (.int p1), .val (.int p2), .val (.int p3), .val (.int p4), .val (.int p5), .val (.ref a1), .val (.int sv), .val (.int lv), .unset] [(.int (fine (fA 3) (3 : Int32) sv lv))]))
        refine w_if_eq X12 hx (hb hby at_100) (by decide) (pcT := 107) (by decide) (pcF := 103) rfl (fun q3 => ?_) (fun q3 => ?_)
        · refine w_iconst X12 hx (0 : Int32) (hb hby at_107) (by decide) (pc' := 108) rfl ?_
          refine w_istore X12 hx (hb hby at_108) #[.val (.int p0), .val (.int p1), .val (.int p2), .val (.int p3), .val (.int p4), .val (.int p5), .val (.ref a1), .val (.int sv), .val (.int lv), .val (.int (0 : Int32))] rfl  (pc' := 110) rfl ?_
          refine w_aload X12 hx (hb hby at_110) rfl rfl (pc' := 112) rfl ?_
          refine w_iload X12 hx (hb hby at_112) rfl (pc' := 114) rfl ?_
          refine w_iload X12 hx (hb hby at_114) rfl (pc' := 116) rfl ?_
          refine w_callS X12 hx hZ hown (hw _ (List.mem_of_getElem? (i := 6) rfl)) (hw _ (List.mem_of_getElem? (i := 7) rfl)) (hw _ (List.mem_of_getElem? (i := 8) rfl)) (hw _ (List.mem_of_getElem? (i := 9) rfl)) (by decide) (W := 0) (rm2 l Z aw hw [] a1 sv lv 4 fA sN lN h5 VA hs hl hle (by decide)) e12 (by decide) (by decide) (by decide) (by decide) (hb hby at_116) (by rw [hml]; rfl) (argsL := [(.ref a1), (.int sv), (.int lv)]) (rest := []) pd_1 rfl rfl rfl (Nat.le_of_eq rfl) (pc' := 119) rfl ?_
          rintro _ T13 L13 X13 ⟨rfl, e13, rfl⟩
          show Ow p e below s _ _ _ (T13.setTop (mkF m 119 #[.val (.int p0), .val (.int p1), .val (.int p2), .val (.int p3), .val (.int p4), .val (.int p5), .val (.ref a1), .val (.int sv), .val (.int lv), .val (.int (0 : Int32))] [(.int (plF fA sN lN))]))
          refine w_iload X13 hx (hb hby at_119) rfl (pc' := 121) rfl ?_
          refine w_icmp_ne X13 hx (hb hby at_121) (by decide) (pcT := 128) (by decide) (pcF := 124) rfl (fun q => absurd (own_fail fA sv lv sN lN 3 (3 : Int32) p3 (by decide) f3 hs hl hle q3) q) (fun _ => ?_)
          refine w_iconst X13 hx (1 : Int32) (hb hby at_124) (by decide) (pc' := 125) rfl ?_
          refine w_goto X13 hx (hb hby at_125) (by decide) (pc' := 129) (by decide) ?_
          exact w_zreturn X13 hx Bd.returns (Or.inr rfl) (BodyLoose.notSynchronized Bd) (Nat.le_of_ble_eq_true rfl) (Nat.le_of_ble_eq_true rfl) (hb hby at_129) ⟨rfl, by simpa using N5⟩
        · refine w_iconst X12 hx (1 : Int32) (hb hby at_103) (by decide) (pc' := 104) rfl ?_
          refine w_goto X12 hx (hb hby at_104) (by decide) (pc' := 108) (by decide) ?_
          refine w_istore X12 hx (hb hby at_108) #[.val (.int p0), .val (.int p1), .val (.int p2), .val (.int p3), .val (.int p4), .val (.int p5), .val (.ref a1), .val (.int sv), .val (.int lv), .val (.int (1 : Int32))] rfl  (pc' := 110) rfl ?_
          refine w_aload X12 hx (hb hby at_110) rfl rfl (pc' := 112) rfl ?_
          refine w_iload X12 hx (hb hby at_112) rfl (pc' := 114) rfl ?_
          refine w_iload X12 hx (hb hby at_114) rfl (pc' := 116) rfl ?_
          refine w_callS X12 hx hZ hown (hw _ (List.mem_of_getElem? (i := 6) rfl)) (hw _ (List.mem_of_getElem? (i := 7) rfl)) (hw _ (List.mem_of_getElem? (i := 8) rfl)) (hw _ (List.mem_of_getElem? (i := 9) rfl)) (by decide) (W := 0) (rm2 l Z aw hw [] a1 sv lv 4 fA sN lN h5 VA hs hl hle (by decide)) e12 (by decide) (by decide) (by decide) (by decide) (hb hby at_116) (by rw [hml]; rfl) (argsL := [(.ref a1), (.int sv), (.int lv)]) (rest := []) pd_1 rfl rfl rfl (Nat.le_of_eq rfl) (pc' := 119) rfl ?_
          rintro _ T14 L14 X14 ⟨rfl, e14, rfl⟩
          show Ow p e below s _ _ _ (T14.setTop (mkF m 119 #[.val (.int p0), .val (.int p1), .val (.int p2), .val (.int p3), .val (.int p4), .val (.int p5), .val (.ref a1), .val (.int sv), .val (.int lv), .val (.int (1 : Int32))] [(.int (plF fA sN lN))]))
          refine w_iload X14 hx (hb hby at_119) rfl (pc' := 121) rfl ?_
          refine w_icmp_ne X14 hx (hb hby at_121) (by decide) (pcT := 128) (by decide) (pcF := 124) rfl (fun q => absurd (own_all fA sv lv sN lN p0 p1 p2 p3 f0 f1 f2 f3 hs hl hle q0 q1 q2 q3) q) (fun _ => ?_)
          refine w_iconst X14 hx (1 : Int32) (hb hby at_124) (by decide) (pc' := 125) rfl ?_
          refine w_goto X14 hx (hb hby at_125) (by decide) (pc' := 129) (by decide) ?_
          exact w_zreturn X14 hx Bd.returns (Or.inr rfl) (BodyLoose.notSynchronized Bd) (Nat.le_of_ble_eq_true rfl) (Nat.le_of_ble_eq_true rfl) (hb hby at_129) ⟨rfl, by simpa using N5⟩
set_option maxRecDepth 65536 in
set_option maxHeartbeats 40000000 in
theorem comes_1 {Post : Tables → Env → Array Value → State → Outcome → State → Prop} (hpost : ∀ tb e args s v u, (limb_1_1.after args s (.returned v) u = true ∧ limb_1_2.after args s (.returned v) u = true ∧ True) → FrameEnd s (.returned v) u (Jvm.fieldLocs frame_1_writes args s ++ Jvm.arrayLocs frame_1_arrays args s ++ Jvm.staticLocs frame_1_statics s) 16 128 → Post tb e args s (.returned v) u) :
    ArmFor flags0 classFile x code maxLocals ret World_1 tables_1 room_1 Calls_1 rest_1 Pre_1 Post := by
  intro l hfl _ _ p e ha hc hk s m args below hf hA hF happ hP
  obtain ⟨hcalls, hrest, hpre⟩ := hP
  obtain ⟨-, -, -, hnamed, -, -, -, hat⟩ := (Spec.applies_iff hf).mp happ
  obtain ⟨hg, hn⟩ := and_e (Cond.before_iff.mp (show (Jvm.Cond.and given_1 narrow_1).before args s = true from hpre))
  obtain ⟨g1, g2⟩ := and_e hg
  obtain ⟨g3, g4⟩ := and_e g2
  obtain ⟨g5, g6⟩ := and_e g4
  obtain ⟨g7, g8⟩ := and_e g6
  obtain ⟨g9, g10⟩ := and_e g8
  obtain ⟨g11, g12⟩ := and_e g10
  obtain ⟨w0, w1, w2, w3, w4, w5, rfl⟩ : ∃ w0 w1 w2 w3 w4 w5 : Value, args = #[w0, w1, w2, w3, w4, w5] := by
    have hs : args.size = 6 := by simpa [Cond.value, given_1] using g1
    obtain ⟨L⟩ := args
    match L, hs with
    | [w0, w1, w2, w3, w4, w5], _ => exact ⟨w0, w1, w2, w3, w4, w5, rfl⟩
  have hw := fun d (hd : d ∈ tables_1) => atoms_spec (ws := Jvm.Cond.code x code maxLocals ret :: tables_1) hat d (List.mem_cons_of_mem _ hd)
  obtain ⟨i0, ei0⟩ := is_v g3
  obtain rfl : w0 = (.int i0) := Option.some.inj ei0
  obtain ⟨i1, ei1⟩ := is_v g5
  obtain rfl : w1 = (.int i1) := Option.some.inj ei1
  obtain ⟨i2, ei2⟩ := is_v g7
  obtain rfl : w2 = (.int i2) := Option.some.inj ei2
  obtain ⟨i3, ei3⟩ := is_v g9
  obtain rfl : w3 = (.int i3) := Option.some.inj ei3
  obtain ⟨i4, ei4⟩ := is_v g11
  obtain rfl : w4 = (.int i4) := Option.some.inj ei4
  obtain ⟨i5, ei5⟩ := is_v g12
  obtain rfl : w5 = (.int i5) := Option.some.inj ei5
  obtain ⟨n, o, h1, h2, h3, _, L, rfl, ⟨rfl, N⟩, hq⟩ := rm0 l s _ hw tables_1 i0 i1 i2 i3 i4 i5 s.heap s.heap.size (Nat.le_refl _) p e ha hc hk s m _ below hf ((Spec.applies_iff_loose hf).mp happ).1 ⟨rfl, State.Warmed39.refl s, rfl⟩ trivial
  refine ⟨n, _, h1, h2, h3, hpost _ _ _ _ _ _ ⟨Cond.after_iff.mpr rfl, Cond.after_iff.mpr (eq_i res_at (Term.int_eval (1)) rfl), trivial⟩ ⟨hq.1, hq.2.1, (hq.2.2.sift fun y hy => Or.inr (N y hy)).mono (by decide) (by decide)⟩⟩
theorem main_1_1 : Claimed_1_1 := comes_1 fun _ _ _ _ _ _ h hF => ⟨h.1, hF⟩
theorem main_1_2 : Claimed_1_2 := comes_1 fun _ _ _ _ _ _ h hF => ⟨h.2.1, hF⟩
end Jvm.Pilot.@@N@@
namespace Jvm.Pilot.@@N@@
open Jvm Jvm.ClassFile Sem Op Lib Jvm.Free Jvm.Stand Jvm.Pilot.@@N@@.Jvm.D
/-! MADE BY PROGRAM (witnessworld.py) out of the Statement's table words and the real class files: 15 classes; the members and pool entries that the words name. The judged class is class 1, her method 1. -/
namespace start1
open Jvm.ClassFile
def u (s : String) : CpInfo := .utf8 (stringToUtf16 s)
/-- a pool by its gaps: so many unusable entries, then the entry; so many at the end -/
def gap : Nat → List CpInfo → List CpInfo
  | 0, r => r
  | n + 1, r => .unusable :: gap n r
def poolList (es : List (Nat × CpInfo)) (last : Nat) : List CpInfo := es.foldr (fun e r => gap e.1 (e.2 :: r)) (gap last [])
def pool (es : List (Nat × CpInfo)) (last : Nat) : Array CpInfo := ⟨poolList es last⟩
def fileOf (pool : Array CpInfo) (this : Nat) (attrs : Array Attribute := #[]) (ms : Array MethodInfo := #[]) (fl : Nat := 33) (sup : Nat := 0) (ifs : Array Nat := #[]) (fds : Array FieldInfo := #[]) : ClassFile where
  minorVersion := 0
  majorVersion := 65
  constantPool := pool
  accessFlags := fl
  thisClass := this
  superClass := sup
  interfaces := ifs
  fields := fds
  methods := ms
  attributes := attrs
def plain (name : String) (sup : Option ClassId) : Class where
  name := name
  kind := .ordinary
  loader := none
  accessFlags := 33
  super := sup
  interfaces := #[]
  cf := none
  fields := #[]
  methods := #[]
  instanceTypes := #[]
  staticTypes := #[]
  resolved := #[]
  callSites := []
  init := .initialized
  statics := none
  mirror := none

def pool0 : Array CpInfo := pool [(5, u "<init>"), (0, u "()V"), (1, .class_ 10), (1, u "java/lang/Object")] 113

def k0m0 : Method := { name := "<init>", desc := "()V", sig := { parameters := [], returnType := none }, accessFlags := 1, code := none }
/-- java/lang/Object -/
def k0 : Class := { plain "java/lang/Object" none with
  accessFlags := 33
  interfaces := #[]
  cf := some (fileOf pool0 8 #[] #[{ accessFlags := 1, nameIndex := 5, descriptorIndex := 6, attributes := #[] }] 33 0 #[] #[])
  fields := #[]
  methods := #[k0m0]
  instanceTypes := #[]
  staticTypes := #[]
  resolved := Array.replicate 124 none
  statics := none }

def pool1 : Array CpInfo := pool [(2, .class_ 4), (1, u "java/lang/Object"), (0, u "<init>"), (0, u "()V"), (0, .integer 2147483647), (0, .methodref 9 10), (0, .class_ 11), (0, .nameAndType 12 13), (0, u "com/example/metadata_for_discovery/metadatafordiscovery/search/IdentifiersIsPlainPinLaw"), (0, u "fine"), (0, u "(BIII)Z"), (0, .methodref 15 16), (0, .class_ 17), (0, .nameAndType 18 19), (0, u "com/example/metadata_for_discovery/metadatafordiscovery/search/Identifiers"), (0, u "isPlain"), (0, u "([BII)Z"), (2, u "law"), (0, u "(IIIIII)Z")] 5

def k1m0 : Method := { name := "<init>", desc := "()V", sig := { parameters := [], returnType := none }, accessFlags := 1, code := none }
def k1c1 : Code := { maxStack := 4, maxLocals := 10, code := code, exceptionTable := #[], attributes := #[] }
def k1m1 : Method := { name := "law", desc := "(IIIIII)Z", sig := { parameters := [.int, .int, .int, .int, .int, .int], returnType := some .boolean }, accessFlags := 9, code := some k1c1 }
def k1c2 : Code := { maxStack := 3, maxLocals := 5, code := method_3_code, exceptionTable := #[], attributes := #[] }
def k1m2 : Method := { name := "fine", desc := "(BIII)Z", sig := { parameters := [.byte, .int, .int, .int], returnType := some .boolean }, accessFlags := 10, code := some k1c2 }
/-- com/example/metadata_for_discovery/metadatafordiscovery/search/IdentifiersIsPlainPinLaw -/
def k1 : Class := { plain "com/example/metadata_for_discovery/metadatafordiscovery/search/IdentifiersIsPlainPinLaw" (some 0) with
  accessFlags := 49
  interfaces := #[]
  cf := some (fileOf pool1 9 #[] #[{ accessFlags := 1, nameIndex := 5, descriptorIndex := 6, attributes := #[] }, { accessFlags := 9, nameIndex := 22, descriptorIndex := 23, attributes := #[] }, { accessFlags := 10, nameIndex := 12, descriptorIndex := 13, attributes := #[] }] 49 2 #[] #[])
  fields := #[]
  methods := #[k1m0, k1m1, k1m2]
  instanceTypes := #[]
  staticTypes := #[]
  resolved := Array.replicate 29 none
  statics := none }

def pool2 : Array CpInfo := pool [(8, .class_ 10), (1, u "java/lang/Iterable"), (24, .class_ 36), (0, u "java/lang/Object")] 25

/-- java/lang/Iterable -/
def k2 : Class := { plain "java/lang/Iterable" (some 0) with
  accessFlags := 1537
  interfaces := #[]
  cf := some (fileOf pool2 8 #[] #[] 1537 35 #[] #[])
  fields := #[]
  methods := #[]
  instanceTypes := #[]
  staticTypes := #[]
  resolved := Array.replicate 62 none
  statics := none }

def pool3 : Array CpInfo := pool [(10, .class_ 12), (1, u "java/util/Collection"), (47, .class_ 61), (0, u "java/lang/Object"), (0, .class_ 63), (0, u "java/lang/Iterable")] 51

/-- java/util/Collection -/
def k3 : Class := { plain "java/util/Collection" (some 0) with
  accessFlags := 1537
  interfaces := #[2]
  cf := some (fileOf pool3 10 #[] #[] 1537 60 #[62] #[])
  fields := #[]
  methods := #[]
  instanceTypes := #[]
  staticTypes := #[]
  resolved := Array.replicate 115 none
  statics := none }

def pool4 : Array CpInfo := pool [(2, .class_ 4), (1, u "java/lang/Object"), (0, u "<init>"), (0, u "()V"), (1, .class_ 10), (1, u "java/util/AbstractCollection"), (66, .class_ 78), (0, u "java/util/Collection")] 81

def k4m0 : Method := { name := "<init>", desc := "()V", sig := { parameters := [], returnType := none }, accessFlags := 4, code := none }
/-- java/util/AbstractCollection -/
def k4 : Class := { plain "java/util/AbstractCollection" (some 0) with
  accessFlags := 1057
  interfaces := #[3]
  cf := some (fileOf pool4 8 #[] #[{ accessFlags := 4, nameIndex := 5, descriptorIndex := 6, attributes := #[] }] 1057 2 #[77] #[])
  fields := #[]
  methods := #[k4m0]
  instanceTypes := #[]
  staticTypes := #[]
  resolved := Array.replicate 160 none
  statics := none }

def pool5 : Array CpInfo := pool [(8, .class_ 10), (1, u "java/util/SequencedCollection"), (15, .class_ 27), (0, u "java/lang/Object"), (0, .class_ 29), (0, u "java/util/Collection")] 27

/-- java/util/SequencedCollection -/
def k5 : Class := { plain "java/util/SequencedCollection" (some 0) with
  accessFlags := 1537
  interfaces := #[3]
  cf := some (fileOf pool5 8 #[] #[] 1537 26 #[28] #[])
  fields := #[]
  methods := #[]
  instanceTypes := #[]
  staticTypes := #[]
  resolved := Array.replicate 57 none
  statics := none }

def pool6 : Array CpInfo := pool [(8, .class_ 10), (1, u "java/util/List"), (92, .class_ 104), (0, u "java/lang/Object"), (15, .class_ 121), (0, u "java/util/SequencedCollection")] 129

/-- java/util/List -/
def k6 : Class := { plain "java/util/List" (some 0) with
  accessFlags := 1537
  interfaces := #[5]
  cf := some (fileOf pool6 8 #[] #[] 1537 103 #[120] #[])
  fields := #[]
  methods := #[]
  instanceTypes := #[]
  staticTypes := #[]
  resolved := Array.replicate 251 none
  statics := none }

def pool7 : Array CpInfo := pool [(2, .class_ 4), (1, u "java/util/AbstractCollection"), (0, u "<init>"), (0, u "()V"), (1, .class_ 10), (1, u "java/util/AbstractList"), (0, u "modCount"), (0, u "I"), (64, .class_ 78), (0, u "java/util/AbstractList$Itr"), (3, .class_ 83), (0, u "java/util/AbstractList$ListItr"), (9, .class_ 94), (0, u "java/util/AbstractList$RandomAccessSubList"), (3, .class_ 99), (0, u "java/util/AbstractList$SubList"), (33, .class_ 134), (0, u "java/util/List"), (73, .class_ 209), (0, u "java/util/AbstractList$SubList$1"), (0, .class_ 211), (0, u "java/util/AbstractList$RandomAccessSpliterator")] 6

def k7m0 : Method := { name := "<init>", desc := "()V", sig := { parameters := [], returnType := none }, accessFlags := 4, code := none }
/-- java/util/AbstractList -/
def k7 : Class := { plain "java/util/AbstractList" (some 4) with
  accessFlags := 1057
  interfaces := #[6]
  cf := some (fileOf pool7 8 #[.nestMembers #[93, 98, 208, 210, 82, 77]] #[{ accessFlags := 4, nameIndex := 5, descriptorIndex := 6, attributes := #[] }] 1057 2 #[133] #[{ accessFlags := 132, nameIndex := 11, descriptorIndex := 12, attributes := #[] }])
  fields := #[{ name := "modCount", type := .int, accessFlags := 132, slot := 0, constantValue := 0 }]
  methods := #[k7m0]
  instanceTypes := #[.int]
  staticTypes := #[]
  resolved := Array.replicate 218 none
  statics := none }

def pool8 : Array CpInfo := pool [(2, .class_ 4), (1, u "java/util/AbstractList"), (3, .class_ 10), (1, u "com/example/metadata_for_discovery/metadatafordiscovery/search/Identifiers"), (0, u "runs"), (0, u "[Lcom/example/metadata_for_discovery/metadatafordiscovery/search/IndexCodec$KeptTexts;"), (2, u "starts"), (0, u "[I"), (2, u "lengths"), (2, u "size"), (0, u "I"), (25, u "isPlain"), (2, .class_ 54), (1, u "com/example/metadata_for_discovery/metadatafordiscovery/search/Identifiers$Utf8Sink"), (9, u "([BII)Z"), (16, .class_ 82), (0, u "com/example/metadata_for_discovery/metadatafordiscovery/search/Identifiers$Builder")] 6

def k8c0 : Code := { maxStack := 3, maxLocals := 5, code := prog_49_method_2_code, exceptionTable := #[], attributes := #[] }
def k8m0 : Method := { name := "isPlain", desc := "([BII)Z", sig := { parameters := [(.array .byte), .int, .int], returnType := some .boolean }, accessFlags := 9, code := some k8c0 }
/-- com/example/metadata_for_discovery/metadatafordiscovery/search/Identifiers -/
def k8 : Class := { plain "com/example/metadata_for_discovery/metadatafordiscovery/search/Identifiers" (some 7) with
  accessFlags := 49
  interfaces := #[]
  cf := some (fileOf pool8 8 #[.nestMembers #[81, 52]] #[{ accessFlags := 9, nameIndex := 49, descriptorIndex := 64, attributes := #[] }] 49 2 #[] #[{ accessFlags := 18, nameIndex := 11, descriptorIndex := 12, attributes := #[] }, { accessFlags := 18, nameIndex := 15, descriptorIndex := 16, attributes := #[] }, { accessFlags := 18, nameIndex := 19, descriptorIndex := 16, attributes := #[] }, { accessFlags := 18, nameIndex := 22, descriptorIndex := 23, attributes := #[] }])
  fields := #[{ name := "runs", type := (.array (.object "com/example/metadata_for_discovery/metadatafordiscovery/search/IndexCodec$KeptTexts")), accessFlags := 18, slot := 1, constantValue := 0 }, { name := "starts", type := (.array .int), accessFlags := 18, slot := 2, constantValue := 0 }, { name := "lengths", type := (.array .int), accessFlags := 18, slot := 3, constantValue := 0 }, { name := "size", type := .int, accessFlags := 18, slot := 4, constantValue := 0 }]
  methods := #[k8m0]
  instanceTypes := #[.int, (.array (.object "com/example/metadata_for_discovery/metadatafordiscovery/search/IndexCodec$KeptTexts")), (.array .int), (.array .int), .int]
  staticTypes := #[]
  resolved := Array.replicate 89 none
  statics := none }

def pool9 : Array CpInfo := pool [(1, u "java/lang/Cloneable"), (0, .class_ 1), (0, u "java/lang/Object"), (0, .class_ 3)] 3

/-- java/lang/Cloneable -/
def k9 : Class := { plain "java/lang/Cloneable" (some 0) with
  accessFlags := 1537
  interfaces := #[]
  cf := some (fileOf pool9 2 #[] #[] 1537 4 #[] #[])
  fields := #[]
  methods := #[]
  instanceTypes := #[]
  staticTypes := #[]
  resolved := Array.replicate 8 none
  statics := none }

def pool10 : Array CpInfo := pool [(1, u "java/io/Serializable"), (0, .class_ 1), (0, u "java/lang/Object"), (0, .class_ 3)] 3

/-- java/io/Serializable -/
def k10 : Class := { plain "java/io/Serializable" (some 0) with
  accessFlags := 1537
  interfaces := #[]
  cf := some (fileOf pool10 2 #[] #[] 1537 4 #[] #[])
  fields := #[]
  methods := #[]
  instanceTypes := #[]
  staticTypes := #[]
  resolved := Array.replicate 8 none
  statics := none }

/-- the primitive byte -/
def k11 : Class := { plain "byte" none with kind := .primitive 'B', accessFlags := 0x411 }
/-- [B -/
def k12 : Class := { plain "[B" (some 0) with kind := .array 11 .byte, interfaces := #[9, 10], accessFlags := 1041 }

/-- the primitive int -/
def k13 : Class := { plain "int" none with kind := .primitive 'I', accessFlags := 0x411 }
/-- [I -/
def k14 : Class := { plain "[I" (some 0) with kind := .array 13 .int, interfaces := #[9, 10], accessFlags := 1041 }

def heap : Heap := #[]
def classes : Array Class := #[k0, k1, k2, k3, k4, k5, k6, k7, k8, k9, k10, k11, k12, k13, k14]
def interned : List (Array UInt16 × Addr) := []
def slotsUsed : Nat := 0
def theMethod : MethodId := ⟨1, 1⟩
def args0 : Array Value := #[.int 5, .int 1, .int 7, .int 90, .int 1, .int 2]
def aboutOver (below : List Frame) : State where
  vm := { classes := classes, interned := interned.toArray }
  heap := heap
  slotsUsed := slotsUsed
  threads := #[{ frames := .invoking theMethod args0 :: below }]
def below0 : List Frame := [.native { method := ⟨0, 0⟩, args := #[] }]
def about1 : State := aboutOver below0
def p0 : Program := .bare "" "" ""
def e0 : Env := launch0.env 0 0 0
theorem w_frames : about1.frames = Frame.invoking theMethod args0 :: below0 := rfl
set_option maxRecDepth 65536 in
theorem w_args : argsFit about1.vm theMethod args0 = true := by decide +kernel
set_option maxRecDepth 65536 in
theorem w_heap : heapFits about1 = true := by decide +kernel
set_option maxRecDepth 65536 in
theorem w_runnable : about1.curStatus? = some .runnable := by decide +kernel
set_option maxRecDepth 65536 in
theorem w_alone : about1.alone = true := by decide +kernel
set_option maxRecDepth 65536 in
theorem w_named : about1.methodNamed? x = some theMethod := by decide +kernel
set_option maxRecDepth 65536 in
theorem w_hears : about1.hears theMethod below0 = true := by decide +kernel
set_option maxRecDepth 65536 in
theorem w_ripe : about1.ripe theMethod args0 below0 = true := by decide +kernel
theorem w_running : about1.status = .running := rfl
set_option maxRecDepth 65536 in
theorem w_room : about1.hasRoom e0.platform room_1 = true :=
  launch0.hasRoom_least _ room_1 (by decide +kernel) (by decide +kernel) (by decide +kernel) (by decide +kernel) (by decide +kernel) (by decide +kernel)
theorem allAtoms_all (ts : List Jvm.Cond) (a : Array Jvm.Value) (st : Jvm.State) : (allAtoms ts).before a st = ts.all (fun c => c.before a st) := by
  induction ts with
  | nil => rfl
  | cons c t ih =>
    show (Jvm.Cond.and c (allAtoms t)).before a st = _
    rw [Jvm.Cond.before_and, ih, List.all_cons]
def words1 : List Jvm.Cond := Jvm.Cond.code x code maxLocals ret :: tables_1
/-- a 'code' word, met by the world's own term for the bytes: nothing is compared byte by byte -/
theorem code_word {y : MethodName} {bytes : ByteArray} {mx : Nat} {rt : Option FieldType} {a : Array Value} {s : State} {m : MethodId} {meth : Method} {c : Code} (h1 : s.methodNamed? y = some m) (h2 : s.vm.method? m = some meth) (h3 : meth.code = some c) (h4 : c.code = bytes)
    (h5 : (c.maxLocals == mx && c.exceptionTable.isEmpty && decide (c.maxStack ≤ mostOperands) && decide (meth.sig.returnType = rt) && !meth.locks && decide (parseMethodDescriptor y.desc = some meth.sig)) = true) : (Jvm.Cond.code y bytes mx rt).before a s = true := by
  simp only [Bool.and_eq_true, beq_iff_eq, Bool.not_eq_true', decide_eq_true_eq] at h5
  obtain ⟨⟨⟨⟨⟨g1, g2⟩, g3⟩, g4⟩, g5⟩, g6⟩ := h5
  simp [Cond.before, Cond.holds, Cond.value, h1, h2, h3, h4, g1, g2, g3, g4, g5, g6]
def isCode : Jvm.Cond → Bool
  | .code _ _ _ _ => true
  | _ => false
theorem all_split {L : List Jvm.Cond} {P : Jvm.Cond → Bool} (h1 : L.all (fun c => isCode c || P c) = true) (h2 : ∀ c ∈ L.filter isCode, P c = true) : L.all P = true := by
  refine List.all_eq_true.mpr fun c hc => ?_
  have h := List.all_eq_true.mp h1 c hc
  rcases Bool.eq_false_or_eq_true (isCode c) with hi | hi
  · exact h2 c (List.mem_filter.mpr ⟨hc, hi⟩)
  · simpa [hi] using h
set_option maxRecDepth 65536 in
theorem w_c0 : (Jvm.Cond.code x code maxLocals ret).before args0 about1 = true := code_word (m := ⟨1, 1⟩) (meth := k1m1) (c := k1c1) (by decide +kernel) rfl rfl rfl (by decide +kernel)
set_option maxRecDepth 65536 in
theorem w_c1 : (Jvm.Cond.code ({ cls := "com/example/metadata_for_discovery/metadatafordiscovery/search/IdentifiersIsPlainPinLaw", name := "fine", desc := "(BIII)Z" } : Jvm.MethodName) method_3_code (5 : Nat) (Option.some Jvm.ClassFile.FieldType.boolean)).before args0 about1 = true := code_word (m := ⟨1, 2⟩) (meth := k1m2) (c := k1c2) (by decide +kernel) rfl rfl rfl (by decide +kernel)
set_option maxRecDepth 65536 in
theorem w_c2 : (Jvm.Cond.code ({ cls := "com/example/metadata_for_discovery/metadatafordiscovery/search/Identifiers", name := "isPlain", desc := "([BII)Z" } : Jvm.MethodName) prog_49_method_2_code (5 : Nat) (Option.some Jvm.ClassFile.FieldType.boolean)).before args0 about1 = true := code_word (m := ⟨8, 0⟩) (meth := k8m0) (c := k8c0) (by decide +kernel) rfl rfl rfl (by decide +kernel)
def codes1 : List Jvm.Cond := [Jvm.Cond.code x code maxLocals ret, Jvm.Cond.code ({ cls := "com/example/metadata_for_discovery/metadatafordiscovery/search/IdentifiersIsPlainPinLaw", name := "fine", desc := "(BIII)Z" } : Jvm.MethodName) method_3_code (5 : Nat) (Option.some Jvm.ClassFile.FieldType.boolean), Jvm.Cond.code ({ cls := "com/example/metadata_for_discovery/metadatafordiscovery/search/Identifiers", name := "isPlain", desc := "([BII)Z" } : Jvm.MethodName) prog_49_method_2_code (5 : Nat) (Option.some Jvm.ClassFile.FieldType.boolean)]
set_option maxRecDepth 65536 in
theorem codes_eq : words1.filter isCode = codes1 := rfl
theorem w_codes : ∀ c ∈ words1.filter isCode, c.before args0 about1 = true := by
  rw [codes_eq]
  intro c hc
  simp only [codes1, List.mem_cons, List.not_mem_nil, or_false] at hc
  rcases hc with rfl | rfl | rfl
  · exact w_c0
  · exact w_c1
  · exact w_c2
set_option maxRecDepth 65536 in
theorem w_t1 : words1.all (fun c => isCode c || c.before args0 about1) = true := by decide +kernel
theorem w_tables : (allAtoms (Jvm.Cond.code x code maxLocals ret :: tables_1)).before args0 about1 = true := by
  rw [allAtoms_all]
  show words1.all (fun c => c.before args0 about1) = true
  refine all_split ?_ w_codes
  rw [w_t1]
set_option maxRecDepth 65536 in
theorem w_case : (Jvm.Cond.and given_1 narrow_1).before args0 about1 = true := by decide +kernel
theorem w_applies : (headSpec (Jvm.Cond.code x code maxLocals ret :: tables_1) room_1).applies x e0.platform about1 = true :=
  (Spec.applies_iff w_frames).mpr ⟨w_running, w_runnable, w_alone, w_named, w_hears, w_ripe, w_room, w_tables⟩
theorem atStart : AtStart classFile x code maxLocals ret World_1 tables_1 room_1 Calls_1 rest_1 Pre_1 launch0 p0 e0 about1 theMethod args0 below0 :=
  ⟨lists_1, trivial, launch0.admits_env _ _ _, launch0.least_env, fairChoices_fair.cas, fairChoices_fair.clock, w_frames, w_args, w_heap, w_applies, trivial, trivial, w_case⟩
end start1
theorem witness_1 : WitnessClaimed_1 := ⟨start1.p0, start1.e0, start1.about1, start1.theMethod, start1.args0, start1.below0, start1.atStart⟩
end Jvm.Pilot.@@N@@
