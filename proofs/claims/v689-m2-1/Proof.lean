import JvmDerived
import JvmDerived.Pilot.@@N@@Statement
import JvmDerived.Pilot.@@N@@Code
set_option linter.unusedVariables false
set_option linter.unusedSimpArgs false
@@BLOCK:NumsL.lean.txt@@
namespace Jvm.Pilot.@@N@@
open Jvm Jvm.ClassFile Sem Op Lib Jvm.Free Jvm.Stand Jvm.LawKit Jvm.RoadKit Bundle Jvm.Pilot.@@N@@.Jvm.D
/-- what a body still owes at the state U: that it comes to a return with Q, within kc cells and ks slots -/
def Ow (p : Program) (e : Env) (below : List Frame) (s : State) (Q : Option Value → Heap → List Loc → Prop) (kc ks : Nat) (U : State) : Prop :=
  ∃ s₂ o, Steps p.tables e below U s₂ ∧ s₂.status = .running ∧ Ended s₂ below o ∧ ∃ v L, o = .returned v ∧ Q v s₂.heap L ∧ FrameEnd s o s₂ L kc ks
def lsr64 (x : Int64) (y : Int32) : Int64 := ((x.toUInt64 >>> (y &&& 0x3f).toInt64.toUInt64).toInt64)
def lsr32 (x y : Int32) : Int32 := ((x.toUInt32 >>> (y &&& 31).toUInt32).toInt32)
section W
variable {p : Program} {l : Launch} {e : Env} {R : Room} {s : State} {m : MethodId} {args : Array Value} {below : List Frame} {meth : Method} {c : Code} {T : State} {locs : List Loc} {cells slots : Nat} {Q : Option Value → Heap → List Loc → Prop} {kc ks : Nat} {pc pc' : Nat} {Ls Ls' : Array Slot} {st : List Value} {Z : State} {a0 : Array Value} {h : Heap}
theorem Ow.go {U U' : State} (k : Steps p.tables e below U U') (o : Ow p e below s Q kc ks U') : Ow p e below s Q kc ks U := by
  obtain ⟨s₂, o', h1, h2⟩ := o
  exact ⟨s₂, o', k.trans h1, h2⟩
theorem Ow.via {U U' : State} (k : ∀ t, Steps p.tables e below U' t → Steps p.tables e below U t) (o : Ow p e below s Q kc ks U') : Ow p e below s Q kc ks U := Ow.go (k _ (Steps.refl _)) o
theorem Ow.enter {n : Nat} (q : entryFrame m args n = mkF m 0 Ls []) (k : Ow p e below s Q kc ks (T.setTop (mkF m 0 Ls []))) :
    ∃ s₂ o, Steps p.tables e below (T.setTop (entryFrame m args n)) s₂ ∧ s₂.status = .running ∧ Ended s₂ below o ∧ ∃ v L, o = .returned v ∧ Q v s₂.heap L ∧ FrameEnd s o s₂ L kc ks := by
  rw [q]; exact k
theorem Ow.join {U : State} (T' : State) (g' : JFrame) (f : Ow p e below s Q kc ks (T'.setTop g') → Ow p e below s Q kc ks U) (k : Ow p e below s Q kc ks (T'.setTop g')) : Ow p e below s Q kc ks U := f k
theorem w_iloadN (X : Stand p l e R s m args below meth c T locs cells slots) (hx : p.tables.exec = Jvm.exec) {k : Fin 4} {v : Int32} (hd : decode c.code pc = .ok (.iload_n k, 1)) (hl : Ls[k.val]? = some (.val (.int v))) (hp : pc + 1 = pc') (k : Ow p e below s Q kc ks (T.setTop (mkF m pc' Ls (.int v :: st)))) : Ow p e below s Q kc ks (T.setTop (mkF m pc Ls st)) := by
  subst hp; exact Ow.go (XS.iloadN X.here hx rfl hd hl (Steps.refl _)) k
theorem w_iload (X : Stand p l e R s m args below meth c T locs cells slots) (hx : p.tables.exec = Jvm.exec) {k : Nat} {v : Int32} (hd : decode c.code pc = .ok (.iload k, 2)) (hl : Ls[k]? = some (.val (.int v))) (hp : pc + 2 = pc') (k : Ow p e below s Q kc ks (T.setTop (mkF m pc' Ls (.int v :: st)))) : Ow p e below s Q kc ks (T.setTop (mkF m pc Ls st)) := by
  subst hp; exact Ow.go (XS.iload X.here hx rfl hd hl (Steps.refl _)) k
theorem w_istore (X : Stand p l e R s m args below meth c T locs cells slots) (hx : p.tables.exec = Jvm.exec) {k : Nat} {v : Int32} (hd : decode c.code pc = .ok (.istore k, 2)) (Ls' : Array Slot) (hl : storeLocals Ls k (.int v) = some Ls') (hp : pc + 2 = pc') (k : Ow p e below s Q kc ks (T.setTop (mkF m pc' Ls' st))) : Ow p e below s Q kc ks (T.setTop (mkF m pc Ls (.int v :: st))) := by
  subst hp; exact Ow.go (XS.istore X.here hx rfl hd rfl hl (Steps.refl _)) k
theorem w_lloadN (X : Stand p l e R s m args below meth c T locs cells slots) (hx : p.tables.exec = Jvm.exec) {k : Fin 4} {v : Int64} (hd : decode c.code pc = .ok (.lload_n k, 1)) (hl : Ls[k.val]? = some (.val (.long v))) (hp : pc + 1 = pc') (k : Ow p e below s Q kc ks (T.setTop (mkF m pc' Ls (.long v :: st)))) : Ow p e below s Q kc ks (T.setTop (mkF m pc Ls st)) := by
  subst hp; exact Ow.go (XS.lloadN X.here hx rfl hd hl (Steps.refl _)) k
theorem w_lload (X : Stand p l e R s m args below meth c T locs cells slots) (hx : p.tables.exec = Jvm.exec) {k : Nat} {v : Int64} (hd : decode c.code pc = .ok (.lload k, 2)) (hl : Ls[k]? = some (.val (.long v))) (hp : pc + 2 = pc') (k : Ow p e below s Q kc ks (T.setTop (mkF m pc' Ls (.long v :: st)))) : Ow p e below s Q kc ks (T.setTop (mkF m pc Ls st)) := by
  subst hp; exact Ow.go (XS.lload X.here hx rfl hd hl (Steps.refl _)) k
theorem w_aloadN (X : Stand p l e R s m args below meth c T locs cells slots) (hx : p.tables.exec = Jvm.exec) {k : Fin 4} {v : Value} (hd : decode c.code pc = .ok (.aload_n k, 1)) (hl : Ls[k.val]? = some (.val v)) (hv : v.isRef = true) (hp : pc + 1 = pc') (k : Ow p e below s Q kc ks (T.setTop (mkF m pc' Ls (v :: st)))) : Ow p e below s Q kc ks (T.setTop (mkF m pc Ls st)) := by
  subst hp; exact Ow.go (XS.aloadN X.here hx rfl hd hl hv (Steps.refl _)) k
theorem w_aload (X : Stand p l e R s m args below meth c T locs cells slots) (hx : p.tables.exec = Jvm.exec) {k : Nat} {v : Value} (hd : decode c.code pc = .ok (.aload k, 2)) (hl : Ls[k]? = some (.val v)) (hv : v.isRef = true) (hp : pc + 2 = pc') (k : Ow p e below s Q kc ks (T.setTop (mkF m pc' Ls (v :: st)))) : Ow p e below s Q kc ks (T.setTop (mkF m pc Ls st)) := by
  subst hp; exact Ow.go (XS.aload X.here hx rfl hd hl hv (Steps.refl _)) k
theorem w_astore (X : Stand p l e R s m args below meth c T locs cells slots) (hx : p.tables.exec = Jvm.exec) {k : Nat} {v : Value} (hd : decode c.code pc = .ok (.astore k, 2)) (Ls' : Array Slot) (hl : storeLocals Ls k v = some Ls') (hv : v.isRef = true) (hp : pc + 2 = pc') (k : Ow p e below s Q kc ks (T.setTop (mkF m pc' Ls' st))) : Ow p e below s Q kc ks (T.setTop (mkF m pc Ls (v :: st))) := by
  subst hp; exact Ow.go (XS.astore X.here hx rfl hd rfl hv hl (Steps.refl _)) k
theorem w_iconst (X : Stand p l e R s m args below meth c T locs cells slots) (hx : p.tables.exec = Jvm.exec) {i : Int} (v : Int32) (hd : decode c.code pc = .ok (.iconst i, 1)) (hv : Int32.ofInt i = v) (hp : pc + 1 = pc') (k : Ow p e below s Q kc ks (T.setTop (mkF m pc' Ls (.int v :: st)))) : Ow p e below s Q kc ks (T.setTop (mkF m pc Ls st)) := by
  subst hp hv; exact Ow.go (XS.iconst X.here hx rfl hd (Steps.refl _)) k
theorem w_bipush (X : Stand p l e R s m args below meth c T locs cells slots) (hx : p.tables.exec = Jvm.exec) {i : Int} (v : Int32) (hd : decode c.code pc = .ok (.bipush i, 2)) (hv : (Int8.ofInt i).toInt32 = v) (hp : pc + 2 = pc') (k : Ow p e below s Q kc ks (T.setTop (mkF m pc' Ls (.int v :: st)))) : Ow p e below s Q kc ks (T.setTop (mkF m pc Ls st)) := by
  subst hp hv; exact Ow.go (XS.bipush X.here hx rfl hd (Steps.refl _)) k
theorem w_sipush (X : Stand p l e R s m args below meth c T locs cells slots) (hx : p.tables.exec = Jvm.exec) {i : Int} (v : Int32) (hd : decode c.code pc = .ok (.sipush i, 3)) (hv : (Int16.ofInt i).toInt32 = v) (hp : pc + 3 = pc') (k : Ow p e below s Q kc ks (T.setTop (mkF m pc' Ls (.int v :: st)))) : Ow p e below s Q kc ks (T.setTop (mkF m pc Ls st)) := by
  subst hp hv; exact Ow.go (XS.sipush X.here hx rfl hd (Steps.refl _)) k
theorem w_aconst_null (X : Stand p l e R s m args below meth c T locs cells slots) (hx : p.tables.exec = Jvm.exec)  (hd : decode c.code pc = .ok (.aconst_null, 1))  (hp : pc + 1 = pc') (k : Ow p e below s Q kc ks (T.setTop (mkF m pc' Ls (.null :: st)))) : Ow p e below s Q kc ks (T.setTop (mkF m pc Ls st)) := by
  subst hp; exact Ow.go (XS.aconstNull X.here hx rfl hd  (Steps.refl _)) k
theorem w_ldcI (X : Stand p l e R s m args below meth c T locs cells slots) (hx : p.tables.exec = Jvm.exec) (hZ : Z.Warmed39 s.vm) {own : String} {index : Nat} {v : Int32} (hown : s.vm.findClass own = some m.cls) (w : (Cond.constant own index v).before a0 Z = true) (hd : decode c.code pc = .ok (.ldc index, 2)) (hp : pc + 2 = pc') (k : Ow p e below s Q kc ks (T.setTop (mkF m pc' Ls (.int v :: st)))) : Ow p e below s Q kc ks (T.setTop (mkF m pc Ls st)) := by
  subst hp; exact Ow.via (X.ldcInt hx hown (mvT hZ w) (g := mkF m pc Ls st) rfl hd) k
theorem w_ldc2J (X : Stand p l e R s m args below meth c T locs cells slots) (hx : p.tables.exec = Jvm.exec) (hZ : Z.Warmed39 s.vm) {own : String} {index : Nat} {v : Int64} (hown : s.vm.findClass own = some m.cls) (w : (Cond.constantLong own index v).before a0 Z = true) (hd : decode c.code pc = .ok (.ldc2_w index, 3)) (hp : pc + 3 = pc') (k : Ow p e below s Q kc ks (T.setTop (mkF m pc' Ls (.long v :: st)))) : Ow p e below s Q kc ks (T.setTop (mkF m pc Ls st)) := by
  subst hp; exact Ow.via (X.ldc2Long hx hown (mvT hZ w) (g := mkF m pc Ls st) rfl hd) k
theorem w_iadd (X : Stand p l e R s m args below meth c T locs cells slots) (hx : p.tables.exec = Jvm.exec) {x y : Int32} (hd : decode c.code pc = .ok (.iadd, 1))  (hp : pc + 1 = pc') (k : Ow p e below s Q kc ks (T.setTop (mkF m pc' Ls (.int (x + y) :: st)))) : Ow p e below s Q kc ks (T.setTop (mkF m pc Ls (.int y :: .int x :: st))) := by
  subst hp; exact Ow.go (XS.iadd X.here hx rfl hd rfl (Steps.refl _)) k
theorem w_isub (X : Stand p l e R s m args below meth c T locs cells slots) (hx : p.tables.exec = Jvm.exec) {x y : Int32} (hd : decode c.code pc = .ok (.isub, 1))  (hp : pc + 1 = pc') (k : Ow p e below s Q kc ks (T.setTop (mkF m pc' Ls (.int (x - y) :: st)))) : Ow p e below s Q kc ks (T.setTop (mkF m pc Ls (.int y :: .int x :: st))) := by
  subst hp; exact Ow.go (XS.isub X.here hx rfl hd rfl (Steps.refl _)) k
theorem w_imul (X : Stand p l e R s m args below meth c T locs cells slots) (hx : p.tables.exec = Jvm.exec) {x y : Int32} (hd : decode c.code pc = .ok (.imul, 1))  (hp : pc + 1 = pc') (k : Ow p e below s Q kc ks (T.setTop (mkF m pc' Ls (.int (x * y) :: st)))) : Ow p e below s Q kc ks (T.setTop (mkF m pc Ls (.int y :: .int x :: st))) := by
  subst hp; exact Ow.go (XS.imul X.here hx rfl hd rfl (Steps.refl _)) k
theorem w_iand (X : Stand p l e R s m args below meth c T locs cells slots) (hx : p.tables.exec = Jvm.exec) {x y : Int32} (hd : decode c.code pc = .ok (.iand, 1))  (hp : pc + 1 = pc') (k : Ow p e below s Q kc ks (T.setTop (mkF m pc' Ls (.int (x &&& y) :: st)))) : Ow p e below s Q kc ks (T.setTop (mkF m pc Ls (.int y :: .int x :: st))) := by
  subst hp; exact Ow.go (XS.iand X.here hx rfl hd rfl (Steps.refl _)) k
theorem w_land (X : Stand p l e R s m args below meth c T locs cells slots) (hx : p.tables.exec = Jvm.exec) {x y : Int64} (hd : decode c.code pc = .ok (.land, 1))  (hp : pc + 1 = pc') (k : Ow p e below s Q kc ks (T.setTop (mkF m pc' Ls (.long (x &&& y) :: st)))) : Ow p e below s Q kc ks (T.setTop (mkF m pc Ls (.long y :: .long x :: st))) := by
  subst hp; exact Ow.go (XS.land X.here hx rfl hd rfl (Steps.refl _)) k
theorem w_iushr (X : Stand p l e R s m args below meth c T locs cells slots) (hx : p.tables.exec = Jvm.exec) {x y : Int32} (hd : decode c.code pc = .ok (.iushr, 1))  (hp : pc + 1 = pc') (k : Ow p e below s Q kc ks (T.setTop (mkF m pc' Ls (.int (lsr32 x y) :: st)))) : Ow p e below s Q kc ks (T.setTop (mkF m pc Ls (.int y :: .int x :: st))) := by
  subst hp; exact Ow.go (XS.iushr X.here hx rfl hd rfl (Steps.refl _)) k
theorem w_lushr (X : Stand p l e R s m args below meth c T locs cells slots) (hx : p.tables.exec = Jvm.exec) {x : Int64} {y : Int32} (hd : decode c.code pc = .ok (.lushr, 1))  (hp : pc + 1 = pc') (k : Ow p e below s Q kc ks (T.setTop (mkF m pc' Ls (.long (lsr64 x y) :: st)))) : Ow p e below s Q kc ks (T.setTop (mkF m pc Ls (.int y :: .long x :: st))) := by
  subst hp; exact Ow.go (XS.lushr X.here hx rfl hd rfl (Steps.refl _)) k
theorem w_idiv (X : Stand p l e R s m args below meth c T locs cells slots) (hx : p.tables.exec = Jvm.exec) {x y : Int32} (hd : decode c.code pc = .ok (.idiv, 1)) (hy : ¬ y = 0) (hp : pc + 1 = pc') (k : Ow p e below s Q kc ks (T.setTop (mkF m pc' Ls (.int (x / y) :: st)))) : Ow p e below s Q kc ks (T.setTop (mkF m pc Ls (.int y :: .int x :: st))) := by
  subst hp; exact Ow.go (XS.idiv X.here hx rfl hd rfl hy (Steps.refl _)) k
theorem w_irem (X : Stand p l e R s m args below meth c T locs cells slots) (hx : p.tables.exec = Jvm.exec) {x y : Int32} (hd : decode c.code pc = .ok (.irem, 1)) (hy : ¬ y = 0) (hp : pc + 1 = pc') (k : Ow p e below s Q kc ks (T.setTop (mkF m pc' Ls (.int (x % y) :: st)))) : Ow p e below s Q kc ks (T.setTop (mkF m pc Ls (.int y :: .int x :: st))) := by
  subst hp; exact Ow.go (iremM X hx (g := mkF m pc Ls (.int y :: .int x :: st)) rfl hd rfl hy (Steps.refl _)) k
theorem w_l2i (X : Stand p l e R s m args below meth c T locs cells slots) (hx : p.tables.exec = Jvm.exec) {x : Int64} (hd : decode c.code pc = .ok (.l2i, 1))  (hp : pc + 1 = pc') (k : Ow p e below s Q kc ks (T.setTop (mkF m pc' Ls (.int (x.toInt32) :: st)))) : Ow p e below s Q kc ks (T.setTop (mkF m pc Ls (.long x :: st))) := by
  subst hp; exact Ow.go (XS.l2i X.here hx rfl hd rfl (Steps.refl _)) k
theorem w_iinc (X : Stand p l e R s m args below meth c T locs cells slots) (hx : p.tables.exec = Jvm.exec) {k : Nat} {i : Int} {x : Int32} (hd : decode c.code pc = .ok (.iinc k i, 3)) (hl : Ls[k]? = some (.val (.int x))) (Ls' : Array Slot) (hl' : storeLocals Ls k (.int (x + Int32.ofInt i)) = some Ls') (hp : pc + 3 = pc') (k : Ow p e below s Q kc ks (T.setTop (mkF m pc' Ls' st))) : Ow p e below s Q kc ks (T.setTop (mkF m pc Ls st)) := by
  subst hp; exact Ow.go (XS.iinc X.here hx rfl hd hl hl' (Steps.refl _)) k
theorem w_dup (X : Stand p l e R s m args below meth c T locs cells slots) (hx : p.tables.exec = Jvm.exec) {x : Value} (hd : decode c.code pc = .ok (.dup, 1)) (hc : x.category = 1) (hp : pc + 1 = pc') (k : Ow p e below s Q kc ks (T.setTop (mkF m pc' Ls (x :: x :: st)))) : Ow p e below s Q kc ks (T.setTop (mkF m pc Ls (x :: st))) := by
  subst hp; exact Ow.go (XS.dup X.here hx rfl hd rfl hc (Steps.refl _)) k
theorem w_pop (X : Stand p l e R s m args below meth c T locs cells slots) (hx : p.tables.exec = Jvm.exec) {x : Value} (hd : decode c.code pc = .ok (.pop, 1)) (hc : x.category = 1) (hp : pc + 1 = pc') (k : Ow p e below s Q kc ks (T.setTop (mkF m pc' Ls st))) : Ow p e below s Q kc ks (T.setTop (mkF m pc Ls (x :: st))) := by
  subst hp; exact Ow.go (XS.pop X.here hx rfl hd rfl hc (Steps.refl _)) k
theorem w_goto (X : Stand p l e R s m args below meth c T locs cells slots) (hx : p.tables.exec = Jvm.exec) {o : Int} (hd : decode c.code pc = .ok (.goto o, 3)) (ho : 0 ≤ (pc : Int) + o) (hp : ((pc : Int) + o).toNat = pc') (k : Ow p e below s Q kc ks (T.setTop (mkF m pc' Ls st))) : Ow p e below s Q kc ks (T.setTop (mkF m pc Ls st)) := by
  exact Ow.go (XS.goto X.here hx rfl (pc0 := pc) rfl hd ho hp (Steps.refl _)) k
theorem w_if_eq (X : Stand p l e R s m args below meth c T locs cells slots) (hx : p.tables.exec = Jvm.exec) {x : Int32} {o : Int} {pcT pcF : Nat} (hd : decode c.code pc = .ok (.ifCond .eq o, 3)) (ho : 0 ≤ (pc : Int) + o) (ht : ((pc : Int) + o).toNat = pcT) (hp : pc + 3 = pcF) (k1 : x = (0 : Int32) → Ow p e below s Q kc ks (T.setTop (mkF m pcT Ls st))) (k2 : ¬ (x = (0 : Int32)) → Ow p e below s Q kc ks (T.setTop (mkF m pcF Ls st))) : Ow p e below s Q kc ks (T.setTop (mkF m pc Ls (.int x :: st))) := by
  subst hp
  by_cases q : x = (0 : Int32)
  · exact Ow.go (XS.ifYes X.here hx rfl (pc0 := pc) rfl hd rfl ((if0 _ _).trans (teq q).1) ho ht (Steps.refl _)) (k1 q)
  · exact Ow.go (XS.ifNo X.here hx rfl hd rfl ((if0 _ _).trans (feq q).1) (Steps.refl _)) (k2 q)
theorem w_icmp_ne (X : Stand p l e R s m args below meth c T locs cells slots) (hx : p.tables.exec = Jvm.exec) {x y : Int32} {o : Int} {pcT pcF : Nat} (hd : decode c.code pc = .ok (.if_icmp .ne o, 3)) (ho : 0 ≤ (pc : Int) + o) (ht : ((pc : Int) + o).toNat = pcT) (hp : pc + 3 = pcF) (k1 : ¬ (x = y) → Ow p e below s Q kc ks (T.setTop (mkF m pcT Ls st))) (k2 : x = y → Ow p e below s Q kc ks (T.setTop (mkF m pcF Ls st))) : Ow p e below s Q kc ks (T.setTop (mkF m pc Ls (.int y :: .int x :: st))) := by
  subst hp
  by_cases q : x = y
  · exact Ow.go (XS.icmpNo X.here hx rfl hd rfl (teq q).2 (Steps.refl _)) (k2 q)
  · exact Ow.go (XS.icmpYes X.here hx rfl (pc0 := pc) rfl hd rfl (feq q).2 ho ht (Steps.refl _)) (k1 q)
theorem w_if_ne (X : Stand p l e R s m args below meth c T locs cells slots) (hx : p.tables.exec = Jvm.exec) {x : Int32} {o : Int} {pcT pcF : Nat} (hd : decode c.code pc = .ok (.ifCond .ne o, 3)) (ho : 0 ≤ (pc : Int) + o) (ht : ((pc : Int) + o).toNat = pcT) (hp : pc + 3 = pcF) (k1 : ¬ (x = (0 : Int32)) → Ow p e below s Q kc ks (T.setTop (mkF m pcT Ls st))) (k2 : x = (0 : Int32) → Ow p e below s Q kc ks (T.setTop (mkF m pcF Ls st))) : Ow p e below s Q kc ks (T.setTop (mkF m pc Ls (.int x :: st))) := by
  subst hp
  by_cases q : x = (0 : Int32)
  · exact Ow.go (XS.ifNo X.here hx rfl hd rfl ((if0 _ _).trans (teq q).2) (Steps.refl _)) (k2 q)
  · exact Ow.go (XS.ifYes X.here hx rfl (pc0 := pc) rfl hd rfl ((if0 _ _).trans (feq q).2) ho ht (Steps.refl _)) (k1 q)
theorem w_icmp_lt (X : Stand p l e R s m args below meth c T locs cells slots) (hx : p.tables.exec = Jvm.exec) {x y : Int32} {o : Int} {pcT pcF : Nat} (hd : decode c.code pc = .ok (.if_icmp .lt o, 3)) (ho : 0 ≤ (pc : Int) + o) (ht : ((pc : Int) + o).toNat = pcT) (hp : pc + 3 = pcF) (k1 : x < y → Ow p e below s Q kc ks (T.setTop (mkF m pcT Ls st))) (k2 : ¬ (x < y) → Ow p e below s Q kc ks (T.setTop (mkF m pcF Ls st))) : Ow p e below s Q kc ks (T.setTop (mkF m pc Ls (.int y :: .int x :: st))) := by
  subst hp
  by_cases q : x < y
  · exact Ow.go (XS.icmpYes X.here hx rfl (pc0 := pc) rfl hd rfl (tlt q).1 ho ht (Steps.refl _)) (k1 q)
  · exact Ow.go (XS.icmpNo X.here hx rfl hd rfl (flt q).1 (Steps.refl _)) (k2 q)
theorem w_if_lt (X : Stand p l e R s m args below meth c T locs cells slots) (hx : p.tables.exec = Jvm.exec) {x : Int32} {o : Int} {pcT pcF : Nat} (hd : decode c.code pc = .ok (.ifCond .lt o, 3)) (ho : 0 ≤ (pc : Int) + o) (ht : ((pc : Int) + o).toNat = pcT) (hp : pc + 3 = pcF) (k1 : x < (0 : Int32) → Ow p e below s Q kc ks (T.setTop (mkF m pcT Ls st))) (k2 : ¬ (x < (0 : Int32)) → Ow p e below s Q kc ks (T.setTop (mkF m pcF Ls st))) : Ow p e below s Q kc ks (T.setTop (mkF m pc Ls (.int x :: st))) := by
  subst hp
  by_cases q : x < (0 : Int32)
  · exact Ow.go (XS.ifYes X.here hx rfl (pc0 := pc) rfl hd rfl ((if0 _ _).trans (tlt q).1) ho ht (Steps.refl _)) (k1 q)
  · exact Ow.go (XS.ifNo X.here hx rfl hd rfl ((if0 _ _).trans (flt q).1) (Steps.refl _)) (k2 q)
theorem w_icmp_ge (X : Stand p l e R s m args below meth c T locs cells slots) (hx : p.tables.exec = Jvm.exec) {x y : Int32} {o : Int} {pcT pcF : Nat} (hd : decode c.code pc = .ok (.if_icmp .ge o, 3)) (ho : 0 ≤ (pc : Int) + o) (ht : ((pc : Int) + o).toNat = pcT) (hp : pc + 3 = pcF) (k1 : ¬ (x < y) → Ow p e below s Q kc ks (T.setTop (mkF m pcT Ls st))) (k2 : x < y → Ow p e below s Q kc ks (T.setTop (mkF m pcF Ls st))) : Ow p e below s Q kc ks (T.setTop (mkF m pc Ls (.int y :: .int x :: st))) := by
  subst hp
  by_cases q : x < y
  · exact Ow.go (XS.icmpNo X.here hx rfl hd rfl (tlt q).2.1 (Steps.refl _)) (k2 q)
  · exact Ow.go (XS.icmpYes X.here hx rfl (pc0 := pc) rfl hd rfl (flt q).2.1 ho ht (Steps.refl _)) (k1 q)
theorem w_if_ge (X : Stand p l e R s m args below meth c T locs cells slots) (hx : p.tables.exec = Jvm.exec) {x : Int32} {o : Int} {pcT pcF : Nat} (hd : decode c.code pc = .ok (.ifCond .ge o, 3)) (ho : 0 ≤ (pc : Int) + o) (ht : ((pc : Int) + o).toNat = pcT) (hp : pc + 3 = pcF) (k1 : ¬ (x < (0 : Int32)) → Ow p e below s Q kc ks (T.setTop (mkF m pcT Ls st))) (k2 : x < (0 : Int32) → Ow p e below s Q kc ks (T.setTop (mkF m pcF Ls st))) : Ow p e below s Q kc ks (T.setTop (mkF m pc Ls (.int x :: st))) := by
  subst hp
  by_cases q : x < (0 : Int32)
  · exact Ow.go (XS.ifNo X.here hx rfl hd rfl ((if0 _ _).trans (tlt q).2.1) (Steps.refl _)) (k2 q)
  · exact Ow.go (XS.ifYes X.here hx rfl (pc0 := pc) rfl hd rfl ((if0 _ _).trans (flt q).2.1) ho ht (Steps.refl _)) (k1 q)
theorem w_ireturn (X : Stand p l e R s m args below meth c T locs cells slots) (hx : p.tables.exec = Jvm.exec) {z : Int32} (hret : meth.sig.returnType = some .int)  (hlk : meth.locks = false) (hc : cells ≤ kc) (hs : slots ≤ ks) (hd : decode c.code pc = .ok (.ireturn, 1)) (hq : Q (some (.int z)) T.heap locs) : Ow p e below s Q kc ks (T.setTop (mkF m pc Ls (.int z :: st))) := by
  obtain ⟨fs, hr, hrun, hended, hW, hsame⟩ := X.leave (v := some (.int z)) (fun h => by rw [hret] at h; cases h) hlk
  exact ⟨_, _, retOut X hx (t := .int) hret rfl (Or.inl ⟨rfl, Or.inl rfl, _, rfl⟩) hd hr, hrun, hended, _, _, rfl, hq, ⟨_, rfl⟩, hW, hsame.mono hc hs⟩
theorem w_zreturn (X : Stand p l e R s m args below meth c T locs cells slots) (hx : p.tables.exec = Jvm.exec) {z : Int32} (hret : meth.sig.returnType = some .boolean) (hz : z = 0 ∨ z = 1) (hlk : meth.locks = false) (hc : cells ≤ kc) (hs : slots ≤ ks) (hd : decode c.code pc = .ok (.ireturn, 1)) (hq : Q (some (.int z)) T.heap locs) : Ow p e below s Q kc ks (T.setTop (mkF m pc Ls (.int z :: st))) := by
  obtain ⟨fs, hr, hrun, hended, hW, hsame⟩ := X.leave (v := some (.int z)) (fun h => by rw [hret] at h; cases h) hlk
  exact ⟨_, _, retOut X hx (t := .boolean) hret (by rcases hz with rfl | rfl <;> rfl) (Or.inl ⟨rfl, Or.inr (Or.inl rfl), _, rfl⟩) hd hr, hrun, hended, _, _, rfl, hq, ⟨_, rfl⟩, hW, hsame.mono hc hs⟩
theorem w_areturn (X : Stand p l e R s m args below meth c T locs cells slots) (hx : p.tables.exec = Jvm.exec) {a : Addr} {t : FieldType} (hret : meth.sig.returnType = some t) (ht : t.isReference = true) (hn : narrow t (.ref a) = .ref a) (hlk : meth.locks = false) (hc : cells ≤ kc) (hs : slots ≤ ks) (hd : decode c.code pc = .ok (.areturn, 1)) (hq : Q (some (.ref a)) T.heap locs) : Ow p e below s Q kc ks (T.setTop (mkF m pc Ls (.ref a :: st))) := by
  obtain ⟨fs, hr, hrun, hended, hW, hsame⟩ := X.leave (v := some (.ref a)) (fun h => by rw [hret] at h; cases h) hlk
  exact ⟨_, _, retOut X hx (t := t) hret hn (Or.inr (Or.inr (Or.inr (Or.inr ⟨rfl, ht, rfl⟩)))) hd hr, hrun, hended, _, _, rfl, hq, ⟨_, rfl⟩, hW, hsame.mono hc hs⟩
theorem w_return (X : Stand p l e R s m args below meth c T locs cells slots) (hx : p.tables.exec = Jvm.exec) (hret : meth.sig.returnType = none) (hlk : meth.locks = false) (hc : cells ≤ kc) (hs : slots ≤ ks) (hd : decode c.code pc = .ok (.return_, 1)) (hq : Q none T.heap locs) : Ow p e below s Q kc ks (T.setTop (mkF m pc Ls [])) := by
  obtain ⟨fs, hr, hrun, hended, hW, hsame⟩ := X.leave (v := none) (fun _ => rfl) hlk
  exact ⟨_, _, X.returnOut hx hret hd hr, hrun, hended, _, _, rfl, hq, ⟨_, rfl⟩, hW, hsame.mono hc hs⟩
theorem w_getfield (X : Stand p l e R s m args below meth c T locs cells slots) (hx : p.tables.exec = Jvm.exec) (hZ : Z.Warmed39 s.vm) {own R0 O n d host : String} {index : Nat} (hown : s.vm.findClass own = some m.cls) (w : (Cond.fieldLink own index R0 n d).before a0 Z = true ∨ (Cond.fieldLinkNest own index R0 n d host).before a0 Z = true) (via : Via Z R0 O n d) (eT : T.heap = h) {a : Addr} {v : Value} (F : Fld Z h a O n d v) (hd : decode c.code pc = .ok (.getfield index, 3)) (hp : pc + 3 = pc') (k : ∀ T', Stand p l e R s m args below meth c T' locs cells slots → T'.heap = h → Ow p e below s Q kc ks (T'.setTop (mkF m pc' Ls (v :: st)))) : Ow p e below s Q kc ks (T.setTop (mkF m pc Ls (.ref a :: st))) := by
  subst hp
  obtain ⟨T', X', e', st'⟩ := getF X hx hZ hown w via eT F (g := mkF m pc Ls (.ref a :: st)) rfl rfl hd
  exact Ow.via st' (k T' X' e')
theorem w_putfield (X : Stand p l e R s m args below meth c T locs cells slots) (hx : p.tables.exec = Jvm.exec) (hZ : Z.Warmed39 s.vm) {own R0 O n d host C : String} {index kk : Nat} {ty : FieldType} (hown : s.vm.findClass own = some m.cls) (w : (Cond.fieldLink own index R0 n d).before a0 Z = true ∨ (Cond.fieldLinkNest own index R0 n d host).before a0 Z = true) (via : Via Z R0 O n d) (eT : T.heap = h) {a : Addr} {v old : Value} (F : Fld Z h a O n d old) (E : Exa Z h a C) (L : (Cond.lays C O n d).before a0 Z = true ∨ ((Cond.laysFinal C O n d).before a0 Z = true ∧ own = O ∧ meth.name = "<init>")) (wi : (Cond.instantiable C kk).before a0 Z = true) (hty : parseFieldDescriptor d = some ty) (hn : narrow ty v = v) (hf : fits ty v = true) (hd : decode c.code pc = .ok (.putfield index, 3)) (hp : pc + 3 = pc') (k : ∀ T' h', Stand p l e R s m args below meth c T' (locs ++ [⟨a, RoadKit.slotOf Z O n d⟩]) cells slots → T'.heap = h' → Wr h h' a (RoadKit.slotOf Z O n d) v → Ow p e below s Q kc ks (T'.setTop (mkF m pc' Ls st))) : Ow p e below s Q kc ks (T.setTop (mkF m pc Ls (v :: .ref a :: st))) := by
  subst hp
  obtain ⟨T', h', X', e', W', st'⟩ := putF X hx hZ hown w via eT F E L wi hty hn hf (g := mkF m pc Ls (v :: .ref a :: st)) rfl rfl hd
  exact Ow.via st' (k T' h' X' e' W')
theorem w_new (X : Stand p l e R s m args below meth c T locs cells slots) (hx : p.tables.exec = Jvm.exec) (hZ : Z.Warmed39 s.vm) {own C : String} {index n : Nat} (hown : s.vm.findClass own = some m.cls) (w : (Cond.classLink own index C).before a0 Z = true) (wi : (Cond.instantiable C n).before a0 Z = true) (wz : (Cond.initialized C).before a0 Z = true) (eT : T.heap = h) (hd : decode c.code pc = .ok (.new index, 3)) (hc : cells + 1 ≤ R.cells) (hl : slots + n ≤ R.slots) (hp : pc + 3 = pc') (k : ∀ T' h' a, a = h.size → Stand p l e R s m args below meth c T' locs (cells + 1) (slots + n) → T'.heap = h' → Ext h h' → Exa Z h' a C → (∀ {O nm d : String} {ty : FieldType}, Laid Z a0 C O nm d → parseFieldDescriptor d = some ty → Fld Z h' a O nm d (defaultValue ty)) → Ow p e below s Q kc ks (T'.setTop (mkF m pc' Ls (.ref a :: st)))) : Ow p e below s Q kc ks (T.setTop (mkF m pc Ls st)) := by
  subst hp
  obtain ⟨T', h', X', e', E', A', D', -, st'⟩ := newO X hx hZ hown w wi wz eT (g := mkF m pc Ls st) rfl hd hc hl
  exact Ow.via st' (k T' h' _ rfl X' e' E' A' D')
theorem w_objinit (X : Stand p l e R s m args below meth c T locs cells slots) (hx : p.tables.exec = Jvm.exec) (hZ : Z.Warmed39 s.vm) {own : String} {idx : Nat} (hown : s.vm.findClass own = some m.cls) (w1 : (Cond.methodLink own idx Lib.objectInit).before a0 Z = true) (w2 : (Cond.instanceMethod Lib.objectInit).before a0 Z = true) (w3 : (Cond.code Lib.objectInit ⟨#[0xb1]⟩ 1 none).before a0 Z = true) (eT : T.heap = h) {a : Addr} (hd : decode c.code pc = .ok (.invokespecial idx, 3)) (hsz : Ls.size = c.maxLocals) (hf : 1 ≤ R.frames) {W : Nat} (hW : (st.map fun v => v.category).sum ≤ W) (hl : W + 12 ≤ R.locals) (hp : pc + 3 = pc') (k : ∀ T', Stand p l e R s m args below meth c T' locs cells slots → T'.heap = h → Ow p e below s Q kc ks (T'.setTop (mkF m pc' Ls st))) : Ow p e below s Q kc ks (T.setTop (mkF m pc Ls (.ref a :: st))) := by
  subst hp
  obtain ⟨T', X', e', st'⟩ := initO X hx hZ hown w1 w2 w3 eT (g := mkF m pc Ls (.ref a :: st)) rfl hsz rfl hd hf (W := W) (by show 2 * 0 + _ ≤ _; omega) hl
  exact Ow.via st' (k T' X' e')
theorem w_callS (X : Stand p l e R s m args below meth c T locs cells slots) (hx : p.tables.exec = Jvm.exec) (hZ : Z.Warmed39 s.vm) {own : String} {index : Nat} {y : MethodName} {bytes : ByteArray} {maxL : Nat} {ret : Option FieldType} (hown : s.vm.findClass own = some m.cls) (w1 : (Cond.methodLink own index y).before a0 Z = true) (w2 : (Cond.static y).before a0 Z = true) (w3 : (Cond.initialized y.cls).before a0 Z = true) (w4 : (Cond.code y bytes maxL ret).before a0 Z = true) (hy : y.cls ≠ "java/lang/invoke/MethodHandle" ∧ y.cls ≠ "java/lang/invoke/VarHandle") {rm : Room} {as' : Array Value} {Qf : Option Value → Heap → List Loc → Prop} {W : Nat} (hM : MetFree l y (head1 [Cond.code y bytes maxL ret] rm) (fun a U => a = as' ∧ Z.Warmed39 U.vm ∧ U.heap = h) (fun _ _ _ _ _ => True) (fun _ U o U' => ∃ v L, o = .returned v ∧ Qf v U'.heap L ∧ FrameEnd U o U' L rm.cells rm.slots)) (eT : T.heap = h) (hf : rm.frames + 1 ≤ R.frames) (hlo : W + (maxL + 11) + rm.locals ≤ R.locals) (hc : cells + rm.cells ≤ R.cells) (hs : slots + rm.slots ≤ R.slots) (hd : decode c.code pc = .ok (.invokestatic index, 3)) (hsz : Ls.size = c.maxLocals) {argsL rest : List Value} {ps : List FieldType} {r : Option FieldType} (pd : parseMethodDescriptor y.desc = some ⟨ps, r⟩) (hlen : argsL.length = ps.length) (hst : st = argsL.reverse ++ rest) (has : argsL.toArray = as') (hW : (rest.map fun v => v.category).sum ≤ W) (hp : pc + 3 = pc') (k : ∀ v T' L, Stand p l e R s m args below meth c T' (locs ++ L) (cells + rm.cells) (slots + rm.slots) → Qf v T'.heap L → Ow p e below s Q kc ks (T'.setTop (mkF m pc' Ls (v.toList ++ rest)))) : Ow p e below s Q kc ks (T.setTop (mkF m pc Ls st)) := by
  subst hp
  obtain ⟨v, vm₁, ⟨T', L', k', n'⟩, -, X', ⟨L, hq, l1, y1, z1⟩, st'⟩ := Jvm.LawKit.callS X hx hown (mvT hZ w1) (mvT hZ w2) (mvT hZ w3) (mvT hZ w4) hy (backOf (W := W) hM hZ w4 w3 hf hlo) (g := mkF m pc Ls st) rfl hsz (argsL := argsL) (rest := rest) (lenOf pd hlen) hst (by show 2 * 0 + _ ≤ _; omega) hd (fun _ _ => ⟨has, eT, hc, hs⟩)
  dsimp only [Pt.U, Pt.locs, Pt.cells, Pt.slots] at X' l1 y1 z1 st' hq
  subst l1 y1 z1
  exact Ow.via st' (k v T' L X' hq)
theorem w_callN (X : Stand p l e R s m args below meth c T locs cells slots) (hx : p.tables.exec = Jvm.exec) (hZ : Z.Warmed39 s.vm) {own : String} {index : Nat} {y : MethodName} {bytes : ByteArray} {maxL : Nat} (hy1 : y.name = "<init>") (hown : s.vm.findClass own = some m.cls) (w1 : (Cond.methodLink own index y).before a0 Z = true) (w2 : (Cond.instanceMethod y).before a0 Z = true) (w3 : (Cond.initialized y.cls).before a0 Z = true) (w4 : (Cond.code y bytes maxL none).before a0 Z = true) (hy : y.cls ≠ "java/lang/invoke/MethodHandle" ∧ y.cls ≠ "java/lang/invoke/VarHandle") {rm : Room} {as' : Array Value} {Qf : Option Value → Heap → List Loc → Prop} {W : Nat} (hM : MetFree l y (head1 [Cond.code y bytes maxL none] rm) (fun a U => a = as' ∧ Z.Warmed39 U.vm ∧ U.heap = h) (fun _ _ _ _ _ => True) (fun _ U o U' => ∃ v L, o = .returned v ∧ Qf v U'.heap L ∧ FrameEnd U o U' L rm.cells rm.slots)) (eT : T.heap = h) (hf : rm.frames + 1 ≤ R.frames) (hlo : W + (maxL + 11) + rm.locals ≤ R.locals) (hc : cells + rm.cells ≤ R.cells) (hs : slots + rm.slots ≤ R.slots) (hd : decode c.code pc = .ok (.invokespecial index, 3)) (hsz : Ls.size = c.maxLocals) {a : Addr} {argsL rest : List Value} {ps : List FieldType} {r : Option FieldType} (pd : parseMethodDescriptor y.desc = some ⟨ps, r⟩) (hlen : argsL.length = ps.length) (hst : st = argsL.reverse ++ .ref a :: rest) (has : (Value.ref a :: argsL).toArray = as') (hW : (rest.map fun v => v.category).sum ≤ W) (hp : pc + 3 = pc') (k : ∀ v T' L, Stand p l e R s m args below meth c T' (locs ++ L) (cells + rm.cells) (slots + rm.slots) → Qf v T'.heap L → Ow p e below s Q kc ks (T'.setTop (mkF m pc' Ls (v.toList ++ rest)))) : Ow p e below s Q kc ks (T.setTop (mkF m pc Ls st)) := by
  subst hp
  obtain ⟨v, vm₁, ⟨T', L', k', n'⟩, -, X', ⟨L, hq, l1, y1, z1⟩, st'⟩ := X.specialBack hx hy1 hown (mvT hZ w1) (mvT hZ w2) (mvT hZ w4) hy (backOf (W := W) hM hZ w4 w3 hf hlo) (g := mkF m pc Ls st) rfl hsz (Steps.refl _) (a := a) (argsL := argsL) (rest := rest) (lenOf pd hlen) hst (by show 2 * 0 + _ ≤ _; omega) hd (fun _ _ => ⟨has, eT, hc, hs⟩)
  dsimp only [Pt.U, Pt.locs, Pt.cells, Pt.slots] at X' l1 y1 z1 st' hq
  subst l1 y1 z1
  exact Ow.go st' (k v T' L X' hq)
theorem w_callV (X : Stand p l e R s m args below meth c T locs cells slots) (hx : p.tables.exec = Jvm.exec) (hZ : Z.Warmed39 s.vm) {own C : String} {index : Nat} {y z : MethodName} {bytes : ByteArray} {maxL : Nat} {ret : Option FieldType} (hown : s.vm.findClass own = some m.cls) (w1 : (Cond.methodLink own index y).before a0 Z = true) (w2 : (Cond.declares y).before a0 Z = true) (nf : NotFace s y) (w5 : (Cond.selects C y z).before a0 Z = true) (w6 : (Cond.instanceMethod z).before a0 Z = true) (w3 : (Cond.initialized z.cls).before a0 Z = true) (w4 : (Cond.code z bytes maxL ret).before a0 Z = true) (hy : y.cls ≠ "java/lang/invoke/MethodHandle" ∧ y.cls ≠ "java/lang/invoke/VarHandle") {rm : Room} {as' : Array Value} {Qf : Option Value → Heap → List Loc → Prop} {W : Nat} (hM : MetFree l z (head1 [Cond.code z bytes maxL ret] rm) (fun a U => a = as' ∧ Z.Warmed39 U.vm ∧ U.heap = h) (fun _ _ _ _ _ => True) (fun _ U o U' => ∃ v L, o = .returned v ∧ Qf v U'.heap L ∧ FrameEnd U o U' L rm.cells rm.slots)) (eT : T.heap = h) (hf : rm.frames + 1 ≤ R.frames) (hlo : W + (maxL + 11) + rm.locals ≤ R.locals) (hc : cells + rm.cells ≤ R.cells) (hs : slots + rm.slots ≤ R.slots) {a : Addr} (E : Exa Z h a C) (hd : decode c.code pc = .ok (.invokevirtual index, 3)) (hsz : Ls.size = c.maxLocals) {argsL rest : List Value} {ps : List FieldType} {r : Option FieldType} (pd : parseMethodDescriptor y.desc = some ⟨ps, r⟩) (hlen : argsL.length = ps.length) (hst : st = argsL.reverse ++ .ref a :: rest) (has : (Value.ref a :: argsL).toArray = as') (hW : (rest.map fun v => v.category).sum ≤ W) (hp : pc + 3 = pc') (k : ∀ v T' L, Stand p l e R s m args below meth c T' (locs ++ L) (cells + rm.cells) (slots + rm.slots) → Qf v T'.heap L → Ow p e below s Q kc ks (T'.setTop (mkF m pc' Ls (v.toList ++ rest)))) : Ow p e below s Q kc ks (T.setTop (mkF m pc Ls st)) := by
  subst hp
  obtain ⟨cB, kB, qa, qb, qc⟩ := isOf hZ eT E
  obtain ⟨v, vm₁, ⟨T', L', k', n'⟩, -, X', ⟨L, hq, l1, y1, z1⟩, st'⟩ := X.virtualBack hx (y := y) (z := z) hown (mvT hZ w1) (mvT hZ w2) nf (mvT hZ w5) (mvT hZ w6) hy (backOf (W := W) hM hZ w4 w3 hf hlo) qa qc (g := mkF m pc Ls st) rfl hsz (Steps.refl _) (argsL := argsL) (rest := rest) (lenOf pd hlen) hst (by show 2 * 0 + _ ≤ _; omega) hd (fun _ _ => ⟨has, eT, hc, hs⟩)
  dsimp only [Pt.U, Pt.locs, Pt.cells, Pt.slots] at X' l1 y1 z1 st' hq
  subst l1 y1 z1
  exact Ow.go st' (k v T' L X' hq)
theorem w_newarray (X : Stand p l e R s m args below meth c T locs cells slots) (hx : p.tables.exec = Jvm.exec) (hZ : Z.Warmed39 s.vm) {aty : ArrayType} (w : (Cond.arrayClass (newarray.typeOf aty)).before a0 Z = true) (eT : T.heap = h) {n : Int32} (hd : decode c.code pc = .ok (.newarray aty, 2)) (hn : ¬ n < 0) {cap : Nat} (hcap : n.toNatClampNeg ≤ cap) (hb : cap * 8 ≤ 536870912) (hc : cells + 1 ≤ R.cells) (hl : slots + cap ≤ R.slots) {ad : String} (had : "[" ++ (newarray.typeOf aty).toString = ad) (hp : pc + 2 = pc') (k : ∀ T' h' a cA, a = h.size → Stand p l e R s m args below meth c T' locs (cells + 1) (slots + cap) → T'.heap = h' → Ext h h' → Arr Z h' a (newA cA (newarray.typeOf aty) n) (newarray.typeOf aty) → Exa Z h' a ad → Ow p e below s Q kc ks (T'.setTop (mkF m pc' Ls (.ref a :: st)))) : Ow p e below s Q kc ks (T.setTop (mkF m pc Ls (.int n :: st))) := by
  subst hp
  obtain ⟨T', h', cA, X', e', E', A', B', st'⟩ := newPE X hx hZ w eT (g := mkF m pc Ls (.int n :: st)) rfl hd rfl hn hcap hb hc hl had
  exact Ow.via st' (k T' h' _ cA rfl X' e' E' A' B')
theorem w_iastore (X : Stand p l e R s m args below meth c T locs cells slots) (hx : p.tables.exec = Jvm.exec) (hZ : Z.Warmed39 s.vm) (eT : T.heap = h) {a : Addr} {cl : Cell} (A : Arr Z h a cl .int) {j x : Int32} (hj : ¬ (j < 0 ∨ cl.slots.size ≤ j.toNatClampNeg)) (hd : decode c.code pc = .ok (.iastore, 1)) (hp : pc + 1 = pc') (k : ∀ T' h', Stand p l e R s m args below meth c T' (locs ++ [⟨a, j.toNatClampNeg⟩]) cells slots → T'.heap = h' → Wr h h' a j.toNatClampNeg (.int x) → Ow p e below s Q kc ks (T'.setTop (mkF m pc' Ls st))) : Ow p e below s Q kc ks (T.setTop (mkF m pc Ls (.int x :: .int j :: .ref a :: st))) := by
  subst hp
  obtain ⟨T', h', X', e', W', st'⟩ := stI X hx hZ eT A hj (g := mkF m pc Ls (.int x :: .int j :: .ref a :: st)) rfl rfl hd
  exact Ow.via st' (k T' h' X' e' W')
theorem w_bastore (X : Stand p l e R s m args below meth c T locs cells slots) (hx : p.tables.exec = Jvm.exec) (hZ : Z.Warmed39 s.vm) (eT : T.heap = h) {a : Addr} {cl : Cell} (A : Arr Z h a cl .byte) {j x : Int32} (hj : ¬ (j < 0 ∨ cl.slots.size ≤ j.toNatClampNeg)) (hd : decode c.code pc = .ok (.bastore, 1)) (hp : pc + 1 = pc') (k : ∀ T' h', Stand p l e R s m args below meth c T' (locs ++ [⟨a, j.toNatClampNeg⟩]) cells slots → T'.heap = h' → Wr h h' a j.toNatClampNeg (.int (nar .byte x)) → Ow p e below s Q kc ks (T'.setTop (mkF m pc' Ls st))) : Ow p e below s Q kc ks (T.setTop (mkF m pc Ls (.int x :: .int j :: .ref a :: st))) := by
  subst hp
  obtain ⟨T', h', X', e', W', st'⟩ := stB X hx hZ eT A hj (g := mkF m pc Ls (.int x :: .int j :: .ref a :: st)) rfl rfl hd
  exact Ow.via st' (k T' h' X' e' W')
theorem w_iaload (X : Stand p l e R s m args below meth c T locs cells slots) (hx : p.tables.exec = Jvm.exec) (hZ : Z.Warmed39 s.vm) (eT : T.heap = h) {a : Addr} {cl : Cell} (A : Arr Z h a cl .int) {j x : Int32} (hj : ¬ (j < 0 ∨ cl.slots.size ≤ j.toNatClampNeg)) (hv : cl.slots[j.toNatClampNeg]? = some (.int x)) (hd : decode c.code pc = .ok (.iaload, 1)) (hp : pc + 1 = pc') (k : Ow p e below s Q kc ks (T.setTop (mkF m pc' Ls (.int x :: st)))) : Ow p e below s Q kc ks (T.setTop (mkF m pc Ls (.int j :: .ref a :: st))) := by
  subst hp
  exact Ow.via (X.iaload hx (j := j) (v := .int x) (by rw [eT]; exact A.1) (State.isArrayOf_alike hZ.alike A.2.1) A.2.2 hj hv (g := mkF m pc Ls (.int j :: .ref a :: st)) rfl rfl hd) k
theorem w_baload (X : Stand p l e R s m args below meth c T locs cells slots) (hx : p.tables.exec = Jvm.exec) (hZ : Z.Warmed39 s.vm) (eT : T.heap = h) {a : Addr} {cl : Cell} (A : Arr Z h a cl .byte) {j x : Int32} (hj : ¬ (j < 0 ∨ cl.slots.size ≤ j.toNatClampNeg)) (hv : cl.slots[j.toNatClampNeg]? = some (.int x)) (hd : decode c.code pc = .ok (.baload, 1)) (hp : pc + 1 = pc') (k : Ow p e below s Q kc ks (T.setTop (mkF m pc' Ls (.int x :: st)))) : Ow p e below s Q kc ks (T.setTop (mkF m pc Ls (.int j :: .ref a :: st))) := by
  subst hp
  exact Ow.via (X.baloadBytes hx (j := j) (v := .int x) (by rw [eT]; exact A.1) (State.isArrayOf_alike hZ.alike A.2.1) A.2.2 hj hv (g := mkF m pc Ls (.int j :: .ref a :: st)) rfl rfl hd) k
theorem w_arraylength (X : Stand p l e R s m args below meth c T locs cells slots) (hx : p.tables.exec = Jvm.exec) (hZ : Z.Warmed39 s.vm) (eT : T.heap = h) {a : Addr} {cl : Cell} {ty : FieldType} (A : Arr Z h a cl ty) {n : Int32} (hn : cl.slots.size.toInt32 = n) (hd : decode c.code pc = .ok (.arraylength, 1)) (hp : pc + 1 = pc') (k : Ow p e below s Q kc ks (T.setTop (mkF m pc' Ls (.int n :: st)))) : Ow p e below s Q kc ks (T.setTop (mkF m pc Ls (.ref a :: st))) := by
  subst hp hn
  exact Ow.via (X.arraylength hx (by rw [eT]; exact A.1) (State.isArrayOf_alike hZ.alike A.2.1) (g := mkF m pc Ls (.ref a :: st)) rfl rfl hd) k
end W
section IA
/-- an array of ints or of bytes: its length, and what lies at each place -/
def IAr (Z : State) (h : Heap) (a : Addr) (ty : FieldType) (n : Nat) (f : Nat → Int32) : Prop := ∃ cl : Cell, Arr Z h a cl ty ∧ cl.slots.size = n ∧ n < 2 ^ 31 ∧ ∀ i, i < n → cl.slots[i]? = some (.int (f i))
variable {Z : State} {h h' : Heap} {a b : Addr} {ty : FieldType} {n i sl : Nat} {f f' : Nat → Int32} {x : Int32} {v : Value} {ws : List Addr}
theorem own_clamp {j : Int32} {i : Nat} (hj : j.toInt = (i : Int)) : j.toNatClampNeg = i := by
  show j.toInt.toNat = i
  rw [hj]; exact Int.toNat_natCast i
theorem own_zero : (0 : Int32).toInt = 0 := by decide
theorem own_inb {j : Int32} {cl : Cell} (hj : j.toInt = (i : Int)) (hs : cl.slots.size = n) (hi : i < n) : ¬ (j < 0 ∨ cl.slots.size ≤ j.toNatClampNeg) := by
  rw [own_clamp hj, hs]
  rintro (q | q)
  · rw [Int32.lt_iff_toInt_lt, hj, own_zero] at q; omega
  · omega
theorem IAr.lt (A : IAr Z h a ty n f) : a < h.size := by obtain ⟨cl, A, -⟩ := A; exact A.lt
theorem IAr.ext (A : IAr Z h a ty n f) (E : Ext h h') : IAr Z h' a ty n f := by obtain ⟨cl, A, r⟩ := A; exact ⟨cl, A.ext E, r⟩
theorem IAr.keep (A : IAr Z h a ty n f) (K : Keep h h' ws) (q : a ∉ ws) : IAr Z h' a ty n f := by obtain ⟨cl, A, r⟩ := A; exact ⟨cl, ⟨K.2.1 a cl A.1 q, A.2⟩, r⟩
theorem IAr.other (A : IAr Z h b ty n f) (W : Wr h h' a sl v) (q : b ≠ a) : IAr Z h' b ty n f := by obtain ⟨cl, A, r⟩ := A; exact ⟨cl, A.other W q, r⟩
theorem IAr.congr (A : IAr Z h a ty n f) (q : ∀ i, i < n → f i = f' i) : IAr Z h a ty n f' := by obtain ⟨cl, A, r1, r2, r3⟩ := A; exact ⟨cl, A, r1, r2, fun i hi => by rw [← q i hi]; exact r3 i hi⟩
theorem own_slot_hit {cl : Cell} {k : Nat} {v : Value} (hk : k < cl.slots.size) : (cl.setSlot k v).slots[k]? = some v := by
  show (cl.slots.setIfInBounds k v)[k]? = some v
  rw [Array.getElem?_setIfInBounds_self_of_lt hk]
theorem own_slot_miss {cl : Cell} {k i : Nat} {v : Value} (q : i ≠ k) : (cl.setSlot i v).slots[k]? = cl.slots[k]? := by
  show (cl.slots.setIfInBounds i v)[k]? = cl.slots[k]?
  rw [Array.getElem?_setIfInBounds_ne q]
theorem IAr.set (A : IAr Z h a ty n f) (W : Wr h h' a i (.int x)) (hi : i < n) : IAr Z h' a ty n (upd f i x) := by
  obtain ⟨cl, A, hs, hn, H⟩ := A
  refine ⟨_, A.same W, by rw [sz_set]; exact hs, hn, fun k hk => ?_⟩
  by_cases q : k = i
  · subst q; rw [own_slot_hit (by omega)]; show _ = some (Value.int (if k = k then x else f k)); rw [if_pos rfl]
  · rw [own_slot_miss (fun z => q z.symm), H k hk]; show _ = some (Value.int (if k = i then x else f k)); rw [if_neg q]
theorem IAr.new {cA : ClassId} {z : Int32} (A : Arr Z h a (newA cA ty z) ty) (hd : defaultValue ty = .int 0) (hz : z.toInt = (n : Int)) : IAr Z h a ty n (fun _ => 0) := by
  have hn : n < 2 ^ 31 := by have := Int32.toInt_lt z; omega
  refine ⟨_, A, by rw [sz_new, own_clamp hz], hn, fun i hi => ?_⟩
  show (Array.replicate z.toNatClampNeg (defaultValue ty))[i]? = _
  rw [own_clamp hz, hd, Array.getElem?_replicate, if_pos hi]
theorem IAr.len (A : IAr Z h a ty n f) : n < 2 ^ 31 := by obtain ⟨cl, -, -, hn, -⟩ := A; exact hn
end IA
section WA
variable {p : Program} {l : Launch} {e : Env} {R : Room} {s : State} {m : MethodId} {args : Array Value} {below : List Frame} {meth : Method} {c : Code} {T : State} {locs : List Loc} {cells slots : Nat} {Q : Option Value → Heap → List Loc → Prop} {kc ks : Nat} {pc pc' : Nat} {Ls Ls' : Array Slot} {st : List Value} {Z : State} {a0 : Array Value} {h : Heap} {a : Addr} {n i : Nat} {f : Nat → Int32} {j x : Int32}
theorem w_ialoadA (X : Stand p l e R s m args below meth c T locs cells slots) (hx : p.tables.exec = Jvm.exec) (hZ : Z.Warmed39 s.vm) (eT : T.heap = h) (A : IAr Z h a .int n f) (i : Nat) (hj : j.toInt = (i : Int)) (hi : i < n) (hd : decode c.code pc = .ok (.iaload, 1)) (hp : pc + 1 = pc') (k : Ow p e below s Q kc ks (T.setTop (mkF m pc' Ls (.int (f i) :: st)))) : Ow p e below s Q kc ks (T.setTop (mkF m pc Ls (.int j :: .ref a :: st))) := by
  obtain ⟨cl, A, hs, hn, H⟩ := A
  exact w_iaload X hx hZ eT A (own_inb hj hs hi) (by rw [own_clamp hj]; exact H i hi) hd hp k
theorem w_baloadA (X : Stand p l e R s m args below meth c T locs cells slots) (hx : p.tables.exec = Jvm.exec) (hZ : Z.Warmed39 s.vm) (eT : T.heap = h) (A : IAr Z h a .byte n f) (i : Nat) (hj : j.toInt = (i : Int)) (hi : i < n) (hd : decode c.code pc = .ok (.baload, 1)) (hp : pc + 1 = pc') (k : Ow p e below s Q kc ks (T.setTop (mkF m pc' Ls (.int (f i) :: st)))) : Ow p e below s Q kc ks (T.setTop (mkF m pc Ls (.int j :: .ref a :: st))) := by
  obtain ⟨cl, A, hs, hn, H⟩ := A
  exact w_baload X hx hZ eT A (own_inb hj hs hi) (by rw [own_clamp hj]; exact H i hi) hd hp k
theorem w_iastoreA (X : Stand p l e R s m args below meth c T locs cells slots) (hx : p.tables.exec = Jvm.exec) (hZ : Z.Warmed39 s.vm) (eT : T.heap = h) (A : IAr Z h a .int n f) (i : Nat) (hj : j.toInt = (i : Int)) (hi : i < n) (hd : decode c.code pc = .ok (.iastore, 1)) (hp : pc + 1 = pc') (k : ∀ T' h', Stand p l e R s m args below meth c T' (locs ++ [⟨a, i⟩]) cells slots → T'.heap = h' → Wr h h' a i (.int x) → IAr Z h' a .int n (upd f i x) → Ow p e below s Q kc ks (T'.setTop (mkF m pc' Ls st))) : Ow p e below s Q kc ks (T.setTop (mkF m pc Ls (.int x :: .int j :: .ref a :: st))) := by
  have A0 := A
  obtain ⟨cl, A, hs, hn, H⟩ := A
  refine w_iastore X hx hZ eT A (own_inb hj hs hi) hd hp ?_
  intro T' h' X' e' W'
  rw [own_clamp hj] at X' W'
  exact k T' h' X' e' W' (A0.set W' hi)
theorem w_bastoreA (X : Stand p l e R s m args below meth c T locs cells slots) (hx : p.tables.exec = Jvm.exec) (hZ : Z.Warmed39 s.vm) (eT : T.heap = h) (A : IAr Z h a .byte n f) (i : Nat) (hj : j.toInt = (i : Int)) (hi : i < n) (hd : decode c.code pc = .ok (.bastore, 1)) (hp : pc + 1 = pc') (k : ∀ T' h', Stand p l e R s m args below meth c T' (locs ++ [⟨a, i⟩]) cells slots → T'.heap = h' → Wr h h' a i (.int (nar .byte x)) → IAr Z h' a .byte n (upd f i (nar .byte x)) → Ow p e below s Q kc ks (T'.setTop (mkF m pc' Ls st))) : Ow p e below s Q kc ks (T.setTop (mkF m pc Ls (.int x :: .int j :: .ref a :: st))) := by
  have A0 := A
  obtain ⟨cl, A, hs, hn, H⟩ := A
  refine w_bastore X hx hZ eT A (own_inb hj hs hi) hd hp ?_
  intro T' h' X' e' W'
  rw [own_clamp hj] at X' W'
  exact k T' h' X' e' W' (A0.set W' hi)
theorem w_lengthA (X : Stand p l e R s m args below meth c T locs cells slots) (hx : p.tables.exec = Jvm.exec) (hZ : Z.Warmed39 s.vm) (eT : T.heap = h) {ty : FieldType} (A : IAr Z h a ty n f) (z : Int32) (hz : z.toInt = (n : Int)) (hd : decode c.code pc = .ok (.arraylength, 1)) (hp : pc + 1 = pc') (k : Ow p e below s Q kc ks (T.setTop (mkF m pc' Ls (.int z :: st)))) : Ow p e below s Q kc ks (T.setTop (mkF m pc Ls (.ref a :: st))) := by
  obtain ⟨cl, A, hs, hn, H⟩ := A
  refine w_arraylength X hx hZ eT A ?_ hd hp k
  rw [hs]; exact Int32.toInt_inj.mp ((len_toInt hn).trans hz.symm)
end WA
section CP
variable {p : Program} {l : Launch} {e : Env} {R : Room} {s : State} {m : MethodId} {args : Array Value} {below : List Frame} {meth : Method} {c : Code} {T : State} {locs : List Loc} {cells slots : Nat} {Q : Option Value → Heap → List Loc → Prop} {kc ks : Nat} {pc pc' : Nat} {Ls : Array Slot} {st : List Value} {Z : State} {a0 : Array Value} {h : Heap} {a b : Addr} {n n' : Nat} {f f' : Nat → Int32}
theorem IAr.arv {z : Int32} (A : IAr Z h a .int n f) (hz : z.toInt = (n : Int)) : ∃ k, Arv Z h a k .int z ((List.range n).map fun i => Value.int (f i)) (.int 0) := by
  obtain ⟨cl, A, hs, hn, H⟩ := A
  have hg : ∀ i, i < n → ((List.range n).map fun i => Value.int (f i)).getD i (.int 0) = .int (f i) := fun i hi => by
    rw [List.getD_eq_getElem?_getD, List.getElem?_map, List.getElem?_range hi]; rfl
  refine ⟨cl.cls, cl, A, rfl, by rw [hs, own_clamp hz], fun q => ?_, fun i hi => ?_, fun i hi => ?_⟩
  · rw [Int32.lt_iff_toInt_lt, hz, own_zero] at q; omega
  · rw [hs] at hi; rw [hg i hi]; exact H i hi
  · rw [hs] at hi; rw [hg i hi]; rfl
theorem IAr.of_arv {z : Int32} {k : ClassId} {vs : List Value} {d : Value} (A : Arv Z h a k .int z vs d) (hz : z.toInt = (n : Int)) (q : ∀ i, i < n → vs.getD i d = .int (f i)) : IAr Z h a .int n f := by
  obtain ⟨cl, A, -, hs, -, H, -⟩ := A
  rw [own_clamp hz] at hs
  exact ⟨cl, A, hs, by have := Int32.toInt_lt z; omega, fun i hi => by rw [H i (by omega), q i hi]⟩
end CP
section CL
variable {p : Program} {l : Launch} {e : Env} {R : Room} {s : State} {m : MethodId} {args : Array Value} {below : List Frame} {meth : Method} {c : Code} {T : State} {locs : List Loc} {cells slots : Nat} {Q : Option Value → Heap → List Loc → Prop} {kc ks : Nat} {pc pc' : Nat} {Ls : Array Slot} {st : List Value} {Z : State} {a0 : Array Value} {h : Heap} {a b : Addr} {n n' : Nat} {f f' : Nat → Int32}
theorem w_cloneA (X : Stand p l e R s m args below meth c T locs cells slots) (hx : p.tables.exec = Jvm.exec) (hZ : Z.Warmed39 s.vm) {own : String} {index : Nat} (hown : s.vm.findClass own = some m.cls)
    (w1 : (Cond.methodLink own index ⟨"[I", "clone", "()Ljava/lang/Object;"⟩).before a0 Z = true) (w2 : (Cond.sameMethod "[I" "java/lang/Object" "clone" "()Ljava/lang/Object;").before a0 Z = true) (w3 : (Cond.native ⟨"java/lang/Object", "clone", "()Ljava/lang/Object;"⟩).before a0 Z = true)
    (w4 : (Cond.instanceMethod ⟨"java/lang/Object", "clone", "()Ljava/lang/Object;"⟩).before a0 Z = true) (w5 : (Cond.selects "[I" ⟨"[I", "clone", "()Ljava/lang/Object;"⟩ ⟨"java/lang/Object", "clone", "()Ljava/lang/Object;"⟩).before a0 Z = true) (w6 : (Cond.castable "[I" "java/lang/Cloneable").before a0 Z = true)
    (eT : T.heap = h) (A : IAr Z h a .int n f) (E : Exa Z h a "[I") {z : Int32} (hz : z.toInt = (n : Int)) (hd : decode c.code pc = .ok (.invokevirtual index, 3)) (hsz : Ls.size = c.maxLocals) (hf : 1 ≤ R.frames) {W cap : Nat} (hW : (st.map fun v => v.category).sum ≤ W) (hl : W + 14 ≤ R.locals) (hcap : n ≤ cap) (hc : cells + 1 ≤ R.cells) (hsl : slots + cap ≤ R.slots) (hp : pc + 3 = pc')
    (k : ∀ T' h' a', a' = h.size → Stand p l e R s m args below meth c T' locs (cells + 1) (slots + cap) → T'.heap = h' → Ext h h' → IAr Z h' a' .int n f → Exa Z h' a' "[I" → Ow p e below s Q kc ks (T'.setTop (mkF m pc' Ls (.ref a' :: st)))) :
    Ow p e below s Q kc ks (T.setTop (mkF m pc Ls (.ref a :: st))) := by
  subst hp
  obtain ⟨kA, VA⟩ := A.arv hz
  obtain ⟨T', h', X', e', E', V', B', st'⟩ := cloneH X hx hZ hown w1 w2 w3 w4 w5 w6 eT VA.arh E (g := mkF m pc Ls (.ref a :: st)) rfl hsz rfl hd hf (W := W) (cap := cap) (by show 2 * 0 + _ ≤ _; omega) hl (by rw [own_clamp hz]; exact hcap) hc hsl
  refine Ow.via st' (k T' h' _ rfl X' e' E' ?_ B')
  obtain ⟨cl, A', -, hs, -, H, -⟩ := V'
  rw [own_clamp hz] at hs
  refine ⟨cl, A', hs, by have := Int32.toInt_lt z; omega, fun i hi => ?_⟩
  rw [H i (by omega)]
  show some (((List.range n).map fun i => Value.int (f i)).getD i (.int 0)) = _
  rw [List.getD_eq_getElem?_getD, List.getElem?_map, List.getElem?_range hi]; rfl
theorem w_checkcastA (X : Stand p l e R s m args below meth c T locs cells slots) (hx : p.tables.exec = Jvm.exec) (hZ : Z.Warmed39 s.vm) {own K : String} {index : Nat} (hown : s.vm.findClass own = some m.cls) (w : (Cond.classLink own index K).before a0 Z = true) (eT : T.heap = h) (F : Ins Z h a K true) (hd : decode c.code pc = .ok (.checkcast index, 3)) (hp : pc + 3 = pc')
    (k : ∀ T', Stand p l e R s m args below meth c T' locs cells slots → T'.heap = h → Ow p e below s Q kc ks (T'.setTop (mkF m pc' Ls (.ref a :: st)))) : Ow p e below s Q kc ks (T.setTop (mkF m pc Ls (.ref a :: st))) := by
  subst hp
  obtain ⟨T', X', e', st'⟩ := castY X hx hZ hown w eT F (g := mkF m pc Ls (.ref a :: st)) rfl rfl hd
  exact Ow.via st' (k T' X' e')
end CL
theorem d1_0 : decode jdk_29_method_65_code 0 = .ok (.iload_n 0, 1) := by decide +kernel
theorem d1_1 : decode jdk_29_method_65_code 1 = .ok (.iload_n 1, 1) := by decide +kernel
theorem d1_2 : decode jdk_29_method_65_code 2 = .ok (.if_icmp .lt 7, 3) := by decide +kernel
theorem d1_9 : decode jdk_29_method_65_code 9 = .ok (.iload_n 1, 1) := by decide +kernel
theorem d1_10 : decode jdk_29_method_65_code 10 = .ok (.ireturn, 1) := by decide +kernel
theorem d1_5 : decode jdk_29_method_65_code 5 = .ok (.iload_n 0, 1) := by decide +kernel
theorem d1_6 : decode jdk_29_method_65_code 6 = .ok (.goto 4, 3) := by decide +kernel
theorem ef_1 (m : MethodId) (p0 : Int32) (p1 : Int32) : entryFrame m #[(.int p0), (.int p1)] 2 = mkF m 0 #[.val (.int p0), .val (.int p1)] [] := by first | (simp [entryFrame, mkF, argsToLocals, Value.category]; done) | rfl
theorem d2_0 : decode method_3_code 0 = .ok (.lload_n 0, 1) := by decide +kernel
theorem d2_1 : decode method_3_code 1 = .ok (.ldc2_w 49, 3) := by decide +kernel
theorem d2_4 : decode method_3_code 4 = .ok (.land, 1) := by decide +kernel
theorem d2_5 : decode method_3_code 5 = .ok (.l2i, 1) := by decide +kernel
theorem d2_6 : decode method_3_code 6 = .ok (.ireturn, 1) := by decide +kernel
theorem ef_2 (m : MethodId) (q0 : Int64) : entryFrame m #[(.long q0)] 2 = mkF m 0 #[.val (.long q0), .second] [] := by first | (simp [entryFrame, mkF, argsToLocals, Value.category]; done) | rfl
theorem pn_0 : plainName "com/example/sarutahiko/sarutahiko/heatmap/HeatMapOfCellsPinLaw" = true := by first | (simp [plainName, overriddenIn]; done) | decide +kernel
theorem d3_0 : decode method_4_code 0 = .ok (.lload_n 0, 1) := by decide +kernel
theorem d3_1 : decode method_4_code 1 = .ok (.bipush 32, 2) := by decide +kernel
theorem d3_3 : decode method_4_code 3 = .ok (.lushr, 1) := by decide +kernel
theorem d3_4 : decode method_4_code 4 = .ok (.ldc2_w 49, 3) := by decide +kernel
theorem d3_7 : decode method_4_code 7 = .ok (.land, 1) := by decide +kernel
theorem d3_8 : decode method_4_code 8 = .ok (.l2i, 1) := by decide +kernel
theorem d3_9 : decode method_4_code 9 = .ok (.ireturn, 1) := by decide +kernel
theorem ef_3 (m : MethodId) (q0 : Int64) : entryFrame m #[(.long q0)] 2 = mkF m 0 #[.val (.long q0), .second] [] := by first | (simp [entryFrame, mkF, argsToLocals, Value.category]; done) | rfl
theorem d4_0 : decode method_5_code 0 = .ok (.lload_n 0, 1) := by decide +kernel
theorem d4_1 : decode method_5_code 1 = .ok (.bipush 16, 2) := by decide +kernel
theorem d4_3 : decode method_5_code 3 = .ok (.lushr, 1) := by decide +kernel
theorem d4_4 : decode method_5_code 4 = .ok (.ldc2_w 49, 3) := by decide +kernel
theorem d4_7 : decode method_5_code 7 = .ok (.land, 1) := by decide +kernel
theorem d4_8 : decode method_5_code 8 = .ok (.l2i, 1) := by decide +kernel
theorem d4_9 : decode method_5_code 9 = .ok (.ireturn, 1) := by decide +kernel
theorem ef_4 (m : MethodId) (q0 : Int64) : entryFrame m #[(.long q0)] 2 = mkF m 0 #[.val (.long q0), .second] [] := by first | (simp [entryFrame, mkF, argsToLocals, Value.category]; done) | rfl
theorem d5_0 : decode method_6_code 0 = .ok (.iload_n 0, 1) := by decide +kernel
theorem d5_1 : decode method_6_code 1 = .ok (.iconst 1, 1) := by decide +kernel
theorem d5_2 : decode method_6_code 2 = .ok (.if_icmp .ne 13, 3) := by decide +kernel
theorem d5_15 : decode method_6_code 15 = .ok (.iload_n 0, 1) := by decide +kernel
theorem d5_16 : decode method_6_code 16 = .ok (.iconst 2, 1) := by decide +kernel
theorem d5_17 : decode method_6_code 17 = .ok (.if_icmp .ne 19, 3) := by decide +kernel
theorem d5_36 : decode method_6_code 36 = .ok (.iload_n 0, 1) := by decide +kernel
theorem d5_37 : decode method_6_code 37 = .ok (.iconst 3, 1) := by decide +kernel
theorem d5_38 : decode method_6_code 38 = .ok (.if_icmp .ne 25, 3) := by decide +kernel
theorem d5_63 : decode method_6_code 63 = .ok (.iload_n 0, 1) := by decide +kernel
theorem d5_64 : decode method_6_code 64 = .ok (.iconst 4, 1) := by decide +kernel
theorem d5_65 : decode method_6_code 65 = .ok (.if_icmp .ne 31, 3) := by decide +kernel
theorem d5_96 : decode method_6_code 96 = .ok (.iload_n 0, 1) := by decide +kernel
theorem d5_97 : decode method_6_code 97 = .ok (.bipush 6, 2) := by decide +kernel
theorem d5_99 : decode method_6_code 99 = .ok (.if_icmp .ne 44, 3) := by decide +kernel
theorem d5_143 : decode method_6_code 143 = .ok (.bipush 9, 2) := by decide +kernel
theorem d5_145 : decode method_6_code 145 = .ok (.newarray .int, 2) := by decide +kernel
theorem d5_147 : decode method_6_code 147 = .ok (.dup, 1) := by decide +kernel
theorem d5_148 : decode method_6_code 148 = .ok (.iconst 0, 1) := by decide +kernel
theorem d5_149 : decode method_6_code 149 = .ok (.aload_n 1, 1) := by decide +kernel
theorem d5_150 : decode method_6_code 150 = .ok (.iconst 0, 1) := by decide +kernel
theorem d5_151 : decode method_6_code 151 = .ok (.iaload, 1) := by decide +kernel
theorem d5_152 : decode method_6_code 152 = .ok (.iastore, 1) := by decide +kernel
theorem d5_153 : decode method_6_code 153 = .ok (.dup, 1) := by decide +kernel
theorem d5_154 : decode method_6_code 154 = .ok (.iconst 1, 1) := by decide +kernel
theorem d5_155 : decode method_6_code 155 = .ok (.aload_n 1, 1) := by decide +kernel
theorem d5_156 : decode method_6_code 156 = .ok (.iconst 1, 1) := by decide +kernel
theorem d5_157 : decode method_6_code 157 = .ok (.iaload, 1) := by decide +kernel
theorem d5_158 : decode method_6_code 158 = .ok (.iastore, 1) := by decide +kernel
theorem d5_159 : decode method_6_code 159 = .ok (.dup, 1) := by decide +kernel
theorem d5_160 : decode method_6_code 160 = .ok (.iconst 2, 1) := by decide +kernel
theorem d5_161 : decode method_6_code 161 = .ok (.aload_n 1, 1) := by decide +kernel
theorem d5_162 : decode method_6_code 162 = .ok (.iconst 2, 1) := by decide +kernel
theorem d5_163 : decode method_6_code 163 = .ok (.iaload, 1) := by decide +kernel
theorem d5_164 : decode method_6_code 164 = .ok (.iastore, 1) := by decide +kernel
theorem d5_165 : decode method_6_code 165 = .ok (.dup, 1) := by decide +kernel
theorem d5_166 : decode method_6_code 166 = .ok (.iconst 3, 1) := by decide +kernel
theorem d5_167 : decode method_6_code 167 = .ok (.aload_n 1, 1) := by decide +kernel
theorem d5_168 : decode method_6_code 168 = .ok (.iconst 3, 1) := by decide +kernel
theorem d5_169 : decode method_6_code 169 = .ok (.iaload, 1) := by decide +kernel
theorem d5_170 : decode method_6_code 170 = .ok (.iastore, 1) := by decide +kernel
theorem d5_171 : decode method_6_code 171 = .ok (.dup, 1) := by decide +kernel
theorem d5_172 : decode method_6_code 172 = .ok (.iconst 4, 1) := by decide +kernel
theorem d5_173 : decode method_6_code 173 = .ok (.aload_n 1, 1) := by decide +kernel
theorem d5_174 : decode method_6_code 174 = .ok (.iconst 4, 1) := by decide +kernel
theorem d5_175 : decode method_6_code 175 = .ok (.iaload, 1) := by decide +kernel
theorem d5_176 : decode method_6_code 176 = .ok (.iastore, 1) := by decide +kernel
theorem d5_177 : decode method_6_code 177 = .ok (.dup, 1) := by decide +kernel
theorem d5_178 : decode method_6_code 178 = .ok (.iconst 5, 1) := by decide +kernel
theorem d5_179 : decode method_6_code 179 = .ok (.aload_n 1, 1) := by decide +kernel
theorem d5_180 : decode method_6_code 180 = .ok (.iconst 5, 1) := by decide +kernel
theorem d5_181 : decode method_6_code 181 = .ok (.iaload, 1) := by decide +kernel
theorem d5_182 : decode method_6_code 182 = .ok (.iastore, 1) := by decide +kernel
theorem d5_183 : decode method_6_code 183 = .ok (.dup, 1) := by decide +kernel
theorem d5_184 : decode method_6_code 184 = .ok (.bipush 6, 2) := by decide +kernel
theorem d5_186 : decode method_6_code 186 = .ok (.aload_n 1, 1) := by decide +kernel
theorem d5_187 : decode method_6_code 187 = .ok (.bipush 6, 2) := by decide +kernel
theorem d5_189 : decode method_6_code 189 = .ok (.iaload, 1) := by decide +kernel
theorem d5_190 : decode method_6_code 190 = .ok (.iastore, 1) := by decide +kernel
theorem d5_191 : decode method_6_code 191 = .ok (.dup, 1) := by decide +kernel
theorem d5_192 : decode method_6_code 192 = .ok (.bipush 7, 2) := by decide +kernel
theorem d5_194 : decode method_6_code 194 = .ok (.aload_n 1, 1) := by decide +kernel
theorem d5_195 : decode method_6_code 195 = .ok (.bipush 7, 2) := by decide +kernel
theorem d5_197 : decode method_6_code 197 = .ok (.iaload, 1) := by decide +kernel
theorem d5_198 : decode method_6_code 198 = .ok (.iastore, 1) := by decide +kernel
theorem d5_199 : decode method_6_code 199 = .ok (.dup, 1) := by decide +kernel
theorem d5_200 : decode method_6_code 200 = .ok (.bipush 8, 2) := by decide +kernel
theorem d5_202 : decode method_6_code 202 = .ok (.aload_n 1, 1) := by decide +kernel
theorem d5_203 : decode method_6_code 203 = .ok (.bipush 8, 2) := by decide +kernel
theorem d5_205 : decode method_6_code 205 = .ok (.iaload, 1) := by decide +kernel
theorem d5_206 : decode method_6_code 206 = .ok (.iastore, 1) := by decide +kernel
theorem d5_207 : decode method_6_code 207 = .ok (.areturn, 1) := by decide +kernel
theorem d5_102 : decode method_6_code 102 = .ok (.bipush 6, 2) := by decide +kernel
theorem d5_104 : decode method_6_code 104 = .ok (.newarray .int, 2) := by decide +kernel
theorem d5_106 : decode method_6_code 106 = .ok (.dup, 1) := by decide +kernel
theorem d5_107 : decode method_6_code 107 = .ok (.iconst 0, 1) := by decide +kernel
theorem d5_108 : decode method_6_code 108 = .ok (.aload_n 1, 1) := by decide +kernel
theorem d5_109 : decode method_6_code 109 = .ok (.iconst 0, 1) := by decide +kernel
theorem d5_110 : decode method_6_code 110 = .ok (.iaload, 1) := by decide +kernel
theorem d5_111 : decode method_6_code 111 = .ok (.iastore, 1) := by decide +kernel
theorem d5_112 : decode method_6_code 112 = .ok (.dup, 1) := by decide +kernel
theorem d5_113 : decode method_6_code 113 = .ok (.iconst 1, 1) := by decide +kernel
theorem d5_114 : decode method_6_code 114 = .ok (.aload_n 1, 1) := by decide +kernel
theorem d5_115 : decode method_6_code 115 = .ok (.iconst 1, 1) := by decide +kernel
theorem d5_116 : decode method_6_code 116 = .ok (.iaload, 1) := by decide +kernel
theorem d5_117 : decode method_6_code 117 = .ok (.iastore, 1) := by decide +kernel
theorem d5_118 : decode method_6_code 118 = .ok (.dup, 1) := by decide +kernel
theorem d5_119 : decode method_6_code 119 = .ok (.iconst 2, 1) := by decide +kernel
theorem d5_120 : decode method_6_code 120 = .ok (.aload_n 1, 1) := by decide +kernel
theorem d5_121 : decode method_6_code 121 = .ok (.iconst 2, 1) := by decide +kernel
theorem d5_122 : decode method_6_code 122 = .ok (.iaload, 1) := by decide +kernel
theorem d5_123 : decode method_6_code 123 = .ok (.iastore, 1) := by decide +kernel
theorem d5_124 : decode method_6_code 124 = .ok (.dup, 1) := by decide +kernel
theorem d5_125 : decode method_6_code 125 = .ok (.iconst 3, 1) := by decide +kernel
theorem d5_126 : decode method_6_code 126 = .ok (.aload_n 1, 1) := by decide +kernel
theorem d5_127 : decode method_6_code 127 = .ok (.iconst 3, 1) := by decide +kernel
theorem d5_128 : decode method_6_code 128 = .ok (.iaload, 1) := by decide +kernel
theorem d5_129 : decode method_6_code 129 = .ok (.iastore, 1) := by decide +kernel
theorem d5_130 : decode method_6_code 130 = .ok (.dup, 1) := by decide +kernel
theorem d5_131 : decode method_6_code 131 = .ok (.iconst 4, 1) := by decide +kernel
theorem d5_132 : decode method_6_code 132 = .ok (.aload_n 1, 1) := by decide +kernel
theorem d5_133 : decode method_6_code 133 = .ok (.iconst 4, 1) := by decide +kernel
theorem d5_134 : decode method_6_code 134 = .ok (.iaload, 1) := by decide +kernel
theorem d5_135 : decode method_6_code 135 = .ok (.iastore, 1) := by decide +kernel
theorem d5_136 : decode method_6_code 136 = .ok (.dup, 1) := by decide +kernel
theorem d5_137 : decode method_6_code 137 = .ok (.iconst 5, 1) := by decide +kernel
theorem d5_138 : decode method_6_code 138 = .ok (.aload_n 1, 1) := by decide +kernel
theorem d5_139 : decode method_6_code 139 = .ok (.iconst 5, 1) := by decide +kernel
theorem d5_140 : decode method_6_code 140 = .ok (.iaload, 1) := by decide +kernel
theorem d5_141 : decode method_6_code 141 = .ok (.iastore, 1) := by decide +kernel
theorem d5_142 : decode method_6_code 142 = .ok (.areturn, 1) := by decide +kernel
theorem d5_68 : decode method_6_code 68 = .ok (.iconst 4, 1) := by decide +kernel
theorem d5_69 : decode method_6_code 69 = .ok (.newarray .int, 2) := by decide +kernel
theorem d5_71 : decode method_6_code 71 = .ok (.dup, 1) := by decide +kernel
theorem d5_72 : decode method_6_code 72 = .ok (.iconst 0, 1) := by decide +kernel
theorem d5_73 : decode method_6_code 73 = .ok (.aload_n 1, 1) := by decide +kernel
theorem d5_74 : decode method_6_code 74 = .ok (.iconst 0, 1) := by decide +kernel
theorem d5_75 : decode method_6_code 75 = .ok (.iaload, 1) := by decide +kernel
theorem d5_76 : decode method_6_code 76 = .ok (.iastore, 1) := by decide +kernel
theorem d5_77 : decode method_6_code 77 = .ok (.dup, 1) := by decide +kernel
theorem d5_78 : decode method_6_code 78 = .ok (.iconst 1, 1) := by decide +kernel
theorem d5_79 : decode method_6_code 79 = .ok (.aload_n 1, 1) := by decide +kernel
theorem d5_80 : decode method_6_code 80 = .ok (.iconst 1, 1) := by decide +kernel
theorem d5_81 : decode method_6_code 81 = .ok (.iaload, 1) := by decide +kernel
theorem d5_82 : decode method_6_code 82 = .ok (.iastore, 1) := by decide +kernel
theorem d5_83 : decode method_6_code 83 = .ok (.dup, 1) := by decide +kernel
theorem d5_84 : decode method_6_code 84 = .ok (.iconst 2, 1) := by decide +kernel
theorem d5_85 : decode method_6_code 85 = .ok (.aload_n 1, 1) := by decide +kernel
theorem d5_86 : decode method_6_code 86 = .ok (.iconst 2, 1) := by decide +kernel
theorem d5_87 : decode method_6_code 87 = .ok (.iaload, 1) := by decide +kernel
theorem d5_88 : decode method_6_code 88 = .ok (.iastore, 1) := by decide +kernel
theorem d5_89 : decode method_6_code 89 = .ok (.dup, 1) := by decide +kernel
theorem d5_90 : decode method_6_code 90 = .ok (.iconst 3, 1) := by decide +kernel
theorem d5_91 : decode method_6_code 91 = .ok (.aload_n 1, 1) := by decide +kernel
theorem d5_92 : decode method_6_code 92 = .ok (.iconst 3, 1) := by decide +kernel
theorem d5_93 : decode method_6_code 93 = .ok (.iaload, 1) := by decide +kernel
theorem d5_94 : decode method_6_code 94 = .ok (.iastore, 1) := by decide +kernel
theorem d5_95 : decode method_6_code 95 = .ok (.areturn, 1) := by decide +kernel
theorem d5_41 : decode method_6_code 41 = .ok (.iconst 3, 1) := by decide +kernel
theorem d5_42 : decode method_6_code 42 = .ok (.newarray .int, 2) := by decide +kernel
theorem d5_44 : decode method_6_code 44 = .ok (.dup, 1) := by decide +kernel
theorem d5_45 : decode method_6_code 45 = .ok (.iconst 0, 1) := by decide +kernel
theorem d5_46 : decode method_6_code 46 = .ok (.aload_n 1, 1) := by decide +kernel
theorem d5_47 : decode method_6_code 47 = .ok (.iconst 0, 1) := by decide +kernel
theorem d5_48 : decode method_6_code 48 = .ok (.iaload, 1) := by decide +kernel
theorem d5_49 : decode method_6_code 49 = .ok (.iastore, 1) := by decide +kernel
theorem d5_50 : decode method_6_code 50 = .ok (.dup, 1) := by decide +kernel
theorem d5_51 : decode method_6_code 51 = .ok (.iconst 1, 1) := by decide +kernel
theorem d5_52 : decode method_6_code 52 = .ok (.aload_n 1, 1) := by decide +kernel
theorem d5_53 : decode method_6_code 53 = .ok (.iconst 1, 1) := by decide +kernel
theorem d5_54 : decode method_6_code 54 = .ok (.iaload, 1) := by decide +kernel
theorem d5_55 : decode method_6_code 55 = .ok (.iastore, 1) := by decide +kernel
theorem d5_56 : decode method_6_code 56 = .ok (.dup, 1) := by decide +kernel
theorem d5_57 : decode method_6_code 57 = .ok (.iconst 2, 1) := by decide +kernel
theorem d5_58 : decode method_6_code 58 = .ok (.aload_n 1, 1) := by decide +kernel
theorem d5_59 : decode method_6_code 59 = .ok (.iconst 2, 1) := by decide +kernel
theorem d5_60 : decode method_6_code 60 = .ok (.iaload, 1) := by decide +kernel
theorem d5_61 : decode method_6_code 61 = .ok (.iastore, 1) := by decide +kernel
theorem d5_62 : decode method_6_code 62 = .ok (.areturn, 1) := by decide +kernel
theorem d5_20 : decode method_6_code 20 = .ok (.iconst 2, 1) := by decide +kernel
theorem d5_21 : decode method_6_code 21 = .ok (.newarray .int, 2) := by decide +kernel
theorem d5_23 : decode method_6_code 23 = .ok (.dup, 1) := by decide +kernel
theorem d5_24 : decode method_6_code 24 = .ok (.iconst 0, 1) := by decide +kernel
theorem d5_25 : decode method_6_code 25 = .ok (.aload_n 1, 1) := by decide +kernel
theorem d5_26 : decode method_6_code 26 = .ok (.iconst 0, 1) := by decide +kernel
theorem d5_27 : decode method_6_code 27 = .ok (.iaload, 1) := by decide +kernel
theorem d5_28 : decode method_6_code 28 = .ok (.iastore, 1) := by decide +kernel
theorem d5_29 : decode method_6_code 29 = .ok (.dup, 1) := by decide +kernel
theorem d5_30 : decode method_6_code 30 = .ok (.iconst 1, 1) := by decide +kernel
theorem d5_31 : decode method_6_code 31 = .ok (.aload_n 1, 1) := by decide +kernel
theorem d5_32 : decode method_6_code 32 = .ok (.iconst 1, 1) := by decide +kernel
theorem d5_33 : decode method_6_code 33 = .ok (.iaload, 1) := by decide +kernel
theorem d5_34 : decode method_6_code 34 = .ok (.iastore, 1) := by decide +kernel
theorem d5_35 : decode method_6_code 35 = .ok (.areturn, 1) := by decide +kernel
theorem d5_5 : decode method_6_code 5 = .ok (.iconst 1, 1) := by decide +kernel
theorem d5_6 : decode method_6_code 6 = .ok (.newarray .int, 2) := by decide +kernel
theorem d5_8 : decode method_6_code 8 = .ok (.dup, 1) := by decide +kernel
theorem d5_9 : decode method_6_code 9 = .ok (.iconst 0, 1) := by decide +kernel
theorem d5_10 : decode method_6_code 10 = .ok (.aload_n 1, 1) := by decide +kernel
theorem d5_11 : decode method_6_code 11 = .ok (.iconst 0, 1) := by decide +kernel
theorem d5_12 : decode method_6_code 12 = .ok (.iaload, 1) := by decide +kernel
theorem d5_13 : decode method_6_code 13 = .ok (.iastore, 1) := by decide +kernel
theorem d5_14 : decode method_6_code 14 = .ok (.areturn, 1) := by decide +kernel
theorem ef_5 (m : MethodId) (p0 : Int32) (a1 : Addr) : entryFrame m #[(.int p0), (.ref a1)] 2 = mkF m 0 #[.val (.int p0), .val (.ref a1)] [] := by first | (simp [entryFrame, mkF, argsToLocals, Value.category]; done) | rfl
theorem d7_0 : decode prog_19_method_2_code 0 = .ok (.aload_n 0, 1) := by decide +kernel
theorem d7_1 : decode prog_19_method_2_code 1 = .ok (.invokespecial 11, 3) := by decide +kernel
theorem d7_4 : decode prog_19_method_2_code 4 = .ok (.iload_n 1, 1) := by decide +kernel
theorem d7_5 : decode prog_19_method_2_code 5 = .ok (.iconst 1, 1) := by decide +kernel
theorem d7_6 : decode prog_19_method_2_code 6 = .ok (.if_icmp .ge 17, 3) := by decide +kernel
theorem d7_23 : decode prog_19_method_2_code 23 = .ok (.aload_n 3, 1) := by decide +kernel
theorem d7_24 : decode prog_19_method_2_code 24 = .ok (.arraylength, 1) := by decide +kernel
theorem d7_25 : decode prog_19_method_2_code 25 = .ok (.ifCond .ne 13, 3) := by decide +kernel
theorem d7_38 : decode prog_19_method_2_code 38 = .ok (.iconst 0, 1) := by decide +kernel
theorem d7_39 : decode prog_19_method_2_code 39 = .ok (.istore 4, 2) := by decide +kernel
theorem d7_41 : decode prog_19_method_2_code 41 = .ok (.iload 4, 2) := by decide +kernel
theorem d7_43 : decode prog_19_method_2_code 43 = .ok (.aload_n 3, 1) := by decide +kernel
theorem d7_44 : decode prog_19_method_2_code 44 = .ok (.arraylength, 1) := by decide +kernel
theorem d7_45 : decode prog_19_method_2_code 45 = .ok (.if_icmp .ge 41, 3) := by decide +kernel
theorem d7_48 : decode prog_19_method_2_code 48 = .ok (.aload_n 3, 1) := by decide +kernel
theorem d7_49 : decode prog_19_method_2_code 49 = .ok (.iload 4, 2) := by decide +kernel
theorem d7_51 : decode prog_19_method_2_code 51 = .ok (.iaload, 1) := by decide +kernel
theorem d7_52 : decode prog_19_method_2_code 52 = .ok (.ifCond .ge 28, 3) := by decide +kernel
theorem d7_80 : decode prog_19_method_2_code 80 = .ok (.iinc 4 1, 3) := by decide +kernel
theorem d7_83 : decode prog_19_method_2_code 83 = .ok (.goto (-42), 3) := by decide +kernel
theorem d7_86 : decode prog_19_method_2_code 86 = .ok (.aload_n 0, 1) := by decide +kernel
theorem d7_87 : decode prog_19_method_2_code 87 = .ok (.iload_n 1, 1) := by decide +kernel
theorem d7_88 : decode prog_19_method_2_code 88 = .ok (.putfield 30, 3) := by decide +kernel
theorem d7_91 : decode prog_19_method_2_code 91 = .ok (.aload_n 0, 1) := by decide +kernel
theorem d7_92 : decode prog_19_method_2_code 92 = .ok (.iload_n 2, 1) := by decide +kernel
theorem d7_93 : decode prog_19_method_2_code 93 = .ok (.putfield 34, 3) := by decide +kernel
theorem d7_96 : decode prog_19_method_2_code 96 = .ok (.aload_n 0, 1) := by decide +kernel
theorem d7_97 : decode prog_19_method_2_code 97 = .ok (.aload_n 3, 1) := by decide +kernel
theorem d7_98 : decode prog_19_method_2_code 98 = .ok (.arraylength, 1) := by decide +kernel
theorem d7_99 : decode prog_19_method_2_code 99 = .ok (.iload_n 2, 1) := by decide +kernel
theorem d7_100 : decode prog_19_method_2_code 100 = .ok (.idiv, 1) := by decide +kernel
theorem d7_101 : decode prog_19_method_2_code 101 = .ok (.putfield 37, 3) := by decide +kernel
theorem d7_104 : decode prog_19_method_2_code 104 = .ok (.aload_n 0, 1) := by decide +kernel
theorem d7_105 : decode prog_19_method_2_code 105 = .ok (.aload_n 3, 1) := by decide +kernel
theorem d7_106 : decode prog_19_method_2_code 106 = .ok (.putfield 40, 3) := by decide +kernel
theorem d7_109 : decode prog_19_method_2_code 109 = .ok (.return_, 1) := by decide +kernel
theorem ef_7 (m : MethodId) (a0 : Addr) (p1 : Int32) (p2 : Int32) (a3 : Addr) : entryFrame m #[(.ref a0), (.int p1), (.int p2), (.ref a3)] 5 = mkF m 0 #[.val (.ref a0), .val (.int p1), .val (.int p2), .val (.ref a3), .unset] [] := by first | (simp [entryFrame, mkF, argsToLocals, Value.category]; done) | rfl
theorem pn_1 : plainName "com/example/sarutahiko/sarutahiko/heatmap/HeatMap" = true := by first | (simp [plainName, overriddenIn]; done) | decide +kernel
theorem d6_0 : decode prog_19_method_3_code 0 = .ok (.iload_n 1, 1) := by decide +kernel
theorem d6_1 : decode prog_19_method_3_code 1 = .ok (.iconst 1, 1) := by decide +kernel
theorem d6_2 : decode prog_19_method_3_code 2 = .ok (.if_icmp .lt 10, 3) := by decide +kernel
theorem d6_5 : decode prog_19_method_3_code 5 = .ok (.aload_n 2, 1) := by decide +kernel
theorem d6_6 : decode prog_19_method_3_code 6 = .ok (.arraylength, 1) := by decide +kernel
theorem d6_7 : decode prog_19_method_3_code 7 = .ok (.iload_n 1, 1) := by decide +kernel
theorem d6_8 : decode prog_19_method_3_code 8 = .ok (.irem, 1) := by decide +kernel
theorem d6_9 : decode prog_19_method_3_code 9 = .ok (.ifCond .eq 19, 3) := by decide +kernel
theorem d6_28 : decode prog_19_method_3_code 28 = .ok (.new 2, 3) := by decide +kernel
theorem d6_31 : decode prog_19_method_3_code 31 = .ok (.dup, 1) := by decide +kernel
theorem d6_32 : decode prog_19_method_3_code 32 = .ok (.iload_n 0, 1) := by decide +kernel
theorem d6_33 : decode prog_19_method_3_code 33 = .ok (.iload_n 1, 1) := by decide +kernel
theorem d6_34 : decode prog_19_method_3_code 34 = .ok (.aload_n 2, 1) := by decide +kernel
theorem d6_35 : decode prog_19_method_3_code 35 = .ok (.invokevirtual 47, 3) := by decide +kernel
theorem d6_38 : decode prog_19_method_3_code 38 = .ok (.checkcast 48, 3) := by decide +kernel
theorem pd_0 : parseMethodDescriptor "(II[I)V" = some ⟨[.int, .int, (.array .int)], none⟩ := by decide +kernel
theorem d6_41 : decode prog_19_method_3_code 41 = .ok (.invokespecial 7, 3) := by decide +kernel
theorem d6_44 : decode prog_19_method_3_code 44 = .ok (.areturn, 1) := by decide +kernel
theorem ef_6 (m : MethodId) (p0 : Int32) (p1 : Int32) (a2 : Addr) : entryFrame m #[(.int p0), (.int p1), (.ref a2)] 3 = mkF m 0 #[.val (.int p0), .val (.int p1), .val (.ref a2)] [] := by first | (simp [entryFrame, mkF, argsToLocals, Value.category]; done) | rfl
theorem d9_0 : decode prog_19_method_8_code 0 = .ok (.aload_n 0, 1) := by decide +kernel
theorem d9_1 : decode prog_19_method_8_code 1 = .ok (.getfield 30, 3) := by decide +kernel
theorem d9_4 : decode prog_19_method_8_code 4 = .ok (.ireturn, 1) := by decide +kernel
theorem ef_9 (m : MethodId) (a0 : Addr) : entryFrame m #[(.ref a0)] 1 = mkF m 0 #[.val (.ref a0)] [] := by first | (simp [entryFrame, mkF, argsToLocals, Value.category]; done) | rfl
theorem d10_0 : decode prog_19_method_9_code 0 = .ok (.aload_n 0, 1) := by decide +kernel
theorem d10_1 : decode prog_19_method_9_code 1 = .ok (.getfield 34, 3) := by decide +kernel
theorem d10_4 : decode prog_19_method_9_code 4 = .ok (.ireturn, 1) := by decide +kernel
theorem ef_10 (m : MethodId) (a0 : Addr) : entryFrame m #[(.ref a0)] 1 = mkF m 0 #[.val (.ref a0)] [] := by first | (simp [entryFrame, mkF, argsToLocals, Value.category]; done) | rfl
theorem d11_0 : decode prog_19_method_10_code 0 = .ok (.aload_n 0, 1) := by decide +kernel
theorem d11_1 : decode prog_19_method_10_code 1 = .ok (.getfield 37, 3) := by decide +kernel
theorem d11_4 : decode prog_19_method_10_code 4 = .ok (.ireturn, 1) := by decide +kernel
theorem ef_11 (m : MethodId) (a0 : Addr) : entryFrame m #[(.ref a0)] 1 = mkF m 0 #[.val (.ref a0)] [] := by first | (simp [entryFrame, mkF, argsToLocals, Value.category]; done) | rfl
theorem d14_0 : decode jdk_41_method_11_code 0 = .ok (.iload_n 0, 1) := by decide +kernel
theorem d14_1 : decode jdk_41_method_11_code 1 = .ok (.ifCond .lt 8, 3) := by decide +kernel
theorem d14_4 : decode jdk_41_method_11_code 4 = .ok (.iload_n 0, 1) := by decide +kernel
theorem d14_5 : decode jdk_41_method_11_code 5 = .ok (.iload_n 1, 1) := by decide +kernel
theorem d14_6 : decode jdk_41_method_11_code 6 = .ok (.if_icmp .lt 10, 3) := by decide +kernel
theorem d14_16 : decode jdk_41_method_11_code 16 = .ok (.iload_n 0, 1) := by decide +kernel
theorem d14_17 : decode jdk_41_method_11_code 17 = .ok (.ireturn, 1) := by decide +kernel
theorem ef_14 (m : MethodId) (p0 : Int32) (p1 : Int32) : entryFrame m #[(.int p0), (.int p1), .null] 3 = mkF m 0 #[.val (.int p0), .val (.int p1), .val .null] [] := by first | (simp [entryFrame, mkF, argsToLocals, Value.category]; done) | rfl
theorem pn_2 : plainName "jdk/internal/util/Preconditions" = true := by first | (simp [plainName, overriddenIn]; done) | decide +kernel
theorem d13_0 : decode jdk_31_method_17_code 0 = .ok (.iload_n 0, 1) := by decide +kernel
theorem d13_1 : decode jdk_31_method_17_code 1 = .ok (.iload_n 1, 1) := by decide +kernel
theorem d13_2 : decode jdk_31_method_17_code 2 = .ok (.aconst_null, 1) := by decide +kernel
theorem d13_3 : decode jdk_31_method_17_code 3 = .ok (.invokestatic 105, 3) := by decide +kernel
theorem pd_1 : parseMethodDescriptor "(IILjava/util/function/BiFunction;)I" = some ⟨[.int, .int, (.object "java/util/function/BiFunction")], some .int⟩ := by decide +kernel
theorem d13_6 : decode jdk_31_method_17_code 6 = .ok (.ireturn, 1) := by decide +kernel
theorem ef_13 (m : MethodId) (p0 : Int32) (p1 : Int32) : entryFrame m #[(.int p0), (.int p1)] 2 = mkF m 0 #[.val (.int p0), .val (.int p1)] [] := by first | (simp [entryFrame, mkF, argsToLocals, Value.category]; done) | rfl
theorem pn_3 : plainName "java/util/Objects" = true := by first | (simp [plainName, overriddenIn]; done) | decide +kernel
theorem d12_0 : decode prog_19_method_11_code 0 = .ok (.iload_n 1, 1) := by decide +kernel
theorem d12_1 : decode prog_19_method_11_code 1 = .ok (.aload_n 0, 1) := by decide +kernel
theorem d12_2 : decode prog_19_method_11_code 2 = .ok (.getfield 34, 3) := by decide +kernel
theorem pd_2 : parseMethodDescriptor "(II)I" = some ⟨[.int, .int], some .int⟩ := by decide +kernel
theorem d12_5 : decode prog_19_method_11_code 5 = .ok (.invokestatic 186, 3) := by decide +kernel
theorem d12_8 : decode prog_19_method_11_code 8 = .ok (.pop, 1) := by decide +kernel
theorem d12_9 : decode prog_19_method_11_code 9 = .ok (.iload_n 2, 1) := by decide +kernel
theorem d12_10 : decode prog_19_method_11_code 10 = .ok (.aload_n 0, 1) := by decide +kernel
theorem d12_11 : decode prog_19_method_11_code 11 = .ok (.getfield 37, 3) := by decide +kernel
theorem d12_14 : decode prog_19_method_11_code 14 = .ok (.invokestatic 186, 3) := by decide +kernel
theorem d12_17 : decode prog_19_method_11_code 17 = .ok (.pop, 1) := by decide +kernel
theorem d12_18 : decode prog_19_method_11_code 18 = .ok (.aload_n 0, 1) := by decide +kernel
theorem d12_19 : decode prog_19_method_11_code 19 = .ok (.getfield 40, 3) := by decide +kernel
theorem d12_22 : decode prog_19_method_11_code 22 = .ok (.iload_n 2, 1) := by decide +kernel
theorem d12_23 : decode prog_19_method_11_code 23 = .ok (.aload_n 0, 1) := by decide +kernel
theorem d12_24 : decode prog_19_method_11_code 24 = .ok (.getfield 34, 3) := by decide +kernel
theorem d12_27 : decode prog_19_method_11_code 27 = .ok (.imul, 1) := by decide +kernel
theorem d12_28 : decode prog_19_method_11_code 28 = .ok (.iload_n 1, 1) := by decide +kernel
theorem d12_29 : decode prog_19_method_11_code 29 = .ok (.iadd, 1) := by decide +kernel
theorem d12_30 : decode prog_19_method_11_code 30 = .ok (.iaload, 1) := by decide +kernel
theorem d12_31 : decode prog_19_method_11_code 31 = .ok (.ireturn, 1) := by decide +kernel
theorem ef_12 (m : MethodId) (a0 : Addr) (p1 : Int32) (p2 : Int32) : entryFrame m #[(.ref a0), (.int p1), (.int p2)] 3 = mkF m 0 #[.val (.ref a0), .val (.int p1), .val (.int p2)] [] := by first | (simp [entryFrame, mkF, argsToLocals, Value.category]; done) | rfl
/-- Math.max -/
def mxI (p0 : Int32) (p1 : Int32) : Int32 := (if p0 < p1 then p1 else p0)
def Q1 (p0 : Int32) (p1 : Int32) (h0 : Heap) (v : Option Value) (h : Heap) (L : List Loc) : Prop := v = some (.int (mxI p0 p1)) ∧ h = h0 ∧ L = []
set_option maxRecDepth 65536 in
set_option maxHeartbeats 40000000 in
theorem rm1 (l : Launch) (Z : State) (aw : Array Value) (hw : ∀ d ∈ tables_1, d.before aw Z = true) (ws : List Jvm.Cond) (p0 : Int32) (p1 : Int32) (h0 : Heap) :
    MetFree l (⟨"java/lang/Math", "max", "(II)I"⟩ : MethodName) (head1 (Jvm.Cond.code (⟨"java/lang/Math", "max", "(II)I"⟩ : MethodName) jdk_29_method_65_code 2 (some .int) :: ws) ({ frames := 0, cells := 0, slots := 0, locals := 0 } : Room)) (fun a U => a = #[(.int p0), (.int p1)] ∧ Z.Warmed39 U.vm ∧ U.heap = h0) (fun _ _ _ _ _ => True) (fun _ U o U' => ∃ v L, o = .returned v ∧ Q1 p0 p1 h0 v U'.heap L ∧ FrameEnd U o U' L ({ frames := 0, cells := 0, slots := 0, locals := 0 } : Room).cells ({ frames := 0, cells := 0, slots := 0, locals := 0 } : Room).slots) := by
  refine MetFree.of_bodySF (Jvm.Free.JP.mathPlain rfl (by decide +kernel)) hisR ?_
  intro p e s m args below meth c s₁ Bd hml0 hP _hKK
  obtain ⟨rfl, hZ, hh⟩ := hP
  have hx := Bd.exec
  have hby := Bd.bytes
  have hml : c.maxLocals = 2 := hml0
  have hown : s.vm.findClass "java/lang/Math" = some m.cls := findClass_of_methodNamed Bd.named
  have hnm := (name_of_methodNamed Bd.named Bd.method).1
  have X0 : Stand p l e ({ frames := 0, cells := 0, slots := 0, locals := 0 } : Room) s m #[(.int p0), (.int p1)] below meth c s₁ [] 0 0 := Stand.of_body Bd
  have e0 : s₁.heap = h0 := by rw [← hh, Bd.state]; rfl
  refine Ow.enter (Q := Q1 p0 p1 h0) (ef_1 m p0 p1) ?_
  show Ow p e below s _ _ _ (s₁.setTop (mkF m 0 #[.val (.int p0), .val (.int p1)] []))
  refine w_iloadN X0 hx (Jvm.hb hby d1_0) rfl (pc' := 1) rfl ?_
  refine w_iloadN X0 hx (Jvm.hb hby d1_1) rfl (pc' := 2) rfl ?_
  refine w_icmp_lt X0 hx (Jvm.hb hby d1_2) (by decide) (pcT := 9) (by decide) (pcF := 5) rfl (fun hc2_0 => ?_) (fun hc2_0 => ?_)
  · refine w_iloadN X0 hx (Jvm.hb hby d1_9) rfl (pc' := 10) rfl ?_
    exact w_ireturn X0 hx Bd.returns (BodyLoose.notSynchronized Bd) (Nat.le_of_ble_eq_true rfl) (Nat.le_of_ble_eq_true rfl) (Jvm.hb hby d1_10) ⟨congrArg (fun z => some (Value.int z)) (show p1 = mxI p0 p1 from by unfold mxI; rw [if_pos hc2_0]), e0, rfl⟩
  · refine w_iloadN X0 hx (Jvm.hb hby d1_5) rfl (pc' := 6) rfl ?_
    refine w_goto X0 hx (Jvm.hb hby d1_6) (by decide) (pc' := 10) (by decide) ?_
    exact w_ireturn X0 hx Bd.returns (BodyLoose.notSynchronized Bd) (Nat.le_of_ble_eq_true rfl) (Nat.le_of_ble_eq_true rfl) (Jvm.hb hby d1_10) ⟨congrArg (fun z => some (Value.int z)) (show p0 = mxI p0 p1 from by unfold mxI; rw [if_neg hc2_0]), e0, rfl⟩
/-- HeatMapOfCellsPinLaw.low -/
def lowJ (q0 : Int64) : Int32 := ((q0 &&& (2147483647 : Int64)).toInt32)
def Q2 (q0 : Int64) (h0 : Heap) (v : Option Value) (h : Heap) (L : List Loc) : Prop := v = some (.int (lowJ q0)) ∧ h = h0 ∧ L = []
set_option maxRecDepth 65536 in
set_option maxHeartbeats 40000000 in
theorem rm2 (l : Launch) (Z : State) (aw : Array Value) (hw : ∀ d ∈ tables_1, d.before aw Z = true) (ws : List Jvm.Cond) (q0 : Int64) (h0 : Heap) :
    MetFree l (⟨"com/example/sarutahiko/sarutahiko/heatmap/HeatMapOfCellsPinLaw", "low", "(J)I"⟩ : MethodName) (head1 (Jvm.Cond.code (⟨"com/example/sarutahiko/sarutahiko/heatmap/HeatMapOfCellsPinLaw", "low", "(J)I"⟩ : MethodName) method_3_code 2 (some .int) :: ws) ({ frames := 0, cells := 0, slots := 0, locals := 0 } : Room)) (fun a U => a = #[(.long q0)] ∧ Z.Warmed39 U.vm ∧ U.heap = h0) (fun _ _ _ _ _ => True) (fun _ U o U' => ∃ v L, o = .returned v ∧ Q2 q0 h0 v U'.heap L ∧ FrameEnd U o U' L ({ frames := 0, cells := 0, slots := 0, locals := 0 } : Room).cells ({ frames := 0, cells := 0, slots := 0, locals := 0 } : Room).slots) := by
  refine MetFree.of_bodySF (plainFor_of_name pn_0) hisR ?_
  intro p e s m args below meth c s₁ Bd hml0 hP _hKK
  obtain ⟨rfl, hZ, hh⟩ := hP
  have hx := Bd.exec
  have hby := Bd.bytes
  have hml : c.maxLocals = 2 := hml0
  have hown : s.vm.findClass "com/example/sarutahiko/sarutahiko/heatmap/HeatMapOfCellsPinLaw" = some m.cls := findClass_of_methodNamed Bd.named
  have hnm := (name_of_methodNamed Bd.named Bd.method).1
  have X0 : Stand p l e ({ frames := 0, cells := 0, slots := 0, locals := 0 } : Room) s m #[(.long q0)] below meth c s₁ [] 0 0 := Stand.of_body Bd
  have e0 : s₁.heap = h0 := by rw [← hh, Bd.state]; rfl
  refine Ow.enter (Q := Q2 q0 h0) (ef_2 m q0) ?_
  show Ow p e below s _ _ _ (s₁.setTop (mkF m 0 #[.val (.long q0), .second] []))
  refine w_lloadN X0 hx (Jvm.hb hby d2_0) rfl (pc' := 1) rfl ?_
  refine w_ldc2J X0 hx hZ hown (hw _ (List.mem_of_getElem? (i := 10) rfl)) (Jvm.hb hby d2_1) (pc' := 4) rfl ?_
  refine w_land X0 hx (Jvm.hb hby d2_4) (pc' := 5) rfl ?_
  refine w_l2i X0 hx (Jvm.hb hby d2_5) (pc' := 6) rfl ?_
  exact w_ireturn X0 hx Bd.returns (BodyLoose.notSynchronized Bd) (Nat.le_of_ble_eq_true rfl) (Nat.le_of_ble_eq_true rfl) (Jvm.hb hby d2_6) ⟨congrArg (fun z => some (Value.int z)) (show ((q0 &&& (2147483647 : Int64)).toInt32) = lowJ q0 from by unfold lowJ; rfl), e0, rfl⟩
/-- HeatMapOfCellsPinLaw.high -/
def highJ (q0 : Int64) : Int32 := (((lsr64 q0 (32 : Int32)) &&& (2147483647 : Int64)).toInt32)
def Q3 (q0 : Int64) (h0 : Heap) (v : Option Value) (h : Heap) (L : List Loc) : Prop := v = some (.int (highJ q0)) ∧ h = h0 ∧ L = []
set_option maxRecDepth 65536 in
set_option maxHeartbeats 40000000 in
theorem rm3 (l : Launch) (Z : State) (aw : Array Value) (hw : ∀ d ∈ tables_1, d.before aw Z = true) (ws : List Jvm.Cond) (q0 : Int64) (h0 : Heap) :
    MetFree l (⟨"com/example/sarutahiko/sarutahiko/heatmap/HeatMapOfCellsPinLaw", "high", "(J)I"⟩ : MethodName) (head1 (Jvm.Cond.code (⟨"com/example/sarutahiko/sarutahiko/heatmap/HeatMapOfCellsPinLaw", "high", "(J)I"⟩ : MethodName) method_4_code 2 (some .int) :: ws) ({ frames := 0, cells := 0, slots := 0, locals := 0 } : Room)) (fun a U => a = #[(.long q0)] ∧ Z.Warmed39 U.vm ∧ U.heap = h0) (fun _ _ _ _ _ => True) (fun _ U o U' => ∃ v L, o = .returned v ∧ Q3 q0 h0 v U'.heap L ∧ FrameEnd U o U' L ({ frames := 0, cells := 0, slots := 0, locals := 0 } : Room).cells ({ frames := 0, cells := 0, slots := 0, locals := 0 } : Room).slots) := by
  refine MetFree.of_bodySF (plainFor_of_name pn_0) hisR ?_
  intro p e s m args below meth c s₁ Bd hml0 hP _hKK
  obtain ⟨rfl, hZ, hh⟩ := hP
  have hx := Bd.exec
  have hby := Bd.bytes
  have hml : c.maxLocals = 2 := hml0
  have hown : s.vm.findClass "com/example/sarutahiko/sarutahiko/heatmap/HeatMapOfCellsPinLaw" = some m.cls := findClass_of_methodNamed Bd.named
  have hnm := (name_of_methodNamed Bd.named Bd.method).1
  have X0 : Stand p l e ({ frames := 0, cells := 0, slots := 0, locals := 0 } : Room) s m #[(.long q0)] below meth c s₁ [] 0 0 := Stand.of_body Bd
  have e0 : s₁.heap = h0 := by rw [← hh, Bd.state]; rfl
  refine Ow.enter (Q := Q3 q0 h0) (ef_3 m q0) ?_
  show Ow p e below s _ _ _ (s₁.setTop (mkF m 0 #[.val (.long q0), .second] []))
  refine w_lloadN X0 hx (Jvm.hb hby d3_0) rfl (pc' := 1) rfl ?_
  refine w_bipush X0 hx (32 : Int32) (Jvm.hb hby d3_1) (by decide) (pc' := 3) rfl ?_
  refine w_lushr X0 hx (Jvm.hb hby d3_3) (pc' := 4) rfl ?_
  refine w_ldc2J X0 hx hZ hown (hw _ (List.mem_of_getElem? (i := 10) rfl)) (Jvm.hb hby d3_4) (pc' := 7) rfl ?_
  refine w_land X0 hx (Jvm.hb hby d3_7) (pc' := 8) rfl ?_
  refine w_l2i X0 hx (Jvm.hb hby d3_8) (pc' := 9) rfl ?_
  exact w_ireturn X0 hx Bd.returns (BodyLoose.notSynchronized Bd) (Nat.le_of_ble_eq_true rfl) (Nat.le_of_ble_eq_true rfl) (Jvm.hb hby d3_9) ⟨congrArg (fun z => some (Value.int z)) (show (((lsr64 q0 (32 : Int32)) &&& (2147483647 : Int64)).toInt32) = highJ q0 from by unfold highJ; rfl), e0, rfl⟩
/-- HeatMapOfCellsPinLaw.mid -/
def midJ (q0 : Int64) : Int32 := (((lsr64 q0 (16 : Int32)) &&& (2147483647 : Int64)).toInt32)
def Q4 (q0 : Int64) (h0 : Heap) (v : Option Value) (h : Heap) (L : List Loc) : Prop := v = some (.int (midJ q0)) ∧ h = h0 ∧ L = []
set_option maxRecDepth 65536 in
set_option maxHeartbeats 40000000 in
theorem rm4 (l : Launch) (Z : State) (aw : Array Value) (hw : ∀ d ∈ tables_1, d.before aw Z = true) (ws : List Jvm.Cond) (q0 : Int64) (h0 : Heap) :
    MetFree l (⟨"com/example/sarutahiko/sarutahiko/heatmap/HeatMapOfCellsPinLaw", "mid", "(J)I"⟩ : MethodName) (head1 (Jvm.Cond.code (⟨"com/example/sarutahiko/sarutahiko/heatmap/HeatMapOfCellsPinLaw", "mid", "(J)I"⟩ : MethodName) method_5_code 2 (some .int) :: ws) ({ frames := 0, cells := 0, slots := 0, locals := 0 } : Room)) (fun a U => a = #[(.long q0)] ∧ Z.Warmed39 U.vm ∧ U.heap = h0) (fun _ _ _ _ _ => True) (fun _ U o U' => ∃ v L, o = .returned v ∧ Q4 q0 h0 v U'.heap L ∧ FrameEnd U o U' L ({ frames := 0, cells := 0, slots := 0, locals := 0 } : Room).cells ({ frames := 0, cells := 0, slots := 0, locals := 0 } : Room).slots) := by
  refine MetFree.of_bodySF (plainFor_of_name pn_0) hisR ?_
  intro p e s m args below meth c s₁ Bd hml0 hP _hKK
  obtain ⟨rfl, hZ, hh⟩ := hP
  have hx := Bd.exec
  have hby := Bd.bytes
  have hml : c.maxLocals = 2 := hml0
  have hown : s.vm.findClass "com/example/sarutahiko/sarutahiko/heatmap/HeatMapOfCellsPinLaw" = some m.cls := findClass_of_methodNamed Bd.named
  have hnm := (name_of_methodNamed Bd.named Bd.method).1
  have X0 : Stand p l e ({ frames := 0, cells := 0, slots := 0, locals := 0 } : Room) s m #[(.long q0)] below meth c s₁ [] 0 0 := Stand.of_body Bd
  have e0 : s₁.heap = h0 := by rw [← hh, Bd.state]; rfl
  refine Ow.enter (Q := Q4 q0 h0) (ef_4 m q0) ?_
  show Ow p e below s _ _ _ (s₁.setTop (mkF m 0 #[.val (.long q0), .second] []))
  refine w_lloadN X0 hx (Jvm.hb hby d4_0) rfl (pc' := 1) rfl ?_
  refine w_bipush X0 hx (16 : Int32) (Jvm.hb hby d4_1) (by decide) (pc' := 3) rfl ?_
  refine w_lushr X0 hx (Jvm.hb hby d4_3) (pc' := 4) rfl ?_
  refine w_ldc2J X0 hx hZ hown (hw _ (List.mem_of_getElem? (i := 10) rfl)) (Jvm.hb hby d4_4) (pc' := 7) rfl ?_
  refine w_land X0 hx (Jvm.hb hby d4_7) (pc' := 8) rfl ?_
  refine w_l2i X0 hx (Jvm.hb hby d4_8) (pc' := 9) rfl ?_
  exact w_ireturn X0 hx Bd.returns (BodyLoose.notSynchronized Bd) (Nat.le_of_ble_eq_true rfl) (Nat.le_of_ble_eq_true rfl) (Jvm.hb hby d4_9) ⟨congrArg (fun z => some (Value.int z)) (show (((lsr64 q0 (16 : Int32)) &&& (2147483647 : Int64)).toInt32) = midJ q0 from by unfold midJ; rfl), e0, rfl⟩
theorem own_nz {n : Nat} (h : n < 2 ^ 31) : ∃ z : Int32, z.toInt = (n : Int) := ⟨Int32.ofNat n, Int32.toInt_ofNat_of_lt h⟩
theorem own_nine {p0 : Int32} {n : Nat} (hp : p0.toInt = (n : Int)) (h1 : ¬ p0 = (1 : Int32)) (h2 : ¬ p0 = (2 : Int32)) (h3 : ¬ p0 = (3 : Int32)) (h4 : ¬ p0 = (4 : Int32)) (h6 : ¬ p0 = (6 : Int32)) (hn : n = 1 ∨ n = 2 ∨ n = 3 ∨ n = 4 ∨ n = 6 ∨ n = 9) : n = 9 := by
  rcases hn with rfl | rfl | rfl | rfl | rfl | rfl
  · exact absurd (Int32.toInt_inj.mp (by rw [hp]; decide)) h1
  · exact absurd (Int32.toInt_inj.mp (by rw [hp]; decide)) h2
  · exact absurd (Int32.toInt_inj.mp (by rw [hp]; decide)) h3
  · exact absurd (Int32.toInt_inj.mp (by rw [hp]; decide)) h4
  · exact absurd (Int32.toInt_inj.mp (by rw [hp]; decide)) h6
  · rfl
theorem own_pe (p0 : Int32) : 1 ≤ (mxI (1 : Int32) (p0 &&& (2147483647 : Int32))).toInt := by
  unfold mxI
  have k1 : (1 : Int32).toInt = 1 := by decide
  by_cases z : (1 : Int32) < (p0 &&& (2147483647 : Int32))
  · rw [if_pos z]; rw [Int32.lt_iff_toInt_lt, k1] at z; omega
  · rw [if_neg z, k1]; omega
theorem own_255 (x : Int32) : (x &&& (255 : Int32)).toInt = x.toInt % 2 ^ 8 := Kit.i32_mask x 255 (k := 8) (by decide) (by decide)
theorem own_13 (x : Int32) : ∃ k : Nat, ((1 : Int32) + ((x &&& (255 : Int32)) % (3 : Int32))).toInt = (k : Int) ∧ 1 ≤ k ∧ k ≤ 3 := by
  have h := own_255 x
  have hr : ((x &&& (255 : Int32)) % (3 : Int32)).toInt = (x.toInt % 2 ^ 8) % 3 := by rw [Kit.i32_rem_nonneg (by omega), h]; rfl
  have k1 : (1 : Int32).toInt = 1 := by decide
  have ha : ((1 : Int32) + ((x &&& (255 : Int32)) % (3 : Int32))).toInt = 1 + (x.toInt % 2 ^ 8) % 3 := by rw [Kit.i32_add (by rw [k1, hr]; omega) (by rw [k1, hr]; omega), k1, hr]
  exact ⟨(1 + (x.toInt % 2 ^ 8) % 3).toNat, by rw [ha]; omega, by omega, by omega⟩
theorem own_mulN (a b : Int32) (i j : Nat) (ha : a.toInt = (i : Int)) (hb : b.toInt = (j : Int)) (hi : i ≤ 3) (hj : j ≤ 3) : (a * b).toInt = ((i * j : Nat) : Int) := by
  have hm : i * j ≤ 3 * 3 := Nat.mul_le_mul hi hj
  have e : a.toInt * b.toInt = ((i * j : Nat) : Int) := by rw [ha, hb, Int.natCast_mul]
  rw [Kit.i32_mul (by rw [e]; omega) (by rw [e]; omega), e]
theorem own_n9 (i j : Nat) (h1 : 1 ≤ i) (h2 : i ≤ 3) (h3 : 1 ≤ j) (h4 : j ≤ 3) : i * j = 1 ∨ i * j = 2 ∨ i * j = 3 ∨ i * j = 4 ∨ i * j = 6 ∨ i * j = 9 := by
  have hi : i = 1 ∨ i = 2 ∨ i = 3 := by omega
  have hj : j = 1 ∨ j = 2 ∨ j = 3 := by omega
  rcases hi with rfl | rfl | rfl <;> rcases hj with rfl | rfl | rfl <;> decide
theorem own_le9 {n : Nat} (h : n = 1 ∨ n = 2 ∨ n = 3 ∨ n = 4 ∨ n = 6 ∨ n = 9) : n ≤ 9 := by omega
theorem own_l9 {n : Nat} (h : n = 1 ∨ n = 2 ∨ n = 3 ∨ n = 4 ∨ n = 6 ∨ n = 9) : n - 1 < 9 := by omega
theorem own_lt1 {n : Nat} (h : 1 * 1 ≤ n) : n - 1 < n := by omega
theorem own_low (x : Int64) : ¬ ((x &&& (2147483647 : Int64)).toInt32) < (0 : Int32) := by
  have h : (x &&& (2147483647 : Int64)).toInt = x.toInt % 2 ^ 31 := Kit.i64_mask x 2147483647 (k := 31) (by decide) (by decide)
  rw [Int32.lt_iff_toInt_lt, Kit.i32_of_i64 (by omega) (by omega), h, own_zero]; omega
theorem own_pos (q3 q4 q5 : Int64) : ∀ i, i < 9 → ¬ (upd (upd (upd (upd (upd (upd (upd (upd (upd (fun _ => 0) 0 (lowJ q3)) 1 (highJ q3)) 2 (lowJ q4)) 3 (highJ q4)) 4 (lowJ q5)) 5 (highJ q5)) 6 (midJ q3)) 7 (midJ q4)) 8 (midJ q5)) i < (0 : Int32) := by
  intro i hi
  have h : i = 0 ∨ i = 1 ∨ i = 2 ∨ i = 3 ∨ i = 4 ∨ i = 5 ∨ i = 6 ∨ i = 7 ∨ i = 8 := by omega
  rcases h with rfl | rfl | rfl | rfl | rfl | rfl | rfl | rfl | rfl
  · exact own_low q3
  · exact own_low _
  · exact own_low q4
  · exact own_low _
  · exact own_low q5
  · exact own_low _
  · exact own_low _
  · exact own_low _
  · exact own_low _
theorem own_nz32 {x : Int32} {k : Nat} (h : x.toInt = (k : Int)) (h1 : 1 ≤ k) : ¬ x = 0 := fun z => by rw [z, own_zero] at h; omega
theorem own_mod (x y : Int32) (k : Nat) (h : y.toInt = (k : Int)) (h1 : 1 ≤ k) : ∃ j : Nat, ((x &&& (255 : Int32)) % y).toInt = (j : Int) ∧ j < k := by
  have hm := own_255 x
  have hr : ((x &&& (255 : Int32)) % y).toInt = (x.toInt % 2 ^ 8) % (k : Int) := by rw [Kit.i32_rem_nonneg (by omega), hm, h]
  have b1 := Int.emod_nonneg (x.toInt % 2 ^ 8) (show (k : Int) ≠ 0 by omega)
  have b2 := Int.emod_lt_of_pos (x.toInt % 2 ^ 8) (show 0 < (k : Int) by omega)
  rw [hr]; generalize (x.toInt % 2 ^ 8) % (k : Int) = r at b1 b2
  exact ⟨r.toNat, by omega, by omega⟩
theorem own_ix (r c k : Int32) (i j t : Nat) (hr : r.toInt = (i : Int)) (hc : c.toInt = (j : Int)) (hk : k.toInt = (t : Int)) (hi : i ≤ 3) (hj : j ≤ 3) (ht : t ≤ 3) : (r * c + k).toInt = ((i * j + t : Nat) : Int) := by
  have hm := own_mulN r c i j hr hc hi hj
  have hl : i * j ≤ 3 * 3 := Nat.mul_le_mul hi hj
  rw [Kit.i32_add (by rw [hm, hk]; omega) (by rw [hm, hk]; omega), hm, hk]; omega
theorem own_lt (i j t k : Nat) (hi : i < k) (ht : t < j) : i * j + t < j * k := by
  have h : (i + 1) * j ≤ k * j := Nat.mul_le_mul_right j hi
  rw [Nat.mul_comm j k]; rw [Nat.add_mul] at h; omega
theorem own_last (x : Int32) (n : Nat) (h : x.toInt = (n : Int)) (h1 : 1 ≤ n) : (x - (1 : Int32)).toInt = ((n - 1 : Nat) : Int) := by
  have k1 : (1 : Int32).toInt = 1 := by decide
  have hl := Int32.toInt_lt x
  rw [Kit.i32_sub (by rw [h, k1]; omega) (by rw [h, k1]; omega), h, k1]; omega
theorem own_div (co ro : Int32) (i j : Nat) (hc : co.toInt = (i : Int)) (hr : ro.toInt = (j : Int)) (h1 : 1 ≤ i) (h2 : i ≤ 3) (h3 : j ≤ 3) : ∀ z : Int32, z.toInt = ((i * j : Nat) : Int) → z / co = ro := fun z hz => by
  apply Int32.toInt_inj.mp
  rw [Kit.i32_div (by rw [hc]; omega), hz, hc, hr, Int.natCast_mul, Int.mul_tdiv_cancel_left _ (by omega)]
theorem own_mod0 (co : Int32) (i j : Nat) (hc : co.toInt = (i : Int)) (h1 : 1 ≤ i) : ∀ z : Int32, z.toInt = ((i * j : Nat) : Int) → z % co = (0 : Int32) := fun z hz => by
  apply Int32.toInt_inj.mp
  rw [Kit.i32_rem_nonneg (by rw [hz]; omega), hz, hc, Int.natCast_mul, Int.mul_emod_right]; rfl
theorem own_nn {x : Int32} {k : Nat} (h : x.toInt = (k : Int)) : ¬ x < (0 : Int32) := fun z => by rw [Int32.lt_iff_toInt_lt, h, own_zero] at z; omega
theorem own_ltN {x y : Int32} {i j : Nat} (hx : x.toInt = (i : Int)) (hy : y.toInt = (j : Int)) (h : i < j) : x < y := by rw [Int32.lt_iff_toInt_lt, hx, hy]; omega
theorem own_lastix (co ro : Int32) (i j : Nat) (hc : co.toInt = (i : Int)) (hc1 : (co - (1 : Int32)).toInt = ((i - 1 : Nat) : Int)) (hr1 : (ro - (1 : Int32)).toInt = ((j - 1 : Nat) : Int)) (h1 : 1 ≤ i) (h2 : i ≤ 3) (h3 : 1 ≤ j) (h4 : j ≤ 3) : ((ro - (1 : Int32)) * co + (co - (1 : Int32))).toInt = ((i * j - 1 : Nat) : Int) := by
  rw [own_ix _ _ _ (j - 1) i (i - 1) hr1 hc hc1 (by omega) h2 (by omega)]
  have hi : i = 1 ∨ i = 2 ∨ i = 3 := by omega
  have hj : j = 1 ∨ j = 2 ∨ j = 3 := by omega
  rcases hi with rfl | rfl | rfl <;> rcases hj with rfl | rfl | rfl <;> rfl

def Q5 (Z : State) (n : Nat) (f : Nat → Int32) (h0 : Heap) (n0 : Nat) (v : Option Value) (h : Heap) (L : List Loc) : Prop := ∃ b, v = some (.ref b) ∧ Fr n0 L ∧ h0.size ≤ b ∧ Keep h0 h [] ∧ IAr Z h b .int n f ∧ Exa Z h b "[I"
set_option maxRecDepth 65536 in
set_option maxHeartbeats 40000000 in
theorem rm5 (l : Launch) (Z : State) (aw : Array Value) (hw : ∀ d ∈ tables_1, d.before aw Z = true) (ws : List Jvm.Cond) (p0 : Int32) (a1 : Addr) (n : Nat) (f : Nat → Int32) (h0 : Heap) (n0 : Nat) (Z0 : n0 ≤ h0.size) (A : IAr Z h0 a1 .int 9 f) (hp : p0.toInt = (n : Int)) (hn9 : n = 1 ∨ n = 2 ∨ n = 3 ∨ n = 4 ∨ n = 6 ∨ n = 9) :
    MetFree l (⟨"com/example/sarutahiko/sarutahiko/heatmap/HeatMapOfCellsPinLaw", "prefix", "(I[I)[I"⟩ : MethodName) (head1 (Jvm.Cond.code (⟨"com/example/sarutahiko/sarutahiko/heatmap/HeatMapOfCellsPinLaw", "prefix", "(I[I)[I"⟩ : MethodName) method_6_code 2 (some (.array .int)) :: ws) ({ frames := 0, cells := 1, slots := 9, locals := 0 } : Room)) (fun a U => a = #[(.int p0), (.ref a1)] ∧ Z.Warmed39 U.vm ∧ U.heap = h0) (fun _ _ _ _ _ => True) (fun _ U o U' => ∃ v L, o = .returned v ∧ Q5 Z n f h0 n0 v U'.heap L ∧ FrameEnd U o U' L ({ frames := 0, cells := 1, slots := 9, locals := 0 } : Room).cells ({ frames := 0, cells := 1, slots := 9, locals := 0 } : Room).slots) := by
  refine MetFree.of_bodySF (plainFor_of_name pn_0) hisR ?_
  intro p e s m args below meth c s₁ Bd hml0 hP _hKK
  obtain ⟨rfl, hZ, hh⟩ := hP
  have hx := Bd.exec
  have hby := Bd.bytes
  have hml : c.maxLocals = 2 := hml0
  have hown : s.vm.findClass "com/example/sarutahiko/sarutahiko/heatmap/HeatMapOfCellsPinLaw" = some m.cls := findClass_of_methodNamed Bd.named
  have hnm := (name_of_methodNamed Bd.named Bd.method).1
  have X0 : Stand p l e ({ frames := 0, cells := 1, slots := 9, locals := 0 } : Room) s m #[(.int p0), (.ref a1)] below meth c s₁ [] 0 0 := Stand.of_body Bd
  have e0 : s₁.heap = h0 := by rw [← hh, Bd.state]; rfl
  refine Ow.enter (Q := Q5 Z n f h0 n0) (ef_5 m p0 a1) ?_
  show Ow p e below s _ _ _ (s₁.setTop (mkF m 0 #[.val (.int p0), .val (.ref a1)] []))
  refine w_iloadN X0 hx (Jvm.hb hby d5_0) rfl (pc' := 1) rfl ?_
  refine w_iconst X0 hx (1 : Int32) (Jvm.hb hby d5_1) (by decide) (pc' := 2) rfl ?_
  refine w_icmp_ne X0 hx (Jvm.hb hby d5_2) (by decide) (pcT := 15) (by decide) (pcF := 5) rfl (fun hk1 => ?_) (fun hk1 => ?_)
  · refine w_iloadN X0 hx (Jvm.hb hby d5_15) rfl (pc' := 16) rfl ?_
    refine w_iconst X0 hx (2 : Int32) (Jvm.hb hby d5_16) (by decide) (pc' := 17) rfl ?_
    refine w_icmp_ne X0 hx (Jvm.hb hby d5_17) (by decide) (pcT := 36) (by decide) (pcF := 20) rfl (fun hk2 => ?_) (fun hk2 => ?_)
    · refine w_iloadN X0 hx (Jvm.hb hby d5_36) rfl (pc' := 37) rfl ?_
      refine w_iconst X0 hx (3 : Int32) (Jvm.hb hby d5_37) (by decide) (pc' := 38) rfl ?_
      refine w_icmp_ne X0 hx (Jvm.hb hby d5_38) (by decide) (pcT := 63) (by decide) (pcF := 41) rfl (fun hk3 => ?_) (fun hk3 => ?_)
      · refine w_iloadN X0 hx (Jvm.hb hby d5_63) rfl (pc' := 64) rfl ?_
        refine w_iconst X0 hx (4 : Int32) (Jvm.hb hby d5_64) (by decide) (pc' := 65) rfl ?_
        refine w_icmp_ne X0 hx (Jvm.hb hby d5_65) (by decide) (pcT := 96) (by decide) (pcF := 68) rfl (fun hk4 => ?_) (fun hk4 => ?_)
        · refine w_iloadN X0 hx (Jvm.hb hby d5_96) rfl (pc' := 97) rfl ?_
          refine w_bipush X0 hx (6 : Int32) (Jvm.hb hby d5_97) (by decide) (pc' := 99) rfl ?_
          refine w_icmp_ne X0 hx (Jvm.hb hby d5_99) (by decide) (pcT := 143) (by decide) (pcF := 102) rfl (fun hk6 => ?_) (fun hk6 => ?_)
          · refine w_bipush X0 hx (9 : Int32) (Jvm.hb hby d5_143) (by decide) (pc' := 145) rfl ?_
            refine w_newarray X0 hx hZ (hw _ (List.mem_of_getElem? (i := 5) rfl)) e0 (Jvm.hb hby d5_145) (by decide) (cap := 9) (by decide) (by decide) (by decide) (by decide) (ad := "[I") (by decide) (pc' := 147) rfl ?_
            intro T21 h21 a21 c21 g21 X21 e21 E21 A21 B21
            have V21 : IAr Z h21 a21 .int 9 (fun _ => 0) := IAr.new A21 rfl (by decide)
            have ne : a1 ≠ a21 := by rw [g21]; exact Nat.ne_of_lt A.lt
            have G : n0 ≤ a21 := Nat.le_trans Z0 (Nat.le_of_eq g21.symm)
            have Q21 := A.ext E21
            refine w_dup X21 hx (Jvm.hb hby d5_147) rfl (pc' := 148) rfl ?_
            refine w_iconst X21 hx (0 : Int32) (Jvm.hb hby d5_148) (by decide) (pc' := 149) rfl ?_
            refine w_aloadN X21 hx (Jvm.hb hby d5_149) rfl rfl (pc' := 150) rfl ?_
            refine w_iconst X21 hx (0 : Int32) (Jvm.hb hby d5_150) (by decide) (pc' := 151) rfl ?_
            refine w_ialoadA X21 hx hZ e21 Q21 0 (by decide) (by decide) (Jvm.hb hby d5_151) (pc' := 152) rfl ?_
            refine w_iastoreA X21 hx hZ e21 V21 0 (by decide) (by decide) (Jvm.hb hby d5_152) (pc' := 153) rfl ?_
            intro T22 h22 X22 e22 W22 V22
            have Q22 := Q21.other W22 ne
            have N22 := Fr.snoc X22 (Fr.nil n0) G
            have K22 : Keep h0 h22 [] := ((Keep.refl h0 []).ext E21).wr W22 (Or.inr (Nat.le_of_eq g21.symm))
            have B22 := B21.wr W22
            refine w_dup X22 hx (Jvm.hb hby d5_153) rfl (pc' := 154) rfl ?_
            refine w_iconst X22 hx (1 : Int32) (Jvm.hb hby d5_154) (by decide) (pc' := 155) rfl ?_
            refine w_aloadN X22 hx (Jvm.hb hby d5_155) rfl rfl (pc' := 156) rfl ?_
            refine w_iconst X22 hx (1 : Int32) (Jvm.hb hby d5_156) (by decide) (pc' := 157) rfl ?_
            refine w_ialoadA X22 hx hZ e22 Q22 1 (by decide) (by decide) (Jvm.hb hby d5_157) (pc' := 158) rfl ?_
            refine w_iastoreA X22 hx hZ e22 V22 1 (by decide) (by decide) (Jvm.hb hby d5_158) (pc' := 159) rfl ?_
            intro T23 h23 X23 e23 W23 V23
            have Q23 := Q22.other W23 ne
            have N23 := Fr.snoc X23 N22 G
            have K23 : Keep h0 h23 [] := K22.wr W23 (Or.inr (Nat.le_of_eq g21.symm))
            have B23 := B22.wr W23
            refine w_dup X23 hx (Jvm.hb hby d5_159) rfl (pc' := 160) rfl ?_
            refine w_iconst X23 hx (2 : Int32) (Jvm.hb hby d5_160) (by decide) (pc' := 161) rfl ?_
            refine w_aloadN X23 hx (Jvm.hb hby d5_161) rfl rfl (pc' := 162) rfl ?_
            refine w_iconst X23 hx (2 : Int32) (Jvm.hb hby d5_162) (by decide) (pc' := 163) rfl ?_
            refine w_ialoadA X23 hx hZ e23 Q23 2 (by decide) (by decide) (Jvm.hb hby d5_163) (pc' := 164) rfl ?_
            refine w_iastoreA X23 hx hZ e23 V23 2 (by decide) (by decide) (Jvm.hb hby d5_164) (pc' := 165) rfl ?_
            intro T24 h24 X24 e24 W24 V24
            have Q24 := Q23.other W24 ne
            have N24 := Fr.snoc X24 N23 G
            have K24 : Keep h0 h24 [] := K23.wr W24 (Or.inr (Nat.le_of_eq g21.symm))
            have B24 := B23.wr W24
            refine w_dup X24 hx (Jvm.hb hby d5_165) rfl (pc' := 166) rfl ?_
            refine w_iconst X24 hx (3 : Int32) (Jvm.hb hby d5_166) (by decide) (pc' := 167) rfl ?_
            refine w_aloadN X24 hx (Jvm.hb hby d5_167) rfl rfl (pc' := 168) rfl ?_
            refine w_iconst X24 hx (3 : Int32) (Jvm.hb hby d5_168) (by decide) (pc' := 169) rfl ?_
            refine w_ialoadA X24 hx hZ e24 Q24 3 (by decide) (by decide) (Jvm.hb hby d5_169) (pc' := 170) rfl ?_
            refine w_iastoreA X24 hx hZ e24 V24 3 (by decide) (by decide) (Jvm.hb hby d5_170) (pc' := 171) rfl ?_
            intro T25 h25 X25 e25 W25 V25
            have Q25 := Q24.other W25 ne
            have N25 := Fr.snoc X25 N24 G
            have K25 : Keep h0 h25 [] := K24.wr W25 (Or.inr (Nat.le_of_eq g21.symm))
            have B25 := B24.wr W25
            refine w_dup X25 hx (Jvm.hb hby d5_171) rfl (pc' := 172) rfl ?_
            refine w_iconst X25 hx (4 : Int32) (Jvm.hb hby d5_172) (by decide) (pc' := 173) rfl ?_
            refine w_aloadN X25 hx (Jvm.hb hby d5_173) rfl rfl (pc' := 174) rfl ?_
            refine w_iconst X25 hx (4 : Int32) (Jvm.hb hby d5_174) (by decide) (pc' := 175) rfl ?_
            refine w_ialoadA X25 hx hZ e25 Q25 4 (by decide) (by decide) (Jvm.hb hby d5_175) (pc' := 176) rfl ?_
            refine w_iastoreA X25 hx hZ e25 V25 4 (by decide) (by decide) (Jvm.hb hby d5_176) (pc' := 177) rfl ?_
            intro T26 h26 X26 e26 W26 V26
            have Q26 := Q25.other W26 ne
            have N26 := Fr.snoc X26 N25 G
            have K26 : Keep h0 h26 [] := K25.wr W26 (Or.inr (Nat.le_of_eq g21.symm))
            have B26 := B25.wr W26
            refine w_dup X26 hx (Jvm.hb hby d5_177) rfl (pc' := 178) rfl ?_
            refine w_iconst X26 hx (5 : Int32) (Jvm.hb hby d5_178) (by decide) (pc' := 179) rfl ?_
            refine w_aloadN X26 hx (Jvm.hb hby d5_179) rfl rfl (pc' := 180) rfl ?_
            refine w_iconst X26 hx (5 : Int32) (Jvm.hb hby d5_180) (by decide) (pc' := 181) rfl ?_
            refine w_ialoadA X26 hx hZ e26 Q26 5 (by decide) (by decide) (Jvm.hb hby d5_181) (pc' := 182) rfl ?_
            refine w_iastoreA X26 hx hZ e26 V26 5 (by decide) (by decide) (Jvm.hb hby d5_182) (pc' := 183) rfl ?_
            intro T27 h27 X27 e27 W27 V27
            have Q27 := Q26.other W27 ne
            have N27 := Fr.snoc X27 N26 G
            have K27 : Keep h0 h27 [] := K26.wr W27 (Or.inr (Nat.le_of_eq g21.symm))
            have B27 := B26.wr W27
            refine w_dup X27 hx (Jvm.hb hby d5_183) rfl (pc' := 184) rfl ?_
            refine w_bipush X27 hx (6 : Int32) (Jvm.hb hby d5_184) (by decide) (pc' := 186) rfl ?_
            refine w_aloadN X27 hx (Jvm.hb hby d5_186) rfl rfl (pc' := 187) rfl ?_
            refine w_bipush X27 hx (6 : Int32) (Jvm.hb hby d5_187) (by decide) (pc' := 189) rfl ?_
            refine w_ialoadA X27 hx hZ e27 Q27 6 (by decide) (by decide) (Jvm.hb hby d5_189) (pc' := 190) rfl ?_
            refine w_iastoreA X27 hx hZ e27 V27 6 (by decide) (by decide) (Jvm.hb hby d5_190) (pc' := 191) rfl ?_
            intro T28 h28 X28 e28 W28 V28
            have Q28 := Q27.other W28 ne
            have N28 := Fr.snoc X28 N27 G
            have K28 : Keep h0 h28 [] := K27.wr W28 (Or.inr (Nat.le_of_eq g21.symm))
            have B28 := B27.wr W28
            refine w_dup X28 hx (Jvm.hb hby d5_191) rfl (pc' := 192) rfl ?_
            refine w_bipush X28 hx (7 : Int32) (Jvm.hb hby d5_192) (by decide) (pc' := 194) rfl ?_
            refine w_aloadN X28 hx (Jvm.hb hby d5_194) rfl rfl (pc' := 195) rfl ?_
            refine w_bipush X28 hx (7 : Int32) (Jvm.hb hby d5_195) (by decide) (pc' := 197) rfl ?_
            refine w_ialoadA X28 hx hZ e28 Q28 7 (by decide) (by decide) (Jvm.hb hby d5_197) (pc' := 198) rfl ?_
            refine w_iastoreA X28 hx hZ e28 V28 7 (by decide) (by decide) (Jvm.hb hby d5_198) (pc' := 199) rfl ?_
            intro T29 h29 X29 e29 W29 V29
            have Q29 := Q28.other W29 ne
            have N29 := Fr.snoc X29 N28 G
            have K29 : Keep h0 h29 [] := K28.wr W29 (Or.inr (Nat.le_of_eq g21.symm))
            have B29 := B28.wr W29
            refine w_dup X29 hx (Jvm.hb hby d5_199) rfl (pc' := 200) rfl ?_
            refine w_bipush X29 hx (8 : Int32) (Jvm.hb hby d5_200) (by decide) (pc' := 202) rfl ?_
            refine w_aloadN X29 hx (Jvm.hb hby d5_202) rfl rfl (pc' := 203) rfl ?_
            refine w_bipush X29 hx (8 : Int32) (Jvm.hb hby d5_203) (by decide) (pc' := 205) rfl ?_
            refine w_ialoadA X29 hx hZ e29 Q29 8 (by decide) (by decide) (Jvm.hb hby d5_205) (pc' := 206) rfl ?_
            refine w_iastoreA X29 hx hZ e29 V29 8 (by decide) (by decide) (Jvm.hb hby d5_206) (pc' := 207) rfl ?_
            intro T30 h30 X30 e30 W30 V30
            have Q30 := Q29.other W30 ne
            have N30 := Fr.snoc X30 N29 G
            have K30 : Keep h0 h30 [] := K29.wr W30 (Or.inr (Nat.le_of_eq g21.symm))
            have B30 := B29.wr W30
            have hn : n = 9 := own_nine hp hk1 hk2 hk3 hk4 hk6 hn9
            subst hn
            exact w_areturn X30 hx Bd.returns rfl rfl (BodyLoose.notSynchronized Bd) (Nat.le_of_ble_eq_true rfl) (Nat.le_of_ble_eq_true rfl) (Jvm.hb hby d5_207) ⟨a21, rfl, N30, Nat.le_of_eq g21.symm, by rw [e30]; exact ⟨K30, V30.congr (fun i hi => by have h8 : i = 0 ∨ i = 1 ∨ i = 2 ∨ i = 3 ∨ i = 4 ∨ i = 5 ∨ i = 6 ∨ i = 7 ∨ i = 8 := (by omega); rcases h8 with rfl | rfl | rfl | rfl | rfl | rfl | rfl | rfl | rfl <;> rfl), B30⟩⟩
          · refine w_bipush X0 hx (6 : Int32) (Jvm.hb hby d5_102) (by decide) (pc' := 104) rfl ?_
            refine w_newarray X0 hx hZ (hw _ (List.mem_of_getElem? (i := 5) rfl)) e0 (Jvm.hb hby d5_104) (by decide) (cap := 9) (by decide) (by decide) (by decide) (by decide) (ad := "[I") (by decide) (pc' := 106) rfl ?_
            intro T31 h31 a31 c31 g31 X31 e31 E31 A31 B31
            have V31 : IAr Z h31 a31 .int 6 (fun _ => 0) := IAr.new A31 rfl (by decide)
            have ne : a1 ≠ a31 := by rw [g31]; exact Nat.ne_of_lt A.lt
            have G : n0 ≤ a31 := Nat.le_trans Z0 (Nat.le_of_eq g31.symm)
            have Q31 := A.ext E31
            refine w_dup X31 hx (Jvm.hb hby d5_106) rfl (pc' := 107) rfl ?_
            refine w_iconst X31 hx (0 : Int32) (Jvm.hb hby d5_107) (by decide) (pc' := 108) rfl ?_
            refine w_aloadN X31 hx (Jvm.hb hby d5_108) rfl rfl (pc' := 109) rfl ?_
            refine w_iconst X31 hx (0 : Int32) (Jvm.hb hby d5_109) (by decide) (pc' := 110) rfl ?_
            refine w_ialoadA X31 hx hZ e31 Q31 0 (by decide) (by decide) (Jvm.hb hby d5_110) (pc' := 111) rfl ?_
            refine w_iastoreA X31 hx hZ e31 V31 0 (by decide) (by decide) (Jvm.hb hby d5_111) (pc' := 112) rfl ?_
            intro T32 h32 X32 e32 W32 V32
            have Q32 := Q31.other W32 ne
            have N32 := Fr.snoc X32 (Fr.nil n0) G
            have K32 : Keep h0 h32 [] := ((Keep.refl h0 []).ext E31).wr W32 (Or.inr (Nat.le_of_eq g31.symm))
            have B32 := B31.wr W32
            refine w_dup X32 hx (Jvm.hb hby d5_112) rfl (pc' := 113) rfl ?_
            refine w_iconst X32 hx (1 : Int32) (Jvm.hb hby d5_113) (by decide) (pc' := 114) rfl ?_
            refine w_aloadN X32 hx (Jvm.hb hby d5_114) rfl rfl (pc' := 115) rfl ?_
            refine w_iconst X32 hx (1 : Int32) (Jvm.hb hby d5_115) (by decide) (pc' := 116) rfl ?_
            refine w_ialoadA X32 hx hZ e32 Q32 1 (by decide) (by decide) (Jvm.hb hby d5_116) (pc' := 117) rfl ?_
            refine w_iastoreA X32 hx hZ e32 V32 1 (by decide) (by decide) (Jvm.hb hby d5_117) (pc' := 118) rfl ?_
            intro T33 h33 X33 e33 W33 V33
            have Q33 := Q32.other W33 ne
            have N33 := Fr.snoc X33 N32 G
            have K33 : Keep h0 h33 [] := K32.wr W33 (Or.inr (Nat.le_of_eq g31.symm))
            have B33 := B32.wr W33
            refine w_dup X33 hx (Jvm.hb hby d5_118) rfl (pc' := 119) rfl ?_
            refine w_iconst X33 hx (2 : Int32) (Jvm.hb hby d5_119) (by decide) (pc' := 120) rfl ?_
            refine w_aloadN X33 hx (Jvm.hb hby d5_120) rfl rfl (pc' := 121) rfl ?_
            refine w_iconst X33 hx (2 : Int32) (Jvm.hb hby d5_121) (by decide) (pc' := 122) rfl ?_
            refine w_ialoadA X33 hx hZ e33 Q33 2 (by decide) (by decide) (Jvm.hb hby d5_122) (pc' := 123) rfl ?_
            refine w_iastoreA X33 hx hZ e33 V33 2 (by decide) (by decide) (Jvm.hb hby d5_123) (pc' := 124) rfl ?_
            intro T34 h34 X34 e34 W34 V34
            have Q34 := Q33.other W34 ne
            have N34 := Fr.snoc X34 N33 G
            have K34 : Keep h0 h34 [] := K33.wr W34 (Or.inr (Nat.le_of_eq g31.symm))
            have B34 := B33.wr W34
            refine w_dup X34 hx (Jvm.hb hby d5_124) rfl (pc' := 125) rfl ?_
            refine w_iconst X34 hx (3 : Int32) (Jvm.hb hby d5_125) (by decide) (pc' := 126) rfl ?_
            refine w_aloadN X34 hx (Jvm.hb hby d5_126) rfl rfl (pc' := 127) rfl ?_
            refine w_iconst X34 hx (3 : Int32) (Jvm.hb hby d5_127) (by decide) (pc' := 128) rfl ?_
            refine w_ialoadA X34 hx hZ e34 Q34 3 (by decide) (by decide) (Jvm.hb hby d5_128) (pc' := 129) rfl ?_
            refine w_iastoreA X34 hx hZ e34 V34 3 (by decide) (by decide) (Jvm.hb hby d5_129) (pc' := 130) rfl ?_
            intro T35 h35 X35 e35 W35 V35
            have Q35 := Q34.other W35 ne
            have N35 := Fr.snoc X35 N34 G
            have K35 : Keep h0 h35 [] := K34.wr W35 (Or.inr (Nat.le_of_eq g31.symm))
            have B35 := B34.wr W35
            refine w_dup X35 hx (Jvm.hb hby d5_130) rfl (pc' := 131) rfl ?_
            refine w_iconst X35 hx (4 : Int32) (Jvm.hb hby d5_131) (by decide) (pc' := 132) rfl ?_
            refine w_aloadN X35 hx (Jvm.hb hby d5_132) rfl rfl (pc' := 133) rfl ?_
            refine w_iconst X35 hx (4 : Int32) (Jvm.hb hby d5_133) (by decide) (pc' := 134) rfl ?_
            refine w_ialoadA X35 hx hZ e35 Q35 4 (by decide) (by decide) (Jvm.hb hby d5_134) (pc' := 135) rfl ?_
            refine w_iastoreA X35 hx hZ e35 V35 4 (by decide) (by decide) (Jvm.hb hby d5_135) (pc' := 136) rfl ?_
            intro T36 h36 X36 e36 W36 V36
            have Q36 := Q35.other W36 ne
            have N36 := Fr.snoc X36 N35 G
            have K36 : Keep h0 h36 [] := K35.wr W36 (Or.inr (Nat.le_of_eq g31.symm))
            have B36 := B35.wr W36
            refine w_dup X36 hx (Jvm.hb hby d5_136) rfl (pc' := 137) rfl ?_
            refine w_iconst X36 hx (5 : Int32) (Jvm.hb hby d5_137) (by decide) (pc' := 138) rfl ?_
            refine w_aloadN X36 hx (Jvm.hb hby d5_138) rfl rfl (pc' := 139) rfl ?_
            refine w_iconst X36 hx (5 : Int32) (Jvm.hb hby d5_139) (by decide) (pc' := 140) rfl ?_
            refine w_ialoadA X36 hx hZ e36 Q36 5 (by decide) (by decide) (Jvm.hb hby d5_140) (pc' := 141) rfl ?_
            refine w_iastoreA X36 hx hZ e36 V36 5 (by decide) (by decide) (Jvm.hb hby d5_141) (pc' := 142) rfl ?_
            intro T37 h37 X37 e37 W37 V37
            have Q37 := Q36.other W37 ne
            have N37 := Fr.snoc X37 N36 G
            have K37 : Keep h0 h37 [] := K36.wr W37 (Or.inr (Nat.le_of_eq g31.symm))
            have B37 := B36.wr W37
            have hn : n = 6 := by have h9 := congrArg Int32.toInt hk6; rw [hp] at h9; have h10 : (6 : Int32).toInt = 6 := (by decide); omega
            subst hn
            exact w_areturn X37 hx Bd.returns rfl rfl (BodyLoose.notSynchronized Bd) (Nat.le_of_ble_eq_true rfl) (Nat.le_of_ble_eq_true rfl) (Jvm.hb hby d5_142) ⟨a31, rfl, N37, Nat.le_of_eq g31.symm, by rw [e37]; exact ⟨K37, V37.congr (fun i hi => by have h8 : i = 0 ∨ i = 1 ∨ i = 2 ∨ i = 3 ∨ i = 4 ∨ i = 5 := (by omega); rcases h8 with rfl | rfl | rfl | rfl | rfl | rfl <;> rfl), B37⟩⟩
        · refine w_iconst X0 hx (4 : Int32) (Jvm.hb hby d5_68) (by decide) (pc' := 69) rfl ?_
          refine w_newarray X0 hx hZ (hw _ (List.mem_of_getElem? (i := 5) rfl)) e0 (Jvm.hb hby d5_69) (by decide) (cap := 9) (by decide) (by decide) (by decide) (by decide) (ad := "[I") (by decide) (pc' := 71) rfl ?_
          intro T38 h38 a38 c38 g38 X38 e38 E38 A38 B38
          have V38 : IAr Z h38 a38 .int 4 (fun _ => 0) := IAr.new A38 rfl (by decide)
          have ne : a1 ≠ a38 := by rw [g38]; exact Nat.ne_of_lt A.lt
          have G : n0 ≤ a38 := Nat.le_trans Z0 (Nat.le_of_eq g38.symm)
          have Q38 := A.ext E38
          refine w_dup X38 hx (Jvm.hb hby d5_71) rfl (pc' := 72) rfl ?_
          refine w_iconst X38 hx (0 : Int32) (Jvm.hb hby d5_72) (by decide) (pc' := 73) rfl ?_
          refine w_aloadN X38 hx (Jvm.hb hby d5_73) rfl rfl (pc' := 74) rfl ?_
          refine w_iconst X38 hx (0 : Int32) (Jvm.hb hby d5_74) (by decide) (pc' := 75) rfl ?_
          refine w_ialoadA X38 hx hZ e38 Q38 0 (by decide) (by decide) (Jvm.hb hby d5_75) (pc' := 76) rfl ?_
          refine w_iastoreA X38 hx hZ e38 V38 0 (by decide) (by decide) (Jvm.hb hby d5_76) (pc' := 77) rfl ?_
          intro T39 h39 X39 e39 W39 V39
          have Q39 := Q38.other W39 ne
          have N39 := Fr.snoc X39 (Fr.nil n0) G
          have K39 : Keep h0 h39 [] := ((Keep.refl h0 []).ext E38).wr W39 (Or.inr (Nat.le_of_eq g38.symm))
          have B39 := B38.wr W39
          refine w_dup X39 hx (Jvm.hb hby d5_77) rfl (pc' := 78) rfl ?_
          refine w_iconst X39 hx (1 : Int32) (Jvm.hb hby d5_78) (by decide) (pc' := 79) rfl ?_
          refine w_aloadN X39 hx (Jvm.hb hby d5_79) rfl rfl (pc' := 80) rfl ?_
          refine w_iconst X39 hx (1 : Int32) (Jvm.hb hby d5_80) (by decide) (pc' := 81) rfl ?_
          refine w_ialoadA X39 hx hZ e39 Q39 1 (by decide) (by decide) (Jvm.hb hby d5_81) (pc' := 82) rfl ?_
          refine w_iastoreA X39 hx hZ e39 V39 1 (by decide) (by decide) (Jvm.hb hby d5_82) (pc' := 83) rfl ?_
          intro T40 h40 X40 e40 W40 V40
          have Q40 := Q39.other W40 ne
          have N40 := Fr.snoc X40 N39 G
          have K40 : Keep h0 h40 [] := K39.wr W40 (Or.inr (Nat.le_of_eq g38.symm))
          have B40 := B39.wr W40
          refine w_dup X40 hx (Jvm.hb hby d5_83) rfl (pc' := 84) rfl ?_
          refine w_iconst X40 hx (2 : Int32) (Jvm.hb hby d5_84) (by decide) (pc' := 85) rfl ?_
          refine w_aloadN X40 hx (Jvm.hb hby d5_85) rfl rfl (pc' := 86) rfl ?_
          refine w_iconst X40 hx (2 : Int32) (Jvm.hb hby d5_86) (by decide) (pc' := 87) rfl ?_
          refine w_ialoadA X40 hx hZ e40 Q40 2 (by decide) (by decide) (Jvm.hb hby d5_87) (pc' := 88) rfl ?_
          refine w_iastoreA X40 hx hZ e40 V40 2 (by decide) (by decide) (Jvm.hb hby d5_88) (pc' := 89) rfl ?_
          intro T41 h41 X41 e41 W41 V41
          have Q41 := Q40.other W41 ne
          have N41 := Fr.snoc X41 N40 G
          have K41 : Keep h0 h41 [] := K40.wr W41 (Or.inr (Nat.le_of_eq g38.symm))
          have B41 := B40.wr W41
          refine w_dup X41 hx (Jvm.hb hby d5_89) rfl (pc' := 90) rfl ?_
          refine w_iconst X41 hx (3 : Int32) (Jvm.hb hby d5_90) (by decide) (pc' := 91) rfl ?_
          refine w_aloadN X41 hx (Jvm.hb hby d5_91) rfl rfl (pc' := 92) rfl ?_
          refine w_iconst X41 hx (3 : Int32) (Jvm.hb hby d5_92) (by decide) (pc' := 93) rfl ?_
          refine w_ialoadA X41 hx hZ e41 Q41 3 (by decide) (by decide) (Jvm.hb hby d5_93) (pc' := 94) rfl ?_
          refine w_iastoreA X41 hx hZ e41 V41 3 (by decide) (by decide) (Jvm.hb hby d5_94) (pc' := 95) rfl ?_
          intro T42 h42 X42 e42 W42 V42
          have Q42 := Q41.other W42 ne
          have N42 := Fr.snoc X42 N41 G
          have K42 : Keep h0 h42 [] := K41.wr W42 (Or.inr (Nat.le_of_eq g38.symm))
          have B42 := B41.wr W42
          have hn : n = 4 := by have h9 := congrArg Int32.toInt hk4; rw [hp] at h9; have h10 : (4 : Int32).toInt = 4 := (by decide); omega
          subst hn
          exact w_areturn X42 hx Bd.returns rfl rfl (BodyLoose.notSynchronized Bd) (Nat.le_of_ble_eq_true rfl) (Nat.le_of_ble_eq_true rfl) (Jvm.hb hby d5_95) ⟨a38, rfl, N42, Nat.le_of_eq g38.symm, by rw [e42]; exact ⟨K42, V42.congr (fun i hi => by have h8 : i = 0 ∨ i = 1 ∨ i = 2 ∨ i = 3 := (by omega); rcases h8 with rfl | rfl | rfl | rfl <;> rfl), B42⟩⟩
      · refine w_iconst X0 hx (3 : Int32) (Jvm.hb hby d5_41) (by decide) (pc' := 42) rfl ?_
        refine w_newarray X0 hx hZ (hw _ (List.mem_of_getElem? (i := 5) rfl)) e0 (Jvm.hb hby d5_42) (by decide) (cap := 9) (by decide) (by decide) (by decide) (by decide) (ad := "[I") (by decide) (pc' := 44) rfl ?_
        intro T43 h43 a43 c43 g43 X43 e43 E43 A43 B43
        have V43 : IAr Z h43 a43 .int 3 (fun _ => 0) := IAr.new A43 rfl (by decide)
        have ne : a1 ≠ a43 := by rw [g43]; exact Nat.ne_of_lt A.lt
        have G : n0 ≤ a43 := Nat.le_trans Z0 (Nat.le_of_eq g43.symm)
        have Q43 := A.ext E43
        refine w_dup X43 hx (Jvm.hb hby d5_44) rfl (pc' := 45) rfl ?_
        refine w_iconst X43 hx (0 : Int32) (Jvm.hb hby d5_45) (by decide) (pc' := 46) rfl ?_
        refine w_aloadN X43 hx (Jvm.hb hby d5_46) rfl rfl (pc' := 47) rfl ?_
        refine w_iconst X43 hx (0 : Int32) (Jvm.hb hby d5_47) (by decide) (pc' := 48) rfl ?_
        refine w_ialoadA X43 hx hZ e43 Q43 0 (by decide) (by decide) (Jvm.hb hby d5_48) (pc' := 49) rfl ?_
        refine w_iastoreA X43 hx hZ e43 V43 0 (by decide) (by decide) (Jvm.hb hby d5_49) (pc' := 50) rfl ?_
        intro T44 h44 X44 e44 W44 V44
        have Q44 := Q43.other W44 ne
        have N44 := Fr.snoc X44 (Fr.nil n0) G
        have K44 : Keep h0 h44 [] := ((Keep.refl h0 []).ext E43).wr W44 (Or.inr (Nat.le_of_eq g43.symm))
        have B44 := B43.wr W44
        refine w_dup X44 hx (Jvm.hb hby d5_50) rfl (pc' := 51) rfl ?_
        refine w_iconst X44 hx (1 : Int32) (Jvm.hb hby d5_51) (by decide) (pc' := 52) rfl ?_
        refine w_aloadN X44 hx (Jvm.hb hby d5_52) rfl rfl (pc' := 53) rfl ?_
        refine w_iconst X44 hx (1 : Int32) (Jvm.hb hby d5_53) (by decide) (pc' := 54) rfl ?_
        refine w_ialoadA X44 hx hZ e44 Q44 1 (by decide) (by decide) (Jvm.hb hby d5_54) (pc' := 55) rfl ?_
        refine w_iastoreA X44 hx hZ e44 V44 1 (by decide) (by decide) (Jvm.hb hby d5_55) (pc' := 56) rfl ?_
        intro T45 h45 X45 e45 W45 V45
        have Q45 := Q44.other W45 ne
        have N45 := Fr.snoc X45 N44 G
        have K45 : Keep h0 h45 [] := K44.wr W45 (Or.inr (Nat.le_of_eq g43.symm))
        have B45 := B44.wr W45
        refine w_dup X45 hx (Jvm.hb hby d5_56) rfl (pc' := 57) rfl ?_
        refine w_iconst X45 hx (2 : Int32) (Jvm.hb hby d5_57) (by decide) (pc' := 58) rfl ?_
        refine w_aloadN X45 hx (Jvm.hb hby d5_58) rfl rfl (pc' := 59) rfl ?_
        refine w_iconst X45 hx (2 : Int32) (Jvm.hb hby d5_59) (by decide) (pc' := 60) rfl ?_
        refine w_ialoadA X45 hx hZ e45 Q45 2 (by decide) (by decide) (Jvm.hb hby d5_60) (pc' := 61) rfl ?_
        refine w_iastoreA X45 hx hZ e45 V45 2 (by decide) (by decide) (Jvm.hb hby d5_61) (pc' := 62) rfl ?_
        intro T46 h46 X46 e46 W46 V46
        have Q46 := Q45.other W46 ne
        have N46 := Fr.snoc X46 N45 G
        have K46 : Keep h0 h46 [] := K45.wr W46 (Or.inr (Nat.le_of_eq g43.symm))
        have B46 := B45.wr W46
        have hn : n = 3 := by have h9 := congrArg Int32.toInt hk3; rw [hp] at h9; have h10 : (3 : Int32).toInt = 3 := (by decide); omega
        subst hn
        exact w_areturn X46 hx Bd.returns rfl rfl (BodyLoose.notSynchronized Bd) (Nat.le_of_ble_eq_true rfl) (Nat.le_of_ble_eq_true rfl) (Jvm.hb hby d5_62) ⟨a43, rfl, N46, Nat.le_of_eq g43.symm, by rw [e46]; exact ⟨K46, V46.congr (fun i hi => by have h8 : i = 0 ∨ i = 1 ∨ i = 2 := (by omega); rcases h8 with rfl | rfl | rfl <;> rfl), B46⟩⟩
    · refine w_iconst X0 hx (2 : Int32) (Jvm.hb hby d5_20) (by decide) (pc' := 21) rfl ?_
      refine w_newarray X0 hx hZ (hw _ (List.mem_of_getElem? (i := 5) rfl)) e0 (Jvm.hb hby d5_21) (by decide) (cap := 9) (by decide) (by decide) (by decide) (by decide) (ad := "[I") (by decide) (pc' := 23) rfl ?_
      intro T47 h47 a47 c47 g47 X47 e47 E47 A47 B47
      have V47 : IAr Z h47 a47 .int 2 (fun _ => 0) := IAr.new A47 rfl (by decide)
      have ne : a1 ≠ a47 := by rw [g47]; exact Nat.ne_of_lt A.lt
      have G : n0 ≤ a47 := Nat.le_trans Z0 (Nat.le_of_eq g47.symm)
      have Q47 := A.ext E47
      refine w_dup X47 hx (Jvm.hb hby d5_23) rfl (pc' := 24) rfl ?_
      refine w_iconst X47 hx (0 : Int32) (Jvm.hb hby d5_24) (by decide) (pc' := 25) rfl ?_
      refine w_aloadN X47 hx (Jvm.hb hby d5_25) rfl rfl (pc' := 26) rfl ?_
      refine w_iconst X47 hx (0 : Int32) (Jvm.hb hby d5_26) (by decide) (pc' := 27) rfl ?_
      refine w_ialoadA X47 hx hZ e47 Q47 0 (by decide) (by decide) (Jvm.hb hby d5_27) (pc' := 28) rfl ?_
      refine w_iastoreA X47 hx hZ e47 V47 0 (by decide) (by decide) (Jvm.hb hby d5_28) (pc' := 29) rfl ?_
      intro T48 h48 X48 e48 W48 V48
      have Q48 := Q47.other W48 ne
      have N48 := Fr.snoc X48 (Fr.nil n0) G
      have K48 : Keep h0 h48 [] := ((Keep.refl h0 []).ext E47).wr W48 (Or.inr (Nat.le_of_eq g47.symm))
      have B48 := B47.wr W48
      refine w_dup X48 hx (Jvm.hb hby d5_29) rfl (pc' := 30) rfl ?_
      refine w_iconst X48 hx (1 : Int32) (Jvm.hb hby d5_30) (by decide) (pc' := 31) rfl ?_
      refine w_aloadN X48 hx (Jvm.hb hby d5_31) rfl rfl (pc' := 32) rfl ?_
      refine w_iconst X48 hx (1 : Int32) (Jvm.hb hby d5_32) (by decide) (pc' := 33) rfl ?_
      refine w_ialoadA X48 hx hZ e48 Q48 1 (by decide) (by decide) (Jvm.hb hby d5_33) (pc' := 34) rfl ?_
      refine w_iastoreA X48 hx hZ e48 V48 1 (by decide) (by decide) (Jvm.hb hby d5_34) (pc' := 35) rfl ?_
      intro T49 h49 X49 e49 W49 V49
      have Q49 := Q48.other W49 ne
      have N49 := Fr.snoc X49 N48 G
      have K49 : Keep h0 h49 [] := K48.wr W49 (Or.inr (Nat.le_of_eq g47.symm))
      have B49 := B48.wr W49
      have hn : n = 2 := by have h9 := congrArg Int32.toInt hk2; rw [hp] at h9; have h10 : (2 : Int32).toInt = 2 := (by decide); omega
      subst hn
      exact w_areturn X49 hx Bd.returns rfl rfl (BodyLoose.notSynchronized Bd) (Nat.le_of_ble_eq_true rfl) (Nat.le_of_ble_eq_true rfl) (Jvm.hb hby d5_35) ⟨a47, rfl, N49, Nat.le_of_eq g47.symm, by rw [e49]; exact ⟨K49, V49.congr (fun i hi => by have h8 : i = 0 ∨ i = 1 := (by omega); rcases h8 with rfl | rfl <;> rfl), B49⟩⟩
  · refine w_iconst X0 hx (1 : Int32) (Jvm.hb hby d5_5) (by decide) (pc' := 6) rfl ?_
    refine w_newarray X0 hx hZ (hw _ (List.mem_of_getElem? (i := 5) rfl)) e0 (Jvm.hb hby d5_6) (by decide) (cap := 9) (by decide) (by decide) (by decide) (by decide) (ad := "[I") (by decide) (pc' := 8) rfl ?_
    intro T50 h50 a50 c50 g50 X50 e50 E50 A50 B50
    have V50 : IAr Z h50 a50 .int 1 (fun _ => 0) := IAr.new A50 rfl (by decide)
    have ne : a1 ≠ a50 := by rw [g50]; exact Nat.ne_of_lt A.lt
    have G : n0 ≤ a50 := Nat.le_trans Z0 (Nat.le_of_eq g50.symm)
    have Q50 := A.ext E50
    refine w_dup X50 hx (Jvm.hb hby d5_8) rfl (pc' := 9) rfl ?_
    refine w_iconst X50 hx (0 : Int32) (Jvm.hb hby d5_9) (by decide) (pc' := 10) rfl ?_
    refine w_aloadN X50 hx (Jvm.hb hby d5_10) rfl rfl (pc' := 11) rfl ?_
    refine w_iconst X50 hx (0 : Int32) (Jvm.hb hby d5_11) (by decide) (pc' := 12) rfl ?_
    refine w_ialoadA X50 hx hZ e50 Q50 0 (by decide) (by decide) (Jvm.hb hby d5_12) (pc' := 13) rfl ?_
    refine w_iastoreA X50 hx hZ e50 V50 0 (by decide) (by decide) (Jvm.hb hby d5_13) (pc' := 14) rfl ?_
    intro T51 h51 X51 e51 W51 V51
    have Q51 := Q50.other W51 ne
    have N51 := Fr.snoc X51 (Fr.nil n0) G
    have K51 : Keep h0 h51 [] := ((Keep.refl h0 []).ext E50).wr W51 (Or.inr (Nat.le_of_eq g50.symm))
    have B51 := B50.wr W51
    have hn : n = 1 := by have h9 := congrArg Int32.toInt hk1; rw [hp] at h9; have h10 : (1 : Int32).toInt = 1 := (by decide); omega
    subst hn
    exact w_areturn X51 hx Bd.returns rfl rfl (BodyLoose.notSynchronized Bd) (Nat.le_of_ble_eq_true rfl) (Nat.le_of_ble_eq_true rfl) (Jvm.hb hby d5_14) ⟨a50, rfl, N51, Nat.le_of_eq g50.symm, by rw [e51]; exact ⟨K51, V51.congr (fun i hi => by have h8 : i = 0 := (by omega); rcases h8 with rfl <;> rfl), B51⟩⟩
def Q7 (Z : State) (a0 : Addr) (p1 p2 : Int32) (a3 : Addr) (rN : Int32) (h0 : Heap) (n0 : Nat) (v : Option Value) (h : Heap) (L : List Loc) : Prop := v = none ∧ Fr n0 L ∧ Keep h0 h [a0] ∧ Fld Z h a0 "com/example/sarutahiko/sarutahiko/heatmap/HeatMap" "persons" "I" (.int p1) ∧ Fld Z h a0 "com/example/sarutahiko/sarutahiko/heatmap/HeatMap" "columns" "I" (.int p2) ∧ Fld Z h a0 "com/example/sarutahiko/sarutahiko/heatmap/HeatMap" "rows" "I" (.int rN) ∧ Fld Z h a0 "com/example/sarutahiko/sarutahiko/heatmap/HeatMap" "counts" "[I" (.ref a3)
set_option maxRecDepth 65536 in
set_option maxHeartbeats 40000000 in
theorem rm7 (l : Launch) (Z : State) (aw : Array Value) (hw : ∀ d ∈ tables_1, d.before aw Z = true) (ws : List Jvm.Cond) (a0 : Addr) (p1 : Int32) (p2 : Int32) (a3 : Addr) (rN : Int32) (n : Nat) (f : Nat → Int32) (h0 : Heap) (n0 : Nat) (F_persons : Fld Z h0 a0 "com/example/sarutahiko/sarutahiko/heatmap/HeatMap" "persons" "I" (.int (0 : Int32))) (F_columns : Fld Z h0 a0 "com/example/sarutahiko/sarutahiko/heatmap/HeatMap" "columns" "I" (.int (0 : Int32))) (F_rows : Fld Z h0 a0 "com/example/sarutahiko/sarutahiko/heatmap/HeatMap" "rows" "I" (.int (0 : Int32))) (F_counts : Fld Z h0 a0 "com/example/sarutahiko/sarutahiko/heatmap/HeatMap" "counts" "[I" .null) (E : Exa Z h0 a0 "com/example/sarutahiko/sarutahiko/heatmap/HeatMap") (g : n0 ≤ a0) (A : IAr Z h0 a3 .int n f) (ne : a0 ≠ a3) (hp1 : 1 ≤ p1.toInt) (hp2 : ¬ p2 = 0) (hn1 : 1 ≤ n) (hf : ∀ i, i < n → ¬ f i < (0 : Int32)) (hdiv : ∀ z : Int32, z.toInt = (n : Int) → z / p2 = rN) :
    MetFree l (⟨"com/example/sarutahiko/sarutahiko/heatmap/HeatMap", "<init>", "(II[I)V"⟩ : MethodName) (head1 (Jvm.Cond.code (⟨"com/example/sarutahiko/sarutahiko/heatmap/HeatMap", "<init>", "(II[I)V"⟩ : MethodName) prog_19_method_2_code 5 none :: ws) ({ frames := 1, cells := 0, slots := 0, locals := 12 } : Room)) (fun a U => a = #[(.ref a0), (.int p1), (.int p2), (.ref a3)] ∧ Z.Warmed39 U.vm ∧ U.heap = h0) (fun _ _ _ _ _ => True) (fun _ U o U' => ∃ v L, o = .returned v ∧ Q7 Z a0 p1 p2 a3 rN h0 n0 v U'.heap L ∧ FrameEnd U o U' L ({ frames := 1, cells := 0, slots := 0, locals := 12 } : Room).cells ({ frames := 1, cells := 0, slots := 0, locals := 12 } : Room).slots) := by
  refine MetFree.of_bodySF (plainFor_of_name pn_1) hisR ?_
  intro p e s m args below meth c s₁ Bd hml0 hP _hKK
  obtain ⟨rfl, hZ, hh⟩ := hP
  have hx := Bd.exec
  have hby := Bd.bytes
  have hml : c.maxLocals = 5 := hml0
  have hown : s.vm.findClass "com/example/sarutahiko/sarutahiko/heatmap/HeatMap" = some m.cls := findClass_of_methodNamed Bd.named
  have hnm := (name_of_methodNamed Bd.named Bd.method).1
  have X0 : Stand p l e ({ frames := 1, cells := 0, slots := 0, locals := 12 } : Room) s m #[(.ref a0), (.int p1), (.int p2), (.ref a3)] below meth c s₁ [] 0 0 := Stand.of_body Bd
  have e0 : s₁.heap = h0 := by rw [← hh, Bd.state]; rfl
  refine Ow.enter (Q := Q7 Z a0 p1 p2 a3 rN h0 n0) (ef_7 m a0 p1 p2 a3) ?_
  show Ow p e below s _ _ _ (s₁.setTop (mkF m 0 #[.val (.ref a0), .val (.int p1), .val (.int p2), .val (.ref a3), .unset] []))
  obtain ⟨nz, hnz⟩ := own_nz (n := n) A.len
  refine w_aloadN X0 hx (Jvm.hb hby d7_0) rfl rfl (pc' := 1) rfl ?_
  refine w_objinit X0 hx hZ hown (hw _ (List.mem_of_getElem? (i := 38) rfl)) (hw _ (List.mem_of_getElem? (i := 39) rfl)) (hw _ (List.mem_of_getElem? (i := 40) rfl)) e0 (Jvm.hb hby d7_1) (by rw [hml]; rfl) (by decide) (W := 0) (Nat.le_of_eq rfl) (by decide) (pc' := 4) rfl ?_
  intro T52 X52 e52
  refine w_iloadN X52 hx (Jvm.hb hby d7_4) rfl (pc' := 5) rfl ?_
  refine w_iconst X52 hx (1 : Int32) (Jvm.hb hby d7_5) (by decide) (pc' := 6) rfl ?_
  refine w_icmp_ge X52 hx (Jvm.hb hby d7_6) (by decide) (pcT := 23) (by decide) (pcF := 9) rfl (fun _ => ?_) (fun q => absurd q (show ¬ p1 < (1 : Int32) from fun z => by rw [Int32.lt_iff_toInt_lt, show (1 : Int32).toInt = 1 from by decide] at z; omega))
  refine w_aloadN X52 hx (Jvm.hb hby d7_23) rfl rfl (pc' := 24) rfl ?_
  refine w_lengthA X52 hx hZ e52 A nz hnz (Jvm.hb hby d7_24) (pc' := 25) rfl ?_
  refine w_if_ne X52 hx (Jvm.hb hby d7_25) (by decide) (pcT := 38) (by decide) (pcF := 28) rfl (fun _ => ?_) (fun q => absurd q (show ¬ nz = (0 : Int32) from fun z => by rw [z, own_zero] at hnz; omega))
  refine w_iconst X52 hx (0 : Int32) (Jvm.hb hby d7_38) (by decide) (pc' := 39) rfl ?_
  refine w_istore X52 hx (Jvm.hb hby d7_39) #[.val (.ref a0), .val (.int p1), .val (.int p2), .val (.ref a3), .val (.int (0 : Int32))] rfl  (pc' := 41) rfl ?_
  have loop : ∀ (k i : Nat) (z : Int32), z.toInt = (i : Int) → i + k = n → ∃ z' : Int32, Ow p e below s (Q7 Z a0 p1 p2 a3 rN h0 n0) 0 0 (T52.setTop (mkF m 86 #[.val (.ref a0), .val (.int p1), .val (.int p2), .val (.ref a3), .val (.int z')] [])) → Ow p e below s (Q7 Z a0 p1 p2 a3 rN h0 n0) 0 0 (T52.setTop (mkF m 41 #[.val (.ref a0), .val (.int p1), .val (.int p2), .val (.ref a3), .val (.int z)] [])) := by
    intro k
    induction k with
    | zero =>
      intro i z hi hk
      refine ⟨z, fun kk => ?_⟩
      refine w_iload X52 hx (Jvm.hb hby d7_41) rfl (pc' := 43) rfl ?_
      refine w_aloadN X52 hx (Jvm.hb hby d7_43) rfl rfl (pc' := 44) rfl ?_
      refine w_lengthA X52 hx hZ e52 A nz hnz (Jvm.hb hby d7_44) (pc' := 45) rfl ?_
      refine w_icmp_ge X52 hx (Jvm.hb hby d7_45) (by decide) (pcT := 86) (by decide) (pcF := 48) rfl (fun _ => ?_) (fun q => absurd q (show ¬ z < nz from fun q => by rw [Int32.lt_iff_toInt_lt, hi, hnz] at q; omega))
      exact kk
    | succ k ih =>
      intro i z hi hk
      have hz1 : (z + (1 : Int32)).toInt = ((i + 1 : Nat) : Int) := by have h9 := A.len; have h8 : (1 : Int32).toInt = 1 := (by decide); rw [Kit.i32_add (by rw [hi, h8]; omega) (by rw [hi, h8]; omega), hi, h8]; omega
      obtain ⟨z', hz'⟩ := ih (i + 1) (z + (1 : Int32)) hz1 (by omega)
      refine ⟨z', fun kk => ?_⟩
      refine w_iload X52 hx (Jvm.hb hby d7_41) rfl (pc' := 43) rfl ?_
      refine w_aloadN X52 hx (Jvm.hb hby d7_43) rfl rfl (pc' := 44) rfl ?_
      refine w_lengthA X52 hx hZ e52 A nz hnz (Jvm.hb hby d7_44) (pc' := 45) rfl ?_
      refine w_icmp_ge X52 hx (Jvm.hb hby d7_45) (by decide) (pcT := 86) (by decide) (pcF := 48) rfl (fun q => absurd (show z < nz from by rw [Int32.lt_iff_toInt_lt, hi, hnz]; omega) q) (fun _ => ?_)
      refine w_aloadN X52 hx (Jvm.hb hby d7_48) rfl rfl (pc' := 49) rfl ?_
      refine w_iload X52 hx (Jvm.hb hby d7_49) rfl (pc' := 51) rfl ?_
      refine w_ialoadA X52 hx hZ e52 A i hi (by omega) (Jvm.hb hby d7_51) (pc' := 52) rfl ?_
      refine w_if_ge X52 hx (Jvm.hb hby d7_52) (by decide) (pcT := 80) (by decide) (pcF := 55) rfl (fun _ => ?_) (fun q => absurd q (hf i (by omega)))
      refine w_iinc X52 hx (Jvm.hb hby d7_80) rfl #[.val (.ref a0), .val (.int p1), .val (.int p2), .val (.ref a3), .val (.int (z + (1 : Int32)))] rfl (pc' := 83) rfl ?_
      refine w_goto X52 hx (Jvm.hb hby d7_83) (by decide) (pc' := 41) (by decide) ?_
      exact hz' kk
  obtain ⟨zz, hzz⟩ := loop n 0 (0 : Int32) (by decide) (by omega)
  refine hzz ?_
  have neA : a3 ≠ a0 := Ne.symm ne
  refine w_aloadN X52 hx (Jvm.hb hby d7_86) rfl rfl (pc' := 87) rfl ?_
  refine w_iloadN X52 hx (Jvm.hb hby d7_87) rfl (pc' := 88) rfl ?_
  refine w_putfield X52 hx hZ hown (host := "") (Or.inl (hw _ (List.mem_of_getElem? (i := 41) rfl))) Via.refl e52 F_persons E (Or.inr ⟨(hw _ (List.mem_of_getElem? (i := 42) rfl)), rfl, hnm⟩) (hw _ (List.mem_of_getElem? (i := 25) rfl)) (ty := .int) (by decide) rfl rfl (Jvm.hb hby d7_88) (pc' := 91) rfl ?_
  intro T53 h53 X53 e53 W53
  have F53_persons := F_persons.same W53
  have F53_columns := F_columns.other W53 (Or.inr (slot_ne (Or.inr (hw _ (List.mem_of_getElem? (i := 44) rfl))) (Or.inr (hw _ (List.mem_of_getElem? (i := 42) rfl))) (by decide) (t := .int) (t' := .int) (by decide) (by decide)))
  have F53_rows := F_rows.other W53 (Or.inr (slot_ne (Or.inr (hw _ (List.mem_of_getElem? (i := 46) rfl))) (Or.inr (hw _ (List.mem_of_getElem? (i := 42) rfl))) (by decide) (t := .int) (t' := .int) (by decide) (by decide)))
  have F53_counts := F_counts.other W53 (Or.inr (slot_ne (Or.inr (hw _ (List.mem_of_getElem? (i := 48) rfl))) (Or.inr (hw _ (List.mem_of_getElem? (i := 42) rfl))) (by decide) (t := (.array .int)) (t' := .int) (by decide) (by decide)))
  have E53 := E.wr W53
  have V53 := A.other W53 neA
  have K53 : Keep h0 h53 [a0] := Keep.of_wr W53
  have N53 := Fr.snoc X53 (Fr.nil n0) g
  refine w_aloadN X53 hx (Jvm.hb hby d7_91) rfl rfl (pc' := 92) rfl ?_
  refine w_iloadN X53 hx (Jvm.hb hby d7_92) rfl (pc' := 93) rfl ?_
  refine w_putfield X53 hx hZ hown (host := "") (Or.inl (hw _ (List.mem_of_getElem? (i := 43) rfl))) Via.refl e53 F53_columns E53 (Or.inr ⟨(hw _ (List.mem_of_getElem? (i := 44) rfl)), rfl, hnm⟩) (hw _ (List.mem_of_getElem? (i := 25) rfl)) (ty := .int) (by decide) rfl rfl (Jvm.hb hby d7_93) (pc' := 96) rfl ?_
  intro T54 h54 X54 e54 W54
  have F54_persons := F53_persons.other W54 (Or.inr (slot_ne (Or.inr (hw _ (List.mem_of_getElem? (i := 42) rfl))) (Or.inr (hw _ (List.mem_of_getElem? (i := 44) rfl))) (by decide) (t := .int) (t' := .int) (by decide) (by decide)))
  have F54_columns := F53_columns.same W54
  have F54_rows := F53_rows.other W54 (Or.inr (slot_ne (Or.inr (hw _ (List.mem_of_getElem? (i := 46) rfl))) (Or.inr (hw _ (List.mem_of_getElem? (i := 44) rfl))) (by decide) (t := .int) (t' := .int) (by decide) (by decide)))
  have F54_counts := F53_counts.other W54 (Or.inr (slot_ne (Or.inr (hw _ (List.mem_of_getElem? (i := 48) rfl))) (Or.inr (hw _ (List.mem_of_getElem? (i := 44) rfl))) (by decide) (t := (.array .int)) (t' := .int) (by decide) (by decide)))
  have E54 := E53.wr W54
  have V54 := V53.other W54 neA
  have K54 : Keep h0 h54 [a0] := K53.wr W54 (Or.inl (List.mem_of_getElem? (i := 0) rfl))
  have N54 := Fr.snoc X54 N53 g
  refine w_aloadN X54 hx (Jvm.hb hby d7_96) rfl rfl (pc' := 97) rfl ?_
  refine w_aloadN X54 hx (Jvm.hb hby d7_97) rfl rfl (pc' := 98) rfl ?_
  refine w_lengthA X54 hx hZ e54 V54 nz hnz (Jvm.hb hby d7_98) (pc' := 99) rfl ?_
  refine w_iloadN X54 hx (Jvm.hb hby d7_99) rfl (pc' := 100) rfl ?_
  refine w_idiv X54 hx (Jvm.hb hby d7_100) hp2 (pc' := 101) rfl ?_
  rw [show nz / p2 = rN from hdiv nz hnz]
  show Ow p e below s _ _ _ (T54.setTop (mkF m 101 #[.val (.ref a0), .val (.int p1), .val (.int p2), .val (.ref a3), .val (.int zz)] [(.int rN), (.ref a0)]))
  refine w_putfield X54 hx hZ hown (host := "") (Or.inl (hw _ (List.mem_of_getElem? (i := 45) rfl))) Via.refl e54 F54_rows E54 (Or.inr ⟨(hw _ (List.mem_of_getElem? (i := 46) rfl)), rfl, hnm⟩) (hw _ (List.mem_of_getElem? (i := 25) rfl)) (ty := .int) (by decide) rfl rfl (Jvm.hb hby d7_101) (pc' := 104) rfl ?_
  intro T55 h55 X55 e55 W55
  have F55_persons := F54_persons.other W55 (Or.inr (slot_ne (Or.inr (hw _ (List.mem_of_getElem? (i := 42) rfl))) (Or.inr (hw _ (List.mem_of_getElem? (i := 46) rfl))) (by decide) (t := .int) (t' := .int) (by decide) (by decide)))
  have F55_columns := F54_columns.other W55 (Or.inr (slot_ne (Or.inr (hw _ (List.mem_of_getElem? (i := 44) rfl))) (Or.inr (hw _ (List.mem_of_getElem? (i := 46) rfl))) (by decide) (t := .int) (t' := .int) (by decide) (by decide)))
  have F55_rows := F54_rows.same W55
  have F55_counts := F54_counts.other W55 (Or.inr (slot_ne (Or.inr (hw _ (List.mem_of_getElem? (i := 48) rfl))) (Or.inr (hw _ (List.mem_of_getElem? (i := 46) rfl))) (by decide) (t := (.array .int)) (t' := .int) (by decide) (by decide)))
  have E55 := E54.wr W55
  have V55 := V54.other W55 neA
  have K55 : Keep h0 h55 [a0] := K54.wr W55 (Or.inl (List.mem_of_getElem? (i := 0) rfl))
  have N55 := Fr.snoc X55 N54 g
  refine w_aloadN X55 hx (Jvm.hb hby d7_104) rfl rfl (pc' := 105) rfl ?_
  refine w_aloadN X55 hx (Jvm.hb hby d7_105) rfl rfl (pc' := 106) rfl ?_
  refine w_putfield X55 hx hZ hown (host := "") (Or.inl (hw _ (List.mem_of_getElem? (i := 47) rfl))) Via.refl e55 F55_counts E55 (Or.inr ⟨(hw _ (List.mem_of_getElem? (i := 48) rfl)), rfl, hnm⟩) (hw _ (List.mem_of_getElem? (i := 25) rfl)) (ty := (.array .int)) (by decide) rfl rfl (Jvm.hb hby d7_106) (pc' := 109) rfl ?_
  intro T56 h56 X56 e56 W56
  have F56_persons := F55_persons.other W56 (Or.inr (slot_ne (Or.inr (hw _ (List.mem_of_getElem? (i := 42) rfl))) (Or.inr (hw _ (List.mem_of_getElem? (i := 48) rfl))) (by decide) (t := .int) (t' := (.array .int)) (by decide) (by decide)))
  have F56_columns := F55_columns.other W56 (Or.inr (slot_ne (Or.inr (hw _ (List.mem_of_getElem? (i := 44) rfl))) (Or.inr (hw _ (List.mem_of_getElem? (i := 48) rfl))) (by decide) (t := .int) (t' := (.array .int)) (by decide) (by decide)))
  have F56_rows := F55_rows.other W56 (Or.inr (slot_ne (Or.inr (hw _ (List.mem_of_getElem? (i := 46) rfl))) (Or.inr (hw _ (List.mem_of_getElem? (i := 48) rfl))) (by decide) (t := .int) (t' := (.array .int)) (by decide) (by decide)))
  have F56_counts := F55_counts.same W56
  have E56 := E55.wr W56
  have V56 := V55.other W56 neA
  have K56 : Keep h0 h56 [a0] := K55.wr W56 (Or.inl (List.mem_of_getElem? (i := 0) rfl))
  have N56 := Fr.snoc X56 N55 g
  exact w_return X56 hx Bd.returns (BodyLoose.notSynchronized Bd) (Nat.le_of_ble_eq_true rfl) (Nat.le_of_ble_eq_true rfl) (Jvm.hb hby d7_109) ⟨rfl, N56, by rw [e56]; exact ⟨K56, F56_persons, F56_columns, F56_rows, F56_counts⟩⟩
def Q6 (Z : State) (p0 p1 : Int32) (rN : Int32) (n : Nat) (f : Nat → Int32) (h0 : Heap) (n0 : Nat) (v : Option Value) (h : Heap) (L : List Loc) : Prop := ∃ b d, v = some (.ref b) ∧ Fr n0 L ∧ h0.size ≤ b ∧ h0.size ≤ d ∧ Keep h0 h [] ∧ Exa Z h b "com/example/sarutahiko/sarutahiko/heatmap/HeatMap" ∧ Fld Z h b "com/example/sarutahiko/sarutahiko/heatmap/HeatMap" "persons" "I" (.int p0) ∧ Fld Z h b "com/example/sarutahiko/sarutahiko/heatmap/HeatMap" "columns" "I" (.int p1) ∧ Fld Z h b "com/example/sarutahiko/sarutahiko/heatmap/HeatMap" "rows" "I" (.int rN) ∧ Fld Z h b "com/example/sarutahiko/sarutahiko/heatmap/HeatMap" "counts" "[I" (.ref d) ∧ IAr Z h d .int n f
set_option maxRecDepth 65536 in
set_option maxHeartbeats 40000000 in
theorem rm6 (l : Launch) (Z : State) (aw : Array Value) (hw : ∀ d ∈ tables_1, d.before aw Z = true) (ws : List Jvm.Cond) (p0 : Int32) (p1 : Int32) (a2 : Addr) (rN : Int32) (n : Nat) (f : Nat → Int32) (h0 : Heap) (n0 : Nat) (Z0 : n0 ≤ h0.size) (A : IAr Z h0 a2 .int n f) (B : Exa Z h0 a2 "[I") (hp0 : 1 ≤ p0.toInt) (hp1 : 1 ≤ p1.toInt) (hp2 : ¬ p1 = 0) (hn1 : 1 ≤ n) (hn9 : n ≤ 9) (hf : ∀ i, i < n → ¬ f i < (0 : Int32)) (hdiv : ∀ z : Int32, z.toInt = (n : Int) → z / p1 = rN) (hmod : ∀ z : Int32, z.toInt = (n : Int) → z % p1 = (0 : Int32)) :
    MetFree l (⟨"com/example/sarutahiko/sarutahiko/heatmap/HeatMap", "ofCells", "(II[I)Lcom/example/sarutahiko/sarutahiko/heatmap/HeatMap;"⟩ : MethodName) (head1 (Jvm.Cond.code (⟨"com/example/sarutahiko/sarutahiko/heatmap/HeatMap", "ofCells", "(II[I)Lcom/example/sarutahiko/sarutahiko/heatmap/HeatMap;"⟩ : MethodName) prog_19_method_3_code 3 (some (.object "com/example/sarutahiko/sarutahiko/heatmap/HeatMap")) :: ws) ({ frames := 2, cells := 2, slots := 13, locals := 29 } : Room)) (fun a U => a = #[(.int p0), (.int p1), (.ref a2)] ∧ Z.Warmed39 U.vm ∧ U.heap = h0) (fun _ _ _ _ _ => True) (fun _ U o U' => ∃ v L, o = .returned v ∧ Q6 Z p0 p1 rN n f h0 n0 v U'.heap L ∧ FrameEnd U o U' L ({ frames := 2, cells := 2, slots := 13, locals := 29 } : Room).cells ({ frames := 2, cells := 2, slots := 13, locals := 29 } : Room).slots) := by
  refine MetFree.of_bodySF (plainFor_of_name pn_1) hisR ?_
  intro p e s m args below meth c s₁ Bd hml0 hP _hKK
  obtain ⟨rfl, hZ, hh⟩ := hP
  have hx := Bd.exec
  have hby := Bd.bytes
  have hml : c.maxLocals = 3 := hml0
  have hown : s.vm.findClass "com/example/sarutahiko/sarutahiko/heatmap/HeatMap" = some m.cls := findClass_of_methodNamed Bd.named
  have hnm := (name_of_methodNamed Bd.named Bd.method).1
  have X0 : Stand p l e ({ frames := 2, cells := 2, slots := 13, locals := 29 } : Room) s m #[(.int p0), (.int p1), (.ref a2)] below meth c s₁ [] 0 0 := Stand.of_body Bd
  have e0 : s₁.heap = h0 := by rw [← hh, Bd.state]; rfl
  refine Ow.enter (Q := Q6 Z p0 p1 rN n f h0 n0) (ef_6 m p0 p1 a2) ?_
  show Ow p e below s _ _ _ (s₁.setTop (mkF m 0 #[.val (.int p0), .val (.int p1), .val (.ref a2)] []))
  obtain ⟨nz, hnz⟩ := own_nz (n := n) A.len
  refine w_iloadN X0 hx (Jvm.hb hby d6_0) rfl (pc' := 1) rfl ?_
  refine w_iconst X0 hx (1 : Int32) (Jvm.hb hby d6_1) (by decide) (pc' := 2) rfl ?_
  refine w_icmp_lt X0 hx (Jvm.hb hby d6_2) (by decide) (pcT := 12) (by decide) (pcF := 5) rfl (fun q => absurd q (show ¬ p1 < (1 : Int32) from fun z => by rw [Int32.lt_iff_toInt_lt, show (1 : Int32).toInt = 1 from by decide] at z; omega)) (fun _ => ?_)
  refine w_aloadN X0 hx (Jvm.hb hby d6_5) rfl rfl (pc' := 6) rfl ?_
  refine w_lengthA X0 hx hZ e0 A nz hnz (Jvm.hb hby d6_6) (pc' := 7) rfl ?_
  refine w_iloadN X0 hx (Jvm.hb hby d6_7) rfl (pc' := 8) rfl ?_
  refine w_irem X0 hx (Jvm.hb hby d6_8) hp2 (pc' := 9) rfl ?_
  refine w_if_eq X0 hx (Jvm.hb hby d6_9) (by decide) (pcT := 28) (by decide) (pcF := 12) rfl (fun _ => ?_) (fun q => absurd (hmod nz hnz) q)
  refine w_new X0 hx hZ hown (hw _ (List.mem_of_getElem? (i := 24) rfl)) (hw _ (List.mem_of_getElem? (i := 25) rfl)) (hw _ (List.mem_of_getElem? (i := 22) rfl)) e0 (Jvm.hb hby d6_28) (by decide) (by decide) (pc' := 31) rfl ?_
  intro T57 h57 a57 g57 X57 e57 E57 A57 D57
  have F0_persons : Fld Z h57 a57 "com/example/sarutahiko/sarutahiko/heatmap/HeatMap" "persons" "I" (.int (0 : Int32)) := D57 (Or.inr (hw _ (List.mem_of_getElem? (i := 42) rfl))) (ty := .int) (by decide)
  have F0_columns : Fld Z h57 a57 "com/example/sarutahiko/sarutahiko/heatmap/HeatMap" "columns" "I" (.int (0 : Int32)) := D57 (Or.inr (hw _ (List.mem_of_getElem? (i := 44) rfl))) (ty := .int) (by decide)
  have F0_rows : Fld Z h57 a57 "com/example/sarutahiko/sarutahiko/heatmap/HeatMap" "rows" "I" (.int (0 : Int32)) := D57 (Or.inr (hw _ (List.mem_of_getElem? (i := 46) rfl))) (ty := .int) (by decide)
  have F0_counts : Fld Z h57 a57 "com/example/sarutahiko/sarutahiko/heatmap/HeatMap" "counts" "[I" .null := D57 (Or.inr (hw _ (List.mem_of_getElem? (i := 48) rfl))) (ty := .array .int) (by decide)
  have G : n0 ≤ a57 := Nat.le_trans Z0 (Nat.le_of_eq g57.symm)
  have A1 := A.ext E57
  have B1 := B.ext E57
  refine w_dup X57 hx (Jvm.hb hby d6_31) rfl (pc' := 32) rfl ?_
  refine w_iloadN X57 hx (Jvm.hb hby d6_32) rfl (pc' := 33) rfl ?_
  refine w_iloadN X57 hx (Jvm.hb hby d6_33) rfl (pc' := 34) rfl ?_
  refine w_aloadN X57 hx (Jvm.hb hby d6_34) rfl rfl (pc' := 35) rfl ?_
  refine w_cloneA X57 hx hZ hown (hw _ (List.mem_of_getElem? (i := 26) rfl)) (hw _ (List.mem_of_getElem? (i := 27) rfl)) (hw _ (List.mem_of_getElem? (i := 31) rfl)) (hw _ (List.mem_of_getElem? (i := 29) rfl)) (hw _ (List.mem_of_getElem? (i := 30) rfl)) (hw _ (List.mem_of_getElem? (i := 32) rfl)) e57 A1 B1 hnz (Jvm.hb hby d6_35) (by rw [hml]; rfl) (by decide) (W := 4) (cap := 9) (Nat.le_of_eq rfl) (by decide) hn9 (by decide) (by decide) (pc' := 38) rfl ?_
  intro T58 h58 a58 g58 X58 e58 E58 V58 B58
  refine w_checkcastA X58 hx hZ hown (hw _ (List.mem_of_getElem? (i := 33) rfl)) e58 (Ins.self B58) (Jvm.hb hby d6_38) (pc' := 41) rfl ?_
  intro T59 X59 e59
  have ne : a57 ≠ a58 := by rw [g58]; exact Nat.ne_of_lt A57.lt
  have hsz : h0.size ≤ a58 := Nat.le_trans E57.1 (Nat.le_of_eq g58.symm)
  have G2 : n0 ≤ a58 := Nat.le_trans Z0 hsz
  refine w_callN X59 hx hZ rfl hown (hw _ (List.mem_of_getElem? (i := 35) rfl)) (hw _ (List.mem_of_getElem? (i := 36) rfl)) (hw _ (List.mem_of_getElem? (i := 22) rfl)) (hw _ (List.mem_of_getElem? (i := 37) rfl)) (by decide) (W := 1) (rm7 l Z aw hw [] a57 p0 p1 a58 rN n f h58 n0 (F0_persons.ext E58) (F0_columns.ext E58) (F0_rows.ext E58) (F0_counts.ext E58) (A57.ext E58) G V58 ne hp0 hp2 hn1 hf hdiv) e59 (by decide) (by decide) (by decide) (by decide) (Jvm.hb hby d6_41) (by rw [hml]; rfl) (a := a57) (argsL := [(.int p0), (.int p1), (.ref a58)]) (rest := [(.ref a57)]) pd_0 rfl rfl rfl (Nat.le_of_eq rfl) (pc' := 44) rfl ?_
  rintro _ T60 L60 X60 ⟨rfl, N60, K60, R60_persons, R60_columns, R60_rows, R60_counts⟩
  show Ow p e below s _ _ _ (T60.setTop (mkF m 44 #[.val (.int p0), .val (.int p1), .val (.ref a2)] [(.ref a57)]))
  exact w_areturn X60 hx Bd.returns rfl rfl (BodyLoose.notSynchronized Bd) (Nat.le_of_ble_eq_true rfl) (Nat.le_of_ble_eq_true rfl) (Jvm.hb hby d6_44) ⟨a57, a58, rfl, by simpa using N60, Nat.le_of_eq g57.symm, hsz, (((Keep.refl h0 []).ext E57).ext E58).trans K60 (allS (Or.inr (Nat.le_of_eq g57.symm)) all0), (A57.ext E58).keep K60, R60_persons, R60_columns, R60_rows, R60_counts, V58.keep K60 (ninS (Ne.symm ne) nin0)⟩
def Q9 (x0 : Int32) (h0 : Heap) (v : Option Value) (h : Heap) (L : List Loc) : Prop := v = some (.int x0) ∧ h = h0 ∧ L = []
set_option maxRecDepth 65536 in
set_option maxHeartbeats 40000000 in
theorem rm9 (l : Launch) (Z : State) (aw : Array Value) (hw : ∀ d ∈ tables_1, d.before aw Z = true) (ws : List Jvm.Cond) (a0 : Addr) (x0 : Int32) (h0 : Heap) (F : Fld Z h0 a0 "com/example/sarutahiko/sarutahiko/heatmap/HeatMap" "persons" "I" (.int x0)) :
    MetFree l (⟨"com/example/sarutahiko/sarutahiko/heatmap/HeatMap", "getPersons", "()I"⟩ : MethodName) (head1 (Jvm.Cond.code (⟨"com/example/sarutahiko/sarutahiko/heatmap/HeatMap", "getPersons", "()I"⟩ : MethodName) prog_19_method_8_code 1 (some .int) :: ws) ({ frames := 0, cells := 0, slots := 0, locals := 0 } : Room)) (fun a U => a = #[(.ref a0)] ∧ Z.Warmed39 U.vm ∧ U.heap = h0) (fun _ _ _ _ _ => True) (fun _ U o U' => ∃ v L, o = .returned v ∧ Q9 x0 h0 v U'.heap L ∧ FrameEnd U o U' L ({ frames := 0, cells := 0, slots := 0, locals := 0 } : Room).cells ({ frames := 0, cells := 0, slots := 0, locals := 0 } : Room).slots) := by
  refine MetFree.of_bodySF (plainFor_of_name pn_1) hisR ?_
  intro p e s m args below meth c s₁ Bd hml0 hP _hKK
  obtain ⟨rfl, hZ, hh⟩ := hP
  have hx := Bd.exec
  have hby := Bd.bytes
  have hml : c.maxLocals = 1 := hml0
  have hown : s.vm.findClass "com/example/sarutahiko/sarutahiko/heatmap/HeatMap" = some m.cls := findClass_of_methodNamed Bd.named
  have hnm := (name_of_methodNamed Bd.named Bd.method).1
  have X0 : Stand p l e ({ frames := 0, cells := 0, slots := 0, locals := 0 } : Room) s m #[(.ref a0)] below meth c s₁ [] 0 0 := Stand.of_body Bd
  have e0 : s₁.heap = h0 := by rw [← hh, Bd.state]; rfl
  refine Ow.enter (Q := Q9 x0 h0) (ef_9 m a0) ?_
  show Ow p e below s _ _ _ (s₁.setTop (mkF m 0 #[.val (.ref a0)] []))
  refine w_aloadN X0 hx (Jvm.hb hby d9_0) rfl rfl (pc' := 1) rfl ?_
  refine w_getfield X0 hx hZ hown (host := "") (Or.inl (hw _ (List.mem_of_getElem? (i := 41) rfl))) Via.refl e0 F (Jvm.hb hby d9_1) (pc' := 4) rfl ?_
  intro T61 X61 e61
  exact w_ireturn X61 hx Bd.returns (BodyLoose.notSynchronized Bd) (Nat.le_of_ble_eq_true rfl) (Nat.le_of_ble_eq_true rfl) (Jvm.hb hby d9_4) ⟨rfl, e61, rfl⟩
def Q10 (x0 : Int32) (h0 : Heap) (v : Option Value) (h : Heap) (L : List Loc) : Prop := v = some (.int x0) ∧ h = h0 ∧ L = []
set_option maxRecDepth 65536 in
set_option maxHeartbeats 40000000 in
theorem rm10 (l : Launch) (Z : State) (aw : Array Value) (hw : ∀ d ∈ tables_1, d.before aw Z = true) (ws : List Jvm.Cond) (a0 : Addr) (x0 : Int32) (h0 : Heap) (F : Fld Z h0 a0 "com/example/sarutahiko/sarutahiko/heatmap/HeatMap" "columns" "I" (.int x0)) :
    MetFree l (⟨"com/example/sarutahiko/sarutahiko/heatmap/HeatMap", "getColumns", "()I"⟩ : MethodName) (head1 (Jvm.Cond.code (⟨"com/example/sarutahiko/sarutahiko/heatmap/HeatMap", "getColumns", "()I"⟩ : MethodName) prog_19_method_9_code 1 (some .int) :: ws) ({ frames := 0, cells := 0, slots := 0, locals := 0 } : Room)) (fun a U => a = #[(.ref a0)] ∧ Z.Warmed39 U.vm ∧ U.heap = h0) (fun _ _ _ _ _ => True) (fun _ U o U' => ∃ v L, o = .returned v ∧ Q10 x0 h0 v U'.heap L ∧ FrameEnd U o U' L ({ frames := 0, cells := 0, slots := 0, locals := 0 } : Room).cells ({ frames := 0, cells := 0, slots := 0, locals := 0 } : Room).slots) := by
  refine MetFree.of_bodySF (plainFor_of_name pn_1) hisR ?_
  intro p e s m args below meth c s₁ Bd hml0 hP _hKK
  obtain ⟨rfl, hZ, hh⟩ := hP
  have hx := Bd.exec
  have hby := Bd.bytes
  have hml : c.maxLocals = 1 := hml0
  have hown : s.vm.findClass "com/example/sarutahiko/sarutahiko/heatmap/HeatMap" = some m.cls := findClass_of_methodNamed Bd.named
  have hnm := (name_of_methodNamed Bd.named Bd.method).1
  have X0 : Stand p l e ({ frames := 0, cells := 0, slots := 0, locals := 0 } : Room) s m #[(.ref a0)] below meth c s₁ [] 0 0 := Stand.of_body Bd
  have e0 : s₁.heap = h0 := by rw [← hh, Bd.state]; rfl
  refine Ow.enter (Q := Q10 x0 h0) (ef_10 m a0) ?_
  show Ow p e below s _ _ _ (s₁.setTop (mkF m 0 #[.val (.ref a0)] []))
  refine w_aloadN X0 hx (Jvm.hb hby d10_0) rfl rfl (pc' := 1) rfl ?_
  refine w_getfield X0 hx hZ hown (host := "") (Or.inl (hw _ (List.mem_of_getElem? (i := 43) rfl))) Via.refl e0 F (Jvm.hb hby d10_1) (pc' := 4) rfl ?_
  intro T62 X62 e62
  exact w_ireturn X62 hx Bd.returns (BodyLoose.notSynchronized Bd) (Nat.le_of_ble_eq_true rfl) (Nat.le_of_ble_eq_true rfl) (Jvm.hb hby d10_4) ⟨rfl, e62, rfl⟩
def Q11 (x0 : Int32) (h0 : Heap) (v : Option Value) (h : Heap) (L : List Loc) : Prop := v = some (.int x0) ∧ h = h0 ∧ L = []
set_option maxRecDepth 65536 in
set_option maxHeartbeats 40000000 in
theorem rm11 (l : Launch) (Z : State) (aw : Array Value) (hw : ∀ d ∈ tables_1, d.before aw Z = true) (ws : List Jvm.Cond) (a0 : Addr) (x0 : Int32) (h0 : Heap) (F : Fld Z h0 a0 "com/example/sarutahiko/sarutahiko/heatmap/HeatMap" "rows" "I" (.int x0)) :
    MetFree l (⟨"com/example/sarutahiko/sarutahiko/heatmap/HeatMap", "getRows", "()I"⟩ : MethodName) (head1 (Jvm.Cond.code (⟨"com/example/sarutahiko/sarutahiko/heatmap/HeatMap", "getRows", "()I"⟩ : MethodName) prog_19_method_10_code 1 (some .int) :: ws) ({ frames := 0, cells := 0, slots := 0, locals := 0 } : Room)) (fun a U => a = #[(.ref a0)] ∧ Z.Warmed39 U.vm ∧ U.heap = h0) (fun _ _ _ _ _ => True) (fun _ U o U' => ∃ v L, o = .returned v ∧ Q11 x0 h0 v U'.heap L ∧ FrameEnd U o U' L ({ frames := 0, cells := 0, slots := 0, locals := 0 } : Room).cells ({ frames := 0, cells := 0, slots := 0, locals := 0 } : Room).slots) := by
  refine MetFree.of_bodySF (plainFor_of_name pn_1) hisR ?_
  intro p e s m args below meth c s₁ Bd hml0 hP _hKK
  obtain ⟨rfl, hZ, hh⟩ := hP
  have hx := Bd.exec
  have hby := Bd.bytes
  have hml : c.maxLocals = 1 := hml0
  have hown : s.vm.findClass "com/example/sarutahiko/sarutahiko/heatmap/HeatMap" = some m.cls := findClass_of_methodNamed Bd.named
  have hnm := (name_of_methodNamed Bd.named Bd.method).1
  have X0 : Stand p l e ({ frames := 0, cells := 0, slots := 0, locals := 0 } : Room) s m #[(.ref a0)] below meth c s₁ [] 0 0 := Stand.of_body Bd
  have e0 : s₁.heap = h0 := by rw [← hh, Bd.state]; rfl
  refine Ow.enter (Q := Q11 x0 h0) (ef_11 m a0) ?_
  show Ow p e below s _ _ _ (s₁.setTop (mkF m 0 #[.val (.ref a0)] []))
  refine w_aloadN X0 hx (Jvm.hb hby d11_0) rfl rfl (pc' := 1) rfl ?_
  refine w_getfield X0 hx hZ hown (host := "") (Or.inl (hw _ (List.mem_of_getElem? (i := 45) rfl))) Via.refl e0 F (Jvm.hb hby d11_1) (pc' := 4) rfl ?_
  intro T63 X63 e63
  exact w_ireturn X63 hx Bd.returns (BodyLoose.notSynchronized Bd) (Nat.le_of_ble_eq_true rfl) (Nat.le_of_ble_eq_true rfl) (Jvm.hb hby d11_4) ⟨rfl, e63, rfl⟩
def Q14 (p0 : Int32) (h0 : Heap) (v : Option Value) (h : Heap) (L : List Loc) : Prop := v = some (.int p0) ∧ h = h0 ∧ L = []
set_option maxRecDepth 65536 in
set_option maxHeartbeats 40000000 in
theorem rm14 (l : Launch) (Z : State) (aw : Array Value) (hw : ∀ d ∈ tables_1, d.before aw Z = true) (ws : List Jvm.Cond) (p0 : Int32) (p1 : Int32) (h0 : Heap) (h1 : ¬ p0 < (0 : Int32)) (h2 : p0 < p1) :
    MetFree l (⟨"jdk/internal/util/Preconditions", "checkIndex", "(IILjava/util/function/BiFunction;)I"⟩ : MethodName) (head1 (Jvm.Cond.code (⟨"jdk/internal/util/Preconditions", "checkIndex", "(IILjava/util/function/BiFunction;)I"⟩ : MethodName) jdk_41_method_11_code 3 (some .int) :: ws) ({ frames := 0, cells := 0, slots := 0, locals := 0 } : Room)) (fun a U => a = #[(.int p0), (.int p1), .null] ∧ Z.Warmed39 U.vm ∧ U.heap = h0) (fun _ _ _ _ _ => True) (fun _ U o U' => ∃ v L, o = .returned v ∧ Q14 p0 h0 v U'.heap L ∧ FrameEnd U o U' L ({ frames := 0, cells := 0, slots := 0, locals := 0 } : Room).cells ({ frames := 0, cells := 0, slots := 0, locals := 0 } : Room).slots) := by
  refine MetFree.of_bodySF (plainFor_of_name pn_2) hisR ?_
  intro p e s m args below meth c s₁ Bd hml0 hP _hKK
  obtain ⟨rfl, hZ, hh⟩ := hP
  have hx := Bd.exec
  have hby := Bd.bytes
  have hml : c.maxLocals = 3 := hml0
  have hown : s.vm.findClass "jdk/internal/util/Preconditions" = some m.cls := findClass_of_methodNamed Bd.named
  have hnm := (name_of_methodNamed Bd.named Bd.method).1
  have X0 : Stand p l e ({ frames := 0, cells := 0, slots := 0, locals := 0 } : Room) s m #[(.int p0), (.int p1), .null] below meth c s₁ [] 0 0 := Stand.of_body Bd
  have e0 : s₁.heap = h0 := by rw [← hh, Bd.state]; rfl
  refine Ow.enter (Q := Q14 p0 h0) (ef_14 m p0 p1) ?_
  show Ow p e below s _ _ _ (s₁.setTop (mkF m 0 #[.val (.int p0), .val (.int p1), .val .null] []))
  refine w_iloadN X0 hx (Jvm.hb hby d14_0) rfl (pc' := 1) rfl ?_
  refine w_if_lt X0 hx (Jvm.hb hby d14_1) (by decide) (pcT := 9) (by decide) (pcF := 4) rfl (fun q => absurd q h1) (fun _ => ?_)
  refine w_iloadN X0 hx (Jvm.hb hby d14_4) rfl (pc' := 5) rfl ?_
  refine w_iloadN X0 hx (Jvm.hb hby d14_5) rfl (pc' := 6) rfl ?_
  refine w_icmp_lt X0 hx (Jvm.hb hby d14_6) (by decide) (pcT := 16) (by decide) (pcF := 9) rfl (fun _ => ?_) (fun q => absurd h2 q)
  refine w_iloadN X0 hx (Jvm.hb hby d14_16) rfl (pc' := 17) rfl ?_
  exact w_ireturn X0 hx Bd.returns (BodyLoose.notSynchronized Bd) (Nat.le_of_ble_eq_true rfl) (Nat.le_of_ble_eq_true rfl) (Jvm.hb hby d14_17) ⟨rfl, e0, rfl⟩
def Q13 (p0 : Int32) (h0 : Heap) (v : Option Value) (h : Heap) (L : List Loc) : Prop := v = some (.int p0) ∧ h = h0 ∧ L = []
set_option maxRecDepth 65536 in
set_option maxHeartbeats 40000000 in
theorem rm13 (l : Launch) (Z : State) (aw : Array Value) (hw : ∀ d ∈ tables_1, d.before aw Z = true) (ws : List Jvm.Cond) (p0 : Int32) (p1 : Int32) (h0 : Heap) (h1 : ¬ p0 < (0 : Int32)) (h2 : p0 < p1) :
    MetFree l (⟨"java/util/Objects", "checkIndex", "(II)I"⟩ : MethodName) (head1 (Jvm.Cond.code (⟨"java/util/Objects", "checkIndex", "(II)I"⟩ : MethodName) jdk_31_method_17_code 2 (some .int) :: ws) ({ frames := 1, cells := 0, slots := 0, locals := 14 } : Room)) (fun a U => a = #[(.int p0), (.int p1)] ∧ Z.Warmed39 U.vm ∧ U.heap = h0) (fun _ _ _ _ _ => True) (fun _ U o U' => ∃ v L, o = .returned v ∧ Q13 p0 h0 v U'.heap L ∧ FrameEnd U o U' L ({ frames := 1, cells := 0, slots := 0, locals := 14 } : Room).cells ({ frames := 1, cells := 0, slots := 0, locals := 14 } : Room).slots) := by
  refine MetFree.of_bodySF (plainFor_of_name pn_3) hisR ?_
  intro p e s m args below meth c s₁ Bd hml0 hP _hKK
  obtain ⟨rfl, hZ, hh⟩ := hP
  have hx := Bd.exec
  have hby := Bd.bytes
  have hml : c.maxLocals = 2 := hml0
  have hown : s.vm.findClass "java/util/Objects" = some m.cls := findClass_of_methodNamed Bd.named
  have hnm := (name_of_methodNamed Bd.named Bd.method).1
  have X0 : Stand p l e ({ frames := 1, cells := 0, slots := 0, locals := 14 } : Room) s m #[(.int p0), (.int p1)] below meth c s₁ [] 0 0 := Stand.of_body Bd
  have e0 : s₁.heap = h0 := by rw [← hh, Bd.state]; rfl
  refine Ow.enter (Q := Q13 p0 h0) (ef_13 m p0 p1) ?_
  show Ow p e below s _ _ _ (s₁.setTop (mkF m 0 #[.val (.int p0), .val (.int p1)] []))
  refine w_iloadN X0 hx (Jvm.hb hby d13_0) rfl (pc' := 1) rfl ?_
  refine w_iloadN X0 hx (Jvm.hb hby d13_1) rfl (pc' := 2) rfl ?_
  refine w_aconst_null X0 hx (Jvm.hb hby d13_2) (pc' := 3) rfl ?_
  refine w_callS X0 hx hZ hown (hw _ (List.mem_of_getElem? (i := 73) rfl)) (hw _ (List.mem_of_getElem? (i := 74) rfl)) (hw _ (List.mem_of_getElem? (i := 75) rfl)) (hw _ (List.mem_of_getElem? (i := 76) rfl)) (by decide) (W := 0) (rm14 l Z aw hw [] p0 p1 h0 h1 h2) e0 (by decide) (by decide) (by decide) (by decide) (Jvm.hb hby d13_3) (by rw [hml]; rfl) (argsL := [(.int p0), (.int p1), .null]) (rest := []) pd_1 rfl rfl rfl (Nat.le_of_eq rfl) (pc' := 6) rfl ?_
  rintro _ T64 L64 X64 ⟨rfl, e64, rfl⟩
  show Ow p e below s _ _ _ (T64.setTop (mkF m 6 #[.val (.int p0), .val (.int p1)] [(.int p0)]))
  exact w_ireturn X64 hx Bd.returns (BodyLoose.notSynchronized Bd) (Nat.le_of_ble_eq_true rfl) (Nat.le_of_ble_eq_true rfl) (Jvm.hb hby d13_6) ⟨rfl, e64, rfl⟩
def Q12 (f : Nat → Int32) (ix : Nat) (h0 : Heap) (v : Option Value) (h : Heap) (L : List Loc) : Prop := v = some (.int (f ix)) ∧ h = h0 ∧ L = []
set_option maxRecDepth 65536 in
set_option maxHeartbeats 40000000 in
theorem rm12 (l : Launch) (Z : State) (aw : Array Value) (hw : ∀ d ∈ tables_1, d.before aw Z = true) (ws : List Jvm.Cond) (a0 : Addr) (p1 : Int32) (p2 : Int32) (cl rw' : Int32) (d : Addr) (n : Nat) (f : Nat → Int32) (ix : Nat) (h0 : Heap) (F_columns : Fld Z h0 a0 "com/example/sarutahiko/sarutahiko/heatmap/HeatMap" "columns" "I" (.int cl)) (F_rows : Fld Z h0 a0 "com/example/sarutahiko/sarutahiko/heatmap/HeatMap" "rows" "I" (.int rw')) (F_counts : Fld Z h0 a0 "com/example/sarutahiko/sarutahiko/heatmap/HeatMap" "counts" "[I" (.ref d)) (A : IAr Z h0 d .int n f) (c1 : ¬ p1 < (0 : Int32)) (c2 : p1 < cl) (r1 : ¬ p2 < (0 : Int32)) (r2 : p2 < rw') (hix : (p2 * cl + p1).toInt = (ix : Int)) (hlt : ix < n) :
    MetFree l (⟨"com/example/sarutahiko/sarutahiko/heatmap/HeatMap", "getCount", "(II)I"⟩ : MethodName) (head1 (Jvm.Cond.code (⟨"com/example/sarutahiko/sarutahiko/heatmap/HeatMap", "getCount", "(II)I"⟩ : MethodName) prog_19_method_11_code 3 (some .int) :: ws) ({ frames := 2, cells := 0, slots := 0, locals := 27 } : Room)) (fun a U => a = #[(.ref a0), (.int p1), (.int p2)] ∧ Z.Warmed39 U.vm ∧ U.heap = h0) (fun _ _ _ _ _ => True) (fun _ U o U' => ∃ v L, o = .returned v ∧ Q12 f ix h0 v U'.heap L ∧ FrameEnd U o U' L ({ frames := 2, cells := 0, slots := 0, locals := 27 } : Room).cells ({ frames := 2, cells := 0, slots := 0, locals := 27 } : Room).slots) := by
  refine MetFree.of_bodySF (plainFor_of_name pn_1) hisR ?_
  intro p e s m args below meth c s₁ Bd hml0 hP _hKK
  obtain ⟨rfl, hZ, hh⟩ := hP
  have hx := Bd.exec
  have hby := Bd.bytes
  have hml : c.maxLocals = 3 := hml0
  have hown : s.vm.findClass "com/example/sarutahiko/sarutahiko/heatmap/HeatMap" = some m.cls := findClass_of_methodNamed Bd.named
  have hnm := (name_of_methodNamed Bd.named Bd.method).1
  have X0 : Stand p l e ({ frames := 2, cells := 0, slots := 0, locals := 27 } : Room) s m #[(.ref a0), (.int p1), (.int p2)] below meth c s₁ [] 0 0 := Stand.of_body Bd
  have e0 : s₁.heap = h0 := by rw [← hh, Bd.state]; rfl
  refine Ow.enter (Q := Q12 f ix h0) (ef_12 m a0 p1 p2) ?_
  show Ow p e below s _ _ _ (s₁.setTop (mkF m 0 #[.val (.ref a0), .val (.int p1), .val (.int p2)] []))
  refine w_iloadN X0 hx (Jvm.hb hby d12_0) rfl (pc' := 1) rfl ?_
  refine w_aloadN X0 hx (Jvm.hb hby d12_1) rfl rfl (pc' := 2) rfl ?_
  refine w_getfield X0 hx hZ hown (host := "") (Or.inl (hw _ (List.mem_of_getElem? (i := 43) rfl))) Via.refl e0 F_columns (Jvm.hb hby d12_2) (pc' := 5) rfl ?_
  intro T65 X65 e65
  refine w_callS X65 hx hZ hown (hw _ (List.mem_of_getElem? (i := 69) rfl)) (hw _ (List.mem_of_getElem? (i := 70) rfl)) (hw _ (List.mem_of_getElem? (i := 71) rfl)) (hw _ (List.mem_of_getElem? (i := 72) rfl)) (by decide) (W := 0) (rm13 l Z aw hw [] p1 cl h0 c1 c2) e65 (by decide) (by decide) (by decide) (by decide) (Jvm.hb hby d12_5) (by rw [hml]; rfl) (argsL := [(.int p1), (.int cl)]) (rest := []) pd_2 rfl rfl rfl (Nat.le_of_eq rfl) (pc' := 8) rfl ?_
  rintro _ T66 L66 X66 ⟨rfl, e66, rfl⟩
  show Ow p e below s _ _ _ (T66.setTop (mkF m 8 #[.val (.ref a0), .val (.int p1), .val (.int p2)] [(.int p1)]))
  refine w_pop X66 hx (Jvm.hb hby d12_8) rfl (pc' := 9) rfl ?_
  refine w_iloadN X66 hx (Jvm.hb hby d12_9) rfl (pc' := 10) rfl ?_
  refine w_aloadN X66 hx (Jvm.hb hby d12_10) rfl rfl (pc' := 11) rfl ?_
  refine w_getfield X66 hx hZ hown (host := "") (Or.inl (hw _ (List.mem_of_getElem? (i := 45) rfl))) Via.refl e66 F_rows (Jvm.hb hby d12_11) (pc' := 14) rfl ?_
  intro T67 X67 e67
  refine w_callS X67 hx hZ hown (hw _ (List.mem_of_getElem? (i := 69) rfl)) (hw _ (List.mem_of_getElem? (i := 70) rfl)) (hw _ (List.mem_of_getElem? (i := 71) rfl)) (hw _ (List.mem_of_getElem? (i := 72) rfl)) (by decide) (W := 0) (rm13 l Z aw hw [] p2 rw' h0 r1 r2) e67 (by decide) (by decide) (by decide) (by decide) (Jvm.hb hby d12_14) (by rw [hml]; rfl) (argsL := [(.int p2), (.int rw')]) (rest := []) pd_2 rfl rfl rfl (Nat.le_of_eq rfl) (pc' := 17) rfl ?_
  rintro _ T68 L68 X68 ⟨rfl, e68, rfl⟩
  show Ow p e below s _ _ _ (T68.setTop (mkF m 17 #[.val (.ref a0), .val (.int p1), .val (.int p2)] [(.int p2)]))
  refine w_pop X68 hx (Jvm.hb hby d12_17) rfl (pc' := 18) rfl ?_
  refine w_aloadN X68 hx (Jvm.hb hby d12_18) rfl rfl (pc' := 19) rfl ?_
  refine w_getfield X68 hx hZ hown (host := "") (Or.inl (hw _ (List.mem_of_getElem? (i := 47) rfl))) Via.refl e68 F_counts (Jvm.hb hby d12_19) (pc' := 22) rfl ?_
  intro T69 X69 e69
  refine w_iloadN X69 hx (Jvm.hb hby d12_22) rfl (pc' := 23) rfl ?_
  refine w_aloadN X69 hx (Jvm.hb hby d12_23) rfl rfl (pc' := 24) rfl ?_
  refine w_getfield X69 hx hZ hown (host := "") (Or.inl (hw _ (List.mem_of_getElem? (i := 43) rfl))) Via.refl e69 F_columns (Jvm.hb hby d12_24) (pc' := 27) rfl ?_
  intro T70 X70 e70
  refine w_imul X70 hx (Jvm.hb hby d12_27) (pc' := 28) rfl ?_
  refine w_iloadN X70 hx (Jvm.hb hby d12_28) rfl (pc' := 29) rfl ?_
  refine w_iadd X70 hx (Jvm.hb hby d12_29) (pc' := 30) rfl ?_
  refine w_ialoadA X70 hx hZ e70 A ix hix hlt (Jvm.hb hby d12_30) (pc' := 31) rfl ?_
  exact w_ireturn X70 hx Bd.returns (BodyLoose.notSynchronized Bd) (Nat.le_of_ble_eq_true rfl) (Nat.le_of_ble_eq_true rfl) (Jvm.hb hby d12_31) ⟨rfl, e70, rfl⟩
theorem pd_3 : parseMethodDescriptor "(J)I" = some ⟨[.long], some .int⟩ := by decide +kernel
theorem pd_4 : parseMethodDescriptor "(I[I)[I" = some ⟨[.int, (.array .int)], some (.array .int)⟩ := by decide +kernel
theorem pd_5 : parseMethodDescriptor "(II[I)Lcom/example/sarutahiko/sarutahiko/heatmap/HeatMap;" = some ⟨[.int, .int, (.array .int)], some (.object "com/example/sarutahiko/sarutahiko/heatmap/HeatMap")⟩ := by decide +kernel
theorem pd_6 : parseMethodDescriptor "()I" = some ⟨[], some .int⟩ := by decide +kernel
theorem ef_0 (m : MethodId) (p0 : Int32) (p1 : Int32) (p2 : Int32) (q3 : Int64) (q4 : Int64) (q5 : Int64) : entryFrame m #[(.int p0), (.int p1), (.int p2), (.long q3), (.long q4), (.long q5)] maxLocals = mkF m 0 #[.val (.int p0), .val (.int p1), .val (.int p2), .val (.long q3), .second, .val (.long q4), .second, .val (.long q5), .second, .unset, .unset, .unset, .unset, .unset, .unset, .unset, .unset, .unset, .unset, .unset, .unset] [] := by first | (simp [entryFrame, mkF, argsToLocals, Value.category, maxLocals]; done) | rfl
def Q0 (n0 : Nat) (v : Option Value) (h : Heap) (L : List Loc) : Prop := v = some (.int 1) ∧ Fr n0 L
set_option maxRecDepth 65536 in
set_option maxHeartbeats 40000000 in
theorem rm0 (l : Launch) (Z : State) (aw : Array Value) (hw : ∀ d ∈ tables_1, d.before aw Z = true) (ws : List Jvm.Cond) (p0 : Int32) (p1 : Int32) (p2 : Int32) (q3 : Int64) (q4 : Int64) (q5 : Int64) (h0 : Heap) (n0 : Nat) (Z0 : n0 ≤ h0.size) :
    MetFree l x (head1 (Jvm.Cond.code x code maxLocals ret :: ws) room_1) (fun a U => a = #[(.int p0), (.int p1), (.int p2), (.long q3), (.long q4), (.long q5)] ∧ Z.Warmed39 U.vm ∧ U.heap = h0) (fun _ _ _ _ _ => True) (fun _ U o U' => ∃ v L, o = .returned v ∧ Q0 n0 v U'.heap L ∧ FrameEnd U o U' L 16 128) := by
  refine MetFree.of_bodySF (plainFor_of_name pn_0) hisR ?_
  intro p e s m args below meth c s₁ Bd hml0 hP _hKK
  obtain ⟨rfl, hZ, hh⟩ := hP
  have hx := Bd.exec
  have hby := Bd.bytes
  have hml : c.maxLocals = 21 := hml0
  have hown : s.vm.findClass "com/example/sarutahiko/sarutahiko/heatmap/HeatMapOfCellsPinLaw" = some m.cls := findClass_of_methodNamed Bd.named
  have hnm := (name_of_methodNamed Bd.named Bd.method).1
  have X0 : Stand p l e room_1 s m #[(.int p0), (.int p1), (.int p2), (.long q3), (.long q4), (.long q5)] below meth c s₁ [] 0 0 := Stand.of_body Bd
  have e0 : s₁.heap = h0 := by rw [← hh, Bd.state]; rfl
  refine Ow.enter (Q := Q0 n0) (ef_0 m p0 p1 p2 q3 q4 q5) ?_
  show Ow p e below s _ _ _ (s₁.setTop (mkF m 0 #[.val (.int p0), .val (.int p1), .val (.int p2), .val (.long q3), .second, .val (.long q4), .second, .val (.long q5), .second, .unset, .unset, .unset, .unset, .unset, .unset, .unset, .unset, .unset, .unset, .unset, .unset] []))
  refine w_iconst X0 hx (1 : Int32) (Jvm.hb hby at_0) (by decide) (pc' := 1) rfl ?_
  refine w_iloadN X0 hx (Jvm.hb hby at_1) rfl (pc' := 2) rfl ?_
  refine w_ldcI X0 hx hZ hown (hw _ (List.mem_of_getElem? (i := 0) rfl)) (Jvm.hb hby at_2) (pc' := 4) rfl ?_
  refine w_iand X0 hx (Jvm.hb hby at_4) (pc' := 5) rfl ?_
  refine w_callS X0 hx hZ hown (hw _ (List.mem_of_getElem? (i := 1) rfl)) (hw _ (List.mem_of_getElem? (i := 2) rfl)) (hw _ (List.mem_of_getElem? (i := 3) rfl)) (hw _ (List.mem_of_getElem? (i := 4) rfl)) (by decide) (W := 0) (rm1 l Z aw hw [] (1 : Int32) (p0 &&& (2147483647 : Int32)) h0) e0 (by decide) (by decide) (by decide) (by decide) (Jvm.hb hby at_5) (by rw [hml]; rfl) (argsL := [(.int (1 : Int32)), (.int (p0 &&& (2147483647 : Int32)))]) (rest := []) pd_2 rfl rfl rfl (Nat.le_of_eq rfl) (pc' := 8) rfl ?_
  rintro _ T71 L71 X71 ⟨rfl, e71, rfl⟩
  show Ow p e below s _ _ _ (T71.setTop (mkF m 8 #[.val (.int p0), .val (.int p1), .val (.int p2), .val (.long q3), .second, .val (.long q4), .second, .val (.long q5), .second, .unset, .unset, .unset, .unset, .unset, .unset, .unset, .unset, .unset, .unset, .unset, .unset] [(.int (mxI (1 : Int32) (p0 &&& (2147483647 : Int32))))]))
  refine w_istore X71 hx (Jvm.hb hby at_8) #[.val (.int p0), .val (.int p1), .val (.int p2), .val (.long q3), .second, .val (.long q4), .second, .val (.long q5), .second, .val (.int (mxI (1 : Int32) (p0 &&& (2147483647 : Int32)))), .unset, .unset, .unset, .unset, .unset, .unset, .unset, .unset, .unset, .unset, .unset] rfl  (pc' := 10) rfl ?_
  refine w_iconst X71 hx (1 : Int32) (Jvm.hb hby at_10) (by decide) (pc' := 11) rfl ?_
  refine w_iloadN X71 hx (Jvm.hb hby at_11) rfl (pc' := 12) rfl ?_
  refine w_sipush X71 hx (255 : Int32) (Jvm.hb hby at_12) (by decide) (pc' := 15) rfl ?_
  refine w_iand X71 hx (Jvm.hb hby at_15) (pc' := 16) rfl ?_
  refine w_iconst X71 hx (3 : Int32) (Jvm.hb hby at_16) (by decide) (pc' := 17) rfl ?_
  refine w_irem X71 hx (Jvm.hb hby at_17) (by decide) (pc' := 18) rfl ?_
  refine w_iadd X71 hx (Jvm.hb hby at_18) (pc' := 19) rfl ?_
  refine w_istore X71 hx (Jvm.hb hby at_19) #[.val (.int p0), .val (.int p1), .val (.int p2), .val (.long q3), .second, .val (.long q4), .second, .val (.long q5), .second, .val (.int (mxI (1 : Int32) (p0 &&& (2147483647 : Int32)))), .val (.int ((1 : Int32) + ((p1 &&& (255 : Int32)) % (3 : Int32)))), .unset, .unset, .unset, .unset, .unset, .unset, .unset, .unset, .unset, .unset] rfl  (pc' := 21) rfl ?_
  refine w_iconst X71 hx (1 : Int32) (Jvm.hb hby at_21) (by decide) (pc' := 22) rfl ?_
  refine w_iloadN X71 hx (Jvm.hb hby at_22) rfl (pc' := 23) rfl ?_
  refine w_bipush X71 hx (8 : Int32) (Jvm.hb hby at_23) (by decide) (pc' := 25) rfl ?_
  refine w_iushr X71 hx (Jvm.hb hby at_25) (pc' := 26) rfl ?_
  refine w_sipush X71 hx (255 : Int32) (Jvm.hb hby at_26) (by decide) (pc' := 29) rfl ?_
  refine w_iand X71 hx (Jvm.hb hby at_29) (pc' := 30) rfl ?_
  refine w_iconst X71 hx (3 : Int32) (Jvm.hb hby at_30) (by decide) (pc' := 31) rfl ?_
  refine w_irem X71 hx (Jvm.hb hby at_31) (by decide) (pc' := 32) rfl ?_
  refine w_iadd X71 hx (Jvm.hb hby at_32) (pc' := 33) rfl ?_
  refine w_istore X71 hx (Jvm.hb hby at_33) #[.val (.int p0), .val (.int p1), .val (.int p2), .val (.long q3), .second, .val (.long q4), .second, .val (.long q5), .second, .val (.int (mxI (1 : Int32) (p0 &&& (2147483647 : Int32)))), .val (.int ((1 : Int32) + ((p1 &&& (255 : Int32)) % (3 : Int32)))), .val (.int ((1 : Int32) + (((lsr32 p1 (8 : Int32)) &&& (255 : Int32)) % (3 : Int32)))), .unset, .unset, .unset, .unset, .unset, .unset, .unset, .unset, .unset] rfl  (pc' := 35) rfl ?_
  generalize hpe : (mxI (1 : Int32) (p0 &&& (2147483647 : Int32))) = pe
  show Ow p e below s _ _ _ (T71.setTop (mkF m 35 #[.val (.int p0), .val (.int p1), .val (.int p2), .val (.long q3), .second, .val (.long q4), .second, .val (.long q5), .second, .val (.int pe), .val (.int ((1 : Int32) + ((p1 &&& (255 : Int32)) % (3 : Int32)))), .val (.int ((1 : Int32) + (((lsr32 p1 (8 : Int32)) &&& (255 : Int32)) % (3 : Int32)))), .unset, .unset, .unset, .unset, .unset, .unset, .unset, .unset, .unset] []))
  generalize hco : ((1 : Int32) + ((p1 &&& (255 : Int32)) % (3 : Int32))) = co
  show Ow p e below s _ _ _ (T71.setTop (mkF m 35 #[.val (.int p0), .val (.int p1), .val (.int p2), .val (.long q3), .second, .val (.long q4), .second, .val (.long q5), .second, .val (.int pe), .val (.int co), .val (.int ((1 : Int32) + (((lsr32 p1 (8 : Int32)) &&& (255 : Int32)) % (3 : Int32)))), .unset, .unset, .unset, .unset, .unset, .unset, .unset, .unset, .unset] []))
  generalize hro : ((1 : Int32) + (((lsr32 p1 (8 : Int32)) &&& (255 : Int32)) % (3 : Int32))) = ro
  show Ow p e below s _ _ _ (T71.setTop (mkF m 35 #[.val (.int p0), .val (.int p1), .val (.int p2), .val (.long q3), .second, .val (.long q4), .second, .val (.long q5), .second, .val (.int pe), .val (.int co), .val (.int ro), .unset, .unset, .unset, .unset, .unset, .unset, .unset, .unset, .unset] []))
  have hpe1 : 1 ≤ pe.toInt := hpe ▸ own_pe p0
  obtain ⟨cN, hcN, c1, c3⟩ : ∃ k : Nat, co.toInt = (k : Int) ∧ 1 ≤ k ∧ k ≤ 3 := hco ▸ own_13 p1
  obtain ⟨rN, hrN, r1, r3⟩ : ∃ k : Nat, ro.toInt = (k : Int) ∧ 1 ≤ k ∧ k ≤ 3 := hro ▸ own_13 (lsr32 p1 (8 : Int32))
  refine w_iload X71 hx (Jvm.hb hby at_35) rfl (pc' := 37) rfl ?_
  refine w_iload X71 hx (Jvm.hb hby at_37) rfl (pc' := 39) rfl ?_
  refine w_imul X71 hx (Jvm.hb hby at_39) (pc' := 40) rfl ?_
  refine w_istore X71 hx (Jvm.hb hby at_40) #[.val (.int p0), .val (.int p1), .val (.int p2), .val (.long q3), .second, .val (.long q4), .second, .val (.long q5), .second, .val (.int pe), .val (.int co), .val (.int ro), .val (.int (co * ro)), .unset, .unset, .unset, .unset, .unset, .unset, .unset, .unset] rfl  (pc' := 42) rfl ?_
  have hn := own_mulN co ro cN rN hcN hrN c3 r3
  have hn9 := own_n9 cN rN c1 c3 r1 r3
  generalize hnn : (co * ro) = nn at hn ⊢
  show Ow p e below s _ _ _ (T71.setTop (mkF m 42 #[.val (.int p0), .val (.int p1), .val (.int p2), .val (.long q3), .second, .val (.long q4), .second, .val (.long q5), .second, .val (.int pe), .val (.int co), .val (.int ro), .val (.int nn), .unset, .unset, .unset, .unset, .unset, .unset, .unset, .unset] []))
  refine w_bipush X71 hx (9 : Int32) (Jvm.hb hby at_42) (by decide) (pc' := 44) rfl ?_
  refine w_newarray X71 hx hZ (hw _ (List.mem_of_getElem? (i := 5) rfl)) e71 (Jvm.hb hby at_44) (by decide) (cap := 9) (by decide) (by decide) (by decide) (by decide) (ad := "[I") (by decide) (pc' := 46) rfl ?_
  intro T72 h72 a72 c72 g72 X72 e72 E72 A72 B72
  have V72 : IAr Z h72 a72 .int 9 (fun _ => 0) := IAr.new A72 rfl (by decide)
  have GV : n0 ≤ a72 := Nat.le_trans Z0 (Nat.le_of_eq g72.symm)
  refine w_dup X72 hx (Jvm.hb hby at_46) rfl (pc' := 47) rfl ?_
  refine w_iconst X72 hx (0 : Int32) (Jvm.hb hby at_47) (by decide) (pc' := 48) rfl ?_
  refine w_lloadN X72 hx (Jvm.hb hby at_48) rfl (pc' := 49) rfl ?_
  refine w_callS X72 hx hZ hown (hw _ (List.mem_of_getElem? (i := 6) rfl)) (hw _ (List.mem_of_getElem? (i := 7) rfl)) (hw _ (List.mem_of_getElem? (i := 8) rfl)) (hw _ (List.mem_of_getElem? (i := 9) rfl)) (by decide) (W := 3) (rm2 l Z aw hw [] q3 h72) e72 (by decide) (by decide) (by decide) (by decide) (Jvm.hb hby at_49) (by rw [hml]; rfl) (argsL := [(.long q3)]) (rest := [(.int (0 : Int32)), (.ref a72), (.ref a72)]) pd_3 rfl rfl rfl (Nat.le_of_eq rfl) (pc' := 52) rfl ?_
  rintro _ T73 L73 X73 ⟨rfl, e73, rfl⟩
  show Ow p e below s _ _ _ (T73.setTop (mkF m 52 #[.val (.int p0), .val (.int p1), .val (.int p2), .val (.long q3), .second, .val (.long q4), .second, .val (.long q5), .second, .val (.int pe), .val (.int co), .val (.int ro), .val (.int nn), .unset, .unset, .unset, .unset, .unset, .unset, .unset, .unset] [(.int (lowJ q3)), (.int (0 : Int32)), (.ref a72), (.ref a72)]))
  refine w_iastoreA X73 hx hZ e73 V72 0 (by decide) (by decide) (Jvm.hb hby at_52) (pc' := 53) rfl ?_
  intro T74 h74 X74 e74 W74 V74
  have N74 : Fr n0 _ := Fr.snoc X74 (Fr.app (Fr.nil n0) (Fr.nil n0)) GV
  refine w_dup X74 hx (Jvm.hb hby at_53) rfl (pc' := 54) rfl ?_
  refine w_iconst X74 hx (1 : Int32) (Jvm.hb hby at_54) (by decide) (pc' := 55) rfl ?_
  refine w_lloadN X74 hx (Jvm.hb hby at_55) rfl (pc' := 56) rfl ?_
  refine w_callS X74 hx hZ hown (hw _ (List.mem_of_getElem? (i := 11) rfl)) (hw _ (List.mem_of_getElem? (i := 12) rfl)) (hw _ (List.mem_of_getElem? (i := 8) rfl)) (hw _ (List.mem_of_getElem? (i := 13) rfl)) (by decide) (W := 3) (rm3 l Z aw hw [] q3 h74) e74 (by decide) (by decide) (by decide) (by decide) (Jvm.hb hby at_56) (by rw [hml]; rfl) (argsL := [(.long q3)]) (rest := [(.int (1 : Int32)), (.ref a72), (.ref a72)]) pd_3 rfl rfl rfl (Nat.le_of_eq rfl) (pc' := 59) rfl ?_
  rintro _ T75 L75 X75 ⟨rfl, e75, rfl⟩
  show Ow p e below s _ _ _ (T75.setTop (mkF m 59 #[.val (.int p0), .val (.int p1), .val (.int p2), .val (.long q3), .second, .val (.long q4), .second, .val (.long q5), .second, .val (.int pe), .val (.int co), .val (.int ro), .val (.int nn), .unset, .unset, .unset, .unset, .unset, .unset, .unset, .unset] [(.int (highJ q3)), (.int (1 : Int32)), (.ref a72), (.ref a72)]))
  refine w_iastoreA X75 hx hZ e75 V74 1 (by decide) (by decide) (Jvm.hb hby at_59) (pc' := 60) rfl ?_
  intro T76 h76 X76 e76 W76 V76
  have N76 : Fr n0 _ := Fr.snoc X76 (Fr.app N74 (Fr.nil n0)) GV
  refine w_dup X76 hx (Jvm.hb hby at_60) rfl (pc' := 61) rfl ?_
  refine w_iconst X76 hx (2 : Int32) (Jvm.hb hby at_61) (by decide) (pc' := 62) rfl ?_
  refine w_lload X76 hx (Jvm.hb hby at_62) rfl (pc' := 64) rfl ?_
  refine w_callS X76 hx hZ hown (hw _ (List.mem_of_getElem? (i := 6) rfl)) (hw _ (List.mem_of_getElem? (i := 7) rfl)) (hw _ (List.mem_of_getElem? (i := 8) rfl)) (hw _ (List.mem_of_getElem? (i := 9) rfl)) (by decide) (W := 3) (rm2 l Z aw hw [] q4 h76) e76 (by decide) (by decide) (by decide) (by decide) (Jvm.hb hby at_64) (by rw [hml]; rfl) (argsL := [(.long q4)]) (rest := [(.int (2 : Int32)), (.ref a72), (.ref a72)]) pd_3 rfl rfl rfl (Nat.le_of_eq rfl) (pc' := 67) rfl ?_
  rintro _ T77 L77 X77 ⟨rfl, e77, rfl⟩
  show Ow p e below s _ _ _ (T77.setTop (mkF m 67 #[.val (.int p0), .val (.int p1), .val (.int p2), .val (.long q3), .second, .val (.long q4), .second, .val (.long q5), .second, .val (.int pe), .val (.int co), .val (.int ro), .val (.int nn), .unset, .unset, .unset, .unset, .unset, .unset, .unset, .unset] [(.int (lowJ q4)), (.int (2 : Int32)), (.ref a72), (.ref a72)]))
  refine w_iastoreA X77 hx hZ e77 V76 2 (by decide) (by decide) (Jvm.hb hby at_67) (pc' := 68) rfl ?_
  intro T78 h78 X78 e78 W78 V78
  have N78 : Fr n0 _ := Fr.snoc X78 (Fr.app N76 (Fr.nil n0)) GV
  refine w_dup X78 hx (Jvm.hb hby at_68) rfl (pc' := 69) rfl ?_
  refine w_iconst X78 hx (3 : Int32) (Jvm.hb hby at_69) (by decide) (pc' := 70) rfl ?_
  refine w_lload X78 hx (Jvm.hb hby at_70) rfl (pc' := 72) rfl ?_
  refine w_callS X78 hx hZ hown (hw _ (List.mem_of_getElem? (i := 11) rfl)) (hw _ (List.mem_of_getElem? (i := 12) rfl)) (hw _ (List.mem_of_getElem? (i := 8) rfl)) (hw _ (List.mem_of_getElem? (i := 13) rfl)) (by decide) (W := 3) (rm3 l Z aw hw [] q4 h78) e78 (by decide) (by decide) (by decide) (by decide) (Jvm.hb hby at_72) (by rw [hml]; rfl) (argsL := [(.long q4)]) (rest := [(.int (3 : Int32)), (.ref a72), (.ref a72)]) pd_3 rfl rfl rfl (Nat.le_of_eq rfl) (pc' := 75) rfl ?_
  rintro _ T79 L79 X79 ⟨rfl, e79, rfl⟩
  show Ow p e below s _ _ _ (T79.setTop (mkF m 75 #[.val (.int p0), .val (.int p1), .val (.int p2), .val (.long q3), .second, .val (.long q4), .second, .val (.long q5), .second, .val (.int pe), .val (.int co), .val (.int ro), .val (.int nn), .unset, .unset, .unset, .unset, .unset, .unset, .unset, .unset] [(.int (highJ q4)), (.int (3 : Int32)), (.ref a72), (.ref a72)]))
  refine w_iastoreA X79 hx hZ e79 V78 3 (by decide) (by decide) (Jvm.hb hby at_75) (pc' := 76) rfl ?_
  intro T80 h80 X80 e80 W80 V80
  have N80 : Fr n0 _ := Fr.snoc X80 (Fr.app N78 (Fr.nil n0)) GV
  refine w_dup X80 hx (Jvm.hb hby at_76) rfl (pc' := 77) rfl ?_
  refine w_iconst X80 hx (4 : Int32) (Jvm.hb hby at_77) (by decide) (pc' := 78) rfl ?_
  refine w_lload X80 hx (Jvm.hb hby at_78) rfl (pc' := 80) rfl ?_
  refine w_callS X80 hx hZ hown (hw _ (List.mem_of_getElem? (i := 6) rfl)) (hw _ (List.mem_of_getElem? (i := 7) rfl)) (hw _ (List.mem_of_getElem? (i := 8) rfl)) (hw _ (List.mem_of_getElem? (i := 9) rfl)) (by decide) (W := 3) (rm2 l Z aw hw [] q5 h80) e80 (by decide) (by decide) (by decide) (by decide) (Jvm.hb hby at_80) (by rw [hml]; rfl) (argsL := [(.long q5)]) (rest := [(.int (4 : Int32)), (.ref a72), (.ref a72)]) pd_3 rfl rfl rfl (Nat.le_of_eq rfl) (pc' := 83) rfl ?_
  rintro _ T81 L81 X81 ⟨rfl, e81, rfl⟩
  show Ow p e below s _ _ _ (T81.setTop (mkF m 83 #[.val (.int p0), .val (.int p1), .val (.int p2), .val (.long q3), .second, .val (.long q4), .second, .val (.long q5), .second, .val (.int pe), .val (.int co), .val (.int ro), .val (.int nn), .unset, .unset, .unset, .unset, .unset, .unset, .unset, .unset] [(.int (lowJ q5)), (.int (4 : Int32)), (.ref a72), (.ref a72)]))
  refine w_iastoreA X81 hx hZ e81 V80 4 (by decide) (by decide) (Jvm.hb hby at_83) (pc' := 84) rfl ?_
  intro T82 h82 X82 e82 W82 V82
  have N82 : Fr n0 _ := Fr.snoc X82 (Fr.app N80 (Fr.nil n0)) GV
  refine w_dup X82 hx (Jvm.hb hby at_84) rfl (pc' := 85) rfl ?_
  refine w_iconst X82 hx (5 : Int32) (Jvm.hb hby at_85) (by decide) (pc' := 86) rfl ?_
  refine w_lload X82 hx (Jvm.hb hby at_86) rfl (pc' := 88) rfl ?_
  refine w_callS X82 hx hZ hown (hw _ (List.mem_of_getElem? (i := 11) rfl)) (hw _ (List.mem_of_getElem? (i := 12) rfl)) (hw _ (List.mem_of_getElem? (i := 8) rfl)) (hw _ (List.mem_of_getElem? (i := 13) rfl)) (by decide) (W := 3) (rm3 l Z aw hw [] q5 h82) e82 (by decide) (by decide) (by decide) (by decide) (Jvm.hb hby at_88) (by rw [hml]; rfl) (argsL := [(.long q5)]) (rest := [(.int (5 : Int32)), (.ref a72), (.ref a72)]) pd_3 rfl rfl rfl (Nat.le_of_eq rfl) (pc' := 91) rfl ?_
  rintro _ T83 L83 X83 ⟨rfl, e83, rfl⟩
  show Ow p e below s _ _ _ (T83.setTop (mkF m 91 #[.val (.int p0), .val (.int p1), .val (.int p2), .val (.long q3), .second, .val (.long q4), .second, .val (.long q5), .second, .val (.int pe), .val (.int co), .val (.int ro), .val (.int nn), .unset, .unset, .unset, .unset, .unset, .unset, .unset, .unset] [(.int (highJ q5)), (.int (5 : Int32)), (.ref a72), (.ref a72)]))
  refine w_iastoreA X83 hx hZ e83 V82 5 (by decide) (by decide) (Jvm.hb hby at_91) (pc' := 92) rfl ?_
  intro T84 h84 X84 e84 W84 V84
  have N84 : Fr n0 _ := Fr.snoc X84 (Fr.app N82 (Fr.nil n0)) GV
  refine w_dup X84 hx (Jvm.hb hby at_92) rfl (pc' := 93) rfl ?_
  refine w_bipush X84 hx (6 : Int32) (Jvm.hb hby at_93) (by decide) (pc' := 95) rfl ?_
  refine w_lloadN X84 hx (Jvm.hb hby at_95) rfl (pc' := 96) rfl ?_
  refine w_callS X84 hx hZ hown (hw _ (List.mem_of_getElem? (i := 14) rfl)) (hw _ (List.mem_of_getElem? (i := 15) rfl)) (hw _ (List.mem_of_getElem? (i := 8) rfl)) (hw _ (List.mem_of_getElem? (i := 16) rfl)) (by decide) (W := 3) (rm4 l Z aw hw [] q3 h84) e84 (by decide) (by decide) (by decide) (by decide) (Jvm.hb hby at_96) (by rw [hml]; rfl) (argsL := [(.long q3)]) (rest := [(.int (6 : Int32)), (.ref a72), (.ref a72)]) pd_3 rfl rfl rfl (Nat.le_of_eq rfl) (pc' := 99) rfl ?_
  rintro _ T85 L85 X85 ⟨rfl, e85, rfl⟩
  show Ow p e below s _ _ _ (T85.setTop (mkF m 99 #[.val (.int p0), .val (.int p1), .val (.int p2), .val (.long q3), .second, .val (.long q4), .second, .val (.long q5), .second, .val (.int pe), .val (.int co), .val (.int ro), .val (.int nn), .unset, .unset, .unset, .unset, .unset, .unset, .unset, .unset] [(.int (midJ q3)), (.int (6 : Int32)), (.ref a72), (.ref a72)]))
  refine w_iastoreA X85 hx hZ e85 V84 6 (by decide) (by decide) (Jvm.hb hby at_99) (pc' := 100) rfl ?_
  intro T86 h86 X86 e86 W86 V86
  have N86 : Fr n0 _ := Fr.snoc X86 (Fr.app N84 (Fr.nil n0)) GV
  refine w_dup X86 hx (Jvm.hb hby at_100) rfl (pc' := 101) rfl ?_
  refine w_bipush X86 hx (7 : Int32) (Jvm.hb hby at_101) (by decide) (pc' := 103) rfl ?_
  refine w_lload X86 hx (Jvm.hb hby at_103) rfl (pc' := 105) rfl ?_
  refine w_callS X86 hx hZ hown (hw _ (List.mem_of_getElem? (i := 14) rfl)) (hw _ (List.mem_of_getElem? (i := 15) rfl)) (hw _ (List.mem_of_getElem? (i := 8) rfl)) (hw _ (List.mem_of_getElem? (i := 16) rfl)) (by decide) (W := 3) (rm4 l Z aw hw [] q4 h86) e86 (by decide) (by decide) (by decide) (by decide) (Jvm.hb hby at_105) (by rw [hml]; rfl) (argsL := [(.long q4)]) (rest := [(.int (7 : Int32)), (.ref a72), (.ref a72)]) pd_3 rfl rfl rfl (Nat.le_of_eq rfl) (pc' := 108) rfl ?_
  rintro _ T87 L87 X87 ⟨rfl, e87, rfl⟩
  show Ow p e below s _ _ _ (T87.setTop (mkF m 108 #[.val (.int p0), .val (.int p1), .val (.int p2), .val (.long q3), .second, .val (.long q4), .second, .val (.long q5), .second, .val (.int pe), .val (.int co), .val (.int ro), .val (.int nn), .unset, .unset, .unset, .unset, .unset, .unset, .unset, .unset] [(.int (midJ q4)), (.int (7 : Int32)), (.ref a72), (.ref a72)]))
  refine w_iastoreA X87 hx hZ e87 V86 7 (by decide) (by decide) (Jvm.hb hby at_108) (pc' := 109) rfl ?_
  intro T88 h88 X88 e88 W88 V88
  have N88 : Fr n0 _ := Fr.snoc X88 (Fr.app N86 (Fr.nil n0)) GV
  refine w_dup X88 hx (Jvm.hb hby at_109) rfl (pc' := 110) rfl ?_
  refine w_bipush X88 hx (8 : Int32) (Jvm.hb hby at_110) (by decide) (pc' := 112) rfl ?_
  refine w_lload X88 hx (Jvm.hb hby at_112) rfl (pc' := 114) rfl ?_
  refine w_callS X88 hx hZ hown (hw _ (List.mem_of_getElem? (i := 14) rfl)) (hw _ (List.mem_of_getElem? (i := 15) rfl)) (hw _ (List.mem_of_getElem? (i := 8) rfl)) (hw _ (List.mem_of_getElem? (i := 16) rfl)) (by decide) (W := 3) (rm4 l Z aw hw [] q5 h88) e88 (by decide) (by decide) (by decide) (by decide) (Jvm.hb hby at_114) (by rw [hml]; rfl) (argsL := [(.long q5)]) (rest := [(.int (8 : Int32)), (.ref a72), (.ref a72)]) pd_3 rfl rfl rfl (Nat.le_of_eq rfl) (pc' := 117) rfl ?_
  rintro _ T89 L89 X89 ⟨rfl, e89, rfl⟩
  show Ow p e below s _ _ _ (T89.setTop (mkF m 117 #[.val (.int p0), .val (.int p1), .val (.int p2), .val (.long q3), .second, .val (.long q4), .second, .val (.long q5), .second, .val (.int pe), .val (.int co), .val (.int ro), .val (.int nn), .unset, .unset, .unset, .unset, .unset, .unset, .unset, .unset] [(.int (midJ q5)), (.int (8 : Int32)), (.ref a72), (.ref a72)]))
  refine w_iastoreA X89 hx hZ e89 V88 8 (by decide) (by decide) (Jvm.hb hby at_117) (pc' := 118) rfl ?_
  intro T90 h90 X90 e90 W90 V90
  have N90 : Fr n0 _ := Fr.snoc X90 (Fr.app N88 (Fr.nil n0)) GV
  obtain ⟨fv, VV, hfv⟩ : ∃ f, IAr Z h90 a72 .int 9 f ∧ ∀ i, i < 9 → ¬ f i < (0 : Int32) := ⟨_, V90, own_pos q3 q4 q5⟩
  have SV : n0 ≤ h90.size := Nat.le_trans GV (Nat.le_of_lt VV.lt)
  refine w_astore X90 hx (Jvm.hb hby at_118) #[.val (.int p0), .val (.int p1), .val (.int p2), .val (.long q3), .second, .val (.long q4), .second, .val (.long q5), .second, .val (.int pe), .val (.int co), .val (.int ro), .val (.int nn), .val (.ref a72), .unset, .unset, .unset, .unset, .unset, .unset, .unset] rfl rfl (pc' := 120) rfl ?_
  refine w_iload X90 hx (Jvm.hb hby at_120) rfl (pc' := 122) rfl ?_
  refine w_aload X90 hx (Jvm.hb hby at_122) rfl rfl (pc' := 124) rfl ?_
  refine w_callS X90 hx hZ hown (hw _ (List.mem_of_getElem? (i := 17) rfl)) (hw _ (List.mem_of_getElem? (i := 18) rfl)) (hw _ (List.mem_of_getElem? (i := 8) rfl)) (hw _ (List.mem_of_getElem? (i := 19) rfl)) (by decide) (W := 0) (rm5 l Z aw hw [] nn a72 (cN * rN) fv h90 n0 SV VV hn hn9) e90 (by decide) (by decide) (by decide) (by decide) (Jvm.hb hby at_124) (by rw [hml]; rfl) (argsL := [(.int nn), (.ref a72)]) (rest := []) pd_4 rfl rfl rfl (Nat.le_of_eq rfl) (pc' := 127) rfl ?_
  rintro _ T91 L91 X91 ⟨ca, rfl, N91, hca, K91, V91, B91⟩
  show Ow p e below s _ _ _ (T91.setTop (mkF m 127 #[.val (.int p0), .val (.int p1), .val (.int p2), .val (.long q3), .second, .val (.long q4), .second, .val (.long q5), .second, .val (.int pe), .val (.int co), .val (.int ro), .val (.int nn), .val (.ref a72), .unset, .unset, .unset, .unset, .unset, .unset, .unset] [(.ref ca)]))
  have M91 := Fr.app N90 N91
  have VV2 := VV.keep K91 nin0
  have SC : n0 ≤ T91.heap.size := Nat.le_trans SV K91.1
  have GC : n0 ≤ ca := Nat.le_trans SV hca
  refine w_astore X91 hx (Jvm.hb hby at_127) #[.val (.int p0), .val (.int p1), .val (.int p2), .val (.long q3), .second, .val (.long q4), .second, .val (.long q5), .second, .val (.int pe), .val (.int co), .val (.int ro), .val (.int nn), .val (.ref a72), .val (.ref ca), .unset, .unset, .unset, .unset, .unset, .unset] rfl rfl (pc' := 129) rfl ?_
  refine w_iloadN X91 hx (Jvm.hb hby at_129) rfl (pc' := 130) rfl ?_
  refine w_sipush X91 hx (255 : Int32) (Jvm.hb hby at_130) (by decide) (pc' := 133) rfl ?_
  refine w_iand X91 hx (Jvm.hb hby at_133) (pc' := 134) rfl ?_
  refine w_iload X91 hx (Jvm.hb hby at_134) rfl (pc' := 136) rfl ?_
  refine w_irem X91 hx (Jvm.hb hby at_136) (own_nz32 hcN c1) (pc' := 137) rfl ?_
  refine w_istore X91 hx (Jvm.hb hby at_137) #[.val (.int p0), .val (.int p1), .val (.int p2), .val (.long q3), .second, .val (.long q4), .second, .val (.long q5), .second, .val (.int pe), .val (.int co), .val (.int ro), .val (.int nn), .val (.ref a72), .val (.ref ca), .val (.int ((p2 &&& (255 : Int32)) % co)), .unset, .unset, .unset, .unset, .unset] rfl  (pc' := 139) rfl ?_
  refine w_iloadN X91 hx (Jvm.hb hby at_139) rfl (pc' := 140) rfl ?_
  refine w_bipush X91 hx (8 : Int32) (Jvm.hb hby at_140) (by decide) (pc' := 142) rfl ?_
  refine w_iushr X91 hx (Jvm.hb hby at_142) (pc' := 143) rfl ?_
  refine w_sipush X91 hx (255 : Int32) (Jvm.hb hby at_143) (by decide) (pc' := 146) rfl ?_
  refine w_iand X91 hx (Jvm.hb hby at_146) (pc' := 147) rfl ?_
  refine w_iload X91 hx (Jvm.hb hby at_147) rfl (pc' := 149) rfl ?_
  refine w_irem X91 hx (Jvm.hb hby at_149) (own_nz32 hrN r1) (pc' := 150) rfl ?_
  refine w_istore X91 hx (Jvm.hb hby at_150) #[.val (.int p0), .val (.int p1), .val (.int p2), .val (.long q3), .second, .val (.long q4), .second, .val (.long q5), .second, .val (.int pe), .val (.int co), .val (.int ro), .val (.int nn), .val (.ref a72), .val (.ref ca), .val (.int ((p2 &&& (255 : Int32)) % co)), .val (.int (((lsr32 p2 (8 : Int32)) &&& (255 : Int32)) % ro)), .unset, .unset, .unset, .unset] rfl  (pc' := 152) rfl ?_
  refine w_iload X91 hx (Jvm.hb hby at_152) rfl (pc' := 154) rfl ?_
  refine w_iload X91 hx (Jvm.hb hby at_154) rfl (pc' := 156) rfl ?_
  refine w_imul X91 hx (Jvm.hb hby at_156) (pc' := 157) rfl ?_
  refine w_iload X91 hx (Jvm.hb hby at_157) rfl (pc' := 159) rfl ?_
  refine w_iadd X91 hx (Jvm.hb hby at_159) (pc' := 160) rfl ?_
  refine w_istore X91 hx (Jvm.hb hby at_160) #[.val (.int p0), .val (.int p1), .val (.int p2), .val (.long q3), .second, .val (.long q4), .second, .val (.long q5), .second, .val (.int pe), .val (.int co), .val (.int ro), .val (.int nn), .val (.ref a72), .val (.ref ca), .val (.int ((p2 &&& (255 : Int32)) % co)), .val (.int (((lsr32 p2 (8 : Int32)) &&& (255 : Int32)) % ro)), .val (.int (((((lsr32 p2 (8 : Int32)) &&& (255 : Int32)) % ro) * co) + ((p2 &&& (255 : Int32)) % co))), .unset, .unset, .unset] rfl  (pc' := 162) rfl ?_
  obtain ⟨kc', hkc, kc2⟩ := own_mod p2 co cN hcN c1
  obtain ⟨kr, hkr, kr2⟩ := own_mod (lsr32 p2 (8 : Int32)) ro rN hrN r1
  generalize hcl' : ((p2 &&& (255 : Int32)) % co) = cl' at hkc ⊢
  generalize hrr : (((lsr32 p2 (8 : Int32)) &&& (255 : Int32)) % ro) = rr at hkr ⊢
  show Ow p e below s _ _ _ (T91.setTop (mkF m 162 #[.val (.int p0), .val (.int p1), .val (.int p2), .val (.long q3), .second, .val (.long q4), .second, .val (.long q5), .second, .val (.int pe), .val (.int co), .val (.int ro), .val (.int nn), .val (.ref a72), .val (.ref ca), .val (.int cl'), .val (.int rr), .val (.int ((rr * co) + cl')), .unset, .unset, .unset] []))
  have hix := own_ix rr co cl' kr cN kc' hkr hcN hkc (by omega) c3 (by omega)
  have hlt : kr * cN + kc' < cN * rN := own_lt kr cN kc' rN kr2 kc2
  refine w_aload X91 hx (Jvm.hb hby at_162) rfl rfl (pc' := 164) rfl ?_
  refine w_iload X91 hx (Jvm.hb hby at_164) rfl (pc' := 166) rfl ?_
  refine w_ialoadA X91 hx hZ rfl V91 (kr * cN + kc') hix hlt (Jvm.hb hby at_166) (pc' := 167) rfl ?_
  refine w_istore X91 hx (Jvm.hb hby at_167) #[.val (.int p0), .val (.int p1), .val (.int p2), .val (.long q3), .second, .val (.long q4), .second, .val (.long q5), .second, .val (.int pe), .val (.int co), .val (.int ro), .val (.int nn), .val (.ref a72), .val (.ref ca), .val (.int cl'), .val (.int rr), .val (.int ((rr * co) + cl')), .val (.int (fv (kr * cN + kc'))), .unset, .unset] rfl  (pc' := 169) rfl ?_
  refine w_aload X91 hx (Jvm.hb hby at_169) rfl rfl (pc' := 171) rfl ?_
  refine w_iload X91 hx (Jvm.hb hby at_171) rfl (pc' := 173) rfl ?_
  refine w_iconst X91 hx (1 : Int32) (Jvm.hb hby at_173) (by decide) (pc' := 174) rfl ?_
  refine w_isub X91 hx (Jvm.hb hby at_174) (pc' := 175) rfl ?_
  have hl1 := own_last nn (cN * rN) hn (by have := Nat.mul_le_mul c1 r1; omega)
  refine w_ialoadA X91 hx hZ rfl VV2 (cN * rN - 1) hl1 (own_l9 hn9) (Jvm.hb hby at_175) (pc' := 176) rfl ?_
  refine w_istore X91 hx (Jvm.hb hby at_176) #[.val (.int p0), .val (.int p1), .val (.int p2), .val (.long q3), .second, .val (.long q4), .second, .val (.long q5), .second, .val (.int pe), .val (.int co), .val (.int ro), .val (.int nn), .val (.ref a72), .val (.ref ca), .val (.int cl'), .val (.int rr), .val (.int ((rr * co) + cl')), .val (.int (fv (kr * cN + kc'))), .val (.int (fv (cN * rN - 1))), .unset] rfl  (pc' := 178) rfl ?_
  refine w_iload X91 hx (Jvm.hb hby at_178) rfl (pc' := 180) rfl ?_
  refine w_iload X91 hx (Jvm.hb hby at_180) rfl (pc' := 182) rfl ?_
  refine w_aload X91 hx (Jvm.hb hby at_182) rfl rfl (pc' := 184) rfl ?_
  refine w_callS X91 hx hZ hown (hw _ (List.mem_of_getElem? (i := 20) rfl)) (hw _ (List.mem_of_getElem? (i := 21) rfl)) (hw _ (List.mem_of_getElem? (i := 22) rfl)) (hw _ (List.mem_of_getElem? (i := 23) rfl)) (by decide) (W := 0) (rm6 l Z aw hw [] pe co ca ro (cN * rN) fv T91.heap n0 SC V91 B91 hpe1 (by omega) (own_nz32 hcN c1) (Nat.mul_le_mul c1 r1) (own_le9 hn9) (fun i hi => hfv i (Nat.lt_of_lt_of_le hi (own_le9 hn9))) (own_div co ro cN rN hcN hrN c1 c3 r3) (own_mod0 co cN rN hcN c1)) rfl (by decide) (by decide) (by decide) (by decide) (Jvm.hb hby at_184) (by rw [hml]; rfl) (argsL := [(.int pe), (.int co), (.ref ca)]) (rest := []) pd_5 rfl rfl rfl (Nat.le_of_eq rfl) (pc' := 187) rfl ?_
  rintro _ T92 L92 X92 ⟨mb, md, rfl, N92, hmb, hmd, K92, ME92, R92_persons, R92_columns, R92_rows, R92_counts, MA92⟩
  show Ow p e below s _ _ _ (T92.setTop (mkF m 187 #[.val (.int p0), .val (.int p1), .val (.int p2), .val (.long q3), .second, .val (.long q4), .second, .val (.long q5), .second, .val (.int pe), .val (.int co), .val (.int ro), .val (.int nn), .val (.ref a72), .val (.ref ca), .val (.int cl'), .val (.int rr), .val (.int ((rr * co) + cl')), .val (.int (fv (kr * cN + kc'))), .val (.int (fv (cN * rN - 1))), .unset] [(.ref mb)]))
  have M92 := Fr.app M91 N92
  have VC2 := V91.keep K92 nin0
  have neb : mb ≠ ca := (Nat.ne_of_lt (Nat.lt_of_lt_of_le V91.lt hmb)).symm
  have ned : md ≠ ca := (Nat.ne_of_lt (Nat.lt_of_lt_of_le V91.lt hmd)).symm
  refine w_astore X92 hx (Jvm.hb hby at_187) #[.val (.int p0), .val (.int p1), .val (.int p2), .val (.long q3), .second, .val (.long q4), .second, .val (.long q5), .second, .val (.int pe), .val (.int co), .val (.int ro), .val (.int nn), .val (.ref a72), .val (.ref ca), .val (.int cl'), .val (.int rr), .val (.int ((rr * co) + cl')), .val (.int (fv (kr * cN + kc'))), .val (.int (fv (cN * rN - 1))), .val (.ref mb)] rfl rfl (pc' := 189) rfl ?_
  refine w_aload X92 hx (Jvm.hb hby at_189) rfl rfl (pc' := 191) rfl ?_
  refine w_iload X92 hx (Jvm.hb hby at_191) rfl (pc' := 193) rfl ?_
  refine w_iconst X92 hx (-1 : Int32) (Jvm.hb hby at_193) (by decide) (pc' := 194) rfl ?_
  refine w_iastoreA X92 hx hZ rfl VC2 (kr * cN + kc') hix hlt (Jvm.hb hby at_194) (pc' := 195) rfl ?_
  intro T93 h93 X93 e93 W93 V93
  have N93 := Fr.snoc X93 M92 GC
  have U93_persons := R92_persons.other W93 (Or.inl neb)
  have U93_columns := R92_columns.other W93 (Or.inl neb)
  have U93_rows := R92_rows.other W93 (Or.inl neb)
  have U93_counts := R92_counts.other W93 (Or.inl neb)
  have UE93 := ME92.wr W93
  have UA93 := MA92.other W93 ned
  refine w_aload X93 hx (Jvm.hb hby at_195) rfl rfl (pc' := 197) rfl ?_
  refine w_iload X93 hx (Jvm.hb hby at_197) rfl (pc' := 199) rfl ?_
  refine w_iconst X93 hx (1 : Int32) (Jvm.hb hby at_199) (by decide) (pc' := 200) rfl ?_
  refine w_isub X93 hx (Jvm.hb hby at_200) (pc' := 201) rfl ?_
  refine w_iconst X93 hx (-1 : Int32) (Jvm.hb hby at_201) (by decide) (pc' := 202) rfl ?_
  refine w_iastoreA X93 hx hZ e93 V93 (cN * rN - 1) hl1 (own_lt1 (Nat.mul_le_mul c1 r1)) (Jvm.hb hby at_202) (pc' := 203) rfl ?_
  intro T94 h94 X94 e94 W94 V94
  have N94 := Fr.snoc X94 N93 GC
  have U94_persons := U93_persons.other W94 (Or.inl neb)
  have U94_columns := U93_columns.other W94 (Or.inl neb)
  have U94_rows := U93_rows.other W94 (Or.inl neb)
  have U94_counts := U93_counts.other W94 (Or.inl neb)
  have UE94 := UE93.wr W94
  have UA94 := UA93.other W94 ned
  refine w_aload X94 hx (Jvm.hb hby at_203) rfl rfl (pc' := 205) rfl ?_
  refine w_callV X94 hx hZ hown (hw _ (List.mem_of_getElem? (i := 49) rfl)) (hw _ (List.mem_of_getElem? (i := 50) rfl)) (notFace_of_selects (args := #[]) (mvT hZ (hw _ (List.mem_of_getElem? (i := 52) rfl)))) (hw _ (List.mem_of_getElem? (i := 52) rfl)) (hw _ (List.mem_of_getElem? (i := 51) rfl)) (hw _ (List.mem_of_getElem? (i := 22) rfl)) (hw _ (List.mem_of_getElem? (i := 53) rfl)) (by decide) (W := 0) (rm9 l Z aw hw [] mb pe h94 U94_persons) e94 (by decide) (by decide) (by decide) (by decide) UE94 (Jvm.hb hby at_205) (by rw [hml]; rfl) (argsL := []) (rest := []) pd_6 rfl rfl rfl (Nat.le_of_eq rfl) (pc' := 208) rfl ?_
  rintro _ T95 L95 X95 ⟨rfl, e95, rfl⟩
  show Ow p e below s _ _ _ (T95.setTop (mkF m 208 #[.val (.int p0), .val (.int p1), .val (.int p2), .val (.long q3), .second, .val (.long q4), .second, .val (.long q5), .second, .val (.int pe), .val (.int co), .val (.int ro), .val (.int nn), .val (.ref a72), .val (.ref ca), .val (.int cl'), .val (.int rr), .val (.int ((rr * co) + cl')), .val (.int (fv (kr * cN + kc'))), .val (.int (fv (cN * rN - 1))), .val (.ref mb)] [(.int pe)]))
  refine w_iload X95 hx (Jvm.hb hby at_208) rfl (pc' := 210) rfl ?_
  refine w_icmp_ne X95 hx (Jvm.hb hby at_210) (by decide) (pcT := 269) (by decide) (pcF := 213) rfl (fun q => absurd (rfl : pe = pe) q) (fun _ => ?_)
  refine w_aload X95 hx (Jvm.hb hby at_213) rfl rfl (pc' := 215) rfl ?_
  refine w_callV X95 hx hZ hown (hw _ (List.mem_of_getElem? (i := 54) rfl)) (hw _ (List.mem_of_getElem? (i := 55) rfl)) (notFace_of_selects (args := #[]) (mvT hZ (hw _ (List.mem_of_getElem? (i := 57) rfl)))) (hw _ (List.mem_of_getElem? (i := 57) rfl)) (hw _ (List.mem_of_getElem? (i := 56) rfl)) (hw _ (List.mem_of_getElem? (i := 22) rfl)) (hw _ (List.mem_of_getElem? (i := 58) rfl)) (by decide) (W := 0) (rm10 l Z aw hw [] mb co h94 U94_columns) e95 (by decide) (by decide) (by decide) (by decide) UE94 (Jvm.hb hby at_215) (by rw [hml]; rfl) (argsL := []) (rest := []) pd_6 rfl rfl rfl (Nat.le_of_eq rfl) (pc' := 218) rfl ?_
  rintro _ T96 L96 X96 ⟨rfl, e96, rfl⟩
  show Ow p e below s _ _ _ (T96.setTop (mkF m 218 #[.val (.int p0), .val (.int p1), .val (.int p2), .val (.long q3), .second, .val (.long q4), .second, .val (.long q5), .second, .val (.int pe), .val (.int co), .val (.int ro), .val (.int nn), .val (.ref a72), .val (.ref ca), .val (.int cl'), .val (.int rr), .val (.int ((rr * co) + cl')), .val (.int (fv (kr * cN + kc'))), .val (.int (fv (cN * rN - 1))), .val (.ref mb)] [(.int co)]))
  refine w_iload X96 hx (Jvm.hb hby at_218) rfl (pc' := 220) rfl ?_
  refine w_icmp_ne X96 hx (Jvm.hb hby at_220) (by decide) (pcT := 269) (by decide) (pcF := 223) rfl (fun q => absurd (rfl : co = co) q) (fun _ => ?_)
  refine w_aload X96 hx (Jvm.hb hby at_223) rfl rfl (pc' := 225) rfl ?_
  refine w_callV X96 hx hZ hown (hw _ (List.mem_of_getElem? (i := 59) rfl)) (hw _ (List.mem_of_getElem? (i := 60) rfl)) (notFace_of_selects (args := #[]) (mvT hZ (hw _ (List.mem_of_getElem? (i := 62) rfl)))) (hw _ (List.mem_of_getElem? (i := 62) rfl)) (hw _ (List.mem_of_getElem? (i := 61) rfl)) (hw _ (List.mem_of_getElem? (i := 22) rfl)) (hw _ (List.mem_of_getElem? (i := 63) rfl)) (by decide) (W := 0) (rm11 l Z aw hw [] mb ro h94 U94_rows) e96 (by decide) (by decide) (by decide) (by decide) UE94 (Jvm.hb hby at_225) (by rw [hml]; rfl) (argsL := []) (rest := []) pd_6 rfl rfl rfl (Nat.le_of_eq rfl) (pc' := 228) rfl ?_
  rintro _ T97 L97 X97 ⟨rfl, e97, rfl⟩
  show Ow p e below s _ _ _ (T97.setTop (mkF m 228 #[.val (.int p0), .val (.int p1), .val (.int p2), .val (.long q3), .second, .val (.long q4), .second, .val (.long q5), .second, .val (.int pe), .val (.int co), .val (.int ro), .val (.int nn), .val (.ref a72), .val (.ref ca), .val (.int cl'), .val (.int rr), .val (.int ((rr * co) + cl')), .val (.int (fv (kr * cN + kc'))), .val (.int (fv (cN * rN - 1))), .val (.ref mb)] [(.int ro)]))
  refine w_iload X97 hx (Jvm.hb hby at_228) rfl (pc' := 230) rfl ?_
  refine w_icmp_ne X97 hx (Jvm.hb hby at_230) (by decide) (pcT := 269) (by decide) (pcF := 233) rfl (fun q => absurd (rfl : ro = ro) q) (fun _ => ?_)
  refine w_aload X97 hx (Jvm.hb hby at_233) rfl rfl (pc' := 235) rfl ?_
  refine w_iload X97 hx (Jvm.hb hby at_235) rfl (pc' := 237) rfl ?_
  refine w_iload X97 hx (Jvm.hb hby at_237) rfl (pc' := 239) rfl ?_
  refine w_callV X97 hx hZ hown (hw _ (List.mem_of_getElem? (i := 64) rfl)) (hw _ (List.mem_of_getElem? (i := 65) rfl)) (notFace_of_selects (args := #[]) (mvT hZ (hw _ (List.mem_of_getElem? (i := 67) rfl)))) (hw _ (List.mem_of_getElem? (i := 67) rfl)) (hw _ (List.mem_of_getElem? (i := 66) rfl)) (hw _ (List.mem_of_getElem? (i := 22) rfl)) (hw _ (List.mem_of_getElem? (i := 68) rfl)) (by decide) (W := 0) (rm12 l Z aw hw [] mb cl' rr co ro md (cN * rN) fv (kr * cN + kc') h94 U94_columns U94_rows U94_counts UA94 (own_nn hkc) (own_ltN hkc hcN kc2) (own_nn hkr) (own_ltN hkr hrN kr2) hix hlt) e97 (by decide) (by decide) (by decide) (by decide) UE94 (Jvm.hb hby at_239) (by rw [hml]; rfl) (argsL := [(.int cl'), (.int rr)]) (rest := []) pd_2 rfl rfl rfl (Nat.le_of_eq rfl) (pc' := 242) rfl ?_
  rintro _ T98 L98 X98 ⟨rfl, e98, rfl⟩
  show Ow p e below s _ _ _ (T98.setTop (mkF m 242 #[.val (.int p0), .val (.int p1), .val (.int p2), .val (.long q3), .second, .val (.long q4), .second, .val (.long q5), .second, .val (.int pe), .val (.int co), .val (.int ro), .val (.int nn), .val (.ref a72), .val (.ref ca), .val (.int cl'), .val (.int rr), .val (.int ((rr * co) + cl')), .val (.int (fv (kr * cN + kc'))), .val (.int (fv (cN * rN - 1))), .val (.ref mb)] [(.int (fv (kr * cN + kc')))]))
  refine w_iload X98 hx (Jvm.hb hby at_242) rfl (pc' := 244) rfl ?_
  refine w_icmp_ne X98 hx (Jvm.hb hby at_244) (by decide) (pcT := 269) (by decide) (pcF := 247) rfl (fun q => absurd (rfl : fv (kr * cN + kc') = fv (kr * cN + kc')) q) (fun _ => ?_)
  have hc1 := own_last co cN hcN c1
  have hr1 := own_last ro rN hrN r1
  refine w_aload X98 hx (Jvm.hb hby at_247) rfl rfl (pc' := 249) rfl ?_
  refine w_iload X98 hx (Jvm.hb hby at_249) rfl (pc' := 251) rfl ?_
  refine w_iconst X98 hx (1 : Int32) (Jvm.hb hby at_251) (by decide) (pc' := 252) rfl ?_
  refine w_isub X98 hx (Jvm.hb hby at_252) (pc' := 253) rfl ?_
  refine w_iload X98 hx (Jvm.hb hby at_253) rfl (pc' := 255) rfl ?_
  refine w_iconst X98 hx (1 : Int32) (Jvm.hb hby at_255) (by decide) (pc' := 256) rfl ?_
  refine w_isub X98 hx (Jvm.hb hby at_256) (pc' := 257) rfl ?_
  refine w_callV X98 hx hZ hown (hw _ (List.mem_of_getElem? (i := 64) rfl)) (hw _ (List.mem_of_getElem? (i := 65) rfl)) (notFace_of_selects (args := #[]) (mvT hZ (hw _ (List.mem_of_getElem? (i := 67) rfl)))) (hw _ (List.mem_of_getElem? (i := 67) rfl)) (hw _ (List.mem_of_getElem? (i := 66) rfl)) (hw _ (List.mem_of_getElem? (i := 22) rfl)) (hw _ (List.mem_of_getElem? (i := 68) rfl)) (by decide) (W := 0) (rm12 l Z aw hw [] mb (co - (1 : Int32)) (ro - (1 : Int32)) co ro md (cN * rN) fv (cN * rN - 1) h94 U94_columns U94_rows U94_counts UA94 (own_nn hc1) (own_ltN hc1 hcN (by omega)) (own_nn hr1) (own_ltN hr1 hrN (by omega)) (own_lastix co ro cN rN hcN hc1 hr1 c1 c3 r1 r3) (own_lt1 (Nat.mul_le_mul c1 r1))) e98 (by decide) (by decide) (by decide) (by decide) UE94 (Jvm.hb hby at_257) (by rw [hml]; rfl) (argsL := [(.int (co - (1 : Int32))), (.int (ro - (1 : Int32)))]) (rest := []) pd_2 rfl rfl rfl (Nat.le_of_eq rfl) (pc' := 260) rfl ?_
  rintro _ T99 L99 X99 ⟨rfl, e99, rfl⟩
  show Ow p e below s _ _ _ (T99.setTop (mkF m 260 #[.val (.int p0), .val (.int p1), .val (.int p2), .val (.long q3), .second, .val (.long q4), .second, .val (.long q5), .second, .val (.int pe), .val (.int co), .val (.int ro), .val (.int nn), .val (.ref a72), .val (.ref ca), .val (.int cl'), .val (.int rr), .val (.int ((rr * co) + cl')), .val (.int (fv (kr * cN + kc'))), .val (.int (fv (cN * rN - 1))), .val (.ref mb)] [(.int (fv (cN * rN - 1)))]))
  refine w_iload X99 hx (Jvm.hb hby at_260) rfl (pc' := 262) rfl ?_
  refine w_icmp_ne X99 hx (Jvm.hb hby at_262) (by decide) (pcT := 269) (by decide) (pcF := 265) rfl (fun q => absurd (rfl : fv (cN * rN - 1) = fv (cN * rN - 1)) q) (fun _ => ?_)
  refine w_iconst X99 hx (1 : Int32) (Jvm.hb hby at_265) (by decide) (pc' := 266) rfl ?_
  refine w_goto X99 hx (Jvm.hb hby at_266) (by decide) (pc' := 270) (by decide) ?_
  exact w_zreturn X99 hx Bd.returns (Or.inr rfl) (BodyLoose.notSynchronized Bd) (Nat.le_of_ble_eq_true rfl) (Nat.le_of_ble_eq_true rfl) (Jvm.hb hby at_270) ⟨rfl, by simpa using N94⟩
set_option maxRecDepth 65536 in
set_option maxHeartbeats 40000000 in
theorem comes_1 {Post : Tables → Env → Array Value → State → Outcome → State → Prop} (hpost : ∀ tb e args s v u, (limb_1_1.after args s (.returned v) u = true ∧ limb_1_2.after args s (.returned v) u = true ∧ True) → FrameEnd s (.returned v) u (Jvm.fieldLocs frame_1_writes args s ++ Jvm.arrayLocs frame_1_arrays args s ++ Jvm.staticLocs frame_1_statics s) 16 128 → Post tb e args s (.returned v) u) :
    ArmFor flags0 classFile x code maxLocals ret World_1 tables_1 room_1 Calls_1 rest_1 Pre_1 Post := by
  intro l hfl _ _ p e ha hc hk s m args below hf hA hF happ hP
  obtain ⟨hcalls, hrest, hpre⟩ := hP
  obtain ⟨-, -, -, hnamed, -, -, -, hat⟩ := (Spec.applies_iff hf).mp happ
  obtain ⟨hg, hn⟩ := and_e (Cond.before_iff.mp (show (Jvm.Cond.and given_1 narrow_1).before args s = true from hpre))
  obtain ⟨g1, g2⟩ := and_e hg
  obtain ⟨g3, g4⟩ := and_e g2
  obtain ⟨g5, g6⟩ := and_e g4
  obtain ⟨g7, g8⟩ := and_e g6
  obtain ⟨g9, g10⟩ := and_e g8
  obtain ⟨g11, g12⟩ := and_e g10
  obtain ⟨w0, w1, w2, w3, w4, w5, rfl⟩ : ∃ w0 w1 w2 w3 w4 w5 : Value, args = #[w0, w1, w2, w3, w4, w5] := by
    have hs : args.size = 6 := by simpa [Cond.value, given_1] using g1
    obtain ⟨L⟩ := args
    match L, hs with
    | [w0, w1, w2, w3, w4, w5], _ => exact ⟨w0, w1, w2, w3, w4, w5, rfl⟩
  have hw := fun d (hd : d ∈ tables_1) => atoms_spec (ws := Jvm.Cond.code x code maxLocals ret :: tables_1) hat d (List.mem_cons_of_mem _ hd)
  obtain ⟨i0, ei0⟩ := is_v g3
  obtain rfl : w0 = (.int i0) := Option.some.inj ei0
  obtain ⟨i1, ei1⟩ := is_v g5
  obtain rfl : w1 = (.int i1) := Option.some.inj ei1
  obtain ⟨i2, ei2⟩ := is_v g7
  obtain rfl : w2 = (.int i2) := Option.some.inj ei2
  obtain ⟨i3, ei3⟩ := isL_v g9
  obtain rfl : w3 = (.long i3) := Option.some.inj ei3
  obtain ⟨i4, ei4⟩ := isL_v g11
  obtain rfl : w4 = (.long i4) := Option.some.inj ei4
  obtain ⟨i5, ei5⟩ := isL_v g12
  obtain rfl : w5 = (.long i5) := Option.some.inj ei5
  obtain ⟨n, o, h1, h2, h3, _, L, rfl, ⟨rfl, N⟩, hq⟩ := rm0 l s _ hw tables_1 i0 i1 i2 i3 i4 i5 s.heap s.heap.size (Nat.le_refl _) p e ha hc hk s m _ below hf ((Spec.applies_iff_loose hf).mp happ).1 ⟨rfl, State.Warmed39.refl s, rfl⟩ trivial
  refine ⟨n, _, h1, h2, h3, hpost _ _ _ _ _ _ ⟨Cond.after_iff.mpr rfl, Cond.after_iff.mpr (eq_i res_at (Term.int_eval (1)) rfl), trivial⟩ ⟨hq.1, hq.2.1, (hq.2.2.sift fun y hy => Or.inr (N y hy)).mono (by decide) (by decide)⟩⟩
theorem main_1_1 : Claimed_1_1 := comes_1 fun _ _ _ _ _ _ h hF => ⟨h.1, hF⟩
theorem main_1_2 : Claimed_1_2 := comes_1 fun _ _ _ _ _ _ h hF => ⟨h.2.1, hF⟩
end Jvm.Pilot.@@N@@
namespace Jvm.Pilot.@@N@@
open Jvm Jvm.ClassFile Sem Op Lib Jvm.Free Jvm.Stand Jvm.Pilot.@@N@@.Jvm.D
/-! MADE BY PROGRAM (witnessworld.py) out of the Statement's table words and the real class files: 12 classes; the members and pool entries that the words name. The judged class is class 1, her method 1. -/
namespace start1
open Jvm.ClassFile
def u (s : String) : CpInfo := .utf8 (stringToUtf16 s)
/-- a pool by its gaps: so many unusable entries, then the entry; so many at the end -/
def gap : Nat → List CpInfo → List CpInfo
  | 0, r => r
  | n + 1, r => .unusable :: gap n r
def poolList (es : List (Nat × CpInfo)) (last : Nat) : List CpInfo := es.foldr (fun e r => gap e.1 (e.2 :: r)) (gap last [])
def pool (es : List (Nat × CpInfo)) (last : Nat) : Array CpInfo := ⟨poolList es last⟩
def fileOf (pool : Array CpInfo) (this : Nat) (attrs : Array Attribute := #[]) (ms : Array MethodInfo := #[]) (fl : Nat := 33) (sup : Nat := 0) (ifs : Array Nat := #[]) (fds : Array FieldInfo := #[]) : ClassFile where
  minorVersion := 0
  majorVersion := 65
  constantPool := pool
  accessFlags := fl
  thisClass := this
  superClass := sup
  interfaces := ifs
  fields := fds
  methods := ms
  attributes := attrs
def plain (name : String) (sup : Option ClassId) : Class where
  name := name
  kind := .ordinary
  loader := none
  accessFlags := 33
  super := sup
  interfaces := #[]
  cf := none
  fields := #[]
  methods := #[]
  instanceTypes := #[]
  staticTypes := #[]
  resolved := #[]
  callSites := []
  init := .initialized
  statics := none
  mirror := none

def pool0 : Array CpInfo := pool [(5, u "<init>"), (0, u "()V"), (1, .class_ 10), (1, u "java/lang/Object"), (85, u "clone"), (0, u "()Ljava/lang/Object;")] 26

def k0c0 : Code := { maxStack := 0, maxLocals := 1, code := object_method_1_code, exceptionTable := #[], attributes := #[] }
def k0m0 : Method := { name := "<init>", desc := "()V", sig := { parameters := [], returnType := none }, accessFlags := 1, code := some k0c0 }
def k0m1 : Method := { name := "clone", desc := "()Ljava/lang/Object;", sig := { parameters := [], returnType := some (.object "java/lang/Object") }, accessFlags := 260, code := none }
/-- java/lang/Object -/
def k0 : Class := { plain "java/lang/Object" none with
  accessFlags := 33
  interfaces := #[]
  cf := some (fileOf pool0 8 #[] #[{ accessFlags := 1, nameIndex := 5, descriptorIndex := 6, attributes := #[] }, { accessFlags := 260, nameIndex := 96, descriptorIndex := 97, attributes := #[] }] 33 0 #[] #[])
  fields := #[]
  methods := #[k0m0, k0m1]
  instanceTypes := #[]
  staticTypes := #[]
  resolved := Array.replicate 124 none
  statics := none }

def pool1 : Array CpInfo := pool [(2, .class_ 4), (1, u "java/lang/Object"), (0, u "<init>"), (0, u "()V"), (0, .integer 2147483647), (0, .methodref 9 10), (0, .class_ 11), (0, .nameAndType 12 13), (0, u "java/lang/Math"), (0, u "max"), (0, u "(II)I"), (0, .methodref 15 16), (0, .class_ 17), (0, .nameAndType 18 19), (0, u "com/example/sarutahiko/sarutahiko/heatmap/HeatMapOfCellsPinLaw"), (0, u "low"), (0, u "(J)I"), (0, .methodref 15 21), (0, .nameAndType 22 19), (0, u "high"), (0, .methodref 15 24), (0, .nameAndType 25 19), (0, u "mid"), (0, .methodref 15 27), (0, .nameAndType 28 29), (0, u "prefix"), (0, u "(I[I)[I"), (0, .methodref 31 32), (0, .class_ 33), (0, .nameAndType 34 35), (0, u "com/example/sarutahiko/sarutahiko/heatmap/HeatMap"), (0, u "ofCells"), (0, u "(II[I)Lcom/example/sarutahiko/sarutahiko/heatmap/HeatMap;"), (0, .methodref 31 37), (0, .nameAndType 38 39), (0, u "getPersons"), (0, u "()I"), (0, .methodref 31 41), (0, .nameAndType 42 39), (0, u "getColumns"), (0, .methodref 31 44), (0, .nameAndType 45 39), (0, u "getRows"), (0, .methodref 31 47), (0, .nameAndType 48 13), (0, u "getCount"), (0, .long 2147483647), (3, u "law"), (0, u "(IIIJJJ)Z")] 5

def k1m0 : Method := { name := "<init>", desc := "()V", sig := { parameters := [], returnType := none }, accessFlags := 1, code := none }
def k1c1 : Code := { maxStack := 5, maxLocals := 21, code := code, exceptionTable := #[], attributes := #[] }
def k1m1 : Method := { name := "law", desc := "(IIIJJJ)Z", sig := { parameters := [.int, .int, .int, .long, .long, .long], returnType := some .boolean }, accessFlags := 9, code := some k1c1 }
def k1c2 : Code := { maxStack := 4, maxLocals := 2, code := method_3_code, exceptionTable := #[], attributes := #[] }
def k1m2 : Method := { name := "low", desc := "(J)I", sig := { parameters := [.long], returnType := some .int }, accessFlags := 10, code := some k1c2 }
def k1c3 : Code := { maxStack := 4, maxLocals := 2, code := method_4_code, exceptionTable := #[], attributes := #[] }
def k1m3 : Method := { name := "high", desc := "(J)I", sig := { parameters := [.long], returnType := some .int }, accessFlags := 10, code := some k1c3 }
def k1c4 : Code := { maxStack := 4, maxLocals := 2, code := method_5_code, exceptionTable := #[], attributes := #[] }
def k1m4 : Method := { name := "mid", desc := "(J)I", sig := { parameters := [.long], returnType := some .int }, accessFlags := 10, code := some k1c4 }
def k1c5 : Code := { maxStack := 5, maxLocals := 2, code := method_6_code, exceptionTable := #[], attributes := #[] }
def k1m5 : Method := { name := "prefix", desc := "(I[I)[I", sig := { parameters := [.int, (.array .int)], returnType := some (.array .int) }, accessFlags := 10, code := some k1c5 }
/-- com/example/sarutahiko/sarutahiko/heatmap/HeatMapOfCellsPinLaw -/
def k1 : Class := { plain "com/example/sarutahiko/sarutahiko/heatmap/HeatMapOfCellsPinLaw" (some 0) with
  accessFlags := 49
  interfaces := #[]
  cf := some (fileOf pool1 15 #[] #[{ accessFlags := 1, nameIndex := 5, descriptorIndex := 6, attributes := #[] }, { accessFlags := 9, nameIndex := 53, descriptorIndex := 54, attributes := #[] }, { accessFlags := 10, nameIndex := 18, descriptorIndex := 19, attributes := #[] }, { accessFlags := 10, nameIndex := 22, descriptorIndex := 19, attributes := #[] }, { accessFlags := 10, nameIndex := 25, descriptorIndex := 19, attributes := #[] }, { accessFlags := 10, nameIndex := 28, descriptorIndex := 29, attributes := #[] }] 49 2 #[] #[])
  fields := #[]
  methods := #[k1m0, k1m1, k1m2, k1m3, k1m4, k1m5]
  instanceTypes := #[]
  staticTypes := #[]
  resolved := Array.replicate 60 none
  statics := none }

def pool2 : Array CpInfo := pool [(1, .class_ 2), (0, u "java/lang/Math"), (1, .class_ 6), (1, u "java/lang/Object"), (0, u "<init>"), (0, u "()V"), (89, .class_ 100), (1, u "java/lang/Math$RandomNumberGeneratorHolder"), (71, u "negativeZeroFloatBits"), (0, u "J"), (2, u "negativeZeroDoubleBits"), (21, u "max"), (46, u "$assertionsDisabled"), (0, u "Z"), (88, u "(II)I"), (2, u "twoToTheDoubleScaleDown"), (0, u "D"), (4, u "twoToTheDoubleScaleUp"), (9, u "E"), (3, u "PI"), (2, u "TAU"), (2, u "DEGREES_TO_RADIANS"), (0, u "RADIANS_TO_DEGREES")] 94

def k2m0 : Method := { name := "<init>", desc := "()V", sig := { parameters := [], returnType := none }, accessFlags := 2, code := none }
def k2c1 : Code := { maxStack := 2, maxLocals := 2, code := jdk_29_method_65_code, exceptionTable := #[], attributes := #[] }
def k2m1 : Method := { name := "max", desc := "(II)I", sig := { parameters := [.int, .int], returnType := some .int }, accessFlags := 9, code := some k2c1 }
/-- java/lang/Math -/
def k2 : Class := { plain "java/lang/Math" (some 0) with
  accessFlags := 49
  interfaces := #[]
  cf := some (fileOf pool2 1 #[.nestMembers #[98]] #[{ accessFlags := 2, nameIndex := 7, descriptorIndex := 8, attributes := #[] }, { accessFlags := 9, nameIndex := 198, descriptorIndex := 335, attributes := #[] }] 49 4 #[] #[{ accessFlags := 25, nameIndex := 354, descriptorIndex := 339, attributes := #[] }, { accessFlags := 25, nameIndex := 358, descriptorIndex := 339, attributes := #[] }, { accessFlags := 25, nameIndex := 361, descriptorIndex := 339, attributes := #[] }, { accessFlags := 26, nameIndex := 364, descriptorIndex := 339, attributes := #[] }, { accessFlags := 26, nameIndex := 365, descriptorIndex := 339, attributes := #[] }, { accessFlags := 26, nameIndex := 172, descriptorIndex := 173, attributes := #[] }, { accessFlags := 26, nameIndex := 176, descriptorIndex := 173, attributes := #[] }, { accessFlags := 8, nameIndex := 344, descriptorIndex := 339, attributes := #[] }, { accessFlags := 8, nameIndex := 338, descriptorIndex := 339, attributes := #[] }, { accessFlags := 4120, nameIndex := 245, descriptorIndex := 246, attributes := #[] }])
  fields := #[{ name := "E", type := .double, accessFlags := 25, slot := 0, constantValue := 0 }, { name := "PI", type := .double, accessFlags := 25, slot := 1, constantValue := 0 }, { name := "TAU", type := .double, accessFlags := 25, slot := 2, constantValue := 0 }, { name := "DEGREES_TO_RADIANS", type := .double, accessFlags := 26, slot := 3, constantValue := 0 }, { name := "RADIANS_TO_DEGREES", type := .double, accessFlags := 26, slot := 4, constantValue := 0 }, { name := "negativeZeroFloatBits", type := .long, accessFlags := 26, slot := 5, constantValue := 0 }, { name := "negativeZeroDoubleBits", type := .long, accessFlags := 26, slot := 6, constantValue := 0 }, { name := "twoToTheDoubleScaleUp", type := .double, accessFlags := 8, slot := 7, constantValue := 0 }, { name := "twoToTheDoubleScaleDown", type := .double, accessFlags := 8, slot := 8, constantValue := 0 }, { name := "$assertionsDisabled", type := .boolean, accessFlags := 4120, slot := 9, constantValue := 0 }]
  methods := #[k2m0, k2m1]
  instanceTypes := #[]
  staticTypes := #[.double, .double, .double, .double, .double, .long, .long, .double, .double, .boolean]
  resolved := Array.replicate 460 none
  statics := none }

def pool3 : Array CpInfo := pool [(2, .class_ 4), (1, u "com/example/sarutahiko/sarutahiko/heatmap/HeatMap"), (2, .methodref 2 8), (0, .nameAndType 9 10), (0, u "<init>"), (0, u "(II[I)V"), (0, .methodref 12 13), (0, .class_ 14), (0, .nameAndType 9 15), (0, u "java/lang/Object"), (0, u "()V"), (14, .fieldref 2 31), (0, .nameAndType 32 33), (0, u "persons"), (0, u "I"), (0, .fieldref 2 35), (0, .nameAndType 36 33), (0, u "columns"), (0, .fieldref 2 38), (0, .nameAndType 39 33), (0, u "rows"), (0, .fieldref 2 41), (0, .nameAndType 42 43), (0, u "counts"), (0, u "[I"), (3, .methodref 48 49), (0, .class_ 43), (0, .nameAndType 50 51), (0, u "clone"), (0, u "()Ljava/lang/Object;"), (71, u "()I"), (62, .methodref 187 188), (0, .class_ 189), (0, .nameAndType 190 191), (0, u "java/util/Objects"), (0, u "checkIndex"), (0, u "(II)I"), (23, u "PERSONS_PREFIX"), (0, u "Ljava/lang/String;"), (1, u "NOT_WHOLE"), (4, u "ofCells"), (0, u "(II[I)Lcom/example/sarutahiko/sarutahiko/heatmap/HeatMap;"), (5, u "getPersons"), (0, u "getColumns"), (0, u "getRows"), (0, u "getCount")] 35

def k3c0 : Code := { maxStack := 6, maxLocals := 5, code := prog_19_method_2_code, exceptionTable := #[], attributes := #[] }
def k3m0 : Method := { name := "<init>", desc := "(II[I)V", sig := { parameters := [.int, .int, (.array .int)], returnType := none }, accessFlags := 2, code := some k3c0 }
def k3c1 : Code := { maxStack := 5, maxLocals := 3, code := prog_19_method_3_code, exceptionTable := #[], attributes := #[] }
def k3m1 : Method := { name := "ofCells", desc := "(II[I)Lcom/example/sarutahiko/sarutahiko/heatmap/HeatMap;", sig := { parameters := [.int, .int, (.array .int)], returnType := some (.object "com/example/sarutahiko/sarutahiko/heatmap/HeatMap") }, accessFlags := 9, code := some k3c1 }
def k3c2 : Code := { maxStack := 1, maxLocals := 1, code := prog_19_method_8_code, exceptionTable := #[], attributes := #[] }
def k3m2 : Method := { name := "getPersons", desc := "()I", sig := { parameters := [], returnType := some .int }, accessFlags := 1, code := some k3c2 }
def k3c3 : Code := { maxStack := 1, maxLocals := 1, code := prog_19_method_9_code, exceptionTable := #[], attributes := #[] }
def k3m3 : Method := { name := "getColumns", desc := "()I", sig := { parameters := [], returnType := some .int }, accessFlags := 1, code := some k3c3 }
def k3c4 : Code := { maxStack := 1, maxLocals := 1, code := prog_19_method_10_code, exceptionTable := #[], attributes := #[] }
def k3m4 : Method := { name := "getRows", desc := "()I", sig := { parameters := [], returnType := some .int }, accessFlags := 1, code := some k3c4 }
def k3c5 : Code := { maxStack := 3, maxLocals := 3, code := prog_19_method_11_code, exceptionTable := #[], attributes := #[] }
def k3m5 : Method := { name := "getCount", desc := "(II)I", sig := { parameters := [.int, .int], returnType := some .int }, accessFlags := 1, code := some k3c5 }
/-- com/example/sarutahiko/sarutahiko/heatmap/HeatMap -/
def k3 : Class := { plain "com/example/sarutahiko/sarutahiko/heatmap/HeatMap" (some 0) with
  accessFlags := 49
  interfaces := #[]
  cf := some (fileOf pool3 2 #[] #[{ accessFlags := 2, nameIndex := 9, descriptorIndex := 10, attributes := #[] }, { accessFlags := 9, nameIndex := 223, descriptorIndex := 224, attributes := #[] }, { accessFlags := 1, nameIndex := 230, descriptorIndex := 123, attributes := #[] }, { accessFlags := 1, nameIndex := 231, descriptorIndex := 123, attributes := #[] }, { accessFlags := 1, nameIndex := 232, descriptorIndex := 123, attributes := #[] }, { accessFlags := 1, nameIndex := 233, descriptorIndex := 191, attributes := #[] }] 49 12 #[] #[{ accessFlags := 26, nameIndex := 215, descriptorIndex := 216, attributes := #[] }, { accessFlags := 26, nameIndex := 218, descriptorIndex := 33, attributes := #[] }, { accessFlags := 18, nameIndex := 32, descriptorIndex := 33, attributes := #[] }, { accessFlags := 18, nameIndex := 36, descriptorIndex := 33, attributes := #[] }, { accessFlags := 18, nameIndex := 39, descriptorIndex := 33, attributes := #[] }, { accessFlags := 18, nameIndex := 42, descriptorIndex := 43, attributes := #[] }])
  fields := #[{ name := "PERSONS_PREFIX", type := (.object "java/lang/String"), accessFlags := 26, slot := 0, constantValue := 0 }, { name := "NOT_WHOLE", type := .int, accessFlags := 26, slot := 1, constantValue := 0 }, { name := "persons", type := .int, accessFlags := 18, slot := 0, constantValue := 0 }, { name := "columns", type := .int, accessFlags := 18, slot := 1, constantValue := 0 }, { name := "rows", type := .int, accessFlags := 18, slot := 2, constantValue := 0 }, { name := "counts", type := (.array .int), accessFlags := 18, slot := 3, constantValue := 0 }]
  methods := #[k3m0, k3m1, k3m2, k3m3, k3m4, k3m5]
  instanceTypes := #[.int, .int, .int, (.array .int)]
  staticTypes := #[(.object "java/lang/String"), .int]
  resolved := Array.replicate 269 none
  statics := none }

def pool4 : Array CpInfo := pool [(1, .class_ 2), (0, u "java/lang/Cloneable"), (0, .class_ 4), (0, u "java/lang/Object")] 2

/-- java/lang/Cloneable -/
def k4 : Class := { plain "java/lang/Cloneable" (some 0) with
  accessFlags := 1537
  interfaces := #[]
  cf := some (fileOf pool4 1 #[] #[] 1537 3 #[] #[])
  fields := #[]
  methods := #[]
  instanceTypes := #[]
  staticTypes := #[]
  resolved := Array.replicate 7 none
  statics := none }

def pool5 : Array CpInfo := pool [(2, .class_ 4), (1, u "java/lang/Object"), (0, u "<init>"), (0, u "()V"), (35, .class_ 44), (1, u "java/util/Objects"), (60, .methodref 106 107), (0, .class_ 108), (0, .nameAndType 109 110), (0, u "jdk/internal/util/Preconditions"), (0, u "checkIndex"), (0, u "(IILjava/util/function/BiFunction;)I"), (60, u "(II)I")] 12

def k5m0 : Method := { name := "<init>", desc := "()V", sig := { parameters := [], returnType := none }, accessFlags := 2, code := none }
def k5c1 : Code := { maxStack := 3, maxLocals := 2, code := jdk_31_method_17_code, exceptionTable := #[], attributes := #[] }
def k5m1 : Method := { name := "checkIndex", desc := "(II)I", sig := { parameters := [.int, .int], returnType := some .int }, accessFlags := 9, code := some k5c1 }
/-- java/util/Objects -/
def k5 : Class := { plain "java/util/Objects" (some 0) with
  accessFlags := 49
  interfaces := #[]
  cf := some (fileOf pool5 42 #[] #[{ accessFlags := 2, nameIndex := 5, descriptorIndex := 6, attributes := #[] }, { accessFlags := 9, nameIndex := 109, descriptorIndex := 171, attributes := #[] }] 49 2 #[] #[])
  fields := #[]
  methods := #[k5m0, k5m1]
  instanceTypes := #[]
  staticTypes := #[]
  resolved := Array.replicate 184 none
  statics := none }

def pool6 : Array CpInfo := pool [(2, .class_ 4), (1, u "java/lang/Object"), (0, u "<init>"), (0, u "()V"), (17, .class_ 26), (1, u "jdk/internal/util/Preconditions"), (6, u "checkIndex"), (21, .class_ 56), (0, u "jdk/internal/util/Preconditions$4"), (57, .class_ 115), (0, u "jdk/internal/util/Preconditions$1"), (7, u "SIOOBE_FORMATTER"), (0, u "Ljava/util/function/BiFunction;"), (0, .class_ 126), (0, u "jdk/internal/util/Preconditions$2"), (3, u "AIOOBE_FORMATTER"), (0, .class_ 132), (0, u "jdk/internal/util/Preconditions$3"), (3, u "IOOBE_FORMATTER"), (41, u "(IILjava/util/function/BiFunction;)I")] 15

def k6m0 : Method := { name := "<init>", desc := "()V", sig := { parameters := [], returnType := none }, accessFlags := 1, code := none }
def k6c1 : Code := { maxStack := 3, maxLocals := 3, code := jdk_41_method_11_code, exceptionTable := #[], attributes := #[] }
def k6m1 : Method := { name := "checkIndex", desc := "(IILjava/util/function/BiFunction;)I", sig := { parameters := [.int, .int, (.object "java/util/function/BiFunction")], returnType := some .int }, accessFlags := 9, code := some k6c1 }
/-- jdk/internal/util/Preconditions -/
def k6 : Class := { plain "jdk/internal/util/Preconditions" (some 0) with
  accessFlags := 33
  interfaces := #[]
  cf := some (fileOf pool6 24 #[.nestMembers #[55, 131, 125, 114]] #[{ accessFlags := 1, nameIndex := 5, descriptorIndex := 6, attributes := #[] }, { accessFlags := 9, nameIndex := 33, descriptorIndex := 178, attributes := #[] }] 33 2 #[] #[{ accessFlags := 25, nameIndex := 123, descriptorIndex := 124, attributes := #[] }, { accessFlags := 25, nameIndex := 130, descriptorIndex := 124, attributes := #[] }, { accessFlags := 25, nameIndex := 136, descriptorIndex := 124, attributes := #[] }])
  fields := #[{ name := "SIOOBE_FORMATTER", type := (.object "java/util/function/BiFunction"), accessFlags := 25, slot := 0, constantValue := 0 }, { name := "AIOOBE_FORMATTER", type := (.object "java/util/function/BiFunction"), accessFlags := 25, slot := 1, constantValue := 0 }, { name := "IOOBE_FORMATTER", type := (.object "java/util/function/BiFunction"), accessFlags := 25, slot := 2, constantValue := 0 }]
  methods := #[k6m0, k6m1]
  instanceTypes := #[]
  staticTypes := #[(.object "java/util/function/BiFunction"), (.object "java/util/function/BiFunction"), (.object "java/util/function/BiFunction")]
  resolved := Array.replicate 194 none
  statics := none }

def pool7 : Array CpInfo := pool [(1, u "java/io/Serializable"), (0, .class_ 1), (0, u "java/lang/Object"), (0, .class_ 3)] 3

/-- java/io/Serializable -/
def k7 : Class := { plain "java/io/Serializable" (some 0) with
  accessFlags := 1537
  interfaces := #[]
  cf := some (fileOf pool7 2 #[] #[] 1537 4 #[] #[])
  fields := #[]
  methods := #[]
  instanceTypes := #[]
  staticTypes := #[]
  resolved := Array.replicate 8 none
  statics := none }

/-- the primitive byte -/
def k8 : Class := { plain "byte" none with kind := .primitive 'B', accessFlags := 0x411 }
/-- [B -/
def k9 : Class := { plain "[B" (some 0) with kind := .array 8 .byte, interfaces := #[4, 7], accessFlags := 1041 }

/-- the primitive int -/
def k10 : Class := { plain "int" none with kind := .primitive 'I', accessFlags := 0x411 }
/-- [I -/
def k11 : Class := { plain "[I" (some 0) with kind := .array 10 .int, interfaces := #[4, 7], accessFlags := 1041 }

def heap : Heap := #[]
def classes : Array Class := #[k0, k1, k2, k3, k4, k5, k6, k7, k8, k9, k10, k11]
def interned : List (Array UInt16 × Addr) := []
def slotsUsed : Nat := 0
def theMethod : MethodId := ⟨1, 1⟩
def args0 : Array Value := #[.int 5, .int 6, .int 700, .long 8, .long 5, .long 77]
def aboutOver (below : List Frame) : State where
  vm := { classes := classes, interned := interned.toArray }
  heap := heap
  slotsUsed := slotsUsed
  threads := #[{ frames := .invoking theMethod args0 :: below }]
def below0 : List Frame := [.native { method := ⟨0, 0⟩, args := #[] }]
def about1 : State := aboutOver below0
def p0 : Program := .bare "" "" ""
def e0 : Env := launch0.env 0 0 0
theorem w_frames : about1.frames = Frame.invoking theMethod args0 :: below0 := rfl
set_option maxRecDepth 65536 in
theorem w_args : argsFit about1.vm theMethod args0 = true := by decide +kernel
set_option maxRecDepth 65536 in
theorem w_heap : heapFits about1 = true := by decide +kernel
set_option maxRecDepth 65536 in
theorem w_runnable : about1.curStatus? = some .runnable := by decide +kernel
set_option maxRecDepth 65536 in
theorem w_alone : about1.alone = true := by decide +kernel
set_option maxRecDepth 65536 in
theorem w_named : about1.methodNamed? x = some theMethod := by decide +kernel
set_option maxRecDepth 65536 in
theorem w_hears : about1.hears theMethod below0 = true := by decide +kernel
set_option maxRecDepth 65536 in
theorem w_ripe : about1.ripe theMethod args0 below0 = true := by decide +kernel
theorem w_running : about1.status = .running := rfl
set_option maxRecDepth 65536 in
theorem w_room : about1.hasRoom e0.platform room_1 = true :=
  launch0.hasRoom_least _ room_1 (by decide +kernel) (by decide +kernel) (by decide +kernel) (by decide +kernel) (by decide +kernel) (by decide +kernel)
theorem allAtoms_all (ts : List Jvm.Cond) (a : Array Jvm.Value) (st : Jvm.State) : (allAtoms ts).before a st = ts.all (fun c => c.before a st) := by
  induction ts with
  | nil => rfl
  | cons c t ih =>
    show (Jvm.Cond.and c (allAtoms t)).before a st = _
    rw [Jvm.Cond.before_and, ih, List.all_cons]
def words1 : List Jvm.Cond := Jvm.Cond.code x code maxLocals ret :: tables_1
/-- a 'code' word, met by the world's own term for the bytes: nothing is compared byte by byte -/
theorem code_word {y : MethodName} {bytes : ByteArray} {mx : Nat} {rt : Option FieldType} {a : Array Value} {s : State} {m : MethodId} {meth : Method} {c : Code} (h1 : s.methodNamed? y = some m) (h2 : s.vm.method? m = some meth) (h3 : meth.code = some c) (h4 : c.code = bytes)
    (h5 : (c.maxLocals == mx && c.exceptionTable.isEmpty && decide (c.maxStack ≤ mostOperands) && decide (meth.sig.returnType = rt) && !meth.locks && decide (parseMethodDescriptor y.desc = some meth.sig)) = true) : (Jvm.Cond.code y bytes mx rt).before a s = true := by
  simp only [Bool.and_eq_true, beq_iff_eq, Bool.not_eq_true', decide_eq_true_eq] at h5
  obtain ⟨⟨⟨⟨⟨g1, g2⟩, g3⟩, g4⟩, g5⟩, g6⟩ := h5
  simp [Cond.before, Cond.holds, Cond.value, h1, h2, h3, h4, g1, g2, g3, g4, g5, g6]
def isCode : Jvm.Cond → Bool
  | .code _ _ _ _ => true
  | _ => false
theorem all_split {L : List Jvm.Cond} {P : Jvm.Cond → Bool} (h1 : L.all (fun c => isCode c || P c) = true) (h2 : ∀ c ∈ L.filter isCode, P c = true) : L.all P = true := by
  refine List.all_eq_true.mpr fun c hc => ?_
  have h := List.all_eq_true.mp h1 c hc
  rcases Bool.eq_false_or_eq_true (isCode c) with hi | hi
  · exact h2 c (List.mem_filter.mpr ⟨hc, hi⟩)
  · simpa [hi] using h
set_option maxRecDepth 65536 in
theorem w_c0 : (Jvm.Cond.code x code maxLocals ret).before args0 about1 = true := code_word (m := ⟨1, 1⟩) (meth := k1m1) (c := k1c1) (by decide +kernel) rfl rfl rfl (by decide +kernel)
set_option maxRecDepth 65536 in
theorem w_c1 : (Jvm.Cond.code ({ cls := "java/lang/Math", name := "max", desc := "(II)I" } : Jvm.MethodName) jdk_29_method_65_code (2 : Nat) (Option.some Jvm.ClassFile.FieldType.int)).before args0 about1 = true := code_word (m := ⟨2, 1⟩) (meth := k2m1) (c := k2c1) (by decide +kernel) rfl rfl rfl (by decide +kernel)
set_option maxRecDepth 65536 in
theorem w_c2 : (Jvm.Cond.code ({ cls := "com/example/sarutahiko/sarutahiko/heatmap/HeatMapOfCellsPinLaw", name := "low", desc := "(J)I" } : Jvm.MethodName) method_3_code (2 : Nat) (Option.some Jvm.ClassFile.FieldType.int)).before args0 about1 = true := code_word (m := ⟨1, 2⟩) (meth := k1m2) (c := k1c2) (by decide +kernel) rfl rfl rfl (by decide +kernel)
set_option maxRecDepth 65536 in
theorem w_c3 : (Jvm.Cond.code ({ cls := "com/example/sarutahiko/sarutahiko/heatmap/HeatMapOfCellsPinLaw", name := "high", desc := "(J)I" } : Jvm.MethodName) method_4_code (2 : Nat) (Option.some Jvm.ClassFile.FieldType.int)).before args0 about1 = true := code_word (m := ⟨1, 3⟩) (meth := k1m3) (c := k1c3) (by decide +kernel) rfl rfl rfl (by decide +kernel)
set_option maxRecDepth 65536 in
theorem w_c4 : (Jvm.Cond.code ({ cls := "com/example/sarutahiko/sarutahiko/heatmap/HeatMapOfCellsPinLaw", name := "mid", desc := "(J)I" } : Jvm.MethodName) method_5_code (2 : Nat) (Option.some Jvm.ClassFile.FieldType.int)).before args0 about1 = true := code_word (m := ⟨1, 4⟩) (meth := k1m4) (c := k1c4) (by decide +kernel) rfl rfl rfl (by decide +kernel)
set_option maxRecDepth 65536 in
theorem w_c5 : (Jvm.Cond.code ({ cls := "com/example/sarutahiko/sarutahiko/heatmap/HeatMapOfCellsPinLaw", name := "prefix", desc := "(I[I)[I" } : Jvm.MethodName) method_6_code (2 : Nat) (Option.some (Jvm.ClassFile.FieldType.array Jvm.ClassFile.FieldType.int))).before args0 about1 = true := code_word (m := ⟨1, 5⟩) (meth := k1m5) (c := k1c5) (by decide +kernel) rfl rfl rfl (by decide +kernel)
set_option maxRecDepth 65536 in
theorem w_c6 : (Jvm.Cond.code ({ cls := "com/example/sarutahiko/sarutahiko/heatmap/HeatMap", name := "ofCells", desc := "(II[I)Lcom/example/sarutahiko/sarutahiko/heatmap/HeatMap;" } : Jvm.MethodName) prog_19_method_3_code (3 : Nat) (Option.some (Jvm.ClassFile.FieldType.object "com/example/sarutahiko/sarutahiko/heatmap/HeatMap"))).before args0 about1 = true := code_word (m := ⟨3, 1⟩) (meth := k3m1) (c := k3c1) (by decide +kernel) rfl rfl rfl (by decide +kernel)
set_option maxRecDepth 65536 in
theorem w_c7 : (Jvm.Cond.code ({ cls := "com/example/sarutahiko/sarutahiko/heatmap/HeatMap", name := "<init>", desc := "(II[I)V" } : Jvm.MethodName) prog_19_method_2_code (5 : Nat) (Option.none : Option Jvm.ClassFile.FieldType)).before args0 about1 = true := code_word (m := ⟨3, 0⟩) (meth := k3m0) (c := k3c0) (by decide +kernel) rfl rfl rfl (by decide +kernel)
set_option maxRecDepth 65536 in
theorem w_c8 : (Jvm.Cond.code ({ cls := "java/lang/Object", name := "<init>", desc := "()V" } : Jvm.MethodName) object_method_1_code (1 : Nat) (Option.none : Option Jvm.ClassFile.FieldType)).before args0 about1 = true := code_word (m := ⟨0, 0⟩) (meth := k0m0) (c := k0c0) (by decide +kernel) rfl rfl rfl (by decide +kernel)
set_option maxRecDepth 65536 in
theorem w_c9 : (Jvm.Cond.code ({ cls := "com/example/sarutahiko/sarutahiko/heatmap/HeatMap", name := "getPersons", desc := "()I" } : Jvm.MethodName) prog_19_method_8_code (1 : Nat) (Option.some Jvm.ClassFile.FieldType.int)).before args0 about1 = true := code_word (m := ⟨3, 2⟩) (meth := k3m2) (c := k3c2) (by decide +kernel) rfl rfl rfl (by decide +kernel)
set_option maxRecDepth 65536 in
theorem w_c10 : (Jvm.Cond.code ({ cls := "com/example/sarutahiko/sarutahiko/heatmap/HeatMap", name := "getColumns", desc := "()I" } : Jvm.MethodName) prog_19_method_9_code (1 : Nat) (Option.some Jvm.ClassFile.FieldType.int)).before args0 about1 = true := code_word (m := ⟨3, 3⟩) (meth := k3m3) (c := k3c3) (by decide +kernel) rfl rfl rfl (by decide +kernel)
set_option maxRecDepth 65536 in
theorem w_c11 : (Jvm.Cond.code ({ cls := "com/example/sarutahiko/sarutahiko/heatmap/HeatMap", name := "getRows", desc := "()I" } : Jvm.MethodName) prog_19_method_10_code (1 : Nat) (Option.some Jvm.ClassFile.FieldType.int)).before args0 about1 = true := code_word (m := ⟨3, 4⟩) (meth := k3m4) (c := k3c4) (by decide +kernel) rfl rfl rfl (by decide +kernel)
set_option maxRecDepth 65536 in
theorem w_c12 : (Jvm.Cond.code ({ cls := "com/example/sarutahiko/sarutahiko/heatmap/HeatMap", name := "getCount", desc := "(II)I" } : Jvm.MethodName) prog_19_method_11_code (3 : Nat) (Option.some Jvm.ClassFile.FieldType.int)).before args0 about1 = true := code_word (m := ⟨3, 5⟩) (meth := k3m5) (c := k3c5) (by decide +kernel) rfl rfl rfl (by decide +kernel)
set_option maxRecDepth 65536 in
theorem w_c13 : (Jvm.Cond.code ({ cls := "java/util/Objects", name := "checkIndex", desc := "(II)I" } : Jvm.MethodName) jdk_31_method_17_code (2 : Nat) (Option.some Jvm.ClassFile.FieldType.int)).before args0 about1 = true := code_word (m := ⟨5, 1⟩) (meth := k5m1) (c := k5c1) (by decide +kernel) rfl rfl rfl (by decide +kernel)
set_option maxRecDepth 65536 in
theorem w_c14 : (Jvm.Cond.code ({ cls := "jdk/internal/util/Preconditions", name := "checkIndex", desc := "(IILjava/util/function/BiFunction;)I" } : Jvm.MethodName) jdk_41_method_11_code (3 : Nat) (Option.some Jvm.ClassFile.FieldType.int)).before args0 about1 = true := code_word (m := ⟨6, 1⟩) (meth := k6m1) (c := k6c1) (by decide +kernel) rfl rfl rfl (by decide +kernel)
def codes1 : List Jvm.Cond := [Jvm.Cond.code x code maxLocals ret, Jvm.Cond.code ({ cls := "java/lang/Math", name := "max", desc := "(II)I" } : Jvm.MethodName) jdk_29_method_65_code (2 : Nat) (Option.some Jvm.ClassFile.FieldType.int), Jvm.Cond.code ({ cls := "com/example/sarutahiko/sarutahiko/heatmap/HeatMapOfCellsPinLaw", name := "low", desc := "(J)I" } : Jvm.MethodName) method_3_code (2 : Nat) (Option.some Jvm.ClassFile.FieldType.int), Jvm.Cond.code ({ cls := "com/example/sarutahiko/sarutahiko/heatmap/HeatMapOfCellsPinLaw", name := "high", desc := "(J)I" } : Jvm.MethodName) method_4_code (2 : Nat) (Option.some Jvm.ClassFile.FieldType.int), Jvm.Cond.code ({ cls := "com/example/sarutahiko/sarutahiko/heatmap/HeatMapOfCellsPinLaw", name := "mid", desc := "(J)I" } : Jvm.MethodName) method_5_code (2 : Nat) (Option.some Jvm.ClassFile.FieldType.int), Jvm.Cond.code ({ cls := "com/example/sarutahiko/sarutahiko/heatmap/HeatMapOfCellsPinLaw", name := "prefix", desc := "(I[I)[I" } : Jvm.MethodName) method_6_code (2 : Nat) (Option.some (Jvm.ClassFile.FieldType.array Jvm.ClassFile.FieldType.int)), Jvm.Cond.code ({ cls := "com/example/sarutahiko/sarutahiko/heatmap/HeatMap", name := "ofCells", desc := "(II[I)Lcom/example/sarutahiko/sarutahiko/heatmap/HeatMap;" } : Jvm.MethodName) prog_19_method_3_code (3 : Nat) (Option.some (Jvm.ClassFile.FieldType.object "com/example/sarutahiko/sarutahiko/heatmap/HeatMap")), Jvm.Cond.code ({ cls := "com/example/sarutahiko/sarutahiko/heatmap/HeatMap", name := "<init>", desc := "(II[I)V" } : Jvm.MethodName) prog_19_method_2_code (5 : Nat) (Option.none : Option Jvm.ClassFile.FieldType), Jvm.Cond.code ({ cls := "java/lang/Object", name := "<init>", desc := "()V" } : Jvm.MethodName) object_method_1_code (1 : Nat) (Option.none : Option Jvm.ClassFile.FieldType), Jvm.Cond.code ({ cls := "com/example/sarutahiko/sarutahiko/heatmap/HeatMap", name := "getPersons", desc := "()I" } : Jvm.MethodName) prog_19_method_8_code (1 : Nat) (Option.some Jvm.ClassFile.FieldType.int), Jvm.Cond.code ({ cls := "com/example/sarutahiko/sarutahiko/heatmap/HeatMap", name := "getColumns", desc := "()I" } : Jvm.MethodName) prog_19_method_9_code (1 : Nat) (Option.some Jvm.ClassFile.FieldType.int), Jvm.Cond.code ({ cls := "com/example/sarutahiko/sarutahiko/heatmap/HeatMap", name := "getRows", desc := "()I" } : Jvm.MethodName) prog_19_method_10_code (1 : Nat) (Option.some Jvm.ClassFile.FieldType.int), Jvm.Cond.code ({ cls := "com/example/sarutahiko/sarutahiko/heatmap/HeatMap", name := "getCount", desc := "(II)I" } : Jvm.MethodName) prog_19_method_11_code (3 : Nat) (Option.some Jvm.ClassFile.FieldType.int), Jvm.Cond.code ({ cls := "java/util/Objects", name := "checkIndex", desc := "(II)I" } : Jvm.MethodName) jdk_31_method_17_code (2 : Nat) (Option.some Jvm.ClassFile.FieldType.int), Jvm.Cond.code ({ cls := "jdk/internal/util/Preconditions", name := "checkIndex", desc := "(IILjava/util/function/BiFunction;)I" } : Jvm.MethodName) jdk_41_method_11_code (3 : Nat) (Option.some Jvm.ClassFile.FieldType.int)]
set_option maxRecDepth 65536 in
theorem codes_eq : words1.filter isCode = codes1 := rfl
theorem w_codes : ∀ c ∈ words1.filter isCode, c.before args0 about1 = true := by
  rw [codes_eq]
  intro c hc
  simp only [codes1, List.mem_cons, List.not_mem_nil, or_false] at hc
  rcases hc with rfl | rfl | rfl | rfl | rfl | rfl | rfl | rfl | rfl | rfl | rfl | rfl | rfl | rfl | rfl
  · exact w_c0
  · exact w_c1
  · exact w_c2
  · exact w_c3
  · exact w_c4
  · exact w_c5
  · exact w_c6
  · exact w_c7
  · exact w_c8
  · exact w_c9
  · exact w_c10
  · exact w_c11
  · exact w_c12
  · exact w_c13
  · exact w_c14
set_option maxRecDepth 65536 in
theorem w_t1 : (words1.take 24).all (fun c => isCode c || c.before args0 about1) = true := by decide +kernel
set_option maxRecDepth 65536 in
theorem w_t2 : ((words1.drop 24).take 24).all (fun c => isCode c || c.before args0 about1) = true := by decide +kernel
set_option maxRecDepth 65536 in
theorem w_t3 : (((words1.drop 24).drop 24).take 24).all (fun c => isCode c || c.before args0 about1) = true := by decide +kernel
set_option maxRecDepth 65536 in
theorem w_t4 : (((words1.drop 24).drop 24).drop 24).all (fun c => isCode c || c.before args0 about1) = true := by decide +kernel
theorem w_tables : (allAtoms (Jvm.Cond.code x code maxLocals ret :: tables_1)).before args0 about1 = true := by
  rw [allAtoms_all]
  show words1.all (fun c => c.before args0 about1) = true
  refine all_split ?_ w_codes
  rw [← List.take_append_drop 24 words1, List.all_append, w_t1, ← List.take_append_drop 24 (words1.drop 24), List.all_append, w_t2, ← List.take_append_drop 24 ((words1.drop 24).drop 24), List.all_append, w_t3, w_t4]
  rfl
set_option maxRecDepth 65536 in
theorem w_case : (Jvm.Cond.and given_1 narrow_1).before args0 about1 = true := by decide +kernel
theorem w_applies : (headSpec (Jvm.Cond.code x code maxLocals ret :: tables_1) room_1).applies x e0.platform about1 = true :=
  (Spec.applies_iff w_frames).mpr ⟨w_running, w_runnable, w_alone, w_named, w_hears, w_ripe, w_room, w_tables⟩
theorem atStart : AtStart classFile x code maxLocals ret World_1 tables_1 room_1 Calls_1 rest_1 Pre_1 launch0 p0 e0 about1 theMethod args0 below0 :=
  ⟨lists_1, trivial, launch0.admits_env _ _ _, launch0.least_env, fairChoices_fair.cas, fairChoices_fair.clock, w_frames, w_args, w_heap, w_applies, trivial, trivial, w_case⟩
end start1
theorem witness_1 : WitnessClaimed_1 := ⟨start1.p0, start1.e0, start1.about1, start1.theMethod, start1.args0, start1.below0, start1.atStart⟩
end Jvm.Pilot.@@N@@
