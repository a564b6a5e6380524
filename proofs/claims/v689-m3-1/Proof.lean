import JvmDerived
import JvmDerived.Pilot.@@N@@Statement
import JvmDerived.Pilot.@@N@@Code
set_option linter.unusedVariables false
set_option linter.unusedSimpArgs false
@@BLOCK:NumsL.lean.txt@@
namespace Jvm.Pilot.@@N@@
open Jvm Jvm.ClassFile Sem Op Lib Jvm.Free Jvm.Stand Jvm.LawKit Jvm.RoadKit Bundle Jvm.Pilot.@@N@@.Jvm.D
/-- what a body still owes at the state U: that it comes to a return with Q, within kc cells and ks slots -/
def Ow (p : Program) (e : Env) (below : List Frame) (s : State) (Q : Option Value → Heap → List Loc → Prop) (kc ks : Nat) (U : State) : Prop :=
  ∃ s₂ o, Steps p.tables e below U s₂ ∧ s₂.status = .running ∧ Ended s₂ below o ∧ ∃ v L, o = .returned v ∧ Q v s₂.heap L ∧ FrameEnd s o s₂ L kc ks
def lsr64 (x : Int64) (y : Int32) : Int64 := ((x.toUInt64 >>> (y &&& 0x3f).toInt64.toUInt64).toInt64)
def lsr32 (x y : Int32) : Int32 := ((x.toUInt32 >>> (y &&& 31).toUInt32).toInt32)
section W
variable {p : Program} {l : Launch} {e : Env} {R : Room} {s : State} {m : MethodId} {args : Array Value} {below : List Frame} {meth : Method} {c : Code} {T : State} {locs : List Loc} {cells slots : Nat} {Q : Option Value → Heap → List Loc → Prop} {kc ks : Nat} {pc pc' : Nat} {Ls Ls' : Array Slot} {st : List Value} {Z : State} {a0 : Array Value} {h : Heap}
theorem Ow.go {U U' : State} (k : Steps p.tables e below U U') (o : Ow p e below s Q kc ks U') : Ow p e below s Q kc ks U := by
  obtain ⟨s₂, o', h1, h2⟩ := o
  exact ⟨s₂, o', k.trans h1, h2⟩
theorem Ow.via {U U' : State} (k : ∀ t, Steps p.tables e below U' t → Steps p.tables e below U t) (o : Ow p e below s Q kc ks U') : Ow p e below s Q kc ks U := Ow.go (k _ (Steps.refl _)) o
theorem Ow.enter {n : Nat} (q : entryFrame m args n = mkF m 0 Ls []) (k : Ow p e below s Q kc ks (T.setTop (mkF m 0 Ls []))) :
    ∃ s₂ o, Steps p.tables e below (T.setTop (entryFrame m args n)) s₂ ∧ s₂.status = .running ∧ Ended s₂ below o ∧ ∃ v L, o = .returned v ∧ Q v s₂.heap L ∧ FrameEnd s o s₂ L kc ks := by
  rw [q]; exact k
theorem Ow.join {U : State} (T' : State) (g' : JFrame) (f : Ow p e below s Q kc ks (T'.setTop g') → Ow p e below s Q kc ks U) (k : Ow p e below s Q kc ks (T'.setTop g')) : Ow p e below s Q kc ks U := f k
theorem w_iloadN (X : Stand p l e R s m args below meth c T locs cells slots) (hx : p.tables.exec = Jvm.exec) {k : Fin 4} {v : Int32} (hd : decode c.code pc = .ok (.iload_n k, 1)) (hl : Ls[k.val]? = some (.val (.int v))) (hp : pc + 1 = pc') (k : Ow p e below s Q kc ks (T.setTop (mkF m pc' Ls (.int v :: st)))) : Ow p e below s Q kc ks (T.setTop (mkF m pc Ls st)) := by
  subst hp; exact Ow.go (XS.iloadN X.here hx rfl hd hl (Steps.refl _)) k
theorem w_iload (X : Stand p l e R s m args below meth c T locs cells slots) (hx : p.tables.exec = Jvm.exec) {k : Nat} {v : Int32} (hd : decode c.code pc = .ok (.iload k, 2)) (hl : Ls[k]? = some (.val (.int v))) (hp : pc + 2 = pc') (k : Ow p e below s Q kc ks (T.setTop (mkF m pc' Ls (.int v :: st)))) : Ow p e below s Q kc ks (T.setTop (mkF m pc Ls st)) := by
  subst hp; exact Ow.go (XS.iload X.here hx rfl hd hl (Steps.refl _)) k
theorem w_istoreN (X : Stand p l e R s m args below meth c T locs cells slots) (hx : p.tables.exec = Jvm.exec) {k : Fin 4} {v : Int32} (hd : decode c.code pc = .ok (.istore_n k, 1)) (Ls' : Array Slot) (hl : storeLocals Ls k.val (.int v) = some Ls') (hp : pc + 1 = pc') (k : Ow p e below s Q kc ks (T.setTop (mkF m pc' Ls' st))) : Ow p e below s Q kc ks (T.setTop (mkF m pc Ls (.int v :: st))) := by
  subst hp; exact Ow.go (XS.istoreN X.here hx rfl hd rfl hl (Steps.refl _)) k
theorem w_istore (X : Stand p l e R s m args below meth c T locs cells slots) (hx : p.tables.exec = Jvm.exec) {k : Nat} {v : Int32} (hd : decode c.code pc = .ok (.istore k, 2)) (Ls' : Array Slot) (hl : storeLocals Ls k (.int v) = some Ls') (hp : pc + 2 = pc') (k : Ow p e below s Q kc ks (T.setTop (mkF m pc' Ls' st))) : Ow p e below s Q kc ks (T.setTop (mkF m pc Ls (.int v :: st))) := by
  subst hp; exact Ow.go (XS.istore X.here hx rfl hd rfl hl (Steps.refl _)) k
theorem w_lloadN (X : Stand p l e R s m args below meth c T locs cells slots) (hx : p.tables.exec = Jvm.exec) {k : Fin 4} {v : Int64} (hd : decode c.code pc = .ok (.lload_n k, 1)) (hl : Ls[k.val]? = some (.val (.long v))) (hp : pc + 1 = pc') (k : Ow p e below s Q kc ks (T.setTop (mkF m pc' Ls (.long v :: st)))) : Ow p e below s Q kc ks (T.setTop (mkF m pc Ls st)) := by
  subst hp; exact Ow.go (XS.lloadN X.here hx rfl hd hl (Steps.refl _)) k
theorem w_lload (X : Stand p l e R s m args below meth c T locs cells slots) (hx : p.tables.exec = Jvm.exec) {k : Nat} {v : Int64} (hd : decode c.code pc = .ok (.lload k, 2)) (hl : Ls[k]? = some (.val (.long v))) (hp : pc + 2 = pc') (k : Ow p e below s Q kc ks (T.setTop (mkF m pc' Ls (.long v :: st)))) : Ow p e below s Q kc ks (T.setTop (mkF m pc Ls st)) := by
  subst hp; exact Ow.go (XS.lload X.here hx rfl hd hl (Steps.refl _)) k
theorem w_lstore (X : Stand p l e R s m args below meth c T locs cells slots) (hx : p.tables.exec = Jvm.exec) {k : Nat} {v : Int64} (hd : decode c.code pc = .ok (.lstore k, 2)) (Ls' : Array Slot) (hl : storeLocals Ls k (.long v) = some Ls') (hp : pc + 2 = pc') (k : Ow p e below s Q kc ks (T.setTop (mkF m pc' Ls' st))) : Ow p e below s Q kc ks (T.setTop (mkF m pc Ls (.long v :: st))) := by
  subst hp; exact Ow.go (XS.lstore X.here hx rfl hd rfl hl (Steps.refl _)) k
theorem w_aloadN (X : Stand p l e R s m args below meth c T locs cells slots) (hx : p.tables.exec = Jvm.exec) {k : Fin 4} {v : Value} (hd : decode c.code pc = .ok (.aload_n k, 1)) (hl : Ls[k.val]? = some (.val v)) (hv : v.isRef = true) (hp : pc + 1 = pc') (k : Ow p e below s Q kc ks (T.setTop (mkF m pc' Ls (v :: st)))) : Ow p e below s Q kc ks (T.setTop (mkF m pc Ls st)) := by
  subst hp; exact Ow.go (XS.aloadN X.here hx rfl hd hl hv (Steps.refl _)) k
theorem w_aload (X : Stand p l e R s m args below meth c T locs cells slots) (hx : p.tables.exec = Jvm.exec) {k : Nat} {v : Value} (hd : decode c.code pc = .ok (.aload k, 2)) (hl : Ls[k]? = some (.val v)) (hv : v.isRef = true) (hp : pc + 2 = pc') (k : Ow p e below s Q kc ks (T.setTop (mkF m pc' Ls (v :: st)))) : Ow p e below s Q kc ks (T.setTop (mkF m pc Ls st)) := by
  subst hp; exact Ow.go (XS.aload X.here hx rfl hd hl hv (Steps.refl _)) k
theorem w_astore (X : Stand p l e R s m args below meth c T locs cells slots) (hx : p.tables.exec = Jvm.exec) {k : Nat} {v : Value} (hd : decode c.code pc = .ok (.astore k, 2)) (Ls' : Array Slot) (hl : storeLocals Ls k v = some Ls') (hv : v.isRef = true) (hp : pc + 2 = pc') (k : Ow p e below s Q kc ks (T.setTop (mkF m pc' Ls' st))) : Ow p e below s Q kc ks (T.setTop (mkF m pc Ls (v :: st))) := by
  subst hp; exact Ow.go (XS.astore X.here hx rfl hd rfl hv hl (Steps.refl _)) k
theorem w_iconst (X : Stand p l e R s m args below meth c T locs cells slots) (hx : p.tables.exec = Jvm.exec) {i : Int} (v : Int32) (hd : decode c.code pc = .ok (.iconst i, 1)) (hv : Int32.ofInt i = v) (hp : pc + 1 = pc') (k : Ow p e below s Q kc ks (T.setTop (mkF m pc' Ls (.int v :: st)))) : Ow p e below s Q kc ks (T.setTop (mkF m pc Ls st)) := by
  subst hp hv; exact Ow.go (XS.iconst X.here hx rfl hd (Steps.refl _)) k
theorem w_bipush (X : Stand p l e R s m args below meth c T locs cells slots) (hx : p.tables.exec = Jvm.exec) {i : Int} (v : Int32) (hd : decode c.code pc = .ok (.bipush i, 2)) (hv : (Int8.ofInt i).toInt32 = v) (hp : pc + 2 = pc') (k : Ow p e below s Q kc ks (T.setTop (mkF m pc' Ls (.int v :: st)))) : Ow p e below s Q kc ks (T.setTop (mkF m pc Ls st)) := by
  subst hp hv; exact Ow.go (XS.bipush X.here hx rfl hd (Steps.refl _)) k
theorem w_lconst (X : Stand p l e R s m args below meth c T locs cells slots) (hx : p.tables.exec = Jvm.exec) {i : Fin 2} (v : Int64) (hd : decode c.code pc = .ok (.lconst i, 1)) (hv : Int64.ofNat i = v) (hp : pc + 1 = pc') (k : Ow p e below s Q kc ks (T.setTop (mkF m pc' Ls (.long v :: st)))) : Ow p e below s Q kc ks (T.setTop (mkF m pc Ls st)) := by
  subst hp hv; exact Ow.go (XS.lconst X.here hx rfl hd (Steps.refl _)) k
theorem w_ldc2J (X : Stand p l e R s m args below meth c T locs cells slots) (hx : p.tables.exec = Jvm.exec) (hZ : Z.Warmed39 s.vm) {own : String} {index : Nat} {v : Int64} (hown : s.vm.findClass own = some m.cls) (w : (Cond.constantLong own index v).before a0 Z = true) (hd : decode c.code pc = .ok (.ldc2_w index, 3)) (hp : pc + 3 = pc') (k : Ow p e below s Q kc ks (T.setTop (mkF m pc' Ls (.long v :: st)))) : Ow p e below s Q kc ks (T.setTop (mkF m pc Ls st)) := by
  subst hp; exact Ow.via (X.ldc2Long hx hown (mvT hZ w) (g := mkF m pc Ls st) rfl hd) k
theorem w_iadd (X : Stand p l e R s m args below meth c T locs cells slots) (hx : p.tables.exec = Jvm.exec) {x y : Int32} (hd : decode c.code pc = .ok (.iadd, 1))  (hp : pc + 1 = pc') (k : Ow p e below s Q kc ks (T.setTop (mkF m pc' Ls (.int (x + y) :: st)))) : Ow p e below s Q kc ks (T.setTop (mkF m pc Ls (.int y :: .int x :: st))) := by
  subst hp; exact Ow.go (XS.iadd X.here hx rfl hd rfl (Steps.refl _)) k
theorem w_ladd (X : Stand p l e R s m args below meth c T locs cells slots) (hx : p.tables.exec = Jvm.exec) {x y : Int64} (hd : decode c.code pc = .ok (.ladd, 1))  (hp : pc + 1 = pc') (k : Ow p e below s Q kc ks (T.setTop (mkF m pc' Ls (.long (x + y) :: st)))) : Ow p e below s Q kc ks (T.setTop (mkF m pc Ls (.long y :: .long x :: st))) := by
  subst hp; exact Ow.go (XS.ladd X.here hx rfl hd rfl (Steps.refl _)) k
theorem w_lsub (X : Stand p l e R s m args below meth c T locs cells slots) (hx : p.tables.exec = Jvm.exec) {x y : Int64} (hd : decode c.code pc = .ok (.lsub, 1))  (hp : pc + 1 = pc') (k : Ow p e below s Q kc ks (T.setTop (mkF m pc' Ls (.long (x - y) :: st)))) : Ow p e below s Q kc ks (T.setTop (mkF m pc Ls (.long y :: .long x :: st))) := by
  subst hp; exact Ow.go (XS.lsub X.here hx rfl hd rfl (Steps.refl _)) k
theorem w_lmul (X : Stand p l e R s m args below meth c T locs cells slots) (hx : p.tables.exec = Jvm.exec) {x y : Int64} (hd : decode c.code pc = .ok (.lmul, 1))  (hp : pc + 1 = pc') (k : Ow p e below s Q kc ks (T.setTop (mkF m pc' Ls (.long (x * y) :: st)))) : Ow p e below s Q kc ks (T.setTop (mkF m pc Ls (.long y :: .long x :: st))) := by
  subst hp; exact Ow.go (XS.lmul X.here hx rfl hd rfl (Steps.refl _)) k
theorem w_land (X : Stand p l e R s m args below meth c T locs cells slots) (hx : p.tables.exec = Jvm.exec) {x y : Int64} (hd : decode c.code pc = .ok (.land, 1))  (hp : pc + 1 = pc') (k : Ow p e below s Q kc ks (T.setTop (mkF m pc' Ls (.long (x &&& y) :: st)))) : Ow p e below s Q kc ks (T.setTop (mkF m pc Ls (.long y :: .long x :: st))) := by
  subst hp; exact Ow.go (XS.land X.here hx rfl hd rfl (Steps.refl _)) k
theorem w_lxor (X : Stand p l e R s m args below meth c T locs cells slots) (hx : p.tables.exec = Jvm.exec) {x y : Int64} (hd : decode c.code pc = .ok (.lxor, 1))  (hp : pc + 1 = pc') (k : Ow p e below s Q kc ks (T.setTop (mkF m pc' Ls (.long (x ^^^ y) :: st)))) : Ow p e below s Q kc ks (T.setTop (mkF m pc Ls (.long y :: .long x :: st))) := by
  subst hp; exact Ow.go (XS.lxor X.here hx rfl hd rfl (Steps.refl _)) k
theorem w_lshr (X : Stand p l e R s m args below meth c T locs cells slots) (hx : p.tables.exec = Jvm.exec) {x : Int64} {y : Int32} (hd : decode c.code pc = .ok (.lshr, 1))  (hp : pc + 1 = pc') (k : Ow p e below s Q kc ks (T.setTop (mkF m pc' Ls (.long (x >>> (y &&& 0x3f).toInt64) :: st)))) : Ow p e below s Q kc ks (T.setTop (mkF m pc Ls (.int y :: .long x :: st))) := by
  subst hp; exact Ow.go (XS.lshr X.here hx rfl hd rfl (Steps.refl _)) k
theorem w_lushr (X : Stand p l e R s m args below meth c T locs cells slots) (hx : p.tables.exec = Jvm.exec) {x : Int64} {y : Int32} (hd : decode c.code pc = .ok (.lushr, 1))  (hp : pc + 1 = pc') (k : Ow p e below s Q kc ks (T.setTop (mkF m pc' Ls (.long (lsr64 x y) :: st)))) : Ow p e below s Q kc ks (T.setTop (mkF m pc Ls (.int y :: .long x :: st))) := by
  subst hp; exact Ow.go (XS.lushr X.here hx rfl hd rfl (Steps.refl _)) k
theorem w_ldiv (X : Stand p l e R s m args below meth c T locs cells slots) (hx : p.tables.exec = Jvm.exec) {x y : Int64} (hd : decode c.code pc = .ok (.ldiv, 1)) (hy : ¬ y = 0) (hp : pc + 1 = pc') (k : Ow p e below s Q kc ks (T.setTop (mkF m pc' Ls (.long (x / y) :: st)))) : Ow p e below s Q kc ks (T.setTop (mkF m pc Ls (.long y :: .long x :: st))) := by
  subst hp; exact Ow.go (XS.ldiv X.here hx rfl hd rfl hy (Steps.refl _)) k
theorem w_lrem (X : Stand p l e R s m args below meth c T locs cells slots) (hx : p.tables.exec = Jvm.exec) {x y : Int64} (hd : decode c.code pc = .ok (.lrem, 1)) (hy : ¬ y = 0) (hp : pc + 1 = pc') (k : Ow p e below s Q kc ks (T.setTop (mkF m pc' Ls (.long (x - (x / y) * y) :: st)))) : Ow p e below s Q kc ks (T.setTop (mkF m pc Ls (.long y :: .long x :: st))) := by
  subst hp; exact Ow.go (XS.lrem X.here hx rfl hd rfl hy (Steps.refl _)) k
theorem w_lneg (X : Stand p l e R s m args below meth c T locs cells slots) (hx : p.tables.exec = Jvm.exec) {x : Int64} (hd : decode c.code pc = .ok (.lneg, 1))  (hp : pc + 1 = pc') (k : Ow p e below s Q kc ks (T.setTop (mkF m pc' Ls (.long (-x) :: st)))) : Ow p e below s Q kc ks (T.setTop (mkF m pc Ls (.long x :: st))) := by
  subst hp; exact Ow.go (XS.lneg X.here hx rfl hd rfl (Steps.refl _)) k
theorem w_i2l (X : Stand p l e R s m args below meth c T locs cells slots) (hx : p.tables.exec = Jvm.exec) {x : Int32} (hd : decode c.code pc = .ok (.i2l, 1))  (hp : pc + 1 = pc') (k : Ow p e below s Q kc ks (T.setTop (mkF m pc' Ls (.long (x.toInt64) :: st)))) : Ow p e below s Q kc ks (T.setTop (mkF m pc Ls (.int x :: st))) := by
  subst hp; exact Ow.go (XS.i2l X.here hx rfl hd rfl (Steps.refl _)) k
theorem w_l2i (X : Stand p l e R s m args below meth c T locs cells slots) (hx : p.tables.exec = Jvm.exec) {x : Int64} (hd : decode c.code pc = .ok (.l2i, 1))  (hp : pc + 1 = pc') (k : Ow p e below s Q kc ks (T.setTop (mkF m pc' Ls (.int (x.toInt32) :: st)))) : Ow p e below s Q kc ks (T.setTop (mkF m pc Ls (.long x :: st))) := by
  subst hp; exact Ow.go (XS.l2i X.here hx rfl hd rfl (Steps.refl _)) k
theorem w_dup (X : Stand p l e R s m args below meth c T locs cells slots) (hx : p.tables.exec = Jvm.exec) {x : Value} (hd : decode c.code pc = .ok (.dup, 1)) (hc : x.category = 1) (hp : pc + 1 = pc') (k : Ow p e below s Q kc ks (T.setTop (mkF m pc' Ls (x :: x :: st)))) : Ow p e below s Q kc ks (T.setTop (mkF m pc Ls (x :: st))) := by
  subst hp; exact Ow.go (XS.dup X.here hx rfl hd rfl hc (Steps.refl _)) k
theorem w_goto (X : Stand p l e R s m args below meth c T locs cells slots) (hx : p.tables.exec = Jvm.exec) {o : Int} (hd : decode c.code pc = .ok (.goto o, 3)) (ho : 0 ≤ (pc : Int) + o) (hp : ((pc : Int) + o).toNat = pc') (k : Ow p e below s Q kc ks (T.setTop (mkF m pc' Ls st))) : Ow p e below s Q kc ks (T.setTop (mkF m pc Ls st)) := by
  exact Ow.go (XS.goto X.here hx rfl (pc0 := pc) rfl hd ho hp (Steps.refl _)) k
theorem w_if_eq (X : Stand p l e R s m args below meth c T locs cells slots) (hx : p.tables.exec = Jvm.exec) {x : Int32} {o : Int} {pcT pcF : Nat} (hd : decode c.code pc = .ok (.ifCond .eq o, 3)) (ho : 0 ≤ (pc : Int) + o) (ht : ((pc : Int) + o).toNat = pcT) (hp : pc + 3 = pcF) (k1 : x = (0 : Int32) → Ow p e below s Q kc ks (T.setTop (mkF m pcT Ls st))) (k2 : ¬ (x = (0 : Int32)) → Ow p e below s Q kc ks (T.setTop (mkF m pcF Ls st))) : Ow p e below s Q kc ks (T.setTop (mkF m pc Ls (.int x :: st))) := by
  subst hp
  by_cases q : x = (0 : Int32)
  · exact Ow.go (XS.ifYes X.here hx rfl (pc0 := pc) rfl hd rfl ((if0 _ _).trans (teq q).1) ho ht (Steps.refl _)) (k1 q)
  · exact Ow.go (XS.ifNo X.here hx rfl hd rfl ((if0 _ _).trans (feq q).1) (Steps.refl _)) (k2 q)
theorem w_lcmp_eq (X : Stand p l e R s m args below meth c T locs cells slots) (hx : p.tables.exec = Jvm.exec) {x y : Int64} {o : Int} {pc1 pcT pcF : Nat} (hd : decode c.code pc = .ok (.lcmp, 1)) (hd1 : decode c.code pc1 = .ok (.ifCond .eq o, 3)) (hp1 : pc + 1 = pc1) (ho : 0 ≤ (pc1 : Int) + o) (ht : ((pc1 : Int) + o).toNat = pcT) (hp : pc1 + 3 = pcF) (k1 : x = y → Ow p e below s Q kc ks (T.setTop (mkF m pcT Ls st))) (k2 : ¬ (x = y) → Ow p e below s Q kc ks (T.setTop (mkF m pcF Ls st))) : Ow p e below s Q kc ks (T.setTop (mkF m pc Ls (.long y :: .long x :: st))) := by
  subst hp1
  refine Ow.go (XS.lcmp X.here hx rfl hd rfl (Steps.refl _)) ?_
  exact w_if_eq X hx (x := lcmpW x y) hd1 ho ht hp (fun q => k1 ((lw_eq x y).mp q)) (fun q => k2 (fun r => q ((lw_eq x y).mpr r)))
theorem w_icmp_ne (X : Stand p l e R s m args below meth c T locs cells slots) (hx : p.tables.exec = Jvm.exec) {x y : Int32} {o : Int} {pcT pcF : Nat} (hd : decode c.code pc = .ok (.if_icmp .ne o, 3)) (ho : 0 ≤ (pc : Int) + o) (ht : ((pc : Int) + o).toNat = pcT) (hp : pc + 3 = pcF) (k1 : ¬ (x = y) → Ow p e below s Q kc ks (T.setTop (mkF m pcT Ls st))) (k2 : x = y → Ow p e below s Q kc ks (T.setTop (mkF m pcF Ls st))) : Ow p e below s Q kc ks (T.setTop (mkF m pc Ls (.int y :: .int x :: st))) := by
  subst hp
  by_cases q : x = y
  · exact Ow.go (XS.icmpNo X.here hx rfl hd rfl (teq q).2 (Steps.refl _)) (k2 q)
  · exact Ow.go (XS.icmpYes X.here hx rfl (pc0 := pc) rfl hd rfl (feq q).2 ho ht (Steps.refl _)) (k1 q)
theorem w_if_ne (X : Stand p l e R s m args below meth c T locs cells slots) (hx : p.tables.exec = Jvm.exec) {x : Int32} {o : Int} {pcT pcF : Nat} (hd : decode c.code pc = .ok (.ifCond .ne o, 3)) (ho : 0 ≤ (pc : Int) + o) (ht : ((pc : Int) + o).toNat = pcT) (hp : pc + 3 = pcF) (k1 : ¬ (x = (0 : Int32)) → Ow p e below s Q kc ks (T.setTop (mkF m pcT Ls st))) (k2 : x = (0 : Int32) → Ow p e below s Q kc ks (T.setTop (mkF m pcF Ls st))) : Ow p e below s Q kc ks (T.setTop (mkF m pc Ls (.int x :: st))) := by
  subst hp
  by_cases q : x = (0 : Int32)
  · exact Ow.go (XS.ifNo X.here hx rfl hd rfl ((if0 _ _).trans (teq q).2) (Steps.refl _)) (k2 q)
  · exact Ow.go (XS.ifYes X.here hx rfl (pc0 := pc) rfl hd rfl ((if0 _ _).trans (feq q).2) ho ht (Steps.refl _)) (k1 q)
theorem w_lcmp_ne (X : Stand p l e R s m args below meth c T locs cells slots) (hx : p.tables.exec = Jvm.exec) {x y : Int64} {o : Int} {pc1 pcT pcF : Nat} (hd : decode c.code pc = .ok (.lcmp, 1)) (hd1 : decode c.code pc1 = .ok (.ifCond .ne o, 3)) (hp1 : pc + 1 = pc1) (ho : 0 ≤ (pc1 : Int) + o) (ht : ((pc1 : Int) + o).toNat = pcT) (hp : pc1 + 3 = pcF) (k1 : ¬ (x = y) → Ow p e below s Q kc ks (T.setTop (mkF m pcT Ls st))) (k2 : x = y → Ow p e below s Q kc ks (T.setTop (mkF m pcF Ls st))) : Ow p e below s Q kc ks (T.setTop (mkF m pc Ls (.long y :: .long x :: st))) := by
  subst hp1
  refine Ow.go (XS.lcmp X.here hx rfl hd rfl (Steps.refl _)) ?_
  exact w_if_ne X hx (x := lcmpW x y) hd1 ho ht hp (fun q => k1 (fun r => q ((lw_eq x y).mpr r))) (fun q => k2 ((lw_eq x y).mp q))
theorem w_icmp_lt (X : Stand p l e R s m args below meth c T locs cells slots) (hx : p.tables.exec = Jvm.exec) {x y : Int32} {o : Int} {pcT pcF : Nat} (hd : decode c.code pc = .ok (.if_icmp .lt o, 3)) (ho : 0 ≤ (pc : Int) + o) (ht : ((pc : Int) + o).toNat = pcT) (hp : pc + 3 = pcF) (k1 : x < y → Ow p e below s Q kc ks (T.setTop (mkF m pcT Ls st))) (k2 : ¬ (x < y) → Ow p e below s Q kc ks (T.setTop (mkF m pcF Ls st))) : Ow p e below s Q kc ks (T.setTop (mkF m pc Ls (.int y :: .int x :: st))) := by
  subst hp
  by_cases q : x < y
  · exact Ow.go (XS.icmpYes X.here hx rfl (pc0 := pc) rfl hd rfl (tlt q).1 ho ht (Steps.refl _)) (k1 q)
  · exact Ow.go (XS.icmpNo X.here hx rfl hd rfl (flt q).1 (Steps.refl _)) (k2 q)
theorem w_if_lt (X : Stand p l e R s m args below meth c T locs cells slots) (hx : p.tables.exec = Jvm.exec) {x : Int32} {o : Int} {pcT pcF : Nat} (hd : decode c.code pc = .ok (.ifCond .lt o, 3)) (ho : 0 ≤ (pc : Int) + o) (ht : ((pc : Int) + o).toNat = pcT) (hp : pc + 3 = pcF) (k1 : x < (0 : Int32) → Ow p e below s Q kc ks (T.setTop (mkF m pcT Ls st))) (k2 : ¬ (x < (0 : Int32)) → Ow p e below s Q kc ks (T.setTop (mkF m pcF Ls st))) : Ow p e below s Q kc ks (T.setTop (mkF m pc Ls (.int x :: st))) := by
  subst hp
  by_cases q : x < (0 : Int32)
  · exact Ow.go (XS.ifYes X.here hx rfl (pc0 := pc) rfl hd rfl ((if0 _ _).trans (tlt q).1) ho ht (Steps.refl _)) (k1 q)
  · exact Ow.go (XS.ifNo X.here hx rfl hd rfl ((if0 _ _).trans (flt q).1) (Steps.refl _)) (k2 q)
theorem w_lcmp_lt (X : Stand p l e R s m args below meth c T locs cells slots) (hx : p.tables.exec = Jvm.exec) {x y : Int64} {o : Int} {pc1 pcT pcF : Nat} (hd : decode c.code pc = .ok (.lcmp, 1)) (hd1 : decode c.code pc1 = .ok (.ifCond .lt o, 3)) (hp1 : pc + 1 = pc1) (ho : 0 ≤ (pc1 : Int) + o) (ht : ((pc1 : Int) + o).toNat = pcT) (hp : pc1 + 3 = pcF) (k1 : x < y → Ow p e below s Q kc ks (T.setTop (mkF m pcT Ls st))) (k2 : ¬ (x < y) → Ow p e below s Q kc ks (T.setTop (mkF m pcF Ls st))) : Ow p e below s Q kc ks (T.setTop (mkF m pc Ls (.long y :: .long x :: st))) := by
  subst hp1
  refine Ow.go (XS.lcmp X.here hx rfl hd rfl (Steps.refl _)) ?_
  exact w_if_lt X hx (x := lcmpW x y) hd1 ho ht hp (fun q => k1 ((lw_lt x y).mp q)) (fun q => k2 (fun r => q ((lw_lt x y).mpr r)))
theorem w_if_ge (X : Stand p l e R s m args below meth c T locs cells slots) (hx : p.tables.exec = Jvm.exec) {x : Int32} {o : Int} {pcT pcF : Nat} (hd : decode c.code pc = .ok (.ifCond .ge o, 3)) (ho : 0 ≤ (pc : Int) + o) (ht : ((pc : Int) + o).toNat = pcT) (hp : pc + 3 = pcF) (k1 : ¬ (x < (0 : Int32)) → Ow p e below s Q kc ks (T.setTop (mkF m pcT Ls st))) (k2 : x < (0 : Int32) → Ow p e below s Q kc ks (T.setTop (mkF m pcF Ls st))) : Ow p e below s Q kc ks (T.setTop (mkF m pc Ls (.int x :: st))) := by
  subst hp
  by_cases q : x < (0 : Int32)
  · exact Ow.go (XS.ifNo X.here hx rfl hd rfl ((if0 _ _).trans (tlt q).2.1) (Steps.refl _)) (k2 q)
  · exact Ow.go (XS.ifYes X.here hx rfl (pc0 := pc) rfl hd rfl ((if0 _ _).trans (flt q).2.1) ho ht (Steps.refl _)) (k1 q)
theorem w_lcmp_ge (X : Stand p l e R s m args below meth c T locs cells slots) (hx : p.tables.exec = Jvm.exec) {x y : Int64} {o : Int} {pc1 pcT pcF : Nat} (hd : decode c.code pc = .ok (.lcmp, 1)) (hd1 : decode c.code pc1 = .ok (.ifCond .ge o, 3)) (hp1 : pc + 1 = pc1) (ho : 0 ≤ (pc1 : Int) + o) (ht : ((pc1 : Int) + o).toNat = pcT) (hp : pc1 + 3 = pcF) (k1 : ¬ (x < y) → Ow p e below s Q kc ks (T.setTop (mkF m pcT Ls st))) (k2 : x < y → Ow p e below s Q kc ks (T.setTop (mkF m pcF Ls st))) : Ow p e below s Q kc ks (T.setTop (mkF m pc Ls (.long y :: .long x :: st))) := by
  subst hp1
  refine Ow.go (XS.lcmp X.here hx rfl hd rfl (Steps.refl _)) ?_
  exact w_if_ge X hx (x := lcmpW x y) hd1 ho ht hp (fun q => k1 (fun r => q ((lw_lt x y).mpr r))) (fun q => k2 ((lw_lt x y).mp q))
theorem w_if_gt (X : Stand p l e R s m args below meth c T locs cells slots) (hx : p.tables.exec = Jvm.exec) {x : Int32} {o : Int} {pcT pcF : Nat} (hd : decode c.code pc = .ok (.ifCond .gt o, 3)) (ho : 0 ≤ (pc : Int) + o) (ht : ((pc : Int) + o).toNat = pcT) (hp : pc + 3 = pcF) (k1 : (0 : Int32) < x → Ow p e below s Q kc ks (T.setTop (mkF m pcT Ls st))) (k2 : ¬ ((0 : Int32) < x) → Ow p e below s Q kc ks (T.setTop (mkF m pcF Ls st))) : Ow p e below s Q kc ks (T.setTop (mkF m pc Ls (.int x :: st))) := by
  subst hp
  by_cases q : (0 : Int32) < x
  · exact Ow.go (XS.ifYes X.here hx rfl (pc0 := pc) rfl hd rfl ((if0 _ _).trans (tlt q).2.2.1) ho ht (Steps.refl _)) (k1 q)
  · exact Ow.go (XS.ifNo X.here hx rfl hd rfl ((if0 _ _).trans (flt q).2.2.1) (Steps.refl _)) (k2 q)
theorem w_lcmp_gt (X : Stand p l e R s m args below meth c T locs cells slots) (hx : p.tables.exec = Jvm.exec) {x y : Int64} {o : Int} {pc1 pcT pcF : Nat} (hd : decode c.code pc = .ok (.lcmp, 1)) (hd1 : decode c.code pc1 = .ok (.ifCond .gt o, 3)) (hp1 : pc + 1 = pc1) (ho : 0 ≤ (pc1 : Int) + o) (ht : ((pc1 : Int) + o).toNat = pcT) (hp : pc1 + 3 = pcF) (k1 : y < x → Ow p e below s Q kc ks (T.setTop (mkF m pcT Ls st))) (k2 : ¬ (y < x) → Ow p e below s Q kc ks (T.setTop (mkF m pcF Ls st))) : Ow p e below s Q kc ks (T.setTop (mkF m pc Ls (.long y :: .long x :: st))) := by
  subst hp1
  refine Ow.go (XS.lcmp X.here hx rfl hd rfl (Steps.refl _)) ?_
  exact w_if_gt X hx (x := lcmpW x y) hd1 ho ht hp (fun q => k1 ((lw_gt x y).mp q)) (fun q => k2 (fun r => q ((lw_gt x y).mpr r)))
theorem w_if_le (X : Stand p l e R s m args below meth c T locs cells slots) (hx : p.tables.exec = Jvm.exec) {x : Int32} {o : Int} {pcT pcF : Nat} (hd : decode c.code pc = .ok (.ifCond .le o, 3)) (ho : 0 ≤ (pc : Int) + o) (ht : ((pc : Int) + o).toNat = pcT) (hp : pc + 3 = pcF) (k1 : ¬ ((0 : Int32) < x) → Ow p e below s Q kc ks (T.setTop (mkF m pcT Ls st))) (k2 : (0 : Int32) < x → Ow p e below s Q kc ks (T.setTop (mkF m pcF Ls st))) : Ow p e below s Q kc ks (T.setTop (mkF m pc Ls (.int x :: st))) := by
  subst hp
  by_cases q : (0 : Int32) < x
  · exact Ow.go (XS.ifNo X.here hx rfl hd rfl ((if0 _ _).trans (tlt q).2.2.2) (Steps.refl _)) (k2 q)
  · exact Ow.go (XS.ifYes X.here hx rfl (pc0 := pc) rfl hd rfl ((if0 _ _).trans (flt q).2.2.2) ho ht (Steps.refl _)) (k1 q)
theorem w_lcmp_le (X : Stand p l e R s m args below meth c T locs cells slots) (hx : p.tables.exec = Jvm.exec) {x y : Int64} {o : Int} {pc1 pcT pcF : Nat} (hd : decode c.code pc = .ok (.lcmp, 1)) (hd1 : decode c.code pc1 = .ok (.ifCond .le o, 3)) (hp1 : pc + 1 = pc1) (ho : 0 ≤ (pc1 : Int) + o) (ht : ((pc1 : Int) + o).toNat = pcT) (hp : pc1 + 3 = pcF) (k1 : ¬ (y < x) → Ow p e below s Q kc ks (T.setTop (mkF m pcT Ls st))) (k2 : y < x → Ow p e below s Q kc ks (T.setTop (mkF m pcF Ls st))) : Ow p e below s Q kc ks (T.setTop (mkF m pc Ls (.long y :: .long x :: st))) := by
  subst hp1
  refine Ow.go (XS.lcmp X.here hx rfl hd rfl (Steps.refl _)) ?_
  exact w_if_le X hx (x := lcmpW x y) hd1 ho ht hp (fun q => k1 (fun r => q ((lw_gt x y).mpr r))) (fun q => k2 ((lw_gt x y).mp q))
theorem w_ireturn (X : Stand p l e R s m args below meth c T locs cells slots) (hx : p.tables.exec = Jvm.exec) {z : Int32} (hret : meth.sig.returnType = some .int)  (hlk : meth.locks = false) (hc : cells ≤ kc) (hs : slots ≤ ks) (hd : decode c.code pc = .ok (.ireturn, 1)) (hq : Q (some (.int z)) T.heap locs) : Ow p e below s Q kc ks (T.setTop (mkF m pc Ls (.int z :: st))) := by
  obtain ⟨fs, hr, hrun, hended, hW, hsame⟩ := X.leave (v := some (.int z)) (fun h => by rw [hret] at h; cases h) hlk
  exact ⟨_, _, retOut X hx (t := .int) hret rfl (Or.inl ⟨rfl, Or.inl rfl, _, rfl⟩) hd hr, hrun, hended, _, _, rfl, hq, ⟨_, rfl⟩, hW, hsame.mono hc hs⟩
theorem w_lreturn (X : Stand p l e R s m args below meth c T locs cells slots) (hx : p.tables.exec = Jvm.exec) {z : Int64} (hret : meth.sig.returnType = some .long)  (hlk : meth.locks = false) (hc : cells ≤ kc) (hs : slots ≤ ks) (hd : decode c.code pc = .ok (.lreturn, 1)) (hq : Q (some (.long z)) T.heap locs) : Ow p e below s Q kc ks (T.setTop (mkF m pc Ls (.long z :: st))) := by
  obtain ⟨fs, hr, hrun, hended, hW, hsame⟩ := X.leave (v := some (.long z)) (fun h => by rw [hret] at h; cases h) hlk
  exact ⟨_, _, retOut X hx (t := .long) hret rfl (Or.inr (Or.inl ⟨rfl, rfl, _, rfl⟩)) hd hr, hrun, hended, _, _, rfl, hq, ⟨_, rfl⟩, hW, hsame.mono hc hs⟩
theorem w_zreturn (X : Stand p l e R s m args below meth c T locs cells slots) (hx : p.tables.exec = Jvm.exec) {z : Int32} (hret : meth.sig.returnType = some .boolean) (hz : z = 0 ∨ z = 1) (hlk : meth.locks = false) (hc : cells ≤ kc) (hs : slots ≤ ks) (hd : decode c.code pc = .ok (.ireturn, 1)) (hq : Q (some (.int z)) T.heap locs) : Ow p e below s Q kc ks (T.setTop (mkF m pc Ls (.int z :: st))) := by
  obtain ⟨fs, hr, hrun, hended, hW, hsame⟩ := X.leave (v := some (.int z)) (fun h => by rw [hret] at h; cases h) hlk
  exact ⟨_, _, retOut X hx (t := .boolean) hret (by rcases hz with rfl | rfl <;> rfl) (Or.inl ⟨rfl, Or.inr (Or.inl rfl), _, rfl⟩) hd hr, hrun, hended, _, _, rfl, hq, ⟨_, rfl⟩, hW, hsame.mono hc hs⟩
theorem w_return (X : Stand p l e R s m args below meth c T locs cells slots) (hx : p.tables.exec = Jvm.exec) (hret : meth.sig.returnType = none) (hlk : meth.locks = false) (hc : cells ≤ kc) (hs : slots ≤ ks) (hd : decode c.code pc = .ok (.return_, 1)) (hq : Q none T.heap locs) : Ow p e below s Q kc ks (T.setTop (mkF m pc Ls [])) := by
  obtain ⟨fs, hr, hrun, hended, hW, hsame⟩ := X.leave (v := none) (fun _ => rfl) hlk
  exact ⟨_, _, X.returnOut hx hret hd hr, hrun, hended, _, _, rfl, hq, ⟨_, rfl⟩, hW, hsame.mono hc hs⟩
theorem w_getfield (X : Stand p l e R s m args below meth c T locs cells slots) (hx : p.tables.exec = Jvm.exec) (hZ : Z.Warmed39 s.vm) {own R0 O n d host : String} {index : Nat} (hown : s.vm.findClass own = some m.cls) (w : (Cond.fieldLink own index R0 n d).before a0 Z = true ∨ (Cond.fieldLinkNest own index R0 n d host).before a0 Z = true) (via : Via Z R0 O n d) (eT : T.heap = h) {a : Addr} {v : Value} (F : Fld Z h a O n d v) (hd : decode c.code pc = .ok (.getfield index, 3)) (hp : pc + 3 = pc') (k : ∀ T', Stand p l e R s m args below meth c T' locs cells slots → T'.heap = h → Ow p e below s Q kc ks (T'.setTop (mkF m pc' Ls (v :: st)))) : Ow p e below s Q kc ks (T.setTop (mkF m pc Ls (.ref a :: st))) := by
  subst hp
  obtain ⟨T', X', e', st'⟩ := getF X hx hZ hown w via eT F (g := mkF m pc Ls (.ref a :: st)) rfl rfl hd
  exact Ow.via st' (k T' X' e')
theorem w_putfield (X : Stand p l e R s m args below meth c T locs cells slots) (hx : p.tables.exec = Jvm.exec) (hZ : Z.Warmed39 s.vm) {own R0 O n d host C : String} {index kk : Nat} {ty : FieldType} (hown : s.vm.findClass own = some m.cls) (w : (Cond.fieldLink own index R0 n d).before a0 Z = true ∨ (Cond.fieldLinkNest own index R0 n d host).before a0 Z = true) (via : Via Z R0 O n d) (eT : T.heap = h) {a : Addr} {v old : Value} (F : Fld Z h a O n d old) (E : Exa Z h a C) (L : (Cond.lays C O n d).before a0 Z = true ∨ ((Cond.laysFinal C O n d).before a0 Z = true ∧ own = O ∧ meth.name = "<init>")) (wi : (Cond.instantiable C kk).before a0 Z = true) (hty : parseFieldDescriptor d = some ty) (hn : narrow ty v = v) (hf : fits ty v = true) (hd : decode c.code pc = .ok (.putfield index, 3)) (hp : pc + 3 = pc') (k : ∀ T' h', Stand p l e R s m args below meth c T' (locs ++ [⟨a, RoadKit.slotOf Z O n d⟩]) cells slots → T'.heap = h' → Wr h h' a (RoadKit.slotOf Z O n d) v → Ow p e below s Q kc ks (T'.setTop (mkF m pc' Ls st))) : Ow p e below s Q kc ks (T.setTop (mkF m pc Ls (v :: .ref a :: st))) := by
  subst hp
  obtain ⟨T', h', X', e', W', st'⟩ := putF X hx hZ hown w via eT F E L wi hty hn hf (g := mkF m pc Ls (v :: .ref a :: st)) rfl rfl hd
  exact Ow.via st' (k T' h' X' e' W')
theorem w_new (X : Stand p l e R s m args below meth c T locs cells slots) (hx : p.tables.exec = Jvm.exec) (hZ : Z.Warmed39 s.vm) {own C : String} {index n : Nat} (hown : s.vm.findClass own = some m.cls) (w : (Cond.classLink own index C).before a0 Z = true) (wi : (Cond.instantiable C n).before a0 Z = true) (wz : (Cond.initialized C).before a0 Z = true) (eT : T.heap = h) (hd : decode c.code pc = .ok (.new index, 3)) (hc : cells + 1 ≤ R.cells) (hl : slots + n ≤ R.slots) (hp : pc + 3 = pc') (k : ∀ T' h' a, a = h.size → Stand p l e R s m args below meth c T' locs (cells + 1) (slots + n) → T'.heap = h' → Ext h h' → Exa Z h' a C → (∀ {O nm d : String} {ty : FieldType}, Laid Z a0 C O nm d → parseFieldDescriptor d = some ty → Fld Z h' a O nm d (defaultValue ty)) → Ow p e below s Q kc ks (T'.setTop (mkF m pc' Ls (.ref a :: st)))) : Ow p e below s Q kc ks (T.setTop (mkF m pc Ls st)) := by
  subst hp
  obtain ⟨T', h', X', e', E', A', D', -, st'⟩ := newO X hx hZ hown w wi wz eT (g := mkF m pc Ls st) rfl hd hc hl
  exact Ow.via st' (k T' h' _ rfl X' e' E' A' D')
theorem w_objinit (X : Stand p l e R s m args below meth c T locs cells slots) (hx : p.tables.exec = Jvm.exec) (hZ : Z.Warmed39 s.vm) {own : String} {idx : Nat} (hown : s.vm.findClass own = some m.cls) (w1 : (Cond.methodLink own idx Lib.objectInit).before a0 Z = true) (w2 : (Cond.instanceMethod Lib.objectInit).before a0 Z = true) (w3 : (Cond.code Lib.objectInit ⟨#[0xb1]⟩ 1 none).before a0 Z = true) (eT : T.heap = h) {a : Addr} (hd : decode c.code pc = .ok (.invokespecial idx, 3)) (hsz : Ls.size = c.maxLocals) (hf : 1 ≤ R.frames) {W : Nat} (hW : (st.map fun v => v.category).sum ≤ W) (hl : W + 12 ≤ R.locals) (hp : pc + 3 = pc') (k : ∀ T', Stand p l e R s m args below meth c T' locs cells slots → T'.heap = h → Ow p e below s Q kc ks (T'.setTop (mkF m pc' Ls st))) : Ow p e below s Q kc ks (T.setTop (mkF m pc Ls (.ref a :: st))) := by
  subst hp
  obtain ⟨T', X', e', st'⟩ := initO X hx hZ hown w1 w2 w3 eT (g := mkF m pc Ls (.ref a :: st)) rfl hsz rfl hd hf (W := W) (by show 2 * 0 + _ ≤ _; omega) hl
  exact Ow.via st' (k T' X' e')
theorem w_callS (X : Stand p l e R s m args below meth c T locs cells slots) (hx : p.tables.exec = Jvm.exec) (hZ : Z.Warmed39 s.vm) {own : String} {index : Nat} {y : MethodName} {bytes : ByteArray} {maxL : Nat} {ret : Option FieldType} (hown : s.vm.findClass own = some m.cls) (w1 : (Cond.methodLink own index y).before a0 Z = true) (w2 : (Cond.static y).before a0 Z = true) (w3 : (Cond.initialized y.cls).before a0 Z = true) (w4 : (Cond.code y bytes maxL ret).before a0 Z = true) (hy : y.cls ≠ "java/lang/invoke/MethodHandle" ∧ y.cls ≠ "java/lang/invoke/VarHandle") {rm : Room} {as' : Array Value} {Qf : Option Value → Heap → List Loc → Prop} {W : Nat} (hM : MetFree l y (head1 [Cond.code y bytes maxL ret] rm) (fun a U => a = as' ∧ Z.Warmed39 U.vm ∧ U.heap = h) (fun _ _ _ _ _ => True) (fun _ U o U' => ∃ v L, o = .returned v ∧ Qf v U'.heap L ∧ FrameEnd U o U' L rm.cells rm.slots)) (eT : T.heap = h) (hf : rm.frames + 1 ≤ R.frames) (hlo : W + (maxL + 11) + rm.locals ≤ R.locals) (hc : cells + rm.cells ≤ R.cells) (hs : slots + rm.slots ≤ R.slots) (hd : decode c.code pc = .ok (.invokestatic index, 3)) (hsz : Ls.size = c.maxLocals) {argsL rest : List Value} {ps : List FieldType} {r : Option FieldType} (pd : parseMethodDescriptor y.desc = some ⟨ps, r⟩) (hlen : argsL.length = ps.length) (hst : st = argsL.reverse ++ rest) (has : argsL.toArray = as') (hW : (rest.map fun v => v.category).sum ≤ W) (hp : pc + 3 = pc') (k : ∀ v T' L, Stand p l e R s m args below meth c T' (locs ++ L) (cells + rm.cells) (slots + rm.slots) → Qf v T'.heap L → Ow p e below s Q kc ks (T'.setTop (mkF m pc' Ls (v.toList ++ rest)))) : Ow p e below s Q kc ks (T.setTop (mkF m pc Ls st)) := by
  subst hp
  obtain ⟨v, vm₁, ⟨T', L', k', n'⟩, -, X', ⟨L, hq, l1, y1, z1⟩, st'⟩ := Jvm.LawKit.callS X hx hown (mvT hZ w1) (mvT hZ w2) (mvT hZ w3) (mvT hZ w4) hy (backOf (W := W) hM hZ w4 w3 hf hlo) (g := mkF m pc Ls st) rfl hsz (argsL := argsL) (rest := rest) (lenOf pd hlen) hst (by show 2 * 0 + _ ≤ _; omega) hd (fun _ _ => ⟨has, eT, hc, hs⟩)
  dsimp only [Pt.U, Pt.locs, Pt.cells, Pt.slots] at X' l1 y1 z1 st' hq
  subst l1 y1 z1
  exact Ow.via st' (k v T' L X' hq)
theorem w_callN (X : Stand p l e R s m args below meth c T locs cells slots) (hx : p.tables.exec = Jvm.exec) (hZ : Z.Warmed39 s.vm) {own : String} {index : Nat} {y : MethodName} {bytes : ByteArray} {maxL : Nat} (hy1 : y.name = "<init>") (hown : s.vm.findClass own = some m.cls) (w1 : (Cond.methodLink own index y).before a0 Z = true) (w2 : (Cond.instanceMethod y).before a0 Z = true) (w3 : (Cond.initialized y.cls).before a0 Z = true) (w4 : (Cond.code y bytes maxL none).before a0 Z = true) (hy : y.cls ≠ "java/lang/invoke/MethodHandle" ∧ y.cls ≠ "java/lang/invoke/VarHandle") {rm : Room} {as' : Array Value} {Qf : Option Value → Heap → List Loc → Prop} {W : Nat} (hM : MetFree l y (head1 [Cond.code y bytes maxL none] rm) (fun a U => a = as' ∧ Z.Warmed39 U.vm ∧ U.heap = h) (fun _ _ _ _ _ => True) (fun _ U o U' => ∃ v L, o = .returned v ∧ Qf v U'.heap L ∧ FrameEnd U o U' L rm.cells rm.slots)) (eT : T.heap = h) (hf : rm.frames + 1 ≤ R.frames) (hlo : W + (maxL + 11) + rm.locals ≤ R.locals) (hc : cells + rm.cells ≤ R.cells) (hs : slots + rm.slots ≤ R.slots) (hd : decode c.code pc = .ok (.invokespecial index, 3)) (hsz : Ls.size = c.maxLocals) {a : Addr} {argsL rest : List Value} {ps : List FieldType} {r : Option FieldType} (pd : parseMethodDescriptor y.desc = some ⟨ps, r⟩) (hlen : argsL.length = ps.length) (hst : st = argsL.reverse ++ .ref a :: rest) (has : (Value.ref a :: argsL).toArray = as') (hW : (rest.map fun v => v.category).sum ≤ W) (hp : pc + 3 = pc') (k : ∀ v T' L, Stand p l e R s m args below meth c T' (locs ++ L) (cells + rm.cells) (slots + rm.slots) → Qf v T'.heap L → Ow p e below s Q kc ks (T'.setTop (mkF m pc' Ls (v.toList ++ rest)))) : Ow p e below s Q kc ks (T.setTop (mkF m pc Ls st)) := by
  subst hp
  obtain ⟨v, vm₁, ⟨T', L', k', n'⟩, -, X', ⟨L, hq, l1, y1, z1⟩, st'⟩ := X.specialBack hx hy1 hown (mvT hZ w1) (mvT hZ w2) (mvT hZ w4) hy (backOf (W := W) hM hZ w4 w3 hf hlo) (g := mkF m pc Ls st) rfl hsz (Steps.refl _) (a := a) (argsL := argsL) (rest := rest) (lenOf pd hlen) hst (by show 2 * 0 + _ ≤ _; omega) hd (fun _ _ => ⟨has, eT, hc, hs⟩)
  dsimp only [Pt.U, Pt.locs, Pt.cells, Pt.slots] at X' l1 y1 z1 st' hq
  subst l1 y1 z1
  exact Ow.go st' (k v T' L X' hq)
theorem w_callV (X : Stand p l e R s m args below meth c T locs cells slots) (hx : p.tables.exec = Jvm.exec) (hZ : Z.Warmed39 s.vm) {own C : String} {index : Nat} {y z : MethodName} {bytes : ByteArray} {maxL : Nat} {ret : Option FieldType} (hown : s.vm.findClass own = some m.cls) (w1 : (Cond.methodLink own index y).before a0 Z = true) (w2 : (Cond.declares y).before a0 Z = true) (nf : NotFace s y) (w5 : (Cond.selects C y z).before a0 Z = true) (w6 : (Cond.instanceMethod z).before a0 Z = true) (w3 : (Cond.initialized z.cls).before a0 Z = true) (w4 : (Cond.code z bytes maxL ret).before a0 Z = true) (hy : y.cls ≠ "java/lang/invoke/MethodHandle" ∧ y.cls ≠ "java/lang/invoke/VarHandle") {rm : Room} {as' : Array Value} {Qf : Option Value → Heap → List Loc → Prop} {W : Nat} (hM : MetFree l z (head1 [Cond.code z bytes maxL ret] rm) (fun a U => a = as' ∧ Z.Warmed39 U.vm ∧ U.heap = h) (fun _ _ _ _ _ => True) (fun _ U o U' => ∃ v L, o = .returned v ∧ Qf v U'.heap L ∧ FrameEnd U o U' L rm.cells rm.slots)) (eT : T.heap = h) (hf : rm.frames + 1 ≤ R.frames) (hlo : W + (maxL + 11) + rm.locals ≤ R.locals) (hc : cells + rm.cells ≤ R.cells) (hs : slots + rm.slots ≤ R.slots) {a : Addr} (E : Exa Z h a C) (hd : decode c.code pc = .ok (.invokevirtual index, 3)) (hsz : Ls.size = c.maxLocals) {argsL rest : List Value} {ps : List FieldType} {r : Option FieldType} (pd : parseMethodDescriptor y.desc = some ⟨ps, r⟩) (hlen : argsL.length = ps.length) (hst : st = argsL.reverse ++ .ref a :: rest) (has : (Value.ref a :: argsL).toArray = as') (hW : (rest.map fun v => v.category).sum ≤ W) (hp : pc + 3 = pc') (k : ∀ v T' L, Stand p l e R s m args below meth c T' (locs ++ L) (cells + rm.cells) (slots + rm.slots) → Qf v T'.heap L → Ow p e below s Q kc ks (T'.setTop (mkF m pc' Ls (v.toList ++ rest)))) : Ow p e below s Q kc ks (T.setTop (mkF m pc Ls st)) := by
  subst hp
  obtain ⟨cB, kB, qa, qb, qc⟩ := isOf hZ eT E
  obtain ⟨v, vm₁, ⟨T', L', k', n'⟩, -, X', ⟨L, hq, l1, y1, z1⟩, st'⟩ := X.virtualBack hx (y := y) (z := z) hown (mvT hZ w1) (mvT hZ w2) nf (mvT hZ w5) (mvT hZ w6) hy (backOf (W := W) hM hZ w4 w3 hf hlo) qa qc (g := mkF m pc Ls st) rfl hsz (Steps.refl _) (argsL := argsL) (rest := rest) (lenOf pd hlen) hst (by show 2 * 0 + _ ≤ _; omega) hd (fun _ _ => ⟨has, eT, hc, hs⟩)
  dsimp only [Pt.U, Pt.locs, Pt.cells, Pt.slots] at X' l1 y1 z1 st' hq
  subst l1 y1 z1
  exact Ow.go st' (k v T' L X' hq)
end W
theorem d1_0 : decode method_2_code 0 = .ok (.lload_n 0, 1) := by decide +kernel
theorem d1_1 : decode method_2_code 1 = .ok (.lload_n 2, 1) := by decide +kernel
theorem d1_2 : decode method_2_code 2 = .ok (.lrem, 1) := by decide +kernel
theorem d1_3 : decode method_2_code 3 = .ok (.lstore 4, 2) := by decide +kernel
theorem d1_5 : decode method_2_code 5 = .ok (.lload 4, 2) := by decide +kernel
theorem d1_7 : decode method_2_code 7 = .ok (.lconst 0, 1) := by decide +kernel
theorem d1_8 : decode method_2_code 8 = .ok (.lcmp, 1) := by decide +kernel
theorem d1_9 : decode method_2_code 9 = .ok (.ifCond .ge 10, 3) := by decide +kernel
theorem d1_19 : decode method_2_code 19 = .ok (.lload 4, 2) := by decide +kernel
theorem d1_21 : decode method_2_code 21 = .ok (.lreturn, 1) := by decide +kernel
theorem d1_12 : decode method_2_code 12 = .ok (.lload 4, 2) := by decide +kernel
theorem d1_14 : decode method_2_code 14 = .ok (.lload_n 2, 1) := by decide +kernel
theorem d1_15 : decode method_2_code 15 = .ok (.ladd, 1) := by decide +kernel
theorem d1_16 : decode method_2_code 16 = .ok (.goto 5, 3) := by decide +kernel
theorem ef_1 (m : MethodId) (q0 : Int64) (q1 : Int64) : entryFrame m #[(.long q0), (.long q1)] 6 = mkF m 0 #[.val (.long q0), .second, .val (.long q1), .second, .unset, .unset] [] := by first | (simp [entryFrame, mkF, argsToLocals, Value.category]; done) | rfl
theorem pn_0 : plainName "com/example/sarutahiko/sarutahiko/lattice/SegmentWalkNextPinLaw" = true := by first | (simp [plainName, overriddenIn]; done) | decide +kernel
theorem d2_0 : decode jdk_29_method_66_code 0 = .ok (.lload_n 0, 1) := by decide +kernel
theorem d2_1 : decode jdk_29_method_66_code 1 = .ok (.lload_n 2, 1) := by decide +kernel
theorem d2_2 : decode jdk_29_method_66_code 2 = .ok (.lcmp, 1) := by decide +kernel
theorem d2_3 : decode jdk_29_method_66_code 3 = .ok (.ifCond .lt 7, 3) := by decide +kernel
theorem d2_10 : decode jdk_29_method_66_code 10 = .ok (.lload_n 2, 1) := by decide +kernel
theorem d2_11 : decode jdk_29_method_66_code 11 = .ok (.lreturn, 1) := by decide +kernel
theorem d2_6 : decode jdk_29_method_66_code 6 = .ok (.lload_n 0, 1) := by decide +kernel
theorem d2_7 : decode jdk_29_method_66_code 7 = .ok (.goto 4, 3) := by decide +kernel
theorem ef_2 (m : MethodId) (q0 : Int64) (q1 : Int64) : entryFrame m #[(.long q0), (.long q1)] 4 = mkF m 0 #[.val (.long q0), .second, .val (.long q1), .second] [] := by first | (simp [entryFrame, mkF, argsToLocals, Value.category]; done) | rfl
theorem d3_0 : decode jdk_29_method_70_code 0 = .ok (.lload_n 0, 1) := by decide +kernel
theorem d3_1 : decode jdk_29_method_70_code 1 = .ok (.lload_n 2, 1) := by decide +kernel
theorem d3_2 : decode jdk_29_method_70_code 2 = .ok (.lcmp, 1) := by decide +kernel
theorem d3_3 : decode jdk_29_method_70_code 3 = .ok (.ifCond .gt 7, 3) := by decide +kernel
theorem d3_10 : decode jdk_29_method_70_code 10 = .ok (.lload_n 2, 1) := by decide +kernel
theorem d3_11 : decode jdk_29_method_70_code 11 = .ok (.lreturn, 1) := by decide +kernel
theorem d3_6 : decode jdk_29_method_70_code 6 = .ok (.lload_n 0, 1) := by decide +kernel
theorem d3_7 : decode jdk_29_method_70_code 7 = .ok (.goto 4, 3) := by decide +kernel
theorem ef_3 (m : MethodId) (q0 : Int64) (q1 : Int64) : entryFrame m #[(.long q0), (.long q1)] 4 = mkF m 0 #[.val (.long q0), .second, .val (.long q1), .second] [] := by first | (simp [entryFrame, mkF, argsToLocals, Value.category]; done) | rfl
theorem d4_0 : decode method_3_code 0 = .ok (.iload_n 0, 1) := by decide +kernel
theorem d4_1 : decode method_3_code 1 = .ok (.ifCond .ne 7, 3) := by decide +kernel
theorem d4_8 : decode method_3_code 8 = .ok (.lload_n 1, 1) := by decide +kernel
theorem d4_9 : decode method_3_code 9 = .ok (.lconst 0, 1) := by decide +kernel
theorem d4_10 : decode method_3_code 10 = .ok (.lcmp, 1) := by decide +kernel
theorem d4_11 : decode method_3_code 11 = .ok (.ifCond .ne 7, 3) := by decide +kernel
theorem d4_18 : decode method_3_code 18 = .ok (.lload_n 1, 1) := by decide +kernel
theorem d4_19 : decode method_3_code 19 = .ok (.lreturn, 1) := by decide +kernel
theorem d4_14 : decode method_3_code 14 = .ok (.lload_n 3, 1) := by decide +kernel
theorem d4_15 : decode method_3_code 15 = .ok (.goto 4, 3) := by decide +kernel
theorem d4_4 : decode method_3_code 4 = .ok (.lload_n 3, 1) := by decide +kernel
theorem d4_5 : decode method_3_code 5 = .ok (.lload_n 1, 1) := by decide +kernel
theorem d4_6 : decode method_3_code 6 = .ok (.lsub, 1) := by decide +kernel
theorem d4_7 : decode method_3_code 7 = .ok (.lreturn, 1) := by decide +kernel
theorem ef_4 (m : MethodId) (p0 : Int32) (q1 : Int64) (q2 : Int64) : entryFrame m #[(.int p0), (.long q1), (.long q2)] 5 = mkF m 0 #[.val (.int p0), .val (.long q1), .second, .val (.long q2), .second] [] := by first | (simp [entryFrame, mkF, argsToLocals, Value.category]; done) | rfl
theorem d8_0 : decode jdk_29_method_49_code 0 = .ok (.lload_n 0, 1) := by decide +kernel
theorem d8_1 : decode jdk_29_method_49_code 1 = .ok (.lload_n 2, 1) := by decide +kernel
theorem d8_2 : decode jdk_29_method_49_code 2 = .ok (.ldiv, 1) := by decide +kernel
theorem d8_3 : decode jdk_29_method_49_code 3 = .ok (.lstore 4, 2) := by decide +kernel
theorem d8_5 : decode jdk_29_method_49_code 5 = .ok (.lload_n 0, 1) := by decide +kernel
theorem d8_6 : decode jdk_29_method_49_code 6 = .ok (.lload_n 2, 1) := by decide +kernel
theorem d8_7 : decode jdk_29_method_49_code 7 = .ok (.lxor, 1) := by decide +kernel
theorem d8_8 : decode jdk_29_method_49_code 8 = .ok (.lconst 0, 1) := by decide +kernel
theorem d8_9 : decode jdk_29_method_49_code 9 = .ok (.lcmp, 1) := by decide +kernel
theorem d8_10 : decode jdk_29_method_49_code 10 = .ok (.ifCond .ge 17, 3) := by decide +kernel
theorem d8_27 : decode jdk_29_method_49_code 27 = .ok (.lload 4, 2) := by decide +kernel
theorem d8_29 : decode jdk_29_method_49_code 29 = .ok (.lreturn, 1) := by decide +kernel
theorem d8_13 : decode jdk_29_method_49_code 13 = .ok (.lload 4, 2) := by decide +kernel
theorem d8_15 : decode jdk_29_method_49_code 15 = .ok (.lload_n 2, 1) := by decide +kernel
theorem d8_16 : decode jdk_29_method_49_code 16 = .ok (.lmul, 1) := by decide +kernel
theorem d8_17 : decode jdk_29_method_49_code 17 = .ok (.lload_n 0, 1) := by decide +kernel
theorem d8_18 : decode jdk_29_method_49_code 18 = .ok (.lcmp, 1) := by decide +kernel
theorem d8_19 : decode jdk_29_method_49_code 19 = .ok (.ifCond .eq 8, 3) := by decide +kernel
theorem d8_22 : decode jdk_29_method_49_code 22 = .ok (.lload 4, 2) := by decide +kernel
theorem d8_24 : decode jdk_29_method_49_code 24 = .ok (.lconst 1, 1) := by decide +kernel
theorem d8_25 : decode jdk_29_method_49_code 25 = .ok (.lsub, 1) := by decide +kernel
theorem d8_26 : decode jdk_29_method_49_code 26 = .ok (.lreturn, 1) := by decide +kernel
theorem ef_8 (m : MethodId) (q0 : Int64) (q1 : Int64) : entryFrame m #[(.long q0), (.long q1)] 6 = mkF m 0 #[.val (.long q0), .second, .val (.long q1), .second, .unset, .unset] [] := by first | (simp [entryFrame, mkF, argsToLocals, Value.category]; done) | rfl
theorem d9_0 : decode jdk_29_method_61_code 0 = .ok (.lload_n 0, 1) := by decide +kernel
theorem d9_1 : decode jdk_29_method_61_code 1 = .ok (.lconst 0, 1) := by decide +kernel
theorem d9_2 : decode jdk_29_method_61_code 2 = .ok (.lcmp, 1) := by decide +kernel
theorem d9_3 : decode jdk_29_method_61_code 3 = .ok (.ifCond .ge 8, 3) := by decide +kernel
theorem d9_11 : decode jdk_29_method_61_code 11 = .ok (.lload_n 0, 1) := by decide +kernel
theorem d9_12 : decode jdk_29_method_61_code 12 = .ok (.lreturn, 1) := by decide +kernel
theorem d9_6 : decode jdk_29_method_61_code 6 = .ok (.lload_n 0, 1) := by decide +kernel
theorem d9_7 : decode jdk_29_method_61_code 7 = .ok (.lneg, 1) := by decide +kernel
theorem d9_8 : decode jdk_29_method_61_code 8 = .ok (.goto 4, 3) := by decide +kernel
theorem ef_9 (m : MethodId) (q0 : Int64) : entryFrame m #[(.long q0)] 2 = mkF m 0 #[.val (.long q0), .second] [] := by first | (simp [entryFrame, mkF, argsToLocals, Value.category]; done) | rfl
theorem d14_0 : decode jdk_29_method_45_code 0 = .ok (.lload_n 0, 1) := by decide +kernel
theorem d14_1 : decode jdk_29_method_45_code 1 = .ok (.bipush 32, 2) := by decide +kernel
theorem d14_3 : decode jdk_29_method_45_code 3 = .ok (.lshr, 1) := by decide +kernel
theorem d14_4 : decode jdk_29_method_45_code 4 = .ok (.lstore 4, 2) := by decide +kernel
theorem d14_6 : decode jdk_29_method_45_code 6 = .ok (.lload_n 0, 1) := by decide +kernel
theorem d14_7 : decode jdk_29_method_45_code 7 = .ok (.ldc2_w 138, 3) := by decide +kernel
theorem d14_10 : decode jdk_29_method_45_code 10 = .ok (.land, 1) := by decide +kernel
theorem d14_11 : decode jdk_29_method_45_code 11 = .ok (.lstore 6, 2) := by decide +kernel
theorem d14_13 : decode jdk_29_method_45_code 13 = .ok (.lload_n 2, 1) := by decide +kernel
theorem d14_14 : decode jdk_29_method_45_code 14 = .ok (.bipush 32, 2) := by decide +kernel
theorem d14_16 : decode jdk_29_method_45_code 16 = .ok (.lshr, 1) := by decide +kernel
theorem d14_17 : decode jdk_29_method_45_code 17 = .ok (.lstore 8, 2) := by decide +kernel
theorem d14_19 : decode jdk_29_method_45_code 19 = .ok (.lload_n 2, 1) := by decide +kernel
theorem d14_20 : decode jdk_29_method_45_code 20 = .ok (.ldc2_w 138, 3) := by decide +kernel
theorem d14_23 : decode jdk_29_method_45_code 23 = .ok (.land, 1) := by decide +kernel
theorem d14_24 : decode jdk_29_method_45_code 24 = .ok (.lstore 10, 2) := by decide +kernel
theorem d14_26 : decode jdk_29_method_45_code 26 = .ok (.lload 6, 2) := by decide +kernel
theorem d14_28 : decode jdk_29_method_45_code 28 = .ok (.lload 10, 2) := by decide +kernel
theorem d14_30 : decode jdk_29_method_45_code 30 = .ok (.lmul, 1) := by decide +kernel
theorem d14_31 : decode jdk_29_method_45_code 31 = .ok (.lstore 12, 2) := by decide +kernel
theorem d14_33 : decode jdk_29_method_45_code 33 = .ok (.lload 4, 2) := by decide +kernel
theorem d14_35 : decode jdk_29_method_45_code 35 = .ok (.lload 10, 2) := by decide +kernel
theorem d14_37 : decode jdk_29_method_45_code 37 = .ok (.lmul, 1) := by decide +kernel
theorem d14_38 : decode jdk_29_method_45_code 38 = .ok (.lload 12, 2) := by decide +kernel
theorem d14_40 : decode jdk_29_method_45_code 40 = .ok (.bipush 32, 2) := by decide +kernel
theorem d14_42 : decode jdk_29_method_45_code 42 = .ok (.lushr, 1) := by decide +kernel
theorem d14_43 : decode jdk_29_method_45_code 43 = .ok (.ladd, 1) := by decide +kernel
theorem d14_44 : decode jdk_29_method_45_code 44 = .ok (.lstore 14, 2) := by decide +kernel
theorem d14_46 : decode jdk_29_method_45_code 46 = .ok (.lload 14, 2) := by decide +kernel
theorem d14_48 : decode jdk_29_method_45_code 48 = .ok (.ldc2_w 138, 3) := by decide +kernel
theorem d14_51 : decode jdk_29_method_45_code 51 = .ok (.land, 1) := by decide +kernel
theorem d14_52 : decode jdk_29_method_45_code 52 = .ok (.lstore 16, 2) := by decide +kernel
theorem d14_54 : decode jdk_29_method_45_code 54 = .ok (.lload 14, 2) := by decide +kernel
theorem d14_56 : decode jdk_29_method_45_code 56 = .ok (.bipush 32, 2) := by decide +kernel
theorem d14_58 : decode jdk_29_method_45_code 58 = .ok (.lshr, 1) := by decide +kernel
theorem d14_59 : decode jdk_29_method_45_code 59 = .ok (.lstore 18, 2) := by decide +kernel
theorem d14_61 : decode jdk_29_method_45_code 61 = .ok (.lload 16, 2) := by decide +kernel
theorem d14_63 : decode jdk_29_method_45_code 63 = .ok (.lload 6, 2) := by decide +kernel
theorem d14_65 : decode jdk_29_method_45_code 65 = .ok (.lload 8, 2) := by decide +kernel
theorem d14_67 : decode jdk_29_method_45_code 67 = .ok (.lmul, 1) := by decide +kernel
theorem d14_68 : decode jdk_29_method_45_code 68 = .ok (.ladd, 1) := by decide +kernel
theorem d14_69 : decode jdk_29_method_45_code 69 = .ok (.lstore 16, 2) := by decide +kernel
theorem d14_71 : decode jdk_29_method_45_code 71 = .ok (.lload 4, 2) := by decide +kernel
theorem d14_73 : decode jdk_29_method_45_code 73 = .ok (.lload 8, 2) := by decide +kernel
theorem d14_75 : decode jdk_29_method_45_code 75 = .ok (.lmul, 1) := by decide +kernel
theorem d14_76 : decode jdk_29_method_45_code 76 = .ok (.lload 18, 2) := by decide +kernel
theorem d14_78 : decode jdk_29_method_45_code 78 = .ok (.ladd, 1) := by decide +kernel
theorem d14_79 : decode jdk_29_method_45_code 79 = .ok (.lload 16, 2) := by decide +kernel
theorem d14_81 : decode jdk_29_method_45_code 81 = .ok (.bipush 32, 2) := by decide +kernel
theorem d14_83 : decode jdk_29_method_45_code 83 = .ok (.lshr, 1) := by decide +kernel
theorem d14_84 : decode jdk_29_method_45_code 84 = .ok (.ladd, 1) := by decide +kernel
theorem d14_85 : decode jdk_29_method_45_code 85 = .ok (.lreturn, 1) := by decide +kernel
theorem ef_14 (m : MethodId) (q0 : Int64) (q1 : Int64) : entryFrame m #[(.long q0), (.long q1)] 20 = mkF m 0 #[.val (.long q0), .second, .val (.long q1), .second, .unset, .unset, .unset, .unset, .unset, .unset, .unset, .unset, .unset, .unset, .unset, .unset, .unset, .unset, .unset, .unset] [] := by first | (simp [entryFrame, mkF, argsToLocals, Value.category]; done) | rfl
theorem d15_0 : decode jdk_35_method_42_code 0 = .ok (.lload_n 0, 1) := by decide +kernel
theorem d15_1 : decode jdk_35_method_42_code 1 = .ok (.lload_n 2, 1) := by decide +kernel
theorem d15_2 : decode jdk_35_method_42_code 2 = .ok (.lcmp, 1) := by decide +kernel
theorem d15_3 : decode jdk_35_method_42_code 3 = .ok (.ifCond .ge 7, 3) := by decide +kernel
theorem d15_10 : decode jdk_35_method_42_code 10 = .ok (.lload_n 0, 1) := by decide +kernel
theorem d15_11 : decode jdk_35_method_42_code 11 = .ok (.lload_n 2, 1) := by decide +kernel
theorem d15_12 : decode jdk_35_method_42_code 12 = .ok (.lcmp, 1) := by decide +kernel
theorem d15_13 : decode jdk_35_method_42_code 13 = .ok (.ifCond .ne 7, 3) := by decide +kernel
theorem d15_20 : decode jdk_35_method_42_code 20 = .ok (.iconst 1, 1) := by decide +kernel
theorem d15_21 : decode jdk_35_method_42_code 21 = .ok (.ireturn, 1) := by decide +kernel
theorem d15_16 : decode jdk_35_method_42_code 16 = .ok (.iconst 0, 1) := by decide +kernel
theorem d15_17 : decode jdk_35_method_42_code 17 = .ok (.goto 4, 3) := by decide +kernel
theorem d15_6 : decode jdk_35_method_42_code 6 = .ok (.iconst (-1), 1) := by decide +kernel
theorem d15_7 : decode jdk_35_method_42_code 7 = .ok (.goto 14, 3) := by decide +kernel
theorem ef_15 (m : MethodId) (q0 : Int64) (q1 : Int64) : entryFrame m #[(.long q0), (.long q1)] 4 = mkF m 0 #[.val (.long q0), .second, .val (.long q1), .second] [] := by first | (simp [entryFrame, mkF, argsToLocals, Value.category]; done) | rfl
theorem pn_1 : plainName "java/lang/Long" = true := by first | (simp [plainName, overriddenIn]; done) | decide +kernel
theorem d16_0 : decode jdk_35_method_43_code 0 = .ok (.lload_n 0, 1) := by decide +kernel
theorem d16_1 : decode jdk_35_method_43_code 1 = .ok (.ldc2_w 168, 3) := by decide +kernel
theorem d16_4 : decode jdk_35_method_43_code 4 = .ok (.ladd, 1) := by decide +kernel
theorem d16_5 : decode jdk_35_method_43_code 5 = .ok (.lload_n 2, 1) := by decide +kernel
theorem d16_6 : decode jdk_35_method_43_code 6 = .ok (.ldc2_w 168, 3) := by decide +kernel
theorem d16_9 : decode jdk_35_method_43_code 9 = .ok (.ladd, 1) := by decide +kernel
theorem d16_10 : decode jdk_35_method_43_code 10 = .ok (.invokestatic 302, 3) := by decide +kernel
theorem pd_0 : parseMethodDescriptor "(JJ)I" = some ⟨[.long, .long], some .int⟩ := by decide +kernel
theorem d16_13 : decode jdk_35_method_43_code 13 = .ok (.ireturn, 1) := by decide +kernel
theorem ef_16 (m : MethodId) (q0 : Int64) (q1 : Int64) : entryFrame m #[(.long q0), (.long q1)] 4 = mkF m 0 #[.val (.long q0), .second, .val (.long q1), .second] [] := by first | (simp [entryFrame, mkF, argsToLocals, Value.category]; done) | rfl
theorem d13_0 : decode prog_23_method_4_code 0 = .ok (.lload_n 0, 1) := by decide +kernel
theorem d13_1 : decode prog_23_method_4_code 1 = .ok (.lload_n 2, 1) := by decide +kernel
theorem d13_2 : decode prog_23_method_4_code 2 = .ok (.invokestatic 85, 3) := by decide +kernel
theorem pd_1 : parseMethodDescriptor "(JJ)J" = some ⟨[.long, .long], some .long⟩ := by decide +kernel
theorem d13_5 : decode prog_23_method_4_code 5 = .ok (.lload 4, 2) := by decide +kernel
theorem d13_7 : decode prog_23_method_4_code 7 = .ok (.lload 6, 2) := by decide +kernel
theorem d13_9 : decode prog_23_method_4_code 9 = .ok (.invokestatic 85, 3) := by decide +kernel
theorem d13_12 : decode prog_23_method_4_code 12 = .ok (.invokestatic 88, 3) := by decide +kernel
theorem d13_15 : decode prog_23_method_4_code 15 = .ok (.istore 8, 2) := by decide +kernel
theorem d13_17 : decode prog_23_method_4_code 17 = .ok (.iload 8, 2) := by decide +kernel
theorem d13_19 : decode prog_23_method_4_code 19 = .ok (.ifCond .ne 16, 3) := by decide +kernel
theorem d13_35 : decode prog_23_method_4_code 35 = .ok (.iload 8, 2) := by decide +kernel
theorem d13_37 : decode prog_23_method_4_code 37 = .ok (.ireturn, 1) := by decide +kernel
theorem d13_22 : decode prog_23_method_4_code 22 = .ok (.lload_n 0, 1) := by decide +kernel
theorem d13_23 : decode prog_23_method_4_code 23 = .ok (.lload_n 2, 1) := by decide +kernel
theorem d13_24 : decode prog_23_method_4_code 24 = .ok (.lmul, 1) := by decide +kernel
theorem d13_25 : decode prog_23_method_4_code 25 = .ok (.lload 4, 2) := by decide +kernel
theorem d13_27 : decode prog_23_method_4_code 27 = .ok (.lload 6, 2) := by decide +kernel
theorem d13_29 : decode prog_23_method_4_code 29 = .ok (.lmul, 1) := by decide +kernel
theorem d13_30 : decode prog_23_method_4_code 30 = .ok (.invokestatic 94, 3) := by decide +kernel
theorem d13_33 : decode prog_23_method_4_code 33 = .ok (.istore 8, 2) := by decide +kernel
theorem ef_13 (m : MethodId) (q0 : Int64) (q1 : Int64) (q2 : Int64) (q3 : Int64) : entryFrame m #[(.long q0), (.long q1), (.long q2), (.long q3)] 9 = mkF m 0 #[.val (.long q0), .second, .val (.long q1), .second, .val (.long q2), .second, .val (.long q3), .second, .unset] [] := by first | (simp [entryFrame, mkF, argsToLocals, Value.category]; done) | rfl
theorem pn_2 : plainName "com/example/sarutahiko/sarutahiko/lattice/SegmentWalk" = true := by first | (simp [plainName, overriddenIn]; done) | decide +kernel
theorem d11_0 : decode prog_23_method_5_code 0 = .ok (.aload_n 0, 1) := by decide +kernel
theorem d11_1 : decode prog_23_method_5_code 1 = .ok (.getfield 57, 3) := by decide +kernel
theorem d11_4 : decode prog_23_method_5_code 4 = .ok (.ireturn, 1) := by decide +kernel
theorem ef_11 (m : MethodId) (a0 : Addr) : entryFrame m #[(.ref a0)] 1 = mkF m 0 #[.val (.ref a0)] [] := by first | (simp [entryFrame, mkF, argsToLocals, Value.category]; done) | rfl
theorem d12_0 : decode prog_23_method_6_code 0 = .ok (.aload_n 0, 1) := by decide +kernel
theorem d12_1 : decode prog_23_method_6_code 1 = .ok (.getfield 60, 3) := by decide +kernel
theorem d12_4 : decode prog_23_method_6_code 4 = .ok (.ireturn, 1) := by decide +kernel
theorem ef_12 (m : MethodId) (a0 : Addr) : entryFrame m #[(.ref a0)] 1 = mkF m 0 #[.val (.ref a0)] [] := by first | (simp [entryFrame, mkF, argsToLocals, Value.category]; done) | rfl
theorem d10_0 : decode prog_23_method_3_code 0 = .ok (.iconst 0, 1) := by decide +kernel
theorem d10_1 : decode prog_23_method_3_code 1 = .ok (.istore_n 1, 1) := by decide +kernel
theorem d10_2 : decode prog_23_method_3_code 2 = .ok (.aload_n 0, 1) := by decide +kernel
theorem d10_3 : decode prog_23_method_3_code 3 = .ok (.getfield 78, 3) := by decide +kernel
theorem d10_6 : decode prog_23_method_3_code 6 = .ok (.ifCond .ne 16, 3) := by decide +kernel
theorem d10_9 : decode prog_23_method_3_code 9 = .ok (.aload_n 0, 1) := by decide +kernel
theorem d10_10 : decode prog_23_method_3_code 10 = .ok (.iconst 1, 1) := by decide +kernel
theorem d10_11 : decode prog_23_method_3_code 11 = .ok (.putfield 78, 3) := by decide +kernel
theorem d10_14 : decode prog_23_method_3_code 14 = .ok (.aload_n 0, 1) := by decide +kernel
theorem d10_15 : decode prog_23_method_3_code 15 = .ok (.getfield 63, 3) := by decide +kernel
theorem d10_18 : decode prog_23_method_3_code 18 = .ok (.istore_n 1, 1) := by decide +kernel
theorem d10_19 : decode prog_23_method_3_code 19 = .ok (.goto 183, 3) := by decide +kernel
theorem d10_202 : decode prog_23_method_3_code 202 = .ok (.iload_n 1, 1) := by decide +kernel
theorem d10_203 : decode prog_23_method_3_code 203 = .ok (.ireturn, 1) := by decide +kernel
theorem ef_10 (m : MethodId) (a0 : Addr) : entryFrame m #[(.ref a0)] 5 = mkF m 0 #[.val (.ref a0), .unset, .unset, .unset, .unset] [] := by first | (simp [entryFrame, mkF, argsToLocals, Value.category]; done) | rfl
theorem d10_22 : decode prog_23_method_3_code 22 = .ok (.aload_n 0, 1) := by decide +kernel
theorem d10_23 : decode prog_23_method_3_code 23 = .ok (.getfield 63, 3) := by decide +kernel
theorem d10_26 : decode prog_23_method_3_code 26 = .ok (.ifCond .eq 176, 3) := by decide +kernel
theorem d10_29 : decode prog_23_method_3_code 29 = .ok (.aload_n 0, 1) := by decide +kernel
theorem d10_30 : decode prog_23_method_3_code 30 = .ok (.getfield 51, 3) := by decide +kernel
theorem d10_33 : decode prog_23_method_3_code 33 = .ok (.aload_n 0, 1) := by decide +kernel
theorem d10_34 : decode prog_23_method_3_code 34 = .ok (.getfield 34, 3) := by decide +kernel
theorem d10_37 : decode prog_23_method_3_code 37 = .ok (.lcmp, 1) := by decide +kernel
theorem d10_38 : decode prog_23_method_3_code 38 = .ok (.ifCond .lt 15, 3) := by decide +kernel
theorem d10_41 : decode prog_23_method_3_code 41 = .ok (.aload_n 0, 1) := by decide +kernel
theorem d10_42 : decode prog_23_method_3_code 42 = .ok (.getfield 54, 3) := by decide +kernel
theorem d10_45 : decode prog_23_method_3_code 45 = .ok (.aload_n 0, 1) := by decide +kernel
theorem d10_46 : decode prog_23_method_3_code 46 = .ok (.getfield 37, 3) := by decide +kernel
theorem d10_49 : decode prog_23_method_3_code 49 = .ok (.lcmp, 1) := by decide +kernel
theorem d10_50 : decode prog_23_method_3_code 50 = .ok (.ifCond .ge 152, 3) := by decide +kernel
theorem d10_53 : decode prog_23_method_3_code 53 = .ok (.aload_n 0, 1) := by decide +kernel
theorem d10_54 : decode prog_23_method_3_code 54 = .ok (.getfield 51, 3) := by decide +kernel
theorem d10_57 : decode prog_23_method_3_code 57 = .ok (.aload_n 0, 1) := by decide +kernel
theorem d10_58 : decode prog_23_method_3_code 58 = .ok (.getfield 34, 3) := by decide +kernel
theorem d10_61 : decode prog_23_method_3_code 61 = .ok (.lcmp, 1) := by decide +kernel
theorem d10_62 : decode prog_23_method_3_code 62 = .ok (.ifCond .ge 7, 3) := by decide +kernel
theorem d10_65 : decode prog_23_method_3_code 65 = .ok (.iconst 1, 1) := by decide +kernel
theorem d10_66 : decode prog_23_method_3_code 66 = .ok (.goto 4, 3) := by decide +kernel
theorem d10_70 : decode prog_23_method_3_code 70 = .ok (.istore_n 2, 1) := by decide +kernel
theorem d10_71 : decode prog_23_method_3_code 71 = .ok (.aload_n 0, 1) := by decide +kernel
theorem d10_72 : decode prog_23_method_3_code 72 = .ok (.getfield 54, 3) := by decide +kernel
theorem d10_75 : decode prog_23_method_3_code 75 = .ok (.aload_n 0, 1) := by decide +kernel
theorem d10_76 : decode prog_23_method_3_code 76 = .ok (.getfield 37, 3) := by decide +kernel
theorem d10_79 : decode prog_23_method_3_code 79 = .ok (.lcmp, 1) := by decide +kernel
theorem d10_80 : decode prog_23_method_3_code 80 = .ok (.ifCond .ge 7, 3) := by decide +kernel
theorem d10_87 : decode prog_23_method_3_code 87 = .ok (.iconst 0, 1) := by decide +kernel
theorem d10_88 : decode prog_23_method_3_code 88 = .ok (.istore_n 3, 1) := by decide +kernel
theorem d10_89 : decode prog_23_method_3_code 89 = .ok (.iload_n 2, 1) := by decide +kernel
theorem d10_90 : decode prog_23_method_3_code 90 = .ok (.ifCond .eq 50, 3) := by decide +kernel
theorem d10_93 : decode prog_23_method_3_code 93 = .ok (.iload_n 3, 1) := by decide +kernel
theorem d10_94 : decode prog_23_method_3_code 94 = .ok (.ifCond .eq 46, 3) := by decide +kernel
theorem d10_140 : decode prog_23_method_3_code 140 = .ok (.iload_n 2, 1) := by decide +kernel
theorem d10_141 : decode prog_23_method_3_code 141 = .ok (.ifCond .eq 29, 3) := by decide +kernel
theorem d10_144 : decode prog_23_method_3_code 144 = .ok (.aload_n 0, 1) := by decide +kernel
theorem d10_145 : decode prog_23_method_3_code 145 = .ok (.dup, 1) := by decide +kernel
theorem d10_146 : decode prog_23_method_3_code 146 = .ok (.getfield 57, 3) := by decide +kernel
theorem d10_149 : decode prog_23_method_3_code 149 = .ok (.aload_n 0, 1) := by decide +kernel
theorem d10_150 : decode prog_23_method_3_code 150 = .ok (.getfield 40, 3) := by decide +kernel
theorem d10_153 : decode prog_23_method_3_code 153 = .ok (.iadd, 1) := by decide +kernel
theorem d10_154 : decode prog_23_method_3_code 154 = .ok (.putfield 57, 3) := by decide +kernel
theorem d10_157 : decode prog_23_method_3_code 157 = .ok (.aload_n 0, 1) := by decide +kernel
theorem d10_158 : decode prog_23_method_3_code 158 = .ok (.dup, 1) := by decide +kernel
theorem d10_159 : decode prog_23_method_3_code 159 = .ok (.getfield 51, 3) := by decide +kernel
theorem d10_162 : decode prog_23_method_3_code 162 = .ok (.aload_n 0, 1) := by decide +kernel
theorem d10_163 : decode prog_23_method_3_code 163 = .ok (.getfield 24, 3) := by decide +kernel
theorem d10_166 : decode prog_23_method_3_code 166 = .ok (.ladd, 1) := by decide +kernel
theorem d10_167 : decode prog_23_method_3_code 167 = .ok (.putfield 51, 3) := by decide +kernel
theorem d10_170 : decode prog_23_method_3_code 170 = .ok (.iload_n 3, 1) := by decide +kernel
theorem d10_171 : decode prog_23_method_3_code 171 = .ok (.ifCond .eq 29, 3) := by decide +kernel
theorem d10_200 : decode prog_23_method_3_code 200 = .ok (.iconst 1, 1) := by decide +kernel
theorem d10_201 : decode prog_23_method_3_code 201 = .ok (.istore_n 1, 1) := by decide +kernel
theorem d10_69 : decode prog_23_method_3_code 69 = .ok (.iconst 0, 1) := by decide +kernel
theorem d10_83 : decode prog_23_method_3_code 83 = .ok (.iconst 1, 1) := by decide +kernel
theorem d10_84 : decode prog_23_method_3_code 84 = .ok (.goto 4, 3) := by decide +kernel
theorem d10_174 : decode prog_23_method_3_code 174 = .ok (.aload_n 0, 1) := by decide +kernel
theorem d10_175 : decode prog_23_method_3_code 175 = .ok (.dup, 1) := by decide +kernel
theorem d10_176 : decode prog_23_method_3_code 176 = .ok (.getfield 60, 3) := by decide +kernel
theorem d10_179 : decode prog_23_method_3_code 179 = .ok (.aload_n 0, 1) := by decide +kernel
theorem d10_180 : decode prog_23_method_3_code 180 = .ok (.getfield 44, 3) := by decide +kernel
theorem d10_183 : decode prog_23_method_3_code 183 = .ok (.iadd, 1) := by decide +kernel
theorem d10_184 : decode prog_23_method_3_code 184 = .ok (.putfield 60, 3) := by decide +kernel
theorem d10_187 : decode prog_23_method_3_code 187 = .ok (.aload_n 0, 1) := by decide +kernel
theorem d10_188 : decode prog_23_method_3_code 188 = .ok (.dup, 1) := by decide +kernel
theorem d10_189 : decode prog_23_method_3_code 189 = .ok (.getfield 54, 3) := by decide +kernel
theorem d10_192 : decode prog_23_method_3_code 192 = .ok (.aload_n 0, 1) := by decide +kernel
theorem d10_193 : decode prog_23_method_3_code 193 = .ok (.getfield 24, 3) := by decide +kernel
theorem d10_196 : decode prog_23_method_3_code 196 = .ok (.ladd, 1) := by decide +kernel
theorem d10_197 : decode prog_23_method_3_code 197 = .ok (.putfield 54, 3) := by decide +kernel
theorem d10_97 : decode prog_23_method_3_code 97 = .ok (.aload_n 0, 1) := by decide +kernel
theorem d10_98 : decode prog_23_method_3_code 98 = .ok (.getfield 51, 3) := by decide +kernel
theorem d10_101 : decode prog_23_method_3_code 101 = .ok (.aload_n 0, 1) := by decide +kernel
theorem d10_102 : decode prog_23_method_3_code 102 = .ok (.getfield 37, 3) := by decide +kernel
theorem d10_105 : decode prog_23_method_3_code 105 = .ok (.aload_n 0, 1) := by decide +kernel
theorem d10_106 : decode prog_23_method_3_code 106 = .ok (.getfield 54, 3) := by decide +kernel
theorem d10_109 : decode prog_23_method_3_code 109 = .ok (.aload_n 0, 1) := by decide +kernel
theorem d10_110 : decode prog_23_method_3_code 110 = .ok (.getfield 34, 3) := by decide +kernel
theorem d10_113 : decode prog_23_method_3_code 113 = .ok (.invokestatic 81, 3) := by decide +kernel
theorem pd_2 : parseMethodDescriptor "(JJJJ)I" = some ⟨[.long, .long, .long, .long], some .int⟩ := by decide +kernel
theorem d10_116 : decode prog_23_method_3_code 116 = .ok (.istore 4, 2) := by decide +kernel
theorem d10_118 : decode prog_23_method_3_code 118 = .ok (.iload 4, 2) := by decide +kernel
theorem d10_120 : decode prog_23_method_3_code 120 = .ok (.ifCond .gt 7, 3) := by decide +kernel
theorem d10_123 : decode prog_23_method_3_code 123 = .ok (.iconst 1, 1) := by decide +kernel
theorem d10_124 : decode prog_23_method_3_code 124 = .ok (.goto 4, 3) := by decide +kernel
theorem d10_128 : decode prog_23_method_3_code 128 = .ok (.istore_n 2, 1) := by decide +kernel
theorem d10_129 : decode prog_23_method_3_code 129 = .ok (.iload 4, 2) := by decide +kernel
theorem d10_131 : decode prog_23_method_3_code 131 = .ok (.ifCond .lt 7, 3) := by decide +kernel
theorem d10_138 : decode prog_23_method_3_code 138 = .ok (.iconst 0, 1) := by decide +kernel
theorem d10_139 : decode prog_23_method_3_code 139 = .ok (.istore_n 3, 1) := by decide +kernel
theorem d10_134 : decode prog_23_method_3_code 134 = .ok (.iconst 1, 1) := by decide +kernel
theorem d10_135 : decode prog_23_method_3_code 135 = .ok (.goto 4, 3) := by decide +kernel
theorem d10_127 : decode prog_23_method_3_code 127 = .ok (.iconst 0, 1) := by decide +kernel
theorem d7_0 : decode prog_23_method_2_code 0 = .ok (.lload_n 0, 1) := by decide +kernel
theorem d7_1 : decode prog_23_method_2_code 1 = .ok (.lload_n 2, 1) := by decide +kernel
theorem d7_2 : decode prog_23_method_2_code 2 = .ok (.invokestatic 47, 3) := by decide +kernel
theorem d7_5 : decode prog_23_method_2_code 5 = .ok (.lstore 4, 2) := by decide +kernel
theorem d7_7 : decode prog_23_method_2_code 7 = .ok (.lload_n 0, 1) := by decide +kernel
theorem d7_8 : decode prog_23_method_2_code 8 = .ok (.ldc2_w 67, 3) := by decide +kernel
theorem d7_11 : decode prog_23_method_2_code 11 = .ok (.lcmp, 1) := by decide +kernel
theorem d7_12 : decode prog_23_method_2_code 12 = .ok (.ifCond .lt 29, 3) := by decide +kernel
theorem d7_15 : decode prog_23_method_2_code 15 = .ok (.lload_n 0, 1) := by decide +kernel
theorem d7_16 : decode prog_23_method_2_code 16 = .ok (.ldc2_w 9, 3) := by decide +kernel
theorem d7_19 : decode prog_23_method_2_code 19 = .ok (.lcmp, 1) := by decide +kernel
theorem d7_20 : decode prog_23_method_2_code 20 = .ok (.ifCond .gt 21, 3) := by decide +kernel
theorem d7_23 : decode prog_23_method_2_code 23 = .ok (.lload 4, 2) := by decide +kernel
theorem d7_25 : decode prog_23_method_2_code 25 = .ok (.ldc2_w 71, 3) := by decide +kernel
theorem d7_28 : decode prog_23_method_2_code 28 = .ok (.lcmp, 1) := by decide +kernel
theorem d7_29 : decode prog_23_method_2_code 29 = .ok (.ifCond .lt 12, 3) := by decide +kernel
theorem d7_32 : decode prog_23_method_2_code 32 = .ok (.lload 4, 2) := by decide +kernel
theorem d7_34 : decode prog_23_method_2_code 34 = .ok (.ldc2_w 73, 3) := by decide +kernel
theorem d7_37 : decode prog_23_method_2_code 37 = .ok (.lcmp, 1) := by decide +kernel
theorem d7_38 : decode prog_23_method_2_code 38 = .ok (.ifCond .le 18, 3) := by decide +kernel
theorem d7_56 : decode prog_23_method_2_code 56 = .ok (.return_, 1) := by decide +kernel
theorem ef_7 (m : MethodId) (q0 : Int64) (q1 : Int64) : entryFrame m #[(.long q0), (.long q1)] 6 = mkF m 0 #[.val (.long q0), .second, .val (.long q1), .second, .unset, .unset] [] := by first | (simp [entryFrame, mkF, argsToLocals, Value.category]; done) | rfl
theorem d5_0 : decode prog_23_method_1_code 0 = .ok (.aload_n 0, 1) := by decide +kernel
theorem d5_1 : decode prog_23_method_1_code 1 = .ok (.invokespecial 1, 3) := by decide +kernel
theorem d5_4 : decode prog_23_method_1_code 4 = .ok (.lload 9, 2) := by decide +kernel
theorem d5_6 : decode prog_23_method_1_code 6 = .ok (.lconst 0, 1) := by decide +kernel
theorem d5_7 : decode prog_23_method_1_code 7 = .ok (.lcmp, 1) := by decide +kernel
theorem d5_8 : decode prog_23_method_1_code 8 = .ok (.ifCond .le 12, 3) := by decide +kernel
theorem d5_11 : decode prog_23_method_1_code 11 = .ok (.lload 9, 2) := by decide +kernel
theorem d5_13 : decode prog_23_method_1_code 13 = .ok (.ldc2_w 9, 3) := by decide +kernel
theorem d5_16 : decode prog_23_method_1_code 16 = .ok (.lcmp, 1) := by decide +kernel
theorem d5_17 : decode prog_23_method_1_code 17 = .ok (.ifCond .le 18, 3) := by decide +kernel
theorem d5_35 : decode prog_23_method_1_code 35 = .ok (.lload_n 1, 1) := by decide +kernel
theorem d5_36 : decode prog_23_method_1_code 36 = .ok (.lload 9, 2) := by decide +kernel
theorem d5_38 : decode prog_23_method_1_code 38 = .ok (.invokestatic 20, 3) := by decide +kernel
theorem pd_3 : parseMethodDescriptor "(JJ)V" = some ⟨[.long, .long], none⟩ := by decide +kernel
theorem d5_41 : decode prog_23_method_1_code 41 = .ok (.lload_n 3, 1) := by decide +kernel
theorem d5_42 : decode prog_23_method_1_code 42 = .ok (.lload 9, 2) := by decide +kernel
theorem d5_44 : decode prog_23_method_1_code 44 = .ok (.invokestatic 20, 3) := by decide +kernel
theorem d5_47 : decode prog_23_method_1_code 47 = .ok (.lload 5, 2) := by decide +kernel
theorem d5_49 : decode prog_23_method_1_code 49 = .ok (.lload 9, 2) := by decide +kernel
theorem d5_51 : decode prog_23_method_1_code 51 = .ok (.invokestatic 20, 3) := by decide +kernel
theorem d5_54 : decode prog_23_method_1_code 54 = .ok (.lload 7, 2) := by decide +kernel
theorem d5_56 : decode prog_23_method_1_code 56 = .ok (.lload 9, 2) := by decide +kernel
theorem d5_58 : decode prog_23_method_1_code 58 = .ok (.invokestatic 20, 3) := by decide +kernel
theorem d5_61 : decode prog_23_method_1_code 61 = .ok (.aload_n 0, 1) := by decide +kernel
theorem d5_62 : decode prog_23_method_1_code 62 = .ok (.lload 9, 2) := by decide +kernel
theorem d5_64 : decode prog_23_method_1_code 64 = .ok (.putfield 24, 3) := by decide +kernel
theorem d5_67 : decode prog_23_method_1_code 67 = .ok (.aload_n 0, 1) := by decide +kernel
theorem d5_68 : decode prog_23_method_1_code 68 = .ok (.lload 5, 2) := by decide +kernel
theorem d5_70 : decode prog_23_method_1_code 70 = .ok (.lload_n 1, 1) := by decide +kernel
theorem d5_71 : decode prog_23_method_1_code 71 = .ok (.lsub, 1) := by decide +kernel
theorem d5_72 : decode prog_23_method_1_code 72 = .ok (.invokestatic 28, 3) := by decide +kernel
theorem pd_4 : parseMethodDescriptor "(J)J" = some ⟨[.long], some .long⟩ := by decide +kernel
theorem d5_75 : decode prog_23_method_1_code 75 = .ok (.putfield 34, 3) := by decide +kernel
theorem d5_78 : decode prog_23_method_1_code 78 = .ok (.aload_n 0, 1) := by decide +kernel
theorem d5_79 : decode prog_23_method_1_code 79 = .ok (.lload 7, 2) := by decide +kernel
theorem d5_81 : decode prog_23_method_1_code 81 = .ok (.lload_n 3, 1) := by decide +kernel
theorem d5_82 : decode prog_23_method_1_code 82 = .ok (.lsub, 1) := by decide +kernel
theorem d5_83 : decode prog_23_method_1_code 83 = .ok (.invokestatic 28, 3) := by decide +kernel
theorem d5_86 : decode prog_23_method_1_code 86 = .ok (.putfield 37, 3) := by decide +kernel
theorem d5_89 : decode prog_23_method_1_code 89 = .ok (.aload_n 0, 1) := by decide +kernel
theorem d5_90 : decode prog_23_method_1_code 90 = .ok (.lload 5, 2) := by decide +kernel
theorem d5_92 : decode prog_23_method_1_code 92 = .ok (.lload_n 1, 1) := by decide +kernel
theorem d5_93 : decode prog_23_method_1_code 93 = .ok (.lcmp, 1) := by decide +kernel
theorem d5_94 : decode prog_23_method_1_code 94 = .ok (.ifCond .ge 7, 3) := by decide +kernel
theorem d5_97 : decode prog_23_method_1_code 97 = .ok (.iconst (-1), 1) := by decide +kernel
theorem d5_98 : decode prog_23_method_1_code 98 = .ok (.goto 4, 3) := by decide +kernel
theorem d5_101 : decode prog_23_method_1_code 101 = .ok (.iconst 1, 1) := by decide +kernel
theorem d5_102 : decode prog_23_method_1_code 102 = .ok (.putfield 40, 3) := by decide +kernel
theorem d5_105 : decode prog_23_method_1_code 105 = .ok (.aload_n 0, 1) := by decide +kernel
theorem d5_106 : decode prog_23_method_1_code 106 = .ok (.lload 7, 2) := by decide +kernel
theorem d5_108 : decode prog_23_method_1_code 108 = .ok (.lload_n 3, 1) := by decide +kernel
theorem d5_109 : decode prog_23_method_1_code 109 = .ok (.lcmp, 1) := by decide +kernel
theorem d5_110 : decode prog_23_method_1_code 110 = .ok (.ifCond .ge 7, 3) := by decide +kernel
theorem d5_113 : decode prog_23_method_1_code 113 = .ok (.iconst (-1), 1) := by decide +kernel
theorem d5_114 : decode prog_23_method_1_code 114 = .ok (.goto 4, 3) := by decide +kernel
theorem d5_117 : decode prog_23_method_1_code 117 = .ok (.iconst 1, 1) := by decide +kernel
theorem d5_118 : decode prog_23_method_1_code 118 = .ok (.putfield 44, 3) := by decide +kernel
theorem d5_121 : decode prog_23_method_1_code 121 = .ok (.aload_n 0, 1) := by decide +kernel
theorem d5_122 : decode prog_23_method_1_code 122 = .ok (.getfield 40, 3) := by decide +kernel
theorem d5_125 : decode prog_23_method_1_code 125 = .ok (.i2l, 1) := by decide +kernel
theorem d5_126 : decode prog_23_method_1_code 126 = .ok (.lload_n 1, 1) := by decide +kernel
theorem d5_127 : decode prog_23_method_1_code 127 = .ok (.lmul, 1) := by decide +kernel
theorem d5_128 : decode prog_23_method_1_code 128 = .ok (.lstore 11, 2) := by decide +kernel
theorem d5_130 : decode prog_23_method_1_code 130 = .ok (.aload_n 0, 1) := by decide +kernel
theorem d5_131 : decode prog_23_method_1_code 131 = .ok (.getfield 44, 3) := by decide +kernel
theorem d5_134 : decode prog_23_method_1_code 134 = .ok (.i2l, 1) := by decide +kernel
theorem d5_135 : decode prog_23_method_1_code 135 = .ok (.lload_n 3, 1) := by decide +kernel
theorem d5_136 : decode prog_23_method_1_code 136 = .ok (.lmul, 1) := by decide +kernel
theorem d5_137 : decode prog_23_method_1_code 137 = .ok (.lstore 13, 2) := by decide +kernel
theorem d5_139 : decode prog_23_method_1_code 139 = .ok (.lload 11, 2) := by decide +kernel
theorem d5_141 : decode prog_23_method_1_code 141 = .ok (.lload 9, 2) := by decide +kernel
theorem d5_143 : decode prog_23_method_1_code 143 = .ok (.invokestatic 47, 3) := by decide +kernel
theorem d5_146 : decode prog_23_method_1_code 146 = .ok (.lstore 15, 2) := by decide +kernel
theorem d5_148 : decode prog_23_method_1_code 148 = .ok (.lload 13, 2) := by decide +kernel
theorem d5_150 : decode prog_23_method_1_code 150 = .ok (.lload 9, 2) := by decide +kernel
theorem d5_152 : decode prog_23_method_1_code 152 = .ok (.invokestatic 47, 3) := by decide +kernel
theorem d5_155 : decode prog_23_method_1_code 155 = .ok (.lstore 17, 2) := by decide +kernel
theorem d5_157 : decode prog_23_method_1_code 157 = .ok (.aload_n 0, 1) := by decide +kernel
theorem d5_158 : decode prog_23_method_1_code 158 = .ok (.lload 15, 2) := by decide +kernel
theorem d5_160 : decode prog_23_method_1_code 160 = .ok (.lconst 1, 1) := by decide +kernel
theorem d5_161 : decode prog_23_method_1_code 161 = .ok (.ladd, 1) := by decide +kernel
theorem d5_162 : decode prog_23_method_1_code 162 = .ok (.lload 9, 2) := by decide +kernel
theorem d5_164 : decode prog_23_method_1_code 164 = .ok (.lmul, 1) := by decide +kernel
theorem d5_165 : decode prog_23_method_1_code 165 = .ok (.lload 11, 2) := by decide +kernel
theorem d5_167 : decode prog_23_method_1_code 167 = .ok (.lsub, 1) := by decide +kernel
theorem d5_168 : decode prog_23_method_1_code 168 = .ok (.putfield 51, 3) := by decide +kernel
theorem d5_171 : decode prog_23_method_1_code 171 = .ok (.aload_n 0, 1) := by decide +kernel
theorem d5_172 : decode prog_23_method_1_code 172 = .ok (.lload 17, 2) := by decide +kernel
theorem d5_174 : decode prog_23_method_1_code 174 = .ok (.lconst 1, 1) := by decide +kernel
theorem d5_175 : decode prog_23_method_1_code 175 = .ok (.ladd, 1) := by decide +kernel
theorem d5_176 : decode prog_23_method_1_code 176 = .ok (.lload 9, 2) := by decide +kernel
theorem d5_178 : decode prog_23_method_1_code 178 = .ok (.lmul, 1) := by decide +kernel
theorem d5_179 : decode prog_23_method_1_code 179 = .ok (.lload 13, 2) := by decide +kernel
theorem d5_181 : decode prog_23_method_1_code 181 = .ok (.lsub, 1) := by decide +kernel
theorem d5_182 : decode prog_23_method_1_code 182 = .ok (.putfield 54, 3) := by decide +kernel
theorem d5_185 : decode prog_23_method_1_code 185 = .ok (.aload_n 0, 1) := by decide +kernel
theorem d5_186 : decode prog_23_method_1_code 186 = .ok (.aload_n 0, 1) := by decide +kernel
theorem d5_187 : decode prog_23_method_1_code 187 = .ok (.getfield 40, 3) := by decide +kernel
theorem d5_190 : decode prog_23_method_1_code 190 = .ok (.ifCond .ge 11, 3) := by decide +kernel
theorem d5_193 : decode prog_23_method_1_code 193 = .ok (.lload 15, 2) := by decide +kernel
theorem d5_195 : decode prog_23_method_1_code 195 = .ok (.lneg, 1) := by decide +kernel
theorem d5_196 : decode prog_23_method_1_code 196 = .ok (.lconst 1, 1) := by decide +kernel
theorem d5_197 : decode prog_23_method_1_code 197 = .ok (.lsub, 1) := by decide +kernel
theorem d5_198 : decode prog_23_method_1_code 198 = .ok (.goto 5, 3) := by decide +kernel
theorem d5_201 : decode prog_23_method_1_code 201 = .ok (.lload 15, 2) := by decide +kernel
theorem d5_203 : decode prog_23_method_1_code 203 = .ok (.l2i, 1) := by decide +kernel
theorem d5_204 : decode prog_23_method_1_code 204 = .ok (.putfield 57, 3) := by decide +kernel
theorem d5_207 : decode prog_23_method_1_code 207 = .ok (.aload_n 0, 1) := by decide +kernel
theorem d5_208 : decode prog_23_method_1_code 208 = .ok (.aload_n 0, 1) := by decide +kernel
theorem d5_209 : decode prog_23_method_1_code 209 = .ok (.getfield 44, 3) := by decide +kernel
theorem d5_212 : decode prog_23_method_1_code 212 = .ok (.ifCond .ge 11, 3) := by decide +kernel
theorem d5_215 : decode prog_23_method_1_code 215 = .ok (.lload 17, 2) := by decide +kernel
theorem d5_217 : decode prog_23_method_1_code 217 = .ok (.lneg, 1) := by decide +kernel
theorem d5_218 : decode prog_23_method_1_code 218 = .ok (.lconst 1, 1) := by decide +kernel
theorem d5_219 : decode prog_23_method_1_code 219 = .ok (.lsub, 1) := by decide +kernel
theorem d5_220 : decode prog_23_method_1_code 220 = .ok (.goto 5, 3) := by decide +kernel
theorem d5_223 : decode prog_23_method_1_code 223 = .ok (.lload 17, 2) := by decide +kernel
theorem d5_225 : decode prog_23_method_1_code 225 = .ok (.l2i, 1) := by decide +kernel
theorem d5_226 : decode prog_23_method_1_code 226 = .ok (.putfield 60, 3) := by decide +kernel
theorem d5_229 : decode prog_23_method_1_code 229 = .ok (.aload_n 0, 1) := by decide +kernel
theorem d5_230 : decode prog_23_method_1_code 230 = .ok (.aload_n 0, 1) := by decide +kernel
theorem d5_231 : decode prog_23_method_1_code 231 = .ok (.getfield 34, 3) := by decide +kernel
theorem d5_234 : decode prog_23_method_1_code 234 = .ok (.lconst 0, 1) := by decide +kernel
theorem d5_235 : decode prog_23_method_1_code 235 = .ok (.lcmp, 1) := by decide +kernel
theorem d5_236 : decode prog_23_method_1_code 236 = .ok (.ifCond .ne 13, 3) := by decide +kernel
theorem d5_249 : decode prog_23_method_1_code 249 = .ok (.aload_n 0, 1) := by decide +kernel
theorem d5_250 : decode prog_23_method_1_code 250 = .ok (.getfield 37, 3) := by decide +kernel
theorem d5_253 : decode prog_23_method_1_code 253 = .ok (.lconst 0, 1) := by decide +kernel
theorem d5_254 : decode prog_23_method_1_code 254 = .ok (.lcmp, 1) := by decide +kernel
theorem d5_255 : decode prog_23_method_1_code 255 = .ok (.ifCond .ne 13, 3) := by decide +kernel
theorem d5_268 : decode prog_23_method_1_code 268 = .ok (.iconst 1, 1) := by decide +kernel
theorem d5_269 : decode prog_23_method_1_code 269 = .ok (.goto 4, 3) := by decide +kernel
theorem d5_273 : decode prog_23_method_1_code 273 = .ok (.putfield 63, 3) := by decide +kernel
theorem d5_276 : decode prog_23_method_1_code 276 = .ok (.return_, 1) := by decide +kernel
theorem d5_258 : decode prog_23_method_1_code 258 = .ok (.aload_n 0, 1) := by decide +kernel
theorem d5_259 : decode prog_23_method_1_code 259 = .ok (.getfield 54, 3) := by decide +kernel
theorem d5_262 : decode prog_23_method_1_code 262 = .ok (.lload 9, 2) := by decide +kernel
theorem d5_264 : decode prog_23_method_1_code 264 = .ok (.lcmp, 1) := by decide +kernel
theorem d5_265 : decode prog_23_method_1_code 265 = .ok (.ifCond .eq 7, 3) := by decide +kernel
theorem d5_272 : decode prog_23_method_1_code 272 = .ok (.iconst 0, 1) := by decide +kernel
theorem d5_239 : decode prog_23_method_1_code 239 = .ok (.aload_n 0, 1) := by decide +kernel
theorem d5_240 : decode prog_23_method_1_code 240 = .ok (.getfield 51, 3) := by decide +kernel
theorem d5_243 : decode prog_23_method_1_code 243 = .ok (.lload 9, 2) := by decide +kernel
theorem d5_245 : decode prog_23_method_1_code 245 = .ok (.lcmp, 1) := by decide +kernel
theorem d5_246 : decode prog_23_method_1_code 246 = .ok (.ifCond .eq 26, 3) := by decide +kernel
theorem ef_5 (m : MethodId) (a0 : Addr) (q1 : Int64) (q2 : Int64) (q3 : Int64) (q4 : Int64) (q5 : Int64) : entryFrame m #[(.ref a0), (.long q1), (.long q2), (.long q3), (.long q4), (.long q5)] 19 = mkF m 0 #[.val (.ref a0), .val (.long q1), .second, .val (.long q2), .second, .val (.long q3), .second, .val (.long q4), .second, .val (.long q5), .second, .unset, .unset, .unset, .unset, .unset, .unset, .unset, .unset] [] := by first | (simp [entryFrame, mkF, argsToLocals, Value.category]; done) | rfl
/-- SegmentWalkNextPinLaw.mod -/
def modJ (q0 : Int64) (q1 : Int64) : Int64 := (if (q0 - (q0 / q1) * q1) < (0 : Int64) then ((q0 - (q0 / q1) * q1) + q1) else (q0 - (q0 / q1) * q1))
def Q1 (q0 : Int64) (q1 : Int64) (h0 : Heap) (v : Option Value) (h : Heap) (L : List Loc) : Prop := v = some (.long (modJ q0 q1)) ∧ h = h0 ∧ L = []
set_option maxRecDepth 65536 in
set_option maxHeartbeats 40000000 in
theorem rm1 (l : Launch) (Z : State) (aw : Array Value) (hw : ∀ d ∈ tables_1, d.before aw Z = true) (ws : List Jvm.Cond) (q0 : Int64) (q1 : Int64) (h0 : Heap) (hnz : ¬ q1 = 0) :
    MetFree l (⟨"com/example/sarutahiko/sarutahiko/lattice/SegmentWalkNextPinLaw", "mod", "(JJ)J"⟩ : MethodName) (head1 (Jvm.Cond.code (⟨"com/example/sarutahiko/sarutahiko/lattice/SegmentWalkNextPinLaw", "mod", "(JJ)J"⟩ : MethodName) method_2_code 6 (some .long) :: ws) ({ frames := 0, cells := 0, slots := 0, locals := 0 } : Room)) (fun a U => a = #[(.long q0), (.long q1)] ∧ Z.Warmed39 U.vm ∧ U.heap = h0) (fun _ _ _ _ _ => True) (fun _ U o U' => ∃ v L, o = .returned v ∧ Q1 q0 q1 h0 v U'.heap L ∧ FrameEnd U o U' L ({ frames := 0, cells := 0, slots := 0, locals := 0 } : Room).cells ({ frames := 0, cells := 0, slots := 0, locals := 0 } : Room).slots) := by
  refine MetFree.of_bodySF (plainFor_of_name pn_0) hisR ?_
  intro p e s m args below meth c s₁ Bd hml0 hP _hKK
  obtain ⟨rfl, hZ, hh⟩ := hP
  have hx := Bd.exec
  have hby := Bd.bytes
  have hml : c.maxLocals = 6 := hml0
  have hown : s.vm.findClass "com/example/sarutahiko/sarutahiko/lattice/SegmentWalkNextPinLaw" = some m.cls := findClass_of_methodNamed Bd.named
  have hnm := (name_of_methodNamed Bd.named Bd.method).1
  have X0 : Stand p l e ({ frames := 0, cells := 0, slots := 0, locals := 0 } : Room) s m #[(.long q0), (.long q1)] below meth c s₁ [] 0 0 := Stand.of_body Bd
  have e0 : s₁.heap = h0 := by rw [← hh, Bd.state]; rfl
  refine Ow.enter (Q := Q1 q0 q1 h0) (ef_1 m q0 q1) ?_
  show Ow p e below s _ _ _ (s₁.setTop (mkF m 0 #[.val (.long q0), .second, .val (.long q1), .second, .unset, .unset] []))
  refine w_lloadN X0 hx (Jvm.hb hby d1_0) rfl (pc' := 1) rfl ?_
  refine w_lloadN X0 hx (Jvm.hb hby d1_1) rfl (pc' := 2) rfl ?_
  refine w_lrem X0 hx (Jvm.hb hby d1_2) hnz (pc' := 3) rfl ?_
  refine w_lstore X0 hx (Jvm.hb hby d1_3) #[.val (.long q0), .second, .val (.long q1), .second, .val (.long (q0 - (q0 / q1) * q1)), .second] rfl  (pc' := 5) rfl ?_
  refine w_lload X0 hx (Jvm.hb hby d1_5) rfl (pc' := 7) rfl ?_
  refine w_lconst X0 hx (0 : Int64) (Jvm.hb hby d1_7) (by decide) (pc' := 8) rfl ?_
  refine w_lcmp_ge X0 hx (Jvm.hb hby d1_8) (Jvm.hb hby d1_9) rfl (by decide) (pcT := 19) (by decide) (pcF := 12) rfl (fun hc8_0 => ?_) (fun hc8_0 => ?_)
  · refine w_lload X0 hx (Jvm.hb hby d1_19) rfl (pc' := 21) rfl ?_
    exact w_lreturn X0 hx Bd.returns (BodyLoose.notSynchronized Bd) (Nat.le_of_ble_eq_true rfl) (Nat.le_of_ble_eq_true rfl) (Jvm.hb hby d1_21) ⟨congrArg (fun z => some (Value.long z)) (show (q0 - (q0 / q1) * q1) = modJ q0 q1 from by unfold modJ; rw [if_neg hc8_0]), e0, rfl⟩
  · refine w_lload X0 hx (Jvm.hb hby d1_12) rfl (pc' := 14) rfl ?_
    refine w_lloadN X0 hx (Jvm.hb hby d1_14) rfl (pc' := 15) rfl ?_
    refine w_ladd X0 hx (Jvm.hb hby d1_15) (pc' := 16) rfl ?_
    refine w_goto X0 hx (Jvm.hb hby d1_16) (by decide) (pc' := 21) (by decide) ?_
    exact w_lreturn X0 hx Bd.returns (BodyLoose.notSynchronized Bd) (Nat.le_of_ble_eq_true rfl) (Nat.le_of_ble_eq_true rfl) (Jvm.hb hby d1_21) ⟨congrArg (fun z => some (Value.long z)) (show ((q0 - (q0 / q1) * q1) + q1) = modJ q0 q1 from by unfold modJ; rw [if_pos hc8_0]), e0, rfl⟩
/-- Math.max -/
def mxJ (q0 : Int64) (q1 : Int64) : Int64 := (if q0 < q1 then q1 else q0)
def Q2 (q0 : Int64) (q1 : Int64) (h0 : Heap) (v : Option Value) (h : Heap) (L : List Loc) : Prop := v = some (.long (mxJ q0 q1)) ∧ h = h0 ∧ L = []
set_option maxRecDepth 65536 in
set_option maxHeartbeats 40000000 in
theorem rm2 (l : Launch) (Z : State) (aw : Array Value) (hw : ∀ d ∈ tables_1, d.before aw Z = true) (ws : List Jvm.Cond) (q0 : Int64) (q1 : Int64) (h0 : Heap) :
    MetFree l (⟨"java/lang/Math", "max", "(JJ)J"⟩ : MethodName) (head1 (Jvm.Cond.code (⟨"java/lang/Math", "max", "(JJ)J"⟩ : MethodName) jdk_29_method_66_code 4 (some .long) :: ws) ({ frames := 0, cells := 0, slots := 0, locals := 0 } : Room)) (fun a U => a = #[(.long q0), (.long q1)] ∧ Z.Warmed39 U.vm ∧ U.heap = h0) (fun _ _ _ _ _ => True) (fun _ U o U' => ∃ v L, o = .returned v ∧ Q2 q0 q1 h0 v U'.heap L ∧ FrameEnd U o U' L ({ frames := 0, cells := 0, slots := 0, locals := 0 } : Room).cells ({ frames := 0, cells := 0, slots := 0, locals := 0 } : Room).slots) := by
  refine MetFree.of_bodySF (Jvm.Free.JP.mathPlain rfl (by decide +kernel)) hisR ?_
  intro p e s m args below meth c s₁ Bd hml0 hP _hKK
  obtain ⟨rfl, hZ, hh⟩ := hP
  have hx := Bd.exec
  have hby := Bd.bytes
  have hml : c.maxLocals = 4 := hml0
  have hown : s.vm.findClass "java/lang/Math" = some m.cls := findClass_of_methodNamed Bd.named
  have hnm := (name_of_methodNamed Bd.named Bd.method).1
  have X0 : Stand p l e ({ frames := 0, cells := 0, slots := 0, locals := 0 } : Room) s m #[(.long q0), (.long q1)] below meth c s₁ [] 0 0 := Stand.of_body Bd
  have e0 : s₁.heap = h0 := by rw [← hh, Bd.state]; rfl
  refine Ow.enter (Q := Q2 q0 q1 h0) (ef_2 m q0 q1) ?_
  show Ow p e below s _ _ _ (s₁.setTop (mkF m 0 #[.val (.long q0), .second, .val (.long q1), .second] []))
  refine w_lloadN X0 hx (Jvm.hb hby d2_0) rfl (pc' := 1) rfl ?_
  refine w_lloadN X0 hx (Jvm.hb hby d2_1) rfl (pc' := 2) rfl ?_
  refine w_lcmp_lt X0 hx (Jvm.hb hby d2_2) (Jvm.hb hby d2_3) rfl (by decide) (pcT := 10) (by decide) (pcF := 6) rfl (fun hc2_0 => ?_) (fun hc2_0 => ?_)
  · refine w_lloadN X0 hx (Jvm.hb hby d2_10) rfl (pc' := 11) rfl ?_
    exact w_lreturn X0 hx Bd.returns (BodyLoose.notSynchronized Bd) (Nat.le_of_ble_eq_true rfl) (Nat.le_of_ble_eq_true rfl) (Jvm.hb hby d2_11) ⟨congrArg (fun z => some (Value.long z)) (show q1 = mxJ q0 q1 from by unfold mxJ; rw [if_pos hc2_0]), e0, rfl⟩
  · refine w_lloadN X0 hx (Jvm.hb hby d2_6) rfl (pc' := 7) rfl ?_
    refine w_goto X0 hx (Jvm.hb hby d2_7) (by decide) (pc' := 11) (by decide) ?_
    exact w_lreturn X0 hx Bd.returns (BodyLoose.notSynchronized Bd) (Nat.le_of_ble_eq_true rfl) (Nat.le_of_ble_eq_true rfl) (Jvm.hb hby d2_11) ⟨congrArg (fun z => some (Value.long z)) (show q0 = mxJ q0 q1 from by unfold mxJ; rw [if_neg hc2_0]), e0, rfl⟩
/-- Math.min -/
def mnJ (q0 : Int64) (q1 : Int64) : Int64 := (if q1 < q0 then q1 else q0)
def Q3 (q0 : Int64) (q1 : Int64) (h0 : Heap) (v : Option Value) (h : Heap) (L : List Loc) : Prop := v = some (.long (mnJ q0 q1)) ∧ h = h0 ∧ L = []
set_option maxRecDepth 65536 in
set_option maxHeartbeats 40000000 in
theorem rm3 (l : Launch) (Z : State) (aw : Array Value) (hw : ∀ d ∈ tables_1, d.before aw Z = true) (ws : List Jvm.Cond) (q0 : Int64) (q1 : Int64) (h0 : Heap) :
    MetFree l (⟨"java/lang/Math", "min", "(JJ)J"⟩ : MethodName) (head1 (Jvm.Cond.code (⟨"java/lang/Math", "min", "(JJ)J"⟩ : MethodName) jdk_29_method_70_code 4 (some .long) :: ws) ({ frames := 0, cells := 0, slots := 0, locals := 0 } : Room)) (fun a U => a = #[(.long q0), (.long q1)] ∧ Z.Warmed39 U.vm ∧ U.heap = h0) (fun _ _ _ _ _ => True) (fun _ U o U' => ∃ v L, o = .returned v ∧ Q3 q0 q1 h0 v U'.heap L ∧ FrameEnd U o U' L ({ frames := 0, cells := 0, slots := 0, locals := 0 } : Room).cells ({ frames := 0, cells := 0, slots := 0, locals := 0 } : Room).slots) := by
  refine MetFree.of_bodySF (Jvm.Free.JP.mathPlain rfl (by decide +kernel)) hisR ?_
  intro p e s m args below meth c s₁ Bd hml0 hP _hKK
  obtain ⟨rfl, hZ, hh⟩ := hP
  have hx := Bd.exec
  have hby := Bd.bytes
  have hml : c.maxLocals = 4 := hml0
  have hown : s.vm.findClass "java/lang/Math" = some m.cls := findClass_of_methodNamed Bd.named
  have hnm := (name_of_methodNamed Bd.named Bd.method).1
  have X0 : Stand p l e ({ frames := 0, cells := 0, slots := 0, locals := 0 } : Room) s m #[(.long q0), (.long q1)] below meth c s₁ [] 0 0 := Stand.of_body Bd
  have e0 : s₁.heap = h0 := by rw [← hh, Bd.state]; rfl
  refine Ow.enter (Q := Q3 q0 q1 h0) (ef_3 m q0 q1) ?_
  show Ow p e below s _ _ _ (s₁.setTop (mkF m 0 #[.val (.long q0), .second, .val (.long q1), .second] []))
  refine w_lloadN X0 hx (Jvm.hb hby d3_0) rfl (pc' := 1) rfl ?_
  refine w_lloadN X0 hx (Jvm.hb hby d3_1) rfl (pc' := 2) rfl ?_
  refine w_lcmp_gt X0 hx (Jvm.hb hby d3_2) (Jvm.hb hby d3_3) rfl (by decide) (pcT := 10) (by decide) (pcF := 6) rfl (fun hc2_0 => ?_) (fun hc2_0 => ?_)
  · refine w_lloadN X0 hx (Jvm.hb hby d3_10) rfl (pc' := 11) rfl ?_
    exact w_lreturn X0 hx Bd.returns (BodyLoose.notSynchronized Bd) (Nat.le_of_ble_eq_true rfl) (Nat.le_of_ble_eq_true rfl) (Jvm.hb hby d3_11) ⟨congrArg (fun z => some (Value.long z)) (show q1 = mnJ q0 q1 from by unfold mnJ; rw [if_pos hc2_0]), e0, rfl⟩
  · refine w_lloadN X0 hx (Jvm.hb hby d3_6) rfl (pc' := 7) rfl ?_
    refine w_goto X0 hx (Jvm.hb hby d3_7) (by decide) (pc' := 11) (by decide) ?_
    exact w_lreturn X0 hx Bd.returns (BodyLoose.notSynchronized Bd) (Nat.le_of_ble_eq_true rfl) (Nat.le_of_ble_eq_true rfl) (Jvm.hb hby d3_11) ⟨congrArg (fun z => some (Value.long z)) (show q0 = mnJ q0 q1 from by unfold mnJ; rw [if_neg hc2_0]), e0, rfl⟩
/-- SegmentWalkNextPinLaw.gap -/
def gapJ (p0 : Int32) (q1 : Int64) (q2 : Int64) : Int64 := (if p0 = (0 : Int32) then (q2 - q1) else (if q1 = (0 : Int64) then q2 else q1))
def Q4 (p0 : Int32) (q1 : Int64) (q2 : Int64) (h0 : Heap) (v : Option Value) (h : Heap) (L : List Loc) : Prop := v = some (.long (gapJ p0 q1 q2)) ∧ h = h0 ∧ L = []
set_option maxRecDepth 65536 in
set_option maxHeartbeats 40000000 in
theorem rm4 (l : Launch) (Z : State) (aw : Array Value) (hw : ∀ d ∈ tables_1, d.before aw Z = true) (ws : List Jvm.Cond) (p0 : Int32) (q1 : Int64) (q2 : Int64) (h0 : Heap) :
    MetFree l (⟨"com/example/sarutahiko/sarutahiko/lattice/SegmentWalkNextPinLaw", "gap", "(ZJJ)J"⟩ : MethodName) (head1 (Jvm.Cond.code (⟨"com/example/sarutahiko/sarutahiko/lattice/SegmentWalkNextPinLaw", "gap", "(ZJJ)J"⟩ : MethodName) method_3_code 5 (some .long) :: ws) ({ frames := 0, cells := 0, slots := 0, locals := 0 } : Room)) (fun a U => a = #[(.int p0), (.long q1), (.long q2)] ∧ Z.Warmed39 U.vm ∧ U.heap = h0) (fun _ _ _ _ _ => True) (fun _ U o U' => ∃ v L, o = .returned v ∧ Q4 p0 q1 q2 h0 v U'.heap L ∧ FrameEnd U o U' L ({ frames := 0, cells := 0, slots := 0, locals := 0 } : Room).cells ({ frames := 0, cells := 0, slots := 0, locals := 0 } : Room).slots) := by
  refine MetFree.of_bodySF (plainFor_of_name pn_0) hisR ?_
  intro p e s m args below meth c s₁ Bd hml0 hP _hKK
  obtain ⟨rfl, hZ, hh⟩ := hP
  have hx := Bd.exec
  have hby := Bd.bytes
  have hml : c.maxLocals = 5 := hml0
  have hown : s.vm.findClass "com/example/sarutahiko/sarutahiko/lattice/SegmentWalkNextPinLaw" = some m.cls := findClass_of_methodNamed Bd.named
  have hnm := (name_of_methodNamed Bd.named Bd.method).1
  have X0 : Stand p l e ({ frames := 0, cells := 0, slots := 0, locals := 0 } : Room) s m #[(.int p0), (.long q1), (.long q2)] below meth c s₁ [] 0 0 := Stand.of_body Bd
  have e0 : s₁.heap = h0 := by rw [← hh, Bd.state]; rfl
  refine Ow.enter (Q := Q4 p0 q1 q2 h0) (ef_4 m p0 q1 q2) ?_
  show Ow p e below s _ _ _ (s₁.setTop (mkF m 0 #[.val (.int p0), .val (.long q1), .second, .val (.long q2), .second] []))
  refine w_iloadN X0 hx (Jvm.hb hby d4_0) rfl (pc' := 1) rfl ?_
  refine w_if_ne X0 hx (Jvm.hb hby d4_1) (by decide) (pcT := 8) (by decide) (pcF := 4) rfl (fun hc1_0 => ?_) (fun hc1_0 => ?_)
  · refine w_lloadN X0 hx (Jvm.hb hby d4_8) rfl (pc' := 9) rfl ?_
    refine w_lconst X0 hx (0 : Int64) (Jvm.hb hby d4_9) (by decide) (pc' := 10) rfl ?_
    refine w_lcmp_ne X0 hx (Jvm.hb hby d4_10) (Jvm.hb hby d4_11) rfl (by decide) (pcT := 18) (by decide) (pcF := 14) rfl (fun hc10_1 => ?_) (fun hc10_1 => ?_)
    · refine w_lloadN X0 hx (Jvm.hb hby d4_18) rfl (pc' := 19) rfl ?_
      exact w_lreturn X0 hx Bd.returns (BodyLoose.notSynchronized Bd) (Nat.le_of_ble_eq_true rfl) (Nat.le_of_ble_eq_true rfl) (Jvm.hb hby d4_19) ⟨congrArg (fun z => some (Value.long z)) (show q1 = gapJ p0 q1 q2 from by unfold gapJ; rw [if_neg hc1_0, if_neg hc10_1]), e0, rfl⟩
    · refine w_lloadN X0 hx (Jvm.hb hby d4_14) rfl (pc' := 15) rfl ?_
      refine w_goto X0 hx (Jvm.hb hby d4_15) (by decide) (pc' := 19) (by decide) ?_
      exact w_lreturn X0 hx Bd.returns (BodyLoose.notSynchronized Bd) (Nat.le_of_ble_eq_true rfl) (Nat.le_of_ble_eq_true rfl) (Jvm.hb hby d4_19) ⟨congrArg (fun z => some (Value.long z)) (show q2 = gapJ p0 q1 q2 from by unfold gapJ; rw [if_neg hc1_0, if_pos hc10_1]), e0, rfl⟩
  · refine w_lloadN X0 hx (Jvm.hb hby d4_4) rfl (pc' := 5) rfl ?_
    refine w_lloadN X0 hx (Jvm.hb hby d4_5) rfl (pc' := 6) rfl ?_
    refine w_lsub X0 hx (Jvm.hb hby d4_6) (pc' := 7) rfl ?_
    exact w_lreturn X0 hx Bd.returns (BodyLoose.notSynchronized Bd) (Nat.le_of_ble_eq_true rfl) (Nat.le_of_ble_eq_true rfl) (Jvm.hb hby d4_7) ⟨congrArg (fun z => some (Value.long z)) (show (q2 - q1) = gapJ p0 q1 q2 from by unfold gapJ; rw [if_pos hc1_0]), e0, rfl⟩
/-- Math.floorDiv -/
def fdJ (q0 : Int64) (q1 : Int64) : Int64 := (if (q0 ^^^ q1) < (0 : Int64) then (if ((q0 / q1) * q1) = q0 then (q0 / q1) else ((q0 / q1) - (1 : Int64))) else (q0 / q1))
def Q8 (q0 : Int64) (q1 : Int64) (h0 : Heap) (v : Option Value) (h : Heap) (L : List Loc) : Prop := v = some (.long (fdJ q0 q1)) ∧ h = h0 ∧ L = []
set_option maxRecDepth 65536 in
set_option maxHeartbeats 40000000 in
theorem rm8 (l : Launch) (Z : State) (aw : Array Value) (hw : ∀ d ∈ tables_1, d.before aw Z = true) (ws : List Jvm.Cond) (q0 : Int64) (q1 : Int64) (h0 : Heap) (hnz : ¬ q1 = 0) :
    MetFree l (⟨"java/lang/Math", "floorDiv", "(JJ)J"⟩ : MethodName) (head1 (Jvm.Cond.code (⟨"java/lang/Math", "floorDiv", "(JJ)J"⟩ : MethodName) jdk_29_method_49_code 6 (some .long) :: ws) ({ frames := 0, cells := 0, slots := 0, locals := 0 } : Room)) (fun a U => a = #[(.long q0), (.long q1)] ∧ Z.Warmed39 U.vm ∧ U.heap = h0) (fun _ _ _ _ _ => True) (fun _ U o U' => ∃ v L, o = .returned v ∧ Q8 q0 q1 h0 v U'.heap L ∧ FrameEnd U o U' L ({ frames := 0, cells := 0, slots := 0, locals := 0 } : Room).cells ({ frames := 0, cells := 0, slots := 0, locals := 0 } : Room).slots) := by
  refine MetFree.of_bodySF (Jvm.Free.JP.mathPlain rfl (by decide +kernel)) hisR ?_
  intro p e s m args below meth c s₁ Bd hml0 hP _hKK
  obtain ⟨rfl, hZ, hh⟩ := hP
  have hx := Bd.exec
  have hby := Bd.bytes
  have hml : c.maxLocals = 6 := hml0
  have hown : s.vm.findClass "java/lang/Math" = some m.cls := findClass_of_methodNamed Bd.named
  have hnm := (name_of_methodNamed Bd.named Bd.method).1
  have X0 : Stand p l e ({ frames := 0, cells := 0, slots := 0, locals := 0 } : Room) s m #[(.long q0), (.long q1)] below meth c s₁ [] 0 0 := Stand.of_body Bd
  have e0 : s₁.heap = h0 := by rw [← hh, Bd.state]; rfl
  refine Ow.enter (Q := Q8 q0 q1 h0) (ef_8 m q0 q1) ?_
  show Ow p e below s _ _ _ (s₁.setTop (mkF m 0 #[.val (.long q0), .second, .val (.long q1), .second, .unset, .unset] []))
  refine w_lloadN X0 hx (Jvm.hb hby d8_0) rfl (pc' := 1) rfl ?_
  refine w_lloadN X0 hx (Jvm.hb hby d8_1) rfl (pc' := 2) rfl ?_
  refine w_ldiv X0 hx (Jvm.hb hby d8_2) hnz (pc' := 3) rfl ?_
  refine w_lstore X0 hx (Jvm.hb hby d8_3) #[.val (.long q0), .second, .val (.long q1), .second, .val (.long (q0 / q1)), .second] rfl  (pc' := 5) rfl ?_
  refine w_lloadN X0 hx (Jvm.hb hby d8_5) rfl (pc' := 6) rfl ?_
  refine w_lloadN X0 hx (Jvm.hb hby d8_6) rfl (pc' := 7) rfl ?_
  refine w_lxor X0 hx (Jvm.hb hby d8_7) (pc' := 8) rfl ?_
  refine w_lconst X0 hx (0 : Int64) (Jvm.hb hby d8_8) (by decide) (pc' := 9) rfl ?_
  refine w_lcmp_ge X0 hx (Jvm.hb hby d8_9) (Jvm.hb hby d8_10) rfl (by decide) (pcT := 27) (by decide) (pcF := 13) rfl (fun hc9_0 => ?_) (fun hc9_0 => ?_)
  · refine w_lload X0 hx (Jvm.hb hby d8_27) rfl (pc' := 29) rfl ?_
    exact w_lreturn X0 hx Bd.returns (BodyLoose.notSynchronized Bd) (Nat.le_of_ble_eq_true rfl) (Nat.le_of_ble_eq_true rfl) (Jvm.hb hby d8_29) ⟨congrArg (fun z => some (Value.long z)) (show (q0 / q1) = fdJ q0 q1 from by unfold fdJ; rw [if_neg hc9_0]), e0, rfl⟩
  · refine w_lload X0 hx (Jvm.hb hby d8_13) rfl (pc' := 15) rfl ?_
    refine w_lloadN X0 hx (Jvm.hb hby d8_15) rfl (pc' := 16) rfl ?_
    refine w_lmul X0 hx (Jvm.hb hby d8_16) (pc' := 17) rfl ?_
    refine w_lloadN X0 hx (Jvm.hb hby d8_17) rfl (pc' := 18) rfl ?_
    refine w_lcmp_eq X0 hx (Jvm.hb hby d8_18) (Jvm.hb hby d8_19) rfl (by decide) (pcT := 27) (by decide) (pcF := 22) rfl (fun hc18_1 => ?_) (fun hc18_1 => ?_)
    · refine w_lload X0 hx (Jvm.hb hby d8_27) rfl (pc' := 29) rfl ?_
      exact w_lreturn X0 hx Bd.returns (BodyLoose.notSynchronized Bd) (Nat.le_of_ble_eq_true rfl) (Nat.le_of_ble_eq_true rfl) (Jvm.hb hby d8_29) ⟨congrArg (fun z => some (Value.long z)) (show (q0 / q1) = fdJ q0 q1 from by unfold fdJ; rw [if_pos hc9_0, if_pos hc18_1]), e0, rfl⟩
    · refine w_lload X0 hx (Jvm.hb hby d8_22) rfl (pc' := 24) rfl ?_
      refine w_lconst X0 hx (1 : Int64) (Jvm.hb hby d8_24) (by decide) (pc' := 25) rfl ?_
      refine w_lsub X0 hx (Jvm.hb hby d8_25) (pc' := 26) rfl ?_
      exact w_lreturn X0 hx Bd.returns (BodyLoose.notSynchronized Bd) (Nat.le_of_ble_eq_true rfl) (Nat.le_of_ble_eq_true rfl) (Jvm.hb hby d8_26) ⟨congrArg (fun z => some (Value.long z)) (show ((q0 / q1) - (1 : Int64)) = fdJ q0 q1 from by unfold fdJ; rw [if_pos hc9_0, if_neg hc18_1]), e0, rfl⟩
/-- Math.abs -/
def absJ (q0 : Int64) : Int64 := (if q0 < (0 : Int64) then (-q0) else q0)
def Q9 (q0 : Int64) (h0 : Heap) (v : Option Value) (h : Heap) (L : List Loc) : Prop := v = some (.long (absJ q0)) ∧ h = h0 ∧ L = []
set_option maxRecDepth 65536 in
set_option maxHeartbeats 40000000 in
theorem rm9 (l : Launch) (Z : State) (aw : Array Value) (hw : ∀ d ∈ tables_1, d.before aw Z = true) (ws : List Jvm.Cond) (q0 : Int64) (h0 : Heap) :
    MetFree l (⟨"java/lang/Math", "abs", "(J)J"⟩ : MethodName) (head1 (Jvm.Cond.code (⟨"java/lang/Math", "abs", "(J)J"⟩ : MethodName) jdk_29_method_61_code 2 (some .long) :: ws) ({ frames := 0, cells := 0, slots := 0, locals := 0 } : Room)) (fun a U => a = #[(.long q0)] ∧ Z.Warmed39 U.vm ∧ U.heap = h0) (fun _ _ _ _ _ => True) (fun _ U o U' => ∃ v L, o = .returned v ∧ Q9 q0 h0 v U'.heap L ∧ FrameEnd U o U' L ({ frames := 0, cells := 0, slots := 0, locals := 0 } : Room).cells ({ frames := 0, cells := 0, slots := 0, locals := 0 } : Room).slots) := by
  refine MetFree.of_bodySF (Jvm.Free.JP.mathPlain rfl (by decide +kernel)) hisR ?_
  intro p e s m args below meth c s₁ Bd hml0 hP _hKK
  obtain ⟨rfl, hZ, hh⟩ := hP
  have hx := Bd.exec
  have hby := Bd.bytes
  have hml : c.maxLocals = 2 := hml0
  have hown : s.vm.findClass "java/lang/Math" = some m.cls := findClass_of_methodNamed Bd.named
  have hnm := (name_of_methodNamed Bd.named Bd.method).1
  have X0 : Stand p l e ({ frames := 0, cells := 0, slots := 0, locals := 0 } : Room) s m #[(.long q0)] below meth c s₁ [] 0 0 := Stand.of_body Bd
  have e0 : s₁.heap = h0 := by rw [← hh, Bd.state]; rfl
  refine Ow.enter (Q := Q9 q0 h0) (ef_9 m q0) ?_
  show Ow p e below s _ _ _ (s₁.setTop (mkF m 0 #[.val (.long q0), .second] []))
  refine w_lloadN X0 hx (Jvm.hb hby d9_0) rfl (pc' := 1) rfl ?_
  refine w_lconst X0 hx (0 : Int64) (Jvm.hb hby d9_1) (by decide) (pc' := 2) rfl ?_
  refine w_lcmp_ge X0 hx (Jvm.hb hby d9_2) (Jvm.hb hby d9_3) rfl (by decide) (pcT := 11) (by decide) (pcF := 6) rfl (fun hc2_0 => ?_) (fun hc2_0 => ?_)
  · refine w_lloadN X0 hx (Jvm.hb hby d9_11) rfl (pc' := 12) rfl ?_
    exact w_lreturn X0 hx Bd.returns (BodyLoose.notSynchronized Bd) (Nat.le_of_ble_eq_true rfl) (Nat.le_of_ble_eq_true rfl) (Jvm.hb hby d9_12) ⟨congrArg (fun z => some (Value.long z)) (show q0 = absJ q0 from by unfold absJ; rw [if_neg hc2_0]), e0, rfl⟩
  · refine w_lloadN X0 hx (Jvm.hb hby d9_6) rfl (pc' := 7) rfl ?_
    refine w_lneg X0 hx (Jvm.hb hby d9_7) (pc' := 8) rfl ?_
    refine w_goto X0 hx (Jvm.hb hby d9_8) (by decide) (pc' := 12) (by decide) ?_
    exact w_lreturn X0 hx Bd.returns (BodyLoose.notSynchronized Bd) (Nat.le_of_ble_eq_true rfl) (Nat.le_of_ble_eq_true rfl) (Jvm.hb hby d9_12) ⟨congrArg (fun z => some (Value.long z)) (show (-q0) = absJ q0 from by unfold absJ; rw [if_pos hc2_0]), e0, rfl⟩
def mhJ_t0 (q0 : Int64) (q1 : Int64) : Int64 := (q0 >>> ((32 : Int32) &&& 0x3f).toInt64)
def mhJ_t1 (q0 : Int64) (q1 : Int64) : Int64 := (q0 &&& (4294967295 : Int64))
def mhJ_t2 (q0 : Int64) (q1 : Int64) : Int64 := (q1 >>> ((32 : Int32) &&& 0x3f).toInt64)
def mhJ_t3 (q0 : Int64) (q1 : Int64) : Int64 := (q1 &&& (4294967295 : Int64))
def mhJ_t4 (q0 : Int64) (q1 : Int64) : Int64 := ((mhJ_t1 q0 q1) * (mhJ_t3 q0 q1))
def mhJ_t5 (q0 : Int64) (q1 : Int64) : Int64 := (((mhJ_t0 q0 q1) * (mhJ_t3 q0 q1)) + (lsr64 (mhJ_t4 q0 q1) (32 : Int32)))
def mhJ_t6 (q0 : Int64) (q1 : Int64) : Int64 := ((mhJ_t5 q0 q1) &&& (4294967295 : Int64))
def mhJ_t7 (q0 : Int64) (q1 : Int64) : Int64 := ((mhJ_t5 q0 q1) >>> ((32 : Int32) &&& 0x3f).toInt64)
def mhJ_t8 (q0 : Int64) (q1 : Int64) : Int64 := ((mhJ_t6 q0 q1) + ((mhJ_t1 q0 q1) * (mhJ_t2 q0 q1)))
/-- Math.multiplyHigh -/
def mhJ (q0 : Int64) (q1 : Int64) : Int64 := ((((mhJ_t0 q0 q1) * (mhJ_t2 q0 q1)) + (mhJ_t7 q0 q1)) + ((mhJ_t8 q0 q1) >>> ((32 : Int32) &&& 0x3f).toInt64))
def Q14 (q0 : Int64) (q1 : Int64) (h0 : Heap) (v : Option Value) (h : Heap) (L : List Loc) : Prop := v = some (.long (mhJ q0 q1)) ∧ h = h0 ∧ L = []
set_option maxRecDepth 65536 in
set_option maxHeartbeats 40000000 in
theorem rm14 (l : Launch) (Z : State) (aw : Array Value) (hw : ∀ d ∈ tables_1, d.before aw Z = true) (ws : List Jvm.Cond) (q0 : Int64) (q1 : Int64) (h0 : Heap) :
    MetFree l (⟨"java/lang/Math", "multiplyHigh", "(JJ)J"⟩ : MethodName) (head1 (Jvm.Cond.code (⟨"java/lang/Math", "multiplyHigh", "(JJ)J"⟩ : MethodName) jdk_29_method_45_code 20 (some .long) :: ws) ({ frames := 0, cells := 0, slots := 0, locals := 0 } : Room)) (fun a U => a = #[(.long q0), (.long q1)] ∧ Z.Warmed39 U.vm ∧ U.heap = h0) (fun _ _ _ _ _ => True) (fun _ U o U' => ∃ v L, o = .returned v ∧ Q14 q0 q1 h0 v U'.heap L ∧ FrameEnd U o U' L ({ frames := 0, cells := 0, slots := 0, locals := 0 } : Room).cells ({ frames := 0, cells := 0, slots := 0, locals := 0 } : Room).slots) := by
  refine MetFree.of_bodySF (Jvm.Free.JP.mathPlain rfl (by decide +kernel)) hisR ?_
  intro p e s m args below meth c s₁ Bd hml0 hP _hKK
  obtain ⟨rfl, hZ, hh⟩ := hP
  have hx := Bd.exec
  have hby := Bd.bytes
  have hml : c.maxLocals = 20 := hml0
  have hown : s.vm.findClass "java/lang/Math" = some m.cls := findClass_of_methodNamed Bd.named
  have hnm := (name_of_methodNamed Bd.named Bd.method).1
  have X0 : Stand p l e ({ frames := 0, cells := 0, slots := 0, locals := 0 } : Room) s m #[(.long q0), (.long q1)] below meth c s₁ [] 0 0 := Stand.of_body Bd
  have e0 : s₁.heap = h0 := by rw [← hh, Bd.state]; rfl
  refine Ow.enter (Q := Q14 q0 q1 h0) (ef_14 m q0 q1) ?_
  show Ow p e below s _ _ _ (s₁.setTop (mkF m 0 #[.val (.long q0), .second, .val (.long q1), .second, .unset, .unset, .unset, .unset, .unset, .unset, .unset, .unset, .unset, .unset, .unset, .unset, .unset, .unset, .unset, .unset] []))
  refine w_lloadN X0 hx (Jvm.hb hby d14_0) rfl (pc' := 1) rfl ?_
  refine w_bipush X0 hx (32 : Int32) (Jvm.hb hby d14_1) (by decide) (pc' := 3) rfl ?_
  refine w_lshr X0 hx (Jvm.hb hby d14_3) (pc' := 4) rfl ?_
  refine w_lstore X0 hx (Jvm.hb hby d14_4) #[.val (.long q0), .second, .val (.long q1), .second, .val (.long (mhJ_t0 q0 q1)), .second, .unset, .unset, .unset, .unset, .unset, .unset, .unset, .unset, .unset, .unset, .unset, .unset, .unset, .unset] rfl  (pc' := 6) rfl ?_
  refine w_lloadN X0 hx (Jvm.hb hby d14_6) rfl (pc' := 7) rfl ?_
  refine w_ldc2J X0 hx hZ hown (hw _ (List.mem_of_getElem? (i := 88) rfl)) (Jvm.hb hby d14_7) (pc' := 10) rfl ?_
  refine w_land X0 hx (Jvm.hb hby d14_10) (pc' := 11) rfl ?_
  refine w_lstore X0 hx (Jvm.hb hby d14_11) #[.val (.long q0), .second, .val (.long q1), .second, .val (.long (mhJ_t0 q0 q1)), .second, .val (.long (mhJ_t1 q0 q1)), .second, .unset, .unset, .unset, .unset, .unset, .unset, .unset, .unset, .unset, .unset, .unset, .unset] rfl  (pc' := 13) rfl ?_
  refine w_lloadN X0 hx (Jvm.hb hby d14_13) rfl (pc' := 14) rfl ?_
  refine w_bipush X0 hx (32 : Int32) (Jvm.hb hby d14_14) (by decide) (pc' := 16) rfl ?_
  refine w_lshr X0 hx (Jvm.hb hby d14_16) (pc' := 17) rfl ?_
  refine w_lstore X0 hx (Jvm.hb hby d14_17) #[.val (.long q0), .second, .val (.long q1), .second, .val (.long (mhJ_t0 q0 q1)), .second, .val (.long (mhJ_t1 q0 q1)), .second, .val (.long (mhJ_t2 q0 q1)), .second, .unset, .unset, .unset, .unset, .unset, .unset, .unset, .unset, .unset, .unset] rfl  (pc' := 19) rfl ?_
  refine w_lloadN X0 hx (Jvm.hb hby d14_19) rfl (pc' := 20) rfl ?_
  refine w_ldc2J X0 hx hZ hown (hw _ (List.mem_of_getElem? (i := 88) rfl)) (Jvm.hb hby d14_20) (pc' := 23) rfl ?_
  refine w_land X0 hx (Jvm.hb hby d14_23) (pc' := 24) rfl ?_
  refine w_lstore X0 hx (Jvm.hb hby d14_24) #[.val (.long q0), .second, .val (.long q1), .second, .val (.long (mhJ_t0 q0 q1)), .second, .val (.long (mhJ_t1 q0 q1)), .second, .val (.long (mhJ_t2 q0 q1)), .second, .val (.long (mhJ_t3 q0 q1)), .second, .unset, .unset, .unset, .unset, .unset, .unset, .unset, .unset] rfl  (pc' := 26) rfl ?_
  refine w_lload X0 hx (Jvm.hb hby d14_26) rfl (pc' := 28) rfl ?_
  refine w_lload X0 hx (Jvm.hb hby d14_28) rfl (pc' := 30) rfl ?_
  refine w_lmul X0 hx (Jvm.hb hby d14_30) (pc' := 31) rfl ?_
  refine w_lstore X0 hx (Jvm.hb hby d14_31) #[.val (.long q0), .second, .val (.long q1), .second, .val (.long (mhJ_t0 q0 q1)), .second, .val (.long (mhJ_t1 q0 q1)), .second, .val (.long (mhJ_t2 q0 q1)), .second, .val (.long (mhJ_t3 q0 q1)), .second, .val (.long (mhJ_t4 q0 q1)), .second, .unset, .unset, .unset, .unset, .unset, .unset] rfl  (pc' := 33) rfl ?_
  refine w_lload X0 hx (Jvm.hb hby d14_33) rfl (pc' := 35) rfl ?_
  refine w_lload X0 hx (Jvm.hb hby d14_35) rfl (pc' := 37) rfl ?_
  refine w_lmul X0 hx (Jvm.hb hby d14_37) (pc' := 38) rfl ?_
  refine w_lload X0 hx (Jvm.hb hby d14_38) rfl (pc' := 40) rfl ?_
  refine w_bipush X0 hx (32 : Int32) (Jvm.hb hby d14_40) (by decide) (pc' := 42) rfl ?_
  refine w_lushr X0 hx (Jvm.hb hby d14_42) (pc' := 43) rfl ?_
  refine w_ladd X0 hx (Jvm.hb hby d14_43) (pc' := 44) rfl ?_
  refine w_lstore X0 hx (Jvm.hb hby d14_44) #[.val (.long q0), .second, .val (.long q1), .second, .val (.long (mhJ_t0 q0 q1)), .second, .val (.long (mhJ_t1 q0 q1)), .second, .val (.long (mhJ_t2 q0 q1)), .second, .val (.long (mhJ_t3 q0 q1)), .second, .val (.long (mhJ_t4 q0 q1)), .second, .val (.long (mhJ_t5 q0 q1)), .second, .unset, .unset, .unset, .unset] rfl  (pc' := 46) rfl ?_
  refine w_lload X0 hx (Jvm.hb hby d14_46) rfl (pc' := 48) rfl ?_
  refine w_ldc2J X0 hx hZ hown (hw _ (List.mem_of_getElem? (i := 88) rfl)) (Jvm.hb hby d14_48) (pc' := 51) rfl ?_
  refine w_land X0 hx (Jvm.hb hby d14_51) (pc' := 52) rfl ?_
  refine w_lstore X0 hx (Jvm.hb hby d14_52) #[.val (.long q0), .second, .val (.long q1), .second, .val (.long (mhJ_t0 q0 q1)), .second, .val (.long (mhJ_t1 q0 q1)), .second, .val (.long (mhJ_t2 q0 q1)), .second, .val (.long (mhJ_t3 q0 q1)), .second, .val (.long (mhJ_t4 q0 q1)), .second, .val (.long (mhJ_t5 q0 q1)), .second, .val (.long (mhJ_t6 q0 q1)), .second, .unset, .unset] rfl  (pc' := 54) rfl ?_
  refine w_lload X0 hx (Jvm.hb hby d14_54) rfl (pc' := 56) rfl ?_
  refine w_bipush X0 hx (32 : Int32) (Jvm.hb hby d14_56) (by decide) (pc' := 58) rfl ?_
  refine w_lshr X0 hx (Jvm.hb hby d14_58) (pc' := 59) rfl ?_
  refine w_lstore X0 hx (Jvm.hb hby d14_59) #[.val (.long q0), .second, .val (.long q1), .second, .val (.long (mhJ_t0 q0 q1)), .second, .val (.long (mhJ_t1 q0 q1)), .second, .val (.long (mhJ_t2 q0 q1)), .second, .val (.long (mhJ_t3 q0 q1)), .second, .val (.long (mhJ_t4 q0 q1)), .second, .val (.long (mhJ_t5 q0 q1)), .second, .val (.long (mhJ_t6 q0 q1)), .second, .val (.long (mhJ_t7 q0 q1)), .second] rfl  (pc' := 61) rfl ?_
  refine w_lload X0 hx (Jvm.hb hby d14_61) rfl (pc' := 63) rfl ?_
  refine w_lload X0 hx (Jvm.hb hby d14_63) rfl (pc' := 65) rfl ?_
  refine w_lload X0 hx (Jvm.hb hby d14_65) rfl (pc' := 67) rfl ?_
  refine w_lmul X0 hx (Jvm.hb hby d14_67) (pc' := 68) rfl ?_
  refine w_ladd X0 hx (Jvm.hb hby d14_68) (pc' := 69) rfl ?_
  refine w_lstore X0 hx (Jvm.hb hby d14_69) #[.val (.long q0), .second, .val (.long q1), .second, .val (.long (mhJ_t0 q0 q1)), .second, .val (.long (mhJ_t1 q0 q1)), .second, .val (.long (mhJ_t2 q0 q1)), .second, .val (.long (mhJ_t3 q0 q1)), .second, .val (.long (mhJ_t4 q0 q1)), .second, .val (.long (mhJ_t5 q0 q1)), .second, .val (.long (mhJ_t8 q0 q1)), .second, .val (.long (mhJ_t7 q0 q1)), .second] rfl  (pc' := 71) rfl ?_
  refine w_lload X0 hx (Jvm.hb hby d14_71) rfl (pc' := 73) rfl ?_
  refine w_lload X0 hx (Jvm.hb hby d14_73) rfl (pc' := 75) rfl ?_
  refine w_lmul X0 hx (Jvm.hb hby d14_75) (pc' := 76) rfl ?_
  refine w_lload X0 hx (Jvm.hb hby d14_76) rfl (pc' := 78) rfl ?_
  refine w_ladd X0 hx (Jvm.hb hby d14_78) (pc' := 79) rfl ?_
  refine w_lload X0 hx (Jvm.hb hby d14_79) rfl (pc' := 81) rfl ?_
  refine w_bipush X0 hx (32 : Int32) (Jvm.hb hby d14_81) (by decide) (pc' := 83) rfl ?_
  refine w_lshr X0 hx (Jvm.hb hby d14_83) (pc' := 84) rfl ?_
  refine w_ladd X0 hx (Jvm.hb hby d14_84) (pc' := 85) rfl ?_
  exact w_lreturn X0 hx Bd.returns (BodyLoose.notSynchronized Bd) (Nat.le_of_ble_eq_true rfl) (Nat.le_of_ble_eq_true rfl) (Jvm.hb hby d14_85) ⟨congrArg (fun z => some (Value.long z)) (show ((((mhJ_t0 q0 q1) * (mhJ_t2 q0 q1)) + (mhJ_t7 q0 q1)) + ((mhJ_t8 q0 q1) >>> ((32 : Int32) &&& 0x3f).toInt64)) = mhJ q0 q1 from by unfold mhJ; rfl), e0, rfl⟩
/-- Long.compare -/
def cmpJ (q0 : Int64) (q1 : Int64) : Int32 := (if q0 < q1 then (-1 : Int32) else (if q0 = q1 then (0 : Int32) else (1 : Int32)))
def Q15 (q0 : Int64) (q1 : Int64) (h0 : Heap) (v : Option Value) (h : Heap) (L : List Loc) : Prop := v = some (.int (cmpJ q0 q1)) ∧ h = h0 ∧ L = []
set_option maxRecDepth 65536 in
set_option maxHeartbeats 40000000 in
theorem rm15 (l : Launch) (Z : State) (aw : Array Value) (hw : ∀ d ∈ tables_1, d.before aw Z = true) (ws : List Jvm.Cond) (q0 : Int64) (q1 : Int64) (h0 : Heap) :
    MetFree l (⟨"java/lang/Long", "compare", "(JJ)I"⟩ : MethodName) (head1 (Jvm.Cond.code (⟨"java/lang/Long", "compare", "(JJ)I"⟩ : MethodName) jdk_35_method_42_code 4 (some .int) :: ws) ({ frames := 0, cells := 0, slots := 0, locals := 0 } : Room)) (fun a U => a = #[(.long q0), (.long q1)] ∧ Z.Warmed39 U.vm ∧ U.heap = h0) (fun _ _ _ _ _ => True) (fun _ U o U' => ∃ v L, o = .returned v ∧ Q15 q0 q1 h0 v U'.heap L ∧ FrameEnd U o U' L ({ frames := 0, cells := 0, slots := 0, locals := 0 } : Room).cells ({ frames := 0, cells := 0, slots := 0, locals := 0 } : Room).slots) := by
  refine MetFree.of_bodySF (plainFor_of_name pn_1) hisR ?_
  intro p e s m args below meth c s₁ Bd hml0 hP _hKK
  obtain ⟨rfl, hZ, hh⟩ := hP
  have hx := Bd.exec
  have hby := Bd.bytes
  have hml : c.maxLocals = 4 := hml0
  have hown : s.vm.findClass "java/lang/Long" = some m.cls := findClass_of_methodNamed Bd.named
  have hnm := (name_of_methodNamed Bd.named Bd.method).1
  have X0 : Stand p l e ({ frames := 0, cells := 0, slots := 0, locals := 0 } : Room) s m #[(.long q0), (.long q1)] below meth c s₁ [] 0 0 := Stand.of_body Bd
  have e0 : s₁.heap = h0 := by rw [← hh, Bd.state]; rfl
  refine Ow.enter (Q := Q15 q0 q1 h0) (ef_15 m q0 q1) ?_
  show Ow p e below s _ _ _ (s₁.setTop (mkF m 0 #[.val (.long q0), .second, .val (.long q1), .second] []))
  refine w_lloadN X0 hx (Jvm.hb hby d15_0) rfl (pc' := 1) rfl ?_
  refine w_lloadN X0 hx (Jvm.hb hby d15_1) rfl (pc' := 2) rfl ?_
  refine w_lcmp_ge X0 hx (Jvm.hb hby d15_2) (Jvm.hb hby d15_3) rfl (by decide) (pcT := 10) (by decide) (pcF := 6) rfl (fun hc2_0 => ?_) (fun hc2_0 => ?_)
  · refine w_lloadN X0 hx (Jvm.hb hby d15_10) rfl (pc' := 11) rfl ?_
    refine w_lloadN X0 hx (Jvm.hb hby d15_11) rfl (pc' := 12) rfl ?_
    refine w_lcmp_ne X0 hx (Jvm.hb hby d15_12) (Jvm.hb hby d15_13) rfl (by decide) (pcT := 20) (by decide) (pcF := 16) rfl (fun hc12_1 => ?_) (fun hc12_1 => ?_)
    · refine w_iconst X0 hx (1 : Int32) (Jvm.hb hby d15_20) (by decide) (pc' := 21) rfl ?_
      exact w_ireturn X0 hx Bd.returns (BodyLoose.notSynchronized Bd) (Nat.le_of_ble_eq_true rfl) (Nat.le_of_ble_eq_true rfl) (Jvm.hb hby d15_21) ⟨congrArg (fun z => some (Value.int z)) (show (1 : Int32) = cmpJ q0 q1 from by unfold cmpJ; rw [if_neg hc2_0, if_neg hc12_1]), e0, rfl⟩
    · refine w_iconst X0 hx (0 : Int32) (Jvm.hb hby d15_16) (by decide) (pc' := 17) rfl ?_
      refine w_goto X0 hx (Jvm.hb hby d15_17) (by decide) (pc' := 21) (by decide) ?_
      exact w_ireturn X0 hx Bd.returns (BodyLoose.notSynchronized Bd) (Nat.le_of_ble_eq_true rfl) (Nat.le_of_ble_eq_true rfl) (Jvm.hb hby d15_21) ⟨congrArg (fun z => some (Value.int z)) (show (0 : Int32) = cmpJ q0 q1 from by unfold cmpJ; rw [if_neg hc2_0, if_pos hc12_1]), e0, rfl⟩
  · refine w_iconst X0 hx (-1 : Int32) (Jvm.hb hby d15_6) (by decide) (pc' := 7) rfl ?_
    refine w_goto X0 hx (Jvm.hb hby d15_7) (by decide) (pc' := 21) (by decide) ?_
    exact w_ireturn X0 hx Bd.returns (BodyLoose.notSynchronized Bd) (Nat.le_of_ble_eq_true rfl) (Nat.le_of_ble_eq_true rfl) (Jvm.hb hby d15_21) ⟨congrArg (fun z => some (Value.int z)) (show (-1 : Int32) = cmpJ q0 q1 from by unfold cmpJ; rw [if_pos hc2_0]), e0, rfl⟩
/-- Long.compareUnsigned -/
def cmuJ (q0 : Int64) (q1 : Int64) : Int32 := (cmpJ (q0 + (-9223372036854775808 : Int64)) (q1 + (-9223372036854775808 : Int64)))
def Q16 (q0 : Int64) (q1 : Int64) (h0 : Heap) (v : Option Value) (h : Heap) (L : List Loc) : Prop := v = some (.int (cmuJ q0 q1)) ∧ h = h0 ∧ L = []
set_option maxRecDepth 65536 in
set_option maxHeartbeats 40000000 in
theorem rm16 (l : Launch) (Z : State) (aw : Array Value) (hw : ∀ d ∈ tables_1, d.before aw Z = true) (ws : List Jvm.Cond) (q0 : Int64) (q1 : Int64) (h0 : Heap) :
    MetFree l (⟨"java/lang/Long", "compareUnsigned", "(JJ)I"⟩ : MethodName) (head1 (Jvm.Cond.code (⟨"java/lang/Long", "compareUnsigned", "(JJ)I"⟩ : MethodName) jdk_35_method_43_code 4 (some .int) :: ws) ({ frames := 1, cells := 0, slots := 0, locals := 15 } : Room)) (fun a U => a = #[(.long q0), (.long q1)] ∧ Z.Warmed39 U.vm ∧ U.heap = h0) (fun _ _ _ _ _ => True) (fun _ U o U' => ∃ v L, o = .returned v ∧ Q16 q0 q1 h0 v U'.heap L ∧ FrameEnd U o U' L ({ frames := 1, cells := 0, slots := 0, locals := 15 } : Room).cells ({ frames := 1, cells := 0, slots := 0, locals := 15 } : Room).slots) := by
  refine MetFree.of_bodySF (plainFor_of_name pn_1) hisR ?_
  intro p e s m args below meth c s₁ Bd hml0 hP _hKK
  obtain ⟨rfl, hZ, hh⟩ := hP
  have hx := Bd.exec
  have hby := Bd.bytes
  have hml : c.maxLocals = 4 := hml0
  have hown : s.vm.findClass "java/lang/Long" = some m.cls := findClass_of_methodNamed Bd.named
  have hnm := (name_of_methodNamed Bd.named Bd.method).1
  have X0 : Stand p l e ({ frames := 1, cells := 0, slots := 0, locals := 15 } : Room) s m #[(.long q0), (.long q1)] below meth c s₁ [] 0 0 := Stand.of_body Bd
  have e0 : s₁.heap = h0 := by rw [← hh, Bd.state]; rfl
  refine Ow.enter (Q := Q16 q0 q1 h0) (ef_16 m q0 q1) ?_
  show Ow p e below s _ _ _ (s₁.setTop (mkF m 0 #[.val (.long q0), .second, .val (.long q1), .second] []))
  refine w_lloadN X0 hx (Jvm.hb hby d16_0) rfl (pc' := 1) rfl ?_
  refine w_ldc2J X0 hx hZ hown (hw _ (List.mem_of_getElem? (i := 96) rfl)) (Jvm.hb hby d16_1) (pc' := 4) rfl ?_
  refine w_ladd X0 hx (Jvm.hb hby d16_4) (pc' := 5) rfl ?_
  refine w_lloadN X0 hx (Jvm.hb hby d16_5) rfl (pc' := 6) rfl ?_
  refine w_ldc2J X0 hx hZ hown (hw _ (List.mem_of_getElem? (i := 96) rfl)) (Jvm.hb hby d16_6) (pc' := 9) rfl ?_
  refine w_ladd X0 hx (Jvm.hb hby d16_9) (pc' := 10) rfl ?_
  refine w_callS X0 hx hZ hown (hw _ (List.mem_of_getElem? (i := 97) rfl)) (hw _ (List.mem_of_getElem? (i := 90) rfl)) (hw _ (List.mem_of_getElem? (i := 91) rfl)) (hw _ (List.mem_of_getElem? (i := 92) rfl)) (by decide) (W := 0) (rm15 l Z aw hw [] (q0 + (-9223372036854775808 : Int64)) (q1 + (-9223372036854775808 : Int64)) h0) e0 (by decide) (by decide) (by decide) (by decide) (Jvm.hb hby d16_10) (by rw [hml]; rfl) (argsL := [(.long (q0 + (-9223372036854775808 : Int64))), (.long (q1 + (-9223372036854775808 : Int64)))]) (rest := []) pd_0 rfl rfl rfl (Nat.le_of_eq rfl) (pc' := 13) rfl ?_
  rintro _ T21 L21 X21 ⟨rfl, e21, rfl⟩
  show Ow p e below s _ _ _ (T21.setTop (mkF m 13 #[.val (.long q0), .second, .val (.long q1), .second] [(.int (cmpJ (q0 + (-9223372036854775808 : Int64)) (q1 + (-9223372036854775808 : Int64))))]))
  exact w_ireturn X21 hx Bd.returns (BodyLoose.notSynchronized Bd) (Nat.le_of_ble_eq_true rfl) (Nat.le_of_ble_eq_true rfl) (Jvm.hb hby d16_13) ⟨congrArg (fun z => some (Value.int z)) (show (cmpJ (q0 + (-9223372036854775808 : Int64)) (q1 + (-9223372036854775808 : Int64))) = cmuJ q0 q1 from by unfold cmuJ; rfl), e21, rfl⟩
def cpJ_t0 (q0 : Int64) (q1 : Int64) (q2 : Int64) (q3 : Int64) : Int32 := (cmpJ (mhJ q0 q1) (mhJ q2 q3))
/-- SegmentWalk.compareProducts -/
def cpJ (q0 : Int64) (q1 : Int64) (q2 : Int64) (q3 : Int64) : Int32 := (if (cpJ_t0 q0 q1 q2 q3) = (0 : Int32) then (cmuJ (q0 * q1) (q2 * q3)) else (cpJ_t0 q0 q1 q2 q3))
def Q13 (q0 : Int64) (q1 : Int64) (q2 : Int64) (q3 : Int64) (h0 : Heap) (v : Option Value) (h : Heap) (L : List Loc) : Prop := v = some (.int (cpJ q0 q1 q2 q3)) ∧ h = h0 ∧ L = []
set_option maxRecDepth 65536 in
set_option maxHeartbeats 40000000 in
theorem rm13 (l : Launch) (Z : State) (aw : Array Value) (hw : ∀ d ∈ tables_1, d.before aw Z = true) (ws : List Jvm.Cond) (q0 : Int64) (q1 : Int64) (q2 : Int64) (q3 : Int64) (h0 : Heap) :
    MetFree l (⟨"com/example/sarutahiko/sarutahiko/lattice/SegmentWalk", "compareProducts", "(JJJJ)I"⟩ : MethodName) (head1 (Jvm.Cond.code (⟨"com/example/sarutahiko/sarutahiko/lattice/SegmentWalk", "compareProducts", "(JJJJ)I"⟩ : MethodName) prog_23_method_4_code 9 (some .int) :: ws) ({ frames := 2, cells := 0, slots := 0, locals := 33 } : Room)) (fun a U => a = #[(.long q0), (.long q1), (.long q2), (.long q3)] ∧ Z.Warmed39 U.vm ∧ U.heap = h0) (fun _ _ _ _ _ => True) (fun _ U o U' => ∃ v L, o = .returned v ∧ Q13 q0 q1 q2 q3 h0 v U'.heap L ∧ FrameEnd U o U' L ({ frames := 2, cells := 0, slots := 0, locals := 33 } : Room).cells ({ frames := 2, cells := 0, slots := 0, locals := 33 } : Room).slots) := by
  refine MetFree.of_bodySF (plainFor_of_name pn_2) hisR ?_
  intro p e s m args below meth c s₁ Bd hml0 hP _hKK
  obtain ⟨rfl, hZ, hh⟩ := hP
  have hx := Bd.exec
  have hby := Bd.bytes
  have hml : c.maxLocals = 9 := hml0
  have hown : s.vm.findClass "com/example/sarutahiko/sarutahiko/lattice/SegmentWalk" = some m.cls := findClass_of_methodNamed Bd.named
  have hnm := (name_of_methodNamed Bd.named Bd.method).1
  have X0 : Stand p l e ({ frames := 2, cells := 0, slots := 0, locals := 33 } : Room) s m #[(.long q0), (.long q1), (.long q2), (.long q3)] below meth c s₁ [] 0 0 := Stand.of_body Bd
  have e0 : s₁.heap = h0 := by rw [← hh, Bd.state]; rfl
  refine Ow.enter (Q := Q13 q0 q1 q2 q3 h0) (ef_13 m q0 q1 q2 q3) ?_
  show Ow p e below s _ _ _ (s₁.setTop (mkF m 0 #[.val (.long q0), .second, .val (.long q1), .second, .val (.long q2), .second, .val (.long q3), .second, .unset] []))
  refine w_lloadN X0 hx (Jvm.hb hby d13_0) rfl (pc' := 1) rfl ?_
  refine w_lloadN X0 hx (Jvm.hb hby d13_1) rfl (pc' := 2) rfl ?_
  refine w_callS X0 hx hZ hown (hw _ (List.mem_of_getElem? (i := 85) rfl)) (hw _ (List.mem_of_getElem? (i := 86) rfl)) (hw _ (List.mem_of_getElem? (i := 11) rfl)) (hw _ (List.mem_of_getElem? (i := 87) rfl)) (by decide) (W := 0) (rm14 l Z aw hw [] q0 q1 h0) e0 (by decide) (by decide) (by decide) (by decide) (Jvm.hb hby d13_2) (by rw [hml]; rfl) (argsL := [(.long q0), (.long q1)]) (rest := []) pd_1 rfl rfl rfl (Nat.le_of_eq rfl) (pc' := 5) rfl ?_
  rintro _ T22 L22 X22 ⟨rfl, e22, rfl⟩
  show Ow p e below s _ _ _ (T22.setTop (mkF m 5 #[.val (.long q0), .second, .val (.long q1), .second, .val (.long q2), .second, .val (.long q3), .second, .unset] [(.long (mhJ q0 q1))]))
  refine w_lload X22 hx (Jvm.hb hby d13_5) rfl (pc' := 7) rfl ?_
  refine w_lload X22 hx (Jvm.hb hby d13_7) rfl (pc' := 9) rfl ?_
  refine w_callS X22 hx hZ hown (hw _ (List.mem_of_getElem? (i := 85) rfl)) (hw _ (List.mem_of_getElem? (i := 86) rfl)) (hw _ (List.mem_of_getElem? (i := 11) rfl)) (hw _ (List.mem_of_getElem? (i := 87) rfl)) (by decide) (W := 2) (rm14 l Z aw hw [] q2 q3 h0) e22 (by decide) (by decide) (by decide) (by decide) (Jvm.hb hby d13_9) (by rw [hml]; rfl) (argsL := [(.long q2), (.long q3)]) (rest := [(.long (mhJ q0 q1))]) pd_1 rfl rfl rfl (Nat.le_of_eq rfl) (pc' := 12) rfl ?_
  rintro _ T23 L23 X23 ⟨rfl, e23, rfl⟩
  show Ow p e below s _ _ _ (T23.setTop (mkF m 12 #[.val (.long q0), .second, .val (.long q1), .second, .val (.long q2), .second, .val (.long q3), .second, .unset] [(.long (mhJ q2 q3)), (.long (mhJ q0 q1))]))
  refine w_callS X23 hx hZ hown (hw _ (List.mem_of_getElem? (i := 89) rfl)) (hw _ (List.mem_of_getElem? (i := 90) rfl)) (hw _ (List.mem_of_getElem? (i := 91) rfl)) (hw _ (List.mem_of_getElem? (i := 92) rfl)) (by decide) (W := 0) (rm15 l Z aw hw [] (mhJ q0 q1) (mhJ q2 q3) h0) e23 (by decide) (by decide) (by decide) (by decide) (Jvm.hb hby d13_12) (by rw [hml]; rfl) (argsL := [(.long (mhJ q0 q1)), (.long (mhJ q2 q3))]) (rest := []) pd_0 rfl rfl rfl (Nat.le_of_eq rfl) (pc' := 15) rfl ?_
  rintro _ T24 L24 X24 ⟨rfl, e24, rfl⟩
  show Ow p e below s _ _ _ (T24.setTop (mkF m 15 #[.val (.long q0), .second, .val (.long q1), .second, .val (.long q2), .second, .val (.long q3), .second, .unset] [(.int (cmpJ (mhJ q0 q1) (mhJ q2 q3)))]))
  refine w_istore X24 hx (Jvm.hb hby d13_15) #[.val (.long q0), .second, .val (.long q1), .second, .val (.long q2), .second, .val (.long q3), .second, .val (.int (cpJ_t0 q0 q1 q2 q3))] rfl  (pc' := 17) rfl ?_
  refine w_iload X24 hx (Jvm.hb hby d13_17) rfl (pc' := 19) rfl ?_
  refine w_if_ne X24 hx (Jvm.hb hby d13_19) (by decide) (pcT := 35) (by decide) (pcF := 22) rfl (fun hc19_0 => ?_) (fun hc19_0 => ?_)
  · refine w_iload X24 hx (Jvm.hb hby d13_35) rfl (pc' := 37) rfl ?_
    exact w_ireturn X24 hx Bd.returns (BodyLoose.notSynchronized Bd) (Nat.le_of_ble_eq_true rfl) (Nat.le_of_ble_eq_true rfl) (Jvm.hb hby d13_37) ⟨congrArg (fun z => some (Value.int z)) (show (cpJ_t0 q0 q1 q2 q3) = cpJ q0 q1 q2 q3 from by unfold cpJ; rw [if_neg hc19_0]), e24, rfl⟩
  · refine w_lloadN X24 hx (Jvm.hb hby d13_22) rfl (pc' := 23) rfl ?_
    refine w_lloadN X24 hx (Jvm.hb hby d13_23) rfl (pc' := 24) rfl ?_
    refine w_lmul X24 hx (Jvm.hb hby d13_24) (pc' := 25) rfl ?_
    refine w_lload X24 hx (Jvm.hb hby d13_25) rfl (pc' := 27) rfl ?_
    refine w_lload X24 hx (Jvm.hb hby d13_27) rfl (pc' := 29) rfl ?_
    refine w_lmul X24 hx (Jvm.hb hby d13_29) (pc' := 30) rfl ?_
    refine w_callS X24 hx hZ hown (hw _ (List.mem_of_getElem? (i := 93) rfl)) (hw _ (List.mem_of_getElem? (i := 94) rfl)) (hw _ (List.mem_of_getElem? (i := 91) rfl)) (hw _ (List.mem_of_getElem? (i := 95) rfl)) (by decide) (W := 0) (rm16 l Z aw hw [] (q0 * q1) (q2 * q3) h0) e24 (by decide) (by decide) (by decide) (by decide) (Jvm.hb hby d13_30) (by rw [hml]; rfl) (argsL := [(.long (q0 * q1)), (.long (q2 * q3))]) (rest := []) pd_0 rfl rfl rfl (Nat.le_of_eq rfl) (pc' := 33) rfl ?_
    rintro _ T25 L25 X25 ⟨rfl, e25, rfl⟩
    show Ow p e below s _ _ _ (T25.setTop (mkF m 33 #[.val (.long q0), .second, .val (.long q1), .second, .val (.long q2), .second, .val (.long q3), .second, .val (.int (cpJ_t0 q0 q1 q2 q3))] [(.int (cmuJ (q0 * q1) (q2 * q3)))]))
    refine w_istore X25 hx (Jvm.hb hby d13_33) #[.val (.long q0), .second, .val (.long q1), .second, .val (.long q2), .second, .val (.long q3), .second, .val (.int (cmuJ (q0 * q1) (q2 * q3)))] rfl  (pc' := 35) rfl ?_
    refine w_iload X25 hx (Jvm.hb hby d13_35) rfl (pc' := 37) rfl ?_
    exact w_ireturn X25 hx Bd.returns (BodyLoose.notSynchronized Bd) (Nat.le_of_ble_eq_true rfl) (Nat.le_of_ble_eq_true rfl) (Jvm.hb hby d13_37) ⟨congrArg (fun z => some (Value.int z)) (show (cmuJ (q0 * q1) (q2 * q3)) = cpJ q0 q1 q2 q3 from by unfold cpJ; rw [if_pos hc19_0]), e25, rfl⟩
def SWo (Z : State) (h : Heap) (a : Addr) (sd : Int64) (sx : Int64) (sy : Int64) (sc : Int32) (sr : Int32) (ps : Int32) (cl : Int32) (rw' : Int32) (tc : Int64) (tr : Int64) (st : Int32) : Prop := Fld Z h a "com/example/sarutahiko/sarutahiko/lattice/SegmentWalk" "side" "J" (.long sd) ∧ Fld Z h a "com/example/sarutahiko/sarutahiko/lattice/SegmentWalk" "spanX" "J" (.long sx) ∧ Fld Z h a "com/example/sarutahiko/sarutahiko/lattice/SegmentWalk" "spanY" "J" (.long sy) ∧ Fld Z h a "com/example/sarutahiko/sarutahiko/lattice/SegmentWalk" "stepColumn" "I" (.int sc) ∧ Fld Z h a "com/example/sarutahiko/sarutahiko/lattice/SegmentWalk" "stepRow" "I" (.int sr) ∧ Fld Z h a "com/example/sarutahiko/sarutahiko/lattice/SegmentWalk" "passes" "Z" (.int ps) ∧ Fld Z h a "com/example/sarutahiko/sarutahiko/lattice/SegmentWalk" "column" "I" (.int cl) ∧ Fld Z h a "com/example/sarutahiko/sarutahiko/lattice/SegmentWalk" "row" "I" (.int rw') ∧ Fld Z h a "com/example/sarutahiko/sarutahiko/lattice/SegmentWalk" "toColumnLine" "J" (.long tc) ∧ Fld Z h a "com/example/sarutahiko/sarutahiko/lattice/SegmentWalk" "toRowLine" "J" (.long tr) ∧ Fld Z h a "com/example/sarutahiko/sarutahiko/lattice/SegmentWalk" "started" "Z" (.int st) ∧ Exa Z h a "com/example/sarutahiko/sarutahiko/lattice/SegmentWalk"
def Q11 (x : Int32) (h0 : Heap) (v : Option Value) (h : Heap) (L : List Loc) : Prop := v = some (.int x) ∧ h = h0 ∧ L = []
set_option maxRecDepth 65536 in
set_option maxHeartbeats 40000000 in
theorem rm11 (l : Launch) (Z : State) (aw : Array Value) (hw : ∀ d ∈ tables_1, d.before aw Z = true) (ws : List Jvm.Cond) (a0 : Addr) (x : Int32) (h0 : Heap) (F : Fld Z h0 a0 "com/example/sarutahiko/sarutahiko/lattice/SegmentWalk" "column" "I" (.int x)) :
    MetFree l (⟨"com/example/sarutahiko/sarutahiko/lattice/SegmentWalk", "getColumn", "()I"⟩ : MethodName) (head1 (Jvm.Cond.code (⟨"com/example/sarutahiko/sarutahiko/lattice/SegmentWalk", "getColumn", "()I"⟩ : MethodName) prog_23_method_5_code 1 (some .int) :: ws) ({ frames := 0, cells := 0, slots := 0, locals := 0 } : Room)) (fun a U => a = #[(.ref a0)] ∧ Z.Warmed39 U.vm ∧ U.heap = h0) (fun _ _ _ _ _ => True) (fun _ U o U' => ∃ v L, o = .returned v ∧ Q11 x h0 v U'.heap L ∧ FrameEnd U o U' L ({ frames := 0, cells := 0, slots := 0, locals := 0 } : Room).cells ({ frames := 0, cells := 0, slots := 0, locals := 0 } : Room).slots) := by
  refine MetFree.of_bodySF (plainFor_of_name pn_2) hisR ?_
  intro p e s m args below meth c s₁ Bd hml0 hP _hKK
  obtain ⟨rfl, hZ, hh⟩ := hP
  have hx := Bd.exec
  have hby := Bd.bytes
  have hml : c.maxLocals = 1 := hml0
  have hown : s.vm.findClass "com/example/sarutahiko/sarutahiko/lattice/SegmentWalk" = some m.cls := findClass_of_methodNamed Bd.named
  have hnm := (name_of_methodNamed Bd.named Bd.method).1
  have X0 : Stand p l e ({ frames := 0, cells := 0, slots := 0, locals := 0 } : Room) s m #[(.ref a0)] below meth c s₁ [] 0 0 := Stand.of_body Bd
  have e0 : s₁.heap = h0 := by rw [← hh, Bd.state]; rfl
  refine Ow.enter (Q := Q11 x h0) (ef_11 m a0) ?_
  show Ow p e below s _ _ _ (s₁.setTop (mkF m 0 #[.val (.ref a0)] []))
  refine w_aloadN X0 hx (Jvm.hb hby d11_0) rfl rfl (pc' := 1) rfl ?_
  refine w_getfield X0 hx hZ hown (host := "") (Or.inl (hw _ (List.mem_of_getElem? (i := 58) rfl))) Via.refl e0 F (Jvm.hb hby d11_1) (pc' := 4) rfl ?_
  intro T26 X26 e26
  exact w_ireturn X26 hx Bd.returns (BodyLoose.notSynchronized Bd) (Nat.le_of_ble_eq_true rfl) (Nat.le_of_ble_eq_true rfl) (Jvm.hb hby d11_4) ⟨rfl, e26, rfl⟩
def Q12 (x : Int32) (h0 : Heap) (v : Option Value) (h : Heap) (L : List Loc) : Prop := v = some (.int x) ∧ h = h0 ∧ L = []
set_option maxRecDepth 65536 in
set_option maxHeartbeats 40000000 in
theorem rm12 (l : Launch) (Z : State) (aw : Array Value) (hw : ∀ d ∈ tables_1, d.before aw Z = true) (ws : List Jvm.Cond) (a0 : Addr) (x : Int32) (h0 : Heap) (F : Fld Z h0 a0 "com/example/sarutahiko/sarutahiko/lattice/SegmentWalk" "row" "I" (.int x)) :
    MetFree l (⟨"com/example/sarutahiko/sarutahiko/lattice/SegmentWalk", "getRow", "()I"⟩ : MethodName) (head1 (Jvm.Cond.code (⟨"com/example/sarutahiko/sarutahiko/lattice/SegmentWalk", "getRow", "()I"⟩ : MethodName) prog_23_method_6_code 1 (some .int) :: ws) ({ frames := 0, cells := 0, slots := 0, locals := 0 } : Room)) (fun a U => a = #[(.ref a0)] ∧ Z.Warmed39 U.vm ∧ U.heap = h0) (fun _ _ _ _ _ => True) (fun _ U o U' => ∃ v L, o = .returned v ∧ Q12 x h0 v U'.heap L ∧ FrameEnd U o U' L ({ frames := 0, cells := 0, slots := 0, locals := 0 } : Room).cells ({ frames := 0, cells := 0, slots := 0, locals := 0 } : Room).slots) := by
  refine MetFree.of_bodySF (plainFor_of_name pn_2) hisR ?_
  intro p e s m args below meth c s₁ Bd hml0 hP _hKK
  obtain ⟨rfl, hZ, hh⟩ := hP
  have hx := Bd.exec
  have hby := Bd.bytes
  have hml : c.maxLocals = 1 := hml0
  have hown : s.vm.findClass "com/example/sarutahiko/sarutahiko/lattice/SegmentWalk" = some m.cls := findClass_of_methodNamed Bd.named
  have hnm := (name_of_methodNamed Bd.named Bd.method).1
  have X0 : Stand p l e ({ frames := 0, cells := 0, slots := 0, locals := 0 } : Room) s m #[(.ref a0)] below meth c s₁ [] 0 0 := Stand.of_body Bd
  have e0 : s₁.heap = h0 := by rw [← hh, Bd.state]; rfl
  refine Ow.enter (Q := Q12 x h0) (ef_12 m a0) ?_
  show Ow p e below s _ _ _ (s₁.setTop (mkF m 0 #[.val (.ref a0)] []))
  refine w_aloadN X0 hx (Jvm.hb hby d12_0) rfl rfl (pc' := 1) rfl ?_
  refine w_getfield X0 hx hZ hown (host := "") (Or.inl (hw _ (List.mem_of_getElem? (i := 60) rfl))) Via.refl e0 F (Jvm.hb hby d12_1) (pc' := 4) rfl ?_
  intro T27 X27 e27
  exact w_ireturn X27 hx Bd.returns (BodyLoose.notSynchronized Bd) (Nat.le_of_ble_eq_true rfl) (Nat.le_of_ble_eq_true rfl) (Jvm.hb hby d12_4) ⟨rfl, e27, rfl⟩
def QN_first (Z : State) (a0 : Addr) (sd : Int64) (sx : Int64) (sy : Int64) (sc : Int32) (sr : Int32) (ps : Int32) (cl : Int32) (rw' : Int32) (tc : Int64) (tr : Int64) (h0 : Heap) (n0 : Nat) (v : Option Value) (h : Heap) (L : List Loc) : Prop := v = some (.int ps) ∧ Fr n0 L ∧ Keep h0 h [a0] ∧ SWo Z h a0 sd sx sy sc sr ps cl rw' tc tr (1 : Int32)
set_option maxRecDepth 65536 in
set_option maxHeartbeats 40000000 in
theorem rmN_first (l : Launch) (Z : State) (aw : Array Value) (hw : ∀ d ∈ tables_1, d.before aw Z = true) (ws : List Jvm.Cond) (a0 : Addr) (sd : Int64) (sx : Int64) (sy : Int64) (sc : Int32) (sr : Int32) (ps : Int32) (cl : Int32) (rw' : Int32) (tc : Int64) (tr : Int64) (h0 : Heap) (n0 : Nat) (g : n0 ≤ a0) (O : SWo Z h0 a0 sd sx sy sc sr ps cl rw' tc tr (0 : Int32)) (hps : ps = 0 ∨ ps = 1) :
    MetFree l (⟨"com/example/sarutahiko/sarutahiko/lattice/SegmentWalk", "next", "()Z"⟩ : MethodName) (head1 (Jvm.Cond.code (⟨"com/example/sarutahiko/sarutahiko/lattice/SegmentWalk", "next", "()Z"⟩ : MethodName) prog_23_method_3_code 5 (some .boolean) :: ws) ({ frames := 3, cells := 0, slots := 0, locals := 60 } : Room)) (fun a U => a = #[(.ref a0)] ∧ Z.Warmed39 U.vm ∧ U.heap = h0) (fun _ _ _ _ _ => True) (fun _ U o U' => ∃ v L, o = .returned v ∧ QN_first Z a0 sd sx sy sc sr ps cl rw' tc tr h0 n0 v U'.heap L ∧ FrameEnd U o U' L ({ frames := 3, cells := 0, slots := 0, locals := 60 } : Room).cells ({ frames := 3, cells := 0, slots := 0, locals := 60 } : Room).slots) := by
  refine MetFree.of_bodySF (plainFor_of_name pn_2) hisR ?_
  intro p e s m args below meth c s₁ Bd hml0 hP _hKK
  obtain ⟨rfl, hZ, hh⟩ := hP
  have hx := Bd.exec
  have hby := Bd.bytes
  have hml : c.maxLocals = 5 := hml0
  have hown : s.vm.findClass "com/example/sarutahiko/sarutahiko/lattice/SegmentWalk" = some m.cls := findClass_of_methodNamed Bd.named
  have hnm := (name_of_methodNamed Bd.named Bd.method).1
  have X0 : Stand p l e ({ frames := 3, cells := 0, slots := 0, locals := 60 } : Room) s m #[(.ref a0)] below meth c s₁ [] 0 0 := Stand.of_body Bd
  have e0 : s₁.heap = h0 := by rw [← hh, Bd.state]; rfl
  refine Ow.enter (Q := QN_first Z a0 sd sx sy sc sr ps cl rw' tc tr h0 n0) (ef_10 m a0) ?_
  show Ow p e below s _ _ _ (s₁.setTop (mkF m 0 #[.val (.ref a0), .unset, .unset, .unset, .unset] []))
  obtain ⟨F_side, F_spanX, F_spanY, F_stepColumn, F_stepRow, F_passes, F_column, F_row, F_toColumnLine, F_toRowLine, F_started, E⟩ := O
  refine w_iconst X0 hx (0 : Int32) (Jvm.hb hby d10_0) (by decide) (pc' := 1) rfl ?_
  refine w_istoreN X0 hx (Jvm.hb hby d10_1) #[.val (.ref a0), .val (.int (0 : Int32)), .unset, .unset, .unset] rfl  (pc' := 2) rfl ?_
  refine w_aloadN X0 hx (Jvm.hb hby d10_2) rfl rfl (pc' := 3) rfl ?_
  refine w_getfield X0 hx hZ hown (host := "") (Or.inl (hw _ (List.mem_of_getElem? (i := 69) rfl))) Via.refl e0 F_started (Jvm.hb hby d10_3) (pc' := 6) rfl ?_
  intro T28 X28 e28
  refine w_if_ne X28 hx (Jvm.hb hby d10_6) (by decide) (pcT := 22) (by decide) (pcF := 9) rfl (fun q => absurd (rfl : (0 : Int32) = 0) q) (fun _ => ?_)
  refine w_aloadN X28 hx (Jvm.hb hby d10_9) rfl rfl (pc' := 10) rfl ?_
  refine w_iconst X28 hx (1 : Int32) (Jvm.hb hby d10_10) (by decide) (pc' := 11) rfl ?_
  refine w_putfield X28 hx hZ hown (host := "") (Or.inl (hw _ (List.mem_of_getElem? (i := 69) rfl))) Via.refl e28 F_started E (Or.inl (hw _ (List.mem_of_getElem? (i := 70) rfl))) (hw _ (List.mem_of_getElem? (i := 23) rfl)) (ty := .boolean) (by decide) rfl rfl (Jvm.hb hby d10_11) (pc' := 14) rfl ?_
  intro T29 h29 X29 e29 W29
  have F29_side := F_side.other W29 (Or.inr (slot_ne (Or.inr (hw _ (List.mem_of_getElem? (i := 42) rfl))) (Or.inl (hw _ (List.mem_of_getElem? (i := 70) rfl))) (by decide) (t := .long) (t' := .boolean) (by decide) (by decide)))
  have F29_spanX := F_spanX.other W29 (Or.inr (slot_ne (Or.inr (hw _ (List.mem_of_getElem? (i := 47) rfl))) (Or.inl (hw _ (List.mem_of_getElem? (i := 70) rfl))) (by decide) (t := .long) (t' := .boolean) (by decide) (by decide)))
  have F29_spanY := F_spanY.other W29 (Or.inr (slot_ne (Or.inr (hw _ (List.mem_of_getElem? (i := 49) rfl))) (Or.inl (hw _ (List.mem_of_getElem? (i := 70) rfl))) (by decide) (t := .long) (t' := .boolean) (by decide) (by decide)))
  have F29_stepColumn := F_stepColumn.other W29 (Or.inr (slot_ne (Or.inr (hw _ (List.mem_of_getElem? (i := 51) rfl))) (Or.inl (hw _ (List.mem_of_getElem? (i := 70) rfl))) (by decide) (t := .int) (t' := .boolean) (by decide) (by decide)))
  have F29_stepRow := F_stepRow.other W29 (Or.inr (slot_ne (Or.inr (hw _ (List.mem_of_getElem? (i := 53) rfl))) (Or.inl (hw _ (List.mem_of_getElem? (i := 70) rfl))) (by decide) (t := .int) (t' := .boolean) (by decide) (by decide)))
  have F29_passes := F_passes.other W29 (Or.inr (slot_ne (Or.inr (hw _ (List.mem_of_getElem? (i := 63) rfl))) (Or.inl (hw _ (List.mem_of_getElem? (i := 70) rfl))) (by decide) (t := .boolean) (t' := .boolean) (by decide) (by decide)))
  have F29_column := F_column.other W29 (Or.inr (slot_ne (Or.inl (hw _ (List.mem_of_getElem? (i := 59) rfl))) (Or.inl (hw _ (List.mem_of_getElem? (i := 70) rfl))) (by decide) (t := .int) (t' := .boolean) (by decide) (by decide)))
  have F29_row := F_row.other W29 (Or.inr (slot_ne (Or.inl (hw _ (List.mem_of_getElem? (i := 61) rfl))) (Or.inl (hw _ (List.mem_of_getElem? (i := 70) rfl))) (by decide) (t := .int) (t' := .boolean) (by decide) (by decide)))
  have F29_toColumnLine := F_toColumnLine.other W29 (Or.inr (slot_ne (Or.inl (hw _ (List.mem_of_getElem? (i := 55) rfl))) (Or.inl (hw _ (List.mem_of_getElem? (i := 70) rfl))) (by decide) (t := .long) (t' := .boolean) (by decide) (by decide)))
  have F29_toRowLine := F_toRowLine.other W29 (Or.inr (slot_ne (Or.inl (hw _ (List.mem_of_getElem? (i := 57) rfl))) (Or.inl (hw _ (List.mem_of_getElem? (i := 70) rfl))) (by decide) (t := .long) (t' := .boolean) (by decide) (by decide)))
  have F29_started := F_started.same W29
  have E29 := E.wr W29
  have K29 : Keep h0 h29 [a0] := Keep.of_wr W29
  have N29 := Fr.snoc X29 (Fr.nil n0) g
  refine w_aloadN X29 hx (Jvm.hb hby d10_14) rfl rfl (pc' := 15) rfl ?_
  refine w_getfield X29 hx hZ hown (host := "") (Or.inl (hw _ (List.mem_of_getElem? (i := 62) rfl))) Via.refl e29 F29_passes (Jvm.hb hby d10_15) (pc' := 18) rfl ?_
  intro T30 X30 e30
  refine w_istoreN X30 hx (Jvm.hb hby d10_18) #[.val (.ref a0), .val (.int ps), .unset, .unset, .unset] rfl  (pc' := 19) rfl ?_
  refine w_goto X30 hx (Jvm.hb hby d10_19) (by decide) (pc' := 202) (by decide) ?_
  refine w_iloadN X30 hx (Jvm.hb hby d10_202) rfl (pc' := 203) rfl ?_
  exact w_zreturn X30 hx Bd.returns hps (BodyLoose.notSynchronized Bd) (Nat.le_of_ble_eq_true rfl) (Nat.le_of_ble_eq_true rfl) (Jvm.hb hby d10_203) ⟨rfl, N29, by rw [e30]; exact ⟨K29, ⟨F29_side, F29_spanX, F29_spanY, F29_stepColumn, F29_stepRow, F29_passes, F29_column, F29_row, F29_toColumnLine, F29_toRowLine, F29_started, E29⟩⟩⟩
def QN_stop0 (Z : State) (a0 : Addr) (sd : Int64) (sx : Int64) (sy : Int64) (sc : Int32) (sr : Int32) (ps : Int32) (cl : Int32) (rw' : Int32) (tc : Int64) (tr : Int64) (h0 : Heap) (n0 : Nat) (v : Option Value) (h : Heap) (L : List Loc) : Prop := v = some (.int (0 : Int32)) ∧ Fr n0 L ∧ Keep h0 h [a0] ∧ SWo Z h a0 sd sx sy sc sr ps cl rw' tc tr (1 : Int32)
set_option maxRecDepth 65536 in
set_option maxHeartbeats 40000000 in
theorem rmN_stop0 (l : Launch) (Z : State) (aw : Array Value) (hw : ∀ d ∈ tables_1, d.before aw Z = true) (ws : List Jvm.Cond) (a0 : Addr) (sd : Int64) (sx : Int64) (sy : Int64) (sc : Int32) (sr : Int32) (ps : Int32) (cl : Int32) (rw' : Int32) (tc : Int64) (tr : Int64) (h0 : Heap) (n0 : Nat) (g : n0 ≤ a0) (O : SWo Z h0 a0 sd sx sy sc sr ps cl rw' tc tr (1 : Int32)) (hp : ps = 0) :
    MetFree l (⟨"com/example/sarutahiko/sarutahiko/lattice/SegmentWalk", "next", "()Z"⟩ : MethodName) (head1 (Jvm.Cond.code (⟨"com/example/sarutahiko/sarutahiko/lattice/SegmentWalk", "next", "()Z"⟩ : MethodName) prog_23_method_3_code 5 (some .boolean) :: ws) ({ frames := 3, cells := 0, slots := 0, locals := 60 } : Room)) (fun a U => a = #[(.ref a0)] ∧ Z.Warmed39 U.vm ∧ U.heap = h0) (fun _ _ _ _ _ => True) (fun _ U o U' => ∃ v L, o = .returned v ∧ QN_stop0 Z a0 sd sx sy sc sr ps cl rw' tc tr h0 n0 v U'.heap L ∧ FrameEnd U o U' L ({ frames := 3, cells := 0, slots := 0, locals := 60 } : Room).cells ({ frames := 3, cells := 0, slots := 0, locals := 60 } : Room).slots) := by
  refine MetFree.of_bodySF (plainFor_of_name pn_2) hisR ?_
  intro p e s m args below meth c s₁ Bd hml0 hP _hKK
  obtain ⟨rfl, hZ, hh⟩ := hP
  have hx := Bd.exec
  have hby := Bd.bytes
  have hml : c.maxLocals = 5 := hml0
  have hown : s.vm.findClass "com/example/sarutahiko/sarutahiko/lattice/SegmentWalk" = some m.cls := findClass_of_methodNamed Bd.named
  have hnm := (name_of_methodNamed Bd.named Bd.method).1
  have X0 : Stand p l e ({ frames := 3, cells := 0, slots := 0, locals := 60 } : Room) s m #[(.ref a0)] below meth c s₁ [] 0 0 := Stand.of_body Bd
  have e0 : s₁.heap = h0 := by rw [← hh, Bd.state]; rfl
  refine Ow.enter (Q := QN_stop0 Z a0 sd sx sy sc sr ps cl rw' tc tr h0 n0) (ef_10 m a0) ?_
  show Ow p e below s _ _ _ (s₁.setTop (mkF m 0 #[.val (.ref a0), .unset, .unset, .unset, .unset] []))
  obtain ⟨F_side, F_spanX, F_spanY, F_stepColumn, F_stepRow, F_passes, F_column, F_row, F_toColumnLine, F_toRowLine, F_started, E⟩ := O
  refine w_iconst X0 hx (0 : Int32) (Jvm.hb hby d10_0) (by decide) (pc' := 1) rfl ?_
  refine w_istoreN X0 hx (Jvm.hb hby d10_1) #[.val (.ref a0), .val (.int (0 : Int32)), .unset, .unset, .unset] rfl  (pc' := 2) rfl ?_
  refine w_aloadN X0 hx (Jvm.hb hby d10_2) rfl rfl (pc' := 3) rfl ?_
  refine w_getfield X0 hx hZ hown (host := "") (Or.inl (hw _ (List.mem_of_getElem? (i := 69) rfl))) Via.refl e0 F_started (Jvm.hb hby d10_3) (pc' := 6) rfl ?_
  intro T31 X31 e31
  refine w_if_ne X31 hx (Jvm.hb hby d10_6) (by decide) (pcT := 22) (by decide) (pcF := 9) rfl (fun _ => ?_) (fun q => absurd q (show ¬ (1 : Int32) = 0 from by decide))
  refine w_aloadN X31 hx (Jvm.hb hby d10_22) rfl rfl (pc' := 23) rfl ?_
  refine w_getfield X31 hx hZ hown (host := "") (Or.inl (hw _ (List.mem_of_getElem? (i := 62) rfl))) Via.refl e31 F_passes (Jvm.hb hby d10_23) (pc' := 26) rfl ?_
  intro T32 X32 e32
  refine w_if_eq X32 hx (Jvm.hb hby d10_26) (by decide) (pcT := 202) (by decide) (pcF := 29) rfl (fun _ => ?_) (fun q => absurd hp q)
  refine w_iloadN X32 hx (Jvm.hb hby d10_202) rfl (pc' := 203) rfl ?_
  exact w_zreturn X32 hx Bd.returns (Or.inl rfl) (BodyLoose.notSynchronized Bd) (Nat.le_of_ble_eq_true rfl) (Nat.le_of_ble_eq_true rfl) (Jvm.hb hby d10_203) ⟨rfl, (by simpa using Fr.nil n0), by rw [e32]; exact ⟨(Keep.refl h0 [a0]), ⟨F_side, F_spanX, F_spanY, F_stepColumn, F_stepRow, F_passes, F_column, F_row, F_toColumnLine, F_toRowLine, F_started, E⟩⟩⟩
def QN_stop (Z : State) (a0 : Addr) (sd : Int64) (sx : Int64) (sy : Int64) (sc : Int32) (sr : Int32) (ps : Int32) (cl : Int32) (rw' : Int32) (tc : Int64) (tr : Int64) (h0 : Heap) (n0 : Nat) (v : Option Value) (h : Heap) (L : List Loc) : Prop := v = some (.int (0 : Int32)) ∧ Fr n0 L ∧ Keep h0 h [a0] ∧ SWo Z h a0 sd sx sy sc sr ps cl rw' tc tr (1 : Int32)
set_option maxRecDepth 65536 in
set_option maxHeartbeats 40000000 in
theorem rmN_stop (l : Launch) (Z : State) (aw : Array Value) (hw : ∀ d ∈ tables_1, d.before aw Z = true) (ws : List Jvm.Cond) (a0 : Addr) (sd : Int64) (sx : Int64) (sy : Int64) (sc : Int32) (sr : Int32) (ps : Int32) (cl : Int32) (rw' : Int32) (tc : Int64) (tr : Int64) (h0 : Heap) (n0 : Nat) (g : n0 ≤ a0) (O : SWo Z h0 a0 sd sx sy sc sr ps cl rw' tc tr (1 : Int32)) (hp : ps = 1) (hX : ¬ tc < sx) (hY : ¬ tr < sy) :
    MetFree l (⟨"com/example/sarutahiko/sarutahiko/lattice/SegmentWalk", "next", "()Z"⟩ : MethodName) (head1 (Jvm.Cond.code (⟨"com/example/sarutahiko/sarutahiko/lattice/SegmentWalk", "next", "()Z"⟩ : MethodName) prog_23_method_3_code 5 (some .boolean) :: ws) ({ frames := 3, cells := 0, slots := 0, locals := 60 } : Room)) (fun a U => a = #[(.ref a0)] ∧ Z.Warmed39 U.vm ∧ U.heap = h0) (fun _ _ _ _ _ => True) (fun _ U o U' => ∃ v L, o = .returned v ∧ QN_stop Z a0 sd sx sy sc sr ps cl rw' tc tr h0 n0 v U'.heap L ∧ FrameEnd U o U' L ({ frames := 3, cells := 0, slots := 0, locals := 60 } : Room).cells ({ frames := 3, cells := 0, slots := 0, locals := 60 } : Room).slots) := by
  refine MetFree.of_bodySF (plainFor_of_name pn_2) hisR ?_
  intro p e s m args below meth c s₁ Bd hml0 hP _hKK
  obtain ⟨rfl, hZ, hh⟩ := hP
  have hx := Bd.exec
  have hby := Bd.bytes
  have hml : c.maxLocals = 5 := hml0
  have hown : s.vm.findClass "com/example/sarutahiko/sarutahiko/lattice/SegmentWalk" = some m.cls := findClass_of_methodNamed Bd.named
  have hnm := (name_of_methodNamed Bd.named Bd.method).1
  have X0 : Stand p l e ({ frames := 3, cells := 0, slots := 0, locals := 60 } : Room) s m #[(.ref a0)] below meth c s₁ [] 0 0 := Stand.of_body Bd
  have e0 : s₁.heap = h0 := by rw [← hh, Bd.state]; rfl
  refine Ow.enter (Q := QN_stop Z a0 sd sx sy sc sr ps cl rw' tc tr h0 n0) (ef_10 m a0) ?_
  show Ow p e below s _ _ _ (s₁.setTop (mkF m 0 #[.val (.ref a0), .unset, .unset, .unset, .unset] []))
  obtain ⟨F_side, F_spanX, F_spanY, F_stepColumn, F_stepRow, F_passes, F_column, F_row, F_toColumnLine, F_toRowLine, F_started, E⟩ := O
  refine w_iconst X0 hx (0 : Int32) (Jvm.hb hby d10_0) (by decide) (pc' := 1) rfl ?_
  refine w_istoreN X0 hx (Jvm.hb hby d10_1) #[.val (.ref a0), .val (.int (0 : Int32)), .unset, .unset, .unset] rfl  (pc' := 2) rfl ?_
  refine w_aloadN X0 hx (Jvm.hb hby d10_2) rfl rfl (pc' := 3) rfl ?_
  refine w_getfield X0 hx hZ hown (host := "") (Or.inl (hw _ (List.mem_of_getElem? (i := 69) rfl))) Via.refl e0 F_started (Jvm.hb hby d10_3) (pc' := 6) rfl ?_
  intro T33 X33 e33
  refine w_if_ne X33 hx (Jvm.hb hby d10_6) (by decide) (pcT := 22) (by decide) (pcF := 9) rfl (fun _ => ?_) (fun q => absurd q (show ¬ (1 : Int32) = 0 from by decide))
  refine w_aloadN X33 hx (Jvm.hb hby d10_22) rfl rfl (pc' := 23) rfl ?_
  refine w_getfield X33 hx hZ hown (host := "") (Or.inl (hw _ (List.mem_of_getElem? (i := 62) rfl))) Via.refl e33 F_passes (Jvm.hb hby d10_23) (pc' := 26) rfl ?_
  intro T34 X34 e34
  refine w_if_eq X34 hx (Jvm.hb hby d10_26) (by decide) (pcT := 202) (by decide) (pcF := 29) rfl (fun q => absurd q (show ¬ ps = 0 from fun z => by rw [hp] at z; exact absurd z (by decide))) (fun _ => ?_)
  refine w_aloadN X34 hx (Jvm.hb hby d10_29) rfl rfl (pc' := 30) rfl ?_
  refine w_getfield X34 hx hZ hown (host := "") (Or.inl (hw _ (List.mem_of_getElem? (i := 54) rfl))) Via.refl e34 F_toColumnLine (Jvm.hb hby d10_30) (pc' := 33) rfl ?_
  intro T35 X35 e35
  refine w_aloadN X35 hx (Jvm.hb hby d10_33) rfl rfl (pc' := 34) rfl ?_
  refine w_getfield X35 hx hZ hown (host := "") (Or.inl (hw _ (List.mem_of_getElem? (i := 46) rfl))) Via.refl e35 F_spanX (Jvm.hb hby d10_34) (pc' := 37) rfl ?_
  intro T36 X36 e36
  refine w_lcmp_lt X36 hx (Jvm.hb hby d10_37) (Jvm.hb hby d10_38) rfl (by decide) (pcT := 53) (by decide) (pcF := 41) rfl (fun q => absurd q hX) (fun _ => ?_)
  refine w_aloadN X36 hx (Jvm.hb hby d10_41) rfl rfl (pc' := 42) rfl ?_
  refine w_getfield X36 hx hZ hown (host := "") (Or.inl (hw _ (List.mem_of_getElem? (i := 56) rfl))) Via.refl e36 F_toRowLine (Jvm.hb hby d10_42) (pc' := 45) rfl ?_
  intro T37 X37 e37
  refine w_aloadN X37 hx (Jvm.hb hby d10_45) rfl rfl (pc' := 46) rfl ?_
  refine w_getfield X37 hx hZ hown (host := "") (Or.inl (hw _ (List.mem_of_getElem? (i := 48) rfl))) Via.refl e37 F_spanY (Jvm.hb hby d10_46) (pc' := 49) rfl ?_
  intro T38 X38 e38
  refine w_lcmp_ge X38 hx (Jvm.hb hby d10_49) (Jvm.hb hby d10_50) rfl (by decide) (pcT := 202) (by decide) (pcF := 53) rfl (fun _ => ?_) (fun q => absurd q hY)
  refine w_iloadN X38 hx (Jvm.hb hby d10_202) rfl (pc' := 203) rfl ?_
  exact w_zreturn X38 hx Bd.returns (Or.inl rfl) (BodyLoose.notSynchronized Bd) (Nat.le_of_ble_eq_true rfl) (Nat.le_of_ble_eq_true rfl) (Jvm.hb hby d10_203) ⟨rfl, (by simpa using Fr.nil n0), by rw [e38]; exact ⟨(Keep.refl h0 [a0]), ⟨F_side, F_spanX, F_spanY, F_stepColumn, F_stepRow, F_passes, F_column, F_row, F_toColumnLine, F_toRowLine, F_started, E⟩⟩⟩
def QN_x (Z : State) (a0 : Addr) (sd : Int64) (sx : Int64) (sy : Int64) (sc : Int32) (sr : Int32) (ps : Int32) (cl : Int32) (rw' : Int32) (tc : Int64) (tr : Int64) (h0 : Heap) (n0 : Nat) (v : Option Value) (h : Heap) (L : List Loc) : Prop := v = some (.int (1 : Int32)) ∧ Fr n0 L ∧ Keep h0 h [a0] ∧ SWo Z h a0 sd sx sy sc sr ps (cl + sc) rw' (tc + sd) tr (1 : Int32)
set_option maxRecDepth 65536 in
set_option maxHeartbeats 40000000 in
theorem rmN_x (l : Launch) (Z : State) (aw : Array Value) (hw : ∀ d ∈ tables_1, d.before aw Z = true) (ws : List Jvm.Cond) (a0 : Addr) (sd : Int64) (sx : Int64) (sy : Int64) (sc : Int32) (sr : Int32) (ps : Int32) (cl : Int32) (rw' : Int32) (tc : Int64) (tr : Int64) (h0 : Heap) (n0 : Nat) (g : n0 ≤ a0) (O : SWo Z h0 a0 sd sx sy sc sr ps cl rw' tc tr (1 : Int32)) (hp : ps = 1) (hX : tc < sx) (hY : ¬ tr < sy) :
    MetFree l (⟨"com/example/sarutahiko/sarutahiko/lattice/SegmentWalk", "next", "()Z"⟩ : MethodName) (head1 (Jvm.Cond.code (⟨"com/example/sarutahiko/sarutahiko/lattice/SegmentWalk", "next", "()Z"⟩ : MethodName) prog_23_method_3_code 5 (some .boolean) :: ws) ({ frames := 3, cells := 0, slots := 0, locals := 60 } : Room)) (fun a U => a = #[(.ref a0)] ∧ Z.Warmed39 U.vm ∧ U.heap = h0) (fun _ _ _ _ _ => True) (fun _ U o U' => ∃ v L, o = .returned v ∧ QN_x Z a0 sd sx sy sc sr ps cl rw' tc tr h0 n0 v U'.heap L ∧ FrameEnd U o U' L ({ frames := 3, cells := 0, slots := 0, locals := 60 } : Room).cells ({ frames := 3, cells := 0, slots := 0, locals := 60 } : Room).slots) := by
  refine MetFree.of_bodySF (plainFor_of_name pn_2) hisR ?_
  intro p e s m args below meth c s₁ Bd hml0 hP _hKK
  obtain ⟨rfl, hZ, hh⟩ := hP
  have hx := Bd.exec
  have hby := Bd.bytes
  have hml : c.maxLocals = 5 := hml0
  have hown : s.vm.findClass "com/example/sarutahiko/sarutahiko/lattice/SegmentWalk" = some m.cls := findClass_of_methodNamed Bd.named
  have hnm := (name_of_methodNamed Bd.named Bd.method).1
  have X0 : Stand p l e ({ frames := 3, cells := 0, slots := 0, locals := 60 } : Room) s m #[(.ref a0)] below meth c s₁ [] 0 0 := Stand.of_body Bd
  have e0 : s₁.heap = h0 := by rw [← hh, Bd.state]; rfl
  refine Ow.enter (Q := QN_x Z a0 sd sx sy sc sr ps cl rw' tc tr h0 n0) (ef_10 m a0) ?_
  show Ow p e below s _ _ _ (s₁.setTop (mkF m 0 #[.val (.ref a0), .unset, .unset, .unset, .unset] []))
  obtain ⟨F_side, F_spanX, F_spanY, F_stepColumn, F_stepRow, F_passes, F_column, F_row, F_toColumnLine, F_toRowLine, F_started, E⟩ := O
  refine w_iconst X0 hx (0 : Int32) (Jvm.hb hby d10_0) (by decide) (pc' := 1) rfl ?_
  refine w_istoreN X0 hx (Jvm.hb hby d10_1) #[.val (.ref a0), .val (.int (0 : Int32)), .unset, .unset, .unset] rfl  (pc' := 2) rfl ?_
  refine w_aloadN X0 hx (Jvm.hb hby d10_2) rfl rfl (pc' := 3) rfl ?_
  refine w_getfield X0 hx hZ hown (host := "") (Or.inl (hw _ (List.mem_of_getElem? (i := 69) rfl))) Via.refl e0 F_started (Jvm.hb hby d10_3) (pc' := 6) rfl ?_
  intro T39 X39 e39
  refine w_if_ne X39 hx (Jvm.hb hby d10_6) (by decide) (pcT := 22) (by decide) (pcF := 9) rfl (fun _ => ?_) (fun q => absurd q (show ¬ (1 : Int32) = 0 from by decide))
  refine w_aloadN X39 hx (Jvm.hb hby d10_22) rfl rfl (pc' := 23) rfl ?_
  refine w_getfield X39 hx hZ hown (host := "") (Or.inl (hw _ (List.mem_of_getElem? (i := 62) rfl))) Via.refl e39 F_passes (Jvm.hb hby d10_23) (pc' := 26) rfl ?_
  intro T40 X40 e40
  refine w_if_eq X40 hx (Jvm.hb hby d10_26) (by decide) (pcT := 202) (by decide) (pcF := 29) rfl (fun q => absurd q (show ¬ ps = 0 from fun z => by rw [hp] at z; exact absurd z (by decide))) (fun _ => ?_)
  refine w_aloadN X40 hx (Jvm.hb hby d10_29) rfl rfl (pc' := 30) rfl ?_
  refine w_getfield X40 hx hZ hown (host := "") (Or.inl (hw _ (List.mem_of_getElem? (i := 54) rfl))) Via.refl e40 F_toColumnLine (Jvm.hb hby d10_30) (pc' := 33) rfl ?_
  intro T41 X41 e41
  refine w_aloadN X41 hx (Jvm.hb hby d10_33) rfl rfl (pc' := 34) rfl ?_
  refine w_getfield X41 hx hZ hown (host := "") (Or.inl (hw _ (List.mem_of_getElem? (i := 46) rfl))) Via.refl e41 F_spanX (Jvm.hb hby d10_34) (pc' := 37) rfl ?_
  intro T42 X42 e42
  refine w_lcmp_lt X42 hx (Jvm.hb hby d10_37) (Jvm.hb hby d10_38) rfl (by decide) (pcT := 53) (by decide) (pcF := 41) rfl (fun _ => ?_) (fun q => absurd hX q)
  refine w_aloadN X42 hx (Jvm.hb hby d10_53) rfl rfl (pc' := 54) rfl ?_
  refine w_getfield X42 hx hZ hown (host := "") (Or.inl (hw _ (List.mem_of_getElem? (i := 54) rfl))) Via.refl e42 F_toColumnLine (Jvm.hb hby d10_54) (pc' := 57) rfl ?_
  intro T43 X43 e43
  refine w_aloadN X43 hx (Jvm.hb hby d10_57) rfl rfl (pc' := 58) rfl ?_
  refine w_getfield X43 hx hZ hown (host := "") (Or.inl (hw _ (List.mem_of_getElem? (i := 46) rfl))) Via.refl e43 F_spanX (Jvm.hb hby d10_58) (pc' := 61) rfl ?_
  intro T44 X44 e44
  refine w_lcmp_ge X44 hx (Jvm.hb hby d10_61) (Jvm.hb hby d10_62) rfl (by decide) (pcT := 69) (by decide) (pcF := 65) rfl (fun q => absurd hX q) (fun _ => ?_)
  refine w_iconst X44 hx (1 : Int32) (Jvm.hb hby d10_65) (by decide) (pc' := 66) rfl ?_
  refine w_goto X44 hx (Jvm.hb hby d10_66) (by decide) (pc' := 70) (by decide) ?_
  refine w_istoreN X44 hx (Jvm.hb hby d10_70) #[.val (.ref a0), .val (.int (0 : Int32)), .val (.int (1 : Int32)), .unset, .unset] rfl  (pc' := 71) rfl ?_
  refine w_aloadN X44 hx (Jvm.hb hby d10_71) rfl rfl (pc' := 72) rfl ?_
  refine w_getfield X44 hx hZ hown (host := "") (Or.inl (hw _ (List.mem_of_getElem? (i := 56) rfl))) Via.refl e44 F_toRowLine (Jvm.hb hby d10_72) (pc' := 75) rfl ?_
  intro T45 X45 e45
  refine w_aloadN X45 hx (Jvm.hb hby d10_75) rfl rfl (pc' := 76) rfl ?_
  refine w_getfield X45 hx hZ hown (host := "") (Or.inl (hw _ (List.mem_of_getElem? (i := 48) rfl))) Via.refl e45 F_spanY (Jvm.hb hby d10_76) (pc' := 79) rfl ?_
  intro T46 X46 e46
  refine w_lcmp_ge X46 hx (Jvm.hb hby d10_79) (Jvm.hb hby d10_80) rfl (by decide) (pcT := 87) (by decide) (pcF := 83) rfl (fun _ => ?_) (fun q => absurd q hY)
  refine w_iconst X46 hx (0 : Int32) (Jvm.hb hby d10_87) (by decide) (pc' := 88) rfl ?_
  refine w_istoreN X46 hx (Jvm.hb hby d10_88) #[.val (.ref a0), .val (.int (0 : Int32)), .val (.int (1 : Int32)), .val (.int (0 : Int32)), .unset] rfl  (pc' := 89) rfl ?_
  refine w_iloadN X46 hx (Jvm.hb hby d10_89) rfl (pc' := 90) rfl ?_
  refine w_if_eq X46 hx (Jvm.hb hby d10_90) (by decide) (pcT := 140) (by decide) (pcF := 93) rfl (fun q => absurd q (show ¬ (1 : Int32) = 0 from by decide)) (fun _ => ?_)
  refine w_iloadN X46 hx (Jvm.hb hby d10_93) rfl (pc' := 94) rfl ?_
  refine w_if_eq X46 hx (Jvm.hb hby d10_94) (by decide) (pcT := 140) (by decide) (pcF := 97) rfl (fun _ => ?_) (fun q => absurd (show (0 : Int32) = 0 from by decide) q)
  refine w_iloadN X46 hx (Jvm.hb hby d10_140) rfl (pc' := 141) rfl ?_
  refine w_if_eq X46 hx (Jvm.hb hby d10_141) (by decide) (pcT := 170) (by decide) (pcF := 144) rfl (fun q => absurd q (show ¬ (1 : Int32) = 0 from by decide)) (fun _ => ?_)
  refine w_aloadN X46 hx (Jvm.hb hby d10_144) rfl rfl (pc' := 145) rfl ?_
  refine w_dup X46 hx (Jvm.hb hby d10_145) rfl (pc' := 146) rfl ?_
  refine w_getfield X46 hx hZ hown (host := "") (Or.inl (hw _ (List.mem_of_getElem? (i := 58) rfl))) Via.refl e46 F_column (Jvm.hb hby d10_146) (pc' := 149) rfl ?_
  intro T47 X47 e47
  refine w_aloadN X47 hx (Jvm.hb hby d10_149) rfl rfl (pc' := 150) rfl ?_
  refine w_getfield X47 hx hZ hown (host := "") (Or.inl (hw _ (List.mem_of_getElem? (i := 50) rfl))) Via.refl e47 F_stepColumn (Jvm.hb hby d10_150) (pc' := 153) rfl ?_
  intro T48 X48 e48
  refine w_iadd X48 hx (Jvm.hb hby d10_153) (pc' := 154) rfl ?_
  refine w_putfield X48 hx hZ hown (host := "") (Or.inl (hw _ (List.mem_of_getElem? (i := 58) rfl))) Via.refl e48 F_column E (Or.inl (hw _ (List.mem_of_getElem? (i := 59) rfl))) (hw _ (List.mem_of_getElem? (i := 23) rfl)) (ty := .int) (by decide) rfl rfl (Jvm.hb hby d10_154) (pc' := 157) rfl ?_
  intro T49 h49 X49 e49 W49
  have F49_side := F_side.other W49 (Or.inr (slot_ne (Or.inr (hw _ (List.mem_of_getElem? (i := 42) rfl))) (Or.inl (hw _ (List.mem_of_getElem? (i := 59) rfl))) (by decide) (t := .long) (t' := .int) (by decide) (by decide)))
  have F49_spanX := F_spanX.other W49 (Or.inr (slot_ne (Or.inr (hw _ (List.mem_of_getElem? (i := 47) rfl))) (Or.inl (hw _ (List.mem_of_getElem? (i := 59) rfl))) (by decide) (t := .long) (t' := .int) (by decide) (by decide)))
  have F49_spanY := F_spanY.other W49 (Or.inr (slot_ne (Or.inr (hw _ (List.mem_of_getElem? (i := 49) rfl))) (Or.inl (hw _ (List.mem_of_getElem? (i := 59) rfl))) (by decide) (t := .long) (t' := .int) (by decide) (by decide)))
  have F49_stepColumn := F_stepColumn.other W49 (Or.inr (slot_ne (Or.inr (hw _ (List.mem_of_getElem? (i := 51) rfl))) (Or.inl (hw _ (List.mem_of_getElem? (i := 59) rfl))) (by decide) (t := .int) (t' := .int) (by decide) (by decide)))
  have F49_stepRow := F_stepRow.other W49 (Or.inr (slot_ne (Or.inr (hw _ (List.mem_of_getElem? (i := 53) rfl))) (Or.inl (hw _ (List.mem_of_getElem? (i := 59) rfl))) (by decide) (t := .int) (t' := .int) (by decide) (by decide)))
  have F49_passes := F_passes.other W49 (Or.inr (slot_ne (Or.inr (hw _ (List.mem_of_getElem? (i := 63) rfl))) (Or.inl (hw _ (List.mem_of_getElem? (i := 59) rfl))) (by decide) (t := .boolean) (t' := .int) (by decide) (by decide)))
  have F49_column := F_column.same W49
  have F49_row := F_row.other W49 (Or.inr (slot_ne (Or.inl (hw _ (List.mem_of_getElem? (i := 61) rfl))) (Or.inl (hw _ (List.mem_of_getElem? (i := 59) rfl))) (by decide) (t := .int) (t' := .int) (by decide) (by decide)))
  have F49_toColumnLine := F_toColumnLine.other W49 (Or.inr (slot_ne (Or.inl (hw _ (List.mem_of_getElem? (i := 55) rfl))) (Or.inl (hw _ (List.mem_of_getElem? (i := 59) rfl))) (by decide) (t := .long) (t' := .int) (by decide) (by decide)))
  have F49_toRowLine := F_toRowLine.other W49 (Or.inr (slot_ne (Or.inl (hw _ (List.mem_of_getElem? (i := 57) rfl))) (Or.inl (hw _ (List.mem_of_getElem? (i := 59) rfl))) (by decide) (t := .long) (t' := .int) (by decide) (by decide)))
  have F49_started := F_started.other W49 (Or.inr (slot_ne (Or.inl (hw _ (List.mem_of_getElem? (i := 70) rfl))) (Or.inl (hw _ (List.mem_of_getElem? (i := 59) rfl))) (by decide) (t := .boolean) (t' := .int) (by decide) (by decide)))
  have E49 := E.wr W49
  have K49 : Keep h0 h49 [a0] := Keep.of_wr W49
  have N49 := Fr.snoc X49 (Fr.nil n0) g
  refine w_aloadN X49 hx (Jvm.hb hby d10_157) rfl rfl (pc' := 158) rfl ?_
  refine w_dup X49 hx (Jvm.hb hby d10_158) rfl (pc' := 159) rfl ?_
  refine w_getfield X49 hx hZ hown (host := "") (Or.inl (hw _ (List.mem_of_getElem? (i := 54) rfl))) Via.refl e49 F49_toColumnLine (Jvm.hb hby d10_159) (pc' := 162) rfl ?_
  intro T50 X50 e50
  refine w_aloadN X50 hx (Jvm.hb hby d10_162) rfl rfl (pc' := 163) rfl ?_
  refine w_getfield X50 hx hZ hown (host := "") (Or.inl (hw _ (List.mem_of_getElem? (i := 41) rfl))) Via.refl e50 F49_side (Jvm.hb hby d10_163) (pc' := 166) rfl ?_
  intro T51 X51 e51
  refine w_ladd X51 hx (Jvm.hb hby d10_166) (pc' := 167) rfl ?_
  refine w_putfield X51 hx hZ hown (host := "") (Or.inl (hw _ (List.mem_of_getElem? (i := 54) rfl))) Via.refl e51 F49_toColumnLine E49 (Or.inl (hw _ (List.mem_of_getElem? (i := 55) rfl))) (hw _ (List.mem_of_getElem? (i := 23) rfl)) (ty := .long) (by decide) rfl rfl (Jvm.hb hby d10_167) (pc' := 170) rfl ?_
  intro T52 h52 X52 e52 W52
  have F52_side := F49_side.other W52 (Or.inr (slot_ne (Or.inr (hw _ (List.mem_of_getElem? (i := 42) rfl))) (Or.inl (hw _ (List.mem_of_getElem? (i := 55) rfl))) (by decide) (t := .long) (t' := .long) (by decide) (by decide)))
  have F52_spanX := F49_spanX.other W52 (Or.inr (slot_ne (Or.inr (hw _ (List.mem_of_getElem? (i := 47) rfl))) (Or.inl (hw _ (List.mem_of_getElem? (i := 55) rfl))) (by decide) (t := .long) (t' := .long) (by decide) (by decide)))
  have F52_spanY := F49_spanY.other W52 (Or.inr (slot_ne (Or.inr (hw _ (List.mem_of_getElem? (i := 49) rfl))) (Or.inl (hw _ (List.mem_of_getElem? (i := 55) rfl))) (by decide) (t := .long) (t' := .long) (by decide) (by decide)))
  have F52_stepColumn := F49_stepColumn.other W52 (Or.inr (slot_ne (Or.inr (hw _ (List.mem_of_getElem? (i := 51) rfl))) (Or.inl (hw _ (List.mem_of_getElem? (i := 55) rfl))) (by decide) (t := .int) (t' := .long) (by decide) (by decide)))
  have F52_stepRow := F49_stepRow.other W52 (Or.inr (slot_ne (Or.inr (hw _ (List.mem_of_getElem? (i := 53) rfl))) (Or.inl (hw _ (List.mem_of_getElem? (i := 55) rfl))) (by decide) (t := .int) (t' := .long) (by decide) (by decide)))
  have F52_passes := F49_passes.other W52 (Or.inr (slot_ne (Or.inr (hw _ (List.mem_of_getElem? (i := 63) rfl))) (Or.inl (hw _ (List.mem_of_getElem? (i := 55) rfl))) (by decide) (t := .boolean) (t' := .long) (by decide) (by decide)))
  have F52_column := F49_column.other W52 (Or.inr (slot_ne (Or.inl (hw _ (List.mem_of_getElem? (i := 59) rfl))) (Or.inl (hw _ (List.mem_of_getElem? (i := 55) rfl))) (by decide) (t := .int) (t' := .long) (by decide) (by decide)))
  have F52_row := F49_row.other W52 (Or.inr (slot_ne (Or.inl (hw _ (List.mem_of_getElem? (i := 61) rfl))) (Or.inl (hw _ (List.mem_of_getElem? (i := 55) rfl))) (by decide) (t := .int) (t' := .long) (by decide) (by decide)))
  have F52_toColumnLine := F49_toColumnLine.same W52
  have F52_toRowLine := F49_toRowLine.other W52 (Or.inr (slot_ne (Or.inl (hw _ (List.mem_of_getElem? (i := 57) rfl))) (Or.inl (hw _ (List.mem_of_getElem? (i := 55) rfl))) (by decide) (t := .long) (t' := .long) (by decide) (by decide)))
  have F52_started := F49_started.other W52 (Or.inr (slot_ne (Or.inl (hw _ (List.mem_of_getElem? (i := 70) rfl))) (Or.inl (hw _ (List.mem_of_getElem? (i := 55) rfl))) (by decide) (t := .boolean) (t' := .long) (by decide) (by decide)))
  have E52 := E49.wr W52
  have K52 : Keep h0 h52 [a0] := K49.wr W52 (Or.inl (List.mem_of_getElem? (i := 0) rfl))
  have N52 := Fr.snoc X52 N49 g
  refine w_iloadN X52 hx (Jvm.hb hby d10_170) rfl (pc' := 171) rfl ?_
  refine w_if_eq X52 hx (Jvm.hb hby d10_171) (by decide) (pcT := 200) (by decide) (pcF := 174) rfl (fun _ => ?_) (fun q => absurd (show (0 : Int32) = 0 from by decide) q)
  refine w_iconst X52 hx (1 : Int32) (Jvm.hb hby d10_200) (by decide) (pc' := 201) rfl ?_
  refine w_istoreN X52 hx (Jvm.hb hby d10_201) #[.val (.ref a0), .val (.int (1 : Int32)), .val (.int (1 : Int32)), .val (.int (0 : Int32)), .unset] rfl  (pc' := 202) rfl ?_
  refine w_iloadN X52 hx (Jvm.hb hby d10_202) rfl (pc' := 203) rfl ?_
  exact w_zreturn X52 hx Bd.returns (Or.inr rfl) (BodyLoose.notSynchronized Bd) (Nat.le_of_ble_eq_true rfl) (Nat.le_of_ble_eq_true rfl) (Jvm.hb hby d10_203) ⟨rfl, N52, by rw [e52]; exact ⟨K52, ⟨F52_side, F52_spanX, F52_spanY, F52_stepColumn, F52_stepRow, F52_passes, F52_column, F52_row, F52_toColumnLine, F52_toRowLine, F52_started, E52⟩⟩⟩
def QN_y (Z : State) (a0 : Addr) (sd : Int64) (sx : Int64) (sy : Int64) (sc : Int32) (sr : Int32) (ps : Int32) (cl : Int32) (rw' : Int32) (tc : Int64) (tr : Int64) (h0 : Heap) (n0 : Nat) (v : Option Value) (h : Heap) (L : List Loc) : Prop := v = some (.int (1 : Int32)) ∧ Fr n0 L ∧ Keep h0 h [a0] ∧ SWo Z h a0 sd sx sy sc sr ps cl (rw' + sr) tc (tr + sd) (1 : Int32)
set_option maxRecDepth 65536 in
set_option maxHeartbeats 40000000 in
theorem rmN_y (l : Launch) (Z : State) (aw : Array Value) (hw : ∀ d ∈ tables_1, d.before aw Z = true) (ws : List Jvm.Cond) (a0 : Addr) (sd : Int64) (sx : Int64) (sy : Int64) (sc : Int32) (sr : Int32) (ps : Int32) (cl : Int32) (rw' : Int32) (tc : Int64) (tr : Int64) (h0 : Heap) (n0 : Nat) (g : n0 ≤ a0) (O : SWo Z h0 a0 sd sx sy sc sr ps cl rw' tc tr (1 : Int32)) (hp : ps = 1) (hX : ¬ tc < sx) (hY : tr < sy) :
    MetFree l (⟨"com/example/sarutahiko/sarutahiko/lattice/SegmentWalk", "next", "()Z"⟩ : MethodName) (head1 (Jvm.Cond.code (⟨"com/example/sarutahiko/sarutahiko/lattice/SegmentWalk", "next", "()Z"⟩ : MethodName) prog_23_method_3_code 5 (some .boolean) :: ws) ({ frames := 3, cells := 0, slots := 0, locals := 60 } : Room)) (fun a U => a = #[(.ref a0)] ∧ Z.Warmed39 U.vm ∧ U.heap = h0) (fun _ _ _ _ _ => True) (fun _ U o U' => ∃ v L, o = .returned v ∧ QN_y Z a0 sd sx sy sc sr ps cl rw' tc tr h0 n0 v U'.heap L ∧ FrameEnd U o U' L ({ frames := 3, cells := 0, slots := 0, locals := 60 } : Room).cells ({ frames := 3, cells := 0, slots := 0, locals := 60 } : Room).slots) := by
  refine MetFree.of_bodySF (plainFor_of_name pn_2) hisR ?_
  intro p e s m args below meth c s₁ Bd hml0 hP _hKK
  obtain ⟨rfl, hZ, hh⟩ := hP
  have hx := Bd.exec
  have hby := Bd.bytes
  have hml : c.maxLocals = 5 := hml0
  have hown : s.vm.findClass "com/example/sarutahiko/sarutahiko/lattice/SegmentWalk" = some m.cls := findClass_of_methodNamed Bd.named
  have hnm := (name_of_methodNamed Bd.named Bd.method).1
  have X0 : Stand p l e ({ frames := 3, cells := 0, slots := 0, locals := 60 } : Room) s m #[(.ref a0)] below meth c s₁ [] 0 0 := Stand.of_body Bd
  have e0 : s₁.heap = h0 := by rw [← hh, Bd.state]; rfl
  refine Ow.enter (Q := QN_y Z a0 sd sx sy sc sr ps cl rw' tc tr h0 n0) (ef_10 m a0) ?_
  show Ow p e below s _ _ _ (s₁.setTop (mkF m 0 #[.val (.ref a0), .unset, .unset, .unset, .unset] []))
  obtain ⟨F_side, F_spanX, F_spanY, F_stepColumn, F_stepRow, F_passes, F_column, F_row, F_toColumnLine, F_toRowLine, F_started, E⟩ := O
  refine w_iconst X0 hx (0 : Int32) (Jvm.hb hby d10_0) (by decide) (pc' := 1) rfl ?_
  refine w_istoreN X0 hx (Jvm.hb hby d10_1) #[.val (.ref a0), .val (.int (0 : Int32)), .unset, .unset, .unset] rfl  (pc' := 2) rfl ?_
  refine w_aloadN X0 hx (Jvm.hb hby d10_2) rfl rfl (pc' := 3) rfl ?_
  refine w_getfield X0 hx hZ hown (host := "") (Or.inl (hw _ (List.mem_of_getElem? (i := 69) rfl))) Via.refl e0 F_started (Jvm.hb hby d10_3) (pc' := 6) rfl ?_
  intro T53 X53 e53
  refine w_if_ne X53 hx (Jvm.hb hby d10_6) (by decide) (pcT := 22) (by decide) (pcF := 9) rfl (fun _ => ?_) (fun q => absurd q (show ¬ (1 : Int32) = 0 from by decide))
  refine w_aloadN X53 hx (Jvm.hb hby d10_22) rfl rfl (pc' := 23) rfl ?_
  refine w_getfield X53 hx hZ hown (host := "") (Or.inl (hw _ (List.mem_of_getElem? (i := 62) rfl))) Via.refl e53 F_passes (Jvm.hb hby d10_23) (pc' := 26) rfl ?_
  intro T54 X54 e54
  refine w_if_eq X54 hx (Jvm.hb hby d10_26) (by decide) (pcT := 202) (by decide) (pcF := 29) rfl (fun q => absurd q (show ¬ ps = 0 from fun z => by rw [hp] at z; exact absurd z (by decide))) (fun _ => ?_)
  refine w_aloadN X54 hx (Jvm.hb hby d10_29) rfl rfl (pc' := 30) rfl ?_
  refine w_getfield X54 hx hZ hown (host := "") (Or.inl (hw _ (List.mem_of_getElem? (i := 54) rfl))) Via.refl e54 F_toColumnLine (Jvm.hb hby d10_30) (pc' := 33) rfl ?_
  intro T55 X55 e55
  refine w_aloadN X55 hx (Jvm.hb hby d10_33) rfl rfl (pc' := 34) rfl ?_
  refine w_getfield X55 hx hZ hown (host := "") (Or.inl (hw _ (List.mem_of_getElem? (i := 46) rfl))) Via.refl e55 F_spanX (Jvm.hb hby d10_34) (pc' := 37) rfl ?_
  intro T56 X56 e56
  refine w_lcmp_lt X56 hx (Jvm.hb hby d10_37) (Jvm.hb hby d10_38) rfl (by decide) (pcT := 53) (by decide) (pcF := 41) rfl (fun q => absurd q hX) (fun _ => ?_)
  refine w_aloadN X56 hx (Jvm.hb hby d10_41) rfl rfl (pc' := 42) rfl ?_
  refine w_getfield X56 hx hZ hown (host := "") (Or.inl (hw _ (List.mem_of_getElem? (i := 56) rfl))) Via.refl e56 F_toRowLine (Jvm.hb hby d10_42) (pc' := 45) rfl ?_
  intro T57 X57 e57
  refine w_aloadN X57 hx (Jvm.hb hby d10_45) rfl rfl (pc' := 46) rfl ?_
  refine w_getfield X57 hx hZ hown (host := "") (Or.inl (hw _ (List.mem_of_getElem? (i := 48) rfl))) Via.refl e57 F_spanY (Jvm.hb hby d10_46) (pc' := 49) rfl ?_
  intro T58 X58 e58
  refine w_lcmp_ge X58 hx (Jvm.hb hby d10_49) (Jvm.hb hby d10_50) rfl (by decide) (pcT := 202) (by decide) (pcF := 53) rfl (fun q => absurd hY q) (fun _ => ?_)
  refine w_aloadN X58 hx (Jvm.hb hby d10_53) rfl rfl (pc' := 54) rfl ?_
  refine w_getfield X58 hx hZ hown (host := "") (Or.inl (hw _ (List.mem_of_getElem? (i := 54) rfl))) Via.refl e58 F_toColumnLine (Jvm.hb hby d10_54) (pc' := 57) rfl ?_
  intro T59 X59 e59
  refine w_aloadN X59 hx (Jvm.hb hby d10_57) rfl rfl (pc' := 58) rfl ?_
  refine w_getfield X59 hx hZ hown (host := "") (Or.inl (hw _ (List.mem_of_getElem? (i := 46) rfl))) Via.refl e59 F_spanX (Jvm.hb hby d10_58) (pc' := 61) rfl ?_
  intro T60 X60 e60
  refine w_lcmp_ge X60 hx (Jvm.hb hby d10_61) (Jvm.hb hby d10_62) rfl (by decide) (pcT := 69) (by decide) (pcF := 65) rfl (fun _ => ?_) (fun q => absurd q hX)
  refine w_iconst X60 hx (0 : Int32) (Jvm.hb hby d10_69) (by decide) (pc' := 70) rfl ?_
  refine w_istoreN X60 hx (Jvm.hb hby d10_70) #[.val (.ref a0), .val (.int (0 : Int32)), .val (.int (0 : Int32)), .unset, .unset] rfl  (pc' := 71) rfl ?_
  refine w_aloadN X60 hx (Jvm.hb hby d10_71) rfl rfl (pc' := 72) rfl ?_
  refine w_getfield X60 hx hZ hown (host := "") (Or.inl (hw _ (List.mem_of_getElem? (i := 56) rfl))) Via.refl e60 F_toRowLine (Jvm.hb hby d10_72) (pc' := 75) rfl ?_
  intro T61 X61 e61
  refine w_aloadN X61 hx (Jvm.hb hby d10_75) rfl rfl (pc' := 76) rfl ?_
  refine w_getfield X61 hx hZ hown (host := "") (Or.inl (hw _ (List.mem_of_getElem? (i := 48) rfl))) Via.refl e61 F_spanY (Jvm.hb hby d10_76) (pc' := 79) rfl ?_
  intro T62 X62 e62
  refine w_lcmp_ge X62 hx (Jvm.hb hby d10_79) (Jvm.hb hby d10_80) rfl (by decide) (pcT := 87) (by decide) (pcF := 83) rfl (fun q => absurd hY q) (fun _ => ?_)
  refine w_iconst X62 hx (1 : Int32) (Jvm.hb hby d10_83) (by decide) (pc' := 84) rfl ?_
  refine w_goto X62 hx (Jvm.hb hby d10_84) (by decide) (pc' := 88) (by decide) ?_
  refine w_istoreN X62 hx (Jvm.hb hby d10_88) #[.val (.ref a0), .val (.int (0 : Int32)), .val (.int (0 : Int32)), .val (.int (1 : Int32)), .unset] rfl  (pc' := 89) rfl ?_
  refine w_iloadN X62 hx (Jvm.hb hby d10_89) rfl (pc' := 90) rfl ?_
  refine w_if_eq X62 hx (Jvm.hb hby d10_90) (by decide) (pcT := 140) (by decide) (pcF := 93) rfl (fun _ => ?_) (fun q => absurd (show (0 : Int32) = 0 from by decide) q)
  refine w_iloadN X62 hx (Jvm.hb hby d10_140) rfl (pc' := 141) rfl ?_
  refine w_if_eq X62 hx (Jvm.hb hby d10_141) (by decide) (pcT := 170) (by decide) (pcF := 144) rfl (fun _ => ?_) (fun q => absurd (show (0 : Int32) = 0 from by decide) q)
  refine w_iloadN X62 hx (Jvm.hb hby d10_170) rfl (pc' := 171) rfl ?_
  refine w_if_eq X62 hx (Jvm.hb hby d10_171) (by decide) (pcT := 200) (by decide) (pcF := 174) rfl (fun q => absurd q (show ¬ (1 : Int32) = 0 from by decide)) (fun _ => ?_)
  refine w_aloadN X62 hx (Jvm.hb hby d10_174) rfl rfl (pc' := 175) rfl ?_
  refine w_dup X62 hx (Jvm.hb hby d10_175) rfl (pc' := 176) rfl ?_
  refine w_getfield X62 hx hZ hown (host := "") (Or.inl (hw _ (List.mem_of_getElem? (i := 60) rfl))) Via.refl e62 F_row (Jvm.hb hby d10_176) (pc' := 179) rfl ?_
  intro T63 X63 e63
  refine w_aloadN X63 hx (Jvm.hb hby d10_179) rfl rfl (pc' := 180) rfl ?_
  refine w_getfield X63 hx hZ hown (host := "") (Or.inl (hw _ (List.mem_of_getElem? (i := 52) rfl))) Via.refl e63 F_stepRow (Jvm.hb hby d10_180) (pc' := 183) rfl ?_
  intro T64 X64 e64
  refine w_iadd X64 hx (Jvm.hb hby d10_183) (pc' := 184) rfl ?_
  refine w_putfield X64 hx hZ hown (host := "") (Or.inl (hw _ (List.mem_of_getElem? (i := 60) rfl))) Via.refl e64 F_row E (Or.inl (hw _ (List.mem_of_getElem? (i := 61) rfl))) (hw _ (List.mem_of_getElem? (i := 23) rfl)) (ty := .int) (by decide) rfl rfl (Jvm.hb hby d10_184) (pc' := 187) rfl ?_
  intro T65 h65 X65 e65 W65
  have F65_side := F_side.other W65 (Or.inr (slot_ne (Or.inr (hw _ (List.mem_of_getElem? (i := 42) rfl))) (Or.inl (hw _ (List.mem_of_getElem? (i := 61) rfl))) (by decide) (t := .long) (t' := .int) (by decide) (by decide)))
  have F65_spanX := F_spanX.other W65 (Or.inr (slot_ne (Or.inr (hw _ (List.mem_of_getElem? (i := 47) rfl))) (Or.inl (hw _ (List.mem_of_getElem? (i := 61) rfl))) (by decide) (t := .long) (t' := .int) (by decide) (by decide)))
  have F65_spanY := F_spanY.other W65 (Or.inr (slot_ne (Or.inr (hw _ (List.mem_of_getElem? (i := 49) rfl))) (Or.inl (hw _ (List.mem_of_getElem? (i := 61) rfl))) (by decide) (t := .long) (t' := .int) (by decide) (by decide)))
  have F65_stepColumn := F_stepColumn.other W65 (Or.inr (slot_ne (Or.inr (hw _ (List.mem_of_getElem? (i := 51) rfl))) (Or.inl (hw _ (List.mem_of_getElem? (i := 61) rfl))) (by decide) (t := .int) (t' := .int) (by decide) (by decide)))
  have F65_stepRow := F_stepRow.other W65 (Or.inr (slot_ne (Or.inr (hw _ (List.mem_of_getElem? (i := 53) rfl))) (Or.inl (hw _ (List.mem_of_getElem? (i := 61) rfl))) (by decide) (t := .int) (t' := .int) (by decide) (by decide)))
  have F65_passes := F_passes.other W65 (Or.inr (slot_ne (Or.inr (hw _ (List.mem_of_getElem? (i := 63) rfl))) (Or.inl (hw _ (List.mem_of_getElem? (i := 61) rfl))) (by decide) (t := .boolean) (t' := .int) (by decide) (by decide)))
  have F65_column := F_column.other W65 (Or.inr (slot_ne (Or.inl (hw _ (List.mem_of_getElem? (i := 59) rfl))) (Or.inl (hw _ (List.mem_of_getElem? (i := 61) rfl))) (by decide) (t := .int) (t' := .int) (by decide) (by decide)))
  have F65_row := F_row.same W65
  have F65_toColumnLine := F_toColumnLine.other W65 (Or.inr (slot_ne (Or.inl (hw _ (List.mem_of_getElem? (i := 55) rfl))) (Or.inl (hw _ (List.mem_of_getElem? (i := 61) rfl))) (by decide) (t := .long) (t' := .int) (by decide) (by decide)))
  have F65_toRowLine := F_toRowLine.other W65 (Or.inr (slot_ne (Or.inl (hw _ (List.mem_of_getElem? (i := 57) rfl))) (Or.inl (hw _ (List.mem_of_getElem? (i := 61) rfl))) (by decide) (t := .long) (t' := .int) (by decide) (by decide)))
  have F65_started := F_started.other W65 (Or.inr (slot_ne (Or.inl (hw _ (List.mem_of_getElem? (i := 70) rfl))) (Or.inl (hw _ (List.mem_of_getElem? (i := 61) rfl))) (by decide) (t := .boolean) (t' := .int) (by decide) (by decide)))
  have E65 := E.wr W65
  have K65 : Keep h0 h65 [a0] := Keep.of_wr W65
  have N65 := Fr.snoc X65 (Fr.nil n0) g
  refine w_aloadN X65 hx (Jvm.hb hby d10_187) rfl rfl (pc' := 188) rfl ?_
  refine w_dup X65 hx (Jvm.hb hby d10_188) rfl (pc' := 189) rfl ?_
  refine w_getfield X65 hx hZ hown (host := "") (Or.inl (hw _ (List.mem_of_getElem? (i := 56) rfl))) Via.refl e65 F65_toRowLine (Jvm.hb hby d10_189) (pc' := 192) rfl ?_
  intro T66 X66 e66
  refine w_aloadN X66 hx (Jvm.hb hby d10_192) rfl rfl (pc' := 193) rfl ?_
  refine w_getfield X66 hx hZ hown (host := "") (Or.inl (hw _ (List.mem_of_getElem? (i := 41) rfl))) Via.refl e66 F65_side (Jvm.hb hby d10_193) (pc' := 196) rfl ?_
  intro T67 X67 e67
  refine w_ladd X67 hx (Jvm.hb hby d10_196) (pc' := 197) rfl ?_
  refine w_putfield X67 hx hZ hown (host := "") (Or.inl (hw _ (List.mem_of_getElem? (i := 56) rfl))) Via.refl e67 F65_toRowLine E65 (Or.inl (hw _ (List.mem_of_getElem? (i := 57) rfl))) (hw _ (List.mem_of_getElem? (i := 23) rfl)) (ty := .long) (by decide) rfl rfl (Jvm.hb hby d10_197) (pc' := 200) rfl ?_
  intro T68 h68 X68 e68 W68
  have F68_side := F65_side.other W68 (Or.inr (slot_ne (Or.inr (hw _ (List.mem_of_getElem? (i := 42) rfl))) (Or.inl (hw _ (List.mem_of_getElem? (i := 57) rfl))) (by decide) (t := .long) (t' := .long) (by decide) (by decide)))
  have F68_spanX := F65_spanX.other W68 (Or.inr (slot_ne (Or.inr (hw _ (List.mem_of_getElem? (i := 47) rfl))) (Or.inl (hw _ (List.mem_of_getElem? (i := 57) rfl))) (by decide) (t := .long) (t' := .long) (by decide) (by decide)))
  have F68_spanY := F65_spanY.other W68 (Or.inr (slot_ne (Or.inr (hw _ (List.mem_of_getElem? (i := 49) rfl))) (Or.inl (hw _ (List.mem_of_getElem? (i := 57) rfl))) (by decide) (t := .long) (t' := .long) (by decide) (by decide)))
  have F68_stepColumn := F65_stepColumn.other W68 (Or.inr (slot_ne (Or.inr (hw _ (List.mem_of_getElem? (i := 51) rfl))) (Or.inl (hw _ (List.mem_of_getElem? (i := 57) rfl))) (by decide) (t := .int) (t' := .long) (by decide) (by decide)))
  have F68_stepRow := F65_stepRow.other W68 (Or.inr (slot_ne (Or.inr (hw _ (List.mem_of_getElem? (i := 53) rfl))) (Or.inl (hw _ (List.mem_of_getElem? (i := 57) rfl))) (by decide) (t := .int) (t' := .long) (by decide) (by decide)))
  have F68_passes := F65_passes.other W68 (Or.inr (slot_ne (Or.inr (hw _ (List.mem_of_getElem? (i := 63) rfl))) (Or.inl (hw _ (List.mem_of_getElem? (i := 57) rfl))) (by decide) (t := .boolean) (t' := .long) (by decide) (by decide)))
  have F68_column := F65_column.other W68 (Or.inr (slot_ne (Or.inl (hw _ (List.mem_of_getElem? (i := 59) rfl))) (Or.inl (hw _ (List.mem_of_getElem? (i := 57) rfl))) (by decide) (t := .int) (t' := .long) (by decide) (by decide)))
  have F68_row := F65_row.other W68 (Or.inr (slot_ne (Or.inl (hw _ (List.mem_of_getElem? (i := 61) rfl))) (Or.inl (hw _ (List.mem_of_getElem? (i := 57) rfl))) (by decide) (t := .int) (t' := .long) (by decide) (by decide)))
  have F68_toColumnLine := F65_toColumnLine.other W68 (Or.inr (slot_ne (Or.inl (hw _ (List.mem_of_getElem? (i := 55) rfl))) (Or.inl (hw _ (List.mem_of_getElem? (i := 57) rfl))) (by decide) (t := .long) (t' := .long) (by decide) (by decide)))
  have F68_toRowLine := F65_toRowLine.same W68
  have F68_started := F65_started.other W68 (Or.inr (slot_ne (Or.inl (hw _ (List.mem_of_getElem? (i := 70) rfl))) (Or.inl (hw _ (List.mem_of_getElem? (i := 57) rfl))) (by decide) (t := .boolean) (t' := .long) (by decide) (by decide)))
  have E68 := E65.wr W68
  have K68 : Keep h0 h68 [a0] := K65.wr W68 (Or.inl (List.mem_of_getElem? (i := 0) rfl))
  have N68 := Fr.snoc X68 N65 g
  refine w_iconst X68 hx (1 : Int32) (Jvm.hb hby d10_200) (by decide) (pc' := 201) rfl ?_
  refine w_istoreN X68 hx (Jvm.hb hby d10_201) #[.val (.ref a0), .val (.int (1 : Int32)), .val (.int (0 : Int32)), .val (.int (1 : Int32)), .unset] rfl  (pc' := 202) rfl ?_
  refine w_iloadN X68 hx (Jvm.hb hby d10_202) rfl (pc' := 203) rfl ?_
  exact w_zreturn X68 hx Bd.returns (Or.inr rfl) (BodyLoose.notSynchronized Bd) (Nat.le_of_ble_eq_true rfl) (Nat.le_of_ble_eq_true rfl) (Jvm.hb hby d10_203) ⟨rfl, N68, by rw [e68]; exact ⟨K68, ⟨F68_side, F68_spanX, F68_spanY, F68_stepColumn, F68_stepRow, F68_passes, F68_column, F68_row, F68_toColumnLine, F68_toRowLine, F68_started, E68⟩⟩⟩
def QN_lt (Z : State) (a0 : Addr) (sd : Int64) (sx : Int64) (sy : Int64) (sc : Int32) (sr : Int32) (ps : Int32) (cl : Int32) (rw' : Int32) (tc : Int64) (tr : Int64) (h0 : Heap) (n0 : Nat) (v : Option Value) (h : Heap) (L : List Loc) : Prop := v = some (.int (1 : Int32)) ∧ Fr n0 L ∧ Keep h0 h [a0] ∧ SWo Z h a0 sd sx sy sc sr ps (cl + sc) rw' (tc + sd) tr (1 : Int32)
set_option maxRecDepth 65536 in
set_option maxHeartbeats 40000000 in
theorem rmN_lt (l : Launch) (Z : State) (aw : Array Value) (hw : ∀ d ∈ tables_1, d.before aw Z = true) (ws : List Jvm.Cond) (a0 : Addr) (sd : Int64) (sx : Int64) (sy : Int64) (sc : Int32) (sr : Int32) (ps : Int32) (cl : Int32) (rw' : Int32) (tc : Int64) (tr : Int64) (h0 : Heap) (n0 : Nat) (g : n0 ≤ a0) (O : SWo Z h0 a0 sd sx sy sc sr ps cl rw' tc tr (1 : Int32)) (hp : ps = 1) (hX : tc < sx) (hY : tr < sy) (hC : cpJ tc sy tr sx = (-1 : Int32)) :
    MetFree l (⟨"com/example/sarutahiko/sarutahiko/lattice/SegmentWalk", "next", "()Z"⟩ : MethodName) (head1 (Jvm.Cond.code (⟨"com/example/sarutahiko/sarutahiko/lattice/SegmentWalk", "next", "()Z"⟩ : MethodName) prog_23_method_3_code 5 (some .boolean) :: ws) ({ frames := 3, cells := 0, slots := 0, locals := 60 } : Room)) (fun a U => a = #[(.ref a0)] ∧ Z.Warmed39 U.vm ∧ U.heap = h0) (fun _ _ _ _ _ => True) (fun _ U o U' => ∃ v L, o = .returned v ∧ QN_lt Z a0 sd sx sy sc sr ps cl rw' tc tr h0 n0 v U'.heap L ∧ FrameEnd U o U' L ({ frames := 3, cells := 0, slots := 0, locals := 60 } : Room).cells ({ frames := 3, cells := 0, slots := 0, locals := 60 } : Room).slots) := by
  refine MetFree.of_bodySF (plainFor_of_name pn_2) hisR ?_
  intro p e s m args below meth c s₁ Bd hml0 hP _hKK
  obtain ⟨rfl, hZ, hh⟩ := hP
  have hx := Bd.exec
  have hby := Bd.bytes
  have hml : c.maxLocals = 5 := hml0
  have hown : s.vm.findClass "com/example/sarutahiko/sarutahiko/lattice/SegmentWalk" = some m.cls := findClass_of_methodNamed Bd.named
  have hnm := (name_of_methodNamed Bd.named Bd.method).1
  have X0 : Stand p l e ({ frames := 3, cells := 0, slots := 0, locals := 60 } : Room) s m #[(.ref a0)] below meth c s₁ [] 0 0 := Stand.of_body Bd
  have e0 : s₁.heap = h0 := by rw [← hh, Bd.state]; rfl
  refine Ow.enter (Q := QN_lt Z a0 sd sx sy sc sr ps cl rw' tc tr h0 n0) (ef_10 m a0) ?_
  show Ow p e below s _ _ _ (s₁.setTop (mkF m 0 #[.val (.ref a0), .unset, .unset, .unset, .unset] []))
  obtain ⟨F_side, F_spanX, F_spanY, F_stepColumn, F_stepRow, F_passes, F_column, F_row, F_toColumnLine, F_toRowLine, F_started, E⟩ := O
  refine w_iconst X0 hx (0 : Int32) (Jvm.hb hby d10_0) (by decide) (pc' := 1) rfl ?_
  refine w_istoreN X0 hx (Jvm.hb hby d10_1) #[.val (.ref a0), .val (.int (0 : Int32)), .unset, .unset, .unset] rfl  (pc' := 2) rfl ?_
  refine w_aloadN X0 hx (Jvm.hb hby d10_2) rfl rfl (pc' := 3) rfl ?_
  refine w_getfield X0 hx hZ hown (host := "") (Or.inl (hw _ (List.mem_of_getElem? (i := 69) rfl))) Via.refl e0 F_started (Jvm.hb hby d10_3) (pc' := 6) rfl ?_
  intro T69 X69 e69
  refine w_if_ne X69 hx (Jvm.hb hby d10_6) (by decide) (pcT := 22) (by decide) (pcF := 9) rfl (fun _ => ?_) (fun q => absurd q (show ¬ (1 : Int32) = 0 from by decide))
  refine w_aloadN X69 hx (Jvm.hb hby d10_22) rfl rfl (pc' := 23) rfl ?_
  refine w_getfield X69 hx hZ hown (host := "") (Or.inl (hw _ (List.mem_of_getElem? (i := 62) rfl))) Via.refl e69 F_passes (Jvm.hb hby d10_23) (pc' := 26) rfl ?_
  intro T70 X70 e70
  refine w_if_eq X70 hx (Jvm.hb hby d10_26) (by decide) (pcT := 202) (by decide) (pcF := 29) rfl (fun q => absurd q (show ¬ ps = 0 from fun z => by rw [hp] at z; exact absurd z (by decide))) (fun _ => ?_)
  refine w_aloadN X70 hx (Jvm.hb hby d10_29) rfl rfl (pc' := 30) rfl ?_
  refine w_getfield X70 hx hZ hown (host := "") (Or.inl (hw _ (List.mem_of_getElem? (i := 54) rfl))) Via.refl e70 F_toColumnLine (Jvm.hb hby d10_30) (pc' := 33) rfl ?_
  intro T71 X71 e71
  refine w_aloadN X71 hx (Jvm.hb hby d10_33) rfl rfl (pc' := 34) rfl ?_
  refine w_getfield X71 hx hZ hown (host := "") (Or.inl (hw _ (List.mem_of_getElem? (i := 46) rfl))) Via.refl e71 F_spanX (Jvm.hb hby d10_34) (pc' := 37) rfl ?_
  intro T72 X72 e72
  refine w_lcmp_lt X72 hx (Jvm.hb hby d10_37) (Jvm.hb hby d10_38) rfl (by decide) (pcT := 53) (by decide) (pcF := 41) rfl (fun _ => ?_) (fun q => absurd hX q)
  refine w_aloadN X72 hx (Jvm.hb hby d10_53) rfl rfl (pc' := 54) rfl ?_
  refine w_getfield X72 hx hZ hown (host := "") (Or.inl (hw _ (List.mem_of_getElem? (i := 54) rfl))) Via.refl e72 F_toColumnLine (Jvm.hb hby d10_54) (pc' := 57) rfl ?_
  intro T73 X73 e73
  refine w_aloadN X73 hx (Jvm.hb hby d10_57) rfl rfl (pc' := 58) rfl ?_
  refine w_getfield X73 hx hZ hown (host := "") (Or.inl (hw _ (List.mem_of_getElem? (i := 46) rfl))) Via.refl e73 F_spanX (Jvm.hb hby d10_58) (pc' := 61) rfl ?_
  intro T74 X74 e74
  refine w_lcmp_ge X74 hx (Jvm.hb hby d10_61) (Jvm.hb hby d10_62) rfl (by decide) (pcT := 69) (by decide) (pcF := 65) rfl (fun q => absurd hX q) (fun _ => ?_)
  refine w_iconst X74 hx (1 : Int32) (Jvm.hb hby d10_65) (by decide) (pc' := 66) rfl ?_
  refine w_goto X74 hx (Jvm.hb hby d10_66) (by decide) (pc' := 70) (by decide) ?_
  refine w_istoreN X74 hx (Jvm.hb hby d10_70) #[.val (.ref a0), .val (.int (0 : Int32)), .val (.int (1 : Int32)), .unset, .unset] rfl  (pc' := 71) rfl ?_
  refine w_aloadN X74 hx (Jvm.hb hby d10_71) rfl rfl (pc' := 72) rfl ?_
  refine w_getfield X74 hx hZ hown (host := "") (Or.inl (hw _ (List.mem_of_getElem? (i := 56) rfl))) Via.refl e74 F_toRowLine (Jvm.hb hby d10_72) (pc' := 75) rfl ?_
  intro T75 X75 e75
  refine w_aloadN X75 hx (Jvm.hb hby d10_75) rfl rfl (pc' := 76) rfl ?_
  refine w_getfield X75 hx hZ hown (host := "") (Or.inl (hw _ (List.mem_of_getElem? (i := 48) rfl))) Via.refl e75 F_spanY (Jvm.hb hby d10_76) (pc' := 79) rfl ?_
  intro T76 X76 e76
  refine w_lcmp_ge X76 hx (Jvm.hb hby d10_79) (Jvm.hb hby d10_80) rfl (by decide) (pcT := 87) (by decide) (pcF := 83) rfl (fun q => absurd hY q) (fun _ => ?_)
  refine w_iconst X76 hx (1 : Int32) (Jvm.hb hby d10_83) (by decide) (pc' := 84) rfl ?_
  refine w_goto X76 hx (Jvm.hb hby d10_84) (by decide) (pc' := 88) (by decide) ?_
  refine w_istoreN X76 hx (Jvm.hb hby d10_88) #[.val (.ref a0), .val (.int (0 : Int32)), .val (.int (1 : Int32)), .val (.int (1 : Int32)), .unset] rfl  (pc' := 89) rfl ?_
  refine w_iloadN X76 hx (Jvm.hb hby d10_89) rfl (pc' := 90) rfl ?_
  refine w_if_eq X76 hx (Jvm.hb hby d10_90) (by decide) (pcT := 140) (by decide) (pcF := 93) rfl (fun q => absurd q (show ¬ (1 : Int32) = 0 from by decide)) (fun _ => ?_)
  refine w_iloadN X76 hx (Jvm.hb hby d10_93) rfl (pc' := 94) rfl ?_
  refine w_if_eq X76 hx (Jvm.hb hby d10_94) (by decide) (pcT := 140) (by decide) (pcF := 97) rfl (fun q => absurd q (show ¬ (1 : Int32) = 0 from by decide)) (fun _ => ?_)
  refine w_aloadN X76 hx (Jvm.hb hby d10_97) rfl rfl (pc' := 98) rfl ?_
  refine w_getfield X76 hx hZ hown (host := "") (Or.inl (hw _ (List.mem_of_getElem? (i := 54) rfl))) Via.refl e76 F_toColumnLine (Jvm.hb hby d10_98) (pc' := 101) rfl ?_
  intro T77 X77 e77
  refine w_aloadN X77 hx (Jvm.hb hby d10_101) rfl rfl (pc' := 102) rfl ?_
  refine w_getfield X77 hx hZ hown (host := "") (Or.inl (hw _ (List.mem_of_getElem? (i := 48) rfl))) Via.refl e77 F_spanY (Jvm.hb hby d10_102) (pc' := 105) rfl ?_
  intro T78 X78 e78
  refine w_aloadN X78 hx (Jvm.hb hby d10_105) rfl rfl (pc' := 106) rfl ?_
  refine w_getfield X78 hx hZ hown (host := "") (Or.inl (hw _ (List.mem_of_getElem? (i := 56) rfl))) Via.refl e78 F_toRowLine (Jvm.hb hby d10_106) (pc' := 109) rfl ?_
  intro T79 X79 e79
  refine w_aloadN X79 hx (Jvm.hb hby d10_109) rfl rfl (pc' := 110) rfl ?_
  refine w_getfield X79 hx hZ hown (host := "") (Or.inl (hw _ (List.mem_of_getElem? (i := 46) rfl))) Via.refl e79 F_spanX (Jvm.hb hby d10_110) (pc' := 113) rfl ?_
  intro T80 X80 e80
  refine w_callS X80 hx hZ hown (hw _ (List.mem_of_getElem? (i := 82) rfl)) (hw _ (List.mem_of_getElem? (i := 83) rfl)) (hw _ (List.mem_of_getElem? (i := 24) rfl)) (hw _ (List.mem_of_getElem? (i := 84) rfl)) (by decide) (W := 0) (rm13 l Z aw hw [] tc sy tr sx h0) e80 (by decide) (by decide) (by decide) (by decide) (Jvm.hb hby d10_113) (by rw [hml]; rfl) (argsL := [(.long tc), (.long sy), (.long tr), (.long sx)]) (rest := []) pd_2 rfl rfl rfl (Nat.le_of_eq rfl) (pc' := 116) rfl ?_
  rintro _ T81 L81 X81 ⟨rfl, e81, rfl⟩
  show Ow p e below s _ _ _ (T81.setTop (mkF m 116 #[.val (.ref a0), .val (.int (0 : Int32)), .val (.int (1 : Int32)), .val (.int (1 : Int32)), .unset] [(.int (cpJ tc sy tr sx))]))
  rw [hC]
  show Ow p e below s _ _ _ (T81.setTop (mkF m 116 #[.val (.ref a0), .val (.int (0 : Int32)), .val (.int (1 : Int32)), .val (.int (1 : Int32)), .unset] [(.int (-1 : Int32))]))
  refine w_istore X81 hx (Jvm.hb hby d10_116) #[.val (.ref a0), .val (.int (0 : Int32)), .val (.int (1 : Int32)), .val (.int (1 : Int32)), .val (.int (-1 : Int32))] rfl  (pc' := 118) rfl ?_
  refine w_iload X81 hx (Jvm.hb hby d10_118) rfl (pc' := 120) rfl ?_
  refine w_if_gt X81 hx (Jvm.hb hby d10_120) (by decide) (pcT := 127) (by decide) (pcF := 123) rfl (fun q => absurd q (show ¬ (0 : Int32) < (-1 : Int32) from by decide)) (fun _ => ?_)
  refine w_iconst X81 hx (1 : Int32) (Jvm.hb hby d10_123) (by decide) (pc' := 124) rfl ?_
  refine w_goto X81 hx (Jvm.hb hby d10_124) (by decide) (pc' := 128) (by decide) ?_
  refine w_istoreN X81 hx (Jvm.hb hby d10_128) #[.val (.ref a0), .val (.int (0 : Int32)), .val (.int (1 : Int32)), .val (.int (1 : Int32)), .val (.int (-1 : Int32))] rfl  (pc' := 129) rfl ?_
  refine w_iload X81 hx (Jvm.hb hby d10_129) rfl (pc' := 131) rfl ?_
  refine w_if_lt X81 hx (Jvm.hb hby d10_131) (by decide) (pcT := 138) (by decide) (pcF := 134) rfl (fun _ => ?_) (fun q => absurd (show (-1 : Int32) < (0 : Int32) from by decide) q)
  refine w_iconst X81 hx (0 : Int32) (Jvm.hb hby d10_138) (by decide) (pc' := 139) rfl ?_
  refine w_istoreN X81 hx (Jvm.hb hby d10_139) #[.val (.ref a0), .val (.int (0 : Int32)), .val (.int (1 : Int32)), .val (.int (0 : Int32)), .val (.int (-1 : Int32))] rfl  (pc' := 140) rfl ?_
  refine w_iloadN X81 hx (Jvm.hb hby d10_140) rfl (pc' := 141) rfl ?_
  refine w_if_eq X81 hx (Jvm.hb hby d10_141) (by decide) (pcT := 170) (by decide) (pcF := 144) rfl (fun q => absurd q (show ¬ (1 : Int32) = 0 from by decide)) (fun _ => ?_)
  refine w_aloadN X81 hx (Jvm.hb hby d10_144) rfl rfl (pc' := 145) rfl ?_
  refine w_dup X81 hx (Jvm.hb hby d10_145) rfl (pc' := 146) rfl ?_
  refine w_getfield X81 hx hZ hown (host := "") (Or.inl (hw _ (List.mem_of_getElem? (i := 58) rfl))) Via.refl e81 F_column (Jvm.hb hby d10_146) (pc' := 149) rfl ?_
  intro T82 X82 e82
  refine w_aloadN X82 hx (Jvm.hb hby d10_149) rfl rfl (pc' := 150) rfl ?_
  refine w_getfield X82 hx hZ hown (host := "") (Or.inl (hw _ (List.mem_of_getElem? (i := 50) rfl))) Via.refl e82 F_stepColumn (Jvm.hb hby d10_150) (pc' := 153) rfl ?_
  intro T83 X83 e83
  refine w_iadd X83 hx (Jvm.hb hby d10_153) (pc' := 154) rfl ?_
  refine w_putfield X83 hx hZ hown (host := "") (Or.inl (hw _ (List.mem_of_getElem? (i := 58) rfl))) Via.refl e83 F_column E (Or.inl (hw _ (List.mem_of_getElem? (i := 59) rfl))) (hw _ (List.mem_of_getElem? (i := 23) rfl)) (ty := .int) (by decide) rfl rfl (Jvm.hb hby d10_154) (pc' := 157) rfl ?_
  intro T84 h84 X84 e84 W84
  have F84_side := F_side.other W84 (Or.inr (slot_ne (Or.inr (hw _ (List.mem_of_getElem? (i := 42) rfl))) (Or.inl (hw _ (List.mem_of_getElem? (i := 59) rfl))) (by decide) (t := .long) (t' := .int) (by decide) (by decide)))
  have F84_spanX := F_spanX.other W84 (Or.inr (slot_ne (Or.inr (hw _ (List.mem_of_getElem? (i := 47) rfl))) (Or.inl (hw _ (List.mem_of_getElem? (i := 59) rfl))) (by decide) (t := .long) (t' := .int) (by decide) (by decide)))
  have F84_spanY := F_spanY.other W84 (Or.inr (slot_ne (Or.inr (hw _ (List.mem_of_getElem? (i := 49) rfl))) (Or.inl (hw _ (List.mem_of_getElem? (i := 59) rfl))) (by decide) (t := .long) (t' := .int) (by decide) (by decide)))
  have F84_stepColumn := F_stepColumn.other W84 (Or.inr (slot_ne (Or.inr (hw _ (List.mem_of_getElem? (i := 51) rfl))) (Or.inl (hw _ (List.mem_of_getElem? (i := 59) rfl))) (by decide) (t := .int) (t' := .int) (by decide) (by decide)))
  have F84_stepRow := F_stepRow.other W84 (Or.inr (slot_ne (Or.inr (hw _ (List.mem_of_getElem? (i := 53) rfl))) (Or.inl (hw _ (List.mem_of_getElem? (i := 59) rfl))) (by decide) (t := .int) (t' := .int) (by decide) (by decide)))
  have F84_passes := F_passes.other W84 (Or.inr (slot_ne (Or.inr (hw _ (List.mem_of_getElem? (i := 63) rfl))) (Or.inl (hw _ (List.mem_of_getElem? (i := 59) rfl))) (by decide) (t := .boolean) (t' := .int) (by decide) (by decide)))
  have F84_column := F_column.same W84
  have F84_row := F_row.other W84 (Or.inr (slot_ne (Or.inl (hw _ (List.mem_of_getElem? (i := 61) rfl))) (Or.inl (hw _ (List.mem_of_getElem? (i := 59) rfl))) (by decide) (t := .int) (t' := .int) (by decide) (by decide)))
  have F84_toColumnLine := F_toColumnLine.other W84 (Or.inr (slot_ne (Or.inl (hw _ (List.mem_of_getElem? (i := 55) rfl))) (Or.inl (hw _ (List.mem_of_getElem? (i := 59) rfl))) (by decide) (t := .long) (t' := .int) (by decide) (by decide)))
  have F84_toRowLine := F_toRowLine.other W84 (Or.inr (slot_ne (Or.inl (hw _ (List.mem_of_getElem? (i := 57) rfl))) (Or.inl (hw _ (List.mem_of_getElem? (i := 59) rfl))) (by decide) (t := .long) (t' := .int) (by decide) (by decide)))
  have F84_started := F_started.other W84 (Or.inr (slot_ne (Or.inl (hw _ (List.mem_of_getElem? (i := 70) rfl))) (Or.inl (hw _ (List.mem_of_getElem? (i := 59) rfl))) (by decide) (t := .boolean) (t' := .int) (by decide) (by decide)))
  have E84 := E.wr W84
  have K84 : Keep h0 h84 [a0] := Keep.of_wr W84
  have N84 := Fr.snoc X84 (Fr.nil n0) g
  refine w_aloadN X84 hx (Jvm.hb hby d10_157) rfl rfl (pc' := 158) rfl ?_
  refine w_dup X84 hx (Jvm.hb hby d10_158) rfl (pc' := 159) rfl ?_
  refine w_getfield X84 hx hZ hown (host := "") (Or.inl (hw _ (List.mem_of_getElem? (i := 54) rfl))) Via.refl e84 F84_toColumnLine (Jvm.hb hby d10_159) (pc' := 162) rfl ?_
  intro T85 X85 e85
  refine w_aloadN X85 hx (Jvm.hb hby d10_162) rfl rfl (pc' := 163) rfl ?_
  refine w_getfield X85 hx hZ hown (host := "") (Or.inl (hw _ (List.mem_of_getElem? (i := 41) rfl))) Via.refl e85 F84_side (Jvm.hb hby d10_163) (pc' := 166) rfl ?_
  intro T86 X86 e86
  refine w_ladd X86 hx (Jvm.hb hby d10_166) (pc' := 167) rfl ?_
  refine w_putfield X86 hx hZ hown (host := "") (Or.inl (hw _ (List.mem_of_getElem? (i := 54) rfl))) Via.refl e86 F84_toColumnLine E84 (Or.inl (hw _ (List.mem_of_getElem? (i := 55) rfl))) (hw _ (List.mem_of_getElem? (i := 23) rfl)) (ty := .long) (by decide) rfl rfl (Jvm.hb hby d10_167) (pc' := 170) rfl ?_
  intro T87 h87 X87 e87 W87
  have F87_side := F84_side.other W87 (Or.inr (slot_ne (Or.inr (hw _ (List.mem_of_getElem? (i := 42) rfl))) (Or.inl (hw _ (List.mem_of_getElem? (i := 55) rfl))) (by decide) (t := .long) (t' := .long) (by decide) (by decide)))
  have F87_spanX := F84_spanX.other W87 (Or.inr (slot_ne (Or.inr (hw _ (List.mem_of_getElem? (i := 47) rfl))) (Or.inl (hw _ (List.mem_of_getElem? (i := 55) rfl))) (by decide) (t := .long) (t' := .long) (by decide) (by decide)))
  have F87_spanY := F84_spanY.other W87 (Or.inr (slot_ne (Or.inr (hw _ (List.mem_of_getElem? (i := 49) rfl))) (Or.inl (hw _ (List.mem_of_getElem? (i := 55) rfl))) (by decide) (t := .long) (t' := .long) (by decide) (by decide)))
  have F87_stepColumn := F84_stepColumn.other W87 (Or.inr (slot_ne (Or.inr (hw _ (List.mem_of_getElem? (i := 51) rfl))) (Or.inl (hw _ (List.mem_of_getElem? (i := 55) rfl))) (by decide) (t := .int) (t' := .long) (by decide) (by decide)))
  have F87_stepRow := F84_stepRow.other W87 (Or.inr (slot_ne (Or.inr (hw _ (List.mem_of_getElem? (i := 53) rfl))) (Or.inl (hw _ (List.mem_of_getElem? (i := 55) rfl))) (by decide) (t := .int) (t' := .long) (by decide) (by decide)))
  have F87_passes := F84_passes.other W87 (Or.inr (slot_ne (Or.inr (hw _ (List.mem_of_getElem? (i := 63) rfl))) (Or.inl (hw _ (List.mem_of_getElem? (i := 55) rfl))) (by decide) (t := .boolean) (t' := .long) (by decide) (by decide)))
  have F87_column := F84_column.other W87 (Or.inr (slot_ne (Or.inl (hw _ (List.mem_of_getElem? (i := 59) rfl))) (Or.inl (hw _ (List.mem_of_getElem? (i := 55) rfl))) (by decide) (t := .int) (t' := .long) (by decide) (by decide)))
  have F87_row := F84_row.other W87 (Or.inr (slot_ne (Or.inl (hw _ (List.mem_of_getElem? (i := 61) rfl))) (Or.inl (hw _ (List.mem_of_getElem? (i := 55) rfl))) (by decide) (t := .int) (t' := .long) (by decide) (by decide)))
  have F87_toColumnLine := F84_toColumnLine.same W87
  have F87_toRowLine := F84_toRowLine.other W87 (Or.inr (slot_ne (Or.inl (hw _ (List.mem_of_getElem? (i := 57) rfl))) (Or.inl (hw _ (List.mem_of_getElem? (i := 55) rfl))) (by decide) (t := .long) (t' := .long) (by decide) (by decide)))
  have F87_started := F84_started.other W87 (Or.inr (slot_ne (Or.inl (hw _ (List.mem_of_getElem? (i := 70) rfl))) (Or.inl (hw _ (List.mem_of_getElem? (i := 55) rfl))) (by decide) (t := .boolean) (t' := .long) (by decide) (by decide)))
  have E87 := E84.wr W87
  have K87 : Keep h0 h87 [a0] := K84.wr W87 (Or.inl (List.mem_of_getElem? (i := 0) rfl))
  have N87 := Fr.snoc X87 N84 g
  refine w_iloadN X87 hx (Jvm.hb hby d10_170) rfl (pc' := 171) rfl ?_
  refine w_if_eq X87 hx (Jvm.hb hby d10_171) (by decide) (pcT := 200) (by decide) (pcF := 174) rfl (fun _ => ?_) (fun q => absurd (show (0 : Int32) = 0 from by decide) q)
  refine w_iconst X87 hx (1 : Int32) (Jvm.hb hby d10_200) (by decide) (pc' := 201) rfl ?_
  refine w_istoreN X87 hx (Jvm.hb hby d10_201) #[.val (.ref a0), .val (.int (1 : Int32)), .val (.int (1 : Int32)), .val (.int (0 : Int32)), .val (.int (-1 : Int32))] rfl  (pc' := 202) rfl ?_
  refine w_iloadN X87 hx (Jvm.hb hby d10_202) rfl (pc' := 203) rfl ?_
  exact w_zreturn X87 hx Bd.returns (Or.inr rfl) (BodyLoose.notSynchronized Bd) (Nat.le_of_ble_eq_true rfl) (Nat.le_of_ble_eq_true rfl) (Jvm.hb hby d10_203) ⟨rfl, N87, by rw [e87]; exact ⟨K87, ⟨F87_side, F87_spanX, F87_spanY, F87_stepColumn, F87_stepRow, F87_passes, F87_column, F87_row, F87_toColumnLine, F87_toRowLine, F87_started, E87⟩⟩⟩
def QN_eq (Z : State) (a0 : Addr) (sd : Int64) (sx : Int64) (sy : Int64) (sc : Int32) (sr : Int32) (ps : Int32) (cl : Int32) (rw' : Int32) (tc : Int64) (tr : Int64) (h0 : Heap) (n0 : Nat) (v : Option Value) (h : Heap) (L : List Loc) : Prop := v = some (.int (1 : Int32)) ∧ Fr n0 L ∧ Keep h0 h [a0] ∧ SWo Z h a0 sd sx sy sc sr ps (cl + sc) (rw' + sr) (tc + sd) (tr + sd) (1 : Int32)
set_option maxRecDepth 65536 in
set_option maxHeartbeats 40000000 in
theorem rmN_eq (l : Launch) (Z : State) (aw : Array Value) (hw : ∀ d ∈ tables_1, d.before aw Z = true) (ws : List Jvm.Cond) (a0 : Addr) (sd : Int64) (sx : Int64) (sy : Int64) (sc : Int32) (sr : Int32) (ps : Int32) (cl : Int32) (rw' : Int32) (tc : Int64) (tr : Int64) (h0 : Heap) (n0 : Nat) (g : n0 ≤ a0) (O : SWo Z h0 a0 sd sx sy sc sr ps cl rw' tc tr (1 : Int32)) (hp : ps = 1) (hX : tc < sx) (hY : tr < sy) (hC : cpJ tc sy tr sx = (0 : Int32)) :
    MetFree l (⟨"com/example/sarutahiko/sarutahiko/lattice/SegmentWalk", "next", "()Z"⟩ : MethodName) (head1 (Jvm.Cond.code (⟨"com/example/sarutahiko/sarutahiko/lattice/SegmentWalk", "next", "()Z"⟩ : MethodName) prog_23_method_3_code 5 (some .boolean) :: ws) ({ frames := 3, cells := 0, slots := 0, locals := 60 } : Room)) (fun a U => a = #[(.ref a0)] ∧ Z.Warmed39 U.vm ∧ U.heap = h0) (fun _ _ _ _ _ => True) (fun _ U o U' => ∃ v L, o = .returned v ∧ QN_eq Z a0 sd sx sy sc sr ps cl rw' tc tr h0 n0 v U'.heap L ∧ FrameEnd U o U' L ({ frames := 3, cells := 0, slots := 0, locals := 60 } : Room).cells ({ frames := 3, cells := 0, slots := 0, locals := 60 } : Room).slots) := by
  refine MetFree.of_bodySF (plainFor_of_name pn_2) hisR ?_
  intro p e s m args below meth c s₁ Bd hml0 hP _hKK
  obtain ⟨rfl, hZ, hh⟩ := hP
  have hx := Bd.exec
  have hby := Bd.bytes
  have hml : c.maxLocals = 5 := hml0
  have hown : s.vm.findClass "com/example/sarutahiko/sarutahiko/lattice/SegmentWalk" = some m.cls := findClass_of_methodNamed Bd.named
  have hnm := (name_of_methodNamed Bd.named Bd.method).1
  have X0 : Stand p l e ({ frames := 3, cells := 0, slots := 0, locals := 60 } : Room) s m #[(.ref a0)] below meth c s₁ [] 0 0 := Stand.of_body Bd
  have e0 : s₁.heap = h0 := by rw [← hh, Bd.state]; rfl
  refine Ow.enter (Q := QN_eq Z a0 sd sx sy sc sr ps cl rw' tc tr h0 n0) (ef_10 m a0) ?_
  show Ow p e below s _ _ _ (s₁.setTop (mkF m 0 #[.val (.ref a0), .unset, .unset, .unset, .unset] []))
  obtain ⟨F_side, F_spanX, F_spanY, F_stepColumn, F_stepRow, F_passes, F_column, F_row, F_toColumnLine, F_toRowLine, F_started, E⟩ := O
  refine w_iconst X0 hx (0 : Int32) (Jvm.hb hby d10_0) (by decide) (pc' := 1) rfl ?_
  refine w_istoreN X0 hx (Jvm.hb hby d10_1) #[.val (.ref a0), .val (.int (0 : Int32)), .unset, .unset, .unset] rfl  (pc' := 2) rfl ?_
  refine w_aloadN X0 hx (Jvm.hb hby d10_2) rfl rfl (pc' := 3) rfl ?_
  refine w_getfield X0 hx hZ hown (host := "") (Or.inl (hw _ (List.mem_of_getElem? (i := 69) rfl))) Via.refl e0 F_started (Jvm.hb hby d10_3) (pc' := 6) rfl ?_
  intro T88 X88 e88
  refine w_if_ne X88 hx (Jvm.hb hby d10_6) (by decide) (pcT := 22) (by decide) (pcF := 9) rfl (fun _ => ?_) (fun q => absurd q (show ¬ (1 : Int32) = 0 from by decide))
  refine w_aloadN X88 hx (Jvm.hb hby d10_22) rfl rfl (pc' := 23) rfl ?_
  refine w_getfield X88 hx hZ hown (host := "") (Or.inl (hw _ (List.mem_of_getElem? (i := 62) rfl))) Via.refl e88 F_passes (Jvm.hb hby d10_23) (pc' := 26) rfl ?_
  intro T89 X89 e89
  refine w_if_eq X89 hx (Jvm.hb hby d10_26) (by decide) (pcT := 202) (by decide) (pcF := 29) rfl (fun q => absurd q (show ¬ ps = 0 from fun z => by rw [hp] at z; exact absurd z (by decide))) (fun _ => ?_)
  refine w_aloadN X89 hx (Jvm.hb hby d10_29) rfl rfl (pc' := 30) rfl ?_
  refine w_getfield X89 hx hZ hown (host := "") (Or.inl (hw _ (List.mem_of_getElem? (i := 54) rfl))) Via.refl e89 F_toColumnLine (Jvm.hb hby d10_30) (pc' := 33) rfl ?_
  intro T90 X90 e90
  refine w_aloadN X90 hx (Jvm.hb hby d10_33) rfl rfl (pc' := 34) rfl ?_
  refine w_getfield X90 hx hZ hown (host := "") (Or.inl (hw _ (List.mem_of_getElem? (i := 46) rfl))) Via.refl e90 F_spanX (Jvm.hb hby d10_34) (pc' := 37) rfl ?_
  intro T91 X91 e91
  refine w_lcmp_lt X91 hx (Jvm.hb hby d10_37) (Jvm.hb hby d10_38) rfl (by decide) (pcT := 53) (by decide) (pcF := 41) rfl (fun _ => ?_) (fun q => absurd hX q)
  refine w_aloadN X91 hx (Jvm.hb hby d10_53) rfl rfl (pc' := 54) rfl ?_
  refine w_getfield X91 hx hZ hown (host := "") (Or.inl (hw _ (List.mem_of_getElem? (i := 54) rfl))) Via.refl e91 F_toColumnLine (Jvm.hb hby d10_54) (pc' := 57) rfl ?_
  intro T92 X92 e92
  refine w_aloadN X92 hx (Jvm.hb hby d10_57) rfl rfl (pc' := 58) rfl ?_
  refine w_getfield X92 hx hZ hown (host := "") (Or.inl (hw _ (List.mem_of_getElem? (i := 46) rfl))) Via.refl e92 F_spanX (Jvm.hb hby d10_58) (pc' := 61) rfl ?_
  intro T93 X93 e93
  refine w_lcmp_ge X93 hx (Jvm.hb hby d10_61) (Jvm.hb hby d10_62) rfl (by decide) (pcT := 69) (by decide) (pcF := 65) rfl (fun q => absurd hX q) (fun _ => ?_)
  refine w_iconst X93 hx (1 : Int32) (Jvm.hb hby d10_65) (by decide) (pc' := 66) rfl ?_
  refine w_goto X93 hx (Jvm.hb hby d10_66) (by decide) (pc' := 70) (by decide) ?_
  refine w_istoreN X93 hx (Jvm.hb hby d10_70) #[.val (.ref a0), .val (.int (0 : Int32)), .val (.int (1 : Int32)), .unset, .unset] rfl  (pc' := 71) rfl ?_
  refine w_aloadN X93 hx (Jvm.hb hby d10_71) rfl rfl (pc' := 72) rfl ?_
  refine w_getfield X93 hx hZ hown (host := "") (Or.inl (hw _ (List.mem_of_getElem? (i := 56) rfl))) Via.refl e93 F_toRowLine (Jvm.hb hby d10_72) (pc' := 75) rfl ?_
  intro T94 X94 e94
  refine w_aloadN X94 hx (Jvm.hb hby d10_75) rfl rfl (pc' := 76) rfl ?_
  refine w_getfield X94 hx hZ hown (host := "") (Or.inl (hw _ (List.mem_of_getElem? (i := 48) rfl))) Via.refl e94 F_spanY (Jvm.hb hby d10_76) (pc' := 79) rfl ?_
  intro T95 X95 e95
  refine w_lcmp_ge X95 hx (Jvm.hb hby d10_79) (Jvm.hb hby d10_80) rfl (by decide) (pcT := 87) (by decide) (pcF := 83) rfl (fun q => absurd hY q) (fun _ => ?_)
  refine w_iconst X95 hx (1 : Int32) (Jvm.hb hby d10_83) (by decide) (pc' := 84) rfl ?_
  refine w_goto X95 hx (Jvm.hb hby d10_84) (by decide) (pc' := 88) (by decide) ?_
  refine w_istoreN X95 hx (Jvm.hb hby d10_88) #[.val (.ref a0), .val (.int (0 : Int32)), .val (.int (1 : Int32)), .val (.int (1 : Int32)), .unset] rfl  (pc' := 89) rfl ?_
  refine w_iloadN X95 hx (Jvm.hb hby d10_89) rfl (pc' := 90) rfl ?_
  refine w_if_eq X95 hx (Jvm.hb hby d10_90) (by decide) (pcT := 140) (by decide) (pcF := 93) rfl (fun q => absurd q (show ¬ (1 : Int32) = 0 from by decide)) (fun _ => ?_)
  refine w_iloadN X95 hx (Jvm.hb hby d10_93) rfl (pc' := 94) rfl ?_
  refine w_if_eq X95 hx (Jvm.hb hby d10_94) (by decide) (pcT := 140) (by decide) (pcF := 97) rfl (fun q => absurd q (show ¬ (1 : Int32) = 0 from by decide)) (fun _ => ?_)
  refine w_aloadN X95 hx (Jvm.hb hby d10_97) rfl rfl (pc' := 98) rfl ?_
  refine w_getfield X95 hx hZ hown (host := "") (Or.inl (hw _ (List.mem_of_getElem? (i := 54) rfl))) Via.refl e95 F_toColumnLine (Jvm.hb hby d10_98) (pc' := 101) rfl ?_
  intro T96 X96 e96
  refine w_aloadN X96 hx (Jvm.hb hby d10_101) rfl rfl (pc' := 102) rfl ?_
  refine w_getfield X96 hx hZ hown (host := "") (Or.inl (hw _ (List.mem_of_getElem? (i := 48) rfl))) Via.refl e96 F_spanY (Jvm.hb hby d10_102) (pc' := 105) rfl ?_
  intro T97 X97 e97
  refine w_aloadN X97 hx (Jvm.hb hby d10_105) rfl rfl (pc' := 106) rfl ?_
  refine w_getfield X97 hx hZ hown (host := "") (Or.inl (hw _ (List.mem_of_getElem? (i := 56) rfl))) Via.refl e97 F_toRowLine (Jvm.hb hby d10_106) (pc' := 109) rfl ?_
  intro T98 X98 e98
  refine w_aloadN X98 hx (Jvm.hb hby d10_109) rfl rfl (pc' := 110) rfl ?_
  refine w_getfield X98 hx hZ hown (host := "") (Or.inl (hw _ (List.mem_of_getElem? (i := 46) rfl))) Via.refl e98 F_spanX (Jvm.hb hby d10_110) (pc' := 113) rfl ?_
  intro T99 X99 e99
  refine w_callS X99 hx hZ hown (hw _ (List.mem_of_getElem? (i := 82) rfl)) (hw _ (List.mem_of_getElem? (i := 83) rfl)) (hw _ (List.mem_of_getElem? (i := 24) rfl)) (hw _ (List.mem_of_getElem? (i := 84) rfl)) (by decide) (W := 0) (rm13 l Z aw hw [] tc sy tr sx h0) e99 (by decide) (by decide) (by decide) (by decide) (Jvm.hb hby d10_113) (by rw [hml]; rfl) (argsL := [(.long tc), (.long sy), (.long tr), (.long sx)]) (rest := []) pd_2 rfl rfl rfl (Nat.le_of_eq rfl) (pc' := 116) rfl ?_
  rintro _ T100 L100 X100 ⟨rfl, e100, rfl⟩
  show Ow p e below s _ _ _ (T100.setTop (mkF m 116 #[.val (.ref a0), .val (.int (0 : Int32)), .val (.int (1 : Int32)), .val (.int (1 : Int32)), .unset] [(.int (cpJ tc sy tr sx))]))
  rw [hC]
  show Ow p e below s _ _ _ (T100.setTop (mkF m 116 #[.val (.ref a0), .val (.int (0 : Int32)), .val (.int (1 : Int32)), .val (.int (1 : Int32)), .unset] [(.int (0 : Int32))]))
  refine w_istore X100 hx (Jvm.hb hby d10_116) #[.val (.ref a0), .val (.int (0 : Int32)), .val (.int (1 : Int32)), .val (.int (1 : Int32)), .val (.int (0 : Int32))] rfl  (pc' := 118) rfl ?_
  refine w_iload X100 hx (Jvm.hb hby d10_118) rfl (pc' := 120) rfl ?_
  refine w_if_gt X100 hx (Jvm.hb hby d10_120) (by decide) (pcT := 127) (by decide) (pcF := 123) rfl (fun q => absurd q (show ¬ (0 : Int32) < (0 : Int32) from by decide)) (fun _ => ?_)
  refine w_iconst X100 hx (1 : Int32) (Jvm.hb hby d10_123) (by decide) (pc' := 124) rfl ?_
  refine w_goto X100 hx (Jvm.hb hby d10_124) (by decide) (pc' := 128) (by decide) ?_
  refine w_istoreN X100 hx (Jvm.hb hby d10_128) #[.val (.ref a0), .val (.int (0 : Int32)), .val (.int (1 : Int32)), .val (.int (1 : Int32)), .val (.int (0 : Int32))] rfl  (pc' := 129) rfl ?_
  refine w_iload X100 hx (Jvm.hb hby d10_129) rfl (pc' := 131) rfl ?_
  refine w_if_lt X100 hx (Jvm.hb hby d10_131) (by decide) (pcT := 138) (by decide) (pcF := 134) rfl (fun q => absurd q (show ¬ (0 : Int32) < (0 : Int32) from by decide)) (fun _ => ?_)
  refine w_iconst X100 hx (1 : Int32) (Jvm.hb hby d10_134) (by decide) (pc' := 135) rfl ?_
  refine w_goto X100 hx (Jvm.hb hby d10_135) (by decide) (pc' := 139) (by decide) ?_
  refine w_istoreN X100 hx (Jvm.hb hby d10_139) #[.val (.ref a0), .val (.int (0 : Int32)), .val (.int (1 : Int32)), .val (.int (1 : Int32)), .val (.int (0 : Int32))] rfl  (pc' := 140) rfl ?_
  refine w_iloadN X100 hx (Jvm.hb hby d10_140) rfl (pc' := 141) rfl ?_
  refine w_if_eq X100 hx (Jvm.hb hby d10_141) (by decide) (pcT := 170) (by decide) (pcF := 144) rfl (fun q => absurd q (show ¬ (1 : Int32) = 0 from by decide)) (fun _ => ?_)
  refine w_aloadN X100 hx (Jvm.hb hby d10_144) rfl rfl (pc' := 145) rfl ?_
  refine w_dup X100 hx (Jvm.hb hby d10_145) rfl (pc' := 146) rfl ?_
  refine w_getfield X100 hx hZ hown (host := "") (Or.inl (hw _ (List.mem_of_getElem? (i := 58) rfl))) Via.refl e100 F_column (Jvm.hb hby d10_146) (pc' := 149) rfl ?_
  intro T101 X101 e101
  refine w_aloadN X101 hx (Jvm.hb hby d10_149) rfl rfl (pc' := 150) rfl ?_
  refine w_getfield X101 hx hZ hown (host := "") (Or.inl (hw _ (List.mem_of_getElem? (i := 50) rfl))) Via.refl e101 F_stepColumn (Jvm.hb hby d10_150) (pc' := 153) rfl ?_
  intro T102 X102 e102
  refine w_iadd X102 hx (Jvm.hb hby d10_153) (pc' := 154) rfl ?_
  refine w_putfield X102 hx hZ hown (host := "") (Or.inl (hw _ (List.mem_of_getElem? (i := 58) rfl))) Via.refl e102 F_column E (Or.inl (hw _ (List.mem_of_getElem? (i := 59) rfl))) (hw _ (List.mem_of_getElem? (i := 23) rfl)) (ty := .int) (by decide) rfl rfl (Jvm.hb hby d10_154) (pc' := 157) rfl ?_
  intro T103 h103 X103 e103 W103
  have F103_side := F_side.other W103 (Or.inr (slot_ne (Or.inr (hw _ (List.mem_of_getElem? (i := 42) rfl))) (Or.inl (hw _ (List.mem_of_getElem? (i := 59) rfl))) (by decide) (t := .long) (t' := .int) (by decide) (by decide)))
  have F103_spanX := F_spanX.other W103 (Or.inr (slot_ne (Or.inr (hw _ (List.mem_of_getElem? (i := 47) rfl))) (Or.inl (hw _ (List.mem_of_getElem? (i := 59) rfl))) (by decide) (t := .long) (t' := .int) (by decide) (by decide)))
  have F103_spanY := F_spanY.other W103 (Or.inr (slot_ne (Or.inr (hw _ (List.mem_of_getElem? (i := 49) rfl))) (Or.inl (hw _ (List.mem_of_getElem? (i := 59) rfl))) (by decide) (t := .long) (t' := .int) (by decide) (by decide)))
  have F103_stepColumn := F_stepColumn.other W103 (Or.inr (slot_ne (Or.inr (hw _ (List.mem_of_getElem? (i := 51) rfl))) (Or.inl (hw _ (List.mem_of_getElem? (i := 59) rfl))) (by decide) (t := .int) (t' := .int) (by decide) (by decide)))
  have F103_stepRow := F_stepRow.other W103 (Or.inr (slot_ne (Or.inr (hw _ (List.mem_of_getElem? (i := 53) rfl))) (Or.inl (hw _ (List.mem_of_getElem? (i := 59) rfl))) (by decide) (t := .int) (t' := .int) (by decide) (by decide)))
  have F103_passes := F_passes.other W103 (Or.inr (slot_ne (Or.inr (hw _ (List.mem_of_getElem? (i := 63) rfl))) (Or.inl (hw _ (List.mem_of_getElem? (i := 59) rfl))) (by decide) (t := .boolean) (t' := .int) (by decide) (by decide)))
  have F103_column := F_column.same W103
  have F103_row := F_row.other W103 (Or.inr (slot_ne (Or.inl (hw _ (List.mem_of_getElem? (i := 61) rfl))) (Or.inl (hw _ (List.mem_of_getElem? (i := 59) rfl))) (by decide) (t := .int) (t' := .int) (by decide) (by decide)))
  have F103_toColumnLine := F_toColumnLine.other W103 (Or.inr (slot_ne (Or.inl (hw _ (List.mem_of_getElem? (i := 55) rfl))) (Or.inl (hw _ (List.mem_of_getElem? (i := 59) rfl))) (by decide) (t := .long) (t' := .int) (by decide) (by decide)))
  have F103_toRowLine := F_toRowLine.other W103 (Or.inr (slot_ne (Or.inl (hw _ (List.mem_of_getElem? (i := 57) rfl))) (Or.inl (hw _ (List.mem_of_getElem? (i := 59) rfl))) (by decide) (t := .long) (t' := .int) (by decide) (by decide)))
  have F103_started := F_started.other W103 (Or.inr (slot_ne (Or.inl (hw _ (List.mem_of_getElem? (i := 70) rfl))) (Or.inl (hw _ (List.mem_of_getElem? (i := 59) rfl))) (by decide) (t := .boolean) (t' := .int) (by decide) (by decide)))
  have E103 := E.wr W103
  have K103 : Keep h0 h103 [a0] := Keep.of_wr W103
  have N103 := Fr.snoc X103 (Fr.nil n0) g
  refine w_aloadN X103 hx (Jvm.hb hby d10_157) rfl rfl (pc' := 158) rfl ?_
  refine w_dup X103 hx (Jvm.hb hby d10_158) rfl (pc' := 159) rfl ?_
  refine w_getfield X103 hx hZ hown (host := "") (Or.inl (hw _ (List.mem_of_getElem? (i := 54) rfl))) Via.refl e103 F103_toColumnLine (Jvm.hb hby d10_159) (pc' := 162) rfl ?_
  intro T104 X104 e104
  refine w_aloadN X104 hx (Jvm.hb hby d10_162) rfl rfl (pc' := 163) rfl ?_
  refine w_getfield X104 hx hZ hown (host := "") (Or.inl (hw _ (List.mem_of_getElem? (i := 41) rfl))) Via.refl e104 F103_side (Jvm.hb hby d10_163) (pc' := 166) rfl ?_
  intro T105 X105 e105
  refine w_ladd X105 hx (Jvm.hb hby d10_166) (pc' := 167) rfl ?_
  refine w_putfield X105 hx hZ hown (host := "") (Or.inl (hw _ (List.mem_of_getElem? (i := 54) rfl))) Via.refl e105 F103_toColumnLine E103 (Or.inl (hw _ (List.mem_of_getElem? (i := 55) rfl))) (hw _ (List.mem_of_getElem? (i := 23) rfl)) (ty := .long) (by decide) rfl rfl (Jvm.hb hby d10_167) (pc' := 170) rfl ?_
  intro T106 h106 X106 e106 W106
  have F106_side := F103_side.other W106 (Or.inr (slot_ne (Or.inr (hw _ (List.mem_of_getElem? (i := 42) rfl))) (Or.inl (hw _ (List.mem_of_getElem? (i := 55) rfl))) (by decide) (t := .long) (t' := .long) (by decide) (by decide)))
  have F106_spanX := F103_spanX.other W106 (Or.inr (slot_ne (Or.inr (hw _ (List.mem_of_getElem? (i := 47) rfl))) (Or.inl (hw _ (List.mem_of_getElem? (i := 55) rfl))) (by decide) (t := .long) (t' := .long) (by decide) (by decide)))
  have F106_spanY := F103_spanY.other W106 (Or.inr (slot_ne (Or.inr (hw _ (List.mem_of_getElem? (i := 49) rfl))) (Or.inl (hw _ (List.mem_of_getElem? (i := 55) rfl))) (by decide) (t := .long) (t' := .long) (by decide) (by decide)))
  have F106_stepColumn := F103_stepColumn.other W106 (Or.inr (slot_ne (Or.inr (hw _ (List.mem_of_getElem? (i := 51) rfl))) (Or.inl (hw _ (List.mem_of_getElem? (i := 55) rfl))) (by decide) (t := .int) (t' := .long) (by decide) (by decide)))
  have F106_stepRow := F103_stepRow.other W106 (Or.inr (slot_ne (Or.inr (hw _ (List.mem_of_getElem? (i := 53) rfl))) (Or.inl (hw _ (List.mem_of_getElem? (i := 55) rfl))) (by decide) (t := .int) (t' := .long) (by decide) (by decide)))
  have F106_passes := F103_passes.other W106 (Or.inr (slot_ne (Or.inr (hw _ (List.mem_of_getElem? (i := 63) rfl))) (Or.inl (hw _ (List.mem_of_getElem? (i := 55) rfl))) (by decide) (t := .boolean) (t' := .long) (by decide) (by decide)))
  have F106_column := F103_column.other W106 (Or.inr (slot_ne (Or.inl (hw _ (List.mem_of_getElem? (i := 59) rfl))) (Or.inl (hw _ (List.mem_of_getElem? (i := 55) rfl))) (by decide) (t := .int) (t' := .long) (by decide) (by decide)))
  have F106_row := F103_row.other W106 (Or.inr (slot_ne (Or.inl (hw _ (List.mem_of_getElem? (i := 61) rfl))) (Or.inl (hw _ (List.mem_of_getElem? (i := 55) rfl))) (by decide) (t := .int) (t' := .long) (by decide) (by decide)))
  have F106_toColumnLine := F103_toColumnLine.same W106
  have F106_toRowLine := F103_toRowLine.other W106 (Or.inr (slot_ne (Or.inl (hw _ (List.mem_of_getElem? (i := 57) rfl))) (Or.inl (hw _ (List.mem_of_getElem? (i := 55) rfl))) (by decide) (t := .long) (t' := .long) (by decide) (by decide)))
  have F106_started := F103_started.other W106 (Or.inr (slot_ne (Or.inl (hw _ (List.mem_of_getElem? (i := 70) rfl))) (Or.inl (hw _ (List.mem_of_getElem? (i := 55) rfl))) (by decide) (t := .boolean) (t' := .long) (by decide) (by decide)))
  have E106 := E103.wr W106
  have K106 : Keep h0 h106 [a0] := K103.wr W106 (Or.inl (List.mem_of_getElem? (i := 0) rfl))
  have N106 := Fr.snoc X106 N103 g
  refine w_iloadN X106 hx (Jvm.hb hby d10_170) rfl (pc' := 171) rfl ?_
  refine w_if_eq X106 hx (Jvm.hb hby d10_171) (by decide) (pcT := 200) (by decide) (pcF := 174) rfl (fun q => absurd q (show ¬ (1 : Int32) = 0 from by decide)) (fun _ => ?_)
  refine w_aloadN X106 hx (Jvm.hb hby d10_174) rfl rfl (pc' := 175) rfl ?_
  refine w_dup X106 hx (Jvm.hb hby d10_175) rfl (pc' := 176) rfl ?_
  refine w_getfield X106 hx hZ hown (host := "") (Or.inl (hw _ (List.mem_of_getElem? (i := 60) rfl))) Via.refl e106 F106_row (Jvm.hb hby d10_176) (pc' := 179) rfl ?_
  intro T107 X107 e107
  refine w_aloadN X107 hx (Jvm.hb hby d10_179) rfl rfl (pc' := 180) rfl ?_
  refine w_getfield X107 hx hZ hown (host := "") (Or.inl (hw _ (List.mem_of_getElem? (i := 52) rfl))) Via.refl e107 F106_stepRow (Jvm.hb hby d10_180) (pc' := 183) rfl ?_
  intro T108 X108 e108
  refine w_iadd X108 hx (Jvm.hb hby d10_183) (pc' := 184) rfl ?_
  refine w_putfield X108 hx hZ hown (host := "") (Or.inl (hw _ (List.mem_of_getElem? (i := 60) rfl))) Via.refl e108 F106_row E106 (Or.inl (hw _ (List.mem_of_getElem? (i := 61) rfl))) (hw _ (List.mem_of_getElem? (i := 23) rfl)) (ty := .int) (by decide) rfl rfl (Jvm.hb hby d10_184) (pc' := 187) rfl ?_
  intro T109 h109 X109 e109 W109
  have F109_side := F106_side.other W109 (Or.inr (slot_ne (Or.inr (hw _ (List.mem_of_getElem? (i := 42) rfl))) (Or.inl (hw _ (List.mem_of_getElem? (i := 61) rfl))) (by decide) (t := .long) (t' := .int) (by decide) (by decide)))
  have F109_spanX := F106_spanX.other W109 (Or.inr (slot_ne (Or.inr (hw _ (List.mem_of_getElem? (i := 47) rfl))) (Or.inl (hw _ (List.mem_of_getElem? (i := 61) rfl))) (by decide) (t := .long) (t' := .int) (by decide) (by decide)))
  have F109_spanY := F106_spanY.other W109 (Or.inr (slot_ne (Or.inr (hw _ (List.mem_of_getElem? (i := 49) rfl))) (Or.inl (hw _ (List.mem_of_getElem? (i := 61) rfl))) (by decide) (t := .long) (t' := .int) (by decide) (by decide)))
  have F109_stepColumn := F106_stepColumn.other W109 (Or.inr (slot_ne (Or.inr (hw _ (List.mem_of_getElem? (i := 51) rfl))) (Or.inl (hw _ (List.mem_of_getElem? (i := 61) rfl))) (by decide) (t := .int) (t' := .int) (by decide) (by decide)))
  have F109_stepRow := F106_stepRow.other W109 (Or.inr (slot_ne (Or.inr (hw _ (List.mem_of_getElem? (i := 53) rfl))) (Or.inl (hw _ (List.mem_of_getElem? (i := 61) rfl))) (by decide) (t := .int) (t' := .int) (by decide) (by decide)))
  have F109_passes := F106_passes.other W109 (Or.inr (slot_ne (Or.inr (hw _ (List.mem_of_getElem? (i := 63) rfl))) (Or.inl (hw _ (List.mem_of_getElem? (i := 61) rfl))) (by decide) (t := .boolean) (t' := .int) (by decide) (by decide)))
  have F109_column := F106_column.other W109 (Or.inr (slot_ne (Or.inl (hw _ (List.mem_of_getElem? (i := 59) rfl))) (Or.inl (hw _ (List.mem_of_getElem? (i := 61) rfl))) (by decide) (t := .int) (t' := .int) (by decide) (by decide)))
  have F109_row := F106_row.same W109
  have F109_toColumnLine := F106_toColumnLine.other W109 (Or.inr (slot_ne (Or.inl (hw _ (List.mem_of_getElem? (i := 55) rfl))) (Or.inl (hw _ (List.mem_of_getElem? (i := 61) rfl))) (by decide) (t := .long) (t' := .int) (by decide) (by decide)))
  have F109_toRowLine := F106_toRowLine.other W109 (Or.inr (slot_ne (Or.inl (hw _ (List.mem_of_getElem? (i := 57) rfl))) (Or.inl (hw _ (List.mem_of_getElem? (i := 61) rfl))) (by decide) (t := .long) (t' := .int) (by decide) (by decide)))
  have F109_started := F106_started.other W109 (Or.inr (slot_ne (Or.inl (hw _ (List.mem_of_getElem? (i := 70) rfl))) (Or.inl (hw _ (List.mem_of_getElem? (i := 61) rfl))) (by decide) (t := .boolean) (t' := .int) (by decide) (by decide)))
  have E109 := E106.wr W109
  have K109 : Keep h0 h109 [a0] := K106.wr W109 (Or.inl (List.mem_of_getElem? (i := 0) rfl))
  have N109 := Fr.snoc X109 N106 g
  refine w_aloadN X109 hx (Jvm.hb hby d10_187) rfl rfl (pc' := 188) rfl ?_
  refine w_dup X109 hx (Jvm.hb hby d10_188) rfl (pc' := 189) rfl ?_
  refine w_getfield X109 hx hZ hown (host := "") (Or.inl (hw _ (List.mem_of_getElem? (i := 56) rfl))) Via.refl e109 F109_toRowLine (Jvm.hb hby d10_189) (pc' := 192) rfl ?_
  intro T110 X110 e110
  refine w_aloadN X110 hx (Jvm.hb hby d10_192) rfl rfl (pc' := 193) rfl ?_
  refine w_getfield X110 hx hZ hown (host := "") (Or.inl (hw _ (List.mem_of_getElem? (i := 41) rfl))) Via.refl e110 F109_side (Jvm.hb hby d10_193) (pc' := 196) rfl ?_
  intro T111 X111 e111
  refine w_ladd X111 hx (Jvm.hb hby d10_196) (pc' := 197) rfl ?_
  refine w_putfield X111 hx hZ hown (host := "") (Or.inl (hw _ (List.mem_of_getElem? (i := 56) rfl))) Via.refl e111 F109_toRowLine E109 (Or.inl (hw _ (List.mem_of_getElem? (i := 57) rfl))) (hw _ (List.mem_of_getElem? (i := 23) rfl)) (ty := .long) (by decide) rfl rfl (Jvm.hb hby d10_197) (pc' := 200) rfl ?_
  intro T112 h112 X112 e112 W112
  have F112_side := F109_side.other W112 (Or.inr (slot_ne (Or.inr (hw _ (List.mem_of_getElem? (i := 42) rfl))) (Or.inl (hw _ (List.mem_of_getElem? (i := 57) rfl))) (by decide) (t := .long) (t' := .long) (by decide) (by decide)))
  have F112_spanX := F109_spanX.other W112 (Or.inr (slot_ne (Or.inr (hw _ (List.mem_of_getElem? (i := 47) rfl))) (Or.inl (hw _ (List.mem_of_getElem? (i := 57) rfl))) (by decide) (t := .long) (t' := .long) (by decide) (by decide)))
  have F112_spanY := F109_spanY.other W112 (Or.inr (slot_ne (Or.inr (hw _ (List.mem_of_getElem? (i := 49) rfl))) (Or.inl (hw _ (List.mem_of_getElem? (i := 57) rfl))) (by decide) (t := .long) (t' := .long) (by decide) (by decide)))
  have F112_stepColumn := F109_stepColumn.other W112 (Or.inr (slot_ne (Or.inr (hw _ (List.mem_of_getElem? (i := 51) rfl))) (Or.inl (hw _ (List.mem_of_getElem? (i := 57) rfl))) (by decide) (t := .int) (t' := .long) (by decide) (by decide)))
  have F112_stepRow := F109_stepRow.other W112 (Or.inr (slot_ne (Or.inr (hw _ (List.mem_of_getElem? (i := 53) rfl))) (Or.inl (hw _ (List.mem_of_getElem? (i := 57) rfl))) (by decide) (t := .int) (t' := .long) (by decide) (by decide)))
  have F112_passes := F109_passes.other W112 (Or.inr (slot_ne (Or.inr (hw _ (List.mem_of_getElem? (i := 63) rfl))) (Or.inl (hw _ (List.mem_of_getElem? (i := 57) rfl))) (by decide) (t := .boolean) (t' := .long) (by decide) (by decide)))
  have F112_column := F109_column.other W112 (Or.inr (slot_ne (Or.inl (hw _ (List.mem_of_getElem? (i := 59) rfl))) (Or.inl (hw _ (List.mem_of_getElem? (i := 57) rfl))) (by decide) (t := .int) (t' := .long) (by decide) (by decide)))
  have F112_row := F109_row.other W112 (Or.inr (slot_ne (Or.inl (hw _ (List.mem_of_getElem? (i := 61) rfl))) (Or.inl (hw _ (List.mem_of_getElem? (i := 57) rfl))) (by decide) (t := .int) (t' := .long) (by decide) (by decide)))
  have F112_toColumnLine := F109_toColumnLine.other W112 (Or.inr (slot_ne (Or.inl (hw _ (List.mem_of_getElem? (i := 55) rfl))) (Or.inl (hw _ (List.mem_of_getElem? (i := 57) rfl))) (by decide) (t := .long) (t' := .long) (by decide) (by decide)))
  have F112_toRowLine := F109_toRowLine.same W112
  have F112_started := F109_started.other W112 (Or.inr (slot_ne (Or.inl (hw _ (List.mem_of_getElem? (i := 70) rfl))) (Or.inl (hw _ (List.mem_of_getElem? (i := 57) rfl))) (by decide) (t := .boolean) (t' := .long) (by decide) (by decide)))
  have E112 := E109.wr W112
  have K112 : Keep h0 h112 [a0] := K109.wr W112 (Or.inl (List.mem_of_getElem? (i := 0) rfl))
  have N112 := Fr.snoc X112 N109 g
  refine w_iconst X112 hx (1 : Int32) (Jvm.hb hby d10_200) (by decide) (pc' := 201) rfl ?_
  refine w_istoreN X112 hx (Jvm.hb hby d10_201) #[.val (.ref a0), .val (.int (1 : Int32)), .val (.int (1 : Int32)), .val (.int (1 : Int32)), .val (.int (0 : Int32))] rfl  (pc' := 202) rfl ?_
  refine w_iloadN X112 hx (Jvm.hb hby d10_202) rfl (pc' := 203) rfl ?_
  exact w_zreturn X112 hx Bd.returns (Or.inr rfl) (BodyLoose.notSynchronized Bd) (Nat.le_of_ble_eq_true rfl) (Nat.le_of_ble_eq_true rfl) (Jvm.hb hby d10_203) ⟨rfl, N112, by rw [e112]; exact ⟨K112, ⟨F112_side, F112_spanX, F112_spanY, F112_stepColumn, F112_stepRow, F112_passes, F112_column, F112_row, F112_toColumnLine, F112_toRowLine, F112_started, E112⟩⟩⟩
def QN_gt (Z : State) (a0 : Addr) (sd : Int64) (sx : Int64) (sy : Int64) (sc : Int32) (sr : Int32) (ps : Int32) (cl : Int32) (rw' : Int32) (tc : Int64) (tr : Int64) (h0 : Heap) (n0 : Nat) (v : Option Value) (h : Heap) (L : List Loc) : Prop := v = some (.int (1 : Int32)) ∧ Fr n0 L ∧ Keep h0 h [a0] ∧ SWo Z h a0 sd sx sy sc sr ps cl (rw' + sr) tc (tr + sd) (1 : Int32)
set_option maxRecDepth 65536 in
set_option maxHeartbeats 40000000 in
theorem rmN_gt (l : Launch) (Z : State) (aw : Array Value) (hw : ∀ d ∈ tables_1, d.before aw Z = true) (ws : List Jvm.Cond) (a0 : Addr) (sd : Int64) (sx : Int64) (sy : Int64) (sc : Int32) (sr : Int32) (ps : Int32) (cl : Int32) (rw' : Int32) (tc : Int64) (tr : Int64) (h0 : Heap) (n0 : Nat) (g : n0 ≤ a0) (O : SWo Z h0 a0 sd sx sy sc sr ps cl rw' tc tr (1 : Int32)) (hp : ps = 1) (hX : tc < sx) (hY : tr < sy) (hC : cpJ tc sy tr sx = (1 : Int32)) :
    MetFree l (⟨"com/example/sarutahiko/sarutahiko/lattice/SegmentWalk", "next", "()Z"⟩ : MethodName) (head1 (Jvm.Cond.code (⟨"com/example/sarutahiko/sarutahiko/lattice/SegmentWalk", "next", "()Z"⟩ : MethodName) prog_23_method_3_code 5 (some .boolean) :: ws) ({ frames := 3, cells := 0, slots := 0, locals := 60 } : Room)) (fun a U => a = #[(.ref a0)] ∧ Z.Warmed39 U.vm ∧ U.heap = h0) (fun _ _ _ _ _ => True) (fun _ U o U' => ∃ v L, o = .returned v ∧ QN_gt Z a0 sd sx sy sc sr ps cl rw' tc tr h0 n0 v U'.heap L ∧ FrameEnd U o U' L ({ frames := 3, cells := 0, slots := 0, locals := 60 } : Room).cells ({ frames := 3, cells := 0, slots := 0, locals := 60 } : Room).slots) := by
  refine MetFree.of_bodySF (plainFor_of_name pn_2) hisR ?_
  intro p e s m args below meth c s₁ Bd hml0 hP _hKK
  obtain ⟨rfl, hZ, hh⟩ := hP
  have hx := Bd.exec
  have hby := Bd.bytes
  have hml : c.maxLocals = 5 := hml0
  have hown : s.vm.findClass "com/example/sarutahiko/sarutahiko/lattice/SegmentWalk" = some m.cls := findClass_of_methodNamed Bd.named
  have hnm := (name_of_methodNamed Bd.named Bd.method).1
  have X0 : Stand p l e ({ frames := 3, cells := 0, slots := 0, locals := 60 } : Room) s m #[(.ref a0)] below meth c s₁ [] 0 0 := Stand.of_body Bd
  have e0 : s₁.heap = h0 := by rw [← hh, Bd.state]; rfl
  refine Ow.enter (Q := QN_gt Z a0 sd sx sy sc sr ps cl rw' tc tr h0 n0) (ef_10 m a0) ?_
  show Ow p e below s _ _ _ (s₁.setTop (mkF m 0 #[.val (.ref a0), .unset, .unset, .unset, .unset] []))
  obtain ⟨F_side, F_spanX, F_spanY, F_stepColumn, F_stepRow, F_passes, F_column, F_row, F_toColumnLine, F_toRowLine, F_started, E⟩ := O
  refine w_iconst X0 hx (0 : Int32) (Jvm.hb hby d10_0) (by decide) (pc' := 1) rfl ?_
  refine w_istoreN X0 hx (Jvm.hb hby d10_1) #[.val (.ref a0), .val (.int (0 : Int32)), .unset, .unset, .unset] rfl  (pc' := 2) rfl ?_
  refine w_aloadN X0 hx (Jvm.hb hby d10_2) rfl rfl (pc' := 3) rfl ?_
  refine w_getfield X0 hx hZ hown (host := "") (Or.inl (hw _ (List.mem_of_getElem? (i := 69) rfl))) Via.refl e0 F_started (Jvm.hb hby d10_3) (pc' := 6) rfl ?_
  intro T113 X113 e113
  refine w_if_ne X113 hx (Jvm.hb hby d10_6) (by decide) (pcT := 22) (by decide) (pcF := 9) rfl (fun _ => ?_) (fun q => absurd q (show ¬ (1 : Int32) = 0 from by decide))
  refine w_aloadN X113 hx (Jvm.hb hby d10_22) rfl rfl (pc' := 23) rfl ?_
  refine w_getfield X113 hx hZ hown (host := "") (Or.inl (hw _ (List.mem_of_getElem? (i := 62) rfl))) Via.refl e113 F_passes (Jvm.hb hby d10_23) (pc' := 26) rfl ?_
  intro T114 X114 e114
  refine w_if_eq X114 hx (Jvm.hb hby d10_26) (by decide) (pcT := 202) (by decide) (pcF := 29) rfl (fun q => absurd q (show ¬ ps = 0 from fun z => by rw [hp] at z; exact absurd z (by decide))) (fun _ => ?_)
  refine w_aloadN X114 hx (Jvm.hb hby d10_29) rfl rfl (pc' := 30) rfl ?_
  refine w_getfield X114 hx hZ hown (host := "") (Or.inl (hw _ (List.mem_of_getElem? (i := 54) rfl))) Via.refl e114 F_toColumnLine (Jvm.hb hby d10_30) (pc' := 33) rfl ?_
  intro T115 X115 e115
  refine w_aloadN X115 hx (Jvm.hb hby d10_33) rfl rfl (pc' := 34) rfl ?_
  refine w_getfield X115 hx hZ hown (host := "") (Or.inl (hw _ (List.mem_of_getElem? (i := 46) rfl))) Via.refl e115 F_spanX (Jvm.hb hby d10_34) (pc' := 37) rfl ?_
  intro T116 X116 e116
  refine w_lcmp_lt X116 hx (Jvm.hb hby d10_37) (Jvm.hb hby d10_38) rfl (by decide) (pcT := 53) (by decide) (pcF := 41) rfl (fun _ => ?_) (fun q => absurd hX q)
  refine w_aloadN X116 hx (Jvm.hb hby d10_53) rfl rfl (pc' := 54) rfl ?_
  refine w_getfield X116 hx hZ hown (host := "") (Or.inl (hw _ (List.mem_of_getElem? (i := 54) rfl))) Via.refl e116 F_toColumnLine (Jvm.hb hby d10_54) (pc' := 57) rfl ?_
  intro T117 X117 e117
  refine w_aloadN X117 hx (Jvm.hb hby d10_57) rfl rfl (pc' := 58) rfl ?_
  refine w_getfield X117 hx hZ hown (host := "") (Or.inl (hw _ (List.mem_of_getElem? (i := 46) rfl))) Via.refl e117 F_spanX (Jvm.hb hby d10_58) (pc' := 61) rfl ?_
  intro T118 X118 e118
  refine w_lcmp_ge X118 hx (Jvm.hb hby d10_61) (Jvm.hb hby d10_62) rfl (by decide) (pcT := 69) (by decide) (pcF := 65) rfl (fun q => absurd hX q) (fun _ => ?_)
  refine w_iconst X118 hx (1 : Int32) (Jvm.hb hby d10_65) (by decide) (pc' := 66) rfl ?_
  refine w_goto X118 hx (Jvm.hb hby d10_66) (by decide) (pc' := 70) (by decide) ?_
  refine w_istoreN X118 hx (Jvm.hb hby d10_70) #[.val (.ref a0), .val (.int (0 : Int32)), .val (.int (1 : Int32)), .unset, .unset] rfl  (pc' := 71) rfl ?_
  refine w_aloadN X118 hx (Jvm.hb hby d10_71) rfl rfl (pc' := 72) rfl ?_
  refine w_getfield X118 hx hZ hown (host := "") (Or.inl (hw _ (List.mem_of_getElem? (i := 56) rfl))) Via.refl e118 F_toRowLine (Jvm.hb hby d10_72) (pc' := 75) rfl ?_
  intro T119 X119 e119
  refine w_aloadN X119 hx (Jvm.hb hby d10_75) rfl rfl (pc' := 76) rfl ?_
  refine w_getfield X119 hx hZ hown (host := "") (Or.inl (hw _ (List.mem_of_getElem? (i := 48) rfl))) Via.refl e119 F_spanY (Jvm.hb hby d10_76) (pc' := 79) rfl ?_
  intro T120 X120 e120
  refine w_lcmp_ge X120 hx (Jvm.hb hby d10_79) (Jvm.hb hby d10_80) rfl (by decide) (pcT := 87) (by decide) (pcF := 83) rfl (fun q => absurd hY q) (fun _ => ?_)
  refine w_iconst X120 hx (1 : Int32) (Jvm.hb hby d10_83) (by decide) (pc' := 84) rfl ?_
  refine w_goto X120 hx (Jvm.hb hby d10_84) (by decide) (pc' := 88) (by decide) ?_
  refine w_istoreN X120 hx (Jvm.hb hby d10_88) #[.val (.ref a0), .val (.int (0 : Int32)), .val (.int (1 : Int32)), .val (.int (1 : Int32)), .unset] rfl  (pc' := 89) rfl ?_
  refine w_iloadN X120 hx (Jvm.hb hby d10_89) rfl (pc' := 90) rfl ?_
  refine w_if_eq X120 hx (Jvm.hb hby d10_90) (by decide) (pcT := 140) (by decide) (pcF := 93) rfl (fun q => absurd q (show ¬ (1 : Int32) = 0 from by decide)) (fun _ => ?_)
  refine w_iloadN X120 hx (Jvm.hb hby d10_93) rfl (pc' := 94) rfl ?_
  refine w_if_eq X120 hx (Jvm.hb hby d10_94) (by decide) (pcT := 140) (by decide) (pcF := 97) rfl (fun q => absurd q (show ¬ (1 : Int32) = 0 from by decide)) (fun _ => ?_)
  refine w_aloadN X120 hx (Jvm.hb hby d10_97) rfl rfl (pc' := 98) rfl ?_
  refine w_getfield X120 hx hZ hown (host := "") (Or.inl (hw _ (List.mem_of_getElem? (i := 54) rfl))) Via.refl e120 F_toColumnLine (Jvm.hb hby d10_98) (pc' := 101) rfl ?_
  intro T121 X121 e121
  refine w_aloadN X121 hx (Jvm.hb hby d10_101) rfl rfl (pc' := 102) rfl ?_
  refine w_getfield X121 hx hZ hown (host := "") (Or.inl (hw _ (List.mem_of_getElem? (i := 48) rfl))) Via.refl e121 F_spanY (Jvm.hb hby d10_102) (pc' := 105) rfl ?_
  intro T122 X122 e122
  refine w_aloadN X122 hx (Jvm.hb hby d10_105) rfl rfl (pc' := 106) rfl ?_
  refine w_getfield X122 hx hZ hown (host := "") (Or.inl (hw _ (List.mem_of_getElem? (i := 56) rfl))) Via.refl e122 F_toRowLine (Jvm.hb hby d10_106) (pc' := 109) rfl ?_
  intro T123 X123 e123
  refine w_aloadN X123 hx (Jvm.hb hby d10_109) rfl rfl (pc' := 110) rfl ?_
  refine w_getfield X123 hx hZ hown (host := "") (Or.inl (hw _ (List.mem_of_getElem? (i := 46) rfl))) Via.refl e123 F_spanX (Jvm.hb hby d10_110) (pc' := 113) rfl ?_
  intro T124 X124 e124
  refine w_callS X124 hx hZ hown (hw _ (List.mem_of_getElem? (i := 82) rfl)) (hw _ (List.mem_of_getElem? (i := 83) rfl)) (hw _ (List.mem_of_getElem? (i := 24) rfl)) (hw _ (List.mem_of_getElem? (i := 84) rfl)) (by decide) (W := 0) (rm13 l Z aw hw [] tc sy tr sx h0) e124 (by decide) (by decide) (by decide) (by decide) (Jvm.hb hby d10_113) (by rw [hml]; rfl) (argsL := [(.long tc), (.long sy), (.long tr), (.long sx)]) (rest := []) pd_2 rfl rfl rfl (Nat.le_of_eq rfl) (pc' := 116) rfl ?_
  rintro _ T125 L125 X125 ⟨rfl, e125, rfl⟩
  show Ow p e below s _ _ _ (T125.setTop (mkF m 116 #[.val (.ref a0), .val (.int (0 : Int32)), .val (.int (1 : Int32)), .val (.int (1 : Int32)), .unset] [(.int (cpJ tc sy tr sx))]))
  rw [hC]
  show Ow p e below s _ _ _ (T125.setTop (mkF m 116 #[.val (.ref a0), .val (.int (0 : Int32)), .val (.int (1 : Int32)), .val (.int (1 : Int32)), .unset] [(.int (1 : Int32))]))
  refine w_istore X125 hx (Jvm.hb hby d10_116) #[.val (.ref a0), .val (.int (0 : Int32)), .val (.int (1 : Int32)), .val (.int (1 : Int32)), .val (.int (1 : Int32))] rfl  (pc' := 118) rfl ?_
  refine w_iload X125 hx (Jvm.hb hby d10_118) rfl (pc' := 120) rfl ?_
  refine w_if_gt X125 hx (Jvm.hb hby d10_120) (by decide) (pcT := 127) (by decide) (pcF := 123) rfl (fun _ => ?_) (fun q => absurd (show (0 : Int32) < (1 : Int32) from by decide) q)
  refine w_iconst X125 hx (0 : Int32) (Jvm.hb hby d10_127) (by decide) (pc' := 128) rfl ?_
  refine w_istoreN X125 hx (Jvm.hb hby d10_128) #[.val (.ref a0), .val (.int (0 : Int32)), .val (.int (0 : Int32)), .val (.int (1 : Int32)), .val (.int (1 : Int32))] rfl  (pc' := 129) rfl ?_
  refine w_iload X125 hx (Jvm.hb hby d10_129) rfl (pc' := 131) rfl ?_
  refine w_if_lt X125 hx (Jvm.hb hby d10_131) (by decide) (pcT := 138) (by decide) (pcF := 134) rfl (fun q => absurd q (show ¬ (1 : Int32) < (0 : Int32) from by decide)) (fun _ => ?_)
  refine w_iconst X125 hx (1 : Int32) (Jvm.hb hby d10_134) (by decide) (pc' := 135) rfl ?_
  refine w_goto X125 hx (Jvm.hb hby d10_135) (by decide) (pc' := 139) (by decide) ?_
  refine w_istoreN X125 hx (Jvm.hb hby d10_139) #[.val (.ref a0), .val (.int (0 : Int32)), .val (.int (0 : Int32)), .val (.int (1 : Int32)), .val (.int (1 : Int32))] rfl  (pc' := 140) rfl ?_
  refine w_iloadN X125 hx (Jvm.hb hby d10_140) rfl (pc' := 141) rfl ?_
  refine w_if_eq X125 hx (Jvm.hb hby d10_141) (by decide) (pcT := 170) (by decide) (pcF := 144) rfl (fun _ => ?_) (fun q => absurd (show (0 : Int32) = 0 from by decide) q)
  refine w_iloadN X125 hx (Jvm.hb hby d10_170) rfl (pc' := 171) rfl ?_
  refine w_if_eq X125 hx (Jvm.hb hby d10_171) (by decide) (pcT := 200) (by decide) (pcF := 174) rfl (fun q => absurd q (show ¬ (1 : Int32) = 0 from by decide)) (fun _ => ?_)
  refine w_aloadN X125 hx (Jvm.hb hby d10_174) rfl rfl (pc' := 175) rfl ?_
  refine w_dup X125 hx (Jvm.hb hby d10_175) rfl (pc' := 176) rfl ?_
  refine w_getfield X125 hx hZ hown (host := "") (Or.inl (hw _ (List.mem_of_getElem? (i := 60) rfl))) Via.refl e125 F_row (Jvm.hb hby d10_176) (pc' := 179) rfl ?_
  intro T126 X126 e126
  refine w_aloadN X126 hx (Jvm.hb hby d10_179) rfl rfl (pc' := 180) rfl ?_
  refine w_getfield X126 hx hZ hown (host := "") (Or.inl (hw _ (List.mem_of_getElem? (i := 52) rfl))) Via.refl e126 F_stepRow (Jvm.hb hby d10_180) (pc' := 183) rfl ?_
  intro T127 X127 e127
  refine w_iadd X127 hx (Jvm.hb hby d10_183) (pc' := 184) rfl ?_
  refine w_putfield X127 hx hZ hown (host := "") (Or.inl (hw _ (List.mem_of_getElem? (i := 60) rfl))) Via.refl e127 F_row E (Or.inl (hw _ (List.mem_of_getElem? (i := 61) rfl))) (hw _ (List.mem_of_getElem? (i := 23) rfl)) (ty := .int) (by decide) rfl rfl (Jvm.hb hby d10_184) (pc' := 187) rfl ?_
  intro T128 h128 X128 e128 W128
  have F128_side := F_side.other W128 (Or.inr (slot_ne (Or.inr (hw _ (List.mem_of_getElem? (i := 42) rfl))) (Or.inl (hw _ (List.mem_of_getElem? (i := 61) rfl))) (by decide) (t := .long) (t' := .int) (by decide) (by decide)))
  have F128_spanX := F_spanX.other W128 (Or.inr (slot_ne (Or.inr (hw _ (List.mem_of_getElem? (i := 47) rfl))) (Or.inl (hw _ (List.mem_of_getElem? (i := 61) rfl))) (by decide) (t := .long) (t' := .int) (by decide) (by decide)))
  have F128_spanY := F_spanY.other W128 (Or.inr (slot_ne (Or.inr (hw _ (List.mem_of_getElem? (i := 49) rfl))) (Or.inl (hw _ (List.mem_of_getElem? (i := 61) rfl))) (by decide) (t := .long) (t' := .int) (by decide) (by decide)))
  have F128_stepColumn := F_stepColumn.other W128 (Or.inr (slot_ne (Or.inr (hw _ (List.mem_of_getElem? (i := 51) rfl))) (Or.inl (hw _ (List.mem_of_getElem? (i := 61) rfl))) (by decide) (t := .int) (t' := .int) (by decide) (by decide)))
  have F128_stepRow := F_stepRow.other W128 (Or.inr (slot_ne (Or.inr (hw _ (List.mem_of_getElem? (i := 53) rfl))) (Or.inl (hw _ (List.mem_of_getElem? (i := 61) rfl))) (by decide) (t := .int) (t' := .int) (by decide) (by decide)))
  have F128_passes := F_passes.other W128 (Or.inr (slot_ne (Or.inr (hw _ (List.mem_of_getElem? (i := 63) rfl))) (Or.inl (hw _ (List.mem_of_getElem? (i := 61) rfl))) (by decide) (t := .boolean) (t' := .int) (by decide) (by decide)))
  have F128_column := F_column.other W128 (Or.inr (slot_ne (Or.inl (hw _ (List.mem_of_getElem? (i := 59) rfl))) (Or.inl (hw _ (List.mem_of_getElem? (i := 61) rfl))) (by decide) (t := .int) (t' := .int) (by decide) (by decide)))
  have F128_row := F_row.same W128
  have F128_toColumnLine := F_toColumnLine.other W128 (Or.inr (slot_ne (Or.inl (hw _ (List.mem_of_getElem? (i := 55) rfl))) (Or.inl (hw _ (List.mem_of_getElem? (i := 61) rfl))) (by decide) (t := .long) (t' := .int) (by decide) (by decide)))
  have F128_toRowLine := F_toRowLine.other W128 (Or.inr (slot_ne (Or.inl (hw _ (List.mem_of_getElem? (i := 57) rfl))) (Or.inl (hw _ (List.mem_of_getElem? (i := 61) rfl))) (by decide) (t := .long) (t' := .int) (by decide) (by decide)))
  have F128_started := F_started.other W128 (Or.inr (slot_ne (Or.inl (hw _ (List.mem_of_getElem? (i := 70) rfl))) (Or.inl (hw _ (List.mem_of_getElem? (i := 61) rfl))) (by decide) (t := .boolean) (t' := .int) (by decide) (by decide)))
  have E128 := E.wr W128
  have K128 : Keep h0 h128 [a0] := Keep.of_wr W128
  have N128 := Fr.snoc X128 (Fr.nil n0) g
  refine w_aloadN X128 hx (Jvm.hb hby d10_187) rfl rfl (pc' := 188) rfl ?_
  refine w_dup X128 hx (Jvm.hb hby d10_188) rfl (pc' := 189) rfl ?_
  refine w_getfield X128 hx hZ hown (host := "") (Or.inl (hw _ (List.mem_of_getElem? (i := 56) rfl))) Via.refl e128 F128_toRowLine (Jvm.hb hby d10_189) (pc' := 192) rfl ?_
  intro T129 X129 e129
  refine w_aloadN X129 hx (Jvm.hb hby d10_192) rfl rfl (pc' := 193) rfl ?_
  refine w_getfield X129 hx hZ hown (host := "") (Or.inl (hw _ (List.mem_of_getElem? (i := 41) rfl))) Via.refl e129 F128_side (Jvm.hb hby d10_193) (pc' := 196) rfl ?_
  intro T130 X130 e130
  refine w_ladd X130 hx (Jvm.hb hby d10_196) (pc' := 197) rfl ?_
  refine w_putfield X130 hx hZ hown (host := "") (Or.inl (hw _ (List.mem_of_getElem? (i := 56) rfl))) Via.refl e130 F128_toRowLine E128 (Or.inl (hw _ (List.mem_of_getElem? (i := 57) rfl))) (hw _ (List.mem_of_getElem? (i := 23) rfl)) (ty := .long) (by decide) rfl rfl (Jvm.hb hby d10_197) (pc' := 200) rfl ?_
  intro T131 h131 X131 e131 W131
  have F131_side := F128_side.other W131 (Or.inr (slot_ne (Or.inr (hw _ (List.mem_of_getElem? (i := 42) rfl))) (Or.inl (hw _ (List.mem_of_getElem? (i := 57) rfl))) (by decide) (t := .long) (t' := .long) (by decide) (by decide)))
  have F131_spanX := F128_spanX.other W131 (Or.inr (slot_ne (Or.inr (hw _ (List.mem_of_getElem? (i := 47) rfl))) (Or.inl (hw _ (List.mem_of_getElem? (i := 57) rfl))) (by decide) (t := .long) (t' := .long) (by decide) (by decide)))
  have F131_spanY := F128_spanY.other W131 (Or.inr (slot_ne (Or.inr (hw _ (List.mem_of_getElem? (i := 49) rfl))) (Or.inl (hw _ (List.mem_of_getElem? (i := 57) rfl))) (by decide) (t := .long) (t' := .long) (by decide) (by decide)))
  have F131_stepColumn := F128_stepColumn.other W131 (Or.inr (slot_ne (Or.inr (hw _ (List.mem_of_getElem? (i := 51) rfl))) (Or.inl (hw _ (List.mem_of_getElem? (i := 57) rfl))) (by decide) (t := .int) (t' := .long) (by decide) (by decide)))
  have F131_stepRow := F128_stepRow.other W131 (Or.inr (slot_ne (Or.inr (hw _ (List.mem_of_getElem? (i := 53) rfl))) (Or.inl (hw _ (List.mem_of_getElem? (i := 57) rfl))) (by decide) (t := .int) (t' := .long) (by decide) (by decide)))
  have F131_passes := F128_passes.other W131 (Or.inr (slot_ne (Or.inr (hw _ (List.mem_of_getElem? (i := 63) rfl))) (Or.inl (hw _ (List.mem_of_getElem? (i := 57) rfl))) (by decide) (t := .boolean) (t' := .long) (by decide) (by decide)))
  have F131_column := F128_column.other W131 (Or.inr (slot_ne (Or.inl (hw _ (List.mem_of_getElem? (i := 59) rfl))) (Or.inl (hw _ (List.mem_of_getElem? (i := 57) rfl))) (by decide) (t := .int) (t' := .long) (by decide) (by decide)))
  have F131_row := F128_row.other W131 (Or.inr (slot_ne (Or.inl (hw _ (List.mem_of_getElem? (i := 61) rfl))) (Or.inl (hw _ (List.mem_of_getElem? (i := 57) rfl))) (by decide) (t := .int) (t' := .long) (by decide) (by decide)))
  have F131_toColumnLine := F128_toColumnLine.other W131 (Or.inr (slot_ne (Or.inl (hw _ (List.mem_of_getElem? (i := 55) rfl))) (Or.inl (hw _ (List.mem_of_getElem? (i := 57) rfl))) (by decide) (t := .long) (t' := .long) (by decide) (by decide)))
  have F131_toRowLine := F128_toRowLine.same W131
  have F131_started := F128_started.other W131 (Or.inr (slot_ne (Or.inl (hw _ (List.mem_of_getElem? (i := 70) rfl))) (Or.inl (hw _ (List.mem_of_getElem? (i := 57) rfl))) (by decide) (t := .boolean) (t' := .long) (by decide) (by decide)))
  have E131 := E128.wr W131
  have K131 : Keep h0 h131 [a0] := K128.wr W131 (Or.inl (List.mem_of_getElem? (i := 0) rfl))
  have N131 := Fr.snoc X131 N128 g
  refine w_iconst X131 hx (1 : Int32) (Jvm.hb hby d10_200) (by decide) (pc' := 201) rfl ?_
  refine w_istoreN X131 hx (Jvm.hb hby d10_201) #[.val (.ref a0), .val (.int (1 : Int32)), .val (.int (0 : Int32)), .val (.int (1 : Int32)), .val (.int (1 : Int32))] rfl  (pc' := 202) rfl ?_
  refine w_iloadN X131 hx (Jvm.hb hby d10_202) rfl (pc' := 203) rfl ?_
  exact w_zreturn X131 hx Bd.returns (Or.inr rfl) (BodyLoose.notSynchronized Bd) (Nat.le_of_ble_eq_true rfl) (Nat.le_of_ble_eq_true rfl) (Jvm.hb hby d10_203) ⟨rfl, N131, by rw [e131]; exact ⟨K131, ⟨F131_side, F131_spanX, F131_spanY, F131_stepColumn, F131_stepRow, F131_passes, F131_column, F131_row, F131_toColumnLine, F131_toRowLine, F131_started, E131⟩⟩⟩
def Q7 (h0 : Heap) (v : Option Value) (h : Heap) (L : List Loc) : Prop := v = none ∧ h = h0 ∧ L = []
set_option maxRecDepth 65536 in
set_option maxHeartbeats 40000000 in
theorem rm7 (l : Launch) (Z : State) (aw : Array Value) (hw : ∀ d ∈ tables_1, d.before aw Z = true) (ws : List Jvm.Cond) (q0 : Int64) (q1 : Int64) (h0 : Heap) (hnz : ¬ q1 = 0) (h1 : ¬ q0 < (-2305843009213693952 : Int64)) (h2 : ¬ (2305843009213693952 : Int64) < q0) (h3 : ¬ fdJ q0 q1 < (-2147483648 : Int64)) (h4 : ¬ (2147483647 : Int64) < fdJ q0 q1) :
    MetFree l (⟨"com/example/sarutahiko/sarutahiko/lattice/SegmentWalk", "checkEnd", "(JJ)V"⟩ : MethodName) (head1 (Jvm.Cond.code (⟨"com/example/sarutahiko/sarutahiko/lattice/SegmentWalk", "checkEnd", "(JJ)V"⟩ : MethodName) prog_23_method_2_code 6 none :: ws) ({ frames := 1, cells := 0, slots := 0, locals := 17 } : Room)) (fun a U => a = #[(.long q0), (.long q1)] ∧ Z.Warmed39 U.vm ∧ U.heap = h0) (fun _ _ _ _ _ => True) (fun _ U o U' => ∃ v L, o = .returned v ∧ Q7 h0 v U'.heap L ∧ FrameEnd U o U' L ({ frames := 1, cells := 0, slots := 0, locals := 17 } : Room).cells ({ frames := 1, cells := 0, slots := 0, locals := 17 } : Room).slots) := by
  refine MetFree.of_bodySF (plainFor_of_name pn_2) hisR ?_
  intro p e s m args below meth c s₁ Bd hml0 hP _hKK
  obtain ⟨rfl, hZ, hh⟩ := hP
  have hx := Bd.exec
  have hby := Bd.bytes
  have hml : c.maxLocals = 6 := hml0
  have hown : s.vm.findClass "com/example/sarutahiko/sarutahiko/lattice/SegmentWalk" = some m.cls := findClass_of_methodNamed Bd.named
  have hnm := (name_of_methodNamed Bd.named Bd.method).1
  have X0 : Stand p l e ({ frames := 1, cells := 0, slots := 0, locals := 17 } : Room) s m #[(.long q0), (.long q1)] below meth c s₁ [] 0 0 := Stand.of_body Bd
  have e0 : s₁.heap = h0 := by rw [← hh, Bd.state]; rfl
  refine Ow.enter (Q := Q7 h0) (ef_7 m q0 q1) ?_
  show Ow p e below s _ _ _ (s₁.setTop (mkF m 0 #[.val (.long q0), .second, .val (.long q1), .second, .unset, .unset] []))
  refine w_lloadN X0 hx (Jvm.hb hby d7_0) rfl (pc' := 1) rfl ?_
  refine w_lloadN X0 hx (Jvm.hb hby d7_1) rfl (pc' := 2) rfl ?_
  refine w_callS X0 hx hZ hown (hw _ (List.mem_of_getElem? (i := 35) rfl)) (hw _ (List.mem_of_getElem? (i := 36) rfl)) (hw _ (List.mem_of_getElem? (i := 11) rfl)) (hw _ (List.mem_of_getElem? (i := 37) rfl)) (by decide) (W := 0) (rm8 l Z aw hw [] q0 q1 h0 hnz) e0 (by decide) (by decide) (by decide) (by decide) (Jvm.hb hby d7_2) (by rw [hml]; rfl) (argsL := [(.long q0), (.long q1)]) (rest := []) pd_1 rfl rfl rfl (Nat.le_of_eq rfl) (pc' := 5) rfl ?_
  rintro _ T132 L132 X132 ⟨rfl, e132, rfl⟩
  show Ow p e below s _ _ _ (T132.setTop (mkF m 5 #[.val (.long q0), .second, .val (.long q1), .second, .unset, .unset] [(.long (fdJ q0 q1))]))
  refine w_lstore X132 hx (Jvm.hb hby d7_5) #[.val (.long q0), .second, .val (.long q1), .second, .val (.long (fdJ q0 q1)), .second] rfl  (pc' := 7) rfl ?_
  refine w_lloadN X132 hx (Jvm.hb hby d7_7) rfl (pc' := 8) rfl ?_
  refine w_ldc2J X132 hx hZ hown (hw _ (List.mem_of_getElem? (i := 38) rfl)) (Jvm.hb hby d7_8) (pc' := 11) rfl ?_
  refine w_lcmp_lt X132 hx (Jvm.hb hby d7_11) (Jvm.hb hby d7_12) rfl (by decide) (pcT := 41) (by decide) (pcF := 15) rfl (fun q => absurd q h1) (fun _ => ?_)
  refine w_lloadN X132 hx (Jvm.hb hby d7_15) rfl (pc' := 16) rfl ?_
  refine w_ldc2J X132 hx hZ hown (hw _ (List.mem_of_getElem? (i := 31) rfl)) (Jvm.hb hby d7_16) (pc' := 19) rfl ?_
  refine w_lcmp_gt X132 hx (Jvm.hb hby d7_19) (Jvm.hb hby d7_20) rfl (by decide) (pcT := 41) (by decide) (pcF := 23) rfl (fun q => absurd q h2) (fun _ => ?_)
  refine w_lload X132 hx (Jvm.hb hby d7_23) rfl (pc' := 25) rfl ?_
  refine w_ldc2J X132 hx hZ hown (hw _ (List.mem_of_getElem? (i := 39) rfl)) (Jvm.hb hby d7_25) (pc' := 28) rfl ?_
  refine w_lcmp_lt X132 hx (Jvm.hb hby d7_28) (Jvm.hb hby d7_29) rfl (by decide) (pcT := 41) (by decide) (pcF := 32) rfl (fun q => absurd q h3) (fun _ => ?_)
  refine w_lload X132 hx (Jvm.hb hby d7_32) rfl (pc' := 34) rfl ?_
  refine w_ldc2J X132 hx hZ hown (hw _ (List.mem_of_getElem? (i := 40) rfl)) (Jvm.hb hby d7_34) (pc' := 37) rfl ?_
  refine w_lcmp_le X132 hx (Jvm.hb hby d7_37) (Jvm.hb hby d7_38) rfl (by decide) (pcT := 56) (by decide) (pcF := 41) rfl (fun _ => ?_) (fun q => absurd q h4)
  exact w_return X132 hx Bd.returns (BodyLoose.notSynchronized Bd) (Nat.le_of_ble_eq_true rfl) (Nat.le_of_ble_eq_true rfl) (Jvm.hb hby d7_56) ⟨rfl, e132, rfl⟩
theorem own_ps0 {A B : Prop} {ps : Int32} (h : A ∨ B) (hp : (ps = 0 ∧ (A ∨ B)) ∨ (ps = 1 ∧ ¬ A ∧ ¬ B)) : ps = 0 := hp.elim And.left (fun z => h.elim (fun a => absurd a z.2.1) (fun b => absurd b z.2.2))
theorem own_ps1 {A B : Prop} {ps : Int32} (h : ¬ A) (h' : ¬ B) (hp : (ps = 0 ∧ (A ∨ B)) ∨ (ps = 1 ∧ ¬ A ∧ ¬ B)) : ps = 1 := hp.elim (fun z => z.2.elim (fun a => absurd a h) (fun b => absurd b h')) And.left
def Q5 (Z : State) (a0 : Addr) (q5 sx sy : Int64) (sc sr ps cl rw' : Int32) (tc tr : Int64) (h0 : Heap) (n0 : Nat) (v : Option Value) (h : Heap) (L : List Loc) : Prop := v = none ∧ Fr n0 L ∧ Keep h0 h [a0] ∧ SWo Z h a0 q5 sx sy sc sr ps cl rw' tc tr (0 : Int32)
set_option maxRecDepth 65536 in
set_option maxHeartbeats 40000000 in
theorem rm5 (l : Launch) (Z : State) (aw : Array Value) (hw : ∀ d ∈ tables_1, d.before aw Z = true) (ws : List Jvm.Cond) (a0 : Addr) (q1 : Int64) (q2 : Int64) (q3 : Int64) (q4 : Int64) (q5 : Int64) (sx sy : Int64) (sc sr : Int32) (X' Y' cX cY tc tr : Int64) (cl rw' ps : Int32) (h0 : Heap) (n0 : Nat) (g : n0 ≤ a0) (O : SWo Z h0 a0 (0 : Int64) (0 : Int64) (0 : Int64) (0 : Int32) (0 : Int32) (0 : Int32) (0 : Int32) (0 : Int32) (0 : Int64) (0 : Int64) (0 : Int32)) (hnz : ¬ q5 = 0) (h1 : (0 : Int64) < q5) (h2 : ¬ (2305843009213693952 : Int64) < q5) (p1 : ¬ q1 < (-2305843009213693952 : Int64) ∧ ¬ (2305843009213693952 : Int64) < q1 ∧ ¬ fdJ q1 q5 < (-2147483648 : Int64) ∧ ¬ (2147483647 : Int64) < fdJ q1 q5) (p2 : ¬ q2 < (-2305843009213693952 : Int64) ∧ ¬ (2305843009213693952 : Int64) < q2 ∧ ¬ fdJ q2 q5 < (-2147483648 : Int64) ∧ ¬ (2147483647 : Int64) < fdJ q2 q5) (p3 : ¬ q3 < (-2305843009213693952 : Int64) ∧ ¬ (2305843009213693952 : Int64) < q3 ∧ ¬ fdJ q3 q5 < (-2147483648 : Int64) ∧ ¬ (2147483647 : Int64) < fdJ q3 q5) (p4 : ¬ q4 < (-2305843009213693952 : Int64) ∧ ¬ (2305843009213693952 : Int64) < q4 ∧ ¬ fdJ q4 q5 < (-2147483648 : Int64) ∧ ¬ (2147483647 : Int64) < fdJ q4 q5) (hsx : absJ (q3 - q1) = sx) (hsy : absJ (q4 - q2) = sy) (hsc : (if q3 < q1 then (-1 : Int32) else (1 : Int32)) = sc) (hsr : (if q4 < q2 then (-1 : Int32) else (1 : Int32)) = sr) (hX : sc.toInt64 * q1 = X') (hY : sr.toInt64 * q2 = Y') (hcX : fdJ X' q5 = cX) (hcY : fdJ Y' q5 = cY) (htc : (cX + (1 : Int64)) * q5 - X' = tc) (htr : (cY + (1 : Int64)) * q5 - Y' = tr) (hcl : (if sc < (0 : Int32) then -cX - (1 : Int64) else cX).toInt32 = cl) (hrw : (if sr < (0 : Int32) then -cY - (1 : Int64) else cY).toInt32 = rw') (hps : (ps = 0 ∧ ((sx = 0 ∧ tc = q5) ∨ (sy = 0 ∧ tr = q5))) ∨ (ps = 1 ∧ ¬ (sx = 0 ∧ tc = q5) ∧ ¬ (sy = 0 ∧ tr = q5))) :
    MetFree l (⟨"com/example/sarutahiko/sarutahiko/lattice/SegmentWalk", "<init>", "(JJJJJ)V"⟩ : MethodName) (head1 (Jvm.Cond.code (⟨"com/example/sarutahiko/sarutahiko/lattice/SegmentWalk", "<init>", "(JJJJJ)V"⟩ : MethodName) prog_23_method_1_code 19 none :: ws) ({ frames := 2, cells := 0, slots := 0, locals := 34 } : Room)) (fun a U => a = #[(.ref a0), (.long q1), (.long q2), (.long q3), (.long q4), (.long q5)] ∧ Z.Warmed39 U.vm ∧ U.heap = h0) (fun _ _ _ _ _ => True) (fun _ U o U' => ∃ v L, o = .returned v ∧ Q5 Z a0 q5 sx sy sc sr ps cl rw' tc tr h0 n0 v U'.heap L ∧ FrameEnd U o U' L ({ frames := 2, cells := 0, slots := 0, locals := 34 } : Room).cells ({ frames := 2, cells := 0, slots := 0, locals := 34 } : Room).slots) := by
  refine MetFree.of_bodySF (plainFor_of_name pn_2) hisR ?_
  intro p e s m args below meth c s₁ Bd hml0 hP _hKK
  obtain ⟨rfl, hZ, hh⟩ := hP
  have hx := Bd.exec
  have hby := Bd.bytes
  have hml : c.maxLocals = 19 := hml0
  have hown : s.vm.findClass "com/example/sarutahiko/sarutahiko/lattice/SegmentWalk" = some m.cls := findClass_of_methodNamed Bd.named
  have hnm := (name_of_methodNamed Bd.named Bd.method).1
  have X0 : Stand p l e ({ frames := 2, cells := 0, slots := 0, locals := 34 } : Room) s m #[(.ref a0), (.long q1), (.long q2), (.long q3), (.long q4), (.long q5)] below meth c s₁ [] 0 0 := Stand.of_body Bd
  have e0 : s₁.heap = h0 := by rw [← hh, Bd.state]; rfl
  refine Ow.enter (Q := Q5 Z a0 q5 sx sy sc sr ps cl rw' tc tr h0 n0) (ef_5 m a0 q1 q2 q3 q4 q5) ?_
  show Ow p e below s _ _ _ (s₁.setTop (mkF m 0 #[.val (.ref a0), .val (.long q1), .second, .val (.long q2), .second, .val (.long q3), .second, .val (.long q4), .second, .val (.long q5), .second, .unset, .unset, .unset, .unset, .unset, .unset, .unset, .unset] []))
  obtain ⟨F_side, F_spanX, F_spanY, F_stepColumn, F_stepRow, F_passes, F_column, F_row, F_toColumnLine, F_toRowLine, F_started, E⟩ := O
  refine w_aloadN X0 hx (Jvm.hb hby d5_0) rfl rfl (pc' := 1) rfl ?_
  refine w_objinit X0 hx hZ hown (hw _ (List.mem_of_getElem? (i := 28) rfl)) (hw _ (List.mem_of_getElem? (i := 29) rfl)) (hw _ (List.mem_of_getElem? (i := 30) rfl)) e0 (Jvm.hb hby d5_1) (by rw [hml]; rfl) (by decide) (W := 0) (Nat.le_of_eq rfl) (by decide) (pc' := 4) rfl ?_
  intro T133 X133 e133
  refine w_lload X133 hx (Jvm.hb hby d5_4) rfl (pc' := 6) rfl ?_
  refine w_lconst X133 hx (0 : Int64) (Jvm.hb hby d5_6) (by decide) (pc' := 7) rfl ?_
  refine w_lcmp_le X133 hx (Jvm.hb hby d5_7) (Jvm.hb hby d5_8) rfl (by decide) (pcT := 20) (by decide) (pcF := 11) rfl (fun q => absurd h1 q) (fun _ => ?_)
  refine w_lload X133 hx (Jvm.hb hby d5_11) rfl (pc' := 13) rfl ?_
  refine w_ldc2J X133 hx hZ hown (hw _ (List.mem_of_getElem? (i := 31) rfl)) (Jvm.hb hby d5_13) (pc' := 16) rfl ?_
  refine w_lcmp_le X133 hx (Jvm.hb hby d5_16) (Jvm.hb hby d5_17) rfl (by decide) (pcT := 35) (by decide) (pcF := 20) rfl (fun _ => ?_) (fun q => absurd q h2)
  refine w_lloadN X133 hx (Jvm.hb hby d5_35) rfl (pc' := 36) rfl ?_
  refine w_lload X133 hx (Jvm.hb hby d5_36) rfl (pc' := 38) rfl ?_
  refine w_callS X133 hx hZ hown (hw _ (List.mem_of_getElem? (i := 32) rfl)) (hw _ (List.mem_of_getElem? (i := 33) rfl)) (hw _ (List.mem_of_getElem? (i := 24) rfl)) (hw _ (List.mem_of_getElem? (i := 34) rfl)) (by decide) (W := 0) (rm7 l Z aw hw [] q1 q5 h0 hnz p1.1 p1.2.1 p1.2.2.1 p1.2.2.2) e133 (by decide) (by decide) (by decide) (by decide) (Jvm.hb hby d5_38) (by rw [hml]; rfl) (argsL := [(.long q1), (.long q5)]) (rest := []) pd_3 rfl rfl rfl (Nat.le_of_eq rfl) (pc' := 41) rfl ?_
  rintro _ T134 L134 X134 ⟨rfl, e134, rfl⟩
  show Ow p e below s _ _ _ (T134.setTop (mkF m 41 #[.val (.ref a0), .val (.long q1), .second, .val (.long q2), .second, .val (.long q3), .second, .val (.long q4), .second, .val (.long q5), .second, .unset, .unset, .unset, .unset, .unset, .unset, .unset, .unset] []))
  refine w_lloadN X134 hx (Jvm.hb hby d5_41) rfl (pc' := 42) rfl ?_
  refine w_lload X134 hx (Jvm.hb hby d5_42) rfl (pc' := 44) rfl ?_
  refine w_callS X134 hx hZ hown (hw _ (List.mem_of_getElem? (i := 32) rfl)) (hw _ (List.mem_of_getElem? (i := 33) rfl)) (hw _ (List.mem_of_getElem? (i := 24) rfl)) (hw _ (List.mem_of_getElem? (i := 34) rfl)) (by decide) (W := 0) (rm7 l Z aw hw [] q2 q5 h0 hnz p2.1 p2.2.1 p2.2.2.1 p2.2.2.2) e134 (by decide) (by decide) (by decide) (by decide) (Jvm.hb hby d5_44) (by rw [hml]; rfl) (argsL := [(.long q2), (.long q5)]) (rest := []) pd_3 rfl rfl rfl (Nat.le_of_eq rfl) (pc' := 47) rfl ?_
  rintro _ T135 L135 X135 ⟨rfl, e135, rfl⟩
  show Ow p e below s _ _ _ (T135.setTop (mkF m 47 #[.val (.ref a0), .val (.long q1), .second, .val (.long q2), .second, .val (.long q3), .second, .val (.long q4), .second, .val (.long q5), .second, .unset, .unset, .unset, .unset, .unset, .unset, .unset, .unset] []))
  refine w_lload X135 hx (Jvm.hb hby d5_47) rfl (pc' := 49) rfl ?_
  refine w_lload X135 hx (Jvm.hb hby d5_49) rfl (pc' := 51) rfl ?_
  refine w_callS X135 hx hZ hown (hw _ (List.mem_of_getElem? (i := 32) rfl)) (hw _ (List.mem_of_getElem? (i := 33) rfl)) (hw _ (List.mem_of_getElem? (i := 24) rfl)) (hw _ (List.mem_of_getElem? (i := 34) rfl)) (by decide) (W := 0) (rm7 l Z aw hw [] q3 q5 h0 hnz p3.1 p3.2.1 p3.2.2.1 p3.2.2.2) e135 (by decide) (by decide) (by decide) (by decide) (Jvm.hb hby d5_51) (by rw [hml]; rfl) (argsL := [(.long q3), (.long q5)]) (rest := []) pd_3 rfl rfl rfl (Nat.le_of_eq rfl) (pc' := 54) rfl ?_
  rintro _ T136 L136 X136 ⟨rfl, e136, rfl⟩
  show Ow p e below s _ _ _ (T136.setTop (mkF m 54 #[.val (.ref a0), .val (.long q1), .second, .val (.long q2), .second, .val (.long q3), .second, .val (.long q4), .second, .val (.long q5), .second, .unset, .unset, .unset, .unset, .unset, .unset, .unset, .unset] []))
  refine w_lload X136 hx (Jvm.hb hby d5_54) rfl (pc' := 56) rfl ?_
  refine w_lload X136 hx (Jvm.hb hby d5_56) rfl (pc' := 58) rfl ?_
  refine w_callS X136 hx hZ hown (hw _ (List.mem_of_getElem? (i := 32) rfl)) (hw _ (List.mem_of_getElem? (i := 33) rfl)) (hw _ (List.mem_of_getElem? (i := 24) rfl)) (hw _ (List.mem_of_getElem? (i := 34) rfl)) (by decide) (W := 0) (rm7 l Z aw hw [] q4 q5 h0 hnz p4.1 p4.2.1 p4.2.2.1 p4.2.2.2) e136 (by decide) (by decide) (by decide) (by decide) (Jvm.hb hby d5_58) (by rw [hml]; rfl) (argsL := [(.long q4), (.long q5)]) (rest := []) pd_3 rfl rfl rfl (Nat.le_of_eq rfl) (pc' := 61) rfl ?_
  rintro _ T137 L137 X137 ⟨rfl, e137, rfl⟩
  show Ow p e below s _ _ _ (T137.setTop (mkF m 61 #[.val (.ref a0), .val (.long q1), .second, .val (.long q2), .second, .val (.long q3), .second, .val (.long q4), .second, .val (.long q5), .second, .unset, .unset, .unset, .unset, .unset, .unset, .unset, .unset] []))
  refine w_aloadN X137 hx (Jvm.hb hby d5_61) rfl rfl (pc' := 62) rfl ?_
  refine w_lload X137 hx (Jvm.hb hby d5_62) rfl (pc' := 64) rfl ?_
  refine w_putfield X137 hx hZ hown (host := "") (Or.inl (hw _ (List.mem_of_getElem? (i := 41) rfl))) Via.refl e137 F_side E (Or.inr ⟨(hw _ (List.mem_of_getElem? (i := 42) rfl)), rfl, hnm⟩) (hw _ (List.mem_of_getElem? (i := 23) rfl)) (ty := .long) (by decide) rfl rfl (Jvm.hb hby d5_64) (pc' := 67) rfl ?_
  intro T138 h138 X138 e138 W138
  have F138_side := F_side.same W138
  have F138_spanX := F_spanX.other W138 (Or.inr (slot_ne (Or.inr (hw _ (List.mem_of_getElem? (i := 47) rfl))) (Or.inr (hw _ (List.mem_of_getElem? (i := 42) rfl))) (by decide) (t := .long) (t' := .long) (by decide) (by decide)))
  have F138_spanY := F_spanY.other W138 (Or.inr (slot_ne (Or.inr (hw _ (List.mem_of_getElem? (i := 49) rfl))) (Or.inr (hw _ (List.mem_of_getElem? (i := 42) rfl))) (by decide) (t := .long) (t' := .long) (by decide) (by decide)))
  have F138_stepColumn := F_stepColumn.other W138 (Or.inr (slot_ne (Or.inr (hw _ (List.mem_of_getElem? (i := 51) rfl))) (Or.inr (hw _ (List.mem_of_getElem? (i := 42) rfl))) (by decide) (t := .int) (t' := .long) (by decide) (by decide)))
  have F138_stepRow := F_stepRow.other W138 (Or.inr (slot_ne (Or.inr (hw _ (List.mem_of_getElem? (i := 53) rfl))) (Or.inr (hw _ (List.mem_of_getElem? (i := 42) rfl))) (by decide) (t := .int) (t' := .long) (by decide) (by decide)))
  have F138_passes := F_passes.other W138 (Or.inr (slot_ne (Or.inr (hw _ (List.mem_of_getElem? (i := 63) rfl))) (Or.inr (hw _ (List.mem_of_getElem? (i := 42) rfl))) (by decide) (t := .boolean) (t' := .long) (by decide) (by decide)))
  have F138_column := F_column.other W138 (Or.inr (slot_ne (Or.inl (hw _ (List.mem_of_getElem? (i := 59) rfl))) (Or.inr (hw _ (List.mem_of_getElem? (i := 42) rfl))) (by decide) (t := .int) (t' := .long) (by decide) (by decide)))
  have F138_row := F_row.other W138 (Or.inr (slot_ne (Or.inl (hw _ (List.mem_of_getElem? (i := 61) rfl))) (Or.inr (hw _ (List.mem_of_getElem? (i := 42) rfl))) (by decide) (t := .int) (t' := .long) (by decide) (by decide)))
  have F138_toColumnLine := F_toColumnLine.other W138 (Or.inr (slot_ne (Or.inl (hw _ (List.mem_of_getElem? (i := 55) rfl))) (Or.inr (hw _ (List.mem_of_getElem? (i := 42) rfl))) (by decide) (t := .long) (t' := .long) (by decide) (by decide)))
  have F138_toRowLine := F_toRowLine.other W138 (Or.inr (slot_ne (Or.inl (hw _ (List.mem_of_getElem? (i := 57) rfl))) (Or.inr (hw _ (List.mem_of_getElem? (i := 42) rfl))) (by decide) (t := .long) (t' := .long) (by decide) (by decide)))
  have F138_started := F_started.other W138 (Or.inr (slot_ne (Or.inl (hw _ (List.mem_of_getElem? (i := 70) rfl))) (Or.inr (hw _ (List.mem_of_getElem? (i := 42) rfl))) (by decide) (t := .boolean) (t' := .long) (by decide) (by decide)))
  have E138 := E.wr W138
  have K138 : Keep h0 h138 [a0] := Keep.of_wr W138
  have N138 := Fr.snoc X138 (Fr.nil n0) g
  refine w_aloadN X138 hx (Jvm.hb hby d5_67) rfl rfl (pc' := 68) rfl ?_
  refine w_lload X138 hx (Jvm.hb hby d5_68) rfl (pc' := 70) rfl ?_
  refine w_lloadN X138 hx (Jvm.hb hby d5_70) rfl (pc' := 71) rfl ?_
  refine w_lsub X138 hx (Jvm.hb hby d5_71) (pc' := 72) rfl ?_
  refine w_callS X138 hx hZ hown (hw _ (List.mem_of_getElem? (i := 43) rfl)) (hw _ (List.mem_of_getElem? (i := 44) rfl)) (hw _ (List.mem_of_getElem? (i := 11) rfl)) (hw _ (List.mem_of_getElem? (i := 45) rfl)) (by decide) (W := 1) (rm9 l Z aw hw [] (q3 - q1) h138) e138 (by decide) (by decide) (by decide) (by decide) (Jvm.hb hby d5_72) (by rw [hml]; rfl) (argsL := [(.long (q3 - q1))]) (rest := [(.ref a0)]) pd_4 rfl rfl rfl (Nat.le_of_eq rfl) (pc' := 75) rfl ?_
  rintro _ T139 L139 X139 ⟨rfl, e139, rfl⟩
  show Ow p e below s _ _ _ (T139.setTop (mkF m 75 #[.val (.ref a0), .val (.long q1), .second, .val (.long q2), .second, .val (.long q3), .second, .val (.long q4), .second, .val (.long q5), .second, .unset, .unset, .unset, .unset, .unset, .unset, .unset, .unset] [(.long (absJ (q3 - q1))), (.ref a0)]))
  rw [hsx]
  show Ow p e below s _ _ _ (T139.setTop (mkF m 75 #[.val (.ref a0), .val (.long q1), .second, .val (.long q2), .second, .val (.long q3), .second, .val (.long q4), .second, .val (.long q5), .second, .unset, .unset, .unset, .unset, .unset, .unset, .unset, .unset] [(.long sx), (.ref a0)]))
  refine w_putfield X139 hx hZ hown (host := "") (Or.inl (hw _ (List.mem_of_getElem? (i := 46) rfl))) Via.refl e139 F138_spanX E138 (Or.inr ⟨(hw _ (List.mem_of_getElem? (i := 47) rfl)), rfl, hnm⟩) (hw _ (List.mem_of_getElem? (i := 23) rfl)) (ty := .long) (by decide) rfl rfl (Jvm.hb hby d5_75) (pc' := 78) rfl ?_
  intro T140 h140 X140 e140 W140
  have F140_side := F138_side.other W140 (Or.inr (slot_ne (Or.inr (hw _ (List.mem_of_getElem? (i := 42) rfl))) (Or.inr (hw _ (List.mem_of_getElem? (i := 47) rfl))) (by decide) (t := .long) (t' := .long) (by decide) (by decide)))
  have F140_spanX := F138_spanX.same W140
  have F140_spanY := F138_spanY.other W140 (Or.inr (slot_ne (Or.inr (hw _ (List.mem_of_getElem? (i := 49) rfl))) (Or.inr (hw _ (List.mem_of_getElem? (i := 47) rfl))) (by decide) (t := .long) (t' := .long) (by decide) (by decide)))
  have F140_stepColumn := F138_stepColumn.other W140 (Or.inr (slot_ne (Or.inr (hw _ (List.mem_of_getElem? (i := 51) rfl))) (Or.inr (hw _ (List.mem_of_getElem? (i := 47) rfl))) (by decide) (t := .int) (t' := .long) (by decide) (by decide)))
  have F140_stepRow := F138_stepRow.other W140 (Or.inr (slot_ne (Or.inr (hw _ (List.mem_of_getElem? (i := 53) rfl))) (Or.inr (hw _ (List.mem_of_getElem? (i := 47) rfl))) (by decide) (t := .int) (t' := .long) (by decide) (by decide)))
  have F140_passes := F138_passes.other W140 (Or.inr (slot_ne (Or.inr (hw _ (List.mem_of_getElem? (i := 63) rfl))) (Or.inr (hw _ (List.mem_of_getElem? (i := 47) rfl))) (by decide) (t := .boolean) (t' := .long) (by decide) (by decide)))
  have F140_column := F138_column.other W140 (Or.inr (slot_ne (Or.inl (hw _ (List.mem_of_getElem? (i := 59) rfl))) (Or.inr (hw _ (List.mem_of_getElem? (i := 47) rfl))) (by decide) (t := .int) (t' := .long) (by decide) (by decide)))
  have F140_row := F138_row.other W140 (Or.inr (slot_ne (Or.inl (hw _ (List.mem_of_getElem? (i := 61) rfl))) (Or.inr (hw _ (List.mem_of_getElem? (i := 47) rfl))) (by decide) (t := .int) (t' := .long) (by decide) (by decide)))
  have F140_toColumnLine := F138_toColumnLine.other W140 (Or.inr (slot_ne (Or.inl (hw _ (List.mem_of_getElem? (i := 55) rfl))) (Or.inr (hw _ (List.mem_of_getElem? (i := 47) rfl))) (by decide) (t := .long) (t' := .long) (by decide) (by decide)))
  have F140_toRowLine := F138_toRowLine.other W140 (Or.inr (slot_ne (Or.inl (hw _ (List.mem_of_getElem? (i := 57) rfl))) (Or.inr (hw _ (List.mem_of_getElem? (i := 47) rfl))) (by decide) (t := .long) (t' := .long) (by decide) (by decide)))
  have F140_started := F138_started.other W140 (Or.inr (slot_ne (Or.inl (hw _ (List.mem_of_getElem? (i := 70) rfl))) (Or.inr (hw _ (List.mem_of_getElem? (i := 47) rfl))) (by decide) (t := .boolean) (t' := .long) (by decide) (by decide)))
  have E140 := E138.wr W140
  have K140 : Keep h0 h140 [a0] := K138.wr W140 (Or.inl (List.mem_of_getElem? (i := 0) rfl))
  have N140 := Fr.snoc X140 N138 g
  refine w_aloadN X140 hx (Jvm.hb hby d5_78) rfl rfl (pc' := 79) rfl ?_
  refine w_lload X140 hx (Jvm.hb hby d5_79) rfl (pc' := 81) rfl ?_
  refine w_lloadN X140 hx (Jvm.hb hby d5_81) rfl (pc' := 82) rfl ?_
  refine w_lsub X140 hx (Jvm.hb hby d5_82) (pc' := 83) rfl ?_
  refine w_callS X140 hx hZ hown (hw _ (List.mem_of_getElem? (i := 43) rfl)) (hw _ (List.mem_of_getElem? (i := 44) rfl)) (hw _ (List.mem_of_getElem? (i := 11) rfl)) (hw _ (List.mem_of_getElem? (i := 45) rfl)) (by decide) (W := 1) (rm9 l Z aw hw [] (q4 - q2) h140) e140 (by decide) (by decide) (by decide) (by decide) (Jvm.hb hby d5_83) (by rw [hml]; rfl) (argsL := [(.long (q4 - q2))]) (rest := [(.ref a0)]) pd_4 rfl rfl rfl (Nat.le_of_eq rfl) (pc' := 86) rfl ?_
  rintro _ T141 L141 X141 ⟨rfl, e141, rfl⟩
  show Ow p e below s _ _ _ (T141.setTop (mkF m 86 #[.val (.ref a0), .val (.long q1), .second, .val (.long q2), .second, .val (.long q3), .second, .val (.long q4), .second, .val (.long q5), .second, .unset, .unset, .unset, .unset, .unset, .unset, .unset, .unset] [(.long (absJ (q4 - q2))), (.ref a0)]))
  rw [hsy]
  show Ow p e below s _ _ _ (T141.setTop (mkF m 86 #[.val (.ref a0), .val (.long q1), .second, .val (.long q2), .second, .val (.long q3), .second, .val (.long q4), .second, .val (.long q5), .second, .unset, .unset, .unset, .unset, .unset, .unset, .unset, .unset] [(.long sy), (.ref a0)]))
  refine w_putfield X141 hx hZ hown (host := "") (Or.inl (hw _ (List.mem_of_getElem? (i := 48) rfl))) Via.refl e141 F140_spanY E140 (Or.inr ⟨(hw _ (List.mem_of_getElem? (i := 49) rfl)), rfl, hnm⟩) (hw _ (List.mem_of_getElem? (i := 23) rfl)) (ty := .long) (by decide) rfl rfl (Jvm.hb hby d5_86) (pc' := 89) rfl ?_
  intro T142 h142 X142 e142 W142
  have F142_side := F140_side.other W142 (Or.inr (slot_ne (Or.inr (hw _ (List.mem_of_getElem? (i := 42) rfl))) (Or.inr (hw _ (List.mem_of_getElem? (i := 49) rfl))) (by decide) (t := .long) (t' := .long) (by decide) (by decide)))
  have F142_spanX := F140_spanX.other W142 (Or.inr (slot_ne (Or.inr (hw _ (List.mem_of_getElem? (i := 47) rfl))) (Or.inr (hw _ (List.mem_of_getElem? (i := 49) rfl))) (by decide) (t := .long) (t' := .long) (by decide) (by decide)))
  have F142_spanY := F140_spanY.same W142
  have F142_stepColumn := F140_stepColumn.other W142 (Or.inr (slot_ne (Or.inr (hw _ (List.mem_of_getElem? (i := 51) rfl))) (Or.inr (hw _ (List.mem_of_getElem? (i := 49) rfl))) (by decide) (t := .int) (t' := .long) (by decide) (by decide)))
  have F142_stepRow := F140_stepRow.other W142 (Or.inr (slot_ne (Or.inr (hw _ (List.mem_of_getElem? (i := 53) rfl))) (Or.inr (hw _ (List.mem_of_getElem? (i := 49) rfl))) (by decide) (t := .int) (t' := .long) (by decide) (by decide)))
  have F142_passes := F140_passes.other W142 (Or.inr (slot_ne (Or.inr (hw _ (List.mem_of_getElem? (i := 63) rfl))) (Or.inr (hw _ (List.mem_of_getElem? (i := 49) rfl))) (by decide) (t := .boolean) (t' := .long) (by decide) (by decide)))
  have F142_column := F140_column.other W142 (Or.inr (slot_ne (Or.inl (hw _ (List.mem_of_getElem? (i := 59) rfl))) (Or.inr (hw _ (List.mem_of_getElem? (i := 49) rfl))) (by decide) (t := .int) (t' := .long) (by decide) (by decide)))
  have F142_row := F140_row.other W142 (Or.inr (slot_ne (Or.inl (hw _ (List.mem_of_getElem? (i := 61) rfl))) (Or.inr (hw _ (List.mem_of_getElem? (i := 49) rfl))) (by decide) (t := .int) (t' := .long) (by decide) (by decide)))
  have F142_toColumnLine := F140_toColumnLine.other W142 (Or.inr (slot_ne (Or.inl (hw _ (List.mem_of_getElem? (i := 55) rfl))) (Or.inr (hw _ (List.mem_of_getElem? (i := 49) rfl))) (by decide) (t := .long) (t' := .long) (by decide) (by decide)))
  have F142_toRowLine := F140_toRowLine.other W142 (Or.inr (slot_ne (Or.inl (hw _ (List.mem_of_getElem? (i := 57) rfl))) (Or.inr (hw _ (List.mem_of_getElem? (i := 49) rfl))) (by decide) (t := .long) (t' := .long) (by decide) (by decide)))
  have F142_started := F140_started.other W142 (Or.inr (slot_ne (Or.inl (hw _ (List.mem_of_getElem? (i := 70) rfl))) (Or.inr (hw _ (List.mem_of_getElem? (i := 49) rfl))) (by decide) (t := .boolean) (t' := .long) (by decide) (by decide)))
  have E142 := E140.wr W142
  have K142 : Keep h0 h142 [a0] := K140.wr W142 (Or.inl (List.mem_of_getElem? (i := 0) rfl))
  have N142 := Fr.snoc X142 N140 g
  refine w_aloadN X142 hx (Jvm.hb hby d5_89) rfl rfl (pc' := 90) rfl ?_
  refine w_lload X142 hx (Jvm.hb hby d5_90) rfl (pc' := 92) rfl ?_
  refine w_lloadN X142 hx (Jvm.hb hby d5_92) rfl (pc' := 93) rfl ?_
  obtain ⟨j1, hj1⟩ : ∃ v : Int32, v = (if q3 < q1 then (-1 : Int32) else (1 : Int32)) := ⟨_, rfl⟩
  refine Ow.join T142 (mkF m 102 #[.val (.ref a0), .val (.long q1), .second, .val (.long q2), .second, .val (.long q3), .second, .val (.long q4), .second, .val (.long q5), .second, .unset, .unset, .unset, .unset, .unset, .unset, .unset, .unset] [(.int j1), (.ref a0)]) (fun K => ?_) ?_
  · refine w_lcmp_ge X142 hx (Jvm.hb hby d5_93) (Jvm.hb hby d5_94) rfl (by decide) (pcT := 101) (by decide) (pcF := 97) rfl (fun hj93_0 => ?_) (fun hj93_0 => ?_)
    · refine w_iconst X142 hx (1 : Int32) (Jvm.hb hby d5_101) (by decide) (pc' := 102) rfl ?_
      rw [hj1, if_neg hj93_0] at K; exact K
    · refine w_iconst X142 hx (-1 : Int32) (Jvm.hb hby d5_97) (by decide) (pc' := 98) rfl ?_
      refine w_goto X142 hx (Jvm.hb hby d5_98) (by decide) (pc' := 102) (by decide) ?_
      rw [hj1, if_pos hj93_0] at K; exact K
  rw [hj1.trans hsc]
  show Ow p e below s _ _ _ (T142.setTop (mkF m 102 #[.val (.ref a0), .val (.long q1), .second, .val (.long q2), .second, .val (.long q3), .second, .val (.long q4), .second, .val (.long q5), .second, .unset, .unset, .unset, .unset, .unset, .unset, .unset, .unset] [(.int sc), (.ref a0)]))
  refine w_putfield X142 hx hZ hown (host := "") (Or.inl (hw _ (List.mem_of_getElem? (i := 50) rfl))) Via.refl e142 F142_stepColumn E142 (Or.inr ⟨(hw _ (List.mem_of_getElem? (i := 51) rfl)), rfl, hnm⟩) (hw _ (List.mem_of_getElem? (i := 23) rfl)) (ty := .int) (by decide) rfl rfl (Jvm.hb hby d5_102) (pc' := 105) rfl ?_
  intro T143 h143 X143 e143 W143
  have F143_side := F142_side.other W143 (Or.inr (slot_ne (Or.inr (hw _ (List.mem_of_getElem? (i := 42) rfl))) (Or.inr (hw _ (List.mem_of_getElem? (i := 51) rfl))) (by decide) (t := .long) (t' := .int) (by decide) (by decide)))
  have F143_spanX := F142_spanX.other W143 (Or.inr (slot_ne (Or.inr (hw _ (List.mem_of_getElem? (i := 47) rfl))) (Or.inr (hw _ (List.mem_of_getElem? (i := 51) rfl))) (by decide) (t := .long) (t' := .int) (by decide) (by decide)))
  have F143_spanY := F142_spanY.other W143 (Or.inr (slot_ne (Or.inr (hw _ (List.mem_of_getElem? (i := 49) rfl))) (Or.inr (hw _ (List.mem_of_getElem? (i := 51) rfl))) (by decide) (t := .long) (t' := .int) (by decide) (by decide)))
  have F143_stepColumn := F142_stepColumn.same W143
  have F143_stepRow := F142_stepRow.other W143 (Or.inr (slot_ne (Or.inr (hw _ (List.mem_of_getElem? (i := 53) rfl))) (Or.inr (hw _ (List.mem_of_getElem? (i := 51) rfl))) (by decide) (t := .int) (t' := .int) (by decide) (by decide)))
  have F143_passes := F142_passes.other W143 (Or.inr (slot_ne (Or.inr (hw _ (List.mem_of_getElem? (i := 63) rfl))) (Or.inr (hw _ (List.mem_of_getElem? (i := 51) rfl))) (by decide) (t := .boolean) (t' := .int) (by decide) (by decide)))
  have F143_column := F142_column.other W143 (Or.inr (slot_ne (Or.inl (hw _ (List.mem_of_getElem? (i := 59) rfl))) (Or.inr (hw _ (List.mem_of_getElem? (i := 51) rfl))) (by decide) (t := .int) (t' := .int) (by decide) (by decide)))
  have F143_row := F142_row.other W143 (Or.inr (slot_ne (Or.inl (hw _ (List.mem_of_getElem? (i := 61) rfl))) (Or.inr (hw _ (List.mem_of_getElem? (i := 51) rfl))) (by decide) (t := .int) (t' := .int) (by decide) (by decide)))
  have F143_toColumnLine := F142_toColumnLine.other W143 (Or.inr (slot_ne (Or.inl (hw _ (List.mem_of_getElem? (i := 55) rfl))) (Or.inr (hw _ (List.mem_of_getElem? (i := 51) rfl))) (by decide) (t := .long) (t' := .int) (by decide) (by decide)))
  have F143_toRowLine := F142_toRowLine.other W143 (Or.inr (slot_ne (Or.inl (hw _ (List.mem_of_getElem? (i := 57) rfl))) (Or.inr (hw _ (List.mem_of_getElem? (i := 51) rfl))) (by decide) (t := .long) (t' := .int) (by decide) (by decide)))
  have F143_started := F142_started.other W143 (Or.inr (slot_ne (Or.inl (hw _ (List.mem_of_getElem? (i := 70) rfl))) (Or.inr (hw _ (List.mem_of_getElem? (i := 51) rfl))) (by decide) (t := .boolean) (t' := .int) (by decide) (by decide)))
  have E143 := E142.wr W143
  have K143 : Keep h0 h143 [a0] := K142.wr W143 (Or.inl (List.mem_of_getElem? (i := 0) rfl))
  have N143 := Fr.snoc X143 N142 g
  refine w_aloadN X143 hx (Jvm.hb hby d5_105) rfl rfl (pc' := 106) rfl ?_
  refine w_lload X143 hx (Jvm.hb hby d5_106) rfl (pc' := 108) rfl ?_
  refine w_lloadN X143 hx (Jvm.hb hby d5_108) rfl (pc' := 109) rfl ?_
  obtain ⟨j2, hj2⟩ : ∃ v : Int32, v = (if q4 < q2 then (-1 : Int32) else (1 : Int32)) := ⟨_, rfl⟩
  refine Ow.join T143 (mkF m 118 #[.val (.ref a0), .val (.long q1), .second, .val (.long q2), .second, .val (.long q3), .second, .val (.long q4), .second, .val (.long q5), .second, .unset, .unset, .unset, .unset, .unset, .unset, .unset, .unset] [(.int j2), (.ref a0)]) (fun K => ?_) ?_
  · refine w_lcmp_ge X143 hx (Jvm.hb hby d5_109) (Jvm.hb hby d5_110) rfl (by decide) (pcT := 117) (by decide) (pcF := 113) rfl (fun hj109_0 => ?_) (fun hj109_0 => ?_)
    · refine w_iconst X143 hx (1 : Int32) (Jvm.hb hby d5_117) (by decide) (pc' := 118) rfl ?_
      rw [hj2, if_neg hj109_0] at K; exact K
    · refine w_iconst X143 hx (-1 : Int32) (Jvm.hb hby d5_113) (by decide) (pc' := 114) rfl ?_
      refine w_goto X143 hx (Jvm.hb hby d5_114) (by decide) (pc' := 118) (by decide) ?_
      rw [hj2, if_pos hj109_0] at K; exact K
  rw [hj2.trans hsr]
  show Ow p e below s _ _ _ (T143.setTop (mkF m 118 #[.val (.ref a0), .val (.long q1), .second, .val (.long q2), .second, .val (.long q3), .second, .val (.long q4), .second, .val (.long q5), .second, .unset, .unset, .unset, .unset, .unset, .unset, .unset, .unset] [(.int sr), (.ref a0)]))
  refine w_putfield X143 hx hZ hown (host := "") (Or.inl (hw _ (List.mem_of_getElem? (i := 52) rfl))) Via.refl e143 F143_stepRow E143 (Or.inr ⟨(hw _ (List.mem_of_getElem? (i := 53) rfl)), rfl, hnm⟩) (hw _ (List.mem_of_getElem? (i := 23) rfl)) (ty := .int) (by decide) rfl rfl (Jvm.hb hby d5_118) (pc' := 121) rfl ?_
  intro T144 h144 X144 e144 W144
  have F144_side := F143_side.other W144 (Or.inr (slot_ne (Or.inr (hw _ (List.mem_of_getElem? (i := 42) rfl))) (Or.inr (hw _ (List.mem_of_getElem? (i := 53) rfl))) (by decide) (t := .long) (t' := .int) (by decide) (by decide)))
  have F144_spanX := F143_spanX.other W144 (Or.inr (slot_ne (Or.inr (hw _ (List.mem_of_getElem? (i := 47) rfl))) (Or.inr (hw _ (List.mem_of_getElem? (i := 53) rfl))) (by decide) (t := .long) (t' := .int) (by decide) (by decide)))
  have F144_spanY := F143_spanY.other W144 (Or.inr (slot_ne (Or.inr (hw _ (List.mem_of_getElem? (i := 49) rfl))) (Or.inr (hw _ (List.mem_of_getElem? (i := 53) rfl))) (by decide) (t := .long) (t' := .int) (by decide) (by decide)))
  have F144_stepColumn := F143_stepColumn.other W144 (Or.inr (slot_ne (Or.inr (hw _ (List.mem_of_getElem? (i := 51) rfl))) (Or.inr (hw _ (List.mem_of_getElem? (i := 53) rfl))) (by decide) (t := .int) (t' := .int) (by decide) (by decide)))
  have F144_stepRow := F143_stepRow.same W144
  have F144_passes := F143_passes.other W144 (Or.inr (slot_ne (Or.inr (hw _ (List.mem_of_getElem? (i := 63) rfl))) (Or.inr (hw _ (List.mem_of_getElem? (i := 53) rfl))) (by decide) (t := .boolean) (t' := .int) (by decide) (by decide)))
  have F144_column := F143_column.other W144 (Or.inr (slot_ne (Or.inl (hw _ (List.mem_of_getElem? (i := 59) rfl))) (Or.inr (hw _ (List.mem_of_getElem? (i := 53) rfl))) (by decide) (t := .int) (t' := .int) (by decide) (by decide)))
  have F144_row := F143_row.other W144 (Or.inr (slot_ne (Or.inl (hw _ (List.mem_of_getElem? (i := 61) rfl))) (Or.inr (hw _ (List.mem_of_getElem? (i := 53) rfl))) (by decide) (t := .int) (t' := .int) (by decide) (by decide)))
  have F144_toColumnLine := F143_toColumnLine.other W144 (Or.inr (slot_ne (Or.inl (hw _ (List.mem_of_getElem? (i := 55) rfl))) (Or.inr (hw _ (List.mem_of_getElem? (i := 53) rfl))) (by decide) (t := .long) (t' := .int) (by decide) (by decide)))
  have F144_toRowLine := F143_toRowLine.other W144 (Or.inr (slot_ne (Or.inl (hw _ (List.mem_of_getElem? (i := 57) rfl))) (Or.inr (hw _ (List.mem_of_getElem? (i := 53) rfl))) (by decide) (t := .long) (t' := .int) (by decide) (by decide)))
  have F144_started := F143_started.other W144 (Or.inr (slot_ne (Or.inl (hw _ (List.mem_of_getElem? (i := 70) rfl))) (Or.inr (hw _ (List.mem_of_getElem? (i := 53) rfl))) (by decide) (t := .boolean) (t' := .int) (by decide) (by decide)))
  have E144 := E143.wr W144
  have K144 : Keep h0 h144 [a0] := K143.wr W144 (Or.inl (List.mem_of_getElem? (i := 0) rfl))
  have N144 := Fr.snoc X144 N143 g
  refine w_aloadN X144 hx (Jvm.hb hby d5_121) rfl rfl (pc' := 122) rfl ?_
  refine w_getfield X144 hx hZ hown (host := "") (Or.inl (hw _ (List.mem_of_getElem? (i := 50) rfl))) Via.refl e144 F144_stepColumn (Jvm.hb hby d5_122) (pc' := 125) rfl ?_
  intro T145 X145 e145
  refine w_i2l X145 hx (Jvm.hb hby d5_125) (pc' := 126) rfl ?_
  refine w_lloadN X145 hx (Jvm.hb hby d5_126) rfl (pc' := 127) rfl ?_
  refine w_lmul X145 hx (Jvm.hb hby d5_127) (pc' := 128) rfl ?_
  rw [hX]
  show Ow p e below s _ _ _ (T145.setTop (mkF m 128 #[.val (.ref a0), .val (.long q1), .second, .val (.long q2), .second, .val (.long q3), .second, .val (.long q4), .second, .val (.long q5), .second, .unset, .unset, .unset, .unset, .unset, .unset, .unset, .unset] [(.long X')]))
  refine w_lstore X145 hx (Jvm.hb hby d5_128) #[.val (.ref a0), .val (.long q1), .second, .val (.long q2), .second, .val (.long q3), .second, .val (.long q4), .second, .val (.long q5), .second, .val (.long X'), .second, .unset, .unset, .unset, .unset, .unset, .unset] rfl  (pc' := 130) rfl ?_
  refine w_aloadN X145 hx (Jvm.hb hby d5_130) rfl rfl (pc' := 131) rfl ?_
  refine w_getfield X145 hx hZ hown (host := "") (Or.inl (hw _ (List.mem_of_getElem? (i := 52) rfl))) Via.refl e145 F144_stepRow (Jvm.hb hby d5_131) (pc' := 134) rfl ?_
  intro T146 X146 e146
  refine w_i2l X146 hx (Jvm.hb hby d5_134) (pc' := 135) rfl ?_
  refine w_lloadN X146 hx (Jvm.hb hby d5_135) rfl (pc' := 136) rfl ?_
  refine w_lmul X146 hx (Jvm.hb hby d5_136) (pc' := 137) rfl ?_
  rw [hY]
  show Ow p e below s _ _ _ (T146.setTop (mkF m 137 #[.val (.ref a0), .val (.long q1), .second, .val (.long q2), .second, .val (.long q3), .second, .val (.long q4), .second, .val (.long q5), .second, .val (.long X'), .second, .unset, .unset, .unset, .unset, .unset, .unset] [(.long Y')]))
  refine w_lstore X146 hx (Jvm.hb hby d5_137) #[.val (.ref a0), .val (.long q1), .second, .val (.long q2), .second, .val (.long q3), .second, .val (.long q4), .second, .val (.long q5), .second, .val (.long X'), .second, .val (.long Y'), .second, .unset, .unset, .unset, .unset] rfl  (pc' := 139) rfl ?_
  refine w_lload X146 hx (Jvm.hb hby d5_139) rfl (pc' := 141) rfl ?_
  refine w_lload X146 hx (Jvm.hb hby d5_141) rfl (pc' := 143) rfl ?_
  refine w_callS X146 hx hZ hown (hw _ (List.mem_of_getElem? (i := 35) rfl)) (hw _ (List.mem_of_getElem? (i := 36) rfl)) (hw _ (List.mem_of_getElem? (i := 11) rfl)) (hw _ (List.mem_of_getElem? (i := 37) rfl)) (by decide) (W := 0) (rm8 l Z aw hw [] X' q5 h144 hnz) e146 (by decide) (by decide) (by decide) (by decide) (Jvm.hb hby d5_143) (by rw [hml]; rfl) (argsL := [(.long X'), (.long q5)]) (rest := []) pd_1 rfl rfl rfl (Nat.le_of_eq rfl) (pc' := 146) rfl ?_
  rintro _ T147 L147 X147 ⟨rfl, e147, rfl⟩
  show Ow p e below s _ _ _ (T147.setTop (mkF m 146 #[.val (.ref a0), .val (.long q1), .second, .val (.long q2), .second, .val (.long q3), .second, .val (.long q4), .second, .val (.long q5), .second, .val (.long X'), .second, .val (.long Y'), .second, .unset, .unset, .unset, .unset] [(.long (fdJ X' q5))]))
  rw [hcX]
  show Ow p e below s _ _ _ (T147.setTop (mkF m 146 #[.val (.ref a0), .val (.long q1), .second, .val (.long q2), .second, .val (.long q3), .second, .val (.long q4), .second, .val (.long q5), .second, .val (.long X'), .second, .val (.long Y'), .second, .unset, .unset, .unset, .unset] [(.long cX)]))
  refine w_lstore X147 hx (Jvm.hb hby d5_146) #[.val (.ref a0), .val (.long q1), .second, .val (.long q2), .second, .val (.long q3), .second, .val (.long q4), .second, .val (.long q5), .second, .val (.long X'), .second, .val (.long Y'), .second, .val (.long cX), .second, .unset, .unset] rfl  (pc' := 148) rfl ?_
  refine w_lload X147 hx (Jvm.hb hby d5_148) rfl (pc' := 150) rfl ?_
  refine w_lload X147 hx (Jvm.hb hby d5_150) rfl (pc' := 152) rfl ?_
  refine w_callS X147 hx hZ hown (hw _ (List.mem_of_getElem? (i := 35) rfl)) (hw _ (List.mem_of_getElem? (i := 36) rfl)) (hw _ (List.mem_of_getElem? (i := 11) rfl)) (hw _ (List.mem_of_getElem? (i := 37) rfl)) (by decide) (W := 0) (rm8 l Z aw hw [] Y' q5 h144 hnz) e147 (by decide) (by decide) (by decide) (by decide) (Jvm.hb hby d5_152) (by rw [hml]; rfl) (argsL := [(.long Y'), (.long q5)]) (rest := []) pd_1 rfl rfl rfl (Nat.le_of_eq rfl) (pc' := 155) rfl ?_
  rintro _ T148 L148 X148 ⟨rfl, e148, rfl⟩
  show Ow p e below s _ _ _ (T148.setTop (mkF m 155 #[.val (.ref a0), .val (.long q1), .second, .val (.long q2), .second, .val (.long q3), .second, .val (.long q4), .second, .val (.long q5), .second, .val (.long X'), .second, .val (.long Y'), .second, .val (.long cX), .second, .unset, .unset] [(.long (fdJ Y' q5))]))
  rw [hcY]
  show Ow p e below s _ _ _ (T148.setTop (mkF m 155 #[.val (.ref a0), .val (.long q1), .second, .val (.long q2), .second, .val (.long q3), .second, .val (.long q4), .second, .val (.long q5), .second, .val (.long X'), .second, .val (.long Y'), .second, .val (.long cX), .second, .unset, .unset] [(.long cY)]))
  refine w_lstore X148 hx (Jvm.hb hby d5_155) #[.val (.ref a0), .val (.long q1), .second, .val (.long q2), .second, .val (.long q3), .second, .val (.long q4), .second, .val (.long q5), .second, .val (.long X'), .second, .val (.long Y'), .second, .val (.long cX), .second, .val (.long cY), .second] rfl  (pc' := 157) rfl ?_
  refine w_aloadN X148 hx (Jvm.hb hby d5_157) rfl rfl (pc' := 158) rfl ?_
  refine w_lload X148 hx (Jvm.hb hby d5_158) rfl (pc' := 160) rfl ?_
  refine w_lconst X148 hx (1 : Int64) (Jvm.hb hby d5_160) (by decide) (pc' := 161) rfl ?_
  refine w_ladd X148 hx (Jvm.hb hby d5_161) (pc' := 162) rfl ?_
  refine w_lload X148 hx (Jvm.hb hby d5_162) rfl (pc' := 164) rfl ?_
  refine w_lmul X148 hx (Jvm.hb hby d5_164) (pc' := 165) rfl ?_
  refine w_lload X148 hx (Jvm.hb hby d5_165) rfl (pc' := 167) rfl ?_
  refine w_lsub X148 hx (Jvm.hb hby d5_167) (pc' := 168) rfl ?_
  rw [htc]
  show Ow p e below s _ _ _ (T148.setTop (mkF m 168 #[.val (.ref a0), .val (.long q1), .second, .val (.long q2), .second, .val (.long q3), .second, .val (.long q4), .second, .val (.long q5), .second, .val (.long X'), .second, .val (.long Y'), .second, .val (.long cX), .second, .val (.long cY), .second] [(.long tc), (.ref a0)]))
  refine w_putfield X148 hx hZ hown (host := "") (Or.inl (hw _ (List.mem_of_getElem? (i := 54) rfl))) Via.refl e148 F144_toColumnLine E144 (Or.inl (hw _ (List.mem_of_getElem? (i := 55) rfl))) (hw _ (List.mem_of_getElem? (i := 23) rfl)) (ty := .long) (by decide) rfl rfl (Jvm.hb hby d5_168) (pc' := 171) rfl ?_
  intro T149 h149 X149 e149 W149
  have F149_side := F144_side.other W149 (Or.inr (slot_ne (Or.inr (hw _ (List.mem_of_getElem? (i := 42) rfl))) (Or.inl (hw _ (List.mem_of_getElem? (i := 55) rfl))) (by decide) (t := .long) (t' := .long) (by decide) (by decide)))
  have F149_spanX := F144_spanX.other W149 (Or.inr (slot_ne (Or.inr (hw _ (List.mem_of_getElem? (i := 47) rfl))) (Or.inl (hw _ (List.mem_of_getElem? (i := 55) rfl))) (by decide) (t := .long) (t' := .long) (by decide) (by decide)))
  have F149_spanY := F144_spanY.other W149 (Or.inr (slot_ne (Or.inr (hw _ (List.mem_of_getElem? (i := 49) rfl))) (Or.inl (hw _ (List.mem_of_getElem? (i := 55) rfl))) (by decide) (t := .long) (t' := .long) (by decide) (by decide)))
  have F149_stepColumn := F144_stepColumn.other W149 (Or.inr (slot_ne (Or.inr (hw _ (List.mem_of_getElem? (i := 51) rfl))) (Or.inl (hw _ (List.mem_of_getElem? (i := 55) rfl))) (by decide) (t := .int) (t' := .long) (by decide) (by decide)))
  have F149_stepRow := F144_stepRow.other W149 (Or.inr (slot_ne (Or.inr (hw _ (List.mem_of_getElem? (i := 53) rfl))) (Or.inl (hw _ (List.mem_of_getElem? (i := 55) rfl))) (by decide) (t := .int) (t' := .long) (by decide) (by decide)))
  have F149_passes := F144_passes.other W149 (Or.inr (slot_ne (Or.inr (hw _ (List.mem_of_getElem? (i := 63) rfl))) (Or.inl (hw _ (List.mem_of_getElem? (i := 55) rfl))) (by decide) (t := .boolean) (t' := .long) (by decide) (by decide)))
  have F149_column := F144_column.other W149 (Or.inr (slot_ne (Or.inl (hw _ (List.mem_of_getElem? (i := 59) rfl))) (Or.inl (hw _ (List.mem_of_getElem? (i := 55) rfl))) (by decide) (t := .int) (t' := .long) (by decide) (by decide)))
  have F149_row := F144_row.other W149 (Or.inr (slot_ne (Or.inl (hw _ (List.mem_of_getElem? (i := 61) rfl))) (Or.inl (hw _ (List.mem_of_getElem? (i := 55) rfl))) (by decide) (t := .int) (t' := .long) (by decide) (by decide)))
  have F149_toColumnLine := F144_toColumnLine.same W149
  have F149_toRowLine := F144_toRowLine.other W149 (Or.inr (slot_ne (Or.inl (hw _ (List.mem_of_getElem? (i := 57) rfl))) (Or.inl (hw _ (List.mem_of_getElem? (i := 55) rfl))) (by decide) (t := .long) (t' := .long) (by decide) (by decide)))
  have F149_started := F144_started.other W149 (Or.inr (slot_ne (Or.inl (hw _ (List.mem_of_getElem? (i := 70) rfl))) (Or.inl (hw _ (List.mem_of_getElem? (i := 55) rfl))) (by decide) (t := .boolean) (t' := .long) (by decide) (by decide)))
  have E149 := E144.wr W149
  have K149 : Keep h0 h149 [a0] := K144.wr W149 (Or.inl (List.mem_of_getElem? (i := 0) rfl))
  have N149 := Fr.snoc X149 N144 g
  refine w_aloadN X149 hx (Jvm.hb hby d5_171) rfl rfl (pc' := 172) rfl ?_
  refine w_lload X149 hx (Jvm.hb hby d5_172) rfl (pc' := 174) rfl ?_
  refine w_lconst X149 hx (1 : Int64) (Jvm.hb hby d5_174) (by decide) (pc' := 175) rfl ?_
  refine w_ladd X149 hx (Jvm.hb hby d5_175) (pc' := 176) rfl ?_
  refine w_lload X149 hx (Jvm.hb hby d5_176) rfl (pc' := 178) rfl ?_
  refine w_lmul X149 hx (Jvm.hb hby d5_178) (pc' := 179) rfl ?_
  refine w_lload X149 hx (Jvm.hb hby d5_179) rfl (pc' := 181) rfl ?_
  refine w_lsub X149 hx (Jvm.hb hby d5_181) (pc' := 182) rfl ?_
  rw [htr]
  show Ow p e below s _ _ _ (T149.setTop (mkF m 182 #[.val (.ref a0), .val (.long q1), .second, .val (.long q2), .second, .val (.long q3), .second, .val (.long q4), .second, .val (.long q5), .second, .val (.long X'), .second, .val (.long Y'), .second, .val (.long cX), .second, .val (.long cY), .second] [(.long tr), (.ref a0)]))
  refine w_putfield X149 hx hZ hown (host := "") (Or.inl (hw _ (List.mem_of_getElem? (i := 56) rfl))) Via.refl e149 F149_toRowLine E149 (Or.inl (hw _ (List.mem_of_getElem? (i := 57) rfl))) (hw _ (List.mem_of_getElem? (i := 23) rfl)) (ty := .long) (by decide) rfl rfl (Jvm.hb hby d5_182) (pc' := 185) rfl ?_
  intro T150 h150 X150 e150 W150
  have F150_side := F149_side.other W150 (Or.inr (slot_ne (Or.inr (hw _ (List.mem_of_getElem? (i := 42) rfl))) (Or.inl (hw _ (List.mem_of_getElem? (i := 57) rfl))) (by decide) (t := .long) (t' := .long) (by decide) (by decide)))
  have F150_spanX := F149_spanX.other W150 (Or.inr (slot_ne (Or.inr (hw _ (List.mem_of_getElem? (i := 47) rfl))) (Or.inl (hw _ (List.mem_of_getElem? (i := 57) rfl))) (by decide) (t := .long) (t' := .long) (by decide) (by decide)))
  have F150_spanY := F149_spanY.other W150 (Or.inr (slot_ne (Or.inr (hw _ (List.mem_of_getElem? (i := 49) rfl))) (Or.inl (hw _ (List.mem_of_getElem? (i := 57) rfl))) (by decide) (t := .long) (t' := .long) (by decide) (by decide)))
  have F150_stepColumn := F149_stepColumn.other W150 (Or.inr (slot_ne (Or.inr (hw _ (List.mem_of_getElem? (i := 51) rfl))) (Or.inl (hw _ (List.mem_of_getElem? (i := 57) rfl))) (by decide) (t := .int) (t' := .long) (by decide) (by decide)))
  have F150_stepRow := F149_stepRow.other W150 (Or.inr (slot_ne (Or.inr (hw _ (List.mem_of_getElem? (i := 53) rfl))) (Or.inl (hw _ (List.mem_of_getElem? (i := 57) rfl))) (by decide) (t := .int) (t' := .long) (by decide) (by decide)))
  have F150_passes := F149_passes.other W150 (Or.inr (slot_ne (Or.inr (hw _ (List.mem_of_getElem? (i := 63) rfl))) (Or.inl (hw _ (List.mem_of_getElem? (i := 57) rfl))) (by decide) (t := .boolean) (t' := .long) (by decide) (by decide)))
  have F150_column := F149_column.other W150 (Or.inr (slot_ne (Or.inl (hw _ (List.mem_of_getElem? (i := 59) rfl))) (Or.inl (hw _ (List.mem_of_getElem? (i := 57) rfl))) (by decide) (t := .int) (t' := .long) (by decide) (by decide)))
  have F150_row := F149_row.other W150 (Or.inr (slot_ne (Or.inl (hw _ (List.mem_of_getElem? (i := 61) rfl))) (Or.inl (hw _ (List.mem_of_getElem? (i := 57) rfl))) (by decide) (t := .int) (t' := .long) (by decide) (by decide)))
  have F150_toColumnLine := F149_toColumnLine.other W150 (Or.inr (slot_ne (Or.inl (hw _ (List.mem_of_getElem? (i := 55) rfl))) (Or.inl (hw _ (List.mem_of_getElem? (i := 57) rfl))) (by decide) (t := .long) (t' := .long) (by decide) (by decide)))
  have F150_toRowLine := F149_toRowLine.same W150
  have F150_started := F149_started.other W150 (Or.inr (slot_ne (Or.inl (hw _ (List.mem_of_getElem? (i := 70) rfl))) (Or.inl (hw _ (List.mem_of_getElem? (i := 57) rfl))) (by decide) (t := .boolean) (t' := .long) (by decide) (by decide)))
  have E150 := E149.wr W150
  have K150 : Keep h0 h150 [a0] := K149.wr W150 (Or.inl (List.mem_of_getElem? (i := 0) rfl))
  have N150 := Fr.snoc X150 N149 g
  refine w_aloadN X150 hx (Jvm.hb hby d5_185) rfl rfl (pc' := 186) rfl ?_
  refine w_aloadN X150 hx (Jvm.hb hby d5_186) rfl rfl (pc' := 187) rfl ?_
  refine w_getfield X150 hx hZ hown (host := "") (Or.inl (hw _ (List.mem_of_getElem? (i := 50) rfl))) Via.refl e150 F150_stepColumn (Jvm.hb hby d5_187) (pc' := 190) rfl ?_
  intro T151 X151 e151
  obtain ⟨j3, hj3⟩ : ∃ v : Int64, v = (if sc < (0 : Int32) then ((-cX) - (1 : Int64)) else cX) := ⟨_, rfl⟩
  refine Ow.join T151 (mkF m 203 #[.val (.ref a0), .val (.long q1), .second, .val (.long q2), .second, .val (.long q3), .second, .val (.long q4), .second, .val (.long q5), .second, .val (.long X'), .second, .val (.long Y'), .second, .val (.long cX), .second, .val (.long cY), .second] [(.long j3), (.ref a0)]) (fun K => ?_) ?_
  · refine w_if_ge X151 hx (Jvm.hb hby d5_190) (by decide) (pcT := 201) (by decide) (pcF := 193) rfl (fun hj190_0 => ?_) (fun hj190_0 => ?_)
    · refine w_lload X151 hx (Jvm.hb hby d5_201) rfl (pc' := 203) rfl ?_
      rw [hj3, if_neg hj190_0] at K; exact K
    · refine w_lload X151 hx (Jvm.hb hby d5_193) rfl (pc' := 195) rfl ?_
      refine w_lneg X151 hx (Jvm.hb hby d5_195) (pc' := 196) rfl ?_
      refine w_lconst X151 hx (1 : Int64) (Jvm.hb hby d5_196) (by decide) (pc' := 197) rfl ?_
      refine w_lsub X151 hx (Jvm.hb hby d5_197) (pc' := 198) rfl ?_
      refine w_goto X151 hx (Jvm.hb hby d5_198) (by decide) (pc' := 203) (by decide) ?_
      rw [hj3, if_pos hj190_0] at K; exact K
  refine w_l2i X151 hx (Jvm.hb hby d5_203) (pc' := 204) rfl ?_
  rw [show j3.toInt32 = cl from by rw [hj3]; exact hcl]
  show Ow p e below s _ _ _ (T151.setTop (mkF m 204 #[.val (.ref a0), .val (.long q1), .second, .val (.long q2), .second, .val (.long q3), .second, .val (.long q4), .second, .val (.long q5), .second, .val (.long X'), .second, .val (.long Y'), .second, .val (.long cX), .second, .val (.long cY), .second] [(.int cl), (.ref a0)]))
  refine w_putfield X151 hx hZ hown (host := "") (Or.inl (hw _ (List.mem_of_getElem? (i := 58) rfl))) Via.refl e151 F150_column E150 (Or.inl (hw _ (List.mem_of_getElem? (i := 59) rfl))) (hw _ (List.mem_of_getElem? (i := 23) rfl)) (ty := .int) (by decide) rfl rfl (Jvm.hb hby d5_204) (pc' := 207) rfl ?_
  intro T152 h152 X152 e152 W152
  have F152_side := F150_side.other W152 (Or.inr (slot_ne (Or.inr (hw _ (List.mem_of_getElem? (i := 42) rfl))) (Or.inl (hw _ (List.mem_of_getElem? (i := 59) rfl))) (by decide) (t := .long) (t' := .int) (by decide) (by decide)))
  have F152_spanX := F150_spanX.other W152 (Or.inr (slot_ne (Or.inr (hw _ (List.mem_of_getElem? (i := 47) rfl))) (Or.inl (hw _ (List.mem_of_getElem? (i := 59) rfl))) (by decide) (t := .long) (t' := .int) (by decide) (by decide)))
  have F152_spanY := F150_spanY.other W152 (Or.inr (slot_ne (Or.inr (hw _ (List.mem_of_getElem? (i := 49) rfl))) (Or.inl (hw _ (List.mem_of_getElem? (i := 59) rfl))) (by decide) (t := .long) (t' := .int) (by decide) (by decide)))
  have F152_stepColumn := F150_stepColumn.other W152 (Or.inr (slot_ne (Or.inr (hw _ (List.mem_of_getElem? (i := 51) rfl))) (Or.inl (hw _ (List.mem_of_getElem? (i := 59) rfl))) (by decide) (t := .int) (t' := .int) (by decide) (by decide)))
  have F152_stepRow := F150_stepRow.other W152 (Or.inr (slot_ne (Or.inr (hw _ (List.mem_of_getElem? (i := 53) rfl))) (Or.inl (hw _ (List.mem_of_getElem? (i := 59) rfl))) (by decide) (t := .int) (t' := .int) (by decide) (by decide)))
  have F152_passes := F150_passes.other W152 (Or.inr (slot_ne (Or.inr (hw _ (List.mem_of_getElem? (i := 63) rfl))) (Or.inl (hw _ (List.mem_of_getElem? (i := 59) rfl))) (by decide) (t := .boolean) (t' := .int) (by decide) (by decide)))
  have F152_column := F150_column.same W152
  have F152_row := F150_row.other W152 (Or.inr (slot_ne (Or.inl (hw _ (List.mem_of_getElem? (i := 61) rfl))) (Or.inl (hw _ (List.mem_of_getElem? (i := 59) rfl))) (by decide) (t := .int) (t' := .int) (by decide) (by decide)))
  have F152_toColumnLine := F150_toColumnLine.other W152 (Or.inr (slot_ne (Or.inl (hw _ (List.mem_of_getElem? (i := 55) rfl))) (Or.inl (hw _ (List.mem_of_getElem? (i := 59) rfl))) (by decide) (t := .long) (t' := .int) (by decide) (by decide)))
  have F152_toRowLine := F150_toRowLine.other W152 (Or.inr (slot_ne (Or.inl (hw _ (List.mem_of_getElem? (i := 57) rfl))) (Or.inl (hw _ (List.mem_of_getElem? (i := 59) rfl))) (by decide) (t := .long) (t' := .int) (by decide) (by decide)))
  have F152_started := F150_started.other W152 (Or.inr (slot_ne (Or.inl (hw _ (List.mem_of_getElem? (i := 70) rfl))) (Or.inl (hw _ (List.mem_of_getElem? (i := 59) rfl))) (by decide) (t := .boolean) (t' := .int) (by decide) (by decide)))
  have E152 := E150.wr W152
  have K152 : Keep h0 h152 [a0] := K150.wr W152 (Or.inl (List.mem_of_getElem? (i := 0) rfl))
  have N152 := Fr.snoc X152 N150 g
  refine w_aloadN X152 hx (Jvm.hb hby d5_207) rfl rfl (pc' := 208) rfl ?_
  refine w_aloadN X152 hx (Jvm.hb hby d5_208) rfl rfl (pc' := 209) rfl ?_
  refine w_getfield X152 hx hZ hown (host := "") (Or.inl (hw _ (List.mem_of_getElem? (i := 52) rfl))) Via.refl e152 F152_stepRow (Jvm.hb hby d5_209) (pc' := 212) rfl ?_
  intro T153 X153 e153
  obtain ⟨j4, hj4⟩ : ∃ v : Int64, v = (if sr < (0 : Int32) then ((-cY) - (1 : Int64)) else cY) := ⟨_, rfl⟩
  refine Ow.join T153 (mkF m 225 #[.val (.ref a0), .val (.long q1), .second, .val (.long q2), .second, .val (.long q3), .second, .val (.long q4), .second, .val (.long q5), .second, .val (.long X'), .second, .val (.long Y'), .second, .val (.long cX), .second, .val (.long cY), .second] [(.long j4), (.ref a0)]) (fun K => ?_) ?_
  · refine w_if_ge X153 hx (Jvm.hb hby d5_212) (by decide) (pcT := 223) (by decide) (pcF := 215) rfl (fun hj212_0 => ?_) (fun hj212_0 => ?_)
    · refine w_lload X153 hx (Jvm.hb hby d5_223) rfl (pc' := 225) rfl ?_
      rw [hj4, if_neg hj212_0] at K; exact K
    · refine w_lload X153 hx (Jvm.hb hby d5_215) rfl (pc' := 217) rfl ?_
      refine w_lneg X153 hx (Jvm.hb hby d5_217) (pc' := 218) rfl ?_
      refine w_lconst X153 hx (1 : Int64) (Jvm.hb hby d5_218) (by decide) (pc' := 219) rfl ?_
      refine w_lsub X153 hx (Jvm.hb hby d5_219) (pc' := 220) rfl ?_
      refine w_goto X153 hx (Jvm.hb hby d5_220) (by decide) (pc' := 225) (by decide) ?_
      rw [hj4, if_pos hj212_0] at K; exact K
  refine w_l2i X153 hx (Jvm.hb hby d5_225) (pc' := 226) rfl ?_
  rw [show j4.toInt32 = rw' from by rw [hj4]; exact hrw]
  show Ow p e below s _ _ _ (T153.setTop (mkF m 226 #[.val (.ref a0), .val (.long q1), .second, .val (.long q2), .second, .val (.long q3), .second, .val (.long q4), .second, .val (.long q5), .second, .val (.long X'), .second, .val (.long Y'), .second, .val (.long cX), .second, .val (.long cY), .second] [(.int rw'), (.ref a0)]))
  refine w_putfield X153 hx hZ hown (host := "") (Or.inl (hw _ (List.mem_of_getElem? (i := 60) rfl))) Via.refl e153 F152_row E152 (Or.inl (hw _ (List.mem_of_getElem? (i := 61) rfl))) (hw _ (List.mem_of_getElem? (i := 23) rfl)) (ty := .int) (by decide) rfl rfl (Jvm.hb hby d5_226) (pc' := 229) rfl ?_
  intro T154 h154 X154 e154 W154
  have F154_side := F152_side.other W154 (Or.inr (slot_ne (Or.inr (hw _ (List.mem_of_getElem? (i := 42) rfl))) (Or.inl (hw _ (List.mem_of_getElem? (i := 61) rfl))) (by decide) (t := .long) (t' := .int) (by decide) (by decide)))
  have F154_spanX := F152_spanX.other W154 (Or.inr (slot_ne (Or.inr (hw _ (List.mem_of_getElem? (i := 47) rfl))) (Or.inl (hw _ (List.mem_of_getElem? (i := 61) rfl))) (by decide) (t := .long) (t' := .int) (by decide) (by decide)))
  have F154_spanY := F152_spanY.other W154 (Or.inr (slot_ne (Or.inr (hw _ (List.mem_of_getElem? (i := 49) rfl))) (Or.inl (hw _ (List.mem_of_getElem? (i := 61) rfl))) (by decide) (t := .long) (t' := .int) (by decide) (by decide)))
  have F154_stepColumn := F152_stepColumn.other W154 (Or.inr (slot_ne (Or.inr (hw _ (List.mem_of_getElem? (i := 51) rfl))) (Or.inl (hw _ (List.mem_of_getElem? (i := 61) rfl))) (by decide) (t := .int) (t' := .int) (by decide) (by decide)))
  have F154_stepRow := F152_stepRow.other W154 (Or.inr (slot_ne (Or.inr (hw _ (List.mem_of_getElem? (i := 53) rfl))) (Or.inl (hw _ (List.mem_of_getElem? (i := 61) rfl))) (by decide) (t := .int) (t' := .int) (by decide) (by decide)))
  have F154_passes := F152_passes.other W154 (Or.inr (slot_ne (Or.inr (hw _ (List.mem_of_getElem? (i := 63) rfl))) (Or.inl (hw _ (List.mem_of_getElem? (i := 61) rfl))) (by decide) (t := .boolean) (t' := .int) (by decide) (by decide)))
  have F154_column := F152_column.other W154 (Or.inr (slot_ne (Or.inl (hw _ (List.mem_of_getElem? (i := 59) rfl))) (Or.inl (hw _ (List.mem_of_getElem? (i := 61) rfl))) (by decide) (t := .int) (t' := .int) (by decide) (by decide)))
  have F154_row := F152_row.same W154
  have F154_toColumnLine := F152_toColumnLine.other W154 (Or.inr (slot_ne (Or.inl (hw _ (List.mem_of_getElem? (i := 55) rfl))) (Or.inl (hw _ (List.mem_of_getElem? (i := 61) rfl))) (by decide) (t := .long) (t' := .int) (by decide) (by decide)))
  have F154_toRowLine := F152_toRowLine.other W154 (Or.inr (slot_ne (Or.inl (hw _ (List.mem_of_getElem? (i := 57) rfl))) (Or.inl (hw _ (List.mem_of_getElem? (i := 61) rfl))) (by decide) (t := .long) (t' := .int) (by decide) (by decide)))
  have F154_started := F152_started.other W154 (Or.inr (slot_ne (Or.inl (hw _ (List.mem_of_getElem? (i := 70) rfl))) (Or.inl (hw _ (List.mem_of_getElem? (i := 61) rfl))) (by decide) (t := .boolean) (t' := .int) (by decide) (by decide)))
  have E154 := E152.wr W154
  have K154 : Keep h0 h154 [a0] := K152.wr W154 (Or.inl (List.mem_of_getElem? (i := 0) rfl))
  have N154 := Fr.snoc X154 N152 g
  refine w_aloadN X154 hx (Jvm.hb hby d5_229) rfl rfl (pc' := 230) rfl ?_
  refine w_aloadN X154 hx (Jvm.hb hby d5_230) rfl rfl (pc' := 231) rfl ?_
  refine w_getfield X154 hx hZ hown (host := "") (Or.inl (hw _ (List.mem_of_getElem? (i := 46) rfl))) Via.refl e154 F154_spanX (Jvm.hb hby d5_231) (pc' := 234) rfl ?_
  intro T155 X155 e155
  refine w_lconst X155 hx (0 : Int64) (Jvm.hb hby d5_234) (by decide) (pc' := 235) rfl ?_
  refine w_lcmp_ne X155 hx (Jvm.hb hby d5_235) (Jvm.hb hby d5_236) rfl (by decide) (pcT := 249) (by decide) (pcF := 239) rfl (fun k1 => ?_) (fun k1 => ?_)
  · refine w_aloadN X155 hx (Jvm.hb hby d5_249) rfl rfl (pc' := 250) rfl ?_
    refine w_getfield X155 hx hZ hown (host := "") (Or.inl (hw _ (List.mem_of_getElem? (i := 48) rfl))) Via.refl e155 F154_spanY (Jvm.hb hby d5_250) (pc' := 253) rfl ?_
    intro T156 X156 e156
    refine w_lconst X156 hx (0 : Int64) (Jvm.hb hby d5_253) (by decide) (pc' := 254) rfl ?_
    refine w_lcmp_ne X156 hx (Jvm.hb hby d5_254) (Jvm.hb hby d5_255) rfl (by decide) (pcT := 268) (by decide) (pcF := 258) rfl (fun k3 => ?_) (fun k3 => ?_)
    · obtain rfl : ps = (1 : Int32) := own_ps1 (fun z => k1 z.1) (fun z => k3 z.1) hps
      refine w_iconst X156 hx (1 : Int32) (Jvm.hb hby d5_268) (by decide) (pc' := 269) rfl ?_
      refine w_goto X156 hx (Jvm.hb hby d5_269) (by decide) (pc' := 273) (by decide) ?_
      refine w_putfield X156 hx hZ hown (host := "") (Or.inl (hw _ (List.mem_of_getElem? (i := 62) rfl))) Via.refl e156 F154_passes E154 (Or.inr ⟨(hw _ (List.mem_of_getElem? (i := 63) rfl)), rfl, hnm⟩) (hw _ (List.mem_of_getElem? (i := 23) rfl)) (ty := .boolean) (by decide) rfl rfl (Jvm.hb hby d5_273) (pc' := 276) rfl ?_
      intro T157 h157 X157 e157 W157
      have F157_side := F154_side.other W157 (Or.inr (slot_ne (Or.inr (hw _ (List.mem_of_getElem? (i := 42) rfl))) (Or.inr (hw _ (List.mem_of_getElem? (i := 63) rfl))) (by decide) (t := .long) (t' := .boolean) (by decide) (by decide)))
      have F157_spanX := F154_spanX.other W157 (Or.inr (slot_ne (Or.inr (hw _ (List.mem_of_getElem? (i := 47) rfl))) (Or.inr (hw _ (List.mem_of_getElem? (i := 63) rfl))) (by decide) (t := .long) (t' := .boolean) (by decide) (by decide)))
      have F157_spanY := F154_spanY.other W157 (Or.inr (slot_ne (Or.inr (hw _ (List.mem_of_getElem? (i := 49) rfl))) (Or.inr (hw _ (List.mem_of_getElem? (i := 63) rfl))) (by decide) (t := .long) (t' := .boolean) (by decide) (by decide)))
      have F157_stepColumn := F154_stepColumn.other W157 (Or.inr (slot_ne (Or.inr (hw _ (List.mem_of_getElem? (i := 51) rfl))) (Or.inr (hw _ (List.mem_of_getElem? (i := 63) rfl))) (by decide) (t := .int) (t' := .boolean) (by decide) (by decide)))
      have F157_stepRow := F154_stepRow.other W157 (Or.inr (slot_ne (Or.inr (hw _ (List.mem_of_getElem? (i := 53) rfl))) (Or.inr (hw _ (List.mem_of_getElem? (i := 63) rfl))) (by decide) (t := .int) (t' := .boolean) (by decide) (by decide)))
      have F157_passes := F154_passes.same W157
      have F157_column := F154_column.other W157 (Or.inr (slot_ne (Or.inl (hw _ (List.mem_of_getElem? (i := 59) rfl))) (Or.inr (hw _ (List.mem_of_getElem? (i := 63) rfl))) (by decide) (t := .int) (t' := .boolean) (by decide) (by decide)))
      have F157_row := F154_row.other W157 (Or.inr (slot_ne (Or.inl (hw _ (List.mem_of_getElem? (i := 61) rfl))) (Or.inr (hw _ (List.mem_of_getElem? (i := 63) rfl))) (by decide) (t := .int) (t' := .boolean) (by decide) (by decide)))
      have F157_toColumnLine := F154_toColumnLine.other W157 (Or.inr (slot_ne (Or.inl (hw _ (List.mem_of_getElem? (i := 55) rfl))) (Or.inr (hw _ (List.mem_of_getElem? (i := 63) rfl))) (by decide) (t := .long) (t' := .boolean) (by decide) (by decide)))
      have F157_toRowLine := F154_toRowLine.other W157 (Or.inr (slot_ne (Or.inl (hw _ (List.mem_of_getElem? (i := 57) rfl))) (Or.inr (hw _ (List.mem_of_getElem? (i := 63) rfl))) (by decide) (t := .long) (t' := .boolean) (by decide) (by decide)))
      have F157_started := F154_started.other W157 (Or.inr (slot_ne (Or.inl (hw _ (List.mem_of_getElem? (i := 70) rfl))) (Or.inr (hw _ (List.mem_of_getElem? (i := 63) rfl))) (by decide) (t := .boolean) (t' := .boolean) (by decide) (by decide)))
      have E157 := E154.wr W157
      have K157 : Keep h0 h157 [a0] := K154.wr W157 (Or.inl (List.mem_of_getElem? (i := 0) rfl))
      have N157 := Fr.snoc X157 N154 g
      exact w_return X157 hx Bd.returns (BodyLoose.notSynchronized Bd) (Nat.le_of_ble_eq_true rfl) (Nat.le_of_ble_eq_true rfl) (Jvm.hb hby d5_276) ⟨rfl, N157, by rw [e157]; exact ⟨K157, ⟨F157_side, F157_spanX, F157_spanY, F157_stepColumn, F157_stepRow, F157_passes, F157_column, F157_row, F157_toColumnLine, F157_toRowLine, F157_started, E157⟩⟩⟩
    · refine w_aloadN X156 hx (Jvm.hb hby d5_258) rfl rfl (pc' := 259) rfl ?_
      refine w_getfield X156 hx hZ hown (host := "") (Or.inl (hw _ (List.mem_of_getElem? (i := 56) rfl))) Via.refl e156 F154_toRowLine (Jvm.hb hby d5_259) (pc' := 262) rfl ?_
      intro T158 X158 e158
      refine w_lload X158 hx (Jvm.hb hby d5_262) rfl (pc' := 264) rfl ?_
      refine w_lcmp_eq X158 hx (Jvm.hb hby d5_264) (Jvm.hb hby d5_265) rfl (by decide) (pcT := 272) (by decide) (pcF := 268) rfl (fun k4 => ?_) (fun k4 => ?_)
      · obtain rfl : ps = (0 : Int32) := own_ps0 (Or.inr ⟨k3, k4⟩) hps
        refine w_iconst X158 hx (0 : Int32) (Jvm.hb hby d5_272) (by decide) (pc' := 273) rfl ?_
        refine w_putfield X158 hx hZ hown (host := "") (Or.inl (hw _ (List.mem_of_getElem? (i := 62) rfl))) Via.refl e158 F154_passes E154 (Or.inr ⟨(hw _ (List.mem_of_getElem? (i := 63) rfl)), rfl, hnm⟩) (hw _ (List.mem_of_getElem? (i := 23) rfl)) (ty := .boolean) (by decide) rfl rfl (Jvm.hb hby d5_273) (pc' := 276) rfl ?_
        intro T159 h159 X159 e159 W159
        have F159_side := F154_side.other W159 (Or.inr (slot_ne (Or.inr (hw _ (List.mem_of_getElem? (i := 42) rfl))) (Or.inr (hw _ (List.mem_of_getElem? (i := 63) rfl))) (by decide) (t := .long) (t' := .boolean) (by decide) (by decide)))
        have F159_spanX := F154_spanX.other W159 (Or.inr (slot_ne (Or.inr (hw _ (List.mem_of_getElem? (i := 47) rfl))) (Or.inr (hw _ (List.mem_of_getElem? (i := 63) rfl))) (by decide) (t := .long) (t' := .boolean) (by decide) (by decide)))
        have F159_spanY := F154_spanY.other W159 (Or.inr (slot_ne (Or.inr (hw _ (List.mem_of_getElem? (i := 49) rfl))) (Or.inr (hw _ (List.mem_of_getElem? (i := 63) rfl))) (by decide) (t := .long) (t' := .boolean) (by decide) (by decide)))
        have F159_stepColumn := F154_stepColumn.other W159 (Or.inr (slot_ne (Or.inr (hw _ (List.mem_of_getElem? (i := 51) rfl))) (Or.inr (hw _ (List.mem_of_getElem? (i := 63) rfl))) (by decide) (t := .int) (t' := .boolean) (by decide) (by decide)))
        have F159_stepRow := F154_stepRow.other W159 (Or.inr (slot_ne (Or.inr (hw _ (List.mem_of_getElem? (i := 53) rfl))) (Or.inr (hw _ (List.mem_of_getElem? (i := 63) rfl))) (by decide) (t := .int) (t' := .boolean) (by decide) (by decide)))
        have F159_passes := F154_passes.same W159
        have F159_column := F154_column.other W159 (Or.inr (slot_ne (Or.inl (hw _ (List.mem_of_getElem? (i := 59) rfl))) (Or.inr (hw _ (List.mem_of_getElem? (i := 63) rfl))) (by decide) (t := .int) (t' := .boolean) (by decide) (by decide)))
        have F159_row := F154_row.other W159 (Or.inr (slot_ne (Or.inl (hw _ (List.mem_of_getElem? (i := 61) rfl))) (Or.inr (hw _ (List.mem_of_getElem? (i := 63) rfl))) (by decide) (t := .int) (t' := .boolean) (by decide) (by decide)))
        have F159_toColumnLine := F154_toColumnLine.other W159 (Or.inr (slot_ne (Or.inl (hw _ (List.mem_of_getElem? (i := 55) rfl))) (Or.inr (hw _ (List.mem_of_getElem? (i := 63) rfl))) (by decide) (t := .long) (t' := .boolean) (by decide) (by decide)))
        have F159_toRowLine := F154_toRowLine.other W159 (Or.inr (slot_ne (Or.inl (hw _ (List.mem_of_getElem? (i := 57) rfl))) (Or.inr (hw _ (List.mem_of_getElem? (i := 63) rfl))) (by decide) (t := .long) (t' := .boolean) (by decide) (by decide)))
        have F159_started := F154_started.other W159 (Or.inr (slot_ne (Or.inl (hw _ (List.mem_of_getElem? (i := 70) rfl))) (Or.inr (hw _ (List.mem_of_getElem? (i := 63) rfl))) (by decide) (t := .boolean) (t' := .boolean) (by decide) (by decide)))
        have E159 := E154.wr W159
        have K159 : Keep h0 h159 [a0] := K154.wr W159 (Or.inl (List.mem_of_getElem? (i := 0) rfl))
        have N159 := Fr.snoc X159 N154 g
        exact w_return X159 hx Bd.returns (BodyLoose.notSynchronized Bd) (Nat.le_of_ble_eq_true rfl) (Nat.le_of_ble_eq_true rfl) (Jvm.hb hby d5_276) ⟨rfl, N159, by rw [e159]; exact ⟨K159, ⟨F159_side, F159_spanX, F159_spanY, F159_stepColumn, F159_stepRow, F159_passes, F159_column, F159_row, F159_toColumnLine, F159_toRowLine, F159_started, E159⟩⟩⟩
      · obtain rfl : ps = (1 : Int32) := own_ps1 (fun z => k1 z.1) (fun z => k4 z.2) hps
        refine w_iconst X158 hx (1 : Int32) (Jvm.hb hby d5_268) (by decide) (pc' := 269) rfl ?_
        refine w_goto X158 hx (Jvm.hb hby d5_269) (by decide) (pc' := 273) (by decide) ?_
        refine w_putfield X158 hx hZ hown (host := "") (Or.inl (hw _ (List.mem_of_getElem? (i := 62) rfl))) Via.refl e158 F154_passes E154 (Or.inr ⟨(hw _ (List.mem_of_getElem? (i := 63) rfl)), rfl, hnm⟩) (hw _ (List.mem_of_getElem? (i := 23) rfl)) (ty := .boolean) (by decide) rfl rfl (Jvm.hb hby d5_273) (pc' := 276) rfl ?_
        intro T160 h160 X160 e160 W160
        have F160_side := F154_side.other W160 (Or.inr (slot_ne (Or.inr (hw _ (List.mem_of_getElem? (i := 42) rfl))) (Or.inr (hw _ (List.mem_of_getElem? (i := 63) rfl))) (by decide) (t := .long) (t' := .boolean) (by decide) (by decide)))
        have F160_spanX := F154_spanX.other W160 (Or.inr (slot_ne (Or.inr (hw _ (List.mem_of_getElem? (i := 47) rfl))) (Or.inr (hw _ (List.mem_of_getElem? (i := 63) rfl))) (by decide) (t := .long) (t' := .boolean) (by decide) (by decide)))
        have F160_spanY := F154_spanY.other W160 (Or.inr (slot_ne (Or.inr (hw _ (List.mem_of_getElem? (i := 49) rfl))) (Or.inr (hw _ (List.mem_of_getElem? (i := 63) rfl))) (by decide) (t := .long) (t' := .boolean) (by decide) (by decide)))
        have F160_stepColumn := F154_stepColumn.other W160 (Or.inr (slot_ne (Or.inr (hw _ (List.mem_of_getElem? (i := 51) rfl))) (Or.inr (hw _ (List.mem_of_getElem? (i := 63) rfl))) (by decide) (t := .int) (t' := .boolean) (by decide) (by decide)))
        have F160_stepRow := F154_stepRow.other W160 (Or.inr (slot_ne (Or.inr (hw _ (List.mem_of_getElem? (i := 53) rfl))) (Or.inr (hw _ (List.mem_of_getElem? (i := 63) rfl))) (by decide) (t := .int) (t' := .boolean) (by decide) (by decide)))
        have F160_passes := F154_passes.same W160
        have F160_column := F154_column.other W160 (Or.inr (slot_ne (Or.inl (hw _ (List.mem_of_getElem? (i := 59) rfl))) (Or.inr (hw _ (List.mem_of_getElem? (i := 63) rfl))) (by decide) (t := .int) (t' := .boolean) (by decide) (by decide)))
        have F160_row := F154_row.other W160 (Or.inr (slot_ne (Or.inl (hw _ (List.mem_of_getElem? (i := 61) rfl))) (Or.inr (hw _ (List.mem_of_getElem? (i := 63) rfl))) (by decide) (t := .int) (t' := .boolean) (by decide) (by decide)))
        have F160_toColumnLine := F154_toColumnLine.other W160 (Or.inr (slot_ne (Or.inl (hw _ (List.mem_of_getElem? (i := 55) rfl))) (Or.inr (hw _ (List.mem_of_getElem? (i := 63) rfl))) (by decide) (t := .long) (t' := .boolean) (by decide) (by decide)))
        have F160_toRowLine := F154_toRowLine.other W160 (Or.inr (slot_ne (Or.inl (hw _ (List.mem_of_getElem? (i := 57) rfl))) (Or.inr (hw _ (List.mem_of_getElem? (i := 63) rfl))) (by decide) (t := .long) (t' := .boolean) (by decide) (by decide)))
        have F160_started := F154_started.other W160 (Or.inr (slot_ne (Or.inl (hw _ (List.mem_of_getElem? (i := 70) rfl))) (Or.inr (hw _ (List.mem_of_getElem? (i := 63) rfl))) (by decide) (t := .boolean) (t' := .boolean) (by decide) (by decide)))
        have E160 := E154.wr W160
        have K160 : Keep h0 h160 [a0] := K154.wr W160 (Or.inl (List.mem_of_getElem? (i := 0) rfl))
        have N160 := Fr.snoc X160 N154 g
        exact w_return X160 hx Bd.returns (BodyLoose.notSynchronized Bd) (Nat.le_of_ble_eq_true rfl) (Nat.le_of_ble_eq_true rfl) (Jvm.hb hby d5_276) ⟨rfl, N160, by rw [e160]; exact ⟨K160, ⟨F160_side, F160_spanX, F160_spanY, F160_stepColumn, F160_stepRow, F160_passes, F160_column, F160_row, F160_toColumnLine, F160_toRowLine, F160_started, E160⟩⟩⟩
  · refine w_aloadN X155 hx (Jvm.hb hby d5_239) rfl rfl (pc' := 240) rfl ?_
    refine w_getfield X155 hx hZ hown (host := "") (Or.inl (hw _ (List.mem_of_getElem? (i := 54) rfl))) Via.refl e155 F154_toColumnLine (Jvm.hb hby d5_240) (pc' := 243) rfl ?_
    intro T161 X161 e161
    refine w_lload X161 hx (Jvm.hb hby d5_243) rfl (pc' := 245) rfl ?_
    refine w_lcmp_eq X161 hx (Jvm.hb hby d5_245) (Jvm.hb hby d5_246) rfl (by decide) (pcT := 272) (by decide) (pcF := 249) rfl (fun k2 => ?_) (fun k2 => ?_)
    · obtain rfl : ps = (0 : Int32) := own_ps0 (Or.inl ⟨k1, k2⟩) hps
      refine w_iconst X161 hx (0 : Int32) (Jvm.hb hby d5_272) (by decide) (pc' := 273) rfl ?_
      refine w_putfield X161 hx hZ hown (host := "") (Or.inl (hw _ (List.mem_of_getElem? (i := 62) rfl))) Via.refl e161 F154_passes E154 (Or.inr ⟨(hw _ (List.mem_of_getElem? (i := 63) rfl)), rfl, hnm⟩) (hw _ (List.mem_of_getElem? (i := 23) rfl)) (ty := .boolean) (by decide) rfl rfl (Jvm.hb hby d5_273) (pc' := 276) rfl ?_
      intro T162 h162 X162 e162 W162
      have F162_side := F154_side.other W162 (Or.inr (slot_ne (Or.inr (hw _ (List.mem_of_getElem? (i := 42) rfl))) (Or.inr (hw _ (List.mem_of_getElem? (i := 63) rfl))) (by decide) (t := .long) (t' := .boolean) (by decide) (by decide)))
      have F162_spanX := F154_spanX.other W162 (Or.inr (slot_ne (Or.inr (hw _ (List.mem_of_getElem? (i := 47) rfl))) (Or.inr (hw _ (List.mem_of_getElem? (i := 63) rfl))) (by decide) (t := .long) (t' := .boolean) (by decide) (by decide)))
      have F162_spanY := F154_spanY.other W162 (Or.inr (slot_ne (Or.inr (hw _ (List.mem_of_getElem? (i := 49) rfl))) (Or.inr (hw _ (List.mem_of_getElem? (i := 63) rfl))) (by decide) (t := .long) (t' := .boolean) (by decide) (by decide)))
      have F162_stepColumn := F154_stepColumn.other W162 (Or.inr (slot_ne (Or.inr (hw _ (List.mem_of_getElem? (i := 51) rfl))) (Or.inr (hw _ (List.mem_of_getElem? (i := 63) rfl))) (by decide) (t := .int) (t' := .boolean) (by decide) (by decide)))
      have F162_stepRow := F154_stepRow.other W162 (Or.inr (slot_ne (Or.inr (hw _ (List.mem_of_getElem? (i := 53) rfl))) (Or.inr (hw _ (List.mem_of_getElem? (i := 63) rfl))) (by decide) (t := .int) (t' := .boolean) (by decide) (by decide)))
      have F162_passes := F154_passes.same W162
      have F162_column := F154_column.other W162 (Or.inr (slot_ne (Or.inl (hw _ (List.mem_of_getElem? (i := 59) rfl))) (Or.inr (hw _ (List.mem_of_getElem? (i := 63) rfl))) (by decide) (t := .int) (t' := .boolean) (by decide) (by decide)))
      have F162_row := F154_row.other W162 (Or.inr (slot_ne (Or.inl (hw _ (List.mem_of_getElem? (i := 61) rfl))) (Or.inr (hw _ (List.mem_of_getElem? (i := 63) rfl))) (by decide) (t := .int) (t' := .boolean) (by decide) (by decide)))
      have F162_toColumnLine := F154_toColumnLine.other W162 (Or.inr (slot_ne (Or.inl (hw _ (List.mem_of_getElem? (i := 55) rfl))) (Or.inr (hw _ (List.mem_of_getElem? (i := 63) rfl))) (by decide) (t := .long) (t' := .boolean) (by decide) (by decide)))
      have F162_toRowLine := F154_toRowLine.other W162 (Or.inr (slot_ne (Or.inl (hw _ (List.mem_of_getElem? (i := 57) rfl))) (Or.inr (hw _ (List.mem_of_getElem? (i := 63) rfl))) (by decide) (t := .long) (t' := .boolean) (by decide) (by decide)))
      have F162_started := F154_started.other W162 (Or.inr (slot_ne (Or.inl (hw _ (List.mem_of_getElem? (i := 70) rfl))) (Or.inr (hw _ (List.mem_of_getElem? (i := 63) rfl))) (by decide) (t := .boolean) (t' := .boolean) (by decide) (by decide)))
      have E162 := E154.wr W162
      have K162 : Keep h0 h162 [a0] := K154.wr W162 (Or.inl (List.mem_of_getElem? (i := 0) rfl))
      have N162 := Fr.snoc X162 N154 g
      exact w_return X162 hx Bd.returns (BodyLoose.notSynchronized Bd) (Nat.le_of_ble_eq_true rfl) (Nat.le_of_ble_eq_true rfl) (Jvm.hb hby d5_276) ⟨rfl, N162, by rw [e162]; exact ⟨K162, ⟨F162_side, F162_spanX, F162_spanY, F162_stepColumn, F162_stepRow, F162_passes, F162_column, F162_row, F162_toColumnLine, F162_toRowLine, F162_started, E162⟩⟩⟩
    · refine w_aloadN X161 hx (Jvm.hb hby d5_249) rfl rfl (pc' := 250) rfl ?_
      refine w_getfield X161 hx hZ hown (host := "") (Or.inl (hw _ (List.mem_of_getElem? (i := 48) rfl))) Via.refl e161 F154_spanY (Jvm.hb hby d5_250) (pc' := 253) rfl ?_
      intro T163 X163 e163
      refine w_lconst X163 hx (0 : Int64) (Jvm.hb hby d5_253) (by decide) (pc' := 254) rfl ?_
      refine w_lcmp_ne X163 hx (Jvm.hb hby d5_254) (Jvm.hb hby d5_255) rfl (by decide) (pcT := 268) (by decide) (pcF := 258) rfl (fun k3 => ?_) (fun k3 => ?_)
      · obtain rfl : ps = (1 : Int32) := own_ps1 (fun z => k2 z.2) (fun z => k3 z.1) hps
        refine w_iconst X163 hx (1 : Int32) (Jvm.hb hby d5_268) (by decide) (pc' := 269) rfl ?_
        refine w_goto X163 hx (Jvm.hb hby d5_269) (by decide) (pc' := 273) (by decide) ?_
        refine w_putfield X163 hx hZ hown (host := "") (Or.inl (hw _ (List.mem_of_getElem? (i := 62) rfl))) Via.refl e163 F154_passes E154 (Or.inr ⟨(hw _ (List.mem_of_getElem? (i := 63) rfl)), rfl, hnm⟩) (hw _ (List.mem_of_getElem? (i := 23) rfl)) (ty := .boolean) (by decide) rfl rfl (Jvm.hb hby d5_273) (pc' := 276) rfl ?_
        intro T164 h164 X164 e164 W164
        have F164_side := F154_side.other W164 (Or.inr (slot_ne (Or.inr (hw _ (List.mem_of_getElem? (i := 42) rfl))) (Or.inr (hw _ (List.mem_of_getElem? (i := 63) rfl))) (by decide) (t := .long) (t' := .boolean) (by decide) (by decide)))
        have F164_spanX := F154_spanX.other W164 (Or.inr (slot_ne (Or.inr (hw _ (List.mem_of_getElem? (i := 47) rfl))) (Or.inr (hw _ (List.mem_of_getElem? (i := 63) rfl))) (by decide) (t := .long) (t' := .boolean) (by decide) (by decide)))
        have F164_spanY := F154_spanY.other W164 (Or.inr (slot_ne (Or.inr (hw _ (List.mem_of_getElem? (i := 49) rfl))) (Or.inr (hw _ (List.mem_of_getElem? (i := 63) rfl))) (by decide) (t := .long) (t' := .boolean) (by decide) (by decide)))
        have F164_stepColumn := F154_stepColumn.other W164 (Or.inr (slot_ne (Or.inr (hw _ (List.mem_of_getElem? (i := 51) rfl))) (Or.inr (hw _ (List.mem_of_getElem? (i := 63) rfl))) (by decide) (t := .int) (t' := .boolean) (by decide) (by decide)))
        have F164_stepRow := F154_stepRow.other W164 (Or.inr (slot_ne (Or.inr (hw _ (List.mem_of_getElem? (i := 53) rfl))) (Or.inr (hw _ (List.mem_of_getElem? (i := 63) rfl))) (by decide) (t := .int) (t' := .boolean) (by decide) (by decide)))
        have F164_passes := F154_passes.same W164
        have F164_column := F154_column.other W164 (Or.inr (slot_ne (Or.inl (hw _ (List.mem_of_getElem? (i := 59) rfl))) (Or.inr (hw _ (List.mem_of_getElem? (i := 63) rfl))) (by decide) (t := .int) (t' := .boolean) (by decide) (by decide)))
        have F164_row := F154_row.other W164 (Or.inr (slot_ne (Or.inl (hw _ (List.mem_of_getElem? (i := 61) rfl))) (Or.inr (hw _ (List.mem_of_getElem? (i := 63) rfl))) (by decide) (t := .int) (t' := .boolean) (by decide) (by decide)))
        have F164_toColumnLine := F154_toColumnLine.other W164 (Or.inr (slot_ne (Or.inl (hw _ (List.mem_of_getElem? (i := 55) rfl))) (Or.inr (hw _ (List.mem_of_getElem? (i := 63) rfl))) (by decide) (t := .long) (t' := .boolean) (by decide) (by decide)))
        have F164_toRowLine := F154_toRowLine.other W164 (Or.inr (slot_ne (Or.inl (hw _ (List.mem_of_getElem? (i := 57) rfl))) (Or.inr (hw _ (List.mem_of_getElem? (i := 63) rfl))) (by decide) (t := .long) (t' := .boolean) (by decide) (by decide)))
        have F164_started := F154_started.other W164 (Or.inr (slot_ne (Or.inl (hw _ (List.mem_of_getElem? (i := 70) rfl))) (Or.inr (hw _ (List.mem_of_getElem? (i := 63) rfl))) (by decide) (t := .boolean) (t' := .boolean) (by decide) (by decide)))
        have E164 := E154.wr W164
        have K164 : Keep h0 h164 [a0] := K154.wr W164 (Or.inl (List.mem_of_getElem? (i := 0) rfl))
        have N164 := Fr.snoc X164 N154 g
        exact w_return X164 hx Bd.returns (BodyLoose.notSynchronized Bd) (Nat.le_of_ble_eq_true rfl) (Nat.le_of_ble_eq_true rfl) (Jvm.hb hby d5_276) ⟨rfl, N164, by rw [e164]; exact ⟨K164, ⟨F164_side, F164_spanX, F164_spanY, F164_stepColumn, F164_stepRow, F164_passes, F164_column, F164_row, F164_toColumnLine, F164_toRowLine, F164_started, E164⟩⟩⟩
      · refine w_aloadN X163 hx (Jvm.hb hby d5_258) rfl rfl (pc' := 259) rfl ?_
        refine w_getfield X163 hx hZ hown (host := "") (Or.inl (hw _ (List.mem_of_getElem? (i := 56) rfl))) Via.refl e163 F154_toRowLine (Jvm.hb hby d5_259) (pc' := 262) rfl ?_
        intro T165 X165 e165
        refine w_lload X165 hx (Jvm.hb hby d5_262) rfl (pc' := 264) rfl ?_
        refine w_lcmp_eq X165 hx (Jvm.hb hby d5_264) (Jvm.hb hby d5_265) rfl (by decide) (pcT := 272) (by decide) (pcF := 268) rfl (fun k4 => ?_) (fun k4 => ?_)
        · obtain rfl : ps = (0 : Int32) := own_ps0 (Or.inr ⟨k3, k4⟩) hps
          refine w_iconst X165 hx (0 : Int32) (Jvm.hb hby d5_272) (by decide) (pc' := 273) rfl ?_
          refine w_putfield X165 hx hZ hown (host := "") (Or.inl (hw _ (List.mem_of_getElem? (i := 62) rfl))) Via.refl e165 F154_passes E154 (Or.inr ⟨(hw _ (List.mem_of_getElem? (i := 63) rfl)), rfl, hnm⟩) (hw _ (List.mem_of_getElem? (i := 23) rfl)) (ty := .boolean) (by decide) rfl rfl (Jvm.hb hby d5_273) (pc' := 276) rfl ?_
          intro T166 h166 X166 e166 W166
          have F166_side := F154_side.other W166 (Or.inr (slot_ne (Or.inr (hw _ (List.mem_of_getElem? (i := 42) rfl))) (Or.inr (hw _ (List.mem_of_getElem? (i := 63) rfl))) (by decide) (t := .long) (t' := .boolean) (by decide) (by decide)))
          have F166_spanX := F154_spanX.other W166 (Or.inr (slot_ne (Or.inr (hw _ (List.mem_of_getElem? (i := 47) rfl))) (Or.inr (hw _ (List.mem_of_getElem? (i := 63) rfl))) (by decide) (t := .long) (t' := .boolean) (by decide) (by decide)))
          have F166_spanY := F154_spanY.other W166 (Or.inr (slot_ne (Or.inr (hw _ (List.mem_of_getElem? (i := 49) rfl))) (Or.inr (hw _ (List.mem_of_getElem? (i := 63) rfl))) (by decide) (t := .long) (t' := .boolean) (by decide) (by decide)))
          have F166_stepColumn := F154_stepColumn.other W166 (Or.inr (slot_ne (Or.inr (hw _ (List.mem_of_getElem? (i := 51) rfl))) (Or.inr (hw _ (List.mem_of_getElem? (i := 63) rfl))) (by decide) (t := .int) (t' := .boolean) (by decide) (by decide)))
          have F166_stepRow := F154_stepRow.other W166 (Or.inr (slot_ne (Or.inr (hw _ (List.mem_of_getElem? (i := 53) rfl))) (Or.inr (hw _ (List.mem_of_getElem? (i := 63) rfl))) (by decide) (t := .int) (t' := .boolean) (by decide) (by decide)))
          have F166_passes := F154_passes.same W166
          have F166_column := F154_column.other W166 (Or.inr (slot_ne (Or.inl (hw _ (List.mem_of_getElem? (i := 59) rfl))) (Or.inr (hw _ (List.mem_of_getElem? (i := 63) rfl))) (by decide) (t := .int) (t' := .boolean) (by decide) (by decide)))
          have F166_row := F154_row.other W166 (Or.inr (slot_ne (Or.inl (hw _ (List.mem_of_getElem? (i := 61) rfl))) (Or.inr (hw _ (List.mem_of_getElem? (i := 63) rfl))) (by decide) (t := .int) (t' := .boolean) (by decide) (by decide)))
          have F166_toColumnLine := F154_toColumnLine.other W166 (Or.inr (slot_ne (Or.inl (hw _ (List.mem_of_getElem? (i := 55) rfl))) (Or.inr (hw _ (List.mem_of_getElem? (i := 63) rfl))) (by decide) (t := .long) (t' := .boolean) (by decide) (by decide)))
          have F166_toRowLine := F154_toRowLine.other W166 (Or.inr (slot_ne (Or.inl (hw _ (List.mem_of_getElem? (i := 57) rfl))) (Or.inr (hw _ (List.mem_of_getElem? (i := 63) rfl))) (by decide) (t := .long) (t' := .boolean) (by decide) (by decide)))
          have F166_started := F154_started.other W166 (Or.inr (slot_ne (Or.inl (hw _ (List.mem_of_getElem? (i := 70) rfl))) (Or.inr (hw _ (List.mem_of_getElem? (i := 63) rfl))) (by decide) (t := .boolean) (t' := .boolean) (by decide) (by decide)))
          have E166 := E154.wr W166
          have K166 : Keep h0 h166 [a0] := K154.wr W166 (Or.inl (List.mem_of_getElem? (i := 0) rfl))
          have N166 := Fr.snoc X166 N154 g
          exact w_return X166 hx Bd.returns (BodyLoose.notSynchronized Bd) (Nat.le_of_ble_eq_true rfl) (Nat.le_of_ble_eq_true rfl) (Jvm.hb hby d5_276) ⟨rfl, N166, by rw [e166]; exact ⟨K166, ⟨F166_side, F166_spanX, F166_spanY, F166_stepColumn, F166_stepRow, F166_passes, F166_column, F166_row, F166_toColumnLine, F166_toRowLine, F166_started, E166⟩⟩⟩
        · obtain rfl : ps = (1 : Int32) := own_ps1 (fun z => k2 z.2) (fun z => k4 z.2) hps
          refine w_iconst X165 hx (1 : Int32) (Jvm.hb hby d5_268) (by decide) (pc' := 269) rfl ?_
          refine w_goto X165 hx (Jvm.hb hby d5_269) (by decide) (pc' := 273) (by decide) ?_
          refine w_putfield X165 hx hZ hown (host := "") (Or.inl (hw _ (List.mem_of_getElem? (i := 62) rfl))) Via.refl e165 F154_passes E154 (Or.inr ⟨(hw _ (List.mem_of_getElem? (i := 63) rfl)), rfl, hnm⟩) (hw _ (List.mem_of_getElem? (i := 23) rfl)) (ty := .boolean) (by decide) rfl rfl (Jvm.hb hby d5_273) (pc' := 276) rfl ?_
          intro T167 h167 X167 e167 W167
          have F167_side := F154_side.other W167 (Or.inr (slot_ne (Or.inr (hw _ (List.mem_of_getElem? (i := 42) rfl))) (Or.inr (hw _ (List.mem_of_getElem? (i := 63) rfl))) (by decide) (t := .long) (t' := .boolean) (by decide) (by decide)))
          have F167_spanX := F154_spanX.other W167 (Or.inr (slot_ne (Or.inr (hw _ (List.mem_of_getElem? (i := 47) rfl))) (Or.inr (hw _ (List.mem_of_getElem? (i := 63) rfl))) (by decide) (t := .long) (t' := .boolean) (by decide) (by decide)))
          have F167_spanY := F154_spanY.other W167 (Or.inr (slot_ne (Or.inr (hw _ (List.mem_of_getElem? (i := 49) rfl))) (Or.inr (hw _ (List.mem_of_getElem? (i := 63) rfl))) (by decide) (t := .long) (t' := .boolean) (by decide) (by decide)))
          have F167_stepColumn := F154_stepColumn.other W167 (Or.inr (slot_ne (Or.inr (hw _ (List.mem_of_getElem? (i := 51) rfl))) (Or.inr (hw _ (List.mem_of_getElem? (i := 63) rfl))) (by decide) (t := .int) (t' := .boolean) (by decide) (by decide)))
          have F167_stepRow := F154_stepRow.other W167 (Or.inr (slot_ne (Or.inr (hw _ (List.mem_of_getElem? (i := 53) rfl))) (Or.inr (hw _ (List.mem_of_getElem? (i := 63) rfl))) (by decide) (t := .int) (t' := .boolean) (by decide) (by decide)))
          have F167_passes := F154_passes.same W167
          have F167_column := F154_column.other W167 (Or.inr (slot_ne (Or.inl (hw _ (List.mem_of_getElem? (i := 59) rfl))) (Or.inr (hw _ (List.mem_of_getElem? (i := 63) rfl))) (by decide) (t := .int) (t' := .boolean) (by decide) (by decide)))
          have F167_row := F154_row.other W167 (Or.inr (slot_ne (Or.inl (hw _ (List.mem_of_getElem? (i := 61) rfl))) (Or.inr (hw _ (List.mem_of_getElem? (i := 63) rfl))) (by decide) (t := .int) (t' := .boolean) (by decide) (by decide)))
          have F167_toColumnLine := F154_toColumnLine.other W167 (Or.inr (slot_ne (Or.inl (hw _ (List.mem_of_getElem? (i := 55) rfl))) (Or.inr (hw _ (List.mem_of_getElem? (i := 63) rfl))) (by decide) (t := .long) (t' := .boolean) (by decide) (by decide)))
          have F167_toRowLine := F154_toRowLine.other W167 (Or.inr (slot_ne (Or.inl (hw _ (List.mem_of_getElem? (i := 57) rfl))) (Or.inr (hw _ (List.mem_of_getElem? (i := 63) rfl))) (by decide) (t := .long) (t' := .boolean) (by decide) (by decide)))
          have F167_started := F154_started.other W167 (Or.inr (slot_ne (Or.inl (hw _ (List.mem_of_getElem? (i := 70) rfl))) (Or.inr (hw _ (List.mem_of_getElem? (i := 63) rfl))) (by decide) (t := .boolean) (t' := .boolean) (by decide) (by decide)))
          have E167 := E154.wr W167
          have K167 : Keep h0 h167 [a0] := K154.wr W167 (Or.inl (List.mem_of_getElem? (i := 0) rfl))
          have N167 := Fr.snoc X167 N154 g
          exact w_return X167 hx Bd.returns (BodyLoose.notSynchronized Bd) (Nat.le_of_ble_eq_true rfl) (Nat.le_of_ble_eq_true rfl) (Jvm.hb hby d5_276) ⟨rfl, N167, by rw [e167]; exact ⟨K167, ⟨F167_side, F167_spanX, F167_spanY, F167_stepColumn, F167_stepRow, F167_passes, F167_column, F167_row, F167_toColumnLine, F167_toRowLine, F167_started, E167⟩⟩⟩
theorem j0 : (0 : Int64).toInt = 0 := by decide
theorem j1 : (1 : Int64).toInt = 1 := by decide
theorem j_lt {x y : Int64} : x < y ↔ x.toInt < y.toInt := Int64.lt_iff_toInt_lt
theorem j_eq {x y : Int64} : x = y ↔ x.toInt = y.toInt := Int64.toInt_inj.symm
theorem j_mod {a n : Int64} (hn : 0 < n.toInt) : 0 ≤ (modJ a n).toInt ∧ (modJ a n).toInt < n.toInt := by
  have hr : (a - (a / n) * n).toInt = a.toInt.tmod n.toInt := Kit.i64_rem a n
  have h1 : a.toInt.tmod n.toInt < n.toInt := Int.tmod_lt_of_pos _ hn
  have h2 : -n.toInt < a.toInt.tmod n.toInt := Int.lt_tmod_of_pos _ hn
  have h3 := Int64.toInt_lt n
  have h4 := Int64.le_toInt n
  unfold modJ
  generalize a - (a / n) * n = r at hr ⊢
  by_cases h : r < (0 : Int64)
  · rw [if_pos h]; rw [j_lt, j0] at h; rw [Kit.i64_add (by omega) (by omega)]; omega
  · rw [if_neg h]; rw [j_lt, j0] at h; omega
theorem j_neg {x s : Int64} (hs : 0 < s.toInt) : (x ^^^ s) < (0 : Int64) ↔ x.toInt < 0 := by
  rw [j_lt, j0]
  have e1 : ((x ^^^ s).toInt < 0) ↔ (x ^^^ s).toBitVec.msb = true := by rw [BitVec.msb_eq_toInt]; exact decide_eq_true_iff.symm
  have e2 : (x.toInt < 0) ↔ x.toBitVec.msb = true := by rw [BitVec.msb_eq_toInt]; exact decide_eq_true_iff.symm
  have hs' : s.toBitVec.msb = false := by
    rw [BitVec.msb_eq_toInt]; exact decide_eq_false (fun z => by have z' : s.toInt < 0 := z; omega)
  rw [e1, e2, Int64.toBitVec_xor, BitVec.msb_xor, hs', Bool.xor_false]
theorem j_fd {x s : Int64} (hs : 0 < s.toInt) (hb : -2 ^ 62 ≤ x.toInt) : (fdJ x s).toInt = x.toInt / s.toInt := by
  have hd : (x / s).toInt = x.toInt.tdiv s.toInt := Kit.i64_div (fun z => by omega)
  have he := @Int.tdiv_eq_ediv x.toInt s.toInt
  have b2 := Int64.toInt_lt x
  have hsg : s.toInt.sign = 1 := Int.sign_eq_one_of_pos hs
  unfold fdJ
  by_cases hx : x.toInt < 0
  · rw [if_pos ((j_neg hs).mpr hx)]
    by_cases hdv : s.toInt ∣ x.toInt
    · rw [if_pos (Or.inr hdv)] at he
      have hq : (x / s).toInt = x.toInt / s.toInt := by rw [hd, he]; omega
      have hc : x.toInt / s.toInt * s.toInt = x.toInt := Int.ediv_mul_cancel hdv
      have hmul : ((x / s) * s).toInt = x.toInt := by
        rw [Kit.i64_mul (by rw [hq, hc]; omega) (by rw [hq, hc]; omega), hq, hc]
      rw [if_pos (j_eq.mpr hmul), hq]
    · rw [if_neg (fun z => z.elim (fun z => by omega) hdv), hsg] at he
      have hq : (x / s).toInt = x.toInt / s.toInt + 1 := by rw [hd, he]
      have hlow : x.toInt ≤ x.toInt / s.toInt := by
        refine Int.le_ediv_of_mul_le hs ?_
        have h9 := Int.mul_le_mul_of_nonneg_left (show (1 : Int) ≤ s.toInt by omega) (show (0 : Int) ≤ -x.toInt by omega)
        rw [Int.neg_mul, Int.neg_mul, Int.mul_one] at h9; omega
      have hup : x.toInt / s.toInt < 0 := Int.ediv_neg_of_neg_of_pos hx hs
      rw [if_neg (fun z => hdv (Int.dvd_of_tmod_eq_zero (by have h := Kit.i64_rem x s; rw [z, Int64.sub_self, j0] at h; exact h.symm)))]
      rw [Kit.i64_sub (by rw [hq, j1]; omega) (by rw [hq, j1]; omega), hq, j1]; omega
  · rw [if_neg (fun z => hx ((j_neg hs).mp z)), hd, he, if_pos (Or.inl (by omega))]; omega
theorem j_abs {x : Int64} (h : -2 ^ 62 ≤ x.toInt) : (x.toInt < 0 → (absJ x).toInt = -x.toInt) ∧ (0 ≤ x.toInt → (absJ x).toInt = x.toInt) := by
  unfold absJ
  constructor
  · intro z; rw [if_pos (by rw [j_lt, j0]; exact z), Kit.i64_neg (by omega)]
  · intro z; rw [if_neg (by rw [j_lt, j0]; omega)]
theorem own_sh (x : Int64) (k : Int32) (n : Nat) (hk : ((k &&& 0x3f).toInt64.toUInt64.toBitVec % 64#64).toNat = n) : (lsr64 x k).toBitVec = x.toBitVec >>> n := by
  show x.toUInt64.toBitVec >>> ((k &&& 0x3f).toInt64.toUInt64.toBitVec % 64#64) = _
  rw [BitVec.ushiftRight_eq', hk]; rfl
theorem j_nat (x : Int64) : ((x.toBitVec.toNat : Nat) : Int) = x.toInt % 2 ^ 64 := by
  have h := BitVec.toInt_eq_toNat_cond x.toBitVec
  have h2 := x.toBitVec.isLt
  have h3 : x.toInt = x.toBitVec.toInt := rfl
  rw [h3, h]; split <;> omega
theorem j_lsr (x : Int64) : (lsr64 x (32 : Int32)).toInt = x.toInt % 2 ^ 64 / 2 ^ 32 := by
  have h1 : (lsr64 x 32).toBitVec = x.toBitVec >>> 32 := own_sh x 32 32 (by decide)
  have h2 : (lsr64 x (32 : Int32)).toInt = (x.toBitVec >>> 32).toInt := by rw [← h1]; rfl
  have h3 : (x.toBitVec >>> 32).toNat = x.toBitVec.toNat / 2 ^ 32 := by rw [BitVec.toNat_ushiftRight, Nat.shiftRight_eq_div_pow]
  have h4 := x.toBitVec.isLt
  have h5 := j_nat x
  rw [h2, BitVec.toInt_eq_toNat_cond, h3, if_pos (by omega), ← h5]; omega
theorem mul_b {x y a b : Int} (hx : 0 ≤ x) (hy : 0 ≤ y) (ha : x ≤ a) (hb : y ≤ b) : 0 ≤ x * y ∧ x * y ≤ a * b :=
  ⟨Int.mul_nonneg hx hy, Int.mul_le_mul ha hb hy (by omega)⟩
theorem j_mh {x y : Int64} (hx0 : 0 ≤ x.toInt) (hx : x.toInt < 2 ^ 61) (hy0 : 0 ≤ y.toInt) (hy : y.toInt < 2 ^ 61) : (mhJ x y).toInt = x.toInt * y.toInt / 2 ^ 64 := by
  have e0 : (mhJ_t0 x y).toInt = x.toInt / 2 ^ 32 := Kit.i64_shr x _ (by decide)
  have e1 : (mhJ_t1 x y).toInt = x.toInt % 2 ^ 32 := Kit.i64_mask x _ (by decide) (by decide)
  have e2 : (mhJ_t2 x y).toInt = y.toInt / 2 ^ 32 := Kit.i64_shr y _ (by decide)
  have e3 : (mhJ_t3 x y).toInt = y.toInt % 2 ^ 32 := Kit.i64_mask y _ (by decide) (by decide)
  have hxx : x.toInt = x.toInt / 2 ^ 32 * 2 ^ 32 + x.toInt % 2 ^ 32 := by omega
  have hyy : y.toInt = y.toInt / 2 ^ 32 * 2 ^ 32 + y.toInt % 2 ^ 32 := by omega
  have x1b : 0 ≤ x.toInt / 2 ^ 32 ∧ x.toInt / 2 ^ 32 ≤ 2 ^ 29 := by omega
  have y1b : 0 ≤ y.toInt / 2 ^ 32 ∧ y.toInt / 2 ^ 32 ≤ 2 ^ 29 := by omega
  have x2b : 0 ≤ x.toInt % 2 ^ 32 ∧ x.toInt % 2 ^ 32 ≤ 2 ^ 32 - 1 := by omega
  have y2b : 0 ≤ y.toInt % 2 ^ 32 ∧ y.toInt % 2 ^ 32 ≤ 2 ^ 32 - 1 := by omega
  generalize x.toInt / 2 ^ 32 = x1 at *
  generalize y.toInt / 2 ^ 32 = y1 at *
  generalize x.toInt % 2 ^ 32 = x2 at *
  generalize y.toInt % 2 ^ 32 = y2 at *
  have bA := mul_b x1b.1 y1b.1 x1b.2 y1b.2
  have bB := mul_b x1b.1 y2b.1 x1b.2 y2b.2
  have bC := mul_b x2b.1 y1b.1 x2b.2 y1b.2
  have bD := mul_b x2b.1 y2b.1 x2b.2 y2b.2
  have hP : x.toInt * y.toInt = x1 * y1 * 2 ^ 64 + (x1 * y2 + x2 * y1) * 2 ^ 32 + x2 * y2 := by
    rw [hxx, hyy]; simp only [Int.add_mul, Int.mul_add]
    have q1 : x1 * 2 ^ 32 * (y1 * 2 ^ 32) = x1 * y1 * 2 ^ 64 := by
      rw [Int.mul_assoc, ← Int.mul_assoc (2 ^ 32) y1, Int.mul_comm (2 ^ 32) y1, Int.mul_assoc y1, ← Int.mul_assoc x1]; rfl
    have q2 : x1 * 2 ^ 32 * y2 = x1 * y2 * 2 ^ 32 := by rw [Int.mul_right_comm]
    have q3 : x2 * (y1 * 2 ^ 32) = x2 * y1 * 2 ^ 32 := by rw [Int.mul_assoc]
    rw [q1, q2, q3]; omega
  have e4 : (mhJ_t4 x y).toInt % 2 ^ 64 = x2 * y2 := by
    show ((mhJ_t1 x y) * (mhJ_t3 x y)).toInt % 2 ^ 64 = _
    rw [Int64.toInt_mul, e1, e3]
    have h9 : ((x2 * y2).bmod (2 ^ 64)) % ((2 ^ 64 : Nat) : Int) = (x2 * y2) % ((2 ^ 64 : Nat) : Int) := Int.bmod_emod
    have h8 : ((2 ^ 64 : Nat) : Int) = 2 ^ 64 := by decide
    rw [h8] at h9; rw [h9]; omega
  have e4' : (lsr64 (mhJ_t4 x y) (32 : Int32)).toInt = x2 * y2 / 2 ^ 32 := by rw [j_lsr, e4]
  have e5a : ((mhJ_t0 x y) * (mhJ_t3 x y)).toInt = x1 * y2 := by rw [Kit.i64_mul (by rw [e0, e3]; omega) (by rw [e0, e3]; omega), e0, e3]
  have e8a : ((mhJ_t1 x y) * (mhJ_t2 x y)).toInt = x2 * y1 := by rw [Kit.i64_mul (by rw [e1, e2]; omega) (by rw [e1, e2]; omega), e1, e2]
  have eA : ((mhJ_t0 x y) * (mhJ_t2 x y)).toInt = x1 * y1 := by rw [Kit.i64_mul (by rw [e0, e2]; omega) (by rw [e0, e2]; omega), e0, e2]
  generalize x1 * y1 = pA at *
  generalize x1 * y2 = pB at *
  generalize x2 * y1 = pC at *
  generalize x2 * y2 = pD at *
  have e5 : (mhJ_t5 x y).toInt = pB + pD / 2 ^ 32 := by
    show (((mhJ_t0 x y) * (mhJ_t3 x y)) + (lsr64 (mhJ_t4 x y) (32 : Int32))).toInt = _
    rw [Kit.i64_add (by rw [e5a, e4']; omega) (by rw [e5a, e4']; omega), e5a, e4']
  have e6 : (mhJ_t6 x y).toInt = (pB + pD / 2 ^ 32) % 2 ^ 32 := by rw [← e5]; exact Kit.i64_mask _ _ (by decide) (by decide)
  have e7 : (mhJ_t7 x y).toInt = (pB + pD / 2 ^ 32) / 2 ^ 32 := by rw [← e5]; exact Kit.i64_shr _ _ (by decide)
  have e8 : (mhJ_t8 x y).toInt = (pB + pD / 2 ^ 32) % 2 ^ 32 + pC := by
    show ((mhJ_t6 x y) + ((mhJ_t1 x y) * (mhJ_t2 x y))).toInt = _
    rw [Kit.i64_add (by rw [e6, e8a]; omega) (by rw [e6, e8a]; omega), e6, e8a]
  have e9 : ((mhJ_t8 x y) >>> ((32 : Int32) &&& 0x3f).toInt64).toInt = ((pB + pD / 2 ^ 32) % 2 ^ 32 + pC) / 2 ^ 32 := by rw [← e8]; exact Kit.i64_shr _ _ (by decide)
  show ((((mhJ_t0 x y) * (mhJ_t2 x y)) + (mhJ_t7 x y)) + ((mhJ_t8 x y) >>> ((32 : Int32) &&& 0x3f).toInt64)).toInt = _
  have e10 : (((mhJ_t0 x y) * (mhJ_t2 x y)) + (mhJ_t7 x y)).toInt = pA + (pB + pD / 2 ^ 32) / 2 ^ 32 := by
    rw [Kit.i64_add (by rw [eA, e7]; omega) (by rw [eA, e7]; omega), eA, e7]
  rw [Kit.i64_add (by rw [e10, e9]; omega) (by rw [e10, e9]; omega), e10, e9, hP]; omega
theorem j_un (a : Int64) : (a + (-9223372036854775808 : Int64)).toInt = a.toInt % 2 ^ 64 - 2 ^ 63 := by
  have h1 : (-9223372036854775808 : Int64).toInt = -2 ^ 63 := by decide
  have h2 := Int64.toInt_lt a
  have h3 := Int64.le_toInt a
  rw [Int64.toInt_add, h1, Int.bmod_def]
  have h8 : ((2 ^ 64 : Nat) : Int) = 2 ^ 64 := by decide
  rw [h8]; split <;> omega
theorem j_cmp {a b : Int64} : (a.toInt < b.toInt → cmpJ a b = -1) ∧ (a.toInt = b.toInt → cmpJ a b = 0) ∧ (b.toInt < a.toInt → cmpJ a b = 1) := by
  unfold cmpJ
  refine ⟨fun h => ?_, fun h => ?_, fun h => ?_⟩
  · rw [if_pos (j_lt.mpr h)]
  · rw [if_neg (fun z => by have := j_lt.mp z; omega), if_pos (j_eq.mpr h)]
  · rw [if_neg (fun z => by have := j_lt.mp z; omega), if_neg (fun z => by have := j_eq.mp z; omega)]
theorem j_lo {x y : Int64} : ((x * y) + (-9223372036854775808 : Int64)).toInt = x.toInt * y.toInt % 2 ^ 64 - 2 ^ 63 := by
  rw [j_un, Int64.toInt_mul]
  have h9 : ((x.toInt * y.toInt).bmod (2 ^ 64)) % ((2 ^ 64 : Nat) : Int) = (x.toInt * y.toInt) % ((2 ^ 64 : Nat) : Int) := Int.bmod_emod
  have h8 : ((2 ^ 64 : Nat) : Int) = 2 ^ 64 := by decide
  rw [h8] at h9; rw [h9]
theorem j_cp {x y z w : Int64} (hx0 : 0 ≤ x.toInt) (hx : x.toInt < 2 ^ 61) (hy0 : 0 ≤ y.toInt) (hy : y.toInt < 2 ^ 61) (hz0 : 0 ≤ z.toInt) (hz : z.toInt < 2 ^ 61) (hw0 : 0 ≤ w.toInt) (hw' : w.toInt < 2 ^ 61) :
    (x.toInt * y.toInt < z.toInt * w.toInt → cpJ x y z w = -1) ∧ (x.toInt * y.toInt = z.toInt * w.toInt → cpJ x y z w = 0) ∧ (z.toInt * w.toInt < x.toInt * y.toInt → cpJ x y z w = 1) := by
  have h1 := j_mh hx0 hx hy0 hy
  have h2 := j_mh hz0 hz hw0 hw'
  have c1 := @j_cmp (mhJ x y) (mhJ z w)
  rw [h1, h2] at c1
  have c2 := @j_cmp ((x * y) + (-9223372036854775808 : Int64)) ((z * w) + (-9223372036854775808 : Int64))
  rw [j_lo, j_lo] at c2
  have n1 : ¬ (-1 : Int32) = 0 := by decide
  have n2 : ¬ (1 : Int32) = 0 := by decide
  show (_ → (if cmpJ (mhJ x y) (mhJ z w) = (0 : Int32) then cmpJ ((x * y) + (-9223372036854775808 : Int64)) ((z * w) + (-9223372036854775808 : Int64)) else cmpJ (mhJ x y) (mhJ z w)) = -1) ∧ (_ → (if cmpJ (mhJ x y) (mhJ z w) = (0 : Int32) then cmpJ ((x * y) + (-9223372036854775808 : Int64)) ((z * w) + (-9223372036854775808 : Int64)) else cmpJ (mhJ x y) (mhJ z w)) = 0) ∧ (_ → (if cmpJ (mhJ x y) (mhJ z w) = (0 : Int32) then cmpJ ((x * y) + (-9223372036854775808 : Int64)) ((z * w) + (-9223372036854775808 : Int64)) else cmpJ (mhJ x y) (mhJ z w)) = 1)
  generalize cmpJ ((x * y) + (-9223372036854775808 : Int64)) ((z * w) + (-9223372036854775808 : Int64)) = o2 at *
  generalize cmpJ (mhJ x y) (mhJ z w) = o1 at *
  generalize x.toInt * y.toInt = P at *
  generalize z.toInt * w.toInt = R at *
  rcases Int.lt_trichotomy (P / 2 ^ 64) (R / 2 ^ 64) with h | h | h
  · rw [c1.1 h]; exact ⟨fun _ => if_neg n1, fun z => by omega, fun z => by omega⟩
  · rw [c1.2.1 h]; simp only [if_true]
    exact ⟨fun z => c2.1 (by omega), fun z => c2.2.1 (by omega), fun z => c2.2.2 (by omega)⟩
  · rw [c1.2.2 h]; exact ⟨fun z => by omega, fun z => by omega, fun _ => if_neg n2⟩
def EndOk (q s : Int64) : Prop := ¬ q < (-2305843009213693952 : Int64) ∧ ¬ (2305843009213693952 : Int64) < q ∧ ¬ fdJ q s < (-2147483648 : Int64) ∧ ¬ (2147483647 : Int64) < fdJ q s
theorem own_end {q s : Int64} (hs : 0 < s.toInt) (h1 : -2 ^ 61 ≤ q.toInt) (h2 : q.toInt ≤ 2 ^ 61) (h3 : -2 ^ 31 ≤ q.toInt / s.toInt) (h4 : q.toInt / s.toInt ≤ 2 ^ 31 - 1) : EndOk q s := by
  have e := j_fd (x := q) hs (by omega)
  unfold EndOk
  simp only [j_lt, e, show (-2305843009213693952 : Int64).toInt = -2305843009213693952 from by decide, show (2305843009213693952 : Int64).toInt = 2305843009213693952 from by decide, show (-2147483648 : Int64).toInt = -2147483648 from by decide, show (2147483647 : Int64).toInt = 2147483647 from by decide]
  omega
/-- a position of P units of k, in cells of M units of k -/
theorem own_cell {P M K : Int} (hK : 0 < K) : (P * K) / (M * K) = P / M := Int.mul_ediv_mul_of_pos_left P M hK
theorem own_cellC {C A M : Int} (hA : 0 ≤ A) (hM : A < M) : (C * M + A) / M = C := by
  rw [Int.mul_add_ediv_right C A (by omega), Int.ediv_eq_zero_of_lt hA hM]; omega
/-- the facts of one axis that the law's prelude makes -/
def Ax (m k sd cx ax gx s X0 X1 : Int64) (d : Int32) : Prop :=
  1 ≤ m.toInt ∧ m.toInt ≤ 2 ^ 20 ∧ 1 ≤ k.toInt ∧ sd.toInt = m.toInt * k.toInt ∧ sd.toInt ≤ 2 ^ 59 ∧ -2147483646 ≤ cx.toInt ∧ cx.toInt ≤ 2147483645 ∧ -2 ^ 61 ≤ (cx.toInt - 2) * sd.toInt ∧ (cx.toInt + 3) * sd.toInt ≤ 2 ^ 61 ∧
  0 ≤ ax.toInt ∧ ax.toInt < m.toInt ∧ (d = 0 ∨ d = 1) ∧ (d = 0 → gx.toInt = m.toInt - ax.toInt) ∧ (d = 1 → ax.toInt = 0 → gx.toInt = m.toInt) ∧ (d = 1 → ax.toInt ≠ 0 → gx.toInt = ax.toInt) ∧ 0 ≤ s.toInt ∧ s.toInt < gx.toInt + m.toInt ∧
  X0.toInt = (cx.toInt * m.toInt + ax.toInt) * k.toInt ∧ (d = 0 → X1.toInt = (cx.toInt * m.toInt + ax.toInt + s.toInt) * k.toInt) ∧ (d = 1 → X1.toInt = (cx.toInt * m.toInt + ax.toInt - s.toInt) * k.toInt)
/-- what the walk makes of one axis -/
def Aw (m k sd cx ax gx s X0 X1 : Int64) (d : Int32) (sp : Int64) (sc : Int32) (X' cc tc : Int64) (cl : Int32) : Prop :=
  absJ (X1 - X0) = sp ∧ (if X1 < X0 then (-1 : Int32) else (1 : Int32)) = sc ∧ sc.toInt64 * X0 = X' ∧ fdJ X' sd = cc ∧ (cc + (1 : Int64)) * sd - X' = tc ∧ (if sc < (0 : Int32) then -cc - (1 : Int64) else cc).toInt32 = cl ∧
  EndOk X0 sd ∧ EndOk X1 sd ∧ sp.toInt = s.toInt * k.toInt ∧
  (∃ T : Int, tc.toInt = T * k.toInt ∧ 1 ≤ T ∧ T ≤ m.toInt ∧ (0 < s.toInt → T = gx.toInt) ∧ (s.toInt = 0 → T = m.toInt - ax.toInt)) ∧
  ((0 < s.toInt ∨ ax.toInt ≠ 0) → cl.toInt = if d = 1 ∧ ax.toInt = 0 then cx.toInt - 1 else cx.toInt) ∧
  (0 < s.toInt → sc.toInt = if d = 1 then -1 else 1)
theorem own_axis {m k sd cx ax gx s X0 X1 : Int64} {d : Int32} (H : Ax m k sd cx ax gx s X0 X1 d) : ∃ (sp : Int64) (sc : Int32) (X' cc tc : Int64) (cl : Int32), Aw m k sd cx ax gx s X0 X1 d sp sc X' cc tc cl := by
  obtain ⟨m1, m2, k1, hsd, sd2, c1, c2, c3, c4, a1, a2, hd, g0, g1, g2, s1, s2, x0, x10, x11⟩ := H
  refine ⟨_, _, _, _, _, _, rfl, rfl, rfl, rfl, rfl, rfl, ?_⟩
  have nd : ¬ (0 : Int32) = 1 := by decide
  have nd' : ¬ (1 : Int32) = 0 := by decide
  have hsd0 : 0 < sd.toInt := by rw [hsd]; exact Int.mul_pos (by omega) (by omega)
  generalize hM : m.toInt = M at *
  generalize hK : k.toInt = K at *
  generalize hC : cx.toInt = C at *
  generalize hA : ax.toInt = A at *
  generalize hG : gx.toInt = G at *
  generalize hS : s.toInt = S at *
  have hK0 : 0 < K := by omega
  have eC : C * M * K = C * sd.toInt := by rw [hsd, Int.mul_assoc]
  have bS : 0 ≤ S * K := Int.mul_nonneg s1 (by omega)
  have bA : 0 ≤ A * K := Int.mul_nonneg a1 (by omega)
  have bA2 : A * K ≤ sd.toInt - K := by
    have h9 := Int.mul_le_mul_of_nonneg_right (show A ≤ M - 1 by omega) (show (0 : Int) ≤ K by omega)
    rw [Int.sub_mul, Int.one_mul, ← hsd] at h9; omega
  have eX0 : X0.toInt = C * sd.toInt + A * K := by rw [x0, Int.add_mul, eC]
  have e2 : (C - 2) * sd.toInt = C * sd.toInt - 2 * sd.toInt := by rw [Int.sub_mul]
  have e3 : (C + 3) * sd.toInt = C * sd.toInt + 3 * sd.toInt := by rw [Int.add_mul]
  have x0b : -2 ^ 61 ≤ X0.toInt ∧ X0.toInt ≤ 2 ^ 61 := by omega
  have cell0 : X0.toInt / sd.toInt = C := by rw [x0, hsd, own_cell hK0, own_cellC a1 a2]
  have E0 : EndOk X0 sd := own_end hsd0 x0b.1 x0b.2 (by omega) (by omega)
  rcases hd with rfl | rfl
  · -- forwards
    have hg := g0 rfl
    have hx1 := x10 rfl
    have eX1 : X1.toInt = X0.toInt + S * K := by rw [hx1, x0, Int.add_mul]
    have bS2 : A * K + S * K < 2 * sd.toInt := by
      have h9 := Int.mul_lt_mul_of_pos_right (show A + S < 2 * M by omega) hK0
      rw [Int.add_mul, Int.mul_assoc, ← hsd] at h9; exact h9
    have cell1 : C ≤ X1.toInt / sd.toInt ∧ X1.toInt / sd.toInt ≤ C + 1 := by
      have h8 := Int.mul_add_ediv_right C (A * K + S * K) (show sd.toInt ≠ 0 by omega)
      have h7 : X1.toInt = C * sd.toInt + (A * K + S * K) := by omega
      have h6 : 0 ≤ (A * K + S * K) / sd.toInt := Int.ediv_nonneg (by omega) (by omega)
      have h5 : (A * K + S * K) / sd.toInt < 2 := Int.ediv_lt_of_lt_mul hsd0 bS2
      rw [h7, h8]; omega
    have E1 : EndOk X1 sd := own_end hsd0 (by omega) (by omega) (by omega) (by omega)
    have hnl : ¬ X1 < X0 := fun z => by have := j_lt.mp z; omega
    have hdif : (X1 - X0).toInt = S * K := by rw [Kit.i64_sub (by omega) (by omega)]; omega
    have hX' : ((1 : Int32).toInt64 * X0) = X0 := by rw [show (1 : Int32).toInt64 = 1 from by decide, Int64.one_mul]
    have hfd := j_fd (x := X0) hsd0 (by omega)
    rw [cell0] at hfd
    have hc1 : (fdJ X0 sd + (1 : Int64)).toInt = C + 1 := by rw [Kit.i64_add (by rw [hfd, j1]; omega) (by rw [hfd, j1]; omega), hfd, j1]
    have e4 : (C + 1) * sd.toInt = C * sd.toInt + sd.toInt := by rw [Int.add_mul, Int.one_mul]
    have hmul : ((fdJ X0 sd + (1 : Int64)) * sd).toInt = C * sd.toInt + sd.toInt := by rw [Kit.i64_mul (by rw [hc1, e4]; omega) (by rw [hc1, e4]; omega), hc1, e4]
    have htc : ((fdJ X0 sd + (1 : Int64)) * sd - X0).toInt = (M - A) * K := by
      rw [Kit.i64_sub (by rw [hmul]; omega) (by rw [hmul]; omega), hmul, Int.sub_mul, ← hsd]; omega
    rw [if_neg hnl, hX', if_neg (show ¬ (1 : Int32) < 0 from by decide)]
    refine ⟨E0, E1, ?_, ⟨M - A, htc, by omega, by omega, fun _ => by omega, fun _ => rfl⟩, fun _ => ?_, fun _ => ?_⟩
    · rw [(j_abs (x := X1 - X0) (by omega)).2 (by omega), hdif]
    · rw [if_neg (fun z => nd z.1), Kit.i32_of_i64 (by omega) (by omega), hfd]
    · rw [if_neg nd]; decide
  · -- backwards
    have hx1 := x11 rfl
    have eX1 : X1.toInt = X0.toInt - S * K := by rw [hx1, x0, Int.sub_mul]
    have hgm : G ≤ M ∧ 1 ≤ G := by
      by_cases hz : A = 0
      · have := g1 rfl hz; omega
      · have := g2 rfl hz; omega
    have low : -(2 * sd.toInt) < A * K - S * K := by
      have h9 := Int.mul_lt_mul_of_pos_right (show S < A + 2 * M by
        by_cases hz : A = 0
        · have := g1 rfl hz; omega
        · have := g2 rfl hz; omega) hK0
      rw [Int.add_mul, Int.mul_assoc, ← hsd] at h9; omega
    have cell1 : C - 2 ≤ X1.toInt / sd.toInt ∧ X1.toInt / sd.toInt ≤ C := by
      have h8 := Int.mul_add_ediv_right C (A * K - S * K) (show sd.toInt ≠ 0 by omega)
      have h7 : X1.toInt = C * sd.toInt + (A * K - S * K) := by omega
      have h6 : -2 ≤ (A * K - S * K) / sd.toInt := Int.le_ediv_of_mul_le hsd0 (by omega)
      have h5 : (A * K - S * K) / sd.toInt < 1 := Int.ediv_lt_of_lt_mul hsd0 (by omega)
      rw [h7, h8]; omega
    have E1 : EndOk X1 sd := own_end hsd0 (by omega) (by omega) (by omega) (by omega)
    have hdif : (X1 - X0).toInt = -(S * K) := by rw [Kit.i64_sub (by omega) (by omega)]; omega
    have hsp : (absJ (X1 - X0)).toInt = S * K := by
      by_cases hz : S * K = 0
      · rw [(j_abs (x := X1 - X0) (by omega)).2 (by omega), hdif]; omega
      · rw [(j_abs (x := X1 - X0) (by omega)).1 (by omega), hdif]; omega
    by_cases hS0 : S = 0
    · have hSK : S * K = 0 := by rw [hS0, Int.zero_mul]
      have hnl : ¬ X1 < X0 := fun z => by have := j_lt.mp z; omega
      have hX' : ((1 : Int32).toInt64 * X0) = X0 := by rw [show (1 : Int32).toInt64 = 1 from by decide, Int64.one_mul]
      have hfd := j_fd (x := X0) hsd0 (by omega)
      rw [cell0] at hfd
      have hc1 : (fdJ X0 sd + (1 : Int64)).toInt = C + 1 := by rw [Kit.i64_add (by rw [hfd, j1]; omega) (by rw [hfd, j1]; omega), hfd, j1]
      have e4 : (C + 1) * sd.toInt = C * sd.toInt + sd.toInt := by rw [Int.add_mul, Int.one_mul]
      have hmul : ((fdJ X0 sd + (1 : Int64)) * sd).toInt = C * sd.toInt + sd.toInt := by rw [Kit.i64_mul (by rw [hc1, e4]; omega) (by rw [hc1, e4]; omega), hc1, e4]
      have htc : ((fdJ X0 sd + (1 : Int64)) * sd - X0).toInt = (M - A) * K := by
        rw [Kit.i64_sub (by rw [hmul]; omega) (by rw [hmul]; omega), hmul, Int.sub_mul, ← hsd]; omega
      rw [if_neg hnl, hX', if_neg (show ¬ (1 : Int32) < 0 from by decide)]
      refine ⟨E0, E1, hsp, ⟨M - A, htc, by omega, by omega, fun z => by omega, fun _ => rfl⟩, fun hz => ?_, fun z => by omega⟩
      rw [if_neg (fun z => by have := z.2; omega), Kit.i32_of_i64 (by omega) (by omega), hfd]
    · have hSK : 0 < S * K := Int.mul_pos (by omega) hK0
      have hl : X1 < X0 := j_lt.mpr (by omega)
      have hX' : ((-1 : Int32).toInt64 * X0).toInt = -X0.toInt := by
        have h9 : (-1 : Int32).toInt64.toInt = -1 := by decide
        rw [Kit.i64_mul (by rw [h9]; omega) (by rw [h9]; omega), h9]; omega
      have hfd := j_fd (x := (-1 : Int32).toInt64 * X0) hsd0 (by rw [hX']; omega)
      rw [hX'] at hfd
      generalize hcc : fdJ ((-1 : Int32).toInt64 * X0) sd = cc at hfd
      have hneg : -X0.toInt = (-(C * M + A)) * K := by rw [x0, Int.neg_mul]
      have hq : -X0.toInt / sd.toInt = if A = 0 then -C else -C - 1 := by
        rw [hneg, hsd, own_cell hK0]
        by_cases hz : A = 0
        · rw [if_pos hz, hz, show -(C * M + 0) = (-C) * M + 0 from by rw [Int.neg_mul]; omega]; exact own_cellC (by omega) (by omega)
        · rw [if_neg hz, show -(C * M + A) = (-C - 1) * M + (M - A) from by rw [Int.sub_mul, Int.neg_mul, Int.one_mul]; omega]; exact own_cellC (by omega) (by omega)
      rw [hq] at hfd
      have hccb : -2147483646 ≤ cc.toInt ∧ cc.toInt ≤ 2147483647 := by rw [hfd]; split <;> omega
      have hc1 : (cc + (1 : Int64)).toInt = cc.toInt + 1 := by rw [Kit.i64_add (by rw [j1]; omega) (by rw [j1]; omega), j1]
      have hprod : (cc.toInt + 1) * sd.toInt + X0.toInt = G * K := by
        rw [hfd, eX0]
        by_cases hz : A = 0
        · rw [if_pos hz, g1 rfl hz, hz, Int.add_mul, Int.neg_mul, hsd]; omega
        · rw [if_neg hz, g2 rfl hz, show -C - 1 + 1 = -C from by omega, Int.neg_mul]; omega
      have hGK : 0 < G * K ∧ G * K ≤ sd.toInt := by
        refine ⟨Int.mul_pos (by omega) hK0, ?_⟩
        rw [hsd]; exact Int.mul_le_mul_of_nonneg_right hgm.1 (by omega)
      have hmul : ((cc + (1 : Int64)) * sd).toInt = (cc.toInt + 1) * sd.toInt := by rw [Kit.i64_mul (by rw [hc1]; omega) (by rw [hc1]; omega), hc1]
      rw [if_pos hl, hcc, if_pos (show (-1 : Int32) < 0 from by decide)]
      have htc : ((cc + (1 : Int64)) * sd - (-1 : Int32).toInt64 * X0).toInt = G * K := by
        rw [Kit.i64_sub (by rw [hmul, hX']; omega) (by rw [hmul, hX']; omega), hmul, hX']; omega
      refine ⟨E0, E1, hsp, ⟨G, htc, by omega, by omega, fun _ => rfl, fun z => absurd z hS0⟩, fun _ => ?_, fun _ => ?_⟩
      · have h9 : (-cc - (1 : Int64)).toInt = -cc.toInt - 1 := by
          have h8 : (-cc).toInt = -cc.toInt := Kit.i64_neg (by omega)
          rw [Kit.i64_sub (by rw [h8, j1]; omega) (by rw [h8, j1]; omega), h8, j1]
        rw [Kit.i32_of_i64 (by rw [h9]; omega) (by rw [h9]; omega), h9, hfd]
        by_cases hz : A = 0
        · rw [if_pos hz, if_pos ⟨rfl, hz⟩]; omega
        · rw [if_neg hz, if_neg (fun z => hz z.2)]; omega
      · rw [if_pos rfl]; decide
theorem own_mulpos {a b k : Int} (hk : 0 < k) : a * k < b * k ↔ a < b := ⟨fun h => Int.lt_of_mul_lt_mul_right h (by omega), fun h => Int.mul_lt_mul_of_pos_right h hk⟩
theorem own_c {m k sd cx ax gx s X0 X1 : Int64} {d : Int32} {sp : Int64} {sc : Int32} {X' cc tc : Int64} {cl : Int32} (H : Ax m k sd cx ax gx s X0 X1 d) (W : Aw m k sd cx ax gx s X0 X1 d sp sc X' cc tc cl) (h : gx < s) : tc < sp ∧ ¬ (tc + sd) < sp ∧ (0 < s.toInt) ∧ tc.toInt = gx.toInt * k.toInt := by
  obtain ⟨m1, m2, k1, hsd, sd2, c1, c2, c3, c4, a1, a2, hd, g0, g1, g2, s1, s2, x0, x10, x11⟩ := H
  obtain ⟨-, -, -, -, -, -, -, -, hsp, ⟨T, ht, t1, t2, t3, t4⟩, -, -⟩ := W
  have hg : 1 ≤ gx.toInt := by
    rcases hd with rfl | rfl
    · have := g0 rfl; omega
    · by_cases hz : ax.toInt = 0
      · have := g1 rfl hz; omega
      · have := g2 rfl hz; omega
  rw [j_lt] at h
  have hT := t3 (by omega)
  subst hT
  have h9 : (tc + sd).toInt = (gx.toInt + m.toInt) * k.toInt := by
    have h8 : gx.toInt * k.toInt ≤ m.toInt * k.toInt := Int.mul_le_mul_of_nonneg_right t2 (by omega)
    have h7 : 0 ≤ gx.toInt * k.toInt := Int.mul_nonneg (by omega) (by omega)
    rw [Kit.i64_add (by rw [ht]; omega) (by rw [ht]; omega), ht, Int.add_mul, hsd]
  refine ⟨?_, ?_, by omega, ht⟩
  · rw [j_lt, ht, hsp]; exact (own_mulpos (by omega)).mpr h
  · rw [j_lt, h9, hsp]; intro z; have := (own_mulpos (by omega)).mp z; omega
theorem own_nc {m k sd cx ax gx s X0 X1 : Int64} {d : Int32} {sp : Int64} {sc : Int32} {X' cc tc : Int64} {cl : Int32} (H : Ax m k sd cx ax gx s X0 X1 d) (W : Aw m k sd cx ax gx s X0 X1 d sp sc X' cc tc cl) (h : ¬ gx < s) : ¬ tc < sp := by
  obtain ⟨m1, m2, k1, hsd, sd2, c1, c2, c3, c4, a1, a2, hd, g0, g1, g2, s1, s2, x0, x10, x11⟩ := H
  obtain ⟨-, -, -, -, -, -, -, -, hsp, ⟨T, ht, t1, t2, t3, t4⟩, -, -⟩ := W
  rw [j_lt] at h
  rw [j_lt, ht, hsp]; intro z
  have z' := (own_mulpos (by omega)).mp z
  have := t3 (by omega)
  omega
theorem own_bd {m k sd cx ax gx s X0 X1 : Int64} {d : Int32} {sp : Int64} {sc : Int32} {X' cc tc : Int64} {cl : Int32} (H : Ax m k sd cx ax gx s X0 X1 d) (W : Aw m k sd cx ax gx s X0 X1 d sp sc X' cc tc cl) : 0 ≤ tc.toInt ∧ tc.toInt < 2 ^ 61 ∧ 0 ≤ sp.toInt ∧ sp.toInt < 2 ^ 61 ∧ 0 ≤ s.toInt ∧ s.toInt < 2 ^ 22 ∧ 0 ≤ gx.toInt ∧ gx.toInt ≤ 2 ^ 20 := by
  obtain ⟨m1, m2, k1, hsd, sd2, c1, c2, c3, c4, a1, a2, hd, g0, g1, g2, s1, s2, x0, x10, x11⟩ := H
  obtain ⟨-, -, -, -, -, -, -, -, hsp, ⟨T, ht, t1, t2, t3, t4⟩, -, -⟩ := W
  have hg : 0 ≤ gx.toInt ∧ gx.toInt ≤ m.toInt := by
    rcases hd with rfl | rfl
    · have := g0 rfl; omega
    · by_cases hz : ax.toInt = 0
      · have := g1 rfl hz; omega
      · have := g2 rfl hz; omega
  have h8 : T * k.toInt ≤ m.toInt * k.toInt := Int.mul_le_mul_of_nonneg_right t2 (by omega)
  have h7 : 0 ≤ T * k.toInt := Int.mul_nonneg (by omega) (by omega)
  have h6 : s.toInt * k.toInt ≤ (2 * m.toInt) * k.toInt := Int.mul_le_mul_of_nonneg_right (by omega) (by omega)
  have h5 : 0 ≤ s.toInt * k.toInt := Int.mul_nonneg (by omega) (by omega)
  rw [Int.mul_assoc] at h6
  omega
theorem own_rearr (a b k : Int) : a * k * (b * k) = a * b * (k * k) := by
  rw [Int.mul_assoc, Int.mul_left_comm k b k, ← Int.mul_assoc]
theorem own_cps {m k sd cx ax gx s X0 X1 : Int64} {d : Int32} {sp : Int64} {sc : Int32} {X' cc tc : Int64} {cl : Int32} {cy ay gy t Y0 Y1 : Int64} {d' : Int32} {sq : Int64} {sr : Int32} {Y' cd tr : Int64} {rw' : Int32}
    (H : Ax m k sd cx ax gx s X0 X1 d) (W : Aw m k sd cx ax gx s X0 X1 d sp sc X' cc tc cl) (H' : Ax m k sd cy ay gy t Y0 Y1 d') (W' : Aw m k sd cy ay gy t Y0 Y1 d' sq sr Y' cd tr rw') (h : gx < s) (h' : gy < t) :
    ((gx * t) < (gy * s) → cpJ tc sq tr sp = -1) ∧ (¬ (gx * t) < (gy * s) → ¬ (gy * s) < (gx * t) → cpJ tc sq tr sp = 0) ∧ ((gy * s) < (gx * t) → cpJ tc sq tr sp = 1) := by
  obtain ⟨b1, b2, b3, b4, b5, b6, b7, b8⟩ := own_bd H W
  obtain ⟨b1', b2', b3', b4', b5', b6', b7', b8'⟩ := own_bd H' W'
  have e1 := (own_c H W h).2.2.2
  have e2 := (own_c H' W' h').2.2.2
  have e3 : sp.toInt = s.toInt * k.toInt := W.2.2.2.2.2.2.2.2.1
  have e4 : sq.toInt = t.toInt * k.toInt := W'.2.2.2.2.2.2.2.2.1
  have hk : 1 ≤ k.toInt := H.2.2.1
  have hkk : 0 < k.toInt * k.toInt := Int.mul_pos (by omega) (by omega)
  have P1 : (gx * t).toInt = gx.toInt * t.toInt := by
    have := mul_b b7 b5' b8 (show t.toInt ≤ 2 ^ 22 by omega)
    exact Kit.i64_mul (by omega) (by omega)
  have P2 : (gy * s).toInt = gy.toInt * s.toInt := by
    have := mul_b b7' b5 b8' (show s.toInt ≤ 2 ^ 22 by omega)
    exact Kit.i64_mul (by omega) (by omega)
  have C := j_cp (x := tc) (y := sq) (z := tr) (w := sp) b1 b2 b3' b4' b1' b2' b3 b4
  rw [e1, e2, e3, e4, own_rearr, own_rearr] at C
  simp only [j_lt, P1, P2]
  refine ⟨fun z => C.1 ((own_mulpos hkk).mpr z), fun z z' => C.2.1 (by rw [show gx.toInt * t.toInt = gy.toInt * s.toInt by omega]), fun z => C.2.2 ((own_mulpos hkk).mpr z)⟩
/-- the column the walk is in, and the one across the line -/
theorem own_col {m k sd cx ax gx s X0 X1 : Int64} {d : Int32} {sp : Int64} {sc : Int32} {X' cc tc : Int64} {cl : Int32} {wc : Int64} (H : Ax m k sd cx ax gx s X0 X1 d) (W : Aw m k sd cx ax gx s X0 X1 d sp sc X' cc tc cl) (hwc : wc = (if d = (0 : Int32) then cx else (if ax = (0 : Int64) then (cx - (1 : Int64)) else cx))) (hp : ¬ (s = 0 ∧ ax = 0)) : cl.toInt64 = wc ∧ -2147483647 ≤ cl.toInt ∧ cl.toInt ≤ 2147483646 := by
  obtain ⟨m1, m2, k1, hsd, sd2, c1, c2, c3, c4, a1, a2, hd, g0, g1, g2, s1, s2, x0, x10, x11⟩ := H
  have h := W.2.2.2.2.2.2.2.2.2.2.1 (by
    by_cases q : s.toInt = 0
    · refine Or.inr (fun z => hp ⟨j_eq.mpr (by rw [q, j0]), j_eq.mpr (by rw [z, j0])⟩)
    · exact Or.inl (by omega))
  have n1 : ¬ (0 : Int32) = 1 := by decide
  have n2 : ¬ (1 : Int32) = 0 := by decide
  rw [j_eq, Kit.i64_of_i32, h, hwc]
  rcases hd with rfl | rfl
  · rw [if_pos rfl, if_neg (fun z => n1 z.1)]; omega
  · rw [if_neg n2]
    by_cases q : ax.toInt = 0
    · rw [if_pos ⟨rfl, q⟩, if_pos (j_eq.mpr (by rw [q, j0])), Kit.i64_sub (by rw [j1]; omega) (by rw [j1]; omega), j1]; omega
    · rw [if_neg (fun z => q z.2), if_neg (fun z => q (by rw [z, j0]))]; omega
theorem own_colS {m k sd cx ax gx s X0 X1 : Int64} {d : Int32} {sp : Int64} {sc : Int32} {X' cc tc : Int64} {cl : Int32} {wc dx : Int64} (H : Ax m k sd cx ax gx s X0 X1 d) (W : Aw m k sd cx ax gx s X0 X1 d sp sc X' cc tc cl) (hwc : wc = (if d = (0 : Int32) then cx else (if ax = (0 : Int64) then (cx - (1 : Int64)) else cx))) (hdx : dx = (if d = (0 : Int32) then (1 : Int64) else (-1 : Int64))) (h : gx < s) : (cl + sc).toInt64 = wc + dx := by
  have hs := (own_c H W h).2.2.1
  obtain ⟨e, l1, l2⟩ := own_col H W hwc (fun z => by rw [z.1, j0] at hs; omega)
  have h2 := W.2.2.2.2.2.2.2.2.2.2.2 hs
  have hd := H.2.2.2.2.2.2.2.2.2.2.2.1
  have n1 : ¬ (0 : Int32) = 1 := by decide
  have n2 : ¬ (1 : Int32) = 0 := by decide
  have hw : wc.toInt = cl.toInt := by rw [← e, Kit.i64_of_i32]
  have hsc : sc.toInt = dx.toInt ∧ (dx.toInt = 1 ∨ dx.toInt = -1) := by
    rcases hd with rfl | rfl
    · rw [h2, if_neg n1, hdx, if_pos rfl]; decide
    · rw [h2, if_pos rfl, hdx, if_neg n2]; decide
  rw [j_eq, Kit.i64_of_i32, Kit.i32_add (by omega) (by omega), Kit.i64_add (by omega) (by omega)]; omega
/-- whether the walk passes -/
theorem own_pass {m k sd cx ax gx s X0 X1 : Int64} {d : Int32} {sp : Int64} {sc : Int32} {X' cc tc : Int64} {cl : Int32} (H : Ax m k sd cx ax gx s X0 X1 d) (W : Aw m k sd cx ax gx s X0 X1 d sp sc X' cc tc cl) : (sp = 0 ∧ tc = sd) ↔ (s = 0 ∧ ax = 0) := by
  obtain ⟨m1, m2, k1, hsd, sd2, c1, c2, c3, c4, a1, a2, hd, g0, g1, g2, s1, s2, x0, x10, x11⟩ := H
  obtain ⟨-, -, -, -, -, -, -, -, hsp, ⟨T, ht, t1, t2, t3, t4⟩, -, -⟩ := W
  simp only [j_eq, j0]
  rw [hsp, ht, hsd]
  have hk : k.toInt ≠ 0 := by omega
  constructor
  · rintro ⟨z1, z2⟩
    have e1 : s.toInt = 0 := (Int.mul_eq_zero.mp z1).resolve_right hk
    have e2 : T = m.toInt := Int.eq_of_mul_eq_mul_right hk z2
    have := t4 e1
    exact ⟨e1, by omega⟩
  · rintro ⟨z1, z2⟩
    have := t4 z1
    exact ⟨by rw [z1, Int.zero_mul], by rw [show T = m.toInt by omega]⟩
theorem own_passJ {s a t b : Int64} {pv : Int32} (hpv : pv = (if s = (0 : Int64) then (if a = (0 : Int64) then (0 : Int32) else (if t = (0 : Int64) then (if b = (0 : Int64) then (0 : Int32) else (1 : Int32)) else (1 : Int32))) else (if t = (0 : Int64) then (if b = (0 : Int64) then (0 : Int32) else (1 : Int32)) else (1 : Int32)))) : (pv = 0 ∧ ((s = 0 ∧ a = 0) ∨ (t = 0 ∧ b = 0))) ∨ (pv = 1 ∧ ¬ (s = 0 ∧ a = 0) ∧ ¬ (t = 0 ∧ b = 0)) := by
  by_cases h1 : s = 0 <;> by_cases h2 : a = 0 <;> by_cases h3 : t = 0 <;> by_cases h4 : b = 0 <;> simp [h1, h2, h3, h4] at hpv ⊢ <;> exact hpv
theorem q_nz {x : Int64} (h : 0 < x.toInt) : ¬ x = 0 := fun z => by rw [z, j0] at h; omega
theorem q_m {q vm : Int64} (h : ((1 : Int64) + (q &&& (1048575 : Int64))) = vm) : 1 ≤ vm.toInt ∧ vm.toInt ≤ 2 ^ 20 := by
  have e : (q &&& (1048575 : Int64)).toInt = q.toInt % 2 ^ 20 := Kit.i64_mask q _ (by decide) (by decide)
  rw [← h, Kit.i64_add (by rw [e, j1]; omega) (by rw [e, j1]; omega), e, j1]; omega
theorem q_div {x y r : Int64} (h : x / y = r) (hx : 0 ≤ x.toInt) (hy : 0 < y.toInt) : r.toInt = x.toInt / y.toInt := by
  rw [← h, Kit.i64_div (fun z => by omega), Int.tdiv_eq_ediv_of_nonneg hx]
theorem q_kx {vm kx : Int64} (h : ((576460752303423488 : Int64) / vm) = kx) (B : 1 ≤ vm.toInt ∧ vm.toInt ≤ 2 ^ 20) : 1 ≤ kx.toInt ∧ kx.toInt * vm.toInt ≤ 2 ^ 59 ∧ kx.toInt ≤ 2 ^ 59 := by
  have e := q_div h (by decide) (by omega)
  have e5 : (576460752303423488 : Int64).toInt = 2 ^ 59 := by decide
  rw [e5] at e
  have h1 : 1 ≤ kx.toInt := by rw [e]; exact Int.le_ediv_of_mul_le (by omega) (by omega)
  have h2 : kx.toInt * vm.toInt ≤ 2 ^ 59 := by rw [e]; exact Int.ediv_mul_le _ (by omega)
  refine ⟨h1, h2, ?_⟩
  rw [e]; exact Int.ediv_le_self _ (by decide)
theorem q_k {q kx vk : Int64} (h : ((1 : Int64) + (modJ q kx)) = vk) (hk : 1 ≤ kx.toInt) (hk2 : kx.toInt ≤ 2 ^ 59) : 1 ≤ vk.toInt ∧ vk.toInt ≤ kx.toInt := by
  have m := j_mod (a := q) (n := kx) (by omega)
  rw [← h, Kit.i64_add (by rw [j1]; omega) (by rw [j1]; omega), j1]; omega
theorem q_sd {vm vk sd kx : Int64} (h : (vk * vm) = sd) (m1 : 1 ≤ vm.toInt) (k1 : 1 ≤ vk.toInt) (k2 : vk.toInt ≤ kx.toInt) (b : kx.toInt * vm.toInt ≤ 2 ^ 59) : sd.toInt = vm.toInt * vk.toInt ∧ 1 ≤ sd.toInt ∧ sd.toInt ≤ 2 ^ 59 := by
  have h1 : vk.toInt * vm.toInt ≤ kx.toInt * vm.toInt := Int.mul_le_mul_of_nonneg_right k2 (by omega)
  have h2 : 0 < vk.toInt * vm.toInt := Int.mul_pos (by omega) (by omega)
  have e : sd.toInt = vk.toInt * vm.toInt := by rw [← h, Kit.i64_mul (by omega) (by omega)]
  rw [Int.mul_comm vm.toInt]; omega
theorem q_q {sd vq : Int64} (h : ((2305843009213693952 : Int64) / sd) = vq) (B : 1 ≤ sd.toInt ∧ sd.toInt ≤ 2 ^ 59) : 4 ≤ vq.toInt ∧ vq.toInt * sd.toInt ≤ 2 ^ 61 ∧ vq.toInt ≤ 2 ^ 61 := by
  have e := q_div h (by decide) (by omega)
  have e5 : (2305843009213693952 : Int64).toInt = 2 ^ 61 := by decide
  rw [e5] at e
  have h1 : 4 ≤ vq.toInt := by rw [e]; exact Int.le_ediv_of_mul_le (by omega) (by omega)
  have h2 : vq.toInt * sd.toInt ≤ 2 ^ 61 := by rw [e]; exact Int.ediv_mul_le _ (by omega)
  refine ⟨h1, h2, ?_⟩
  rw [e]; exact Int.ediv_le_self _ (by decide)
theorem q_lo {vq lo : Int64} (h : mxJ ((2 : Int64) - vq) (-2147483646 : Int64) = lo) (b : 4 ≤ vq.toInt) (b2 : vq.toInt ≤ 2 ^ 61) : 2 - vq.toInt ≤ lo.toInt ∧ -2147483646 ≤ lo.toInt ∧ lo.toInt ≤ -2 := by
  have e0 : (2 : Int64).toInt = 2 := by decide
  have e : ((2 : Int64) - vq).toInt = 2 - vq.toInt := by rw [Kit.i64_sub (by rw [e0]; omega) (by rw [e0]; omega), e0]
  have e2 : (-2147483646 : Int64).toInt = -2147483646 := by decide
  rw [← h]; unfold mxJ
  by_cases z : ((2 : Int64) - vq) < (-2147483646 : Int64)
  · rw [if_pos z]; rw [j_lt, e, e2] at z; rw [e2]; omega
  · rw [if_neg z]; rw [j_lt, e, e2] at z; rw [e]; omega
theorem q_hi {vq hi : Int64} (h : mnJ (vq - (3 : Int64)) (2147483645 : Int64) = hi) (b : 4 ≤ vq.toInt) (b2 : vq.toInt ≤ 2 ^ 61) : hi.toInt ≤ vq.toInt - 3 ∧ hi.toInt ≤ 2147483645 ∧ 1 ≤ hi.toInt := by
  have e0 : (3 : Int64).toInt = 3 := by decide
  have e : (vq - (3 : Int64)).toInt = vq.toInt - 3 := by rw [Kit.i64_sub (by rw [e0]; omega) (by rw [e0]; omega), e0]
  have e2 : (2147483645 : Int64).toInt = 2147483645 := by decide
  rw [← h]; unfold mnJ
  by_cases z : (2147483645 : Int64) < (vq - (3 : Int64))
  · rw [if_pos z]; rw [j_lt, e, e2] at z; rw [e2]; omega
  · rw [if_neg z]; rw [j_lt, e, e2] at z; rw [e]; omega
theorem q_cn {lo hi cn : Int64} (h : ((hi - lo) + (1 : Int64)) = cn) (l1 : -2147483646 ≤ lo.toInt) (l2 : lo.toInt ≤ -2) (h1 : hi.toInt ≤ 2147483645) (h2 : 1 ≤ hi.toInt) : cn.toInt = hi.toInt - lo.toInt + 1 := by
  have e : (hi - lo).toInt = hi.toInt - lo.toInt := Kit.i64_sub (by omega) (by omega)
  rw [← h, Kit.i64_add (by rw [e, j1]; omega) (by rw [e, j1]; omega), e, j1]
theorem q_c {lo hi cn z cx : Int64} (h : (lo + (modJ z cn)) = cx) (e : cn.toInt = hi.toInt - lo.toInt + 1) (l1 : -2147483646 ≤ lo.toInt) (l2 : lo.toInt ≤ -2) (h1 : hi.toInt ≤ 2147483645) (h2 : 1 ≤ hi.toInt) : lo.toInt ≤ cx.toInt ∧ cx.toInt ≤ hi.toInt := by
  have m := j_mod (a := z) (n := cn) (by omega)
  rw [← h, Kit.i64_add (by omega) (by omega)]; omega
theorem q_rem {x y r : Int64} (h : (x - (x / y) * y) = r) (hx : 0 ≤ x.toInt) (hy : 0 < y.toInt) : 0 ≤ r.toInt ∧ r.toInt < y.toInt := by
  rw [← h, Kit.i64_rem_nonneg hx]; exact ⟨Int.emod_nonneg _ (by omega), Int.emod_lt_of_pos _ hy⟩
theorem q_msk (x : Int64) : 0 ≤ (x &&& (16777215 : Int64)).toInt := by
  have e : (x &&& (16777215 : Int64)).toInt = x.toInt % 2 ^ 24 := Kit.i64_mask x _ (by decide) (by decide)
  rw [e]; omega
theorem q_d {q : Int64} {d : Int32} (h : d = (if q < (0 : Int64) then (1 : Int32) else (0 : Int32))) : d = 0 ∨ d = 1 := by
  by_cases z : q < 0
  · rw [if_pos z] at h; exact Or.inr h
  · rw [if_neg z] at h; exact Or.inl h
theorem q_g {d : Int32} {ax vm gx : Int64} (h : gapJ d ax vm = gx) (hd : d = 0 ∨ d = 1) (Ba : 0 ≤ ax.toInt ∧ ax.toInt < vm.toInt) (Bm : 1 ≤ vm.toInt ∧ vm.toInt ≤ 2 ^ 20) : (d = 0 → gx.toInt = vm.toInt - ax.toInt) ∧ (d = 1 → ax.toInt = 0 → gx.toInt = vm.toInt) ∧ (d = 1 → ax.toInt ≠ 0 → gx.toInt = ax.toInt) ∧ 1 ≤ gx.toInt ∧ gx.toInt ≤ vm.toInt := by
  have n1 : ¬ (0 : Int32) = 1 := by decide
  have n2 : ¬ (1 : Int32) = 0 := by decide
  rw [← h]; unfold gapJ
  rcases hd with rfl | rfl
  · rw [if_pos rfl, Kit.i64_sub (by omega) (by omega)]
    exact ⟨fun _ => rfl, fun z => absurd z n1, fun z => absurd z n1, by omega, by omega⟩
  · rw [if_neg n2]
    by_cases z : ax = 0
    · rw [if_pos z]; rw [j_eq, j0] at z
      exact ⟨fun z => absurd z n2, fun _ _ => rfl, fun _ y => absurd z y, by omega, by omega⟩
    · rw [if_neg z]; rw [j_eq, j0] at z
      exact ⟨fun z => absurd z n2, fun _ y => absurd y z, fun _ _ => rfl, by omega, by omega⟩
theorem q_gs {gx vm : Int64} (g1 : 1 ≤ gx.toInt) (g2 : gx.toInt ≤ vm.toInt) (Bm : 1 ≤ vm.toInt ∧ vm.toInt ≤ 2 ^ 20) : (gx + vm).toInt = gx.toInt + vm.toInt := Kit.i64_add (by omega) (by omega)
theorem q_axis {vm vk sd vq lo hi cx ax gx vs xa xb : Int64} {d : Int32} (Bm : 1 ≤ vm.toInt ∧ vm.toInt ≤ 2 ^ 20) (Bk : 1 ≤ vk.toInt) (Bs : sd.toInt = vm.toInt * vk.toInt ∧ 1 ≤ sd.toInt ∧ sd.toInt ≤ 2 ^ 59) (Bq : 4 ≤ vq.toInt ∧ vq.toInt * sd.toInt ≤ 2 ^ 61 ∧ vq.toInt ≤ 2 ^ 61) (Bl : 2 - vq.toInt ≤ lo.toInt ∧ -2147483646 ≤ lo.toInt ∧ lo.toInt ≤ -2) (Bh : hi.toInt ≤ vq.toInt - 3 ∧ hi.toInt ≤ 2147483645 ∧ 1 ≤ hi.toInt) (Bc : lo.toInt ≤ cx.toInt ∧ cx.toInt ≤ hi.toInt) (Ba : 0 ≤ ax.toInt ∧ ax.toInt < vm.toInt) (hd : d = 0 ∨ d = 1)
    (Bg : (d = 0 → gx.toInt = vm.toInt - ax.toInt) ∧ (d = 1 → ax.toInt = 0 → gx.toInt = vm.toInt) ∧ (d = 1 → ax.toInt ≠ 0 → gx.toInt = ax.toInt) ∧ 1 ≤ gx.toInt ∧ gx.toInt ≤ vm.toInt) (Bv : 0 ≤ vs.toInt ∧ vs.toInt < (gx + vm).toInt) (h0 : ((cx * sd) + (ax * vk)) = xa) (h1 : xb = (if d = (0 : Int32) then (xa + (vs * vk)) else (xa - (vs * vk)))) : Ax vm vk sd cx ax gx vs xa xb d := by
  obtain ⟨g0, g1, g2, g3, g4⟩ := Bg
  rw [q_gs g3 g4 Bm] at Bv
  obtain ⟨s1, s2, s3⟩ := Bs
  have n1 : ¬ (0 : Int32) = 1 := by decide
  have n2 : ¬ (1 : Int32) = 0 := by decide
  have l1 : -2 ^ 61 ≤ (cx.toInt - 2) * sd.toInt := by
    have h9 := Int.mul_le_mul_of_nonneg_right (show -vq.toInt ≤ cx.toInt - 2 by omega) (show (0 : Int) ≤ sd.toInt by omega)
    rw [Int.neg_mul] at h9; omega
  have l2 : (cx.toInt + 3) * sd.toInt ≤ 2 ^ 61 := by
    have h9 := Int.mul_le_mul_of_nonneg_right (show cx.toInt + 3 ≤ vq.toInt by omega) (show (0 : Int) ≤ sd.toInt by omega)
    omega
  have e2 : (cx.toInt - 2) * sd.toInt = cx.toInt * sd.toInt - 2 * sd.toInt := by rw [Int.sub_mul]
  have e3 : (cx.toInt + 3) * sd.toInt = cx.toInt * sd.toInt + 3 * sd.toInt := by rw [Int.add_mul]
  have a1 : 0 ≤ ax.toInt * vk.toInt := Int.mul_nonneg Ba.1 (by omega)
  have a2 : ax.toInt * vk.toInt ≤ vm.toInt * vk.toInt := Int.mul_le_mul_of_nonneg_right (by omega) (by omega)
  have v1 : 0 ≤ vs.toInt * vk.toInt := Int.mul_nonneg Bv.1 (by omega)
  have v2 : vs.toInt * vk.toInt ≤ (2 * vm.toInt) * vk.toInt := Int.mul_le_mul_of_nonneg_right (by omega) (by omega)
  rw [Int.mul_assoc, ← s1] at v2
  rw [← s1] at a2
  have c1 : (cx * sd).toInt = cx.toInt * sd.toInt := Kit.i64_mul (by omega) (by omega)
  have c2 : (ax * vk).toInt = ax.toInt * vk.toInt := Kit.i64_mul (by omega) (by omega)
  have c3 : (vs * vk).toInt = vs.toInt * vk.toInt := Kit.i64_mul (by omega) (by omega)
  have x0 : xa.toInt = cx.toInt * sd.toInt + ax.toInt * vk.toInt := by rw [← h0, Kit.i64_add (by omega) (by omega), c1, c2]
  have x0' : xa.toInt = (cx.toInt * vm.toInt + ax.toInt) * vk.toInt := by rw [x0, Int.add_mul, Int.mul_assoc, ← s1]
  refine ⟨Bm.1, Bm.2, Bk, s1, s3, by omega, by omega, l1, l2, Ba.1, Ba.2, hd, g0, g1, g2, Bv.1, Bv.2, x0', ?_, ?_⟩
  · rintro rfl
    rw [h1, if_pos rfl, Kit.i64_add (by omega) (by omega), c3, x0', ← Int.add_mul]
  · rintro rfl
    rw [h1, if_neg n2, Kit.i64_sub (by omega) (by omega), c3, x0', ← Int.sub_mul]
theorem own_hps {A B A' B' : Prop} {pv : Int32} (ha : A ↔ A') (hb : B ↔ B') (h : (pv = 0 ∧ (A' ∨ B')) ∨ (pv = 1 ∧ ¬ A' ∧ ¬ B')) : (pv = 0 ∧ (A ∨ B)) ∨ (pv = 1 ∧ ¬ A ∧ ¬ B) := by rw [ha, hb]; exact h
theorem own_p01 {A B : Prop} {pv : Int32} (h : (pv = 0 ∧ (A ∨ B)) ∨ (pv = 1 ∧ ¬ A ∧ ¬ B)) : pv = 0 ∨ pv = 1 := h.elim (fun z => Or.inl z.1) (fun z => Or.inr z.1)
theorem own_p1 {A B : Prop} {pv : Int32} (h : (pv = 0 ∧ (A ∨ B)) ∨ (pv = 1 ∧ ¬ A ∧ ¬ B)) (n : ¬ pv = 0) : pv = 1 ∧ ¬ A ∧ ¬ B := h.elim (fun z => absurd z.1 n) id
theorem own_b0 {P : Prop} [Decidable P] {b : Int32} (h : b = (if P then (1 : Int32) else (0 : Int32))) (z : b = 0) : ¬ P := fun p => by rw [if_pos p] at h; rw [h] at z; exact absurd z (by decide)
theorem own_b1 {P : Prop} [Decidable P] {b : Int32} (h : b = (if P then (1 : Int32) else (0 : Int32))) (z : ¬ b = 0) : P := Decidable.byContradiction fun p => z (by rw [h, if_neg p])
theorem pd_5 : parseMethodDescriptor "(ZJJ)J" = some ⟨[.boolean, .long, .long], some .long⟩ := by decide +kernel
theorem pd_6 : parseMethodDescriptor "(JJJJJ)V" = some ⟨[.long, .long, .long, .long, .long], none⟩ := by decide +kernel
theorem pd_7 : parseMethodDescriptor "()Z" = some ⟨[], some .boolean⟩ := by decide +kernel
theorem pd_8 : parseMethodDescriptor "()I" = some ⟨[], some .int⟩ := by decide +kernel
theorem ef_0 (m : MethodId) (q0 : Int64) (q1 : Int64) (p2 : Int32) (p3 : Int32) (q4 : Int64) (q5 : Int64) : entryFrame m #[(.long q0), (.long q1), (.int p2), (.int p3), (.long q4), (.long q5)] maxLocals = mkF m 0 #[.val (.long q0), .second, .val (.long q1), .second, .val (.int p2), .val (.int p3), .val (.long q4), .second, .val (.long q5), .second, .unset, .unset, .unset, .unset, .unset, .unset, .unset, .unset, .unset, .unset, .unset, .unset, .unset, .unset, .unset, .unset, .unset, .unset, .unset, .unset, .unset, .unset, .unset, .unset, .unset, .unset, .unset, .unset, .unset, .unset, .unset, .unset, .unset, .unset, .unset, .unset, .unset, .unset, .unset, .unset, .unset, .unset, .unset, .unset, .unset, .unset, .unset, .unset, .unset, .unset, .unset, .unset, .unset, .unset, .unset, .unset, .unset, .unset, .unset, .unset, .unset, .unset, .unset, .unset, .unset, .unset, .unset, .unset, .unset, .unset, .unset, .unset, .unset, .unset, .unset, .unset, .unset, .unset, .unset, .unset] [] := by first | (simp [entryFrame, mkF, argsToLocals, Value.category, maxLocals]; done) | rfl
def Q0 (n0 : Nat) (v : Option Value) (h : Heap) (L : List Loc) : Prop := v = some (.int 1) ∧ Fr n0 L
set_option maxRecDepth 65536 in
set_option maxHeartbeats 40000000 in
theorem rm0 (l : Launch) (Z : State) (aw : Array Value) (hw : ∀ d ∈ tables_1, d.before aw Z = true) (ws : List Jvm.Cond) (q0 : Int64) (q1 : Int64) (p2 : Int32) (p3 : Int32) (q4 : Int64) (q5 : Int64) (h0 : Heap) (n0 : Nat) (Z0 : n0 ≤ h0.size) :
    MetFree l x (head1 (Jvm.Cond.code x code maxLocals ret :: ws) room_1) (fun a U => a = #[(.long q0), (.long q1), (.int p2), (.int p3), (.long q4), (.long q5)] ∧ Z.Warmed39 U.vm ∧ U.heap = h0) (fun _ _ _ _ _ => True) (fun _ U o U' => ∃ v L, o = .returned v ∧ Q0 n0 v U'.heap L ∧ FrameEnd U o U' L 16 128) := by
  refine MetFree.of_bodySF (plainFor_of_name pn_0) hisR ?_
  intro p e s m args below meth c s₁ Bd hml0 hP _hKK
  obtain ⟨rfl, hZ, hh⟩ := hP
  have hx := Bd.exec
  have hby := Bd.bytes
  have hml : c.maxLocals = 90 := hml0
  have hown : s.vm.findClass "com/example/sarutahiko/sarutahiko/lattice/SegmentWalkNextPinLaw" = some m.cls := findClass_of_methodNamed Bd.named
  have hnm := (name_of_methodNamed Bd.named Bd.method).1
  have X0 : Stand p l e room_1 s m #[(.long q0), (.long q1), (.int p2), (.int p3), (.long q4), (.long q5)] below meth c s₁ [] 0 0 := Stand.of_body Bd
  have e0 : s₁.heap = h0 := by rw [← hh, Bd.state]; rfl
  refine Ow.enter (Q := Q0 n0) (ef_0 m q0 q1 p2 p3 q4 q5) ?_
  show Ow p e below s _ _ _ (s₁.setTop (mkF m 0 #[.val (.long q0), .second, .val (.long q1), .second, .val (.int p2), .val (.int p3), .val (.long q4), .second, .val (.long q5), .second, .unset, .unset, .unset, .unset, .unset, .unset, .unset, .unset, .unset, .unset, .unset, .unset, .unset, .unset, .unset, .unset, .unset, .unset, .unset, .unset, .unset, .unset, .unset, .unset, .unset, .unset, .unset, .unset, .unset, .unset, .unset, .unset, .unset, .unset, .unset, .unset, .unset, .unset, .unset, .unset, .unset, .unset, .unset, .unset, .unset, .unset, .unset, .unset, .unset, .unset, .unset, .unset, .unset, .unset, .unset, .unset, .unset, .unset, .unset, .unset, .unset, .unset, .unset, .unset, .unset, .unset, .unset, .unset, .unset, .unset, .unset, .unset, .unset, .unset, .unset, .unset, .unset, .unset, .unset, .unset] []))
  refine w_lconst X0 hx (1 : Int64) (Jvm.hb hby at_0) (by decide) (pc' := 1) rfl ?_
  refine w_lloadN X0 hx (Jvm.hb hby at_1) rfl (pc' := 2) rfl ?_
  refine w_ldc2J X0 hx hZ hown (hw _ (List.mem_of_getElem? (i := 0) rfl)) (Jvm.hb hby at_2) (pc' := 5) rfl ?_
  refine w_land X0 hx (Jvm.hb hby at_5) (pc' := 6) rfl ?_
  refine w_ladd X0 hx (Jvm.hb hby at_6) (pc' := 7) rfl ?_
  generalize hvm : ((1 : Int64) + (q0 &&& (1048575 : Int64))) = vm
  show Ow p e below s _ _ _ (s₁.setTop (mkF m 7 #[.val (.long q0), .second, .val (.long q1), .second, .val (.int p2), .val (.int p3), .val (.long q4), .second, .val (.long q5), .second, .unset, .unset, .unset, .unset, .unset, .unset, .unset, .unset, .unset, .unset, .unset, .unset, .unset, .unset, .unset, .unset, .unset, .unset, .unset, .unset, .unset, .unset, .unset, .unset, .unset, .unset, .unset, .unset, .unset, .unset, .unset, .unset, .unset, .unset, .unset, .unset, .unset, .unset, .unset, .unset, .unset, .unset, .unset, .unset, .unset, .unset, .unset, .unset, .unset, .unset, .unset, .unset, .unset, .unset, .unset, .unset, .unset, .unset, .unset, .unset, .unset, .unset, .unset, .unset, .unset, .unset, .unset, .unset, .unset, .unset, .unset, .unset, .unset, .unset, .unset, .unset, .unset, .unset, .unset, .unset] [(.long vm)]))
  have Bm := q_m hvm
  refine w_lstore X0 hx (Jvm.hb hby at_7) #[.val (.long q0), .second, .val (.long q1), .second, .val (.int p2), .val (.int p3), .val (.long q4), .second, .val (.long q5), .second, .val (.long vm), .second, .unset, .unset, .unset, .unset, .unset, .unset, .unset, .unset, .unset, .unset, .unset, .unset, .unset, .unset, .unset, .unset, .unset, .unset, .unset, .unset, .unset, .unset, .unset, .unset, .unset, .unset, .unset, .unset, .unset, .unset, .unset, .unset, .unset, .unset, .unset, .unset, .unset, .unset, .unset, .unset, .unset, .unset, .unset, .unset, .unset, .unset, .unset, .unset, .unset, .unset, .unset, .unset, .unset, .unset, .unset, .unset, .unset, .unset, .unset, .unset, .unset, .unset, .unset, .unset, .unset, .unset, .unset, .unset, .unset, .unset, .unset, .unset, .unset, .unset, .unset, .unset, .unset, .unset] rfl  (pc' := 9) rfl ?_
  refine w_ldc2J X0 hx hZ hown (hw _ (List.mem_of_getElem? (i := 1) rfl)) (Jvm.hb hby at_9) (pc' := 12) rfl ?_
  refine w_lload X0 hx (Jvm.hb hby at_12) rfl (pc' := 14) rfl ?_
  refine w_ldiv X0 hx (Jvm.hb hby at_14) (q_nz (by have := Bm.1; omega)) (pc' := 15) rfl ?_
  generalize hkx : ((576460752303423488 : Int64) / vm) = kx
  show Ow p e below s _ _ _ (s₁.setTop (mkF m 15 #[.val (.long q0), .second, .val (.long q1), .second, .val (.int p2), .val (.int p3), .val (.long q4), .second, .val (.long q5), .second, .val (.long vm), .second, .unset, .unset, .unset, .unset, .unset, .unset, .unset, .unset, .unset, .unset, .unset, .unset, .unset, .unset, .unset, .unset, .unset, .unset, .unset, .unset, .unset, .unset, .unset, .unset, .unset, .unset, .unset, .unset, .unset, .unset, .unset, .unset, .unset, .unset, .unset, .unset, .unset, .unset, .unset, .unset, .unset, .unset, .unset, .unset, .unset, .unset, .unset, .unset, .unset, .unset, .unset, .unset, .unset, .unset, .unset, .unset, .unset, .unset, .unset, .unset, .unset, .unset, .unset, .unset, .unset, .unset, .unset, .unset, .unset, .unset, .unset, .unset, .unset, .unset, .unset, .unset, .unset, .unset] [(.long kx)]))
  have Bkx := q_kx hkx Bm
  refine w_lstore X0 hx (Jvm.hb hby at_15) #[.val (.long q0), .second, .val (.long q1), .second, .val (.int p2), .val (.int p3), .val (.long q4), .second, .val (.long q5), .second, .val (.long vm), .second, .val (.long kx), .second, .unset, .unset, .unset, .unset, .unset, .unset, .unset, .unset, .unset, .unset, .unset, .unset, .unset, .unset, .unset, .unset, .unset, .unset, .unset, .unset, .unset, .unset, .unset, .unset, .unset, .unset, .unset, .unset, .unset, .unset, .unset, .unset, .unset, .unset, .unset, .unset, .unset, .unset, .unset, .unset, .unset, .unset, .unset, .unset, .unset, .unset, .unset, .unset, .unset, .unset, .unset, .unset, .unset, .unset, .unset, .unset, .unset, .unset, .unset, .unset, .unset, .unset, .unset, .unset, .unset, .unset, .unset, .unset, .unset, .unset, .unset, .unset, .unset, .unset, .unset, .unset] rfl  (pc' := 17) rfl ?_
  refine w_lconst X0 hx (1 : Int64) (Jvm.hb hby at_17) (by decide) (pc' := 18) rfl ?_
  refine w_lloadN X0 hx (Jvm.hb hby at_18) rfl (pc' := 19) rfl ?_
  refine w_lload X0 hx (Jvm.hb hby at_19) rfl (pc' := 21) rfl ?_
  refine w_callS X0 hx hZ hown (hw _ (List.mem_of_getElem? (i := 2) rfl)) (hw _ (List.mem_of_getElem? (i := 3) rfl)) (hw _ (List.mem_of_getElem? (i := 4) rfl)) (hw _ (List.mem_of_getElem? (i := 5) rfl)) (by decide) (W := 2) (rm1 l Z aw hw [] q1 kx h0 (q_nz (by have := Bkx.1; omega))) e0 (by decide) (by decide) (by decide) (by decide) (Jvm.hb hby at_21) (by rw [hml]; rfl) (argsL := [(.long q1), (.long kx)]) (rest := [(.long (1 : Int64))]) pd_1 rfl rfl rfl (Nat.le_of_eq rfl) (pc' := 24) rfl ?_
  rintro _ T168 L168 X168 ⟨rfl, e168, rfl⟩
  show Ow p e below s _ _ _ (T168.setTop (mkF m 24 #[.val (.long q0), .second, .val (.long q1), .second, .val (.int p2), .val (.int p3), .val (.long q4), .second, .val (.long q5), .second, .val (.long vm), .second, .val (.long kx), .second, .unset, .unset, .unset, .unset, .unset, .unset, .unset, .unset, .unset, .unset, .unset, .unset, .unset, .unset, .unset, .unset, .unset, .unset, .unset, .unset, .unset, .unset, .unset, .unset, .unset, .unset, .unset, .unset, .unset, .unset, .unset, .unset, .unset, .unset, .unset, .unset, .unset, .unset, .unset, .unset, .unset, .unset, .unset, .unset, .unset, .unset, .unset, .unset, .unset, .unset, .unset, .unset, .unset, .unset, .unset, .unset, .unset, .unset, .unset, .unset, .unset, .unset, .unset, .unset, .unset, .unset, .unset, .unset, .unset, .unset, .unset, .unset, .unset, .unset, .unset, .unset] [(.long (modJ q1 kx)), (.long (1 : Int64))]))
  refine w_ladd X168 hx (Jvm.hb hby at_24) (pc' := 25) rfl ?_
  generalize hvk : ((1 : Int64) + (modJ q1 kx)) = vk
  show Ow p e below s _ _ _ (T168.setTop (mkF m 25 #[.val (.long q0), .second, .val (.long q1), .second, .val (.int p2), .val (.int p3), .val (.long q4), .second, .val (.long q5), .second, .val (.long vm), .second, .val (.long kx), .second, .unset, .unset, .unset, .unset, .unset, .unset, .unset, .unset, .unset, .unset, .unset, .unset, .unset, .unset, .unset, .unset, .unset, .unset, .unset, .unset, .unset, .unset, .unset, .unset, .unset, .unset, .unset, .unset, .unset, .unset, .unset, .unset, .unset, .unset, .unset, .unset, .unset, .unset, .unset, .unset, .unset, .unset, .unset, .unset, .unset, .unset, .unset, .unset, .unset, .unset, .unset, .unset, .unset, .unset, .unset, .unset, .unset, .unset, .unset, .unset, .unset, .unset, .unset, .unset, .unset, .unset, .unset, .unset, .unset, .unset, .unset, .unset, .unset, .unset, .unset, .unset] [(.long vk)]))
  have Bk := q_k hvk Bkx.1 Bkx.2.2
  refine w_lstore X168 hx (Jvm.hb hby at_25) #[.val (.long q0), .second, .val (.long q1), .second, .val (.int p2), .val (.int p3), .val (.long q4), .second, .val (.long q5), .second, .val (.long vm), .second, .val (.long kx), .second, .val (.long vk), .second, .unset, .unset, .unset, .unset, .unset, .unset, .unset, .unset, .unset, .unset, .unset, .unset, .unset, .unset, .unset, .unset, .unset, .unset, .unset, .unset, .unset, .unset, .unset, .unset, .unset, .unset, .unset, .unset, .unset, .unset, .unset, .unset, .unset, .unset, .unset, .unset, .unset, .unset, .unset, .unset, .unset, .unset, .unset, .unset, .unset, .unset, .unset, .unset, .unset, .unset, .unset, .unset, .unset, .unset, .unset, .unset, .unset, .unset, .unset, .unset, .unset, .unset, .unset, .unset, .unset, .unset, .unset, .unset, .unset, .unset, .unset, .unset, .unset, .unset] rfl  (pc' := 27) rfl ?_
  refine w_lload X168 hx (Jvm.hb hby at_27) rfl (pc' := 29) rfl ?_
  refine w_lload X168 hx (Jvm.hb hby at_29) rfl (pc' := 31) rfl ?_
  refine w_lmul X168 hx (Jvm.hb hby at_31) (pc' := 32) rfl ?_
  generalize hsd : (vk * vm) = sd
  show Ow p e below s _ _ _ (T168.setTop (mkF m 32 #[.val (.long q0), .second, .val (.long q1), .second, .val (.int p2), .val (.int p3), .val (.long q4), .second, .val (.long q5), .second, .val (.long vm), .second, .val (.long kx), .second, .val (.long vk), .second, .unset, .unset, .unset, .unset, .unset, .unset, .unset, .unset, .unset, .unset, .unset, .unset, .unset, .unset, .unset, .unset, .unset, .unset, .unset, .unset, .unset, .unset, .unset, .unset, .unset, .unset, .unset, .unset, .unset, .unset, .unset, .unset, .unset, .unset, .unset, .unset, .unset, .unset, .unset, .unset, .unset, .unset, .unset, .unset, .unset, .unset, .unset, .unset, .unset, .unset, .unset, .unset, .unset, .unset, .unset, .unset, .unset, .unset, .unset, .unset, .unset, .unset, .unset, .unset, .unset, .unset, .unset, .unset, .unset, .unset, .unset, .unset, .unset, .unset] [(.long sd)]))
  have Bs := q_sd hsd Bm.1 Bk.1 Bk.2 Bkx.2.1
  refine w_lstore X168 hx (Jvm.hb hby at_32) #[.val (.long q0), .second, .val (.long q1), .second, .val (.int p2), .val (.int p3), .val (.long q4), .second, .val (.long q5), .second, .val (.long vm), .second, .val (.long kx), .second, .val (.long vk), .second, .val (.long sd), .second, .unset, .unset, .unset, .unset, .unset, .unset, .unset, .unset, .unset, .unset, .unset, .unset, .unset, .unset, .unset, .unset, .unset, .unset, .unset, .unset, .unset, .unset, .unset, .unset, .unset, .unset, .unset, .unset, .unset, .unset, .unset, .unset, .unset, .unset, .unset, .unset, .unset, .unset, .unset, .unset, .unset, .unset, .unset, .unset, .unset, .unset, .unset, .unset, .unset, .unset, .unset, .unset, .unset, .unset, .unset, .unset, .unset, .unset, .unset, .unset, .unset, .unset, .unset, .unset, .unset, .unset, .unset, .unset, .unset, .unset, .unset, .unset] rfl  (pc' := 34) rfl ?_
  refine w_ldc2J X168 hx hZ hown (hw _ (List.mem_of_getElem? (i := 6) rfl)) (Jvm.hb hby at_34) (pc' := 37) rfl ?_
  refine w_lload X168 hx (Jvm.hb hby at_37) rfl (pc' := 39) rfl ?_
  refine w_ldiv X168 hx (Jvm.hb hby at_39) (q_nz (by have := Bs.2.1; omega)) (pc' := 40) rfl ?_
  generalize hvq : ((2305843009213693952 : Int64) / sd) = vq
  show Ow p e below s _ _ _ (T168.setTop (mkF m 40 #[.val (.long q0), .second, .val (.long q1), .second, .val (.int p2), .val (.int p3), .val (.long q4), .second, .val (.long q5), .second, .val (.long vm), .second, .val (.long kx), .second, .val (.long vk), .second, .val (.long sd), .second, .unset, .unset, .unset, .unset, .unset, .unset, .unset, .unset, .unset, .unset, .unset, .unset, .unset, .unset, .unset, .unset, .unset, .unset, .unset, .unset, .unset, .unset, .unset, .unset, .unset, .unset, .unset, .unset, .unset, .unset, .unset, .unset, .unset, .unset, .unset, .unset, .unset, .unset, .unset, .unset, .unset, .unset, .unset, .unset, .unset, .unset, .unset, .unset, .unset, .unset, .unset, .unset, .unset, .unset, .unset, .unset, .unset, .unset, .unset, .unset, .unset, .unset, .unset, .unset, .unset, .unset, .unset, .unset, .unset, .unset, .unset, .unset] [(.long vq)]))
  have Bq := q_q hvq Bs.2
  refine w_lstore X168 hx (Jvm.hb hby at_40) #[.val (.long q0), .second, .val (.long q1), .second, .val (.int p2), .val (.int p3), .val (.long q4), .second, .val (.long q5), .second, .val (.long vm), .second, .val (.long kx), .second, .val (.long vk), .second, .val (.long sd), .second, .val (.long vq), .second, .unset, .unset, .unset, .unset, .unset, .unset, .unset, .unset, .unset, .unset, .unset, .unset, .unset, .unset, .unset, .unset, .unset, .unset, .unset, .unset, .unset, .unset, .unset, .unset, .unset, .unset, .unset, .unset, .unset, .unset, .unset, .unset, .unset, .unset, .unset, .unset, .unset, .unset, .unset, .unset, .unset, .unset, .unset, .unset, .unset, .unset, .unset, .unset, .unset, .unset, .unset, .unset, .unset, .unset, .unset, .unset, .unset, .unset, .unset, .unset, .unset, .unset, .unset, .unset, .unset, .unset, .unset, .unset, .unset, .unset] rfl  (pc' := 42) rfl ?_
  refine w_ldc2J X168 hx hZ hown (hw _ (List.mem_of_getElem? (i := 7) rfl)) (Jvm.hb hby at_42) (pc' := 45) rfl ?_
  refine w_lload X168 hx (Jvm.hb hby at_45) rfl (pc' := 47) rfl ?_
  refine w_lsub X168 hx (Jvm.hb hby at_47) (pc' := 48) rfl ?_
  refine w_ldc2J X168 hx hZ hown (hw _ (List.mem_of_getElem? (i := 8) rfl)) (Jvm.hb hby at_48) (pc' := 51) rfl ?_
  refine w_callS X168 hx hZ hown (hw _ (List.mem_of_getElem? (i := 9) rfl)) (hw _ (List.mem_of_getElem? (i := 10) rfl)) (hw _ (List.mem_of_getElem? (i := 11) rfl)) (hw _ (List.mem_of_getElem? (i := 12) rfl)) (by decide) (W := 0) (rm2 l Z aw hw [] ((2 : Int64) - vq) (-2147483646 : Int64) h0) e168 (by decide) (by decide) (by decide) (by decide) (Jvm.hb hby at_51) (by rw [hml]; rfl) (argsL := [(.long ((2 : Int64) - vq)), (.long (-2147483646 : Int64))]) (rest := []) pd_1 rfl rfl rfl (Nat.le_of_eq rfl) (pc' := 54) rfl ?_
  rintro _ T169 L169 X169 ⟨rfl, e169, rfl⟩
  show Ow p e below s _ _ _ (T169.setTop (mkF m 54 #[.val (.long q0), .second, .val (.long q1), .second, .val (.int p2), .val (.int p3), .val (.long q4), .second, .val (.long q5), .second, .val (.long vm), .second, .val (.long kx), .second, .val (.long vk), .second, .val (.long sd), .second, .val (.long vq), .second, .unset, .unset, .unset, .unset, .unset, .unset, .unset, .unset, .unset, .unset, .unset, .unset, .unset, .unset, .unset, .unset, .unset, .unset, .unset, .unset, .unset, .unset, .unset, .unset, .unset, .unset, .unset, .unset, .unset, .unset, .unset, .unset, .unset, .unset, .unset, .unset, .unset, .unset, .unset, .unset, .unset, .unset, .unset, .unset, .unset, .unset, .unset, .unset, .unset, .unset, .unset, .unset, .unset, .unset, .unset, .unset, .unset, .unset, .unset, .unset, .unset, .unset, .unset, .unset, .unset, .unset, .unset, .unset, .unset, .unset] [(.long (mxJ ((2 : Int64) - vq) (-2147483646 : Int64)))]))
  generalize hlo : (mxJ ((2 : Int64) - vq) (-2147483646 : Int64)) = lo
  show Ow p e below s _ _ _ (T169.setTop (mkF m 54 #[.val (.long q0), .second, .val (.long q1), .second, .val (.int p2), .val (.int p3), .val (.long q4), .second, .val (.long q5), .second, .val (.long vm), .second, .val (.long kx), .second, .val (.long vk), .second, .val (.long sd), .second, .val (.long vq), .second, .unset, .unset, .unset, .unset, .unset, .unset, .unset, .unset, .unset, .unset, .unset, .unset, .unset, .unset, .unset, .unset, .unset, .unset, .unset, .unset, .unset, .unset, .unset, .unset, .unset, .unset, .unset, .unset, .unset, .unset, .unset, .unset, .unset, .unset, .unset, .unset, .unset, .unset, .unset, .unset, .unset, .unset, .unset, .unset, .unset, .unset, .unset, .unset, .unset, .unset, .unset, .unset, .unset, .unset, .unset, .unset, .unset, .unset, .unset, .unset, .unset, .unset, .unset, .unset, .unset, .unset, .unset, .unset, .unset, .unset] [(.long lo)]))
  have Bl := q_lo hlo Bq.1 Bq.2.2
  refine w_lstore X169 hx (Jvm.hb hby at_54) #[.val (.long q0), .second, .val (.long q1), .second, .val (.int p2), .val (.int p3), .val (.long q4), .second, .val (.long q5), .second, .val (.long vm), .second, .val (.long kx), .second, .val (.long vk), .second, .val (.long sd), .second, .val (.long vq), .second, .val (.long lo), .second, .unset, .unset, .unset, .unset, .unset, .unset, .unset, .unset, .unset, .unset, .unset, .unset, .unset, .unset, .unset, .unset, .unset, .unset, .unset, .unset, .unset, .unset, .unset, .unset, .unset, .unset, .unset, .unset, .unset, .unset, .unset, .unset, .unset, .unset, .unset, .unset, .unset, .unset, .unset, .unset, .unset, .unset, .unset, .unset, .unset, .unset, .unset, .unset, .unset, .unset, .unset, .unset, .unset, .unset, .unset, .unset, .unset, .unset, .unset, .unset, .unset, .unset, .unset, .unset, .unset, .unset, .unset, .unset] rfl  (pc' := 56) rfl ?_
  refine w_lload X169 hx (Jvm.hb hby at_56) rfl (pc' := 58) rfl ?_
  refine w_ldc2J X169 hx hZ hown (hw _ (List.mem_of_getElem? (i := 13) rfl)) (Jvm.hb hby at_58) (pc' := 61) rfl ?_
  refine w_lsub X169 hx (Jvm.hb hby at_61) (pc' := 62) rfl ?_
  refine w_ldc2J X169 hx hZ hown (hw _ (List.mem_of_getElem? (i := 14) rfl)) (Jvm.hb hby at_62) (pc' := 65) rfl ?_
  refine w_callS X169 hx hZ hown (hw _ (List.mem_of_getElem? (i := 15) rfl)) (hw _ (List.mem_of_getElem? (i := 16) rfl)) (hw _ (List.mem_of_getElem? (i := 11) rfl)) (hw _ (List.mem_of_getElem? (i := 17) rfl)) (by decide) (W := 0) (rm3 l Z aw hw [] (vq - (3 : Int64)) (2147483645 : Int64) h0) e169 (by decide) (by decide) (by decide) (by decide) (Jvm.hb hby at_65) (by rw [hml]; rfl) (argsL := [(.long (vq - (3 : Int64))), (.long (2147483645 : Int64))]) (rest := []) pd_1 rfl rfl rfl (Nat.le_of_eq rfl) (pc' := 68) rfl ?_
  rintro _ T170 L170 X170 ⟨rfl, e170, rfl⟩
  show Ow p e below s _ _ _ (T170.setTop (mkF m 68 #[.val (.long q0), .second, .val (.long q1), .second, .val (.int p2), .val (.int p3), .val (.long q4), .second, .val (.long q5), .second, .val (.long vm), .second, .val (.long kx), .second, .val (.long vk), .second, .val (.long sd), .second, .val (.long vq), .second, .val (.long lo), .second, .unset, .unset, .unset, .unset, .unset, .unset, .unset, .unset, .unset, .unset, .unset, .unset, .unset, .unset, .unset, .unset, .unset, .unset, .unset, .unset, .unset, .unset, .unset, .unset, .unset, .unset, .unset, .unset, .unset, .unset, .unset, .unset, .unset, .unset, .unset, .unset, .unset, .unset, .unset, .unset, .unset, .unset, .unset, .unset, .unset, .unset, .unset, .unset, .unset, .unset, .unset, .unset, .unset, .unset, .unset, .unset, .unset, .unset, .unset, .unset, .unset, .unset, .unset, .unset, .unset, .unset, .unset, .unset] [(.long (mnJ (vq - (3 : Int64)) (2147483645 : Int64)))]))
  generalize hhi : (mnJ (vq - (3 : Int64)) (2147483645 : Int64)) = hi
  show Ow p e below s _ _ _ (T170.setTop (mkF m 68 #[.val (.long q0), .second, .val (.long q1), .second, .val (.int p2), .val (.int p3), .val (.long q4), .second, .val (.long q5), .second, .val (.long vm), .second, .val (.long kx), .second, .val (.long vk), .second, .val (.long sd), .second, .val (.long vq), .second, .val (.long lo), .second, .unset, .unset, .unset, .unset, .unset, .unset, .unset, .unset, .unset, .unset, .unset, .unset, .unset, .unset, .unset, .unset, .unset, .unset, .unset, .unset, .unset, .unset, .unset, .unset, .unset, .unset, .unset, .unset, .unset, .unset, .unset, .unset, .unset, .unset, .unset, .unset, .unset, .unset, .unset, .unset, .unset, .unset, .unset, .unset, .unset, .unset, .unset, .unset, .unset, .unset, .unset, .unset, .unset, .unset, .unset, .unset, .unset, .unset, .unset, .unset, .unset, .unset, .unset, .unset, .unset, .unset, .unset, .unset] [(.long hi)]))
  have Bh := q_hi hhi Bq.1 Bq.2.2
  refine w_lstore X170 hx (Jvm.hb hby at_68) #[.val (.long q0), .second, .val (.long q1), .second, .val (.int p2), .val (.int p3), .val (.long q4), .second, .val (.long q5), .second, .val (.long vm), .second, .val (.long kx), .second, .val (.long vk), .second, .val (.long sd), .second, .val (.long vq), .second, .val (.long lo), .second, .val (.long hi), .second, .unset, .unset, .unset, .unset, .unset, .unset, .unset, .unset, .unset, .unset, .unset, .unset, .unset, .unset, .unset, .unset, .unset, .unset, .unset, .unset, .unset, .unset, .unset, .unset, .unset, .unset, .unset, .unset, .unset, .unset, .unset, .unset, .unset, .unset, .unset, .unset, .unset, .unset, .unset, .unset, .unset, .unset, .unset, .unset, .unset, .unset, .unset, .unset, .unset, .unset, .unset, .unset, .unset, .unset, .unset, .unset, .unset, .unset, .unset, .unset, .unset, .unset, .unset, .unset, .unset, .unset] rfl  (pc' := 70) rfl ?_
  refine w_lload X170 hx (Jvm.hb hby at_70) rfl (pc' := 72) rfl ?_
  refine w_lload X170 hx (Jvm.hb hby at_72) rfl (pc' := 74) rfl ?_
  refine w_lsub X170 hx (Jvm.hb hby at_74) (pc' := 75) rfl ?_
  refine w_lconst X170 hx (1 : Int64) (Jvm.hb hby at_75) (by decide) (pc' := 76) rfl ?_
  refine w_ladd X170 hx (Jvm.hb hby at_76) (pc' := 77) rfl ?_
  generalize hcn : ((hi - lo) + (1 : Int64)) = cn
  show Ow p e below s _ _ _ (T170.setTop (mkF m 77 #[.val (.long q0), .second, .val (.long q1), .second, .val (.int p2), .val (.int p3), .val (.long q4), .second, .val (.long q5), .second, .val (.long vm), .second, .val (.long kx), .second, .val (.long vk), .second, .val (.long sd), .second, .val (.long vq), .second, .val (.long lo), .second, .val (.long hi), .second, .unset, .unset, .unset, .unset, .unset, .unset, .unset, .unset, .unset, .unset, .unset, .unset, .unset, .unset, .unset, .unset, .unset, .unset, .unset, .unset, .unset, .unset, .unset, .unset, .unset, .unset, .unset, .unset, .unset, .unset, .unset, .unset, .unset, .unset, .unset, .unset, .unset, .unset, .unset, .unset, .unset, .unset, .unset, .unset, .unset, .unset, .unset, .unset, .unset, .unset, .unset, .unset, .unset, .unset, .unset, .unset, .unset, .unset, .unset, .unset, .unset, .unset, .unset, .unset, .unset, .unset] [(.long cn)]))
  have Bn := q_cn hcn Bl.2.1 Bl.2.2 Bh.2.1 Bh.2.2
  refine w_lstore X170 hx (Jvm.hb hby at_77) #[.val (.long q0), .second, .val (.long q1), .second, .val (.int p2), .val (.int p3), .val (.long q4), .second, .val (.long q5), .second, .val (.long vm), .second, .val (.long kx), .second, .val (.long vk), .second, .val (.long sd), .second, .val (.long vq), .second, .val (.long lo), .second, .val (.long hi), .second, .val (.long cn), .second, .unset, .unset, .unset, .unset, .unset, .unset, .unset, .unset, .unset, .unset, .unset, .unset, .unset, .unset, .unset, .unset, .unset, .unset, .unset, .unset, .unset, .unset, .unset, .unset, .unset, .unset, .unset, .unset, .unset, .unset, .unset, .unset, .unset, .unset, .unset, .unset, .unset, .unset, .unset, .unset, .unset, .unset, .unset, .unset, .unset, .unset, .unset, .unset, .unset, .unset, .unset, .unset, .unset, .unset, .unset, .unset, .unset, .unset, .unset, .unset, .unset, .unset, .unset, .unset] rfl  (pc' := 79) rfl ?_
  refine w_lload X170 hx (Jvm.hb hby at_79) rfl (pc' := 81) rfl ?_
  refine w_iload X170 hx (Jvm.hb hby at_81) rfl (pc' := 83) rfl ?_
  refine w_i2l X170 hx (Jvm.hb hby at_83) (pc' := 84) rfl ?_
  refine w_lload X170 hx (Jvm.hb hby at_84) rfl (pc' := 86) rfl ?_
  refine w_callS X170 hx hZ hown (hw _ (List.mem_of_getElem? (i := 2) rfl)) (hw _ (List.mem_of_getElem? (i := 3) rfl)) (hw _ (List.mem_of_getElem? (i := 4) rfl)) (hw _ (List.mem_of_getElem? (i := 5) rfl)) (by decide) (W := 2) (rm1 l Z aw hw [] (p2.toInt64) cn h0 (q_nz (by have := Bh.2.2; have := Bl.2.2; omega))) e170 (by decide) (by decide) (by decide) (by decide) (Jvm.hb hby at_86) (by rw [hml]; rfl) (argsL := [(.long (p2.toInt64)), (.long cn)]) (rest := [(.long lo)]) pd_1 rfl rfl rfl (Nat.le_of_eq rfl) (pc' := 89) rfl ?_
  rintro _ T171 L171 X171 ⟨rfl, e171, rfl⟩
  show Ow p e below s _ _ _ (T171.setTop (mkF m 89 #[.val (.long q0), .second, .val (.long q1), .second, .val (.int p2), .val (.int p3), .val (.long q4), .second, .val (.long q5), .second, .val (.long vm), .second, .val (.long kx), .second, .val (.long vk), .second, .val (.long sd), .second, .val (.long vq), .second, .val (.long lo), .second, .val (.long hi), .second, .val (.long cn), .second, .unset, .unset, .unset, .unset, .unset, .unset, .unset, .unset, .unset, .unset, .unset, .unset, .unset, .unset, .unset, .unset, .unset, .unset, .unset, .unset, .unset, .unset, .unset, .unset, .unset, .unset, .unset, .unset, .unset, .unset, .unset, .unset, .unset, .unset, .unset, .unset, .unset, .unset, .unset, .unset, .unset, .unset, .unset, .unset, .unset, .unset, .unset, .unset, .unset, .unset, .unset, .unset, .unset, .unset, .unset, .unset, .unset, .unset, .unset, .unset, .unset, .unset, .unset, .unset] [(.long (modJ (p2.toInt64) cn)), (.long lo)]))
  refine w_ladd X171 hx (Jvm.hb hby at_89) (pc' := 90) rfl ?_
  generalize hcx : (lo + (modJ (p2.toInt64) cn)) = cx
  show Ow p e below s _ _ _ (T171.setTop (mkF m 90 #[.val (.long q0), .second, .val (.long q1), .second, .val (.int p2), .val (.int p3), .val (.long q4), .second, .val (.long q5), .second, .val (.long vm), .second, .val (.long kx), .second, .val (.long vk), .second, .val (.long sd), .second, .val (.long vq), .second, .val (.long lo), .second, .val (.long hi), .second, .val (.long cn), .second, .unset, .unset, .unset, .unset, .unset, .unset, .unset, .unset, .unset, .unset, .unset, .unset, .unset, .unset, .unset, .unset, .unset, .unset, .unset, .unset, .unset, .unset, .unset, .unset, .unset, .unset, .unset, .unset, .unset, .unset, .unset, .unset, .unset, .unset, .unset, .unset, .unset, .unset, .unset, .unset, .unset, .unset, .unset, .unset, .unset, .unset, .unset, .unset, .unset, .unset, .unset, .unset, .unset, .unset, .unset, .unset, .unset, .unset, .unset, .unset, .unset, .unset, .unset, .unset] [(.long cx)]))
  have Bcx := q_c hcx Bn Bl.2.1 Bl.2.2 Bh.2.1 Bh.2.2
  refine w_lstore X171 hx (Jvm.hb hby at_90) #[.val (.long q0), .second, .val (.long q1), .second, .val (.int p2), .val (.int p3), .val (.long q4), .second, .val (.long q5), .second, .val (.long vm), .second, .val (.long kx), .second, .val (.long vk), .second, .val (.long sd), .second, .val (.long vq), .second, .val (.long lo), .second, .val (.long hi), .second, .val (.long cn), .second, .val (.long cx), .second, .unset, .unset, .unset, .unset, .unset, .unset, .unset, .unset, .unset, .unset, .unset, .unset, .unset, .unset, .unset, .unset, .unset, .unset, .unset, .unset, .unset, .unset, .unset, .unset, .unset, .unset, .unset, .unset, .unset, .unset, .unset, .unset, .unset, .unset, .unset, .unset, .unset, .unset, .unset, .unset, .unset, .unset, .unset, .unset, .unset, .unset, .unset, .unset, .unset, .unset, .unset, .unset, .unset, .unset, .unset, .unset, .unset, .unset, .unset, .unset, .unset, .unset] rfl  (pc' := 92) rfl ?_
  refine w_lload X171 hx (Jvm.hb hby at_92) rfl (pc' := 94) rfl ?_
  refine w_iload X171 hx (Jvm.hb hby at_94) rfl (pc' := 96) rfl ?_
  refine w_i2l X171 hx (Jvm.hb hby at_96) (pc' := 97) rfl ?_
  refine w_lload X171 hx (Jvm.hb hby at_97) rfl (pc' := 99) rfl ?_
  refine w_callS X171 hx hZ hown (hw _ (List.mem_of_getElem? (i := 2) rfl)) (hw _ (List.mem_of_getElem? (i := 3) rfl)) (hw _ (List.mem_of_getElem? (i := 4) rfl)) (hw _ (List.mem_of_getElem? (i := 5) rfl)) (by decide) (W := 2) (rm1 l Z aw hw [] (p3.toInt64) cn h0 (q_nz (by have := Bh.2.2; have := Bl.2.2; omega))) e171 (by decide) (by decide) (by decide) (by decide) (Jvm.hb hby at_99) (by rw [hml]; rfl) (argsL := [(.long (p3.toInt64)), (.long cn)]) (rest := [(.long lo)]) pd_1 rfl rfl rfl (Nat.le_of_eq rfl) (pc' := 102) rfl ?_
  rintro _ T172 L172 X172 ⟨rfl, e172, rfl⟩
  show Ow p e below s _ _ _ (T172.setTop (mkF m 102 #[.val (.long q0), .second, .val (.long q1), .second, .val (.int p2), .val (.int p3), .val (.long q4), .second, .val (.long q5), .second, .val (.long vm), .second, .val (.long kx), .second, .val (.long vk), .second, .val (.long sd), .second, .val (.long vq), .second, .val (.long lo), .second, .val (.long hi), .second, .val (.long cn), .second, .val (.long cx), .second, .unset, .unset, .unset, .unset, .unset, .unset, .unset, .unset, .unset, .unset, .unset, .unset, .unset, .unset, .unset, .unset, .unset, .unset, .unset, .unset, .unset, .unset, .unset, .unset, .unset, .unset, .unset, .unset, .unset, .unset, .unset, .unset, .unset, .unset, .unset, .unset, .unset, .unset, .unset, .unset, .unset, .unset, .unset, .unset, .unset, .unset, .unset, .unset, .unset, .unset, .unset, .unset, .unset, .unset, .unset, .unset, .unset, .unset, .unset, .unset, .unset, .unset] [(.long (modJ (p3.toInt64) cn)), (.long lo)]))
  refine w_ladd X172 hx (Jvm.hb hby at_102) (pc' := 103) rfl ?_
  generalize hcy : (lo + (modJ (p3.toInt64) cn)) = cy
  show Ow p e below s _ _ _ (T172.setTop (mkF m 103 #[.val (.long q0), .second, .val (.long q1), .second, .val (.int p2), .val (.int p3), .val (.long q4), .second, .val (.long q5), .second, .val (.long vm), .second, .val (.long kx), .second, .val (.long vk), .second, .val (.long sd), .second, .val (.long vq), .second, .val (.long lo), .second, .val (.long hi), .second, .val (.long cn), .second, .val (.long cx), .second, .unset, .unset, .unset, .unset, .unset, .unset, .unset, .unset, .unset, .unset, .unset, .unset, .unset, .unset, .unset, .unset, .unset, .unset, .unset, .unset, .unset, .unset, .unset, .unset, .unset, .unset, .unset, .unset, .unset, .unset, .unset, .unset, .unset, .unset, .unset, .unset, .unset, .unset, .unset, .unset, .unset, .unset, .unset, .unset, .unset, .unset, .unset, .unset, .unset, .unset, .unset, .unset, .unset, .unset, .unset, .unset, .unset, .unset, .unset, .unset, .unset, .unset] [(.long cy)]))
  have Bcy := q_c hcy Bn Bl.2.1 Bl.2.2 Bh.2.1 Bh.2.2
  refine w_lstore X172 hx (Jvm.hb hby at_103) #[.val (.long q0), .second, .val (.long q1), .second, .val (.int p2), .val (.int p3), .val (.long q4), .second, .val (.long q5), .second, .val (.long vm), .second, .val (.long kx), .second, .val (.long vk), .second, .val (.long sd), .second, .val (.long vq), .second, .val (.long lo), .second, .val (.long hi), .second, .val (.long cn), .second, .val (.long cx), .second, .val (.long cy), .second, .unset, .unset, .unset, .unset, .unset, .unset, .unset, .unset, .unset, .unset, .unset, .unset, .unset, .unset, .unset, .unset, .unset, .unset, .unset, .unset, .unset, .unset, .unset, .unset, .unset, .unset, .unset, .unset, .unset, .unset, .unset, .unset, .unset, .unset, .unset, .unset, .unset, .unset, .unset, .unset, .unset, .unset, .unset, .unset, .unset, .unset, .unset, .unset, .unset, .unset, .unset, .unset, .unset, .unset, .unset, .unset, .unset, .unset, .unset, .unset] rfl  (pc' := 105) rfl ?_
  obtain ⟨d1, hd1⟩ : ∃ v : Int32, v = (if q4 < (0 : Int64) then (1 : Int32) else (0 : Int32)) := ⟨_, rfl⟩
  refine Ow.join T172 (mkF m 117 #[.val (.long q0), .second, .val (.long q1), .second, .val (.int p2), .val (.int p3), .val (.long q4), .second, .val (.long q5), .second, .val (.long vm), .second, .val (.long kx), .second, .val (.long vk), .second, .val (.long sd), .second, .val (.long vq), .second, .val (.long lo), .second, .val (.long hi), .second, .val (.long cn), .second, .val (.long cx), .second, .val (.long cy), .second, .unset, .unset, .unset, .unset, .unset, .unset, .unset, .unset, .unset, .unset, .unset, .unset, .unset, .unset, .unset, .unset, .unset, .unset, .unset, .unset, .unset, .unset, .unset, .unset, .unset, .unset, .unset, .unset, .unset, .unset, .unset, .unset, .unset, .unset, .unset, .unset, .unset, .unset, .unset, .unset, .unset, .unset, .unset, .unset, .unset, .unset, .unset, .unset, .unset, .unset, .unset, .unset, .unset, .unset, .unset, .unset, .unset, .unset, .unset, .unset] [(.int d1)]) (fun K => ?_) ?_
  · refine w_lload X172 hx (Jvm.hb hby at_105) rfl (pc' := 107) rfl ?_
    refine w_lconst X172 hx (0 : Int64) (Jvm.hb hby at_107) (by decide) (pc' := 108) rfl ?_
    refine w_lcmp_ge X172 hx (Jvm.hb hby at_108) (Jvm.hb hby at_109) rfl (by decide) (pcT := 116) (by decide) (pcF := 112) rfl (fun hj108_0 => ?_) (fun hj108_0 => ?_)
    · refine w_iconst X172 hx (0 : Int32) (Jvm.hb hby at_116) (by decide) (pc' := 117) rfl ?_
      rw [hd1, if_neg hj108_0] at K; exact K
    · refine w_iconst X172 hx (1 : Int32) (Jvm.hb hby at_112) (by decide) (pc' := 113) rfl ?_
      refine w_goto X172 hx (Jvm.hb hby at_113) (by decide) (pc' := 117) (by decide) ?_
      rw [hd1, if_pos hj108_0] at K; exact K
  refine w_istore X172 hx (Jvm.hb hby at_117) #[.val (.long q0), .second, .val (.long q1), .second, .val (.int p2), .val (.int p3), .val (.long q4), .second, .val (.long q5), .second, .val (.long vm), .second, .val (.long kx), .second, .val (.long vk), .second, .val (.long sd), .second, .val (.long vq), .second, .val (.long lo), .second, .val (.long hi), .second, .val (.long cn), .second, .val (.long cx), .second, .val (.long cy), .second, .val (.int d1), .unset, .unset, .unset, .unset, .unset, .unset, .unset, .unset, .unset, .unset, .unset, .unset, .unset, .unset, .unset, .unset, .unset, .unset, .unset, .unset, .unset, .unset, .unset, .unset, .unset, .unset, .unset, .unset, .unset, .unset, .unset, .unset, .unset, .unset, .unset, .unset, .unset, .unset, .unset, .unset, .unset, .unset, .unset, .unset, .unset, .unset, .unset, .unset, .unset, .unset, .unset, .unset, .unset, .unset, .unset, .unset, .unset, .unset, .unset] rfl  (pc' := 119) rfl ?_
  obtain ⟨d2, hd2⟩ : ∃ v : Int32, v = (if q5 < (0 : Int64) then (1 : Int32) else (0 : Int32)) := ⟨_, rfl⟩
  refine Ow.join T172 (mkF m 131 #[.val (.long q0), .second, .val (.long q1), .second, .val (.int p2), .val (.int p3), .val (.long q4), .second, .val (.long q5), .second, .val (.long vm), .second, .val (.long kx), .second, .val (.long vk), .second, .val (.long sd), .second, .val (.long vq), .second, .val (.long lo), .second, .val (.long hi), .second, .val (.long cn), .second, .val (.long cx), .second, .val (.long cy), .second, .val (.int d1), .unset, .unset, .unset, .unset, .unset, .unset, .unset, .unset, .unset, .unset, .unset, .unset, .unset, .unset, .unset, .unset, .unset, .unset, .unset, .unset, .unset, .unset, .unset, .unset, .unset, .unset, .unset, .unset, .unset, .unset, .unset, .unset, .unset, .unset, .unset, .unset, .unset, .unset, .unset, .unset, .unset, .unset, .unset, .unset, .unset, .unset, .unset, .unset, .unset, .unset, .unset, .unset, .unset, .unset, .unset, .unset, .unset, .unset, .unset] [(.int d2)]) (fun K => ?_) ?_
  · refine w_lload X172 hx (Jvm.hb hby at_119) rfl (pc' := 121) rfl ?_
    refine w_lconst X172 hx (0 : Int64) (Jvm.hb hby at_121) (by decide) (pc' := 122) rfl ?_
    refine w_lcmp_ge X172 hx (Jvm.hb hby at_122) (Jvm.hb hby at_123) rfl (by decide) (pcT := 130) (by decide) (pcF := 126) rfl (fun hj122_0 => ?_) (fun hj122_0 => ?_)
    · refine w_iconst X172 hx (0 : Int32) (Jvm.hb hby at_130) (by decide) (pc' := 131) rfl ?_
      rw [hd2, if_neg hj122_0] at K; exact K
    · refine w_iconst X172 hx (1 : Int32) (Jvm.hb hby at_126) (by decide) (pc' := 127) rfl ?_
      refine w_goto X172 hx (Jvm.hb hby at_127) (by decide) (pc' := 131) (by decide) ?_
      rw [hd2, if_pos hj122_0] at K; exact K
  have Bd1 := q_d hd1
  have Bd2 := q_d hd2
  refine w_istore X172 hx (Jvm.hb hby at_131) #[.val (.long q0), .second, .val (.long q1), .second, .val (.int p2), .val (.int p3), .val (.long q4), .second, .val (.long q5), .second, .val (.long vm), .second, .val (.long kx), .second, .val (.long vk), .second, .val (.long sd), .second, .val (.long vq), .second, .val (.long lo), .second, .val (.long hi), .second, .val (.long cn), .second, .val (.long cx), .second, .val (.long cy), .second, .val (.int d1), .val (.int d2), .unset, .unset, .unset, .unset, .unset, .unset, .unset, .unset, .unset, .unset, .unset, .unset, .unset, .unset, .unset, .unset, .unset, .unset, .unset, .unset, .unset, .unset, .unset, .unset, .unset, .unset, .unset, .unset, .unset, .unset, .unset, .unset, .unset, .unset, .unset, .unset, .unset, .unset, .unset, .unset, .unset, .unset, .unset, .unset, .unset, .unset, .unset, .unset, .unset, .unset, .unset, .unset, .unset, .unset, .unset, .unset, .unset, .unset] rfl  (pc' := 133) rfl ?_
  refine w_lload X172 hx (Jvm.hb hby at_133) rfl (pc' := 135) rfl ?_
  refine w_ldc2J X172 hx hZ hown (hw _ (List.mem_of_getElem? (i := 18) rfl)) (Jvm.hb hby at_135) (pc' := 138) rfl ?_
  refine w_land X172 hx (Jvm.hb hby at_138) (pc' := 139) rfl ?_
  refine w_lload X172 hx (Jvm.hb hby at_139) rfl (pc' := 141) rfl ?_
  refine w_lrem X172 hx (Jvm.hb hby at_141) (q_nz (by have := Bm.1; omega)) (pc' := 142) rfl ?_
  generalize hax : ((q4 &&& (16777215 : Int64)) - ((q4 &&& (16777215 : Int64)) / vm) * vm) = ax
  show Ow p e below s _ _ _ (T172.setTop (mkF m 142 #[.val (.long q0), .second, .val (.long q1), .second, .val (.int p2), .val (.int p3), .val (.long q4), .second, .val (.long q5), .second, .val (.long vm), .second, .val (.long kx), .second, .val (.long vk), .second, .val (.long sd), .second, .val (.long vq), .second, .val (.long lo), .second, .val (.long hi), .second, .val (.long cn), .second, .val (.long cx), .second, .val (.long cy), .second, .val (.int d1), .val (.int d2), .unset, .unset, .unset, .unset, .unset, .unset, .unset, .unset, .unset, .unset, .unset, .unset, .unset, .unset, .unset, .unset, .unset, .unset, .unset, .unset, .unset, .unset, .unset, .unset, .unset, .unset, .unset, .unset, .unset, .unset, .unset, .unset, .unset, .unset, .unset, .unset, .unset, .unset, .unset, .unset, .unset, .unset, .unset, .unset, .unset, .unset, .unset, .unset, .unset, .unset, .unset, .unset, .unset, .unset, .unset, .unset, .unset, .unset] [(.long ax)]))
  have Bax := q_rem hax (q_msk q4) (by have := Bm.1; omega)
  refine w_lstore X172 hx (Jvm.hb hby at_142) #[.val (.long q0), .second, .val (.long q1), .second, .val (.int p2), .val (.int p3), .val (.long q4), .second, .val (.long q5), .second, .val (.long vm), .second, .val (.long kx), .second, .val (.long vk), .second, .val (.long sd), .second, .val (.long vq), .second, .val (.long lo), .second, .val (.long hi), .second, .val (.long cn), .second, .val (.long cx), .second, .val (.long cy), .second, .val (.int d1), .val (.int d2), .val (.long ax), .second, .unset, .unset, .unset, .unset, .unset, .unset, .unset, .unset, .unset, .unset, .unset, .unset, .unset, .unset, .unset, .unset, .unset, .unset, .unset, .unset, .unset, .unset, .unset, .unset, .unset, .unset, .unset, .unset, .unset, .unset, .unset, .unset, .unset, .unset, .unset, .unset, .unset, .unset, .unset, .unset, .unset, .unset, .unset, .unset, .unset, .unset, .unset, .unset, .unset, .unset, .unset, .unset, .unset, .unset, .unset, .unset] rfl  (pc' := 144) rfl ?_
  refine w_lload X172 hx (Jvm.hb hby at_144) rfl (pc' := 146) rfl ?_
  refine w_ldc2J X172 hx hZ hown (hw _ (List.mem_of_getElem? (i := 18) rfl)) (Jvm.hb hby at_146) (pc' := 149) rfl ?_
  refine w_land X172 hx (Jvm.hb hby at_149) (pc' := 150) rfl ?_
  refine w_lload X172 hx (Jvm.hb hby at_150) rfl (pc' := 152) rfl ?_
  refine w_lrem X172 hx (Jvm.hb hby at_152) (q_nz (by have := Bm.1; omega)) (pc' := 153) rfl ?_
  generalize hay : ((q5 &&& (16777215 : Int64)) - ((q5 &&& (16777215 : Int64)) / vm) * vm) = ay
  show Ow p e below s _ _ _ (T172.setTop (mkF m 153 #[.val (.long q0), .second, .val (.long q1), .second, .val (.int p2), .val (.int p3), .val (.long q4), .second, .val (.long q5), .second, .val (.long vm), .second, .val (.long kx), .second, .val (.long vk), .second, .val (.long sd), .second, .val (.long vq), .second, .val (.long lo), .second, .val (.long hi), .second, .val (.long cn), .second, .val (.long cx), .second, .val (.long cy), .second, .val (.int d1), .val (.int d2), .val (.long ax), .second, .unset, .unset, .unset, .unset, .unset, .unset, .unset, .unset, .unset, .unset, .unset, .unset, .unset, .unset, .unset, .unset, .unset, .unset, .unset, .unset, .unset, .unset, .unset, .unset, .unset, .unset, .unset, .unset, .unset, .unset, .unset, .unset, .unset, .unset, .unset, .unset, .unset, .unset, .unset, .unset, .unset, .unset, .unset, .unset, .unset, .unset, .unset, .unset, .unset, .unset, .unset, .unset, .unset, .unset, .unset, .unset] [(.long ay)]))
  have Bay := q_rem hay (q_msk q5) (by have := Bm.1; omega)
  refine w_lstore X172 hx (Jvm.hb hby at_153) #[.val (.long q0), .second, .val (.long q1), .second, .val (.int p2), .val (.int p3), .val (.long q4), .second, .val (.long q5), .second, .val (.long vm), .second, .val (.long kx), .second, .val (.long vk), .second, .val (.long sd), .second, .val (.long vq), .second, .val (.long lo), .second, .val (.long hi), .second, .val (.long cn), .second, .val (.long cx), .second, .val (.long cy), .second, .val (.int d1), .val (.int d2), .val (.long ax), .second, .val (.long ay), .second, .unset, .unset, .unset, .unset, .unset, .unset, .unset, .unset, .unset, .unset, .unset, .unset, .unset, .unset, .unset, .unset, .unset, .unset, .unset, .unset, .unset, .unset, .unset, .unset, .unset, .unset, .unset, .unset, .unset, .unset, .unset, .unset, .unset, .unset, .unset, .unset, .unset, .unset, .unset, .unset, .unset, .unset, .unset, .unset, .unset, .unset, .unset, .unset, .unset, .unset, .unset, .unset, .unset, .unset] rfl  (pc' := 155) rfl ?_
  refine w_iload X172 hx (Jvm.hb hby at_155) rfl (pc' := 157) rfl ?_
  refine w_lload X172 hx (Jvm.hb hby at_157) rfl (pc' := 159) rfl ?_
  refine w_lload X172 hx (Jvm.hb hby at_159) rfl (pc' := 161) rfl ?_
  refine w_callS X172 hx hZ hown (hw _ (List.mem_of_getElem? (i := 19) rfl)) (hw _ (List.mem_of_getElem? (i := 20) rfl)) (hw _ (List.mem_of_getElem? (i := 4) rfl)) (hw _ (List.mem_of_getElem? (i := 21) rfl)) (by decide) (W := 0) (rm4 l Z aw hw [] d1 ax vm h0) e172 (by decide) (by decide) (by decide) (by decide) (Jvm.hb hby at_161) (by rw [hml]; rfl) (argsL := [(.int d1), (.long ax), (.long vm)]) (rest := []) pd_5 rfl rfl rfl (Nat.le_of_eq rfl) (pc' := 164) rfl ?_
  rintro _ T173 L173 X173 ⟨rfl, e173, rfl⟩
  show Ow p e below s _ _ _ (T173.setTop (mkF m 164 #[.val (.long q0), .second, .val (.long q1), .second, .val (.int p2), .val (.int p3), .val (.long q4), .second, .val (.long q5), .second, .val (.long vm), .second, .val (.long kx), .second, .val (.long vk), .second, .val (.long sd), .second, .val (.long vq), .second, .val (.long lo), .second, .val (.long hi), .second, .val (.long cn), .second, .val (.long cx), .second, .val (.long cy), .second, .val (.int d1), .val (.int d2), .val (.long ax), .second, .val (.long ay), .second, .unset, .unset, .unset, .unset, .unset, .unset, .unset, .unset, .unset, .unset, .unset, .unset, .unset, .unset, .unset, .unset, .unset, .unset, .unset, .unset, .unset, .unset, .unset, .unset, .unset, .unset, .unset, .unset, .unset, .unset, .unset, .unset, .unset, .unset, .unset, .unset, .unset, .unset, .unset, .unset, .unset, .unset, .unset, .unset, .unset, .unset, .unset, .unset, .unset, .unset, .unset, .unset, .unset, .unset] [(.long (gapJ d1 ax vm))]))
  generalize hgx : (gapJ d1 ax vm) = gx
  show Ow p e below s _ _ _ (T173.setTop (mkF m 164 #[.val (.long q0), .second, .val (.long q1), .second, .val (.int p2), .val (.int p3), .val (.long q4), .second, .val (.long q5), .second, .val (.long vm), .second, .val (.long kx), .second, .val (.long vk), .second, .val (.long sd), .second, .val (.long vq), .second, .val (.long lo), .second, .val (.long hi), .second, .val (.long cn), .second, .val (.long cx), .second, .val (.long cy), .second, .val (.int d1), .val (.int d2), .val (.long ax), .second, .val (.long ay), .second, .unset, .unset, .unset, .unset, .unset, .unset, .unset, .unset, .unset, .unset, .unset, .unset, .unset, .unset, .unset, .unset, .unset, .unset, .unset, .unset, .unset, .unset, .unset, .unset, .unset, .unset, .unset, .unset, .unset, .unset, .unset, .unset, .unset, .unset, .unset, .unset, .unset, .unset, .unset, .unset, .unset, .unset, .unset, .unset, .unset, .unset, .unset, .unset, .unset, .unset, .unset, .unset, .unset, .unset] [(.long gx)]))
  have Bgx := q_g hgx Bd1 Bax Bm
  refine w_lstore X173 hx (Jvm.hb hby at_164) #[.val (.long q0), .second, .val (.long q1), .second, .val (.int p2), .val (.int p3), .val (.long q4), .second, .val (.long q5), .second, .val (.long vm), .second, .val (.long kx), .second, .val (.long vk), .second, .val (.long sd), .second, .val (.long vq), .second, .val (.long lo), .second, .val (.long hi), .second, .val (.long cn), .second, .val (.long cx), .second, .val (.long cy), .second, .val (.int d1), .val (.int d2), .val (.long ax), .second, .val (.long ay), .second, .val (.long gx), .second, .unset, .unset, .unset, .unset, .unset, .unset, .unset, .unset, .unset, .unset, .unset, .unset, .unset, .unset, .unset, .unset, .unset, .unset, .unset, .unset, .unset, .unset, .unset, .unset, .unset, .unset, .unset, .unset, .unset, .unset, .unset, .unset, .unset, .unset, .unset, .unset, .unset, .unset, .unset, .unset, .unset, .unset, .unset, .unset, .unset, .unset, .unset, .unset, .unset, .unset, .unset, .unset] rfl  (pc' := 166) rfl ?_
  refine w_iload X173 hx (Jvm.hb hby at_166) rfl (pc' := 168) rfl ?_
  refine w_lload X173 hx (Jvm.hb hby at_168) rfl (pc' := 170) rfl ?_
  refine w_lload X173 hx (Jvm.hb hby at_170) rfl (pc' := 172) rfl ?_
  refine w_callS X173 hx hZ hown (hw _ (List.mem_of_getElem? (i := 19) rfl)) (hw _ (List.mem_of_getElem? (i := 20) rfl)) (hw _ (List.mem_of_getElem? (i := 4) rfl)) (hw _ (List.mem_of_getElem? (i := 21) rfl)) (by decide) (W := 0) (rm4 l Z aw hw [] d2 ay vm h0) e173 (by decide) (by decide) (by decide) (by decide) (Jvm.hb hby at_172) (by rw [hml]; rfl) (argsL := [(.int d2), (.long ay), (.long vm)]) (rest := []) pd_5 rfl rfl rfl (Nat.le_of_eq rfl) (pc' := 175) rfl ?_
  rintro _ T174 L174 X174 ⟨rfl, e174, rfl⟩
  show Ow p e below s _ _ _ (T174.setTop (mkF m 175 #[.val (.long q0), .second, .val (.long q1), .second, .val (.int p2), .val (.int p3), .val (.long q4), .second, .val (.long q5), .second, .val (.long vm), .second, .val (.long kx), .second, .val (.long vk), .second, .val (.long sd), .second, .val (.long vq), .second, .val (.long lo), .second, .val (.long hi), .second, .val (.long cn), .second, .val (.long cx), .second, .val (.long cy), .second, .val (.int d1), .val (.int d2), .val (.long ax), .second, .val (.long ay), .second, .val (.long gx), .second, .unset, .unset, .unset, .unset, .unset, .unset, .unset, .unset, .unset, .unset, .unset, .unset, .unset, .unset, .unset, .unset, .unset, .unset, .unset, .unset, .unset, .unset, .unset, .unset, .unset, .unset, .unset, .unset, .unset, .unset, .unset, .unset, .unset, .unset, .unset, .unset, .unset, .unset, .unset, .unset, .unset, .unset, .unset, .unset, .unset, .unset, .unset, .unset, .unset, .unset, .unset, .unset] [(.long (gapJ d2 ay vm))]))
  generalize hgy : (gapJ d2 ay vm) = gy
  show Ow p e below s _ _ _ (T174.setTop (mkF m 175 #[.val (.long q0), .second, .val (.long q1), .second, .val (.int p2), .val (.int p3), .val (.long q4), .second, .val (.long q5), .second, .val (.long vm), .second, .val (.long kx), .second, .val (.long vk), .second, .val (.long sd), .second, .val (.long vq), .second, .val (.long lo), .second, .val (.long hi), .second, .val (.long cn), .second, .val (.long cx), .second, .val (.long cy), .second, .val (.int d1), .val (.int d2), .val (.long ax), .second, .val (.long ay), .second, .val (.long gx), .second, .unset, .unset, .unset, .unset, .unset, .unset, .unset, .unset, .unset, .unset, .unset, .unset, .unset, .unset, .unset, .unset, .unset, .unset, .unset, .unset, .unset, .unset, .unset, .unset, .unset, .unset, .unset, .unset, .unset, .unset, .unset, .unset, .unset, .unset, .unset, .unset, .unset, .unset, .unset, .unset, .unset, .unset, .unset, .unset, .unset, .unset, .unset, .unset, .unset, .unset, .unset, .unset] [(.long gy)]))
  have Bgy := q_g hgy Bd2 Bay Bm
  refine w_lstore X174 hx (Jvm.hb hby at_175) #[.val (.long q0), .second, .val (.long q1), .second, .val (.int p2), .val (.int p3), .val (.long q4), .second, .val (.long q5), .second, .val (.long vm), .second, .val (.long kx), .second, .val (.long vk), .second, .val (.long sd), .second, .val (.long vq), .second, .val (.long lo), .second, .val (.long hi), .second, .val (.long cn), .second, .val (.long cx), .second, .val (.long cy), .second, .val (.int d1), .val (.int d2), .val (.long ax), .second, .val (.long ay), .second, .val (.long gx), .second, .val (.long gy), .second, .unset, .unset, .unset, .unset, .unset, .unset, .unset, .unset, .unset, .unset, .unset, .unset, .unset, .unset, .unset, .unset, .unset, .unset, .unset, .unset, .unset, .unset, .unset, .unset, .unset, .unset, .unset, .unset, .unset, .unset, .unset, .unset, .unset, .unset, .unset, .unset, .unset, .unset, .unset, .unset, .unset, .unset, .unset, .unset, .unset, .unset, .unset, .unset, .unset, .unset] rfl  (pc' := 177) rfl ?_
  refine w_lload X174 hx (Jvm.hb hby at_177) rfl (pc' := 179) rfl ?_
  refine w_bipush X174 hx (24 : Int32) (Jvm.hb hby at_179) (by decide) (pc' := 181) rfl ?_
  refine w_lushr X174 hx (Jvm.hb hby at_181) (pc' := 182) rfl ?_
  refine w_ldc2J X174 hx hZ hown (hw _ (List.mem_of_getElem? (i := 18) rfl)) (Jvm.hb hby at_182) (pc' := 185) rfl ?_
  refine w_land X174 hx (Jvm.hb hby at_185) (pc' := 186) rfl ?_
  refine w_lload X174 hx (Jvm.hb hby at_186) rfl (pc' := 188) rfl ?_
  refine w_lload X174 hx (Jvm.hb hby at_188) rfl (pc' := 190) rfl ?_
  refine w_ladd X174 hx (Jvm.hb hby at_190) (pc' := 191) rfl ?_
  refine w_lrem X174 hx (Jvm.hb hby at_191) (q_nz (by rw [q_gs Bgx.2.2.2.1 Bgx.2.2.2.2 Bm]; have := Bgx.2.2.2.1; have := Bm.1; omega)) (pc' := 192) rfl ?_
  generalize hvs : (((lsr64 q4 (24 : Int32)) &&& (16777215 : Int64)) - (((lsr64 q4 (24 : Int32)) &&& (16777215 : Int64)) / (gx + vm)) * (gx + vm)) = vs
  show Ow p e below s _ _ _ (T174.setTop (mkF m 192 #[.val (.long q0), .second, .val (.long q1), .second, .val (.int p2), .val (.int p3), .val (.long q4), .second, .val (.long q5), .second, .val (.long vm), .second, .val (.long kx), .second, .val (.long vk), .second, .val (.long sd), .second, .val (.long vq), .second, .val (.long lo), .second, .val (.long hi), .second, .val (.long cn), .second, .val (.long cx), .second, .val (.long cy), .second, .val (.int d1), .val (.int d2), .val (.long ax), .second, .val (.long ay), .second, .val (.long gx), .second, .val (.long gy), .second, .unset, .unset, .unset, .unset, .unset, .unset, .unset, .unset, .unset, .unset, .unset, .unset, .unset, .unset, .unset, .unset, .unset, .unset, .unset, .unset, .unset, .unset, .unset, .unset, .unset, .unset, .unset, .unset, .unset, .unset, .unset, .unset, .unset, .unset, .unset, .unset, .unset, .unset, .unset, .unset, .unset, .unset, .unset, .unset, .unset, .unset, .unset, .unset, .unset, .unset] [(.long vs)]))
  have Bvs := q_rem hvs (q_msk _) (by rw [q_gs Bgx.2.2.2.1 Bgx.2.2.2.2 Bm]; have := Bgx.2.2.2.1; have := Bm.1; omega)
  refine w_lstore X174 hx (Jvm.hb hby at_192) #[.val (.long q0), .second, .val (.long q1), .second, .val (.int p2), .val (.int p3), .val (.long q4), .second, .val (.long q5), .second, .val (.long vm), .second, .val (.long kx), .second, .val (.long vk), .second, .val (.long sd), .second, .val (.long vq), .second, .val (.long lo), .second, .val (.long hi), .second, .val (.long cn), .second, .val (.long cx), .second, .val (.long cy), .second, .val (.int d1), .val (.int d2), .val (.long ax), .second, .val (.long ay), .second, .val (.long gx), .second, .val (.long gy), .second, .val (.long vs), .second, .unset, .unset, .unset, .unset, .unset, .unset, .unset, .unset, .unset, .unset, .unset, .unset, .unset, .unset, .unset, .unset, .unset, .unset, .unset, .unset, .unset, .unset, .unset, .unset, .unset, .unset, .unset, .unset, .unset, .unset, .unset, .unset, .unset, .unset, .unset, .unset, .unset, .unset, .unset, .unset, .unset, .unset, .unset, .unset, .unset, .unset, .unset, .unset] rfl  (pc' := 194) rfl ?_
  refine w_lload X174 hx (Jvm.hb hby at_194) rfl (pc' := 196) rfl ?_
  refine w_bipush X174 hx (24 : Int32) (Jvm.hb hby at_196) (by decide) (pc' := 198) rfl ?_
  refine w_lushr X174 hx (Jvm.hb hby at_198) (pc' := 199) rfl ?_
  refine w_ldc2J X174 hx hZ hown (hw _ (List.mem_of_getElem? (i := 18) rfl)) (Jvm.hb hby at_199) (pc' := 202) rfl ?_
  refine w_land X174 hx (Jvm.hb hby at_202) (pc' := 203) rfl ?_
  refine w_lload X174 hx (Jvm.hb hby at_203) rfl (pc' := 205) rfl ?_
  refine w_lload X174 hx (Jvm.hb hby at_205) rfl (pc' := 207) rfl ?_
  refine w_ladd X174 hx (Jvm.hb hby at_207) (pc' := 208) rfl ?_
  refine w_lrem X174 hx (Jvm.hb hby at_208) (q_nz (by rw [q_gs Bgy.2.2.2.1 Bgy.2.2.2.2 Bm]; have := Bgy.2.2.2.1; have := Bm.1; omega)) (pc' := 209) rfl ?_
  generalize hvt : (((lsr64 q5 (24 : Int32)) &&& (16777215 : Int64)) - (((lsr64 q5 (24 : Int32)) &&& (16777215 : Int64)) / (gy + vm)) * (gy + vm)) = vt
  show Ow p e below s _ _ _ (T174.setTop (mkF m 209 #[.val (.long q0), .second, .val (.long q1), .second, .val (.int p2), .val (.int p3), .val (.long q4), .second, .val (.long q5), .second, .val (.long vm), .second, .val (.long kx), .second, .val (.long vk), .second, .val (.long sd), .second, .val (.long vq), .second, .val (.long lo), .second, .val (.long hi), .second, .val (.long cn), .second, .val (.long cx), .second, .val (.long cy), .second, .val (.int d1), .val (.int d2), .val (.long ax), .second, .val (.long ay), .second, .val (.long gx), .second, .val (.long gy), .second, .val (.long vs), .second, .unset, .unset, .unset, .unset, .unset, .unset, .unset, .unset, .unset, .unset, .unset, .unset, .unset, .unset, .unset, .unset, .unset, .unset, .unset, .unset, .unset, .unset, .unset, .unset, .unset, .unset, .unset, .unset, .unset, .unset, .unset, .unset, .unset, .unset, .unset, .unset, .unset, .unset, .unset, .unset, .unset, .unset, .unset, .unset, .unset, .unset, .unset, .unset] [(.long vt)]))
  have Bvt := q_rem hvt (q_msk _) (by rw [q_gs Bgy.2.2.2.1 Bgy.2.2.2.2 Bm]; have := Bgy.2.2.2.1; have := Bm.1; omega)
  refine w_lstore X174 hx (Jvm.hb hby at_209) #[.val (.long q0), .second, .val (.long q1), .second, .val (.int p2), .val (.int p3), .val (.long q4), .second, .val (.long q5), .second, .val (.long vm), .second, .val (.long kx), .second, .val (.long vk), .second, .val (.long sd), .second, .val (.long vq), .second, .val (.long lo), .second, .val (.long hi), .second, .val (.long cn), .second, .val (.long cx), .second, .val (.long cy), .second, .val (.int d1), .val (.int d2), .val (.long ax), .second, .val (.long ay), .second, .val (.long gx), .second, .val (.long gy), .second, .val (.long vs), .second, .val (.long vt), .second, .unset, .unset, .unset, .unset, .unset, .unset, .unset, .unset, .unset, .unset, .unset, .unset, .unset, .unset, .unset, .unset, .unset, .unset, .unset, .unset, .unset, .unset, .unset, .unset, .unset, .unset, .unset, .unset, .unset, .unset, .unset, .unset, .unset, .unset, .unset, .unset, .unset, .unset, .unset, .unset, .unset, .unset, .unset, .unset, .unset, .unset] rfl  (pc' := 211) rfl ?_
  refine w_lload X174 hx (Jvm.hb hby at_211) rfl (pc' := 213) rfl ?_
  refine w_lload X174 hx (Jvm.hb hby at_213) rfl (pc' := 215) rfl ?_
  refine w_lmul X174 hx (Jvm.hb hby at_215) (pc' := 216) rfl ?_
  refine w_lload X174 hx (Jvm.hb hby at_216) rfl (pc' := 218) rfl ?_
  refine w_lload X174 hx (Jvm.hb hby at_218) rfl (pc' := 220) rfl ?_
  refine w_lmul X174 hx (Jvm.hb hby at_220) (pc' := 221) rfl ?_
  refine w_ladd X174 hx (Jvm.hb hby at_221) (pc' := 222) rfl ?_
  generalize hxa : ((cx * sd) + (ax * vk)) = xa
  show Ow p e below s _ _ _ (T174.setTop (mkF m 222 #[.val (.long q0), .second, .val (.long q1), .second, .val (.int p2), .val (.int p3), .val (.long q4), .second, .val (.long q5), .second, .val (.long vm), .second, .val (.long kx), .second, .val (.long vk), .second, .val (.long sd), .second, .val (.long vq), .second, .val (.long lo), .second, .val (.long hi), .second, .val (.long cn), .second, .val (.long cx), .second, .val (.long cy), .second, .val (.int d1), .val (.int d2), .val (.long ax), .second, .val (.long ay), .second, .val (.long gx), .second, .val (.long gy), .second, .val (.long vs), .second, .val (.long vt), .second, .unset, .unset, .unset, .unset, .unset, .unset, .unset, .unset, .unset, .unset, .unset, .unset, .unset, .unset, .unset, .unset, .unset, .unset, .unset, .unset, .unset, .unset, .unset, .unset, .unset, .unset, .unset, .unset, .unset, .unset, .unset, .unset, .unset, .unset, .unset, .unset, .unset, .unset, .unset, .unset, .unset, .unset, .unset, .unset, .unset, .unset] [(.long xa)]))
  refine w_lstore X174 hx (Jvm.hb hby at_222) #[.val (.long q0), .second, .val (.long q1), .second, .val (.int p2), .val (.int p3), .val (.long q4), .second, .val (.long q5), .second, .val (.long vm), .second, .val (.long kx), .second, .val (.long vk), .second, .val (.long sd), .second, .val (.long vq), .second, .val (.long lo), .second, .val (.long hi), .second, .val (.long cn), .second, .val (.long cx), .second, .val (.long cy), .second, .val (.int d1), .val (.int d2), .val (.long ax), .second, .val (.long ay), .second, .val (.long gx), .second, .val (.long gy), .second, .val (.long vs), .second, .val (.long vt), .second, .val (.long xa), .second, .unset, .unset, .unset, .unset, .unset, .unset, .unset, .unset, .unset, .unset, .unset, .unset, .unset, .unset, .unset, .unset, .unset, .unset, .unset, .unset, .unset, .unset, .unset, .unset, .unset, .unset, .unset, .unset, .unset, .unset, .unset, .unset, .unset, .unset, .unset, .unset, .unset, .unset, .unset, .unset, .unset, .unset, .unset, .unset] rfl  (pc' := 224) rfl ?_
  refine w_lload X174 hx (Jvm.hb hby at_224) rfl (pc' := 226) rfl ?_
  refine w_lload X174 hx (Jvm.hb hby at_226) rfl (pc' := 228) rfl ?_
  refine w_lmul X174 hx (Jvm.hb hby at_228) (pc' := 229) rfl ?_
  refine w_lload X174 hx (Jvm.hb hby at_229) rfl (pc' := 231) rfl ?_
  refine w_lload X174 hx (Jvm.hb hby at_231) rfl (pc' := 233) rfl ?_
  refine w_lmul X174 hx (Jvm.hb hby at_233) (pc' := 234) rfl ?_
  refine w_ladd X174 hx (Jvm.hb hby at_234) (pc' := 235) rfl ?_
  generalize hya : ((cy * sd) + (ay * vk)) = ya
  show Ow p e below s _ _ _ (T174.setTop (mkF m 235 #[.val (.long q0), .second, .val (.long q1), .second, .val (.int p2), .val (.int p3), .val (.long q4), .second, .val (.long q5), .second, .val (.long vm), .second, .val (.long kx), .second, .val (.long vk), .second, .val (.long sd), .second, .val (.long vq), .second, .val (.long lo), .second, .val (.long hi), .second, .val (.long cn), .second, .val (.long cx), .second, .val (.long cy), .second, .val (.int d1), .val (.int d2), .val (.long ax), .second, .val (.long ay), .second, .val (.long gx), .second, .val (.long gy), .second, .val (.long vs), .second, .val (.long vt), .second, .val (.long xa), .second, .unset, .unset, .unset, .unset, .unset, .unset, .unset, .unset, .unset, .unset, .unset, .unset, .unset, .unset, .unset, .unset, .unset, .unset, .unset, .unset, .unset, .unset, .unset, .unset, .unset, .unset, .unset, .unset, .unset, .unset, .unset, .unset, .unset, .unset, .unset, .unset, .unset, .unset, .unset, .unset, .unset, .unset, .unset, .unset] [(.long ya)]))
  refine w_lstore X174 hx (Jvm.hb hby at_235) #[.val (.long q0), .second, .val (.long q1), .second, .val (.int p2), .val (.int p3), .val (.long q4), .second, .val (.long q5), .second, .val (.long vm), .second, .val (.long kx), .second, .val (.long vk), .second, .val (.long sd), .second, .val (.long vq), .second, .val (.long lo), .second, .val (.long hi), .second, .val (.long cn), .second, .val (.long cx), .second, .val (.long cy), .second, .val (.int d1), .val (.int d2), .val (.long ax), .second, .val (.long ay), .second, .val (.long gx), .second, .val (.long gy), .second, .val (.long vs), .second, .val (.long vt), .second, .val (.long xa), .second, .val (.long ya), .second, .unset, .unset, .unset, .unset, .unset, .unset, .unset, .unset, .unset, .unset, .unset, .unset, .unset, .unset, .unset, .unset, .unset, .unset, .unset, .unset, .unset, .unset, .unset, .unset, .unset, .unset, .unset, .unset, .unset, .unset, .unset, .unset, .unset, .unset, .unset, .unset, .unset, .unset, .unset, .unset, .unset, .unset] rfl  (pc' := 237) rfl ?_
  obtain ⟨xb, hxb⟩ : ∃ v : Int64, v = (if d1 = (0 : Int32) then (xa + (vs * vk)) else (xa - (vs * vk))) := ⟨_, rfl⟩
  refine Ow.join T174 (mkF m 261 #[.val (.long q0), .second, .val (.long q1), .second, .val (.int p2), .val (.int p3), .val (.long q4), .second, .val (.long q5), .second, .val (.long vm), .second, .val (.long kx), .second, .val (.long vk), .second, .val (.long sd), .second, .val (.long vq), .second, .val (.long lo), .second, .val (.long hi), .second, .val (.long cn), .second, .val (.long cx), .second, .val (.long cy), .second, .val (.int d1), .val (.int d2), .val (.long ax), .second, .val (.long ay), .second, .val (.long gx), .second, .val (.long gy), .second, .val (.long vs), .second, .val (.long vt), .second, .val (.long xa), .second, .val (.long ya), .second, .unset, .unset, .unset, .unset, .unset, .unset, .unset, .unset, .unset, .unset, .unset, .unset, .unset, .unset, .unset, .unset, .unset, .unset, .unset, .unset, .unset, .unset, .unset, .unset, .unset, .unset, .unset, .unset, .unset, .unset, .unset, .unset, .unset, .unset, .unset, .unset, .unset, .unset, .unset, .unset, .unset, .unset] [(.long xb)]) (fun K => ?_) ?_
  · refine w_iload X174 hx (Jvm.hb hby at_237) rfl (pc' := 239) rfl ?_
    refine w_if_eq X174 hx (Jvm.hb hby at_239) (by decide) (pcT := 253) (by decide) (pcF := 242) rfl (fun hj239_0 => ?_) (fun hj239_0 => ?_)
    · refine w_lload X174 hx (Jvm.hb hby at_253) rfl (pc' := 255) rfl ?_
      refine w_lload X174 hx (Jvm.hb hby at_255) rfl (pc' := 257) rfl ?_
      refine w_lload X174 hx (Jvm.hb hby at_257) rfl (pc' := 259) rfl ?_
      refine w_lmul X174 hx (Jvm.hb hby at_259) (pc' := 260) rfl ?_
      refine w_ladd X174 hx (Jvm.hb hby at_260) (pc' := 261) rfl ?_
      rw [hxb, if_pos hj239_0] at K; exact K
    · refine w_lload X174 hx (Jvm.hb hby at_242) rfl (pc' := 244) rfl ?_
      refine w_lload X174 hx (Jvm.hb hby at_244) rfl (pc' := 246) rfl ?_
      refine w_lload X174 hx (Jvm.hb hby at_246) rfl (pc' := 248) rfl ?_
      refine w_lmul X174 hx (Jvm.hb hby at_248) (pc' := 249) rfl ?_
      refine w_lsub X174 hx (Jvm.hb hby at_249) (pc' := 250) rfl ?_
      refine w_goto X174 hx (Jvm.hb hby at_250) (by decide) (pc' := 261) (by decide) ?_
      rw [hxb, if_neg hj239_0] at K; exact K
  refine w_lstore X174 hx (Jvm.hb hby at_261) #[.val (.long q0), .second, .val (.long q1), .second, .val (.int p2), .val (.int p3), .val (.long q4), .second, .val (.long q5), .second, .val (.long vm), .second, .val (.long kx), .second, .val (.long vk), .second, .val (.long sd), .second, .val (.long vq), .second, .val (.long lo), .second, .val (.long hi), .second, .val (.long cn), .second, .val (.long cx), .second, .val (.long cy), .second, .val (.int d1), .val (.int d2), .val (.long ax), .second, .val (.long ay), .second, .val (.long gx), .second, .val (.long gy), .second, .val (.long vs), .second, .val (.long vt), .second, .val (.long xa), .second, .val (.long ya), .second, .val (.long xb), .second, .unset, .unset, .unset, .unset, .unset, .unset, .unset, .unset, .unset, .unset, .unset, .unset, .unset, .unset, .unset, .unset, .unset, .unset, .unset, .unset, .unset, .unset, .unset, .unset, .unset, .unset, .unset, .unset, .unset, .unset, .unset, .unset, .unset, .unset, .unset, .unset, .unset, .unset, .unset, .unset] rfl  (pc' := 263) rfl ?_
  obtain ⟨yb, hyb⟩ : ∃ v : Int64, v = (if d2 = (0 : Int32) then (ya + (vt * vk)) else (ya - (vt * vk))) := ⟨_, rfl⟩
  refine Ow.join T174 (mkF m 287 #[.val (.long q0), .second, .val (.long q1), .second, .val (.int p2), .val (.int p3), .val (.long q4), .second, .val (.long q5), .second, .val (.long vm), .second, .val (.long kx), .second, .val (.long vk), .second, .val (.long sd), .second, .val (.long vq), .second, .val (.long lo), .second, .val (.long hi), .second, .val (.long cn), .second, .val (.long cx), .second, .val (.long cy), .second, .val (.int d1), .val (.int d2), .val (.long ax), .second, .val (.long ay), .second, .val (.long gx), .second, .val (.long gy), .second, .val (.long vs), .second, .val (.long vt), .second, .val (.long xa), .second, .val (.long ya), .second, .val (.long xb), .second, .unset, .unset, .unset, .unset, .unset, .unset, .unset, .unset, .unset, .unset, .unset, .unset, .unset, .unset, .unset, .unset, .unset, .unset, .unset, .unset, .unset, .unset, .unset, .unset, .unset, .unset, .unset, .unset, .unset, .unset, .unset, .unset, .unset, .unset, .unset, .unset, .unset, .unset, .unset, .unset] [(.long yb)]) (fun K => ?_) ?_
  · refine w_iload X174 hx (Jvm.hb hby at_263) rfl (pc' := 265) rfl ?_
    refine w_if_eq X174 hx (Jvm.hb hby at_265) (by decide) (pcT := 279) (by decide) (pcF := 268) rfl (fun hj265_0 => ?_) (fun hj265_0 => ?_)
    · refine w_lload X174 hx (Jvm.hb hby at_279) rfl (pc' := 281) rfl ?_
      refine w_lload X174 hx (Jvm.hb hby at_281) rfl (pc' := 283) rfl ?_
      refine w_lload X174 hx (Jvm.hb hby at_283) rfl (pc' := 285) rfl ?_
      refine w_lmul X174 hx (Jvm.hb hby at_285) (pc' := 286) rfl ?_
      refine w_ladd X174 hx (Jvm.hb hby at_286) (pc' := 287) rfl ?_
      rw [hyb, if_pos hj265_0] at K; exact K
    · refine w_lload X174 hx (Jvm.hb hby at_268) rfl (pc' := 270) rfl ?_
      refine w_lload X174 hx (Jvm.hb hby at_270) rfl (pc' := 272) rfl ?_
      refine w_lload X174 hx (Jvm.hb hby at_272) rfl (pc' := 274) rfl ?_
      refine w_lmul X174 hx (Jvm.hb hby at_274) (pc' := 275) rfl ?_
      refine w_lsub X174 hx (Jvm.hb hby at_275) (pc' := 276) rfl ?_
      refine w_goto X174 hx (Jvm.hb hby at_276) (by decide) (pc' := 287) (by decide) ?_
      rw [hyb, if_neg hj265_0] at K; exact K
  refine w_lstore X174 hx (Jvm.hb hby at_287) #[.val (.long q0), .second, .val (.long q1), .second, .val (.int p2), .val (.int p3), .val (.long q4), .second, .val (.long q5), .second, .val (.long vm), .second, .val (.long kx), .second, .val (.long vk), .second, .val (.long sd), .second, .val (.long vq), .second, .val (.long lo), .second, .val (.long hi), .second, .val (.long cn), .second, .val (.long cx), .second, .val (.long cy), .second, .val (.int d1), .val (.int d2), .val (.long ax), .second, .val (.long ay), .second, .val (.long gx), .second, .val (.long gy), .second, .val (.long vs), .second, .val (.long vt), .second, .val (.long xa), .second, .val (.long ya), .second, .val (.long xb), .second, .val (.long yb), .second, .unset, .unset, .unset, .unset, .unset, .unset, .unset, .unset, .unset, .unset, .unset, .unset, .unset, .unset, .unset, .unset, .unset, .unset, .unset, .unset, .unset, .unset, .unset, .unset, .unset, .unset, .unset, .unset, .unset, .unset, .unset, .unset, .unset, .unset, .unset, .unset, .unset, .unset] rfl  (pc' := 289) rfl ?_
  obtain ⟨dx, hdx⟩ : ∃ v : Int64, v = (if d1 = (0 : Int32) then (1 : Int64) else (-1 : Int64)) := ⟨_, rfl⟩
  refine Ow.join T174 (mkF m 301 #[.val (.long q0), .second, .val (.long q1), .second, .val (.int p2), .val (.int p3), .val (.long q4), .second, .val (.long q5), .second, .val (.long vm), .second, .val (.long kx), .second, .val (.long vk), .second, .val (.long sd), .second, .val (.long vq), .second, .val (.long lo), .second, .val (.long hi), .second, .val (.long cn), .second, .val (.long cx), .second, .val (.long cy), .second, .val (.int d1), .val (.int d2), .val (.long ax), .second, .val (.long ay), .second, .val (.long gx), .second, .val (.long gy), .second, .val (.long vs), .second, .val (.long vt), .second, .val (.long xa), .second, .val (.long ya), .second, .val (.long xb), .second, .val (.long yb), .second, .unset, .unset, .unset, .unset, .unset, .unset, .unset, .unset, .unset, .unset, .unset, .unset, .unset, .unset, .unset, .unset, .unset, .unset, .unset, .unset, .unset, .unset, .unset, .unset, .unset, .unset, .unset, .unset, .unset, .unset, .unset, .unset, .unset, .unset, .unset, .unset, .unset, .unset] [(.long dx)]) (fun K => ?_) ?_
  · refine w_iload X174 hx (Jvm.hb hby at_289) rfl (pc' := 291) rfl ?_
    refine w_if_eq X174 hx (Jvm.hb hby at_291) (by decide) (pcT := 300) (by decide) (pcF := 294) rfl (fun hj291_0 => ?_) (fun hj291_0 => ?_)
    · refine w_lconst X174 hx (1 : Int64) (Jvm.hb hby at_300) (by decide) (pc' := 301) rfl ?_
      rw [hdx, if_pos hj291_0] at K; exact K
    · refine w_ldc2J X174 hx hZ hown (hw _ (List.mem_of_getElem? (i := 81) rfl)) (Jvm.hb hby at_294) (pc' := 297) rfl ?_
      refine w_goto X174 hx (Jvm.hb hby at_297) (by decide) (pc' := 301) (by decide) ?_
      rw [hdx, if_neg hj291_0] at K; exact K
  refine w_lstore X174 hx (Jvm.hb hby at_301) #[.val (.long q0), .second, .val (.long q1), .second, .val (.int p2), .val (.int p3), .val (.long q4), .second, .val (.long q5), .second, .val (.long vm), .second, .val (.long kx), .second, .val (.long vk), .second, .val (.long sd), .second, .val (.long vq), .second, .val (.long lo), .second, .val (.long hi), .second, .val (.long cn), .second, .val (.long cx), .second, .val (.long cy), .second, .val (.int d1), .val (.int d2), .val (.long ax), .second, .val (.long ay), .second, .val (.long gx), .second, .val (.long gy), .second, .val (.long vs), .second, .val (.long vt), .second, .val (.long xa), .second, .val (.long ya), .second, .val (.long xb), .second, .val (.long yb), .second, .val (.long dx), .second, .unset, .unset, .unset, .unset, .unset, .unset, .unset, .unset, .unset, .unset, .unset, .unset, .unset, .unset, .unset, .unset, .unset, .unset, .unset, .unset, .unset, .unset, .unset, .unset, .unset, .unset, .unset, .unset, .unset, .unset, .unset, .unset, .unset, .unset, .unset, .unset] rfl  (pc' := 303) rfl ?_
  obtain ⟨dy, hdy⟩ : ∃ v : Int64, v = (if d2 = (0 : Int32) then (1 : Int64) else (-1 : Int64)) := ⟨_, rfl⟩
  refine Ow.join T174 (mkF m 315 #[.val (.long q0), .second, .val (.long q1), .second, .val (.int p2), .val (.int p3), .val (.long q4), .second, .val (.long q5), .second, .val (.long vm), .second, .val (.long kx), .second, .val (.long vk), .second, .val (.long sd), .second, .val (.long vq), .second, .val (.long lo), .second, .val (.long hi), .second, .val (.long cn), .second, .val (.long cx), .second, .val (.long cy), .second, .val (.int d1), .val (.int d2), .val (.long ax), .second, .val (.long ay), .second, .val (.long gx), .second, .val (.long gy), .second, .val (.long vs), .second, .val (.long vt), .second, .val (.long xa), .second, .val (.long ya), .second, .val (.long xb), .second, .val (.long yb), .second, .val (.long dx), .second, .unset, .unset, .unset, .unset, .unset, .unset, .unset, .unset, .unset, .unset, .unset, .unset, .unset, .unset, .unset, .unset, .unset, .unset, .unset, .unset, .unset, .unset, .unset, .unset, .unset, .unset, .unset, .unset, .unset, .unset, .unset, .unset, .unset, .unset, .unset, .unset] [(.long dy)]) (fun K => ?_) ?_
  · refine w_iload X174 hx (Jvm.hb hby at_303) rfl (pc' := 305) rfl ?_
    refine w_if_eq X174 hx (Jvm.hb hby at_305) (by decide) (pcT := 314) (by decide) (pcF := 308) rfl (fun hj305_0 => ?_) (fun hj305_0 => ?_)
    · refine w_lconst X174 hx (1 : Int64) (Jvm.hb hby at_314) (by decide) (pc' := 315) rfl ?_
      rw [hdy, if_pos hj305_0] at K; exact K
    · refine w_ldc2J X174 hx hZ hown (hw _ (List.mem_of_getElem? (i := 81) rfl)) (Jvm.hb hby at_308) (pc' := 311) rfl ?_
      refine w_goto X174 hx (Jvm.hb hby at_311) (by decide) (pc' := 315) (by decide) ?_
      rw [hdy, if_neg hj305_0] at K; exact K
  refine w_lstore X174 hx (Jvm.hb hby at_315) #[.val (.long q0), .second, .val (.long q1), .second, .val (.int p2), .val (.int p3), .val (.long q4), .second, .val (.long q5), .second, .val (.long vm), .second, .val (.long kx), .second, .val (.long vk), .second, .val (.long sd), .second, .val (.long vq), .second, .val (.long lo), .second, .val (.long hi), .second, .val (.long cn), .second, .val (.long cx), .second, .val (.long cy), .second, .val (.int d1), .val (.int d2), .val (.long ax), .second, .val (.long ay), .second, .val (.long gx), .second, .val (.long gy), .second, .val (.long vs), .second, .val (.long vt), .second, .val (.long xa), .second, .val (.long ya), .second, .val (.long xb), .second, .val (.long yb), .second, .val (.long dx), .second, .val (.long dy), .second, .unset, .unset, .unset, .unset, .unset, .unset, .unset, .unset, .unset, .unset, .unset, .unset, .unset, .unset, .unset, .unset, .unset, .unset, .unset, .unset, .unset, .unset, .unset, .unset, .unset, .unset, .unset, .unset, .unset, .unset, .unset, .unset, .unset, .unset] rfl  (pc' := 317) rfl ?_
  obtain ⟨wc, hwc⟩ : ∃ v : Int64, v = (if d1 = (0 : Int32) then cx else (if ax = (0 : Int64) then (cx - (1 : Int64)) else cx)) := ⟨_, rfl⟩
  refine Ow.join T174 (mkF m 338 #[.val (.long q0), .second, .val (.long q1), .second, .val (.int p2), .val (.int p3), .val (.long q4), .second, .val (.long q5), .second, .val (.long vm), .second, .val (.long kx), .second, .val (.long vk), .second, .val (.long sd), .second, .val (.long vq), .second, .val (.long lo), .second, .val (.long hi), .second, .val (.long cn), .second, .val (.long cx), .second, .val (.long cy), .second, .val (.int d1), .val (.int d2), .val (.long ax), .second, .val (.long ay), .second, .val (.long gx), .second, .val (.long gy), .second, .val (.long vs), .second, .val (.long vt), .second, .val (.long xa), .second, .val (.long ya), .second, .val (.long xb), .second, .val (.long yb), .second, .val (.long dx), .second, .val (.long dy), .second, .unset, .unset, .unset, .unset, .unset, .unset, .unset, .unset, .unset, .unset, .unset, .unset, .unset, .unset, .unset, .unset, .unset, .unset, .unset, .unset, .unset, .unset, .unset, .unset, .unset, .unset, .unset, .unset, .unset, .unset, .unset, .unset, .unset, .unset] [(.long wc)]) (fun K => ?_) ?_
  · refine w_iload X174 hx (Jvm.hb hby at_317) rfl (pc' := 319) rfl ?_
    refine w_if_eq X174 hx (Jvm.hb hby at_319) (by decide) (pcT := 336) (by decide) (pcF := 322) rfl (fun hj319_0 => ?_) (fun hj319_0 => ?_)
    · refine w_lload X174 hx (Jvm.hb hby at_336) rfl (pc' := 338) rfl ?_
      rw [hwc, if_pos hj319_0] at K; exact K
    · refine w_lload X174 hx (Jvm.hb hby at_322) rfl (pc' := 324) rfl ?_
      refine w_lconst X174 hx (0 : Int64) (Jvm.hb hby at_324) (by decide) (pc' := 325) rfl ?_
      refine w_lcmp_ne X174 hx (Jvm.hb hby at_325) (Jvm.hb hby at_326) rfl (by decide) (pcT := 336) (by decide) (pcF := 329) rfl (fun hj325_1 => ?_) (fun hj325_1 => ?_)
      · refine w_lload X174 hx (Jvm.hb hby at_336) rfl (pc' := 338) rfl ?_
        rw [hwc, if_neg hj319_0, if_neg hj325_1] at K; exact K
      · refine w_lload X174 hx (Jvm.hb hby at_329) rfl (pc' := 331) rfl ?_
        refine w_lconst X174 hx (1 : Int64) (Jvm.hb hby at_331) (by decide) (pc' := 332) rfl ?_
        refine w_lsub X174 hx (Jvm.hb hby at_332) (pc' := 333) rfl ?_
        refine w_goto X174 hx (Jvm.hb hby at_333) (by decide) (pc' := 338) (by decide) ?_
        rw [hwc, if_neg hj319_0, if_pos hj325_1] at K; exact K
  refine w_lstore X174 hx (Jvm.hb hby at_338) #[.val (.long q0), .second, .val (.long q1), .second, .val (.int p2), .val (.int p3), .val (.long q4), .second, .val (.long q5), .second, .val (.long vm), .second, .val (.long kx), .second, .val (.long vk), .second, .val (.long sd), .second, .val (.long vq), .second, .val (.long lo), .second, .val (.long hi), .second, .val (.long cn), .second, .val (.long cx), .second, .val (.long cy), .second, .val (.int d1), .val (.int d2), .val (.long ax), .second, .val (.long ay), .second, .val (.long gx), .second, .val (.long gy), .second, .val (.long vs), .second, .val (.long vt), .second, .val (.long xa), .second, .val (.long ya), .second, .val (.long xb), .second, .val (.long yb), .second, .val (.long dx), .second, .val (.long dy), .second, .val (.long wc), .second, .unset, .unset, .unset, .unset, .unset, .unset, .unset, .unset, .unset, .unset, .unset, .unset, .unset, .unset, .unset, .unset, .unset, .unset, .unset, .unset, .unset, .unset, .unset, .unset, .unset, .unset, .unset, .unset, .unset, .unset, .unset, .unset] rfl  (pc' := 340) rfl ?_
  obtain ⟨wr, hwr⟩ : ∃ v : Int64, v = (if d2 = (0 : Int32) then cy else (if ay = (0 : Int64) then (cy - (1 : Int64)) else cy)) := ⟨_, rfl⟩
  refine Ow.join T174 (mkF m 361 #[.val (.long q0), .second, .val (.long q1), .second, .val (.int p2), .val (.int p3), .val (.long q4), .second, .val (.long q5), .second, .val (.long vm), .second, .val (.long kx), .second, .val (.long vk), .second, .val (.long sd), .second, .val (.long vq), .second, .val (.long lo), .second, .val (.long hi), .second, .val (.long cn), .second, .val (.long cx), .second, .val (.long cy), .second, .val (.int d1), .val (.int d2), .val (.long ax), .second, .val (.long ay), .second, .val (.long gx), .second, .val (.long gy), .second, .val (.long vs), .second, .val (.long vt), .second, .val (.long xa), .second, .val (.long ya), .second, .val (.long xb), .second, .val (.long yb), .second, .val (.long dx), .second, .val (.long dy), .second, .val (.long wc), .second, .unset, .unset, .unset, .unset, .unset, .unset, .unset, .unset, .unset, .unset, .unset, .unset, .unset, .unset, .unset, .unset, .unset, .unset, .unset, .unset, .unset, .unset, .unset, .unset, .unset, .unset, .unset, .unset, .unset, .unset, .unset, .unset] [(.long wr)]) (fun K => ?_) ?_
  · refine w_iload X174 hx (Jvm.hb hby at_340) rfl (pc' := 342) rfl ?_
    refine w_if_eq X174 hx (Jvm.hb hby at_342) (by decide) (pcT := 359) (by decide) (pcF := 345) rfl (fun hj342_0 => ?_) (fun hj342_0 => ?_)
    · refine w_lload X174 hx (Jvm.hb hby at_359) rfl (pc' := 361) rfl ?_
      rw [hwr, if_pos hj342_0] at K; exact K
    · refine w_lload X174 hx (Jvm.hb hby at_345) rfl (pc' := 347) rfl ?_
      refine w_lconst X174 hx (0 : Int64) (Jvm.hb hby at_347) (by decide) (pc' := 348) rfl ?_
      refine w_lcmp_ne X174 hx (Jvm.hb hby at_348) (Jvm.hb hby at_349) rfl (by decide) (pcT := 359) (by decide) (pcF := 352) rfl (fun hj348_1 => ?_) (fun hj348_1 => ?_)
      · refine w_lload X174 hx (Jvm.hb hby at_359) rfl (pc' := 361) rfl ?_
        rw [hwr, if_neg hj342_0, if_neg hj348_1] at K; exact K
      · refine w_lload X174 hx (Jvm.hb hby at_352) rfl (pc' := 354) rfl ?_
        refine w_lconst X174 hx (1 : Int64) (Jvm.hb hby at_354) (by decide) (pc' := 355) rfl ?_
        refine w_lsub X174 hx (Jvm.hb hby at_355) (pc' := 356) rfl ?_
        refine w_goto X174 hx (Jvm.hb hby at_356) (by decide) (pc' := 361) (by decide) ?_
        rw [hwr, if_neg hj342_0, if_pos hj348_1] at K; exact K
  refine w_lstore X174 hx (Jvm.hb hby at_361) #[.val (.long q0), .second, .val (.long q1), .second, .val (.int p2), .val (.int p3), .val (.long q4), .second, .val (.long q5), .second, .val (.long vm), .second, .val (.long kx), .second, .val (.long vk), .second, .val (.long sd), .second, .val (.long vq), .second, .val (.long lo), .second, .val (.long hi), .second, .val (.long cn), .second, .val (.long cx), .second, .val (.long cy), .second, .val (.int d1), .val (.int d2), .val (.long ax), .second, .val (.long ay), .second, .val (.long gx), .second, .val (.long gy), .second, .val (.long vs), .second, .val (.long vt), .second, .val (.long xa), .second, .val (.long ya), .second, .val (.long xb), .second, .val (.long yb), .second, .val (.long dx), .second, .val (.long dy), .second, .val (.long wc), .second, .val (.long wr), .second, .unset, .unset, .unset, .unset, .unset, .unset, .unset, .unset, .unset, .unset, .unset, .unset, .unset, .unset, .unset, .unset, .unset, .unset, .unset, .unset, .unset, .unset, .unset, .unset, .unset, .unset, .unset, .unset, .unset, .unset] rfl  (pc' := 363) rfl ?_
  obtain ⟨pv, hpv⟩ : ∃ v : Int32, v = (if vs = (0 : Int64) then (if ax = (0 : Int64) then (0 : Int32) else (if vt = (0 : Int64) then (if ay = (0 : Int64) then (0 : Int32) else (1 : Int32)) else (1 : Int32))) else (if vt = (0 : Int64) then (if ay = (0 : Int64) then (0 : Int32) else (1 : Int32)) else (1 : Int32))) := ⟨_, rfl⟩
  refine Ow.join T174 (mkF m 396 #[.val (.long q0), .second, .val (.long q1), .second, .val (.int p2), .val (.int p3), .val (.long q4), .second, .val (.long q5), .second, .val (.long vm), .second, .val (.long kx), .second, .val (.long vk), .second, .val (.long sd), .second, .val (.long vq), .second, .val (.long lo), .second, .val (.long hi), .second, .val (.long cn), .second, .val (.long cx), .second, .val (.long cy), .second, .val (.int d1), .val (.int d2), .val (.long ax), .second, .val (.long ay), .second, .val (.long gx), .second, .val (.long gy), .second, .val (.long vs), .second, .val (.long vt), .second, .val (.long xa), .second, .val (.long ya), .second, .val (.long xb), .second, .val (.long yb), .second, .val (.long dx), .second, .val (.long dy), .second, .val (.long wc), .second, .val (.long wr), .second, .unset, .unset, .unset, .unset, .unset, .unset, .unset, .unset, .unset, .unset, .unset, .unset, .unset, .unset, .unset, .unset, .unset, .unset, .unset, .unset, .unset, .unset, .unset, .unset, .unset, .unset, .unset, .unset, .unset, .unset] [(.int pv)]) (fun K => ?_) ?_
  · refine w_lload X174 hx (Jvm.hb hby at_363) rfl (pc' := 365) rfl ?_
    refine w_lconst X174 hx (0 : Int64) (Jvm.hb hby at_365) (by decide) (pc' := 366) rfl ?_
    refine w_lcmp_ne X174 hx (Jvm.hb hby at_366) (Jvm.hb hby at_367) rfl (by decide) (pcT := 377) (by decide) (pcF := 370) rfl (fun hj366_0 => ?_) (fun hj366_0 => ?_)
    · refine w_lload X174 hx (Jvm.hb hby at_377) rfl (pc' := 379) rfl ?_
      refine w_lconst X174 hx (0 : Int64) (Jvm.hb hby at_379) (by decide) (pc' := 380) rfl ?_
      refine w_lcmp_ne X174 hx (Jvm.hb hby at_380) (Jvm.hb hby at_381) rfl (by decide) (pcT := 391) (by decide) (pcF := 384) rfl (fun hj380_1 => ?_) (fun hj380_1 => ?_)
      · refine w_iconst X174 hx (1 : Int32) (Jvm.hb hby at_391) (by decide) (pc' := 392) rfl ?_
        refine w_goto X174 hx (Jvm.hb hby at_392) (by decide) (pc' := 396) (by decide) ?_
        rw [hpv, if_neg hj366_0, if_neg hj380_1] at K; exact K
      · refine w_lload X174 hx (Jvm.hb hby at_384) rfl (pc' := 386) rfl ?_
        refine w_lconst X174 hx (0 : Int64) (Jvm.hb hby at_386) (by decide) (pc' := 387) rfl ?_
        refine w_lcmp_eq X174 hx (Jvm.hb hby at_387) (Jvm.hb hby at_388) rfl (by decide) (pcT := 395) (by decide) (pcF := 391) rfl (fun hj387_2 => ?_) (fun hj387_2 => ?_)
        · refine w_iconst X174 hx (0 : Int32) (Jvm.hb hby at_395) (by decide) (pc' := 396) rfl ?_
          rw [hpv, if_neg hj366_0, if_pos hj380_1, if_pos hj387_2] at K; exact K
        · refine w_iconst X174 hx (1 : Int32) (Jvm.hb hby at_391) (by decide) (pc' := 392) rfl ?_
          refine w_goto X174 hx (Jvm.hb hby at_392) (by decide) (pc' := 396) (by decide) ?_
          rw [hpv, if_neg hj366_0, if_pos hj380_1, if_neg hj387_2] at K; exact K
    · refine w_lload X174 hx (Jvm.hb hby at_370) rfl (pc' := 372) rfl ?_
      refine w_lconst X174 hx (0 : Int64) (Jvm.hb hby at_372) (by decide) (pc' := 373) rfl ?_
      refine w_lcmp_eq X174 hx (Jvm.hb hby at_373) (Jvm.hb hby at_374) rfl (by decide) (pcT := 395) (by decide) (pcF := 377) rfl (fun hj373_1 => ?_) (fun hj373_1 => ?_)
      · refine w_iconst X174 hx (0 : Int32) (Jvm.hb hby at_395) (by decide) (pc' := 396) rfl ?_
        rw [hpv, if_pos hj366_0, if_pos hj373_1] at K; exact K
      · refine w_lload X174 hx (Jvm.hb hby at_377) rfl (pc' := 379) rfl ?_
        refine w_lconst X174 hx (0 : Int64) (Jvm.hb hby at_379) (by decide) (pc' := 380) rfl ?_
        refine w_lcmp_ne X174 hx (Jvm.hb hby at_380) (Jvm.hb hby at_381) rfl (by decide) (pcT := 391) (by decide) (pcF := 384) rfl (fun hj380_2 => ?_) (fun hj380_2 => ?_)
        · refine w_iconst X174 hx (1 : Int32) (Jvm.hb hby at_391) (by decide) (pc' := 392) rfl ?_
          refine w_goto X174 hx (Jvm.hb hby at_392) (by decide) (pc' := 396) (by decide) ?_
          rw [hpv, if_pos hj366_0, if_neg hj373_1, if_neg hj380_2] at K; exact K
        · refine w_lload X174 hx (Jvm.hb hby at_384) rfl (pc' := 386) rfl ?_
          refine w_lconst X174 hx (0 : Int64) (Jvm.hb hby at_386) (by decide) (pc' := 387) rfl ?_
          refine w_lcmp_eq X174 hx (Jvm.hb hby at_387) (Jvm.hb hby at_388) rfl (by decide) (pcT := 395) (by decide) (pcF := 391) rfl (fun hj387_3 => ?_) (fun hj387_3 => ?_)
          · refine w_iconst X174 hx (0 : Int32) (Jvm.hb hby at_395) (by decide) (pc' := 396) rfl ?_
            rw [hpv, if_pos hj366_0, if_neg hj373_1, if_pos hj380_2, if_pos hj387_3] at K; exact K
          · refine w_iconst X174 hx (1 : Int32) (Jvm.hb hby at_391) (by decide) (pc' := 392) rfl ?_
            refine w_goto X174 hx (Jvm.hb hby at_392) (by decide) (pc' := 396) (by decide) ?_
            rw [hpv, if_pos hj366_0, if_neg hj373_1, if_pos hj380_2, if_neg hj387_3] at K; exact K
  refine w_istore X174 hx (Jvm.hb hby at_396) #[.val (.long q0), .second, .val (.long q1), .second, .val (.int p2), .val (.int p3), .val (.long q4), .second, .val (.long q5), .second, .val (.long vm), .second, .val (.long kx), .second, .val (.long vk), .second, .val (.long sd), .second, .val (.long vq), .second, .val (.long lo), .second, .val (.long hi), .second, .val (.long cn), .second, .val (.long cx), .second, .val (.long cy), .second, .val (.int d1), .val (.int d2), .val (.long ax), .second, .val (.long ay), .second, .val (.long gx), .second, .val (.long gy), .second, .val (.long vs), .second, .val (.long vt), .second, .val (.long xa), .second, .val (.long ya), .second, .val (.long xb), .second, .val (.long yb), .second, .val (.long dx), .second, .val (.long dy), .second, .val (.long wc), .second, .val (.long wr), .second, .val (.int pv), .unset, .unset, .unset, .unset, .unset, .unset, .unset, .unset, .unset, .unset, .unset, .unset, .unset, .unset, .unset, .unset, .unset, .unset, .unset, .unset, .unset, .unset, .unset, .unset, .unset, .unset, .unset, .unset, .unset] rfl  (pc' := 398) rfl ?_
  obtain ⟨bx, hbx⟩ : ∃ v : Int32, v = (if gx < vs then (1 : Int32) else (0 : Int32)) := ⟨_, rfl⟩
  refine Ow.join T174 (mkF m 411 #[.val (.long q0), .second, .val (.long q1), .second, .val (.int p2), .val (.int p3), .val (.long q4), .second, .val (.long q5), .second, .val (.long vm), .second, .val (.long kx), .second, .val (.long vk), .second, .val (.long sd), .second, .val (.long vq), .second, .val (.long lo), .second, .val (.long hi), .second, .val (.long cn), .second, .val (.long cx), .second, .val (.long cy), .second, .val (.int d1), .val (.int d2), .val (.long ax), .second, .val (.long ay), .second, .val (.long gx), .second, .val (.long gy), .second, .val (.long vs), .second, .val (.long vt), .second, .val (.long xa), .second, .val (.long ya), .second, .val (.long xb), .second, .val (.long yb), .second, .val (.long dx), .second, .val (.long dy), .second, .val (.long wc), .second, .val (.long wr), .second, .val (.int pv), .unset, .unset, .unset, .unset, .unset, .unset, .unset, .unset, .unset, .unset, .unset, .unset, .unset, .unset, .unset, .unset, .unset, .unset, .unset, .unset, .unset, .unset, .unset, .unset, .unset, .unset, .unset, .unset, .unset] [(.int bx)]) (fun K => ?_) ?_
  · refine w_lload X174 hx (Jvm.hb hby at_398) rfl (pc' := 400) rfl ?_
    refine w_lload X174 hx (Jvm.hb hby at_400) rfl (pc' := 402) rfl ?_
    refine w_lcmp_ge X174 hx (Jvm.hb hby at_402) (Jvm.hb hby at_403) rfl (by decide) (pcT := 410) (by decide) (pcF := 406) rfl (fun hj402_0 => ?_) (fun hj402_0 => ?_)
    · refine w_iconst X174 hx (0 : Int32) (Jvm.hb hby at_410) (by decide) (pc' := 411) rfl ?_
      rw [hbx, if_neg hj402_0] at K; exact K
    · refine w_iconst X174 hx (1 : Int32) (Jvm.hb hby at_406) (by decide) (pc' := 407) rfl ?_
      refine w_goto X174 hx (Jvm.hb hby at_407) (by decide) (pc' := 411) (by decide) ?_
      rw [hbx, if_pos hj402_0] at K; exact K
  refine w_istore X174 hx (Jvm.hb hby at_411) #[.val (.long q0), .second, .val (.long q1), .second, .val (.int p2), .val (.int p3), .val (.long q4), .second, .val (.long q5), .second, .val (.long vm), .second, .val (.long kx), .second, .val (.long vk), .second, .val (.long sd), .second, .val (.long vq), .second, .val (.long lo), .second, .val (.long hi), .second, .val (.long cn), .second, .val (.long cx), .second, .val (.long cy), .second, .val (.int d1), .val (.int d2), .val (.long ax), .second, .val (.long ay), .second, .val (.long gx), .second, .val (.long gy), .second, .val (.long vs), .second, .val (.long vt), .second, .val (.long xa), .second, .val (.long ya), .second, .val (.long xb), .second, .val (.long yb), .second, .val (.long dx), .second, .val (.long dy), .second, .val (.long wc), .second, .val (.long wr), .second, .val (.int pv), .val (.int bx), .unset, .unset, .unset, .unset, .unset, .unset, .unset, .unset, .unset, .unset, .unset, .unset, .unset, .unset, .unset, .unset, .unset, .unset, .unset, .unset, .unset, .unset, .unset, .unset, .unset, .unset, .unset, .unset] rfl  (pc' := 413) rfl ?_
  obtain ⟨bY, hbY⟩ : ∃ v : Int32, v = (if gy < vt then (1 : Int32) else (0 : Int32)) := ⟨_, rfl⟩
  refine Ow.join T174 (mkF m 426 #[.val (.long q0), .second, .val (.long q1), .second, .val (.int p2), .val (.int p3), .val (.long q4), .second, .val (.long q5), .second, .val (.long vm), .second, .val (.long kx), .second, .val (.long vk), .second, .val (.long sd), .second, .val (.long vq), .second, .val (.long lo), .second, .val (.long hi), .second, .val (.long cn), .second, .val (.long cx), .second, .val (.long cy), .second, .val (.int d1), .val (.int d2), .val (.long ax), .second, .val (.long ay), .second, .val (.long gx), .second, .val (.long gy), .second, .val (.long vs), .second, .val (.long vt), .second, .val (.long xa), .second, .val (.long ya), .second, .val (.long xb), .second, .val (.long yb), .second, .val (.long dx), .second, .val (.long dy), .second, .val (.long wc), .second, .val (.long wr), .second, .val (.int pv), .val (.int bx), .unset, .unset, .unset, .unset, .unset, .unset, .unset, .unset, .unset, .unset, .unset, .unset, .unset, .unset, .unset, .unset, .unset, .unset, .unset, .unset, .unset, .unset, .unset, .unset, .unset, .unset, .unset, .unset] [(.int bY)]) (fun K => ?_) ?_
  · refine w_lload X174 hx (Jvm.hb hby at_413) rfl (pc' := 415) rfl ?_
    refine w_lload X174 hx (Jvm.hb hby at_415) rfl (pc' := 417) rfl ?_
    refine w_lcmp_ge X174 hx (Jvm.hb hby at_417) (Jvm.hb hby at_418) rfl (by decide) (pcT := 425) (by decide) (pcF := 421) rfl (fun hj417_0 => ?_) (fun hj417_0 => ?_)
    · refine w_iconst X174 hx (0 : Int32) (Jvm.hb hby at_425) (by decide) (pc' := 426) rfl ?_
      rw [hbY, if_neg hj417_0] at K; exact K
    · refine w_iconst X174 hx (1 : Int32) (Jvm.hb hby at_421) (by decide) (pc' := 422) rfl ?_
      refine w_goto X174 hx (Jvm.hb hby at_422) (by decide) (pc' := 426) (by decide) ?_
      rw [hbY, if_pos hj417_0] at K; exact K
  have HX : Ax vm vk sd cx ax gx vs xa xb d1 := q_axis Bm Bk.1 Bs Bq Bl Bh Bcx Bax Bd1 Bgx Bvs hxa hxb
  have HY : Ax vm vk sd cy ay gy vt ya yb d2 := q_axis Bm Bk.1 Bs Bq Bl Bh Bcy Bay Bd2 Bgy Bvt hya hyb
  obtain ⟨spx, scx, Xp, ccx, tcx, clx, AX⟩ := own_axis HX
  obtain ⟨spy, scy, Yp, ccy, tcy, rwy, AY⟩ := own_axis HY
  have hpas := own_passJ hpv
  have hpsw := own_hps (own_pass HX AX) (own_pass HY AY) hpas
  refine w_istore X174 hx (Jvm.hb hby at_426) #[.val (.long q0), .second, .val (.long q1), .second, .val (.int p2), .val (.int p3), .val (.long q4), .second, .val (.long q5), .second, .val (.long vm), .second, .val (.long kx), .second, .val (.long vk), .second, .val (.long sd), .second, .val (.long vq), .second, .val (.long lo), .second, .val (.long hi), .second, .val (.long cn), .second, .val (.long cx), .second, .val (.long cy), .second, .val (.int d1), .val (.int d2), .val (.long ax), .second, .val (.long ay), .second, .val (.long gx), .second, .val (.long gy), .second, .val (.long vs), .second, .val (.long vt), .second, .val (.long xa), .second, .val (.long ya), .second, .val (.long xb), .second, .val (.long yb), .second, .val (.long dx), .second, .val (.long dy), .second, .val (.long wc), .second, .val (.long wr), .second, .val (.int pv), .val (.int bx), .val (.int bY), .unset, .unset, .unset, .unset, .unset, .unset, .unset, .unset, .unset, .unset, .unset, .unset, .unset, .unset, .unset, .unset, .unset, .unset, .unset, .unset, .unset, .unset, .unset, .unset, .unset, .unset, .unset] rfl  (pc' := 428) rfl ?_
  refine w_iconst X174 hx (0 : Int32) (Jvm.hb hby at_428) (by decide) (pc' := 429) rfl ?_
  refine w_istore X174 hx (Jvm.hb hby at_429) #[.val (.long q0), .second, .val (.long q1), .second, .val (.int p2), .val (.int p3), .val (.long q4), .second, .val (.long q5), .second, .val (.long vm), .second, .val (.long kx), .second, .val (.long vk), .second, .val (.long sd), .second, .val (.long vq), .second, .val (.long lo), .second, .val (.long hi), .second, .val (.long cn), .second, .val (.long cx), .second, .val (.long cy), .second, .val (.int d1), .val (.int d2), .val (.long ax), .second, .val (.long ay), .second, .val (.long gx), .second, .val (.long gy), .second, .val (.long vs), .second, .val (.long vt), .second, .val (.long xa), .second, .val (.long ya), .second, .val (.long xb), .second, .val (.long yb), .second, .val (.long dx), .second, .val (.long dy), .second, .val (.long wc), .second, .val (.long wr), .second, .val (.int pv), .val (.int bx), .val (.int bY), .val (.int (0 : Int32)), .unset, .unset, .unset, .unset, .unset, .unset, .unset, .unset, .unset, .unset, .unset, .unset, .unset, .unset, .unset, .unset, .unset, .unset, .unset, .unset, .unset, .unset, .unset, .unset, .unset, .unset] rfl  (pc' := 431) rfl ?_
  refine w_lconst X174 hx (0 : Int64) (Jvm.hb hby at_431) (by decide) (pc' := 432) rfl ?_
  refine w_lstore X174 hx (Jvm.hb hby at_432) #[.val (.long q0), .second, .val (.long q1), .second, .val (.int p2), .val (.int p3), .val (.long q4), .second, .val (.long q5), .second, .val (.long vm), .second, .val (.long kx), .second, .val (.long vk), .second, .val (.long sd), .second, .val (.long vq), .second, .val (.long lo), .second, .val (.long hi), .second, .val (.long cn), .second, .val (.long cx), .second, .val (.long cy), .second, .val (.int d1), .val (.int d2), .val (.long ax), .second, .val (.long ay), .second, .val (.long gx), .second, .val (.long gy), .second, .val (.long vs), .second, .val (.long vt), .second, .val (.long xa), .second, .val (.long ya), .second, .val (.long xb), .second, .val (.long yb), .second, .val (.long dx), .second, .val (.long dy), .second, .val (.long wc), .second, .val (.long wr), .second, .val (.int pv), .val (.int bx), .val (.int bY), .val (.int (0 : Int32)), .val (.long (0 : Int64)), .second, .unset, .unset, .unset, .unset, .unset, .unset, .unset, .unset, .unset, .unset, .unset, .unset, .unset, .unset, .unset, .unset, .unset, .unset, .unset, .unset, .unset, .unset, .unset, .unset] rfl  (pc' := 434) rfl ?_
  refine w_lconst X174 hx (0 : Int64) (Jvm.hb hby at_434) (by decide) (pc' := 435) rfl ?_
  refine w_lstore X174 hx (Jvm.hb hby at_435) #[.val (.long q0), .second, .val (.long q1), .second, .val (.int p2), .val (.int p3), .val (.long q4), .second, .val (.long q5), .second, .val (.long vm), .second, .val (.long kx), .second, .val (.long vk), .second, .val (.long sd), .second, .val (.long vq), .second, .val (.long lo), .second, .val (.long hi), .second, .val (.long cn), .second, .val (.long cx), .second, .val (.long cy), .second, .val (.int d1), .val (.int d2), .val (.long ax), .second, .val (.long ay), .second, .val (.long gx), .second, .val (.long gy), .second, .val (.long vs), .second, .val (.long vt), .second, .val (.long xa), .second, .val (.long ya), .second, .val (.long xb), .second, .val (.long yb), .second, .val (.long dx), .second, .val (.long dy), .second, .val (.long wc), .second, .val (.long wr), .second, .val (.int pv), .val (.int bx), .val (.int bY), .val (.int (0 : Int32)), .val (.long (0 : Int64)), .second, .val (.long (0 : Int64)), .second, .unset, .unset, .unset, .unset, .unset, .unset, .unset, .unset, .unset, .unset, .unset, .unset, .unset, .unset, .unset, .unset, .unset, .unset, .unset, .unset, .unset, .unset] rfl  (pc' := 437) rfl ?_
  refine w_lconst X174 hx (0 : Int64) (Jvm.hb hby at_437) (by decide) (pc' := 438) rfl ?_
  refine w_lstore X174 hx (Jvm.hb hby at_438) #[.val (.long q0), .second, .val (.long q1), .second, .val (.int p2), .val (.int p3), .val (.long q4), .second, .val (.long q5), .second, .val (.long vm), .second, .val (.long kx), .second, .val (.long vk), .second, .val (.long sd), .second, .val (.long vq), .second, .val (.long lo), .second, .val (.long hi), .second, .val (.long cn), .second, .val (.long cx), .second, .val (.long cy), .second, .val (.int d1), .val (.int d2), .val (.long ax), .second, .val (.long ay), .second, .val (.long gx), .second, .val (.long gy), .second, .val (.long vs), .second, .val (.long vt), .second, .val (.long xa), .second, .val (.long ya), .second, .val (.long xb), .second, .val (.long yb), .second, .val (.long dx), .second, .val (.long dy), .second, .val (.long wc), .second, .val (.long wr), .second, .val (.int pv), .val (.int bx), .val (.int bY), .val (.int (0 : Int32)), .val (.long (0 : Int64)), .second, .val (.long (0 : Int64)), .second, .val (.long (0 : Int64)), .second, .unset, .unset, .unset, .unset, .unset, .unset, .unset, .unset, .unset, .unset, .unset, .unset, .unset, .unset, .unset, .unset, .unset, .unset, .unset, .unset] rfl  (pc' := 440) rfl ?_
  refine w_lconst X174 hx (0 : Int64) (Jvm.hb hby at_440) (by decide) (pc' := 441) rfl ?_
  refine w_lstore X174 hx (Jvm.hb hby at_441) #[.val (.long q0), .second, .val (.long q1), .second, .val (.int p2), .val (.int p3), .val (.long q4), .second, .val (.long q5), .second, .val (.long vm), .second, .val (.long kx), .second, .val (.long vk), .second, .val (.long sd), .second, .val (.long vq), .second, .val (.long lo), .second, .val (.long hi), .second, .val (.long cn), .second, .val (.long cx), .second, .val (.long cy), .second, .val (.int d1), .val (.int d2), .val (.long ax), .second, .val (.long ay), .second, .val (.long gx), .second, .val (.long gy), .second, .val (.long vs), .second, .val (.long vt), .second, .val (.long xa), .second, .val (.long ya), .second, .val (.long xb), .second, .val (.long yb), .second, .val (.long dx), .second, .val (.long dy), .second, .val (.long wc), .second, .val (.long wr), .second, .val (.int pv), .val (.int bx), .val (.int bY), .val (.int (0 : Int32)), .val (.long (0 : Int64)), .second, .val (.long (0 : Int64)), .second, .val (.long (0 : Int64)), .second, .val (.long (0 : Int64)), .second, .unset, .unset, .unset, .unset, .unset, .unset, .unset, .unset, .unset, .unset, .unset, .unset, .unset, .unset, .unset, .unset, .unset, .unset] rfl  (pc' := 443) rfl ?_
  have NB := (Fr.app (Fr.app (Fr.app (Fr.app (Fr.app (Fr.app (Fr.app (Fr.nil n0) (Fr.nil n0)) (Fr.nil n0)) (Fr.nil n0)) (Fr.nil n0)) (Fr.nil n0)) (Fr.nil n0)) (Fr.nil n0))
  refine w_iload X174 hx (Jvm.hb hby at_443) rfl (pc' := 445) rfl ?_
  refine w_if_ne X174 hx (Jvm.hb hby at_445) (by decide) (pcT := 454) (by decide) (pcF := 448) rfl (fun kp => ?_) (fun kp => ?_)
  · have hp1 := own_p1 hpas kp
    refine w_iload X174 hx (Jvm.hb hby at_454) rfl (pc' := 456) rfl ?_
    refine w_if_eq X174 hx (Jvm.hb hby at_456) (by decide) (pcT := 576) (by decide) (pcF := 459) rfl (fun kb => ?_) (fun kb => ?_)
    · refine w_iload X174 hx (Jvm.hb hby at_576) rfl (pc' := 578) rfl ?_
      refine w_if_eq X174 hx (Jvm.hb hby at_578) (by decide) (pcT := 598) (by decide) (pcF := 581) rfl (fun _ => ?_) (fun q => absurd kb q)
      refine w_iload X174 hx (Jvm.hb hby at_598) rfl (pc' := 600) rfl ?_
      refine w_if_eq X174 hx (Jvm.hb hby at_600) (by decide) (pcT := 620) (by decide) (pcF := 603) rfl (fun kc' => ?_) (fun kc' => ?_)
      · have hngx := own_b0 hbx kb
        have hngy := own_b0 hbY kc'
        refine w_iconst X174 hx (1 : Int32) (Jvm.hb hby at_620) (by decide) (pc' := 621) rfl ?_
        refine w_istore X174 hx (Jvm.hb hby at_621) #[.val (.long q0), .second, .val (.long q1), .second, .val (.int p2), .val (.int p3), .val (.long q4), .second, .val (.long q5), .second, .val (.long vm), .second, .val (.long kx), .second, .val (.long vk), .second, .val (.long sd), .second, .val (.long vq), .second, .val (.long lo), .second, .val (.long hi), .second, .val (.long cn), .second, .val (.long cx), .second, .val (.long cy), .second, .val (.int d1), .val (.int d2), .val (.long ax), .second, .val (.long ay), .second, .val (.long gx), .second, .val (.long gy), .second, .val (.long vs), .second, .val (.long vt), .second, .val (.long xa), .second, .val (.long ya), .second, .val (.long xb), .second, .val (.long yb), .second, .val (.long dx), .second, .val (.long dy), .second, .val (.long wc), .second, .val (.long wr), .second, .val (.int pv), .val (.int bx), .val (.int bY), .val (.int (1 : Int32)), .val (.long (0 : Int64)), .second, .val (.long (0 : Int64)), .second, .val (.long (0 : Int64)), .second, .val (.long (0 : Int64)), .second, .unset, .unset, .unset, .unset, .unset, .unset, .unset, .unset, .unset, .unset, .unset, .unset, .unset, .unset, .unset, .unset, .unset, .unset] rfl  (pc' := 623) rfl ?_
        refine w_new X174 hx hZ hown (hw _ (List.mem_of_getElem? (i := 22) rfl)) (hw _ (List.mem_of_getElem? (i := 23) rfl)) (hw _ (List.mem_of_getElem? (i := 24) rfl)) e174 (Jvm.hb hby at_623) (by decide) (by decide) (pc' := 626) rfl ?_
        intro T175 h175 a175 g175 X175 e175 E175 A175 D175
        have G175_side : Fld Z h175 a175 "com/example/sarutahiko/sarutahiko/lattice/SegmentWalk" "side" "J" (.long (0 : Int64)) := D175 (Or.inr (hw _ (List.mem_of_getElem? (i := 42) rfl))) (ty := .long) (by decide)
        have G175_spanX : Fld Z h175 a175 "com/example/sarutahiko/sarutahiko/lattice/SegmentWalk" "spanX" "J" (.long (0 : Int64)) := D175 (Or.inr (hw _ (List.mem_of_getElem? (i := 47) rfl))) (ty := .long) (by decide)
        have G175_spanY : Fld Z h175 a175 "com/example/sarutahiko/sarutahiko/lattice/SegmentWalk" "spanY" "J" (.long (0 : Int64)) := D175 (Or.inr (hw _ (List.mem_of_getElem? (i := 49) rfl))) (ty := .long) (by decide)
        have G175_stepColumn : Fld Z h175 a175 "com/example/sarutahiko/sarutahiko/lattice/SegmentWalk" "stepColumn" "I" (.int (0 : Int32)) := D175 (Or.inr (hw _ (List.mem_of_getElem? (i := 51) rfl))) (ty := .int) (by decide)
        have G175_stepRow : Fld Z h175 a175 "com/example/sarutahiko/sarutahiko/lattice/SegmentWalk" "stepRow" "I" (.int (0 : Int32)) := D175 (Or.inr (hw _ (List.mem_of_getElem? (i := 53) rfl))) (ty := .int) (by decide)
        have G175_passes : Fld Z h175 a175 "com/example/sarutahiko/sarutahiko/lattice/SegmentWalk" "passes" "Z" (.int (0 : Int32)) := D175 (Or.inr (hw _ (List.mem_of_getElem? (i := 63) rfl))) (ty := .boolean) (by decide)
        have G175_column : Fld Z h175 a175 "com/example/sarutahiko/sarutahiko/lattice/SegmentWalk" "column" "I" (.int (0 : Int32)) := D175 (Or.inl (hw _ (List.mem_of_getElem? (i := 59) rfl))) (ty := .int) (by decide)
        have G175_row : Fld Z h175 a175 "com/example/sarutahiko/sarutahiko/lattice/SegmentWalk" "row" "I" (.int (0 : Int32)) := D175 (Or.inl (hw _ (List.mem_of_getElem? (i := 61) rfl))) (ty := .int) (by decide)
        have G175_toColumnLine : Fld Z h175 a175 "com/example/sarutahiko/sarutahiko/lattice/SegmentWalk" "toColumnLine" "J" (.long (0 : Int64)) := D175 (Or.inl (hw _ (List.mem_of_getElem? (i := 55) rfl))) (ty := .long) (by decide)
        have G175_toRowLine : Fld Z h175 a175 "com/example/sarutahiko/sarutahiko/lattice/SegmentWalk" "toRowLine" "J" (.long (0 : Int64)) := D175 (Or.inl (hw _ (List.mem_of_getElem? (i := 57) rfl))) (ty := .long) (by decide)
        have G175_started : Fld Z h175 a175 "com/example/sarutahiko/sarutahiko/lattice/SegmentWalk" "started" "Z" (.int (0 : Int32)) := D175 (Or.inl (hw _ (List.mem_of_getElem? (i := 70) rfl))) (ty := .boolean) (by decide)
        have GA : n0 ≤ a175 := Nat.le_trans Z0 (Nat.le_of_eq g175.symm)
        have OO : SWo Z h175 a175 (0 : Int64) (0 : Int64) (0 : Int64) (0 : Int32) (0 : Int32) (0 : Int32) (0 : Int32) (0 : Int32) (0 : Int64) (0 : Int64) (0 : Int32) := ⟨G175_side, G175_spanX, G175_spanY, G175_stepColumn, G175_stepRow, G175_passes, G175_column, G175_row, G175_toColumnLine, G175_toRowLine, G175_started, A175⟩
        refine w_dup X175 hx (Jvm.hb hby at_626) rfl (pc' := 627) rfl ?_
        refine w_lload X175 hx (Jvm.hb hby at_627) rfl (pc' := 629) rfl ?_
        refine w_lload X175 hx (Jvm.hb hby at_629) rfl (pc' := 631) rfl ?_
        refine w_lload X175 hx (Jvm.hb hby at_631) rfl (pc' := 633) rfl ?_
        refine w_lload X175 hx (Jvm.hb hby at_633) rfl (pc' := 635) rfl ?_
        refine w_lload X175 hx (Jvm.hb hby at_635) rfl (pc' := 637) rfl ?_
        refine w_callN X175 hx hZ rfl hown (hw _ (List.mem_of_getElem? (i := 25) rfl)) (hw _ (List.mem_of_getElem? (i := 26) rfl)) (hw _ (List.mem_of_getElem? (i := 24) rfl)) (hw _ (List.mem_of_getElem? (i := 27) rfl)) (by decide) (W := 1) (rm5 l Z aw hw [] a175 xa ya xb yb sd spx spy scx scy Xp Yp ccx ccy tcx tcy clx rwy pv h175 n0 GA OO (q_nz (by have := Bs.2.1; omega)) (j_lt.mpr (by rw [j0]; have := Bs.2.1; omega)) (fun z => by have h9 := j_lt.mp z; rw [show (2305843009213693952 : Int64).toInt = 2305843009213693952 from by decide] at h9; have := Bs.2.2; omega) AX.2.2.2.2.2.2.1 AY.2.2.2.2.2.2.1 AX.2.2.2.2.2.2.2.1 AY.2.2.2.2.2.2.2.1 AX.1 AY.1 AX.2.1 AY.2.1 AX.2.2.1 AY.2.2.1 AX.2.2.2.1 AY.2.2.2.1 AX.2.2.2.2.1 AY.2.2.2.2.1 AX.2.2.2.2.2.1 AY.2.2.2.2.2.1 hpsw) e175 (by decide) (by decide) (by decide) (by decide) (Jvm.hb hby at_637) (by rw [hml]; rfl) (a := a175) (argsL := [(.long xa), (.long ya), (.long xb), (.long yb), (.long sd)]) (rest := [(.ref a175)]) pd_6 rfl rfl rfl (Nat.le_of_eq rfl) (pc' := 640) rfl ?_
        rintro _ T176 L176 X176 ⟨rfl, N176, K176, O176⟩
        show Ow p e below s _ _ _ (T176.setTop (mkF m 640 #[.val (.long q0), .second, .val (.long q1), .second, .val (.int p2), .val (.int p3), .val (.long q4), .second, .val (.long q5), .second, .val (.long vm), .second, .val (.long kx), .second, .val (.long vk), .second, .val (.long sd), .second, .val (.long vq), .second, .val (.long lo), .second, .val (.long hi), .second, .val (.long cn), .second, .val (.long cx), .second, .val (.long cy), .second, .val (.int d1), .val (.int d2), .val (.long ax), .second, .val (.long ay), .second, .val (.long gx), .second, .val (.long gy), .second, .val (.long vs), .second, .val (.long vt), .second, .val (.long xa), .second, .val (.long ya), .second, .val (.long xb), .second, .val (.long yb), .second, .val (.long dx), .second, .val (.long dy), .second, .val (.long wc), .second, .val (.long wr), .second, .val (.int pv), .val (.int bx), .val (.int bY), .val (.int (1 : Int32)), .val (.long (0 : Int64)), .second, .val (.long (0 : Int64)), .second, .val (.long (0 : Int64)), .second, .val (.long (0 : Int64)), .second, .unset, .unset, .unset, .unset, .unset, .unset, .unset, .unset, .unset, .unset, .unset, .unset, .unset, .unset, .unset, .unset, .unset, .unset] [(.ref a175)]))
        have M176 := Fr.app NB N176
        refine w_astore X176 hx (Jvm.hb hby at_640) #[.val (.long q0), .second, .val (.long q1), .second, .val (.int p2), .val (.int p3), .val (.long q4), .second, .val (.long q5), .second, .val (.long vm), .second, .val (.long kx), .second, .val (.long vk), .second, .val (.long sd), .second, .val (.long vq), .second, .val (.long lo), .second, .val (.long hi), .second, .val (.long cn), .second, .val (.long cx), .second, .val (.long cy), .second, .val (.int d1), .val (.int d2), .val (.long ax), .second, .val (.long ay), .second, .val (.long gx), .second, .val (.long gy), .second, .val (.long vs), .second, .val (.long vt), .second, .val (.long xa), .second, .val (.long ya), .second, .val (.long xb), .second, .val (.long yb), .second, .val (.long dx), .second, .val (.long dy), .second, .val (.long wc), .second, .val (.long wr), .second, .val (.int pv), .val (.int bx), .val (.int bY), .val (.int (1 : Int32)), .val (.long (0 : Int64)), .second, .val (.long (0 : Int64)), .second, .val (.long (0 : Int64)), .second, .val (.long (0 : Int64)), .second, .val (.ref a175), .unset, .unset, .unset, .unset, .unset, .unset, .unset, .unset, .unset, .unset, .unset, .unset, .unset, .unset, .unset, .unset, .unset] rfl rfl (pc' := 642) rfl ?_
        refine w_aload X176 hx (Jvm.hb hby at_642) rfl rfl (pc' := 644) rfl ?_
        refine w_callV X176 hx hZ hown (hw _ (List.mem_of_getElem? (i := 64) rfl)) (hw _ (List.mem_of_getElem? (i := 65) rfl)) (notFace_of_selects (args := #[]) (mvT hZ (hw _ (List.mem_of_getElem? (i := 67) rfl)))) (hw _ (List.mem_of_getElem? (i := 67) rfl)) (hw _ (List.mem_of_getElem? (i := 66) rfl)) (hw _ (List.mem_of_getElem? (i := 24) rfl)) (hw _ (List.mem_of_getElem? (i := 68) rfl)) (by decide) (W := 0) (rmN_first l Z aw hw [] a175 sd spx spy scx scy pv clx rwy tcx tcy T176.heap n0 GA O176 (own_p01 hpas)) rfl (by decide) (by decide) (by decide) (by decide) (O176.2.2.2.2.2.2.2.2.2.2.2) (Jvm.hb hby at_644) (by rw [hml]; rfl) (argsL := []) (rest := []) pd_7 rfl rfl rfl (Nat.le_of_eq rfl) (pc' := 647) rfl ?_
        rintro _ T177 L177 X177 ⟨rfl, N177, K177, O177⟩
        show Ow p e below s _ _ _ (T177.setTop (mkF m 647 #[.val (.long q0), .second, .val (.long q1), .second, .val (.int p2), .val (.int p3), .val (.long q4), .second, .val (.long q5), .second, .val (.long vm), .second, .val (.long kx), .second, .val (.long vk), .second, .val (.long sd), .second, .val (.long vq), .second, .val (.long lo), .second, .val (.long hi), .second, .val (.long cn), .second, .val (.long cx), .second, .val (.long cy), .second, .val (.int d1), .val (.int d2), .val (.long ax), .second, .val (.long ay), .second, .val (.long gx), .second, .val (.long gy), .second, .val (.long vs), .second, .val (.long vt), .second, .val (.long xa), .second, .val (.long ya), .second, .val (.long xb), .second, .val (.long yb), .second, .val (.long dx), .second, .val (.long dy), .second, .val (.long wc), .second, .val (.long wr), .second, .val (.int pv), .val (.int bx), .val (.int bY), .val (.int (1 : Int32)), .val (.long (0 : Int64)), .second, .val (.long (0 : Int64)), .second, .val (.long (0 : Int64)), .second, .val (.long (0 : Int64)), .second, .val (.ref a175), .unset, .unset, .unset, .unset, .unset, .unset, .unset, .unset, .unset, .unset, .unset, .unset, .unset, .unset, .unset, .unset, .unset] [(.int pv)]))
        have M177 := Fr.app M176 N177
        refine w_istore X177 hx (Jvm.hb hby at_647) #[.val (.long q0), .second, .val (.long q1), .second, .val (.int p2), .val (.int p3), .val (.long q4), .second, .val (.long q5), .second, .val (.long vm), .second, .val (.long kx), .second, .val (.long vk), .second, .val (.long sd), .second, .val (.long vq), .second, .val (.long lo), .second, .val (.long hi), .second, .val (.long cn), .second, .val (.long cx), .second, .val (.long cy), .second, .val (.int d1), .val (.int d2), .val (.long ax), .second, .val (.long ay), .second, .val (.long gx), .second, .val (.long gy), .second, .val (.long vs), .second, .val (.long vt), .second, .val (.long xa), .second, .val (.long ya), .second, .val (.long xb), .second, .val (.long yb), .second, .val (.long dx), .second, .val (.long dy), .second, .val (.long wc), .second, .val (.long wr), .second, .val (.int pv), .val (.int bx), .val (.int bY), .val (.int (1 : Int32)), .val (.long (0 : Int64)), .second, .val (.long (0 : Int64)), .second, .val (.long (0 : Int64)), .second, .val (.long (0 : Int64)), .second, .val (.ref a175), .val (.int pv), .unset, .unset, .unset, .unset, .unset, .unset, .unset, .unset, .unset, .unset, .unset, .unset, .unset, .unset, .unset, .unset] rfl  (pc' := 649) rfl ?_
        refine w_aload X177 hx (Jvm.hb hby at_649) rfl rfl (pc' := 651) rfl ?_
        refine w_callV X177 hx hZ hown (hw _ (List.mem_of_getElem? (i := 71) rfl)) (hw _ (List.mem_of_getElem? (i := 72) rfl)) (notFace_of_selects (args := #[]) (mvT hZ (hw _ (List.mem_of_getElem? (i := 74) rfl)))) (hw _ (List.mem_of_getElem? (i := 74) rfl)) (hw _ (List.mem_of_getElem? (i := 73) rfl)) (hw _ (List.mem_of_getElem? (i := 24) rfl)) (hw _ (List.mem_of_getElem? (i := 75) rfl)) (by decide) (W := 0) (rm11 l Z aw hw [] a175 clx T177.heap (O177.2.2.2.2.2.2.1)) rfl (by decide) (by decide) (by decide) (by decide) (O177.2.2.2.2.2.2.2.2.2.2.2) (Jvm.hb hby at_651) (by rw [hml]; rfl) (argsL := []) (rest := []) pd_8 rfl rfl rfl (Nat.le_of_eq rfl) (pc' := 654) rfl ?_
        rintro _ T178 L178 X178 ⟨rfl, e178, rfl⟩
        show Ow p e below s _ _ _ (T178.setTop (mkF m 654 #[.val (.long q0), .second, .val (.long q1), .second, .val (.int p2), .val (.int p3), .val (.long q4), .second, .val (.long q5), .second, .val (.long vm), .second, .val (.long kx), .second, .val (.long vk), .second, .val (.long sd), .second, .val (.long vq), .second, .val (.long lo), .second, .val (.long hi), .second, .val (.long cn), .second, .val (.long cx), .second, .val (.long cy), .second, .val (.int d1), .val (.int d2), .val (.long ax), .second, .val (.long ay), .second, .val (.long gx), .second, .val (.long gy), .second, .val (.long vs), .second, .val (.long vt), .second, .val (.long xa), .second, .val (.long ya), .second, .val (.long xb), .second, .val (.long yb), .second, .val (.long dx), .second, .val (.long dy), .second, .val (.long wc), .second, .val (.long wr), .second, .val (.int pv), .val (.int bx), .val (.int bY), .val (.int (1 : Int32)), .val (.long (0 : Int64)), .second, .val (.long (0 : Int64)), .second, .val (.long (0 : Int64)), .second, .val (.long (0 : Int64)), .second, .val (.ref a175), .val (.int pv), .unset, .unset, .unset, .unset, .unset, .unset, .unset, .unset, .unset, .unset, .unset, .unset, .unset, .unset, .unset, .unset] [(.int clx)]))
        have M178 := Fr.app M177 (Fr.nil n0)
        refine w_i2l X178 hx (Jvm.hb hby at_654) (pc' := 655) rfl ?_
        refine w_lstore X178 hx (Jvm.hb hby at_655) #[.val (.long q0), .second, .val (.long q1), .second, .val (.int p2), .val (.int p3), .val (.long q4), .second, .val (.long q5), .second, .val (.long vm), .second, .val (.long kx), .second, .val (.long vk), .second, .val (.long sd), .second, .val (.long vq), .second, .val (.long lo), .second, .val (.long hi), .second, .val (.long cn), .second, .val (.long cx), .second, .val (.long cy), .second, .val (.int d1), .val (.int d2), .val (.long ax), .second, .val (.long ay), .second, .val (.long gx), .second, .val (.long gy), .second, .val (.long vs), .second, .val (.long vt), .second, .val (.long xa), .second, .val (.long ya), .second, .val (.long xb), .second, .val (.long yb), .second, .val (.long dx), .second, .val (.long dy), .second, .val (.long wc), .second, .val (.long wr), .second, .val (.int pv), .val (.int bx), .val (.int bY), .val (.int (1 : Int32)), .val (.long (0 : Int64)), .second, .val (.long (0 : Int64)), .second, .val (.long (0 : Int64)), .second, .val (.long (0 : Int64)), .second, .val (.ref a175), .val (.int pv), .val (.long (clx.toInt64)), .second, .unset, .unset, .unset, .unset, .unset, .unset, .unset, .unset, .unset, .unset, .unset, .unset, .unset, .unset] rfl  (pc' := 657) rfl ?_
        refine w_aload X178 hx (Jvm.hb hby at_657) rfl rfl (pc' := 659) rfl ?_
        refine w_callV X178 hx hZ hown (hw _ (List.mem_of_getElem? (i := 76) rfl)) (hw _ (List.mem_of_getElem? (i := 77) rfl)) (notFace_of_selects (args := #[]) (mvT hZ (hw _ (List.mem_of_getElem? (i := 79) rfl)))) (hw _ (List.mem_of_getElem? (i := 79) rfl)) (hw _ (List.mem_of_getElem? (i := 78) rfl)) (hw _ (List.mem_of_getElem? (i := 24) rfl)) (hw _ (List.mem_of_getElem? (i := 80) rfl)) (by decide) (W := 0) (rm12 l Z aw hw [] a175 rwy T177.heap (O177.2.2.2.2.2.2.2.1)) e178 (by decide) (by decide) (by decide) (by decide) (O177.2.2.2.2.2.2.2.2.2.2.2) (Jvm.hb hby at_659) (by rw [hml]; rfl) (argsL := []) (rest := []) pd_8 rfl rfl rfl (Nat.le_of_eq rfl) (pc' := 662) rfl ?_
        rintro _ T179 L179 X179 ⟨rfl, e179, rfl⟩
        show Ow p e below s _ _ _ (T179.setTop (mkF m 662 #[.val (.long q0), .second, .val (.long q1), .second, .val (.int p2), .val (.int p3), .val (.long q4), .second, .val (.long q5), .second, .val (.long vm), .second, .val (.long kx), .second, .val (.long vk), .second, .val (.long sd), .second, .val (.long vq), .second, .val (.long lo), .second, .val (.long hi), .second, .val (.long cn), .second, .val (.long cx), .second, .val (.long cy), .second, .val (.int d1), .val (.int d2), .val (.long ax), .second, .val (.long ay), .second, .val (.long gx), .second, .val (.long gy), .second, .val (.long vs), .second, .val (.long vt), .second, .val (.long xa), .second, .val (.long ya), .second, .val (.long xb), .second, .val (.long yb), .second, .val (.long dx), .second, .val (.long dy), .second, .val (.long wc), .second, .val (.long wr), .second, .val (.int pv), .val (.int bx), .val (.int bY), .val (.int (1 : Int32)), .val (.long (0 : Int64)), .second, .val (.long (0 : Int64)), .second, .val (.long (0 : Int64)), .second, .val (.long (0 : Int64)), .second, .val (.ref a175), .val (.int pv), .val (.long (clx.toInt64)), .second, .unset, .unset, .unset, .unset, .unset, .unset, .unset, .unset, .unset, .unset, .unset, .unset, .unset, .unset] [(.int rwy)]))
        have M179 := Fr.app M178 (Fr.nil n0)
        refine w_i2l X179 hx (Jvm.hb hby at_662) (pc' := 663) rfl ?_
        refine w_lstore X179 hx (Jvm.hb hby at_663) #[.val (.long q0), .second, .val (.long q1), .second, .val (.int p2), .val (.int p3), .val (.long q4), .second, .val (.long q5), .second, .val (.long vm), .second, .val (.long kx), .second, .val (.long vk), .second, .val (.long sd), .second, .val (.long vq), .second, .val (.long lo), .second, .val (.long hi), .second, .val (.long cn), .second, .val (.long cx), .second, .val (.long cy), .second, .val (.int d1), .val (.int d2), .val (.long ax), .second, .val (.long ay), .second, .val (.long gx), .second, .val (.long gy), .second, .val (.long vs), .second, .val (.long vt), .second, .val (.long xa), .second, .val (.long ya), .second, .val (.long xb), .second, .val (.long yb), .second, .val (.long dx), .second, .val (.long dy), .second, .val (.long wc), .second, .val (.long wr), .second, .val (.int pv), .val (.int bx), .val (.int bY), .val (.int (1 : Int32)), .val (.long (0 : Int64)), .second, .val (.long (0 : Int64)), .second, .val (.long (0 : Int64)), .second, .val (.long (0 : Int64)), .second, .val (.ref a175), .val (.int pv), .val (.long (clx.toInt64)), .second, .val (.long (rwy.toInt64)), .second, .unset, .unset, .unset, .unset, .unset, .unset, .unset, .unset, .unset, .unset, .unset, .unset] rfl  (pc' := 665) rfl ?_
        refine w_aload X179 hx (Jvm.hb hby at_665) rfl rfl (pc' := 667) rfl ?_
        refine w_callV X179 hx hZ hown (hw _ (List.mem_of_getElem? (i := 64) rfl)) (hw _ (List.mem_of_getElem? (i := 65) rfl)) (notFace_of_selects (args := #[]) (mvT hZ (hw _ (List.mem_of_getElem? (i := 67) rfl)))) (hw _ (List.mem_of_getElem? (i := 67) rfl)) (hw _ (List.mem_of_getElem? (i := 66) rfl)) (hw _ (List.mem_of_getElem? (i := 24) rfl)) (hw _ (List.mem_of_getElem? (i := 68) rfl)) (by decide) (W := 0) (rmN_stop l Z aw hw [] a175 sd spx spy scx scy pv clx rwy tcx tcy T177.heap n0 GA O177 hp1.1 (own_nc HX AX hngx) (own_nc HY AY hngy)) e179 (by decide) (by decide) (by decide) (by decide) (O177.2.2.2.2.2.2.2.2.2.2.2) (Jvm.hb hby at_667) (by rw [hml]; rfl) (argsL := []) (rest := []) pd_7 rfl rfl rfl (Nat.le_of_eq rfl) (pc' := 670) rfl ?_
        rintro _ T180 L180 X180 ⟨rfl, N180, K180, O180⟩
        show Ow p e below s _ _ _ (T180.setTop (mkF m 670 #[.val (.long q0), .second, .val (.long q1), .second, .val (.int p2), .val (.int p3), .val (.long q4), .second, .val (.long q5), .second, .val (.long vm), .second, .val (.long kx), .second, .val (.long vk), .second, .val (.long sd), .second, .val (.long vq), .second, .val (.long lo), .second, .val (.long hi), .second, .val (.long cn), .second, .val (.long cx), .second, .val (.long cy), .second, .val (.int d1), .val (.int d2), .val (.long ax), .second, .val (.long ay), .second, .val (.long gx), .second, .val (.long gy), .second, .val (.long vs), .second, .val (.long vt), .second, .val (.long xa), .second, .val (.long ya), .second, .val (.long xb), .second, .val (.long yb), .second, .val (.long dx), .second, .val (.long dy), .second, .val (.long wc), .second, .val (.long wr), .second, .val (.int pv), .val (.int bx), .val (.int bY), .val (.int (1 : Int32)), .val (.long (0 : Int64)), .second, .val (.long (0 : Int64)), .second, .val (.long (0 : Int64)), .second, .val (.long (0 : Int64)), .second, .val (.ref a175), .val (.int pv), .val (.long (clx.toInt64)), .second, .val (.long (rwy.toInt64)), .second, .unset, .unset, .unset, .unset, .unset, .unset, .unset, .unset, .unset, .unset, .unset, .unset] [(.int (0 : Int32))]))
        have M180 := Fr.app M179 N180
        refine w_istore X180 hx (Jvm.hb hby at_670) #[.val (.long q0), .second, .val (.long q1), .second, .val (.int p2), .val (.int p3), .val (.long q4), .second, .val (.long q5), .second, .val (.long vm), .second, .val (.long kx), .second, .val (.long vk), .second, .val (.long sd), .second, .val (.long vq), .second, .val (.long lo), .second, .val (.long hi), .second, .val (.long cn), .second, .val (.long cx), .second, .val (.long cy), .second, .val (.int d1), .val (.int d2), .val (.long ax), .second, .val (.long ay), .second, .val (.long gx), .second, .val (.long gy), .second, .val (.long vs), .second, .val (.long vt), .second, .val (.long xa), .second, .val (.long ya), .second, .val (.long xb), .second, .val (.long yb), .second, .val (.long dx), .second, .val (.long dy), .second, .val (.long wc), .second, .val (.long wr), .second, .val (.int pv), .val (.int bx), .val (.int bY), .val (.int (1 : Int32)), .val (.long (0 : Int64)), .second, .val (.long (0 : Int64)), .second, .val (.long (0 : Int64)), .second, .val (.long (0 : Int64)), .second, .val (.ref a175), .val (.int pv), .val (.long (clx.toInt64)), .second, .val (.long (rwy.toInt64)), .second, .val (.int (0 : Int32)), .unset, .unset, .unset, .unset, .unset, .unset, .unset, .unset, .unset, .unset, .unset] rfl  (pc' := 672) rfl ?_
        refine w_aload X180 hx (Jvm.hb hby at_672) rfl rfl (pc' := 674) rfl ?_
        refine w_callV X180 hx hZ hown (hw _ (List.mem_of_getElem? (i := 71) rfl)) (hw _ (List.mem_of_getElem? (i := 72) rfl)) (notFace_of_selects (args := #[]) (mvT hZ (hw _ (List.mem_of_getElem? (i := 74) rfl)))) (hw _ (List.mem_of_getElem? (i := 74) rfl)) (hw _ (List.mem_of_getElem? (i := 73) rfl)) (hw _ (List.mem_of_getElem? (i := 24) rfl)) (hw _ (List.mem_of_getElem? (i := 75) rfl)) (by decide) (W := 0) (rm11 l Z aw hw [] a175 clx T180.heap (O180.2.2.2.2.2.2.1)) rfl (by decide) (by decide) (by decide) (by decide) (O180.2.2.2.2.2.2.2.2.2.2.2) (Jvm.hb hby at_674) (by rw [hml]; rfl) (argsL := []) (rest := []) pd_8 rfl rfl rfl (Nat.le_of_eq rfl) (pc' := 677) rfl ?_
        rintro _ T181 L181 X181 ⟨rfl, e181, rfl⟩
        show Ow p e below s _ _ _ (T181.setTop (mkF m 677 #[.val (.long q0), .second, .val (.long q1), .second, .val (.int p2), .val (.int p3), .val (.long q4), .second, .val (.long q5), .second, .val (.long vm), .second, .val (.long kx), .second, .val (.long vk), .second, .val (.long sd), .second, .val (.long vq), .second, .val (.long lo), .second, .val (.long hi), .second, .val (.long cn), .second, .val (.long cx), .second, .val (.long cy), .second, .val (.int d1), .val (.int d2), .val (.long ax), .second, .val (.long ay), .second, .val (.long gx), .second, .val (.long gy), .second, .val (.long vs), .second, .val (.long vt), .second, .val (.long xa), .second, .val (.long ya), .second, .val (.long xb), .second, .val (.long yb), .second, .val (.long dx), .second, .val (.long dy), .second, .val (.long wc), .second, .val (.long wr), .second, .val (.int pv), .val (.int bx), .val (.int bY), .val (.int (1 : Int32)), .val (.long (0 : Int64)), .second, .val (.long (0 : Int64)), .second, .val (.long (0 : Int64)), .second, .val (.long (0 : Int64)), .second, .val (.ref a175), .val (.int pv), .val (.long (clx.toInt64)), .second, .val (.long (rwy.toInt64)), .second, .val (.int (0 : Int32)), .unset, .unset, .unset, .unset, .unset, .unset, .unset, .unset, .unset, .unset, .unset] [(.int clx)]))
        have M181 := Fr.app M180 (Fr.nil n0)
        refine w_i2l X181 hx (Jvm.hb hby at_677) (pc' := 678) rfl ?_
        refine w_lstore X181 hx (Jvm.hb hby at_678) #[.val (.long q0), .second, .val (.long q1), .second, .val (.int p2), .val (.int p3), .val (.long q4), .second, .val (.long q5), .second, .val (.long vm), .second, .val (.long kx), .second, .val (.long vk), .second, .val (.long sd), .second, .val (.long vq), .second, .val (.long lo), .second, .val (.long hi), .second, .val (.long cn), .second, .val (.long cx), .second, .val (.long cy), .second, .val (.int d1), .val (.int d2), .val (.long ax), .second, .val (.long ay), .second, .val (.long gx), .second, .val (.long gy), .second, .val (.long vs), .second, .val (.long vt), .second, .val (.long xa), .second, .val (.long ya), .second, .val (.long xb), .second, .val (.long yb), .second, .val (.long dx), .second, .val (.long dy), .second, .val (.long wc), .second, .val (.long wr), .second, .val (.int pv), .val (.int bx), .val (.int bY), .val (.int (1 : Int32)), .val (.long (0 : Int64)), .second, .val (.long (0 : Int64)), .second, .val (.long (0 : Int64)), .second, .val (.long (0 : Int64)), .second, .val (.ref a175), .val (.int pv), .val (.long (clx.toInt64)), .second, .val (.long (rwy.toInt64)), .second, .val (.int (0 : Int32)), .val (.long (clx.toInt64)), .second, .unset, .unset, .unset, .unset, .unset, .unset, .unset, .unset, .unset] rfl  (pc' := 680) rfl ?_
        refine w_aload X181 hx (Jvm.hb hby at_680) rfl rfl (pc' := 682) rfl ?_
        refine w_callV X181 hx hZ hown (hw _ (List.mem_of_getElem? (i := 76) rfl)) (hw _ (List.mem_of_getElem? (i := 77) rfl)) (notFace_of_selects (args := #[]) (mvT hZ (hw _ (List.mem_of_getElem? (i := 79) rfl)))) (hw _ (List.mem_of_getElem? (i := 79) rfl)) (hw _ (List.mem_of_getElem? (i := 78) rfl)) (hw _ (List.mem_of_getElem? (i := 24) rfl)) (hw _ (List.mem_of_getElem? (i := 80) rfl)) (by decide) (W := 0) (rm12 l Z aw hw [] a175 rwy T180.heap (O180.2.2.2.2.2.2.2.1)) e181 (by decide) (by decide) (by decide) (by decide) (O180.2.2.2.2.2.2.2.2.2.2.2) (Jvm.hb hby at_682) (by rw [hml]; rfl) (argsL := []) (rest := []) pd_8 rfl rfl rfl (Nat.le_of_eq rfl) (pc' := 685) rfl ?_
        rintro _ T182 L182 X182 ⟨rfl, e182, rfl⟩
        show Ow p e below s _ _ _ (T182.setTop (mkF m 685 #[.val (.long q0), .second, .val (.long q1), .second, .val (.int p2), .val (.int p3), .val (.long q4), .second, .val (.long q5), .second, .val (.long vm), .second, .val (.long kx), .second, .val (.long vk), .second, .val (.long sd), .second, .val (.long vq), .second, .val (.long lo), .second, .val (.long hi), .second, .val (.long cn), .second, .val (.long cx), .second, .val (.long cy), .second, .val (.int d1), .val (.int d2), .val (.long ax), .second, .val (.long ay), .second, .val (.long gx), .second, .val (.long gy), .second, .val (.long vs), .second, .val (.long vt), .second, .val (.long xa), .second, .val (.long ya), .second, .val (.long xb), .second, .val (.long yb), .second, .val (.long dx), .second, .val (.long dy), .second, .val (.long wc), .second, .val (.long wr), .second, .val (.int pv), .val (.int bx), .val (.int bY), .val (.int (1 : Int32)), .val (.long (0 : Int64)), .second, .val (.long (0 : Int64)), .second, .val (.long (0 : Int64)), .second, .val (.long (0 : Int64)), .second, .val (.ref a175), .val (.int pv), .val (.long (clx.toInt64)), .second, .val (.long (rwy.toInt64)), .second, .val (.int (0 : Int32)), .val (.long (clx.toInt64)), .second, .unset, .unset, .unset, .unset, .unset, .unset, .unset, .unset, .unset] [(.int rwy)]))
        have M182 := Fr.app M181 (Fr.nil n0)
        refine w_i2l X182 hx (Jvm.hb hby at_685) (pc' := 686) rfl ?_
        refine w_lstore X182 hx (Jvm.hb hby at_686) #[.val (.long q0), .second, .val (.long q1), .second, .val (.int p2), .val (.int p3), .val (.long q4), .second, .val (.long q5), .second, .val (.long vm), .second, .val (.long kx), .second, .val (.long vk), .second, .val (.long sd), .second, .val (.long vq), .second, .val (.long lo), .second, .val (.long hi), .second, .val (.long cn), .second, .val (.long cx), .second, .val (.long cy), .second, .val (.int d1), .val (.int d2), .val (.long ax), .second, .val (.long ay), .second, .val (.long gx), .second, .val (.long gy), .second, .val (.long vs), .second, .val (.long vt), .second, .val (.long xa), .second, .val (.long ya), .second, .val (.long xb), .second, .val (.long yb), .second, .val (.long dx), .second, .val (.long dy), .second, .val (.long wc), .second, .val (.long wr), .second, .val (.int pv), .val (.int bx), .val (.int bY), .val (.int (1 : Int32)), .val (.long (0 : Int64)), .second, .val (.long (0 : Int64)), .second, .val (.long (0 : Int64)), .second, .val (.long (0 : Int64)), .second, .val (.ref a175), .val (.int pv), .val (.long (clx.toInt64)), .second, .val (.long (rwy.toInt64)), .second, .val (.int (0 : Int32)), .val (.long (clx.toInt64)), .second, .val (.long (rwy.toInt64)), .second, .unset, .unset, .unset, .unset, .unset, .unset, .unset] rfl  (pc' := 688) rfl ?_
        refine w_aload X182 hx (Jvm.hb hby at_688) rfl rfl (pc' := 690) rfl ?_
        refine w_callV X182 hx hZ hown (hw _ (List.mem_of_getElem? (i := 64) rfl)) (hw _ (List.mem_of_getElem? (i := 65) rfl)) (notFace_of_selects (args := #[]) (mvT hZ (hw _ (List.mem_of_getElem? (i := 67) rfl)))) (hw _ (List.mem_of_getElem? (i := 67) rfl)) (hw _ (List.mem_of_getElem? (i := 66) rfl)) (hw _ (List.mem_of_getElem? (i := 24) rfl)) (hw _ (List.mem_of_getElem? (i := 68) rfl)) (by decide) (W := 0) (rmN_stop l Z aw hw [] a175 sd spx spy scx scy pv clx rwy tcx tcy T180.heap n0 GA O180 hp1.1 (own_nc HX AX hngx) (own_nc HY AY hngy)) e182 (by decide) (by decide) (by decide) (by decide) (O180.2.2.2.2.2.2.2.2.2.2.2) (Jvm.hb hby at_690) (by rw [hml]; rfl) (argsL := []) (rest := []) pd_7 rfl rfl rfl (Nat.le_of_eq rfl) (pc' := 693) rfl ?_
        rintro _ T183 L183 X183 ⟨rfl, N183, K183, O183⟩
        show Ow p e below s _ _ _ (T183.setTop (mkF m 693 #[.val (.long q0), .second, .val (.long q1), .second, .val (.int p2), .val (.int p3), .val (.long q4), .second, .val (.long q5), .second, .val (.long vm), .second, .val (.long kx), .second, .val (.long vk), .second, .val (.long sd), .second, .val (.long vq), .second, .val (.long lo), .second, .val (.long hi), .second, .val (.long cn), .second, .val (.long cx), .second, .val (.long cy), .second, .val (.int d1), .val (.int d2), .val (.long ax), .second, .val (.long ay), .second, .val (.long gx), .second, .val (.long gy), .second, .val (.long vs), .second, .val (.long vt), .second, .val (.long xa), .second, .val (.long ya), .second, .val (.long xb), .second, .val (.long yb), .second, .val (.long dx), .second, .val (.long dy), .second, .val (.long wc), .second, .val (.long wr), .second, .val (.int pv), .val (.int bx), .val (.int bY), .val (.int (1 : Int32)), .val (.long (0 : Int64)), .second, .val (.long (0 : Int64)), .second, .val (.long (0 : Int64)), .second, .val (.long (0 : Int64)), .second, .val (.ref a175), .val (.int pv), .val (.long (clx.toInt64)), .second, .val (.long (rwy.toInt64)), .second, .val (.int (0 : Int32)), .val (.long (clx.toInt64)), .second, .val (.long (rwy.toInt64)), .second, .unset, .unset, .unset, .unset, .unset, .unset, .unset] [(.int (0 : Int32))]))
        have M183 := Fr.app M182 N183
        refine w_istore X183 hx (Jvm.hb hby at_693) #[.val (.long q0), .second, .val (.long q1), .second, .val (.int p2), .val (.int p3), .val (.long q4), .second, .val (.long q5), .second, .val (.long vm), .second, .val (.long kx), .second, .val (.long vk), .second, .val (.long sd), .second, .val (.long vq), .second, .val (.long lo), .second, .val (.long hi), .second, .val (.long cn), .second, .val (.long cx), .second, .val (.long cy), .second, .val (.int d1), .val (.int d2), .val (.long ax), .second, .val (.long ay), .second, .val (.long gx), .second, .val (.long gy), .second, .val (.long vs), .second, .val (.long vt), .second, .val (.long xa), .second, .val (.long ya), .second, .val (.long xb), .second, .val (.long yb), .second, .val (.long dx), .second, .val (.long dy), .second, .val (.long wc), .second, .val (.long wr), .second, .val (.int pv), .val (.int bx), .val (.int bY), .val (.int (1 : Int32)), .val (.long (0 : Int64)), .second, .val (.long (0 : Int64)), .second, .val (.long (0 : Int64)), .second, .val (.long (0 : Int64)), .second, .val (.ref a175), .val (.int pv), .val (.long (clx.toInt64)), .second, .val (.long (rwy.toInt64)), .second, .val (.int (0 : Int32)), .val (.long (clx.toInt64)), .second, .val (.long (rwy.toInt64)), .second, .val (.int (0 : Int32)), .unset, .unset, .unset, .unset, .unset, .unset] rfl  (pc' := 695) rfl ?_
        refine w_aload X183 hx (Jvm.hb hby at_695) rfl rfl (pc' := 697) rfl ?_
        refine w_callV X183 hx hZ hown (hw _ (List.mem_of_getElem? (i := 71) rfl)) (hw _ (List.mem_of_getElem? (i := 72) rfl)) (notFace_of_selects (args := #[]) (mvT hZ (hw _ (List.mem_of_getElem? (i := 74) rfl)))) (hw _ (List.mem_of_getElem? (i := 74) rfl)) (hw _ (List.mem_of_getElem? (i := 73) rfl)) (hw _ (List.mem_of_getElem? (i := 24) rfl)) (hw _ (List.mem_of_getElem? (i := 75) rfl)) (by decide) (W := 0) (rm11 l Z aw hw [] a175 clx T183.heap (O183.2.2.2.2.2.2.1)) rfl (by decide) (by decide) (by decide) (by decide) (O183.2.2.2.2.2.2.2.2.2.2.2) (Jvm.hb hby at_697) (by rw [hml]; rfl) (argsL := []) (rest := []) pd_8 rfl rfl rfl (Nat.le_of_eq rfl) (pc' := 700) rfl ?_
        rintro _ T184 L184 X184 ⟨rfl, e184, rfl⟩
        show Ow p e below s _ _ _ (T184.setTop (mkF m 700 #[.val (.long q0), .second, .val (.long q1), .second, .val (.int p2), .val (.int p3), .val (.long q4), .second, .val (.long q5), .second, .val (.long vm), .second, .val (.long kx), .second, .val (.long vk), .second, .val (.long sd), .second, .val (.long vq), .second, .val (.long lo), .second, .val (.long hi), .second, .val (.long cn), .second, .val (.long cx), .second, .val (.long cy), .second, .val (.int d1), .val (.int d2), .val (.long ax), .second, .val (.long ay), .second, .val (.long gx), .second, .val (.long gy), .second, .val (.long vs), .second, .val (.long vt), .second, .val (.long xa), .second, .val (.long ya), .second, .val (.long xb), .second, .val (.long yb), .second, .val (.long dx), .second, .val (.long dy), .second, .val (.long wc), .second, .val (.long wr), .second, .val (.int pv), .val (.int bx), .val (.int bY), .val (.int (1 : Int32)), .val (.long (0 : Int64)), .second, .val (.long (0 : Int64)), .second, .val (.long (0 : Int64)), .second, .val (.long (0 : Int64)), .second, .val (.ref a175), .val (.int pv), .val (.long (clx.toInt64)), .second, .val (.long (rwy.toInt64)), .second, .val (.int (0 : Int32)), .val (.long (clx.toInt64)), .second, .val (.long (rwy.toInt64)), .second, .val (.int (0 : Int32)), .unset, .unset, .unset, .unset, .unset, .unset] [(.int clx)]))
        have M184 := Fr.app M183 (Fr.nil n0)
        refine w_i2l X184 hx (Jvm.hb hby at_700) (pc' := 701) rfl ?_
        refine w_lstore X184 hx (Jvm.hb hby at_701) #[.val (.long q0), .second, .val (.long q1), .second, .val (.int p2), .val (.int p3), .val (.long q4), .second, .val (.long q5), .second, .val (.long vm), .second, .val (.long kx), .second, .val (.long vk), .second, .val (.long sd), .second, .val (.long vq), .second, .val (.long lo), .second, .val (.long hi), .second, .val (.long cn), .second, .val (.long cx), .second, .val (.long cy), .second, .val (.int d1), .val (.int d2), .val (.long ax), .second, .val (.long ay), .second, .val (.long gx), .second, .val (.long gy), .second, .val (.long vs), .second, .val (.long vt), .second, .val (.long xa), .second, .val (.long ya), .second, .val (.long xb), .second, .val (.long yb), .second, .val (.long dx), .second, .val (.long dy), .second, .val (.long wc), .second, .val (.long wr), .second, .val (.int pv), .val (.int bx), .val (.int bY), .val (.int (1 : Int32)), .val (.long (0 : Int64)), .second, .val (.long (0 : Int64)), .second, .val (.long (0 : Int64)), .second, .val (.long (0 : Int64)), .second, .val (.ref a175), .val (.int pv), .val (.long (clx.toInt64)), .second, .val (.long (rwy.toInt64)), .second, .val (.int (0 : Int32)), .val (.long (clx.toInt64)), .second, .val (.long (rwy.toInt64)), .second, .val (.int (0 : Int32)), .val (.long (clx.toInt64)), .second, .unset, .unset, .unset, .unset] rfl  (pc' := 703) rfl ?_
        refine w_aload X184 hx (Jvm.hb hby at_703) rfl rfl (pc' := 705) rfl ?_
        refine w_callV X184 hx hZ hown (hw _ (List.mem_of_getElem? (i := 76) rfl)) (hw _ (List.mem_of_getElem? (i := 77) rfl)) (notFace_of_selects (args := #[]) (mvT hZ (hw _ (List.mem_of_getElem? (i := 79) rfl)))) (hw _ (List.mem_of_getElem? (i := 79) rfl)) (hw _ (List.mem_of_getElem? (i := 78) rfl)) (hw _ (List.mem_of_getElem? (i := 24) rfl)) (hw _ (List.mem_of_getElem? (i := 80) rfl)) (by decide) (W := 0) (rm12 l Z aw hw [] a175 rwy T183.heap (O183.2.2.2.2.2.2.2.1)) e184 (by decide) (by decide) (by decide) (by decide) (O183.2.2.2.2.2.2.2.2.2.2.2) (Jvm.hb hby at_705) (by rw [hml]; rfl) (argsL := []) (rest := []) pd_8 rfl rfl rfl (Nat.le_of_eq rfl) (pc' := 708) rfl ?_
        rintro _ T185 L185 X185 ⟨rfl, e185, rfl⟩
        show Ow p e below s _ _ _ (T185.setTop (mkF m 708 #[.val (.long q0), .second, .val (.long q1), .second, .val (.int p2), .val (.int p3), .val (.long q4), .second, .val (.long q5), .second, .val (.long vm), .second, .val (.long kx), .second, .val (.long vk), .second, .val (.long sd), .second, .val (.long vq), .second, .val (.long lo), .second, .val (.long hi), .second, .val (.long cn), .second, .val (.long cx), .second, .val (.long cy), .second, .val (.int d1), .val (.int d2), .val (.long ax), .second, .val (.long ay), .second, .val (.long gx), .second, .val (.long gy), .second, .val (.long vs), .second, .val (.long vt), .second, .val (.long xa), .second, .val (.long ya), .second, .val (.long xb), .second, .val (.long yb), .second, .val (.long dx), .second, .val (.long dy), .second, .val (.long wc), .second, .val (.long wr), .second, .val (.int pv), .val (.int bx), .val (.int bY), .val (.int (1 : Int32)), .val (.long (0 : Int64)), .second, .val (.long (0 : Int64)), .second, .val (.long (0 : Int64)), .second, .val (.long (0 : Int64)), .second, .val (.ref a175), .val (.int pv), .val (.long (clx.toInt64)), .second, .val (.long (rwy.toInt64)), .second, .val (.int (0 : Int32)), .val (.long (clx.toInt64)), .second, .val (.long (rwy.toInt64)), .second, .val (.int (0 : Int32)), .val (.long (clx.toInt64)), .second, .unset, .unset, .unset, .unset] [(.int rwy)]))
        have M185 := Fr.app M184 (Fr.nil n0)
        refine w_i2l X185 hx (Jvm.hb hby at_708) (pc' := 709) rfl ?_
        refine w_lstore X185 hx (Jvm.hb hby at_709) #[.val (.long q0), .second, .val (.long q1), .second, .val (.int p2), .val (.int p3), .val (.long q4), .second, .val (.long q5), .second, .val (.long vm), .second, .val (.long kx), .second, .val (.long vk), .second, .val (.long sd), .second, .val (.long vq), .second, .val (.long lo), .second, .val (.long hi), .second, .val (.long cn), .second, .val (.long cx), .second, .val (.long cy), .second, .val (.int d1), .val (.int d2), .val (.long ax), .second, .val (.long ay), .second, .val (.long gx), .second, .val (.long gy), .second, .val (.long vs), .second, .val (.long vt), .second, .val (.long xa), .second, .val (.long ya), .second, .val (.long xb), .second, .val (.long yb), .second, .val (.long dx), .second, .val (.long dy), .second, .val (.long wc), .second, .val (.long wr), .second, .val (.int pv), .val (.int bx), .val (.int bY), .val (.int (1 : Int32)), .val (.long (0 : Int64)), .second, .val (.long (0 : Int64)), .second, .val (.long (0 : Int64)), .second, .val (.long (0 : Int64)), .second, .val (.ref a175), .val (.int pv), .val (.long (clx.toInt64)), .second, .val (.long (rwy.toInt64)), .second, .val (.int (0 : Int32)), .val (.long (clx.toInt64)), .second, .val (.long (rwy.toInt64)), .second, .val (.int (0 : Int32)), .val (.long (clx.toInt64)), .second, .val (.long (rwy.toInt64)), .second, .unset, .unset] rfl  (pc' := 711) rfl ?_
        refine w_aload X185 hx (Jvm.hb hby at_711) rfl rfl (pc' := 713) rfl ?_
        refine w_callV X185 hx hZ hown (hw _ (List.mem_of_getElem? (i := 64) rfl)) (hw _ (List.mem_of_getElem? (i := 65) rfl)) (notFace_of_selects (args := #[]) (mvT hZ (hw _ (List.mem_of_getElem? (i := 67) rfl)))) (hw _ (List.mem_of_getElem? (i := 67) rfl)) (hw _ (List.mem_of_getElem? (i := 66) rfl)) (hw _ (List.mem_of_getElem? (i := 24) rfl)) (hw _ (List.mem_of_getElem? (i := 68) rfl)) (by decide) (W := 0) (rmN_stop l Z aw hw [] a175 sd spx spy scx scy pv clx rwy tcx tcy T183.heap n0 GA O183 hp1.1 (own_nc HX AX hngx) (own_nc HY AY hngy)) e185 (by decide) (by decide) (by decide) (by decide) (O183.2.2.2.2.2.2.2.2.2.2.2) (Jvm.hb hby at_713) (by rw [hml]; rfl) (argsL := []) (rest := []) pd_7 rfl rfl rfl (Nat.le_of_eq rfl) (pc' := 716) rfl ?_
        rintro _ T186 L186 X186 ⟨rfl, N186, K186, O186⟩
        show Ow p e below s _ _ _ (T186.setTop (mkF m 716 #[.val (.long q0), .second, .val (.long q1), .second, .val (.int p2), .val (.int p3), .val (.long q4), .second, .val (.long q5), .second, .val (.long vm), .second, .val (.long kx), .second, .val (.long vk), .second, .val (.long sd), .second, .val (.long vq), .second, .val (.long lo), .second, .val (.long hi), .second, .val (.long cn), .second, .val (.long cx), .second, .val (.long cy), .second, .val (.int d1), .val (.int d2), .val (.long ax), .second, .val (.long ay), .second, .val (.long gx), .second, .val (.long gy), .second, .val (.long vs), .second, .val (.long vt), .second, .val (.long xa), .second, .val (.long ya), .second, .val (.long xb), .second, .val (.long yb), .second, .val (.long dx), .second, .val (.long dy), .second, .val (.long wc), .second, .val (.long wr), .second, .val (.int pv), .val (.int bx), .val (.int bY), .val (.int (1 : Int32)), .val (.long (0 : Int64)), .second, .val (.long (0 : Int64)), .second, .val (.long (0 : Int64)), .second, .val (.long (0 : Int64)), .second, .val (.ref a175), .val (.int pv), .val (.long (clx.toInt64)), .second, .val (.long (rwy.toInt64)), .second, .val (.int (0 : Int32)), .val (.long (clx.toInt64)), .second, .val (.long (rwy.toInt64)), .second, .val (.int (0 : Int32)), .val (.long (clx.toInt64)), .second, .val (.long (rwy.toInt64)), .second, .unset, .unset] [(.int (0 : Int32))]))
        have M186 := Fr.app M185 N186
        refine w_istore X186 hx (Jvm.hb hby at_716) #[.val (.long q0), .second, .val (.long q1), .second, .val (.int p2), .val (.int p3), .val (.long q4), .second, .val (.long q5), .second, .val (.long vm), .second, .val (.long kx), .second, .val (.long vk), .second, .val (.long sd), .second, .val (.long vq), .second, .val (.long lo), .second, .val (.long hi), .second, .val (.long cn), .second, .val (.long cx), .second, .val (.long cy), .second, .val (.int d1), .val (.int d2), .val (.long ax), .second, .val (.long ay), .second, .val (.long gx), .second, .val (.long gy), .second, .val (.long vs), .second, .val (.long vt), .second, .val (.long xa), .second, .val (.long ya), .second, .val (.long xb), .second, .val (.long yb), .second, .val (.long dx), .second, .val (.long dy), .second, .val (.long wc), .second, .val (.long wr), .second, .val (.int pv), .val (.int bx), .val (.int bY), .val (.int (1 : Int32)), .val (.long (0 : Int64)), .second, .val (.long (0 : Int64)), .second, .val (.long (0 : Int64)), .second, .val (.long (0 : Int64)), .second, .val (.ref a175), .val (.int pv), .val (.long (clx.toInt64)), .second, .val (.long (rwy.toInt64)), .second, .val (.int (0 : Int32)), .val (.long (clx.toInt64)), .second, .val (.long (rwy.toInt64)), .second, .val (.int (0 : Int32)), .val (.long (clx.toInt64)), .second, .val (.long (rwy.toInt64)), .second, .val (.int (0 : Int32)), .unset] rfl  (pc' := 718) rfl ?_
        refine w_iload X186 hx (Jvm.hb hby at_718) rfl (pc' := 720) rfl ?_
        refine w_iload X186 hx (Jvm.hb hby at_720) rfl (pc' := 722) rfl ?_
        refine w_iconst X186 hx (1 : Int32) (Jvm.hb hby at_722) (by decide) (pc' := 723) rfl ?_
        refine w_icmp_lt X186 hx (Jvm.hb hby at_723) (by decide) (pcT := 730) (by decide) (pcF := 726) rfl (fun q => absurd q (show ¬ (1 : Int32) < (1 : Int32) from by decide)) (fun _ => ?_)
        refine w_iconst X186 hx (1 : Int32) (Jvm.hb hby at_726) (by decide) (pc' := 727) rfl ?_
        refine w_goto X186 hx (Jvm.hb hby at_727) (by decide) (pc' := 731) (by decide) ?_
        refine w_icmp_ne X186 hx (Jvm.hb hby at_731) (by decide) (pcT := 775) (by decide) (pcF := 734) rfl (fun q => absurd hp1.1 q) (fun _ => ?_)
        refine w_iload X186 hx (Jvm.hb hby at_734) rfl (pc' := 736) rfl ?_
        refine w_iload X186 hx (Jvm.hb hby at_736) rfl (pc' := 738) rfl ?_
        refine w_iconst X186 hx (2 : Int32) (Jvm.hb hby at_738) (by decide) (pc' := 739) rfl ?_
        refine w_icmp_lt X186 hx (Jvm.hb hby at_739) (by decide) (pcT := 746) (by decide) (pcF := 742) rfl (fun _ => ?_) (fun q => absurd (show (1 : Int32) < (2 : Int32) from by decide) q)
        refine w_iconst X186 hx (0 : Int32) (Jvm.hb hby at_746) (by decide) (pc' := 747) rfl ?_
        refine w_icmp_ne X186 hx (Jvm.hb hby at_747) (by decide) (pcT := 775) (by decide) (pcF := 750) rfl (fun q => absurd (show (0 : Int32) = (0 : Int32) from by decide) q) (fun _ => ?_)
        refine w_iload X186 hx (Jvm.hb hby at_750) rfl (pc' := 752) rfl ?_
        refine w_iload X186 hx (Jvm.hb hby at_752) rfl (pc' := 754) rfl ?_
        refine w_iconst X186 hx (3 : Int32) (Jvm.hb hby at_754) (by decide) (pc' := 755) rfl ?_
        refine w_icmp_lt X186 hx (Jvm.hb hby at_755) (by decide) (pcT := 762) (by decide) (pcF := 758) rfl (fun _ => ?_) (fun q => absurd (show (1 : Int32) < (3 : Int32) from by decide) q)
        refine w_iconst X186 hx (0 : Int32) (Jvm.hb hby at_762) (by decide) (pc' := 763) rfl ?_
        refine w_icmp_ne X186 hx (Jvm.hb hby at_763) (by decide) (pcT := 775) (by decide) (pcF := 766) rfl (fun q => absurd (show (0 : Int32) = (0 : Int32) from by decide) q) (fun _ => ?_)
        refine w_iload X186 hx (Jvm.hb hby at_766) rfl (pc' := 768) rfl ?_
        refine w_if_ne X186 hx (Jvm.hb hby at_768) (by decide) (pcT := 775) (by decide) (pcF := 771) rfl (fun q => absurd (show (0 : Int32) = 0 from by decide) q) (fun _ => ?_)
        refine w_iconst X186 hx (1 : Int32) (Jvm.hb hby at_771) (by decide) (pc' := 772) rfl ?_
        refine w_goto X186 hx (Jvm.hb hby at_772) (by decide) (pc' := 776) (by decide) ?_
        refine w_istore X186 hx (Jvm.hb hby at_776) #[.val (.long q0), .second, .val (.long q1), .second, .val (.int p2), .val (.int p3), .val (.long q4), .second, .val (.long q5), .second, .val (.long vm), .second, .val (.long kx), .second, .val (.long vk), .second, .val (.long sd), .second, .val (.long vq), .second, .val (.long lo), .second, .val (.long hi), .second, .val (.long cn), .second, .val (.long cx), .second, .val (.long cy), .second, .val (.int d1), .val (.int d2), .val (.long ax), .second, .val (.long ay), .second, .val (.long gx), .second, .val (.long gy), .second, .val (.long vs), .second, .val (.long vt), .second, .val (.long xa), .second, .val (.long ya), .second, .val (.long xb), .second, .val (.long yb), .second, .val (.long dx), .second, .val (.long dy), .second, .val (.long wc), .second, .val (.long wr), .second, .val (.int pv), .val (.int bx), .val (.int bY), .val (.int (1 : Int32)), .val (.long (0 : Int64)), .second, .val (.long (0 : Int64)), .second, .val (.long (0 : Int64)), .second, .val (.long (0 : Int64)), .second, .val (.ref a175), .val (.int pv), .val (.long (clx.toInt64)), .second, .val (.long (rwy.toInt64)), .second, .val (.int (0 : Int32)), .val (.long (clx.toInt64)), .second, .val (.long (rwy.toInt64)), .second, .val (.int (0 : Int32)), .val (.long (clx.toInt64)), .second, .val (.long (rwy.toInt64)), .second, .val (.int (0 : Int32)), .val (.int (1 : Int32))] rfl  (pc' := 778) rfl ?_
        refine w_iload X186 hx (Jvm.hb hby at_778) rfl (pc' := 780) rfl ?_
        refine w_iconst X186 hx (1 : Int32) (Jvm.hb hby at_780) (by decide) (pc' := 781) rfl ?_
        refine w_icmp_lt X186 hx (Jvm.hb hby at_781) (by decide) (pcT := 812) (by decide) (pcF := 784) rfl (fun q => absurd q (show ¬ (1 : Int32) < (1 : Int32) from by decide)) (fun _ => ?_)
        refine w_iload X186 hx (Jvm.hb hby at_784) rfl (pc' := 786) rfl ?_
        refine w_if_eq X186 hx (Jvm.hb hby at_786) (by decide) (pcT := 809) (by decide) (pcF := 789) rfl (fun q => absurd q (show ¬ (1 : Int32) = 0 from by decide)) (fun _ => ?_)
        refine w_lload X186 hx (Jvm.hb hby at_789) rfl (pc' := 791) rfl ?_
        refine w_lload X186 hx (Jvm.hb hby at_791) rfl (pc' := 793) rfl ?_
        refine w_lcmp_ne X186 hx (Jvm.hb hby at_793) (Jvm.hb hby at_794) rfl (by decide) (pcT := 809) (by decide) (pcF := 797) rfl (fun q => absurd (own_col HX AX hwc hp1.2.1).1 q) (fun _ => ?_)
        refine w_lload X186 hx (Jvm.hb hby at_797) rfl (pc' := 799) rfl ?_
        refine w_lload X186 hx (Jvm.hb hby at_799) rfl (pc' := 801) rfl ?_
        refine w_lcmp_ne X186 hx (Jvm.hb hby at_801) (Jvm.hb hby at_802) rfl (by decide) (pcT := 809) (by decide) (pcF := 805) rfl (fun q => absurd (own_col HY AY hwr hp1.2.2).1 q) (fun _ => ?_)
        refine w_iconst X186 hx (1 : Int32) (Jvm.hb hby at_805) (by decide) (pc' := 806) rfl ?_
        refine w_goto X186 hx (Jvm.hb hby at_806) (by decide) (pc' := 810) (by decide) ?_
        refine w_istore X186 hx (Jvm.hb hby at_810) #[.val (.long q0), .second, .val (.long q1), .second, .val (.int p2), .val (.int p3), .val (.long q4), .second, .val (.long q5), .second, .val (.long vm), .second, .val (.long kx), .second, .val (.long vk), .second, .val (.long sd), .second, .val (.long vq), .second, .val (.long lo), .second, .val (.long hi), .second, .val (.long cn), .second, .val (.long cx), .second, .val (.long cy), .second, .val (.int d1), .val (.int d2), .val (.long ax), .second, .val (.long ay), .second, .val (.long gx), .second, .val (.long gy), .second, .val (.long vs), .second, .val (.long vt), .second, .val (.long xa), .second, .val (.long ya), .second, .val (.long xb), .second, .val (.long yb), .second, .val (.long dx), .second, .val (.long dy), .second, .val (.long wc), .second, .val (.long wr), .second, .val (.int pv), .val (.int bx), .val (.int bY), .val (.int (1 : Int32)), .val (.long (0 : Int64)), .second, .val (.long (0 : Int64)), .second, .val (.long (0 : Int64)), .second, .val (.long (0 : Int64)), .second, .val (.ref a175), .val (.int pv), .val (.long (clx.toInt64)), .second, .val (.long (rwy.toInt64)), .second, .val (.int (0 : Int32)), .val (.long (clx.toInt64)), .second, .val (.long (rwy.toInt64)), .second, .val (.int (0 : Int32)), .val (.long (clx.toInt64)), .second, .val (.long (rwy.toInt64)), .second, .val (.int (0 : Int32)), .val (.int (1 : Int32))] rfl  (pc' := 812) rfl ?_
        refine w_iload X186 hx (Jvm.hb hby at_812) rfl (pc' := 814) rfl ?_
        refine w_iconst X186 hx (2 : Int32) (Jvm.hb hby at_814) (by decide) (pc' := 815) rfl ?_
        refine w_icmp_lt X186 hx (Jvm.hb hby at_815) (by decide) (pcT := 846) (by decide) (pcF := 818) rfl (fun _ => ?_) (fun q => absurd (show (1 : Int32) < (2 : Int32) from by decide) q)
        refine w_iload X186 hx (Jvm.hb hby at_846) rfl (pc' := 848) rfl ?_
        refine w_iconst X186 hx (3 : Int32) (Jvm.hb hby at_848) (by decide) (pc' := 849) rfl ?_
        refine w_icmp_lt X186 hx (Jvm.hb hby at_849) (by decide) (pcT := 880) (by decide) (pcF := 852) rfl (fun _ => ?_) (fun q => absurd (show (1 : Int32) < (3 : Int32) from by decide) q)
        refine w_iload X186 hx (Jvm.hb hby at_880) rfl (pc' := 882) rfl ?_
        exact w_zreturn X186 hx Bd.returns (Or.inr rfl) (BodyLoose.notSynchronized Bd) (Nat.le_of_ble_eq_true rfl) (Nat.le_of_ble_eq_true rfl) (Jvm.hb hby at_882) ⟨rfl, by simpa using M186⟩
      · have hngx := own_b0 hbx kb
        have hgy' := own_b1 hbY kc'
        refine w_iconst X174 hx (2 : Int32) (Jvm.hb hby at_603) (by decide) (pc' := 604) rfl ?_
        refine w_istore X174 hx (Jvm.hb hby at_604) #[.val (.long q0), .second, .val (.long q1), .second, .val (.int p2), .val (.int p3), .val (.long q4), .second, .val (.long q5), .second, .val (.long vm), .second, .val (.long kx), .second, .val (.long vk), .second, .val (.long sd), .second, .val (.long vq), .second, .val (.long lo), .second, .val (.long hi), .second, .val (.long cn), .second, .val (.long cx), .second, .val (.long cy), .second, .val (.int d1), .val (.int d2), .val (.long ax), .second, .val (.long ay), .second, .val (.long gx), .second, .val (.long gy), .second, .val (.long vs), .second, .val (.long vt), .second, .val (.long xa), .second, .val (.long ya), .second, .val (.long xb), .second, .val (.long yb), .second, .val (.long dx), .second, .val (.long dy), .second, .val (.long wc), .second, .val (.long wr), .second, .val (.int pv), .val (.int bx), .val (.int bY), .val (.int (2 : Int32)), .val (.long (0 : Int64)), .second, .val (.long (0 : Int64)), .second, .val (.long (0 : Int64)), .second, .val (.long (0 : Int64)), .second, .unset, .unset, .unset, .unset, .unset, .unset, .unset, .unset, .unset, .unset, .unset, .unset, .unset, .unset, .unset, .unset, .unset, .unset] rfl  (pc' := 606) rfl ?_
        refine w_lload X174 hx (Jvm.hb hby at_606) rfl (pc' := 608) rfl ?_
        refine w_lstore X174 hx (Jvm.hb hby at_608) #[.val (.long q0), .second, .val (.long q1), .second, .val (.int p2), .val (.int p3), .val (.long q4), .second, .val (.long q5), .second, .val (.long vm), .second, .val (.long kx), .second, .val (.long vk), .second, .val (.long sd), .second, .val (.long vq), .second, .val (.long lo), .second, .val (.long hi), .second, .val (.long cn), .second, .val (.long cx), .second, .val (.long cy), .second, .val (.int d1), .val (.int d2), .val (.long ax), .second, .val (.long ay), .second, .val (.long gx), .second, .val (.long gy), .second, .val (.long vs), .second, .val (.long vt), .second, .val (.long xa), .second, .val (.long ya), .second, .val (.long xb), .second, .val (.long yb), .second, .val (.long dx), .second, .val (.long dy), .second, .val (.long wc), .second, .val (.long wr), .second, .val (.int pv), .val (.int bx), .val (.int bY), .val (.int (2 : Int32)), .val (.long wc), .second, .val (.long (0 : Int64)), .second, .val (.long (0 : Int64)), .second, .val (.long (0 : Int64)), .second, .unset, .unset, .unset, .unset, .unset, .unset, .unset, .unset, .unset, .unset, .unset, .unset, .unset, .unset, .unset, .unset, .unset, .unset] rfl  (pc' := 610) rfl ?_
        refine w_lload X174 hx (Jvm.hb hby at_610) rfl (pc' := 612) rfl ?_
        refine w_lload X174 hx (Jvm.hb hby at_612) rfl (pc' := 614) rfl ?_
        refine w_ladd X174 hx (Jvm.hb hby at_614) (pc' := 615) rfl ?_
        refine w_lstore X174 hx (Jvm.hb hby at_615) #[.val (.long q0), .second, .val (.long q1), .second, .val (.int p2), .val (.int p3), .val (.long q4), .second, .val (.long q5), .second, .val (.long vm), .second, .val (.long kx), .second, .val (.long vk), .second, .val (.long sd), .second, .val (.long vq), .second, .val (.long lo), .second, .val (.long hi), .second, .val (.long cn), .second, .val (.long cx), .second, .val (.long cy), .second, .val (.int d1), .val (.int d2), .val (.long ax), .second, .val (.long ay), .second, .val (.long gx), .second, .val (.long gy), .second, .val (.long vs), .second, .val (.long vt), .second, .val (.long xa), .second, .val (.long ya), .second, .val (.long xb), .second, .val (.long yb), .second, .val (.long dx), .second, .val (.long dy), .second, .val (.long wc), .second, .val (.long wr), .second, .val (.int pv), .val (.int bx), .val (.int bY), .val (.int (2 : Int32)), .val (.long wc), .second, .val (.long (wr + dy)), .second, .val (.long (0 : Int64)), .second, .val (.long (0 : Int64)), .second, .unset, .unset, .unset, .unset, .unset, .unset, .unset, .unset, .unset, .unset, .unset, .unset, .unset, .unset, .unset, .unset, .unset, .unset] rfl  (pc' := 617) rfl ?_
        refine w_goto X174 hx (Jvm.hb hby at_617) (by decide) (pc' := 623) (by decide) ?_
        refine w_new X174 hx hZ hown (hw _ (List.mem_of_getElem? (i := 22) rfl)) (hw _ (List.mem_of_getElem? (i := 23) rfl)) (hw _ (List.mem_of_getElem? (i := 24) rfl)) e174 (Jvm.hb hby at_623) (by decide) (by decide) (pc' := 626) rfl ?_
        intro T187 h187 a187 g187 X187 e187 E187 A187 D187
        have G187_side : Fld Z h187 a187 "com/example/sarutahiko/sarutahiko/lattice/SegmentWalk" "side" "J" (.long (0 : Int64)) := D187 (Or.inr (hw _ (List.mem_of_getElem? (i := 42) rfl))) (ty := .long) (by decide)
        have G187_spanX : Fld Z h187 a187 "com/example/sarutahiko/sarutahiko/lattice/SegmentWalk" "spanX" "J" (.long (0 : Int64)) := D187 (Or.inr (hw _ (List.mem_of_getElem? (i := 47) rfl))) (ty := .long) (by decide)
        have G187_spanY : Fld Z h187 a187 "com/example/sarutahiko/sarutahiko/lattice/SegmentWalk" "spanY" "J" (.long (0 : Int64)) := D187 (Or.inr (hw _ (List.mem_of_getElem? (i := 49) rfl))) (ty := .long) (by decide)
        have G187_stepColumn : Fld Z h187 a187 "com/example/sarutahiko/sarutahiko/lattice/SegmentWalk" "stepColumn" "I" (.int (0 : Int32)) := D187 (Or.inr (hw _ (List.mem_of_getElem? (i := 51) rfl))) (ty := .int) (by decide)
        have G187_stepRow : Fld Z h187 a187 "com/example/sarutahiko/sarutahiko/lattice/SegmentWalk" "stepRow" "I" (.int (0 : Int32)) := D187 (Or.inr (hw _ (List.mem_of_getElem? (i := 53) rfl))) (ty := .int) (by decide)
        have G187_passes : Fld Z h187 a187 "com/example/sarutahiko/sarutahiko/lattice/SegmentWalk" "passes" "Z" (.int (0 : Int32)) := D187 (Or.inr (hw _ (List.mem_of_getElem? (i := 63) rfl))) (ty := .boolean) (by decide)
        have G187_column : Fld Z h187 a187 "com/example/sarutahiko/sarutahiko/lattice/SegmentWalk" "column" "I" (.int (0 : Int32)) := D187 (Or.inl (hw _ (List.mem_of_getElem? (i := 59) rfl))) (ty := .int) (by decide)
        have G187_row : Fld Z h187 a187 "com/example/sarutahiko/sarutahiko/lattice/SegmentWalk" "row" "I" (.int (0 : Int32)) := D187 (Or.inl (hw _ (List.mem_of_getElem? (i := 61) rfl))) (ty := .int) (by decide)
        have G187_toColumnLine : Fld Z h187 a187 "com/example/sarutahiko/sarutahiko/lattice/SegmentWalk" "toColumnLine" "J" (.long (0 : Int64)) := D187 (Or.inl (hw _ (List.mem_of_getElem? (i := 55) rfl))) (ty := .long) (by decide)
        have G187_toRowLine : Fld Z h187 a187 "com/example/sarutahiko/sarutahiko/lattice/SegmentWalk" "toRowLine" "J" (.long (0 : Int64)) := D187 (Or.inl (hw _ (List.mem_of_getElem? (i := 57) rfl))) (ty := .long) (by decide)
        have G187_started : Fld Z h187 a187 "com/example/sarutahiko/sarutahiko/lattice/SegmentWalk" "started" "Z" (.int (0 : Int32)) := D187 (Or.inl (hw _ (List.mem_of_getElem? (i := 70) rfl))) (ty := .boolean) (by decide)
        have GA : n0 ≤ a187 := Nat.le_trans Z0 (Nat.le_of_eq g187.symm)
        have OO : SWo Z h187 a187 (0 : Int64) (0 : Int64) (0 : Int64) (0 : Int32) (0 : Int32) (0 : Int32) (0 : Int32) (0 : Int32) (0 : Int64) (0 : Int64) (0 : Int32) := ⟨G187_side, G187_spanX, G187_spanY, G187_stepColumn, G187_stepRow, G187_passes, G187_column, G187_row, G187_toColumnLine, G187_toRowLine, G187_started, A187⟩
        refine w_dup X187 hx (Jvm.hb hby at_626) rfl (pc' := 627) rfl ?_
        refine w_lload X187 hx (Jvm.hb hby at_627) rfl (pc' := 629) rfl ?_
        refine w_lload X187 hx (Jvm.hb hby at_629) rfl (pc' := 631) rfl ?_
        refine w_lload X187 hx (Jvm.hb hby at_631) rfl (pc' := 633) rfl ?_
        refine w_lload X187 hx (Jvm.hb hby at_633) rfl (pc' := 635) rfl ?_
        refine w_lload X187 hx (Jvm.hb hby at_635) rfl (pc' := 637) rfl ?_
        refine w_callN X187 hx hZ rfl hown (hw _ (List.mem_of_getElem? (i := 25) rfl)) (hw _ (List.mem_of_getElem? (i := 26) rfl)) (hw _ (List.mem_of_getElem? (i := 24) rfl)) (hw _ (List.mem_of_getElem? (i := 27) rfl)) (by decide) (W := 1) (rm5 l Z aw hw [] a187 xa ya xb yb sd spx spy scx scy Xp Yp ccx ccy tcx tcy clx rwy pv h187 n0 GA OO (q_nz (by have := Bs.2.1; omega)) (j_lt.mpr (by rw [j0]; have := Bs.2.1; omega)) (fun z => by have h9 := j_lt.mp z; rw [show (2305843009213693952 : Int64).toInt = 2305843009213693952 from by decide] at h9; have := Bs.2.2; omega) AX.2.2.2.2.2.2.1 AY.2.2.2.2.2.2.1 AX.2.2.2.2.2.2.2.1 AY.2.2.2.2.2.2.2.1 AX.1 AY.1 AX.2.1 AY.2.1 AX.2.2.1 AY.2.2.1 AX.2.2.2.1 AY.2.2.2.1 AX.2.2.2.2.1 AY.2.2.2.2.1 AX.2.2.2.2.2.1 AY.2.2.2.2.2.1 hpsw) e187 (by decide) (by decide) (by decide) (by decide) (Jvm.hb hby at_637) (by rw [hml]; rfl) (a := a187) (argsL := [(.long xa), (.long ya), (.long xb), (.long yb), (.long sd)]) (rest := [(.ref a187)]) pd_6 rfl rfl rfl (Nat.le_of_eq rfl) (pc' := 640) rfl ?_
        rintro _ T188 L188 X188 ⟨rfl, N188, K188, O188⟩
        show Ow p e below s _ _ _ (T188.setTop (mkF m 640 #[.val (.long q0), .second, .val (.long q1), .second, .val (.int p2), .val (.int p3), .val (.long q4), .second, .val (.long q5), .second, .val (.long vm), .second, .val (.long kx), .second, .val (.long vk), .second, .val (.long sd), .second, .val (.long vq), .second, .val (.long lo), .second, .val (.long hi), .second, .val (.long cn), .second, .val (.long cx), .second, .val (.long cy), .second, .val (.int d1), .val (.int d2), .val (.long ax), .second, .val (.long ay), .second, .val (.long gx), .second, .val (.long gy), .second, .val (.long vs), .second, .val (.long vt), .second, .val (.long xa), .second, .val (.long ya), .second, .val (.long xb), .second, .val (.long yb), .second, .val (.long dx), .second, .val (.long dy), .second, .val (.long wc), .second, .val (.long wr), .second, .val (.int pv), .val (.int bx), .val (.int bY), .val (.int (2 : Int32)), .val (.long wc), .second, .val (.long (wr + dy)), .second, .val (.long (0 : Int64)), .second, .val (.long (0 : Int64)), .second, .unset, .unset, .unset, .unset, .unset, .unset, .unset, .unset, .unset, .unset, .unset, .unset, .unset, .unset, .unset, .unset, .unset, .unset] [(.ref a187)]))
        have M188 := Fr.app NB N188
        refine w_astore X188 hx (Jvm.hb hby at_640) #[.val (.long q0), .second, .val (.long q1), .second, .val (.int p2), .val (.int p3), .val (.long q4), .second, .val (.long q5), .second, .val (.long vm), .second, .val (.long kx), .second, .val (.long vk), .second, .val (.long sd), .second, .val (.long vq), .second, .val (.long lo), .second, .val (.long hi), .second, .val (.long cn), .second, .val (.long cx), .second, .val (.long cy), .second, .val (.int d1), .val (.int d2), .val (.long ax), .second, .val (.long ay), .second, .val (.long gx), .second, .val (.long gy), .second, .val (.long vs), .second, .val (.long vt), .second, .val (.long xa), .second, .val (.long ya), .second, .val (.long xb), .second, .val (.long yb), .second, .val (.long dx), .second, .val (.long dy), .second, .val (.long wc), .second, .val (.long wr), .second, .val (.int pv), .val (.int bx), .val (.int bY), .val (.int (2 : Int32)), .val (.long wc), .second, .val (.long (wr + dy)), .second, .val (.long (0 : Int64)), .second, .val (.long (0 : Int64)), .second, .val (.ref a187), .unset, .unset, .unset, .unset, .unset, .unset, .unset, .unset, .unset, .unset, .unset, .unset, .unset, .unset, .unset, .unset, .unset] rfl rfl (pc' := 642) rfl ?_
        refine w_aload X188 hx (Jvm.hb hby at_642) rfl rfl (pc' := 644) rfl ?_
        refine w_callV X188 hx hZ hown (hw _ (List.mem_of_getElem? (i := 64) rfl)) (hw _ (List.mem_of_getElem? (i := 65) rfl)) (notFace_of_selects (args := #[]) (mvT hZ (hw _ (List.mem_of_getElem? (i := 67) rfl)))) (hw _ (List.mem_of_getElem? (i := 67) rfl)) (hw _ (List.mem_of_getElem? (i := 66) rfl)) (hw _ (List.mem_of_getElem? (i := 24) rfl)) (hw _ (List.mem_of_getElem? (i := 68) rfl)) (by decide) (W := 0) (rmN_first l Z aw hw [] a187 sd spx spy scx scy pv clx rwy tcx tcy T188.heap n0 GA O188 (own_p01 hpas)) rfl (by decide) (by decide) (by decide) (by decide) (O188.2.2.2.2.2.2.2.2.2.2.2) (Jvm.hb hby at_644) (by rw [hml]; rfl) (argsL := []) (rest := []) pd_7 rfl rfl rfl (Nat.le_of_eq rfl) (pc' := 647) rfl ?_
        rintro _ T189 L189 X189 ⟨rfl, N189, K189, O189⟩
        show Ow p e below s _ _ _ (T189.setTop (mkF m 647 #[.val (.long q0), .second, .val (.long q1), .second, .val (.int p2), .val (.int p3), .val (.long q4), .second, .val (.long q5), .second, .val (.long vm), .second, .val (.long kx), .second, .val (.long vk), .second, .val (.long sd), .second, .val (.long vq), .second, .val (.long lo), .second, .val (.long hi), .second, .val (.long cn), .second, .val (.long cx), .second, .val (.long cy), .second, .val (.int d1), .val (.int d2), .val (.long ax), .second, .val (.long ay), .second, .val (.long gx), .second, .val (.long gy), .second, .val (.long vs), .second, .val (.long vt), .second, .val (.long xa), .second, .val (.long ya), .second, .val (.long xb), .second, .val (.long yb), .second, .val (.long dx), .second, .val (.long dy), .second, .val (.long wc), .second, .val (.long wr), .second, .val (.int pv), .val (.int bx), .val (.int bY), .val (.int (2 : Int32)), .val (.long wc), .second, .val (.long (wr + dy)), .second, .val (.long (0 : Int64)), .second, .val (.long (0 : Int64)), .second, .val (.ref a187), .unset, .unset, .unset, .unset, .unset, .unset, .unset, .unset, .unset, .unset, .unset, .unset, .unset, .unset, .unset, .unset, .unset] [(.int pv)]))
        have M189 := Fr.app M188 N189
        refine w_istore X189 hx (Jvm.hb hby at_647) #[.val (.long q0), .second, .val (.long q1), .second, .val (.int p2), .val (.int p3), .val (.long q4), .second, .val (.long q5), .second, .val (.long vm), .second, .val (.long kx), .second, .val (.long vk), .second, .val (.long sd), .second, .val (.long vq), .second, .val (.long lo), .second, .val (.long hi), .second, .val (.long cn), .second, .val (.long cx), .second, .val (.long cy), .second, .val (.int d1), .val (.int d2), .val (.long ax), .second, .val (.long ay), .second, .val (.long gx), .second, .val (.long gy), .second, .val (.long vs), .second, .val (.long vt), .second, .val (.long xa), .second, .val (.long ya), .second, .val (.long xb), .second, .val (.long yb), .second, .val (.long dx), .second, .val (.long dy), .second, .val (.long wc), .second, .val (.long wr), .second, .val (.int pv), .val (.int bx), .val (.int bY), .val (.int (2 : Int32)), .val (.long wc), .second, .val (.long (wr + dy)), .second, .val (.long (0 : Int64)), .second, .val (.long (0 : Int64)), .second, .val (.ref a187), .val (.int pv), .unset, .unset, .unset, .unset, .unset, .unset, .unset, .unset, .unset, .unset, .unset, .unset, .unset, .unset, .unset, .unset] rfl  (pc' := 649) rfl ?_
        refine w_aload X189 hx (Jvm.hb hby at_649) rfl rfl (pc' := 651) rfl ?_
        refine w_callV X189 hx hZ hown (hw _ (List.mem_of_getElem? (i := 71) rfl)) (hw _ (List.mem_of_getElem? (i := 72) rfl)) (notFace_of_selects (args := #[]) (mvT hZ (hw _ (List.mem_of_getElem? (i := 74) rfl)))) (hw _ (List.mem_of_getElem? (i := 74) rfl)) (hw _ (List.mem_of_getElem? (i := 73) rfl)) (hw _ (List.mem_of_getElem? (i := 24) rfl)) (hw _ (List.mem_of_getElem? (i := 75) rfl)) (by decide) (W := 0) (rm11 l Z aw hw [] a187 clx T189.heap (O189.2.2.2.2.2.2.1)) rfl (by decide) (by decide) (by decide) (by decide) (O189.2.2.2.2.2.2.2.2.2.2.2) (Jvm.hb hby at_651) (by rw [hml]; rfl) (argsL := []) (rest := []) pd_8 rfl rfl rfl (Nat.le_of_eq rfl) (pc' := 654) rfl ?_
        rintro _ T190 L190 X190 ⟨rfl, e190, rfl⟩
        show Ow p e below s _ _ _ (T190.setTop (mkF m 654 #[.val (.long q0), .second, .val (.long q1), .second, .val (.int p2), .val (.int p3), .val (.long q4), .second, .val (.long q5), .second, .val (.long vm), .second, .val (.long kx), .second, .val (.long vk), .second, .val (.long sd), .second, .val (.long vq), .second, .val (.long lo), .second, .val (.long hi), .second, .val (.long cn), .second, .val (.long cx), .second, .val (.long cy), .second, .val (.int d1), .val (.int d2), .val (.long ax), .second, .val (.long ay), .second, .val (.long gx), .second, .val (.long gy), .second, .val (.long vs), .second, .val (.long vt), .second, .val (.long xa), .second, .val (.long ya), .second, .val (.long xb), .second, .val (.long yb), .second, .val (.long dx), .second, .val (.long dy), .second, .val (.long wc), .second, .val (.long wr), .second, .val (.int pv), .val (.int bx), .val (.int bY), .val (.int (2 : Int32)), .val (.long wc), .second, .val (.long (wr + dy)), .second, .val (.long (0 : Int64)), .second, .val (.long (0 : Int64)), .second, .val (.ref a187), .val (.int pv), .unset, .unset, .unset, .unset, .unset, .unset, .unset, .unset, .unset, .unset, .unset, .unset, .unset, .unset, .unset, .unset] [(.int clx)]))
        have M190 := Fr.app M189 (Fr.nil n0)
        refine w_i2l X190 hx (Jvm.hb hby at_654) (pc' := 655) rfl ?_
        refine w_lstore X190 hx (Jvm.hb hby at_655) #[.val (.long q0), .second, .val (.long q1), .second, .val (.int p2), .val (.int p3), .val (.long q4), .second, .val (.long q5), .second, .val (.long vm), .second, .val (.long kx), .second, .val (.long vk), .second, .val (.long sd), .second, .val (.long vq), .second, .val (.long lo), .second, .val (.long hi), .second, .val (.long cn), .second, .val (.long cx), .second, .val (.long cy), .second, .val (.int d1), .val (.int d2), .val (.long ax), .second, .val (.long ay), .second, .val (.long gx), .second, .val (.long gy), .second, .val (.long vs), .second, .val (.long vt), .second, .val (.long xa), .second, .val (.long ya), .second, .val (.long xb), .second, .val (.long yb), .second, .val (.long dx), .second, .val (.long dy), .second, .val (.long wc), .second, .val (.long wr), .second, .val (.int pv), .val (.int bx), .val (.int bY), .val (.int (2 : Int32)), .val (.long wc), .second, .val (.long (wr + dy)), .second, .val (.long (0 : Int64)), .second, .val (.long (0 : Int64)), .second, .val (.ref a187), .val (.int pv), .val (.long (clx.toInt64)), .second, .unset, .unset, .unset, .unset, .unset, .unset, .unset, .unset, .unset, .unset, .unset, .unset, .unset, .unset] rfl  (pc' := 657) rfl ?_
        refine w_aload X190 hx (Jvm.hb hby at_657) rfl rfl (pc' := 659) rfl ?_
        refine w_callV X190 hx hZ hown (hw _ (List.mem_of_getElem? (i := 76) rfl)) (hw _ (List.mem_of_getElem? (i := 77) rfl)) (notFace_of_selects (args := #[]) (mvT hZ (hw _ (List.mem_of_getElem? (i := 79) rfl)))) (hw _ (List.mem_of_getElem? (i := 79) rfl)) (hw _ (List.mem_of_getElem? (i := 78) rfl)) (hw _ (List.mem_of_getElem? (i := 24) rfl)) (hw _ (List.mem_of_getElem? (i := 80) rfl)) (by decide) (W := 0) (rm12 l Z aw hw [] a187 rwy T189.heap (O189.2.2.2.2.2.2.2.1)) e190 (by decide) (by decide) (by decide) (by decide) (O189.2.2.2.2.2.2.2.2.2.2.2) (Jvm.hb hby at_659) (by rw [hml]; rfl) (argsL := []) (rest := []) pd_8 rfl rfl rfl (Nat.le_of_eq rfl) (pc' := 662) rfl ?_
        rintro _ T191 L191 X191 ⟨rfl, e191, rfl⟩
        show Ow p e below s _ _ _ (T191.setTop (mkF m 662 #[.val (.long q0), .second, .val (.long q1), .second, .val (.int p2), .val (.int p3), .val (.long q4), .second, .val (.long q5), .second, .val (.long vm), .second, .val (.long kx), .second, .val (.long vk), .second, .val (.long sd), .second, .val (.long vq), .second, .val (.long lo), .second, .val (.long hi), .second, .val (.long cn), .second, .val (.long cx), .second, .val (.long cy), .second, .val (.int d1), .val (.int d2), .val (.long ax), .second, .val (.long ay), .second, .val (.long gx), .second, .val (.long gy), .second, .val (.long vs), .second, .val (.long vt), .second, .val (.long xa), .second, .val (.long ya), .second, .val (.long xb), .second, .val (.long yb), .second, .val (.long dx), .second, .val (.long dy), .second, .val (.long wc), .second, .val (.long wr), .second, .val (.int pv), .val (.int bx), .val (.int bY), .val (.int (2 : Int32)), .val (.long wc), .second, .val (.long (wr + dy)), .second, .val (.long (0 : Int64)), .second, .val (.long (0 : Int64)), .second, .val (.ref a187), .val (.int pv), .val (.long (clx.toInt64)), .second, .unset, .unset, .unset, .unset, .unset, .unset, .unset, .unset, .unset, .unset, .unset, .unset, .unset, .unset] [(.int rwy)]))
        have M191 := Fr.app M190 (Fr.nil n0)
        refine w_i2l X191 hx (Jvm.hb hby at_662) (pc' := 663) rfl ?_
        refine w_lstore X191 hx (Jvm.hb hby at_663) #[.val (.long q0), .second, .val (.long q1), .second, .val (.int p2), .val (.int p3), .val (.long q4), .second, .val (.long q5), .second, .val (.long vm), .second, .val (.long kx), .second, .val (.long vk), .second, .val (.long sd), .second, .val (.long vq), .second, .val (.long lo), .second, .val (.long hi), .second, .val (.long cn), .second, .val (.long cx), .second, .val (.long cy), .second, .val (.int d1), .val (.int d2), .val (.long ax), .second, .val (.long ay), .second, .val (.long gx), .second, .val (.long gy), .second, .val (.long vs), .second, .val (.long vt), .second, .val (.long xa), .second, .val (.long ya), .second, .val (.long xb), .second, .val (.long yb), .second, .val (.long dx), .second, .val (.long dy), .second, .val (.long wc), .second, .val (.long wr), .second, .val (.int pv), .val (.int bx), .val (.int bY), .val (.int (2 : Int32)), .val (.long wc), .second, .val (.long (wr + dy)), .second, .val (.long (0 : Int64)), .second, .val (.long (0 : Int64)), .second, .val (.ref a187), .val (.int pv), .val (.long (clx.toInt64)), .second, .val (.long (rwy.toInt64)), .second, .unset, .unset, .unset, .unset, .unset, .unset, .unset, .unset, .unset, .unset, .unset, .unset] rfl  (pc' := 665) rfl ?_
        refine w_aload X191 hx (Jvm.hb hby at_665) rfl rfl (pc' := 667) rfl ?_
        refine w_callV X191 hx hZ hown (hw _ (List.mem_of_getElem? (i := 64) rfl)) (hw _ (List.mem_of_getElem? (i := 65) rfl)) (notFace_of_selects (args := #[]) (mvT hZ (hw _ (List.mem_of_getElem? (i := 67) rfl)))) (hw _ (List.mem_of_getElem? (i := 67) rfl)) (hw _ (List.mem_of_getElem? (i := 66) rfl)) (hw _ (List.mem_of_getElem? (i := 24) rfl)) (hw _ (List.mem_of_getElem? (i := 68) rfl)) (by decide) (W := 0) (rmN_y l Z aw hw [] a187 sd spx spy scx scy pv clx rwy tcx tcy T189.heap n0 GA O189 hp1.1 (own_nc HX AX hngx) (own_c HY AY hgy').1) e191 (by decide) (by decide) (by decide) (by decide) (O189.2.2.2.2.2.2.2.2.2.2.2) (Jvm.hb hby at_667) (by rw [hml]; rfl) (argsL := []) (rest := []) pd_7 rfl rfl rfl (Nat.le_of_eq rfl) (pc' := 670) rfl ?_
        rintro _ T192 L192 X192 ⟨rfl, N192, K192, O192⟩
        show Ow p e below s _ _ _ (T192.setTop (mkF m 670 #[.val (.long q0), .second, .val (.long q1), .second, .val (.int p2), .val (.int p3), .val (.long q4), .second, .val (.long q5), .second, .val (.long vm), .second, .val (.long kx), .second, .val (.long vk), .second, .val (.long sd), .second, .val (.long vq), .second, .val (.long lo), .second, .val (.long hi), .second, .val (.long cn), .second, .val (.long cx), .second, .val (.long cy), .second, .val (.int d1), .val (.int d2), .val (.long ax), .second, .val (.long ay), .second, .val (.long gx), .second, .val (.long gy), .second, .val (.long vs), .second, .val (.long vt), .second, .val (.long xa), .second, .val (.long ya), .second, .val (.long xb), .second, .val (.long yb), .second, .val (.long dx), .second, .val (.long dy), .second, .val (.long wc), .second, .val (.long wr), .second, .val (.int pv), .val (.int bx), .val (.int bY), .val (.int (2 : Int32)), .val (.long wc), .second, .val (.long (wr + dy)), .second, .val (.long (0 : Int64)), .second, .val (.long (0 : Int64)), .second, .val (.ref a187), .val (.int pv), .val (.long (clx.toInt64)), .second, .val (.long (rwy.toInt64)), .second, .unset, .unset, .unset, .unset, .unset, .unset, .unset, .unset, .unset, .unset, .unset, .unset] [(.int (1 : Int32))]))
        have M192 := Fr.app M191 N192
        refine w_istore X192 hx (Jvm.hb hby at_670) #[.val (.long q0), .second, .val (.long q1), .second, .val (.int p2), .val (.int p3), .val (.long q4), .second, .val (.long q5), .second, .val (.long vm), .second, .val (.long kx), .second, .val (.long vk), .second, .val (.long sd), .second, .val (.long vq), .second, .val (.long lo), .second, .val (.long hi), .second, .val (.long cn), .second, .val (.long cx), .second, .val (.long cy), .second, .val (.int d1), .val (.int d2), .val (.long ax), .second, .val (.long ay), .second, .val (.long gx), .second, .val (.long gy), .second, .val (.long vs), .second, .val (.long vt), .second, .val (.long xa), .second, .val (.long ya), .second, .val (.long xb), .second, .val (.long yb), .second, .val (.long dx), .second, .val (.long dy), .second, .val (.long wc), .second, .val (.long wr), .second, .val (.int pv), .val (.int bx), .val (.int bY), .val (.int (2 : Int32)), .val (.long wc), .second, .val (.long (wr + dy)), .second, .val (.long (0 : Int64)), .second, .val (.long (0 : Int64)), .second, .val (.ref a187), .val (.int pv), .val (.long (clx.toInt64)), .second, .val (.long (rwy.toInt64)), .second, .val (.int (1 : Int32)), .unset, .unset, .unset, .unset, .unset, .unset, .unset, .unset, .unset, .unset, .unset] rfl  (pc' := 672) rfl ?_
        refine w_aload X192 hx (Jvm.hb hby at_672) rfl rfl (pc' := 674) rfl ?_
        refine w_callV X192 hx hZ hown (hw _ (List.mem_of_getElem? (i := 71) rfl)) (hw _ (List.mem_of_getElem? (i := 72) rfl)) (notFace_of_selects (args := #[]) (mvT hZ (hw _ (List.mem_of_getElem? (i := 74) rfl)))) (hw _ (List.mem_of_getElem? (i := 74) rfl)) (hw _ (List.mem_of_getElem? (i := 73) rfl)) (hw _ (List.mem_of_getElem? (i := 24) rfl)) (hw _ (List.mem_of_getElem? (i := 75) rfl)) (by decide) (W := 0) (rm11 l Z aw hw [] a187 clx T192.heap (O192.2.2.2.2.2.2.1)) rfl (by decide) (by decide) (by decide) (by decide) (O192.2.2.2.2.2.2.2.2.2.2.2) (Jvm.hb hby at_674) (by rw [hml]; rfl) (argsL := []) (rest := []) pd_8 rfl rfl rfl (Nat.le_of_eq rfl) (pc' := 677) rfl ?_
        rintro _ T193 L193 X193 ⟨rfl, e193, rfl⟩
        show Ow p e below s _ _ _ (T193.setTop (mkF m 677 #[.val (.long q0), .second, .val (.long q1), .second, .val (.int p2), .val (.int p3), .val (.long q4), .second, .val (.long q5), .second, .val (.long vm), .second, .val (.long kx), .second, .val (.long vk), .second, .val (.long sd), .second, .val (.long vq), .second, .val (.long lo), .second, .val (.long hi), .second, .val (.long cn), .second, .val (.long cx), .second, .val (.long cy), .second, .val (.int d1), .val (.int d2), .val (.long ax), .second, .val (.long ay), .second, .val (.long gx), .second, .val (.long gy), .second, .val (.long vs), .second, .val (.long vt), .second, .val (.long xa), .second, .val (.long ya), .second, .val (.long xb), .second, .val (.long yb), .second, .val (.long dx), .second, .val (.long dy), .second, .val (.long wc), .second, .val (.long wr), .second, .val (.int pv), .val (.int bx), .val (.int bY), .val (.int (2 : Int32)), .val (.long wc), .second, .val (.long (wr + dy)), .second, .val (.long (0 : Int64)), .second, .val (.long (0 : Int64)), .second, .val (.ref a187), .val (.int pv), .val (.long (clx.toInt64)), .second, .val (.long (rwy.toInt64)), .second, .val (.int (1 : Int32)), .unset, .unset, .unset, .unset, .unset, .unset, .unset, .unset, .unset, .unset, .unset] [(.int clx)]))
        have M193 := Fr.app M192 (Fr.nil n0)
        refine w_i2l X193 hx (Jvm.hb hby at_677) (pc' := 678) rfl ?_
        refine w_lstore X193 hx (Jvm.hb hby at_678) #[.val (.long q0), .second, .val (.long q1), .second, .val (.int p2), .val (.int p3), .val (.long q4), .second, .val (.long q5), .second, .val (.long vm), .second, .val (.long kx), .second, .val (.long vk), .second, .val (.long sd), .second, .val (.long vq), .second, .val (.long lo), .second, .val (.long hi), .second, .val (.long cn), .second, .val (.long cx), .second, .val (.long cy), .second, .val (.int d1), .val (.int d2), .val (.long ax), .second, .val (.long ay), .second, .val (.long gx), .second, .val (.long gy), .second, .val (.long vs), .second, .val (.long vt), .second, .val (.long xa), .second, .val (.long ya), .second, .val (.long xb), .second, .val (.long yb), .second, .val (.long dx), .second, .val (.long dy), .second, .val (.long wc), .second, .val (.long wr), .second, .val (.int pv), .val (.int bx), .val (.int bY), .val (.int (2 : Int32)), .val (.long wc), .second, .val (.long (wr + dy)), .second, .val (.long (0 : Int64)), .second, .val (.long (0 : Int64)), .second, .val (.ref a187), .val (.int pv), .val (.long (clx.toInt64)), .second, .val (.long (rwy.toInt64)), .second, .val (.int (1 : Int32)), .val (.long (clx.toInt64)), .second, .unset, .unset, .unset, .unset, .unset, .unset, .unset, .unset, .unset] rfl  (pc' := 680) rfl ?_
        refine w_aload X193 hx (Jvm.hb hby at_680) rfl rfl (pc' := 682) rfl ?_
        refine w_callV X193 hx hZ hown (hw _ (List.mem_of_getElem? (i := 76) rfl)) (hw _ (List.mem_of_getElem? (i := 77) rfl)) (notFace_of_selects (args := #[]) (mvT hZ (hw _ (List.mem_of_getElem? (i := 79) rfl)))) (hw _ (List.mem_of_getElem? (i := 79) rfl)) (hw _ (List.mem_of_getElem? (i := 78) rfl)) (hw _ (List.mem_of_getElem? (i := 24) rfl)) (hw _ (List.mem_of_getElem? (i := 80) rfl)) (by decide) (W := 0) (rm12 l Z aw hw [] a187 (rwy + scy) T192.heap (O192.2.2.2.2.2.2.2.1)) e193 (by decide) (by decide) (by decide) (by decide) (O192.2.2.2.2.2.2.2.2.2.2.2) (Jvm.hb hby at_682) (by rw [hml]; rfl) (argsL := []) (rest := []) pd_8 rfl rfl rfl (Nat.le_of_eq rfl) (pc' := 685) rfl ?_
        rintro _ T194 L194 X194 ⟨rfl, e194, rfl⟩
        show Ow p e below s _ _ _ (T194.setTop (mkF m 685 #[.val (.long q0), .second, .val (.long q1), .second, .val (.int p2), .val (.int p3), .val (.long q4), .second, .val (.long q5), .second, .val (.long vm), .second, .val (.long kx), .second, .val (.long vk), .second, .val (.long sd), .second, .val (.long vq), .second, .val (.long lo), .second, .val (.long hi), .second, .val (.long cn), .second, .val (.long cx), .second, .val (.long cy), .second, .val (.int d1), .val (.int d2), .val (.long ax), .second, .val (.long ay), .second, .val (.long gx), .second, .val (.long gy), .second, .val (.long vs), .second, .val (.long vt), .second, .val (.long xa), .second, .val (.long ya), .second, .val (.long xb), .second, .val (.long yb), .second, .val (.long dx), .second, .val (.long dy), .second, .val (.long wc), .second, .val (.long wr), .second, .val (.int pv), .val (.int bx), .val (.int bY), .val (.int (2 : Int32)), .val (.long wc), .second, .val (.long (wr + dy)), .second, .val (.long (0 : Int64)), .second, .val (.long (0 : Int64)), .second, .val (.ref a187), .val (.int pv), .val (.long (clx.toInt64)), .second, .val (.long (rwy.toInt64)), .second, .val (.int (1 : Int32)), .val (.long (clx.toInt64)), .second, .unset, .unset, .unset, .unset, .unset, .unset, .unset, .unset, .unset] [(.int (rwy + scy))]))
        have M194 := Fr.app M193 (Fr.nil n0)
        refine w_i2l X194 hx (Jvm.hb hby at_685) (pc' := 686) rfl ?_
        refine w_lstore X194 hx (Jvm.hb hby at_686) #[.val (.long q0), .second, .val (.long q1), .second, .val (.int p2), .val (.int p3), .val (.long q4), .second, .val (.long q5), .second, .val (.long vm), .second, .val (.long kx), .second, .val (.long vk), .second, .val (.long sd), .second, .val (.long vq), .second, .val (.long lo), .second, .val (.long hi), .second, .val (.long cn), .second, .val (.long cx), .second, .val (.long cy), .second, .val (.int d1), .val (.int d2), .val (.long ax), .second, .val (.long ay), .second, .val (.long gx), .second, .val (.long gy), .second, .val (.long vs), .second, .val (.long vt), .second, .val (.long xa), .second, .val (.long ya), .second, .val (.long xb), .second, .val (.long yb), .second, .val (.long dx), .second, .val (.long dy), .second, .val (.long wc), .second, .val (.long wr), .second, .val (.int pv), .val (.int bx), .val (.int bY), .val (.int (2 : Int32)), .val (.long wc), .second, .val (.long (wr + dy)), .second, .val (.long (0 : Int64)), .second, .val (.long (0 : Int64)), .second, .val (.ref a187), .val (.int pv), .val (.long (clx.toInt64)), .second, .val (.long (rwy.toInt64)), .second, .val (.int (1 : Int32)), .val (.long (clx.toInt64)), .second, .val (.long ((rwy + scy).toInt64)), .second, .unset, .unset, .unset, .unset, .unset, .unset, .unset] rfl  (pc' := 688) rfl ?_
        refine w_aload X194 hx (Jvm.hb hby at_688) rfl rfl (pc' := 690) rfl ?_
        refine w_callV X194 hx hZ hown (hw _ (List.mem_of_getElem? (i := 64) rfl)) (hw _ (List.mem_of_getElem? (i := 65) rfl)) (notFace_of_selects (args := #[]) (mvT hZ (hw _ (List.mem_of_getElem? (i := 67) rfl)))) (hw _ (List.mem_of_getElem? (i := 67) rfl)) (hw _ (List.mem_of_getElem? (i := 66) rfl)) (hw _ (List.mem_of_getElem? (i := 24) rfl)) (hw _ (List.mem_of_getElem? (i := 68) rfl)) (by decide) (W := 0) (rmN_stop l Z aw hw [] a187 sd spx spy scx scy pv clx (rwy + scy) tcx (tcy + sd) T192.heap n0 GA O192 hp1.1 (own_nc HX AX hngx) (own_c HY AY hgy').2.1) e194 (by decide) (by decide) (by decide) (by decide) (O192.2.2.2.2.2.2.2.2.2.2.2) (Jvm.hb hby at_690) (by rw [hml]; rfl) (argsL := []) (rest := []) pd_7 rfl rfl rfl (Nat.le_of_eq rfl) (pc' := 693) rfl ?_
        rintro _ T195 L195 X195 ⟨rfl, N195, K195, O195⟩
        show Ow p e below s _ _ _ (T195.setTop (mkF m 693 #[.val (.long q0), .second, .val (.long q1), .second, .val (.int p2), .val (.int p3), .val (.long q4), .second, .val (.long q5), .second, .val (.long vm), .second, .val (.long kx), .second, .val (.long vk), .second, .val (.long sd), .second, .val (.long vq), .second, .val (.long lo), .second, .val (.long hi), .second, .val (.long cn), .second, .val (.long cx), .second, .val (.long cy), .second, .val (.int d1), .val (.int d2), .val (.long ax), .second, .val (.long ay), .second, .val (.long gx), .second, .val (.long gy), .second, .val (.long vs), .second, .val (.long vt), .second, .val (.long xa), .second, .val (.long ya), .second, .val (.long xb), .second, .val (.long yb), .second, .val (.long dx), .second, .val (.long dy), .second, .val (.long wc), .second, .val (.long wr), .second, .val (.int pv), .val (.int bx), .val (.int bY), .val (.int (2 : Int32)), .val (.long wc), .second, .val (.long (wr + dy)), .second, .val (.long (0 : Int64)), .second, .val (.long (0 : Int64)), .second, .val (.ref a187), .val (.int pv), .val (.long (clx.toInt64)), .second, .val (.long (rwy.toInt64)), .second, .val (.int (1 : Int32)), .val (.long (clx.toInt64)), .second, .val (.long ((rwy + scy).toInt64)), .second, .unset, .unset, .unset, .unset, .unset, .unset, .unset] [(.int (0 : Int32))]))
        have M195 := Fr.app M194 N195
        refine w_istore X195 hx (Jvm.hb hby at_693) #[.val (.long q0), .second, .val (.long q1), .second, .val (.int p2), .val (.int p3), .val (.long q4), .second, .val (.long q5), .second, .val (.long vm), .second, .val (.long kx), .second, .val (.long vk), .second, .val (.long sd), .second, .val (.long vq), .second, .val (.long lo), .second, .val (.long hi), .second, .val (.long cn), .second, .val (.long cx), .second, .val (.long cy), .second, .val (.int d1), .val (.int d2), .val (.long ax), .second, .val (.long ay), .second, .val (.long gx), .second, .val (.long gy), .second, .val (.long vs), .second, .val (.long vt), .second, .val (.long xa), .second, .val (.long ya), .second, .val (.long xb), .second, .val (.long yb), .second, .val (.long dx), .second, .val (.long dy), .second, .val (.long wc), .second, .val (.long wr), .second, .val (.int pv), .val (.int bx), .val (.int bY), .val (.int (2 : Int32)), .val (.long wc), .second, .val (.long (wr + dy)), .second, .val (.long (0 : Int64)), .second, .val (.long (0 : Int64)), .second, .val (.ref a187), .val (.int pv), .val (.long (clx.toInt64)), .second, .val (.long (rwy.toInt64)), .second, .val (.int (1 : Int32)), .val (.long (clx.toInt64)), .second, .val (.long ((rwy + scy).toInt64)), .second, .val (.int (0 : Int32)), .unset, .unset, .unset, .unset, .unset, .unset] rfl  (pc' := 695) rfl ?_
        refine w_aload X195 hx (Jvm.hb hby at_695) rfl rfl (pc' := 697) rfl ?_
        refine w_callV X195 hx hZ hown (hw _ (List.mem_of_getElem? (i := 71) rfl)) (hw _ (List.mem_of_getElem? (i := 72) rfl)) (notFace_of_selects (args := #[]) (mvT hZ (hw _ (List.mem_of_getElem? (i := 74) rfl)))) (hw _ (List.mem_of_getElem? (i := 74) rfl)) (hw _ (List.mem_of_getElem? (i := 73) rfl)) (hw _ (List.mem_of_getElem? (i := 24) rfl)) (hw _ (List.mem_of_getElem? (i := 75) rfl)) (by decide) (W := 0) (rm11 l Z aw hw [] a187 clx T195.heap (O195.2.2.2.2.2.2.1)) rfl (by decide) (by decide) (by decide) (by decide) (O195.2.2.2.2.2.2.2.2.2.2.2) (Jvm.hb hby at_697) (by rw [hml]; rfl) (argsL := []) (rest := []) pd_8 rfl rfl rfl (Nat.le_of_eq rfl) (pc' := 700) rfl ?_
        rintro _ T196 L196 X196 ⟨rfl, e196, rfl⟩
        show Ow p e below s _ _ _ (T196.setTop (mkF m 700 #[.val (.long q0), .second, .val (.long q1), .second, .val (.int p2), .val (.int p3), .val (.long q4), .second, .val (.long q5), .second, .val (.long vm), .second, .val (.long kx), .second, .val (.long vk), .second, .val (.long sd), .second, .val (.long vq), .second, .val (.long lo), .second, .val (.long hi), .second, .val (.long cn), .second, .val (.long cx), .second, .val (.long cy), .second, .val (.int d1), .val (.int d2), .val (.long ax), .second, .val (.long ay), .second, .val (.long gx), .second, .val (.long gy), .second, .val (.long vs), .second, .val (.long vt), .second, .val (.long xa), .second, .val (.long ya), .second, .val (.long xb), .second, .val (.long yb), .second, .val (.long dx), .second, .val (.long dy), .second, .val (.long wc), .second, .val (.long wr), .second, .val (.int pv), .val (.int bx), .val (.int bY), .val (.int (2 : Int32)), .val (.long wc), .second, .val (.long (wr + dy)), .second, .val (.long (0 : Int64)), .second, .val (.long (0 : Int64)), .second, .val (.ref a187), .val (.int pv), .val (.long (clx.toInt64)), .second, .val (.long (rwy.toInt64)), .second, .val (.int (1 : Int32)), .val (.long (clx.toInt64)), .second, .val (.long ((rwy + scy).toInt64)), .second, .val (.int (0 : Int32)), .unset, .unset, .unset, .unset, .unset, .unset] [(.int clx)]))
        have M196 := Fr.app M195 (Fr.nil n0)
        refine w_i2l X196 hx (Jvm.hb hby at_700) (pc' := 701) rfl ?_
        refine w_lstore X196 hx (Jvm.hb hby at_701) #[.val (.long q0), .second, .val (.long q1), .second, .val (.int p2), .val (.int p3), .val (.long q4), .second, .val (.long q5), .second, .val (.long vm), .second, .val (.long kx), .second, .val (.long vk), .second, .val (.long sd), .second, .val (.long vq), .second, .val (.long lo), .second, .val (.long hi), .second, .val (.long cn), .second, .val (.long cx), .second, .val (.long cy), .second, .val (.int d1), .val (.int d2), .val (.long ax), .second, .val (.long ay), .second, .val (.long gx), .second, .val (.long gy), .second, .val (.long vs), .second, .val (.long vt), .second, .val (.long xa), .second, .val (.long ya), .second, .val (.long xb), .second, .val (.long yb), .second, .val (.long dx), .second, .val (.long dy), .second, .val (.long wc), .second, .val (.long wr), .second, .val (.int pv), .val (.int bx), .val (.int bY), .val (.int (2 : Int32)), .val (.long wc), .second, .val (.long (wr + dy)), .second, .val (.long (0 : Int64)), .second, .val (.long (0 : Int64)), .second, .val (.ref a187), .val (.int pv), .val (.long (clx.toInt64)), .second, .val (.long (rwy.toInt64)), .second, .val (.int (1 : Int32)), .val (.long (clx.toInt64)), .second, .val (.long ((rwy + scy).toInt64)), .second, .val (.int (0 : Int32)), .val (.long (clx.toInt64)), .second, .unset, .unset, .unset, .unset] rfl  (pc' := 703) rfl ?_
        refine w_aload X196 hx (Jvm.hb hby at_703) rfl rfl (pc' := 705) rfl ?_
        refine w_callV X196 hx hZ hown (hw _ (List.mem_of_getElem? (i := 76) rfl)) (hw _ (List.mem_of_getElem? (i := 77) rfl)) (notFace_of_selects (args := #[]) (mvT hZ (hw _ (List.mem_of_getElem? (i := 79) rfl)))) (hw _ (List.mem_of_getElem? (i := 79) rfl)) (hw _ (List.mem_of_getElem? (i := 78) rfl)) (hw _ (List.mem_of_getElem? (i := 24) rfl)) (hw _ (List.mem_of_getElem? (i := 80) rfl)) (by decide) (W := 0) (rm12 l Z aw hw [] a187 (rwy + scy) T195.heap (O195.2.2.2.2.2.2.2.1)) e196 (by decide) (by decide) (by decide) (by decide) (O195.2.2.2.2.2.2.2.2.2.2.2) (Jvm.hb hby at_705) (by rw [hml]; rfl) (argsL := []) (rest := []) pd_8 rfl rfl rfl (Nat.le_of_eq rfl) (pc' := 708) rfl ?_
        rintro _ T197 L197 X197 ⟨rfl, e197, rfl⟩
        show Ow p e below s _ _ _ (T197.setTop (mkF m 708 #[.val (.long q0), .second, .val (.long q1), .second, .val (.int p2), .val (.int p3), .val (.long q4), .second, .val (.long q5), .second, .val (.long vm), .second, .val (.long kx), .second, .val (.long vk), .second, .val (.long sd), .second, .val (.long vq), .second, .val (.long lo), .second, .val (.long hi), .second, .val (.long cn), .second, .val (.long cx), .second, .val (.long cy), .second, .val (.int d1), .val (.int d2), .val (.long ax), .second, .val (.long ay), .second, .val (.long gx), .second, .val (.long gy), .second, .val (.long vs), .second, .val (.long vt), .second, .val (.long xa), .second, .val (.long ya), .second, .val (.long xb), .second, .val (.long yb), .second, .val (.long dx), .second, .val (.long dy), .second, .val (.long wc), .second, .val (.long wr), .second, .val (.int pv), .val (.int bx), .val (.int bY), .val (.int (2 : Int32)), .val (.long wc), .second, .val (.long (wr + dy)), .second, .val (.long (0 : Int64)), .second, .val (.long (0 : Int64)), .second, .val (.ref a187), .val (.int pv), .val (.long (clx.toInt64)), .second, .val (.long (rwy.toInt64)), .second, .val (.int (1 : Int32)), .val (.long (clx.toInt64)), .second, .val (.long ((rwy + scy).toInt64)), .second, .val (.int (0 : Int32)), .val (.long (clx.toInt64)), .second, .unset, .unset, .unset, .unset] [(.int (rwy + scy))]))
        have M197 := Fr.app M196 (Fr.nil n0)
        refine w_i2l X197 hx (Jvm.hb hby at_708) (pc' := 709) rfl ?_
        refine w_lstore X197 hx (Jvm.hb hby at_709) #[.val (.long q0), .second, .val (.long q1), .second, .val (.int p2), .val (.int p3), .val (.long q4), .second, .val (.long q5), .second, .val (.long vm), .second, .val (.long kx), .second, .val (.long vk), .second, .val (.long sd), .second, .val (.long vq), .second, .val (.long lo), .second, .val (.long hi), .second, .val (.long cn), .second, .val (.long cx), .second, .val (.long cy), .second, .val (.int d1), .val (.int d2), .val (.long ax), .second, .val (.long ay), .second, .val (.long gx), .second, .val (.long gy), .second, .val (.long vs), .second, .val (.long vt), .second, .val (.long xa), .second, .val (.long ya), .second, .val (.long xb), .second, .val (.long yb), .second, .val (.long dx), .second, .val (.long dy), .second, .val (.long wc), .second, .val (.long wr), .second, .val (.int pv), .val (.int bx), .val (.int bY), .val (.int (2 : Int32)), .val (.long wc), .second, .val (.long (wr + dy)), .second, .val (.long (0 : Int64)), .second, .val (.long (0 : Int64)), .second, .val (.ref a187), .val (.int pv), .val (.long (clx.toInt64)), .second, .val (.long (rwy.toInt64)), .second, .val (.int (1 : Int32)), .val (.long (clx.toInt64)), .second, .val (.long ((rwy + scy).toInt64)), .second, .val (.int (0 : Int32)), .val (.long (clx.toInt64)), .second, .val (.long ((rwy + scy).toInt64)), .second, .unset, .unset] rfl  (pc' := 711) rfl ?_
        refine w_aload X197 hx (Jvm.hb hby at_711) rfl rfl (pc' := 713) rfl ?_
        refine w_callV X197 hx hZ hown (hw _ (List.mem_of_getElem? (i := 64) rfl)) (hw _ (List.mem_of_getElem? (i := 65) rfl)) (notFace_of_selects (args := #[]) (mvT hZ (hw _ (List.mem_of_getElem? (i := 67) rfl)))) (hw _ (List.mem_of_getElem? (i := 67) rfl)) (hw _ (List.mem_of_getElem? (i := 66) rfl)) (hw _ (List.mem_of_getElem? (i := 24) rfl)) (hw _ (List.mem_of_getElem? (i := 68) rfl)) (by decide) (W := 0) (rmN_stop l Z aw hw [] a187 sd spx spy scx scy pv clx (rwy + scy) tcx (tcy + sd) T195.heap n0 GA O195 hp1.1 (own_nc HX AX hngx) (own_c HY AY hgy').2.1) e197 (by decide) (by decide) (by decide) (by decide) (O195.2.2.2.2.2.2.2.2.2.2.2) (Jvm.hb hby at_713) (by rw [hml]; rfl) (argsL := []) (rest := []) pd_7 rfl rfl rfl (Nat.le_of_eq rfl) (pc' := 716) rfl ?_
        rintro _ T198 L198 X198 ⟨rfl, N198, K198, O198⟩
        show Ow p e below s _ _ _ (T198.setTop (mkF m 716 #[.val (.long q0), .second, .val (.long q1), .second, .val (.int p2), .val (.int p3), .val (.long q4), .second, .val (.long q5), .second, .val (.long vm), .second, .val (.long kx), .second, .val (.long vk), .second, .val (.long sd), .second, .val (.long vq), .second, .val (.long lo), .second, .val (.long hi), .second, .val (.long cn), .second, .val (.long cx), .second, .val (.long cy), .second, .val (.int d1), .val (.int d2), .val (.long ax), .second, .val (.long ay), .second, .val (.long gx), .second, .val (.long gy), .second, .val (.long vs), .second, .val (.long vt), .second, .val (.long xa), .second, .val (.long ya), .second, .val (.long xb), .second, .val (.long yb), .second, .val (.long dx), .second, .val (.long dy), .second, .val (.long wc), .second, .val (.long wr), .second, .val (.int pv), .val (.int bx), .val (.int bY), .val (.int (2 : Int32)), .val (.long wc), .second, .val (.long (wr + dy)), .second, .val (.long (0 : Int64)), .second, .val (.long (0 : Int64)), .second, .val (.ref a187), .val (.int pv), .val (.long (clx.toInt64)), .second, .val (.long (rwy.toInt64)), .second, .val (.int (1 : Int32)), .val (.long (clx.toInt64)), .second, .val (.long ((rwy + scy).toInt64)), .second, .val (.int (0 : Int32)), .val (.long (clx.toInt64)), .second, .val (.long ((rwy + scy).toInt64)), .second, .unset, .unset] [(.int (0 : Int32))]))
        have M198 := Fr.app M197 N198
        refine w_istore X198 hx (Jvm.hb hby at_716) #[.val (.long q0), .second, .val (.long q1), .second, .val (.int p2), .val (.int p3), .val (.long q4), .second, .val (.long q5), .second, .val (.long vm), .second, .val (.long kx), .second, .val (.long vk), .second, .val (.long sd), .second, .val (.long vq), .second, .val (.long lo), .second, .val (.long hi), .second, .val (.long cn), .second, .val (.long cx), .second, .val (.long cy), .second, .val (.int d1), .val (.int d2), .val (.long ax), .second, .val (.long ay), .second, .val (.long gx), .second, .val (.long gy), .second, .val (.long vs), .second, .val (.long vt), .second, .val (.long xa), .second, .val (.long ya), .second, .val (.long xb), .second, .val (.long yb), .second, .val (.long dx), .second, .val (.long dy), .second, .val (.long wc), .second, .val (.long wr), .second, .val (.int pv), .val (.int bx), .val (.int bY), .val (.int (2 : Int32)), .val (.long wc), .second, .val (.long (wr + dy)), .second, .val (.long (0 : Int64)), .second, .val (.long (0 : Int64)), .second, .val (.ref a187), .val (.int pv), .val (.long (clx.toInt64)), .second, .val (.long (rwy.toInt64)), .second, .val (.int (1 : Int32)), .val (.long (clx.toInt64)), .second, .val (.long ((rwy + scy).toInt64)), .second, .val (.int (0 : Int32)), .val (.long (clx.toInt64)), .second, .val (.long ((rwy + scy).toInt64)), .second, .val (.int (0 : Int32)), .unset] rfl  (pc' := 718) rfl ?_
        refine w_iload X198 hx (Jvm.hb hby at_718) rfl (pc' := 720) rfl ?_
        refine w_iload X198 hx (Jvm.hb hby at_720) rfl (pc' := 722) rfl ?_
        refine w_iconst X198 hx (1 : Int32) (Jvm.hb hby at_722) (by decide) (pc' := 723) rfl ?_
        refine w_icmp_lt X198 hx (Jvm.hb hby at_723) (by decide) (pcT := 730) (by decide) (pcF := 726) rfl (fun q => absurd q (show ¬ (2 : Int32) < (1 : Int32) from by decide)) (fun _ => ?_)
        refine w_iconst X198 hx (1 : Int32) (Jvm.hb hby at_726) (by decide) (pc' := 727) rfl ?_
        refine w_goto X198 hx (Jvm.hb hby at_727) (by decide) (pc' := 731) (by decide) ?_
        refine w_icmp_ne X198 hx (Jvm.hb hby at_731) (by decide) (pcT := 775) (by decide) (pcF := 734) rfl (fun q => absurd hp1.1 q) (fun _ => ?_)
        refine w_iload X198 hx (Jvm.hb hby at_734) rfl (pc' := 736) rfl ?_
        refine w_iload X198 hx (Jvm.hb hby at_736) rfl (pc' := 738) rfl ?_
        refine w_iconst X198 hx (2 : Int32) (Jvm.hb hby at_738) (by decide) (pc' := 739) rfl ?_
        refine w_icmp_lt X198 hx (Jvm.hb hby at_739) (by decide) (pcT := 746) (by decide) (pcF := 742) rfl (fun q => absurd q (show ¬ (2 : Int32) < (2 : Int32) from by decide)) (fun _ => ?_)
        refine w_iconst X198 hx (1 : Int32) (Jvm.hb hby at_742) (by decide) (pc' := 743) rfl ?_
        refine w_goto X198 hx (Jvm.hb hby at_743) (by decide) (pc' := 747) (by decide) ?_
        refine w_icmp_ne X198 hx (Jvm.hb hby at_747) (by decide) (pcT := 775) (by decide) (pcF := 750) rfl (fun q => absurd (show (1 : Int32) = (1 : Int32) from by decide) q) (fun _ => ?_)
        refine w_iload X198 hx (Jvm.hb hby at_750) rfl (pc' := 752) rfl ?_
        refine w_iload X198 hx (Jvm.hb hby at_752) rfl (pc' := 754) rfl ?_
        refine w_iconst X198 hx (3 : Int32) (Jvm.hb hby at_754) (by decide) (pc' := 755) rfl ?_
        refine w_icmp_lt X198 hx (Jvm.hb hby at_755) (by decide) (pcT := 762) (by decide) (pcF := 758) rfl (fun _ => ?_) (fun q => absurd (show (2 : Int32) < (3 : Int32) from by decide) q)
        refine w_iconst X198 hx (0 : Int32) (Jvm.hb hby at_762) (by decide) (pc' := 763) rfl ?_
        refine w_icmp_ne X198 hx (Jvm.hb hby at_763) (by decide) (pcT := 775) (by decide) (pcF := 766) rfl (fun q => absurd (show (0 : Int32) = (0 : Int32) from by decide) q) (fun _ => ?_)
        refine w_iload X198 hx (Jvm.hb hby at_766) rfl (pc' := 768) rfl ?_
        refine w_if_ne X198 hx (Jvm.hb hby at_768) (by decide) (pcT := 775) (by decide) (pcF := 771) rfl (fun q => absurd (show (0 : Int32) = 0 from by decide) q) (fun _ => ?_)
        refine w_iconst X198 hx (1 : Int32) (Jvm.hb hby at_771) (by decide) (pc' := 772) rfl ?_
        refine w_goto X198 hx (Jvm.hb hby at_772) (by decide) (pc' := 776) (by decide) ?_
        refine w_istore X198 hx (Jvm.hb hby at_776) #[.val (.long q0), .second, .val (.long q1), .second, .val (.int p2), .val (.int p3), .val (.long q4), .second, .val (.long q5), .second, .val (.long vm), .second, .val (.long kx), .second, .val (.long vk), .second, .val (.long sd), .second, .val (.long vq), .second, .val (.long lo), .second, .val (.long hi), .second, .val (.long cn), .second, .val (.long cx), .second, .val (.long cy), .second, .val (.int d1), .val (.int d2), .val (.long ax), .second, .val (.long ay), .second, .val (.long gx), .second, .val (.long gy), .second, .val (.long vs), .second, .val (.long vt), .second, .val (.long xa), .second, .val (.long ya), .second, .val (.long xb), .second, .val (.long yb), .second, .val (.long dx), .second, .val (.long dy), .second, .val (.long wc), .second, .val (.long wr), .second, .val (.int pv), .val (.int bx), .val (.int bY), .val (.int (2 : Int32)), .val (.long wc), .second, .val (.long (wr + dy)), .second, .val (.long (0 : Int64)), .second, .val (.long (0 : Int64)), .second, .val (.ref a187), .val (.int pv), .val (.long (clx.toInt64)), .second, .val (.long (rwy.toInt64)), .second, .val (.int (1 : Int32)), .val (.long (clx.toInt64)), .second, .val (.long ((rwy + scy).toInt64)), .second, .val (.int (0 : Int32)), .val (.long (clx.toInt64)), .second, .val (.long ((rwy + scy).toInt64)), .second, .val (.int (0 : Int32)), .val (.int (1 : Int32))] rfl  (pc' := 778) rfl ?_
        refine w_iload X198 hx (Jvm.hb hby at_778) rfl (pc' := 780) rfl ?_
        refine w_iconst X198 hx (1 : Int32) (Jvm.hb hby at_780) (by decide) (pc' := 781) rfl ?_
        refine w_icmp_lt X198 hx (Jvm.hb hby at_781) (by decide) (pcT := 812) (by decide) (pcF := 784) rfl (fun q => absurd q (show ¬ (2 : Int32) < (1 : Int32) from by decide)) (fun _ => ?_)
        refine w_iload X198 hx (Jvm.hb hby at_784) rfl (pc' := 786) rfl ?_
        refine w_if_eq X198 hx (Jvm.hb hby at_786) (by decide) (pcT := 809) (by decide) (pcF := 789) rfl (fun q => absurd q (show ¬ (1 : Int32) = 0 from by decide)) (fun _ => ?_)
        refine w_lload X198 hx (Jvm.hb hby at_789) rfl (pc' := 791) rfl ?_
        refine w_lload X198 hx (Jvm.hb hby at_791) rfl (pc' := 793) rfl ?_
        refine w_lcmp_ne X198 hx (Jvm.hb hby at_793) (Jvm.hb hby at_794) rfl (by decide) (pcT := 809) (by decide) (pcF := 797) rfl (fun q => absurd (own_col HX AX hwc hp1.2.1).1 q) (fun _ => ?_)
        refine w_lload X198 hx (Jvm.hb hby at_797) rfl (pc' := 799) rfl ?_
        refine w_lload X198 hx (Jvm.hb hby at_799) rfl (pc' := 801) rfl ?_
        refine w_lcmp_ne X198 hx (Jvm.hb hby at_801) (Jvm.hb hby at_802) rfl (by decide) (pcT := 809) (by decide) (pcF := 805) rfl (fun q => absurd (own_col HY AY hwr hp1.2.2).1 q) (fun _ => ?_)
        refine w_iconst X198 hx (1 : Int32) (Jvm.hb hby at_805) (by decide) (pc' := 806) rfl ?_
        refine w_goto X198 hx (Jvm.hb hby at_806) (by decide) (pc' := 810) (by decide) ?_
        refine w_istore X198 hx (Jvm.hb hby at_810) #[.val (.long q0), .second, .val (.long q1), .second, .val (.int p2), .val (.int p3), .val (.long q4), .second, .val (.long q5), .second, .val (.long vm), .second, .val (.long kx), .second, .val (.long vk), .second, .val (.long sd), .second, .val (.long vq), .second, .val (.long lo), .second, .val (.long hi), .second, .val (.long cn), .second, .val (.long cx), .second, .val (.long cy), .second, .val (.int d1), .val (.int d2), .val (.long ax), .second, .val (.long ay), .second, .val (.long gx), .second, .val (.long gy), .second, .val (.long vs), .second, .val (.long vt), .second, .val (.long xa), .second, .val (.long ya), .second, .val (.long xb), .second, .val (.long yb), .second, .val (.long dx), .second, .val (.long dy), .second, .val (.long wc), .second, .val (.long wr), .second, .val (.int pv), .val (.int bx), .val (.int bY), .val (.int (2 : Int32)), .val (.long wc), .second, .val (.long (wr + dy)), .second, .val (.long (0 : Int64)), .second, .val (.long (0 : Int64)), .second, .val (.ref a187), .val (.int pv), .val (.long (clx.toInt64)), .second, .val (.long (rwy.toInt64)), .second, .val (.int (1 : Int32)), .val (.long (clx.toInt64)), .second, .val (.long ((rwy + scy).toInt64)), .second, .val (.int (0 : Int32)), .val (.long (clx.toInt64)), .second, .val (.long ((rwy + scy).toInt64)), .second, .val (.int (0 : Int32)), .val (.int (1 : Int32))] rfl  (pc' := 812) rfl ?_
        refine w_iload X198 hx (Jvm.hb hby at_812) rfl (pc' := 814) rfl ?_
        refine w_iconst X198 hx (2 : Int32) (Jvm.hb hby at_814) (by decide) (pc' := 815) rfl ?_
        refine w_icmp_lt X198 hx (Jvm.hb hby at_815) (by decide) (pcT := 846) (by decide) (pcF := 818) rfl (fun q => absurd q (show ¬ (2 : Int32) < (2 : Int32) from by decide)) (fun _ => ?_)
        refine w_iload X198 hx (Jvm.hb hby at_818) rfl (pc' := 820) rfl ?_
        refine w_if_eq X198 hx (Jvm.hb hby at_820) (by decide) (pcT := 843) (by decide) (pcF := 823) rfl (fun q => absurd q (show ¬ (1 : Int32) = 0 from by decide)) (fun _ => ?_)
        refine w_lload X198 hx (Jvm.hb hby at_823) rfl (pc' := 825) rfl ?_
        refine w_lload X198 hx (Jvm.hb hby at_825) rfl (pc' := 827) rfl ?_
        refine w_lcmp_ne X198 hx (Jvm.hb hby at_827) (Jvm.hb hby at_828) rfl (by decide) (pcT := 843) (by decide) (pcF := 831) rfl (fun q => absurd (own_col HX AX hwc hp1.2.1).1 q) (fun _ => ?_)
        refine w_lload X198 hx (Jvm.hb hby at_831) rfl (pc' := 833) rfl ?_
        refine w_lload X198 hx (Jvm.hb hby at_833) rfl (pc' := 835) rfl ?_
        refine w_lcmp_ne X198 hx (Jvm.hb hby at_835) (Jvm.hb hby at_836) rfl (by decide) (pcT := 843) (by decide) (pcF := 839) rfl (fun q => absurd (own_colS HY AY hwr hdy hgy') q) (fun _ => ?_)
        refine w_iconst X198 hx (1 : Int32) (Jvm.hb hby at_839) (by decide) (pc' := 840) rfl ?_
        refine w_goto X198 hx (Jvm.hb hby at_840) (by decide) (pc' := 844) (by decide) ?_
        refine w_istore X198 hx (Jvm.hb hby at_844) #[.val (.long q0), .second, .val (.long q1), .second, .val (.int p2), .val (.int p3), .val (.long q4), .second, .val (.long q5), .second, .val (.long vm), .second, .val (.long kx), .second, .val (.long vk), .second, .val (.long sd), .second, .val (.long vq), .second, .val (.long lo), .second, .val (.long hi), .second, .val (.long cn), .second, .val (.long cx), .second, .val (.long cy), .second, .val (.int d1), .val (.int d2), .val (.long ax), .second, .val (.long ay), .second, .val (.long gx), .second, .val (.long gy), .second, .val (.long vs), .second, .val (.long vt), .second, .val (.long xa), .second, .val (.long ya), .second, .val (.long xb), .second, .val (.long yb), .second, .val (.long dx), .second, .val (.long dy), .second, .val (.long wc), .second, .val (.long wr), .second, .val (.int pv), .val (.int bx), .val (.int bY), .val (.int (2 : Int32)), .val (.long wc), .second, .val (.long (wr + dy)), .second, .val (.long (0 : Int64)), .second, .val (.long (0 : Int64)), .second, .val (.ref a187), .val (.int pv), .val (.long (clx.toInt64)), .second, .val (.long (rwy.toInt64)), .second, .val (.int (1 : Int32)), .val (.long (clx.toInt64)), .second, .val (.long ((rwy + scy).toInt64)), .second, .val (.int (0 : Int32)), .val (.long (clx.toInt64)), .second, .val (.long ((rwy + scy).toInt64)), .second, .val (.int (0 : Int32)), .val (.int (1 : Int32))] rfl  (pc' := 846) rfl ?_
        refine w_iload X198 hx (Jvm.hb hby at_846) rfl (pc' := 848) rfl ?_
        refine w_iconst X198 hx (3 : Int32) (Jvm.hb hby at_848) (by decide) (pc' := 849) rfl ?_
        refine w_icmp_lt X198 hx (Jvm.hb hby at_849) (by decide) (pcT := 880) (by decide) (pcF := 852) rfl (fun _ => ?_) (fun q => absurd (show (2 : Int32) < (3 : Int32) from by decide) q)
        refine w_iload X198 hx (Jvm.hb hby at_880) rfl (pc' := 882) rfl ?_
        exact w_zreturn X198 hx Bd.returns (Or.inr rfl) (BodyLoose.notSynchronized Bd) (Nat.le_of_ble_eq_true rfl) (Nat.le_of_ble_eq_true rfl) (Jvm.hb hby at_882) ⟨rfl, by simpa using M198⟩
    · refine w_iload X174 hx (Jvm.hb hby at_459) rfl (pc' := 461) rfl ?_
      refine w_if_eq X174 hx (Jvm.hb hby at_461) (by decide) (pcT := 576) (by decide) (pcF := 464) rfl (fun kc' => ?_) (fun kc' => ?_)
      · have hgx' := own_b1 hbx kb
        have hngy := own_b0 hbY kc'
        refine w_iload X174 hx (Jvm.hb hby at_576) rfl (pc' := 578) rfl ?_
        refine w_if_eq X174 hx (Jvm.hb hby at_578) (by decide) (pcT := 598) (by decide) (pcF := 581) rfl (fun q => absurd q kb) (fun _ => ?_)
        refine w_iconst X174 hx (2 : Int32) (Jvm.hb hby at_581) (by decide) (pc' := 582) rfl ?_
        refine w_istore X174 hx (Jvm.hb hby at_582) #[.val (.long q0), .second, .val (.long q1), .second, .val (.int p2), .val (.int p3), .val (.long q4), .second, .val (.long q5), .second, .val (.long vm), .second, .val (.long kx), .second, .val (.long vk), .second, .val (.long sd), .second, .val (.long vq), .second, .val (.long lo), .second, .val (.long hi), .second, .val (.long cn), .second, .val (.long cx), .second, .val (.long cy), .second, .val (.int d1), .val (.int d2), .val (.long ax), .second, .val (.long ay), .second, .val (.long gx), .second, .val (.long gy), .second, .val (.long vs), .second, .val (.long vt), .second, .val (.long xa), .second, .val (.long ya), .second, .val (.long xb), .second, .val (.long yb), .second, .val (.long dx), .second, .val (.long dy), .second, .val (.long wc), .second, .val (.long wr), .second, .val (.int pv), .val (.int bx), .val (.int bY), .val (.int (2 : Int32)), .val (.long (0 : Int64)), .second, .val (.long (0 : Int64)), .second, .val (.long (0 : Int64)), .second, .val (.long (0 : Int64)), .second, .unset, .unset, .unset, .unset, .unset, .unset, .unset, .unset, .unset, .unset, .unset, .unset, .unset, .unset, .unset, .unset, .unset, .unset] rfl  (pc' := 584) rfl ?_
        refine w_lload X174 hx (Jvm.hb hby at_584) rfl (pc' := 586) rfl ?_
        refine w_lload X174 hx (Jvm.hb hby at_586) rfl (pc' := 588) rfl ?_
        refine w_ladd X174 hx (Jvm.hb hby at_588) (pc' := 589) rfl ?_
        refine w_lstore X174 hx (Jvm.hb hby at_589) #[.val (.long q0), .second, .val (.long q1), .second, .val (.int p2), .val (.int p3), .val (.long q4), .second, .val (.long q5), .second, .val (.long vm), .second, .val (.long kx), .second, .val (.long vk), .second, .val (.long sd), .second, .val (.long vq), .second, .val (.long lo), .second, .val (.long hi), .second, .val (.long cn), .second, .val (.long cx), .second, .val (.long cy), .second, .val (.int d1), .val (.int d2), .val (.long ax), .second, .val (.long ay), .second, .val (.long gx), .second, .val (.long gy), .second, .val (.long vs), .second, .val (.long vt), .second, .val (.long xa), .second, .val (.long ya), .second, .val (.long xb), .second, .val (.long yb), .second, .val (.long dx), .second, .val (.long dy), .second, .val (.long wc), .second, .val (.long wr), .second, .val (.int pv), .val (.int bx), .val (.int bY), .val (.int (2 : Int32)), .val (.long (wc + dx)), .second, .val (.long (0 : Int64)), .second, .val (.long (0 : Int64)), .second, .val (.long (0 : Int64)), .second, .unset, .unset, .unset, .unset, .unset, .unset, .unset, .unset, .unset, .unset, .unset, .unset, .unset, .unset, .unset, .unset, .unset, .unset] rfl  (pc' := 591) rfl ?_
        refine w_lload X174 hx (Jvm.hb hby at_591) rfl (pc' := 593) rfl ?_
        refine w_lstore X174 hx (Jvm.hb hby at_593) #[.val (.long q0), .second, .val (.long q1), .second, .val (.int p2), .val (.int p3), .val (.long q4), .second, .val (.long q5), .second, .val (.long vm), .second, .val (.long kx), .second, .val (.long vk), .second, .val (.long sd), .second, .val (.long vq), .second, .val (.long lo), .second, .val (.long hi), .second, .val (.long cn), .second, .val (.long cx), .second, .val (.long cy), .second, .val (.int d1), .val (.int d2), .val (.long ax), .second, .val (.long ay), .second, .val (.long gx), .second, .val (.long gy), .second, .val (.long vs), .second, .val (.long vt), .second, .val (.long xa), .second, .val (.long ya), .second, .val (.long xb), .second, .val (.long yb), .second, .val (.long dx), .second, .val (.long dy), .second, .val (.long wc), .second, .val (.long wr), .second, .val (.int pv), .val (.int bx), .val (.int bY), .val (.int (2 : Int32)), .val (.long (wc + dx)), .second, .val (.long wr), .second, .val (.long (0 : Int64)), .second, .val (.long (0 : Int64)), .second, .unset, .unset, .unset, .unset, .unset, .unset, .unset, .unset, .unset, .unset, .unset, .unset, .unset, .unset, .unset, .unset, .unset, .unset] rfl  (pc' := 595) rfl ?_
        refine w_goto X174 hx (Jvm.hb hby at_595) (by decide) (pc' := 623) (by decide) ?_
        refine w_new X174 hx hZ hown (hw _ (List.mem_of_getElem? (i := 22) rfl)) (hw _ (List.mem_of_getElem? (i := 23) rfl)) (hw _ (List.mem_of_getElem? (i := 24) rfl)) e174 (Jvm.hb hby at_623) (by decide) (by decide) (pc' := 626) rfl ?_
        intro T199 h199 a199 g199 X199 e199 E199 A199 D199
        have G199_side : Fld Z h199 a199 "com/example/sarutahiko/sarutahiko/lattice/SegmentWalk" "side" "J" (.long (0 : Int64)) := D199 (Or.inr (hw _ (List.mem_of_getElem? (i := 42) rfl))) (ty := .long) (by decide)
        have G199_spanX : Fld Z h199 a199 "com/example/sarutahiko/sarutahiko/lattice/SegmentWalk" "spanX" "J" (.long (0 : Int64)) := D199 (Or.inr (hw _ (List.mem_of_getElem? (i := 47) rfl))) (ty := .long) (by decide)
        have G199_spanY : Fld Z h199 a199 "com/example/sarutahiko/sarutahiko/lattice/SegmentWalk" "spanY" "J" (.long (0 : Int64)) := D199 (Or.inr (hw _ (List.mem_of_getElem? (i := 49) rfl))) (ty := .long) (by decide)
        have G199_stepColumn : Fld Z h199 a199 "com/example/sarutahiko/sarutahiko/lattice/SegmentWalk" "stepColumn" "I" (.int (0 : Int32)) := D199 (Or.inr (hw _ (List.mem_of_getElem? (i := 51) rfl))) (ty := .int) (by decide)
        have G199_stepRow : Fld Z h199 a199 "com/example/sarutahiko/sarutahiko/lattice/SegmentWalk" "stepRow" "I" (.int (0 : Int32)) := D199 (Or.inr (hw _ (List.mem_of_getElem? (i := 53) rfl))) (ty := .int) (by decide)
        have G199_passes : Fld Z h199 a199 "com/example/sarutahiko/sarutahiko/lattice/SegmentWalk" "passes" "Z" (.int (0 : Int32)) := D199 (Or.inr (hw _ (List.mem_of_getElem? (i := 63) rfl))) (ty := .boolean) (by decide)
        have G199_column : Fld Z h199 a199 "com/example/sarutahiko/sarutahiko/lattice/SegmentWalk" "column" "I" (.int (0 : Int32)) := D199 (Or.inl (hw _ (List.mem_of_getElem? (i := 59) rfl))) (ty := .int) (by decide)
        have G199_row : Fld Z h199 a199 "com/example/sarutahiko/sarutahiko/lattice/SegmentWalk" "row" "I" (.int (0 : Int32)) := D199 (Or.inl (hw _ (List.mem_of_getElem? (i := 61) rfl))) (ty := .int) (by decide)
        have G199_toColumnLine : Fld Z h199 a199 "com/example/sarutahiko/sarutahiko/lattice/SegmentWalk" "toColumnLine" "J" (.long (0 : Int64)) := D199 (Or.inl (hw _ (List.mem_of_getElem? (i := 55) rfl))) (ty := .long) (by decide)
        have G199_toRowLine : Fld Z h199 a199 "com/example/sarutahiko/sarutahiko/lattice/SegmentWalk" "toRowLine" "J" (.long (0 : Int64)) := D199 (Or.inl (hw _ (List.mem_of_getElem? (i := 57) rfl))) (ty := .long) (by decide)
        have G199_started : Fld Z h199 a199 "com/example/sarutahiko/sarutahiko/lattice/SegmentWalk" "started" "Z" (.int (0 : Int32)) := D199 (Or.inl (hw _ (List.mem_of_getElem? (i := 70) rfl))) (ty := .boolean) (by decide)
        have GA : n0 ≤ a199 := Nat.le_trans Z0 (Nat.le_of_eq g199.symm)
        have OO : SWo Z h199 a199 (0 : Int64) (0 : Int64) (0 : Int64) (0 : Int32) (0 : Int32) (0 : Int32) (0 : Int32) (0 : Int32) (0 : Int64) (0 : Int64) (0 : Int32) := ⟨G199_side, G199_spanX, G199_spanY, G199_stepColumn, G199_stepRow, G199_passes, G199_column, G199_row, G199_toColumnLine, G199_toRowLine, G199_started, A199⟩
        refine w_dup X199 hx (Jvm.hb hby at_626) rfl (pc' := 627) rfl ?_
        refine w_lload X199 hx (Jvm.hb hby at_627) rfl (pc' := 629) rfl ?_
        refine w_lload X199 hx (Jvm.hb hby at_629) rfl (pc' := 631) rfl ?_
        refine w_lload X199 hx (Jvm.hb hby at_631) rfl (pc' := 633) rfl ?_
        refine w_lload X199 hx (Jvm.hb hby at_633) rfl (pc' := 635) rfl ?_
        refine w_lload X199 hx (Jvm.hb hby at_635) rfl (pc' := 637) rfl ?_
        refine w_callN X199 hx hZ rfl hown (hw _ (List.mem_of_getElem? (i := 25) rfl)) (hw _ (List.mem_of_getElem? (i := 26) rfl)) (hw _ (List.mem_of_getElem? (i := 24) rfl)) (hw _ (List.mem_of_getElem? (i := 27) rfl)) (by decide) (W := 1) (rm5 l Z aw hw [] a199 xa ya xb yb sd spx spy scx scy Xp Yp ccx ccy tcx tcy clx rwy pv h199 n0 GA OO (q_nz (by have := Bs.2.1; omega)) (j_lt.mpr (by rw [j0]; have := Bs.2.1; omega)) (fun z => by have h9 := j_lt.mp z; rw [show (2305843009213693952 : Int64).toInt = 2305843009213693952 from by decide] at h9; have := Bs.2.2; omega) AX.2.2.2.2.2.2.1 AY.2.2.2.2.2.2.1 AX.2.2.2.2.2.2.2.1 AY.2.2.2.2.2.2.2.1 AX.1 AY.1 AX.2.1 AY.2.1 AX.2.2.1 AY.2.2.1 AX.2.2.2.1 AY.2.2.2.1 AX.2.2.2.2.1 AY.2.2.2.2.1 AX.2.2.2.2.2.1 AY.2.2.2.2.2.1 hpsw) e199 (by decide) (by decide) (by decide) (by decide) (Jvm.hb hby at_637) (by rw [hml]; rfl) (a := a199) (argsL := [(.long xa), (.long ya), (.long xb), (.long yb), (.long sd)]) (rest := [(.ref a199)]) pd_6 rfl rfl rfl (Nat.le_of_eq rfl) (pc' := 640) rfl ?_
        rintro _ T200 L200 X200 ⟨rfl, N200, K200, O200⟩
        show Ow p e below s _ _ _ (T200.setTop (mkF m 640 #[.val (.long q0), .second, .val (.long q1), .second, .val (.int p2), .val (.int p3), .val (.long q4), .second, .val (.long q5), .second, .val (.long vm), .second, .val (.long kx), .second, .val (.long vk), .second, .val (.long sd), .second, .val (.long vq), .second, .val (.long lo), .second, .val (.long hi), .second, .val (.long cn), .second, .val (.long cx), .second, .val (.long cy), .second, .val (.int d1), .val (.int d2), .val (.long ax), .second, .val (.long ay), .second, .val (.long gx), .second, .val (.long gy), .second, .val (.long vs), .second, .val (.long vt), .second, .val (.long xa), .second, .val (.long ya), .second, .val (.long xb), .second, .val (.long yb), .second, .val (.long dx), .second, .val (.long dy), .second, .val (.long wc), .second, .val (.long wr), .second, .val (.int pv), .val (.int bx), .val (.int bY), .val (.int (2 : Int32)), .val (.long (wc + dx)), .second, .val (.long wr), .second, .val (.long (0 : Int64)), .second, .val (.long (0 : Int64)), .second, .unset, .unset, .unset, .unset, .unset, .unset, .unset, .unset, .unset, .unset, .unset, .unset, .unset, .unset, .unset, .unset, .unset, .unset] [(.ref a199)]))
        have M200 := Fr.app NB N200
        refine w_astore X200 hx (Jvm.hb hby at_640) #[.val (.long q0), .second, .val (.long q1), .second, .val (.int p2), .val (.int p3), .val (.long q4), .second, .val (.long q5), .second, .val (.long vm), .second, .val (.long kx), .second, .val (.long vk), .second, .val (.long sd), .second, .val (.long vq), .second, .val (.long lo), .second, .val (.long hi), .second, .val (.long cn), .second, .val (.long cx), .second, .val (.long cy), .second, .val (.int d1), .val (.int d2), .val (.long ax), .second, .val (.long ay), .second, .val (.long gx), .second, .val (.long gy), .second, .val (.long vs), .second, .val (.long vt), .second, .val (.long xa), .second, .val (.long ya), .second, .val (.long xb), .second, .val (.long yb), .second, .val (.long dx), .second, .val (.long dy), .second, .val (.long wc), .second, .val (.long wr), .second, .val (.int pv), .val (.int bx), .val (.int bY), .val (.int (2 : Int32)), .val (.long (wc + dx)), .second, .val (.long wr), .second, .val (.long (0 : Int64)), .second, .val (.long (0 : Int64)), .second, .val (.ref a199), .unset, .unset, .unset, .unset, .unset, .unset, .unset, .unset, .unset, .unset, .unset, .unset, .unset, .unset, .unset, .unset, .unset] rfl rfl (pc' := 642) rfl ?_
        refine w_aload X200 hx (Jvm.hb hby at_642) rfl rfl (pc' := 644) rfl ?_
        refine w_callV X200 hx hZ hown (hw _ (List.mem_of_getElem? (i := 64) rfl)) (hw _ (List.mem_of_getElem? (i := 65) rfl)) (notFace_of_selects (args := #[]) (mvT hZ (hw _ (List.mem_of_getElem? (i := 67) rfl)))) (hw _ (List.mem_of_getElem? (i := 67) rfl)) (hw _ (List.mem_of_getElem? (i := 66) rfl)) (hw _ (List.mem_of_getElem? (i := 24) rfl)) (hw _ (List.mem_of_getElem? (i := 68) rfl)) (by decide) (W := 0) (rmN_first l Z aw hw [] a199 sd spx spy scx scy pv clx rwy tcx tcy T200.heap n0 GA O200 (own_p01 hpas)) rfl (by decide) (by decide) (by decide) (by decide) (O200.2.2.2.2.2.2.2.2.2.2.2) (Jvm.hb hby at_644) (by rw [hml]; rfl) (argsL := []) (rest := []) pd_7 rfl rfl rfl (Nat.le_of_eq rfl) (pc' := 647) rfl ?_
        rintro _ T201 L201 X201 ⟨rfl, N201, K201, O201⟩
        show Ow p e below s _ _ _ (T201.setTop (mkF m 647 #[.val (.long q0), .second, .val (.long q1), .second, .val (.int p2), .val (.int p3), .val (.long q4), .second, .val (.long q5), .second, .val (.long vm), .second, .val (.long kx), .second, .val (.long vk), .second, .val (.long sd), .second, .val (.long vq), .second, .val (.long lo), .second, .val (.long hi), .second, .val (.long cn), .second, .val (.long cx), .second, .val (.long cy), .second, .val (.int d1), .val (.int d2), .val (.long ax), .second, .val (.long ay), .second, .val (.long gx), .second, .val (.long gy), .second, .val (.long vs), .second, .val (.long vt), .second, .val (.long xa), .second, .val (.long ya), .second, .val (.long xb), .second, .val (.long yb), .second, .val (.long dx), .second, .val (.long dy), .second, .val (.long wc), .second, .val (.long wr), .second, .val (.int pv), .val (.int bx), .val (.int bY), .val (.int (2 : Int32)), .val (.long (wc + dx)), .second, .val (.long wr), .second, .val (.long (0 : Int64)), .second, .val (.long (0 : Int64)), .second, .val (.ref a199), .unset, .unset, .unset, .unset, .unset, .unset, .unset, .unset, .unset, .unset, .unset, .unset, .unset, .unset, .unset, .unset, .unset] [(.int pv)]))
        have M201 := Fr.app M200 N201
        refine w_istore X201 hx (Jvm.hb hby at_647) #[.val (.long q0), .second, .val (.long q1), .second, .val (.int p2), .val (.int p3), .val (.long q4), .second, .val (.long q5), .second, .val (.long vm), .second, .val (.long kx), .second, .val (.long vk), .second, .val (.long sd), .second, .val (.long vq), .second, .val (.long lo), .second, .val (.long hi), .second, .val (.long cn), .second, .val (.long cx), .second, .val (.long cy), .second, .val (.int d1), .val (.int d2), .val (.long ax), .second, .val (.long ay), .second, .val (.long gx), .second, .val (.long gy), .second, .val (.long vs), .second, .val (.long vt), .second, .val (.long xa), .second, .val (.long ya), .second, .val (.long xb), .second, .val (.long yb), .second, .val (.long dx), .second, .val (.long dy), .second, .val (.long wc), .second, .val (.long wr), .second, .val (.int pv), .val (.int bx), .val (.int bY), .val (.int (2 : Int32)), .val (.long (wc + dx)), .second, .val (.long wr), .second, .val (.long (0 : Int64)), .second, .val (.long (0 : Int64)), .second, .val (.ref a199), .val (.int pv), .unset, .unset, .unset, .unset, .unset, .unset, .unset, .unset, .unset, .unset, .unset, .unset, .unset, .unset, .unset, .unset] rfl  (pc' := 649) rfl ?_
        refine w_aload X201 hx (Jvm.hb hby at_649) rfl rfl (pc' := 651) rfl ?_
        refine w_callV X201 hx hZ hown (hw _ (List.mem_of_getElem? (i := 71) rfl)) (hw _ (List.mem_of_getElem? (i := 72) rfl)) (notFace_of_selects (args := #[]) (mvT hZ (hw _ (List.mem_of_getElem? (i := 74) rfl)))) (hw _ (List.mem_of_getElem? (i := 74) rfl)) (hw _ (List.mem_of_getElem? (i := 73) rfl)) (hw _ (List.mem_of_getElem? (i := 24) rfl)) (hw _ (List.mem_of_getElem? (i := 75) rfl)) (by decide) (W := 0) (rm11 l Z aw hw [] a199 clx T201.heap (O201.2.2.2.2.2.2.1)) rfl (by decide) (by decide) (by decide) (by decide) (O201.2.2.2.2.2.2.2.2.2.2.2) (Jvm.hb hby at_651) (by rw [hml]; rfl) (argsL := []) (rest := []) pd_8 rfl rfl rfl (Nat.le_of_eq rfl) (pc' := 654) rfl ?_
        rintro _ T202 L202 X202 ⟨rfl, e202, rfl⟩
        show Ow p e below s _ _ _ (T202.setTop (mkF m 654 #[.val (.long q0), .second, .val (.long q1), .second, .val (.int p2), .val (.int p3), .val (.long q4), .second, .val (.long q5), .second, .val (.long vm), .second, .val (.long kx), .second, .val (.long vk), .second, .val (.long sd), .second, .val (.long vq), .second, .val (.long lo), .second, .val (.long hi), .second, .val (.long cn), .second, .val (.long cx), .second, .val (.long cy), .second, .val (.int d1), .val (.int d2), .val (.long ax), .second, .val (.long ay), .second, .val (.long gx), .second, .val (.long gy), .second, .val (.long vs), .second, .val (.long vt), .second, .val (.long xa), .second, .val (.long ya), .second, .val (.long xb), .second, .val (.long yb), .second, .val (.long dx), .second, .val (.long dy), .second, .val (.long wc), .second, .val (.long wr), .second, .val (.int pv), .val (.int bx), .val (.int bY), .val (.int (2 : Int32)), .val (.long (wc + dx)), .second, .val (.long wr), .second, .val (.long (0 : Int64)), .second, .val (.long (0 : Int64)), .second, .val (.ref a199), .val (.int pv), .unset, .unset, .unset, .unset, .unset, .unset, .unset, .unset, .unset, .unset, .unset, .unset, .unset, .unset, .unset, .unset] [(.int clx)]))
        have M202 := Fr.app M201 (Fr.nil n0)
        refine w_i2l X202 hx (Jvm.hb hby at_654) (pc' := 655) rfl ?_
        refine w_lstore X202 hx (Jvm.hb hby at_655) #[.val (.long q0), .second, .val (.long q1), .second, .val (.int p2), .val (.int p3), .val (.long q4), .second, .val (.long q5), .second, .val (.long vm), .second, .val (.long kx), .second, .val (.long vk), .second, .val (.long sd), .second, .val (.long vq), .second, .val (.long lo), .second, .val (.long hi), .second, .val (.long cn), .second, .val (.long cx), .second, .val (.long cy), .second, .val (.int d1), .val (.int d2), .val (.long ax), .second, .val (.long ay), .second, .val (.long gx), .second, .val (.long gy), .second, .val (.long vs), .second, .val (.long vt), .second, .val (.long xa), .second, .val (.long ya), .second, .val (.long xb), .second, .val (.long yb), .second, .val (.long dx), .second, .val (.long dy), .second, .val (.long wc), .second, .val (.long wr), .second, .val (.int pv), .val (.int bx), .val (.int bY), .val (.int (2 : Int32)), .val (.long (wc + dx)), .second, .val (.long wr), .second, .val (.long (0 : Int64)), .second, .val (.long (0 : Int64)), .second, .val (.ref a199), .val (.int pv), .val (.long (clx.toInt64)), .second, .unset, .unset, .unset, .unset, .unset, .unset, .unset, .unset, .unset, .unset, .unset, .unset, .unset, .unset] rfl  (pc' := 657) rfl ?_
        refine w_aload X202 hx (Jvm.hb hby at_657) rfl rfl (pc' := 659) rfl ?_
        refine w_callV X202 hx hZ hown (hw _ (List.mem_of_getElem? (i := 76) rfl)) (hw _ (List.mem_of_getElem? (i := 77) rfl)) (notFace_of_selects (args := #[]) (mvT hZ (hw _ (List.mem_of_getElem? (i := 79) rfl)))) (hw _ (List.mem_of_getElem? (i := 79) rfl)) (hw _ (List.mem_of_getElem? (i := 78) rfl)) (hw _ (List.mem_of_getElem? (i := 24) rfl)) (hw _ (List.mem_of_getElem? (i := 80) rfl)) (by decide) (W := 0) (rm12 l Z aw hw [] a199 rwy T201.heap (O201.2.2.2.2.2.2.2.1)) e202 (by decide) (by decide) (by decide) (by decide) (O201.2.2.2.2.2.2.2.2.2.2.2) (Jvm.hb hby at_659) (by rw [hml]; rfl) (argsL := []) (rest := []) pd_8 rfl rfl rfl (Nat.le_of_eq rfl) (pc' := 662) rfl ?_
        rintro _ T203 L203 X203 ⟨rfl, e203, rfl⟩
        show Ow p e below s _ _ _ (T203.setTop (mkF m 662 #[.val (.long q0), .second, .val (.long q1), .second, .val (.int p2), .val (.int p3), .val (.long q4), .second, .val (.long q5), .second, .val (.long vm), .second, .val (.long kx), .second, .val (.long vk), .second, .val (.long sd), .second, .val (.long vq), .second, .val (.long lo), .second, .val (.long hi), .second, .val (.long cn), .second, .val (.long cx), .second, .val (.long cy), .second, .val (.int d1), .val (.int d2), .val (.long ax), .second, .val (.long ay), .second, .val (.long gx), .second, .val (.long gy), .second, .val (.long vs), .second, .val (.long vt), .second, .val (.long xa), .second, .val (.long ya), .second, .val (.long xb), .second, .val (.long yb), .second, .val (.long dx), .second, .val (.long dy), .second, .val (.long wc), .second, .val (.long wr), .second, .val (.int pv), .val (.int bx), .val (.int bY), .val (.int (2 : Int32)), .val (.long (wc + dx)), .second, .val (.long wr), .second, .val (.long (0 : Int64)), .second, .val (.long (0 : Int64)), .second, .val (.ref a199), .val (.int pv), .val (.long (clx.toInt64)), .second, .unset, .unset, .unset, .unset, .unset, .unset, .unset, .unset, .unset, .unset, .unset, .unset, .unset, .unset] [(.int rwy)]))
        have M203 := Fr.app M202 (Fr.nil n0)
        refine w_i2l X203 hx (Jvm.hb hby at_662) (pc' := 663) rfl ?_
        refine w_lstore X203 hx (Jvm.hb hby at_663) #[.val (.long q0), .second, .val (.long q1), .second, .val (.int p2), .val (.int p3), .val (.long q4), .second, .val (.long q5), .second, .val (.long vm), .second, .val (.long kx), .second, .val (.long vk), .second, .val (.long sd), .second, .val (.long vq), .second, .val (.long lo), .second, .val (.long hi), .second, .val (.long cn), .second, .val (.long cx), .second, .val (.long cy), .second, .val (.int d1), .val (.int d2), .val (.long ax), .second, .val (.long ay), .second, .val (.long gx), .second, .val (.long gy), .second, .val (.long vs), .second, .val (.long vt), .second, .val (.long xa), .second, .val (.long ya), .second, .val (.long xb), .second, .val (.long yb), .second, .val (.long dx), .second, .val (.long dy), .second, .val (.long wc), .second, .val (.long wr), .second, .val (.int pv), .val (.int bx), .val (.int bY), .val (.int (2 : Int32)), .val (.long (wc + dx)), .second, .val (.long wr), .second, .val (.long (0 : Int64)), .second, .val (.long (0 : Int64)), .second, .val (.ref a199), .val (.int pv), .val (.long (clx.toInt64)), .second, .val (.long (rwy.toInt64)), .second, .unset, .unset, .unset, .unset, .unset, .unset, .unset, .unset, .unset, .unset, .unset, .unset] rfl  (pc' := 665) rfl ?_
        refine w_aload X203 hx (Jvm.hb hby at_665) rfl rfl (pc' := 667) rfl ?_
        refine w_callV X203 hx hZ hown (hw _ (List.mem_of_getElem? (i := 64) rfl)) (hw _ (List.mem_of_getElem? (i := 65) rfl)) (notFace_of_selects (args := #[]) (mvT hZ (hw _ (List.mem_of_getElem? (i := 67) rfl)))) (hw _ (List.mem_of_getElem? (i := 67) rfl)) (hw _ (List.mem_of_getElem? (i := 66) rfl)) (hw _ (List.mem_of_getElem? (i := 24) rfl)) (hw _ (List.mem_of_getElem? (i := 68) rfl)) (by decide) (W := 0) (rmN_x l Z aw hw [] a199 sd spx spy scx scy pv clx rwy tcx tcy T201.heap n0 GA O201 hp1.1 (own_c HX AX hgx').1 (own_nc HY AY hngy)) e203 (by decide) (by decide) (by decide) (by decide) (O201.2.2.2.2.2.2.2.2.2.2.2) (Jvm.hb hby at_667) (by rw [hml]; rfl) (argsL := []) (rest := []) pd_7 rfl rfl rfl (Nat.le_of_eq rfl) (pc' := 670) rfl ?_
        rintro _ T204 L204 X204 ⟨rfl, N204, K204, O204⟩
        show Ow p e below s _ _ _ (T204.setTop (mkF m 670 #[.val (.long q0), .second, .val (.long q1), .second, .val (.int p2), .val (.int p3), .val (.long q4), .second, .val (.long q5), .second, .val (.long vm), .second, .val (.long kx), .second, .val (.long vk), .second, .val (.long sd), .second, .val (.long vq), .second, .val (.long lo), .second, .val (.long hi), .second, .val (.long cn), .second, .val (.long cx), .second, .val (.long cy), .second, .val (.int d1), .val (.int d2), .val (.long ax), .second, .val (.long ay), .second, .val (.long gx), .second, .val (.long gy), .second, .val (.long vs), .second, .val (.long vt), .second, .val (.long xa), .second, .val (.long ya), .second, .val (.long xb), .second, .val (.long yb), .second, .val (.long dx), .second, .val (.long dy), .second, .val (.long wc), .second, .val (.long wr), .second, .val (.int pv), .val (.int bx), .val (.int bY), .val (.int (2 : Int32)), .val (.long (wc + dx)), .second, .val (.long wr), .second, .val (.long (0 : Int64)), .second, .val (.long (0 : Int64)), .second, .val (.ref a199), .val (.int pv), .val (.long (clx.toInt64)), .second, .val (.long (rwy.toInt64)), .second, .unset, .unset, .unset, .unset, .unset, .unset, .unset, .unset, .unset, .unset, .unset, .unset] [(.int (1 : Int32))]))
        have M204 := Fr.app M203 N204
        refine w_istore X204 hx (Jvm.hb hby at_670) #[.val (.long q0), .second, .val (.long q1), .second, .val (.int p2), .val (.int p3), .val (.long q4), .second, .val (.long q5), .second, .val (.long vm), .second, .val (.long kx), .second, .val (.long vk), .second, .val (.long sd), .second, .val (.long vq), .second, .val (.long lo), .second, .val (.long hi), .second, .val (.long cn), .second, .val (.long cx), .second, .val (.long cy), .second, .val (.int d1), .val (.int d2), .val (.long ax), .second, .val (.long ay), .second, .val (.long gx), .second, .val (.long gy), .second, .val (.long vs), .second, .val (.long vt), .second, .val (.long xa), .second, .val (.long ya), .second, .val (.long xb), .second, .val (.long yb), .second, .val (.long dx), .second, .val (.long dy), .second, .val (.long wc), .second, .val (.long wr), .second, .val (.int pv), .val (.int bx), .val (.int bY), .val (.int (2 : Int32)), .val (.long (wc + dx)), .second, .val (.long wr), .second, .val (.long (0 : Int64)), .second, .val (.long (0 : Int64)), .second, .val (.ref a199), .val (.int pv), .val (.long (clx.toInt64)), .second, .val (.long (rwy.toInt64)), .second, .val (.int (1 : Int32)), .unset, .unset, .unset, .unset, .unset, .unset, .unset, .unset, .unset, .unset, .unset] rfl  (pc' := 672) rfl ?_
        refine w_aload X204 hx (Jvm.hb hby at_672) rfl rfl (pc' := 674) rfl ?_
        refine w_callV X204 hx hZ hown (hw _ (List.mem_of_getElem? (i := 71) rfl)) (hw _ (List.mem_of_getElem? (i := 72) rfl)) (notFace_of_selects (args := #[]) (mvT hZ (hw _ (List.mem_of_getElem? (i := 74) rfl)))) (hw _ (List.mem_of_getElem? (i := 74) rfl)) (hw _ (List.mem_of_getElem? (i := 73) rfl)) (hw _ (List.mem_of_getElem? (i := 24) rfl)) (hw _ (List.mem_of_getElem? (i := 75) rfl)) (by decide) (W := 0) (rm11 l Z aw hw [] a199 (clx + scx) T204.heap (O204.2.2.2.2.2.2.1)) rfl (by decide) (by decide) (by decide) (by decide) (O204.2.2.2.2.2.2.2.2.2.2.2) (Jvm.hb hby at_674) (by rw [hml]; rfl) (argsL := []) (rest := []) pd_8 rfl rfl rfl (Nat.le_of_eq rfl) (pc' := 677) rfl ?_
        rintro _ T205 L205 X205 ⟨rfl, e205, rfl⟩
        show Ow p e below s _ _ _ (T205.setTop (mkF m 677 #[.val (.long q0), .second, .val (.long q1), .second, .val (.int p2), .val (.int p3), .val (.long q4), .second, .val (.long q5), .second, .val (.long vm), .second, .val (.long kx), .second, .val (.long vk), .second, .val (.long sd), .second, .val (.long vq), .second, .val (.long lo), .second, .val (.long hi), .second, .val (.long cn), .second, .val (.long cx), .second, .val (.long cy), .second, .val (.int d1), .val (.int d2), .val (.long ax), .second, .val (.long ay), .second, .val (.long gx), .second, .val (.long gy), .second, .val (.long vs), .second, .val (.long vt), .second, .val (.long xa), .second, .val (.long ya), .second, .val (.long xb), .second, .val (.long yb), .second, .val (.long dx), .second, .val (.long dy), .second, .val (.long wc), .second, .val (.long wr), .second, .val (.int pv), .val (.int bx), .val (.int bY), .val (.int (2 : Int32)), .val (.long (wc + dx)), .second, .val (.long wr), .second, .val (.long (0 : Int64)), .second, .val (.long (0 : Int64)), .second, .val (.ref a199), .val (.int pv), .val (.long (clx.toInt64)), .second, .val (.long (rwy.toInt64)), .second, .val (.int (1 : Int32)), .unset, .unset, .unset, .unset, .unset, .unset, .unset, .unset, .unset, .unset, .unset] [(.int (clx + scx))]))
        have M205 := Fr.app M204 (Fr.nil n0)
        refine w_i2l X205 hx (Jvm.hb hby at_677) (pc' := 678) rfl ?_
        refine w_lstore X205 hx (Jvm.hb hby at_678) #[.val (.long q0), .second, .val (.long q1), .second, .val (.int p2), .val (.int p3), .val (.long q4), .second, .val (.long q5), .second, .val (.long vm), .second, .val (.long kx), .second, .val (.long vk), .second, .val (.long sd), .second, .val (.long vq), .second, .val (.long lo), .second, .val (.long hi), .second, .val (.long cn), .second, .val (.long cx), .second, .val (.long cy), .second, .val (.int d1), .val (.int d2), .val (.long ax), .second, .val (.long ay), .second, .val (.long gx), .second, .val (.long gy), .second, .val (.long vs), .second, .val (.long vt), .second, .val (.long xa), .second, .val (.long ya), .second, .val (.long xb), .second, .val (.long yb), .second, .val (.long dx), .second, .val (.long dy), .second, .val (.long wc), .second, .val (.long wr), .second, .val (.int pv), .val (.int bx), .val (.int bY), .val (.int (2 : Int32)), .val (.long (wc + dx)), .second, .val (.long wr), .second, .val (.long (0 : Int64)), .second, .val (.long (0 : Int64)), .second, .val (.ref a199), .val (.int pv), .val (.long (clx.toInt64)), .second, .val (.long (rwy.toInt64)), .second, .val (.int (1 : Int32)), .val (.long ((clx + scx).toInt64)), .second, .unset, .unset, .unset, .unset, .unset, .unset, .unset, .unset, .unset] rfl  (pc' := 680) rfl ?_
        refine w_aload X205 hx (Jvm.hb hby at_680) rfl rfl (pc' := 682) rfl ?_
        refine w_callV X205 hx hZ hown (hw _ (List.mem_of_getElem? (i := 76) rfl)) (hw _ (List.mem_of_getElem? (i := 77) rfl)) (notFace_of_selects (args := #[]) (mvT hZ (hw _ (List.mem_of_getElem? (i := 79) rfl)))) (hw _ (List.mem_of_getElem? (i := 79) rfl)) (hw _ (List.mem_of_getElem? (i := 78) rfl)) (hw _ (List.mem_of_getElem? (i := 24) rfl)) (hw _ (List.mem_of_getElem? (i := 80) rfl)) (by decide) (W := 0) (rm12 l Z aw hw [] a199 rwy T204.heap (O204.2.2.2.2.2.2.2.1)) e205 (by decide) (by decide) (by decide) (by decide) (O204.2.2.2.2.2.2.2.2.2.2.2) (Jvm.hb hby at_682) (by rw [hml]; rfl) (argsL := []) (rest := []) pd_8 rfl rfl rfl (Nat.le_of_eq rfl) (pc' := 685) rfl ?_
        rintro _ T206 L206 X206 ⟨rfl, e206, rfl⟩
        show Ow p e below s _ _ _ (T206.setTop (mkF m 685 #[.val (.long q0), .second, .val (.long q1), .second, .val (.int p2), .val (.int p3), .val (.long q4), .second, .val (.long q5), .second, .val (.long vm), .second, .val (.long kx), .second, .val (.long vk), .second, .val (.long sd), .second, .val (.long vq), .second, .val (.long lo), .second, .val (.long hi), .second, .val (.long cn), .second, .val (.long cx), .second, .val (.long cy), .second, .val (.int d1), .val (.int d2), .val (.long ax), .second, .val (.long ay), .second, .val (.long gx), .second, .val (.long gy), .second, .val (.long vs), .second, .val (.long vt), .second, .val (.long xa), .second, .val (.long ya), .second, .val (.long xb), .second, .val (.long yb), .second, .val (.long dx), .second, .val (.long dy), .second, .val (.long wc), .second, .val (.long wr), .second, .val (.int pv), .val (.int bx), .val (.int bY), .val (.int (2 : Int32)), .val (.long (wc + dx)), .second, .val (.long wr), .second, .val (.long (0 : Int64)), .second, .val (.long (0 : Int64)), .second, .val (.ref a199), .val (.int pv), .val (.long (clx.toInt64)), .second, .val (.long (rwy.toInt64)), .second, .val (.int (1 : Int32)), .val (.long ((clx + scx).toInt64)), .second, .unset, .unset, .unset, .unset, .unset, .unset, .unset, .unset, .unset] [(.int rwy)]))
        have M206 := Fr.app M205 (Fr.nil n0)
        refine w_i2l X206 hx (Jvm.hb hby at_685) (pc' := 686) rfl ?_
        refine w_lstore X206 hx (Jvm.hb hby at_686) #[.val (.long q0), .second, .val (.long q1), .second, .val (.int p2), .val (.int p3), .val (.long q4), .second, .val (.long q5), .second, .val (.long vm), .second, .val (.long kx), .second, .val (.long vk), .second, .val (.long sd), .second, .val (.long vq), .second, .val (.long lo), .second, .val (.long hi), .second, .val (.long cn), .second, .val (.long cx), .second, .val (.long cy), .second, .val (.int d1), .val (.int d2), .val (.long ax), .second, .val (.long ay), .second, .val (.long gx), .second, .val (.long gy), .second, .val (.long vs), .second, .val (.long vt), .second, .val (.long xa), .second, .val (.long ya), .second, .val (.long xb), .second, .val (.long yb), .second, .val (.long dx), .second, .val (.long dy), .second, .val (.long wc), .second, .val (.long wr), .second, .val (.int pv), .val (.int bx), .val (.int bY), .val (.int (2 : Int32)), .val (.long (wc + dx)), .second, .val (.long wr), .second, .val (.long (0 : Int64)), .second, .val (.long (0 : Int64)), .second, .val (.ref a199), .val (.int pv), .val (.long (clx.toInt64)), .second, .val (.long (rwy.toInt64)), .second, .val (.int (1 : Int32)), .val (.long ((clx + scx).toInt64)), .second, .val (.long (rwy.toInt64)), .second, .unset, .unset, .unset, .unset, .unset, .unset, .unset] rfl  (pc' := 688) rfl ?_
        refine w_aload X206 hx (Jvm.hb hby at_688) rfl rfl (pc' := 690) rfl ?_
        refine w_callV X206 hx hZ hown (hw _ (List.mem_of_getElem? (i := 64) rfl)) (hw _ (List.mem_of_getElem? (i := 65) rfl)) (notFace_of_selects (args := #[]) (mvT hZ (hw _ (List.mem_of_getElem? (i := 67) rfl)))) (hw _ (List.mem_of_getElem? (i := 67) rfl)) (hw _ (List.mem_of_getElem? (i := 66) rfl)) (hw _ (List.mem_of_getElem? (i := 24) rfl)) (hw _ (List.mem_of_getElem? (i := 68) rfl)) (by decide) (W := 0) (rmN_stop l Z aw hw [] a199 sd spx spy scx scy pv (clx + scx) rwy (tcx + sd) tcy T204.heap n0 GA O204 hp1.1 (own_c HX AX hgx').2.1 (own_nc HY AY hngy)) e206 (by decide) (by decide) (by decide) (by decide) (O204.2.2.2.2.2.2.2.2.2.2.2) (Jvm.hb hby at_690) (by rw [hml]; rfl) (argsL := []) (rest := []) pd_7 rfl rfl rfl (Nat.le_of_eq rfl) (pc' := 693) rfl ?_
        rintro _ T207 L207 X207 ⟨rfl, N207, K207, O207⟩
        show Ow p e below s _ _ _ (T207.setTop (mkF m 693 #[.val (.long q0), .second, .val (.long q1), .second, .val (.int p2), .val (.int p3), .val (.long q4), .second, .val (.long q5), .second, .val (.long vm), .second, .val (.long kx), .second, .val (.long vk), .second, .val (.long sd), .second, .val (.long vq), .second, .val (.long lo), .second, .val (.long hi), .second, .val (.long cn), .second, .val (.long cx), .second, .val (.long cy), .second, .val (.int d1), .val (.int d2), .val (.long ax), .second, .val (.long ay), .second, .val (.long gx), .second, .val (.long gy), .second, .val (.long vs), .second, .val (.long vt), .second, .val (.long xa), .second, .val (.long ya), .second, .val (.long xb), .second, .val (.long yb), .second, .val (.long dx), .second, .val (.long dy), .second, .val (.long wc), .second, .val (.long wr), .second, .val (.int pv), .val (.int bx), .val (.int bY), .val (.int (2 : Int32)), .val (.long (wc + dx)), .second, .val (.long wr), .second, .val (.long (0 : Int64)), .second, .val (.long (0 : Int64)), .second, .val (.ref a199), .val (.int pv), .val (.long (clx.toInt64)), .second, .val (.long (rwy.toInt64)), .second, .val (.int (1 : Int32)), .val (.long ((clx + scx).toInt64)), .second, .val (.long (rwy.toInt64)), .second, .unset, .unset, .unset, .unset, .unset, .unset, .unset] [(.int (0 : Int32))]))
        have M207 := Fr.app M206 N207
        refine w_istore X207 hx (Jvm.hb hby at_693) #[.val (.long q0), .second, .val (.long q1), .second, .val (.int p2), .val (.int p3), .val (.long q4), .second, .val (.long q5), .second, .val (.long vm), .second, .val (.long kx), .second, .val (.long vk), .second, .val (.long sd), .second, .val (.long vq), .second, .val (.long lo), .second, .val (.long hi), .second, .val (.long cn), .second, .val (.long cx), .second, .val (.long cy), .second, .val (.int d1), .val (.int d2), .val (.long ax), .second, .val (.long ay), .second, .val (.long gx), .second, .val (.long gy), .second, .val (.long vs), .second, .val (.long vt), .second, .val (.long xa), .second, .val (.long ya), .second, .val (.long xb), .second, .val (.long yb), .second, .val (.long dx), .second, .val (.long dy), .second, .val (.long wc), .second, .val (.long wr), .second, .val (.int pv), .val (.int bx), .val (.int bY), .val (.int (2 : Int32)), .val (.long (wc + dx)), .second, .val (.long wr), .second, .val (.long (0 : Int64)), .second, .val (.long (0 : Int64)), .second, .val (.ref a199), .val (.int pv), .val (.long (clx.toInt64)), .second, .val (.long (rwy.toInt64)), .second, .val (.int (1 : Int32)), .val (.long ((clx + scx).toInt64)), .second, .val (.long (rwy.toInt64)), .second, .val (.int (0 : Int32)), .unset, .unset, .unset, .unset, .unset, .unset] rfl  (pc' := 695) rfl ?_
        refine w_aload X207 hx (Jvm.hb hby at_695) rfl rfl (pc' := 697) rfl ?_
        refine w_callV X207 hx hZ hown (hw _ (List.mem_of_getElem? (i := 71) rfl)) (hw _ (List.mem_of_getElem? (i := 72) rfl)) (notFace_of_selects (args := #[]) (mvT hZ (hw _ (List.mem_of_getElem? (i := 74) rfl)))) (hw _ (List.mem_of_getElem? (i := 74) rfl)) (hw _ (List.mem_of_getElem? (i := 73) rfl)) (hw _ (List.mem_of_getElem? (i := 24) rfl)) (hw _ (List.mem_of_getElem? (i := 75) rfl)) (by decide) (W := 0) (rm11 l Z aw hw [] a199 (clx + scx) T207.heap (O207.2.2.2.2.2.2.1)) rfl (by decide) (by decide) (by decide) (by decide) (O207.2.2.2.2.2.2.2.2.2.2.2) (Jvm.hb hby at_697) (by rw [hml]; rfl) (argsL := []) (rest := []) pd_8 rfl rfl rfl (Nat.le_of_eq rfl) (pc' := 700) rfl ?_
        rintro _ T208 L208 X208 ⟨rfl, e208, rfl⟩
        show Ow p e below s _ _ _ (T208.setTop (mkF m 700 #[.val (.long q0), .second, .val (.long q1), .second, .val (.int p2), .val (.int p3), .val (.long q4), .second, .val (.long q5), .second, .val (.long vm), .second, .val (.long kx), .second, .val (.long vk), .second, .val (.long sd), .second, .val (.long vq), .second, .val (.long lo), .second, .val (.long hi), .second, .val (.long cn), .second, .val (.long cx), .second, .val (.long cy), .second, .val (.int d1), .val (.int d2), .val (.long ax), .second, .val (.long ay), .second, .val (.long gx), .second, .val (.long gy), .second, .val (.long vs), .second, .val (.long vt), .second, .val (.long xa), .second, .val (.long ya), .second, .val (.long xb), .second, .val (.long yb), .second, .val (.long dx), .second, .val (.long dy), .second, .val (.long wc), .second, .val (.long wr), .second, .val (.int pv), .val (.int bx), .val (.int bY), .val (.int (2 : Int32)), .val (.long (wc + dx)), .second, .val (.long wr), .second, .val (.long (0 : Int64)), .second, .val (.long (0 : Int64)), .second, .val (.ref a199), .val (.int pv), .val (.long (clx.toInt64)), .second, .val (.long (rwy.toInt64)), .second, .val (.int (1 : Int32)), .val (.long ((clx + scx).toInt64)), .second, .val (.long (rwy.toInt64)), .second, .val (.int (0 : Int32)), .unset, .unset, .unset, .unset, .unset, .unset] [(.int (clx + scx))]))
        have M208 := Fr.app M207 (Fr.nil n0)
        refine w_i2l X208 hx (Jvm.hb hby at_700) (pc' := 701) rfl ?_
        refine w_lstore X208 hx (Jvm.hb hby at_701) #[.val (.long q0), .second, .val (.long q1), .second, .val (.int p2), .val (.int p3), .val (.long q4), .second, .val (.long q5), .second, .val (.long vm), .second, .val (.long kx), .second, .val (.long vk), .second, .val (.long sd), .second, .val (.long vq), .second, .val (.long lo), .second, .val (.long hi), .second, .val (.long cn), .second, .val (.long cx), .second, .val (.long cy), .second, .val (.int d1), .val (.int d2), .val (.long ax), .second, .val (.long ay), .second, .val (.long gx), .second, .val (.long gy), .second, .val (.long vs), .second, .val (.long vt), .second, .val (.long xa), .second, .val (.long ya), .second, .val (.long xb), .second, .val (.long yb), .second, .val (.long dx), .second, .val (.long dy), .second, .val (.long wc), .second, .val (.long wr), .second, .val (.int pv), .val (.int bx), .val (.int bY), .val (.int (2 : Int32)), .val (.long (wc + dx)), .second, .val (.long wr), .second, .val (.long (0 : Int64)), .second, .val (.long (0 : Int64)), .second, .val (.ref a199), .val (.int pv), .val (.long (clx.toInt64)), .second, .val (.long (rwy.toInt64)), .second, .val (.int (1 : Int32)), .val (.long ((clx + scx).toInt64)), .second, .val (.long (rwy.toInt64)), .second, .val (.int (0 : Int32)), .val (.long ((clx + scx).toInt64)), .second, .unset, .unset, .unset, .unset] rfl  (pc' := 703) rfl ?_
        refine w_aload X208 hx (Jvm.hb hby at_703) rfl rfl (pc' := 705) rfl ?_
        refine w_callV X208 hx hZ hown (hw _ (List.mem_of_getElem? (i := 76) rfl)) (hw _ (List.mem_of_getElem? (i := 77) rfl)) (notFace_of_selects (args := #[]) (mvT hZ (hw _ (List.mem_of_getElem? (i := 79) rfl)))) (hw _ (List.mem_of_getElem? (i := 79) rfl)) (hw _ (List.mem_of_getElem? (i := 78) rfl)) (hw _ (List.mem_of_getElem? (i := 24) rfl)) (hw _ (List.mem_of_getElem? (i := 80) rfl)) (by decide) (W := 0) (rm12 l Z aw hw [] a199 rwy T207.heap (O207.2.2.2.2.2.2.2.1)) e208 (by decide) (by decide) (by decide) (by decide) (O207.2.2.2.2.2.2.2.2.2.2.2) (Jvm.hb hby at_705) (by rw [hml]; rfl) (argsL := []) (rest := []) pd_8 rfl rfl rfl (Nat.le_of_eq rfl) (pc' := 708) rfl ?_
        rintro _ T209 L209 X209 ⟨rfl, e209, rfl⟩
        show Ow p e below s _ _ _ (T209.setTop (mkF m 708 #[.val (.long q0), .second, .val (.long q1), .second, .val (.int p2), .val (.int p3), .val (.long q4), .second, .val (.long q5), .second, .val (.long vm), .second, .val (.long kx), .second, .val (.long vk), .second, .val (.long sd), .second, .val (.long vq), .second, .val (.long lo), .second, .val (.long hi), .second, .val (.long cn), .second, .val (.long cx), .second, .val (.long cy), .second, .val (.int d1), .val (.int d2), .val (.long ax), .second, .val (.long ay), .second, .val (.long gx), .second, .val (.long gy), .second, .val (.long vs), .second, .val (.long vt), .second, .val (.long xa), .second, .val (.long ya), .second, .val (.long xb), .second, .val (.long yb), .second, .val (.long dx), .second, .val (.long dy), .second, .val (.long wc), .second, .val (.long wr), .second, .val (.int pv), .val (.int bx), .val (.int bY), .val (.int (2 : Int32)), .val (.long (wc + dx)), .second, .val (.long wr), .second, .val (.long (0 : Int64)), .second, .val (.long (0 : Int64)), .second, .val (.ref a199), .val (.int pv), .val (.long (clx.toInt64)), .second, .val (.long (rwy.toInt64)), .second, .val (.int (1 : Int32)), .val (.long ((clx + scx).toInt64)), .second, .val (.long (rwy.toInt64)), .second, .val (.int (0 : Int32)), .val (.long ((clx + scx).toInt64)), .second, .unset, .unset, .unset, .unset] [(.int rwy)]))
        have M209 := Fr.app M208 (Fr.nil n0)
        refine w_i2l X209 hx (Jvm.hb hby at_708) (pc' := 709) rfl ?_
        refine w_lstore X209 hx (Jvm.hb hby at_709) #[.val (.long q0), .second, .val (.long q1), .second, .val (.int p2), .val (.int p3), .val (.long q4), .second, .val (.long q5), .second, .val (.long vm), .second, .val (.long kx), .second, .val (.long vk), .second, .val (.long sd), .second, .val (.long vq), .second, .val (.long lo), .second, .val (.long hi), .second, .val (.long cn), .second, .val (.long cx), .second, .val (.long cy), .second, .val (.int d1), .val (.int d2), .val (.long ax), .second, .val (.long ay), .second, .val (.long gx), .second, .val (.long gy), .second, .val (.long vs), .second, .val (.long vt), .second, .val (.long xa), .second, .val (.long ya), .second, .val (.long xb), .second, .val (.long yb), .second, .val (.long dx), .second, .val (.long dy), .second, .val (.long wc), .second, .val (.long wr), .second, .val (.int pv), .val (.int bx), .val (.int bY), .val (.int (2 : Int32)), .val (.long (wc + dx)), .second, .val (.long wr), .second, .val (.long (0 : Int64)), .second, .val (.long (0 : Int64)), .second, .val (.ref a199), .val (.int pv), .val (.long (clx.toInt64)), .second, .val (.long (rwy.toInt64)), .second, .val (.int (1 : Int32)), .val (.long ((clx + scx).toInt64)), .second, .val (.long (rwy.toInt64)), .second, .val (.int (0 : Int32)), .val (.long ((clx + scx).toInt64)), .second, .val (.long (rwy.toInt64)), .second, .unset, .unset] rfl  (pc' := 711) rfl ?_
        refine w_aload X209 hx (Jvm.hb hby at_711) rfl rfl (pc' := 713) rfl ?_
        refine w_callV X209 hx hZ hown (hw _ (List.mem_of_getElem? (i := 64) rfl)) (hw _ (List.mem_of_getElem? (i := 65) rfl)) (notFace_of_selects (args := #[]) (mvT hZ (hw _ (List.mem_of_getElem? (i := 67) rfl)))) (hw _ (List.mem_of_getElem? (i := 67) rfl)) (hw _ (List.mem_of_getElem? (i := 66) rfl)) (hw _ (List.mem_of_getElem? (i := 24) rfl)) (hw _ (List.mem_of_getElem? (i := 68) rfl)) (by decide) (W := 0) (rmN_stop l Z aw hw [] a199 sd spx spy scx scy pv (clx + scx) rwy (tcx + sd) tcy T207.heap n0 GA O207 hp1.1 (own_c HX AX hgx').2.1 (own_nc HY AY hngy)) e209 (by decide) (by decide) (by decide) (by decide) (O207.2.2.2.2.2.2.2.2.2.2.2) (Jvm.hb hby at_713) (by rw [hml]; rfl) (argsL := []) (rest := []) pd_7 rfl rfl rfl (Nat.le_of_eq rfl) (pc' := 716) rfl ?_
        rintro _ T210 L210 X210 ⟨rfl, N210, K210, O210⟩
        show Ow p e below s _ _ _ (T210.setTop (mkF m 716 #[.val (.long q0), .second, .val (.long q1), .second, .val (.int p2), .val (.int p3), .val (.long q4), .second, .val (.long q5), .second, .val (.long vm), .second, .val (.long kx), .second, .val (.long vk), .second, .val (.long sd), .second, .val (.long vq), .second, .val (.long lo), .second, .val (.long hi), .second, .val (.long cn), .second, .val (.long cx), .second, .val (.long cy), .second, .val (.int d1), .val (.int d2), .val (.long ax), .second, .val (.long ay), .second, .val (.long gx), .second, .val (.long gy), .second, .val (.long vs), .second, .val (.long vt), .second, .val (.long xa), .second, .val (.long ya), .second, .val (.long xb), .second, .val (.long yb), .second, .val (.long dx), .second, .val (.long dy), .second, .val (.long wc), .second, .val (.long wr), .second, .val (.int pv), .val (.int bx), .val (.int bY), .val (.int (2 : Int32)), .val (.long (wc + dx)), .second, .val (.long wr), .second, .val (.long (0 : Int64)), .second, .val (.long (0 : Int64)), .second, .val (.ref a199), .val (.int pv), .val (.long (clx.toInt64)), .second, .val (.long (rwy.toInt64)), .second, .val (.int (1 : Int32)), .val (.long ((clx + scx).toInt64)), .second, .val (.long (rwy.toInt64)), .second, .val (.int (0 : Int32)), .val (.long ((clx + scx).toInt64)), .second, .val (.long (rwy.toInt64)), .second, .unset, .unset] [(.int (0 : Int32))]))
        have M210 := Fr.app M209 N210
        refine w_istore X210 hx (Jvm.hb hby at_716) #[.val (.long q0), .second, .val (.long q1), .second, .val (.int p2), .val (.int p3), .val (.long q4), .second, .val (.long q5), .second, .val (.long vm), .second, .val (.long kx), .second, .val (.long vk), .second, .val (.long sd), .second, .val (.long vq), .second, .val (.long lo), .second, .val (.long hi), .second, .val (.long cn), .second, .val (.long cx), .second, .val (.long cy), .second, .val (.int d1), .val (.int d2), .val (.long ax), .second, .val (.long ay), .second, .val (.long gx), .second, .val (.long gy), .second, .val (.long vs), .second, .val (.long vt), .second, .val (.long xa), .second, .val (.long ya), .second, .val (.long xb), .second, .val (.long yb), .second, .val (.long dx), .second, .val (.long dy), .second, .val (.long wc), .second, .val (.long wr), .second, .val (.int pv), .val (.int bx), .val (.int bY), .val (.int (2 : Int32)), .val (.long (wc + dx)), .second, .val (.long wr), .second, .val (.long (0 : Int64)), .second, .val (.long (0 : Int64)), .second, .val (.ref a199), .val (.int pv), .val (.long (clx.toInt64)), .second, .val (.long (rwy.toInt64)), .second, .val (.int (1 : Int32)), .val (.long ((clx + scx).toInt64)), .second, .val (.long (rwy.toInt64)), .second, .val (.int (0 : Int32)), .val (.long ((clx + scx).toInt64)), .second, .val (.long (rwy.toInt64)), .second, .val (.int (0 : Int32)), .unset] rfl  (pc' := 718) rfl ?_
        refine w_iload X210 hx (Jvm.hb hby at_718) rfl (pc' := 720) rfl ?_
        refine w_iload X210 hx (Jvm.hb hby at_720) rfl (pc' := 722) rfl ?_
        refine w_iconst X210 hx (1 : Int32) (Jvm.hb hby at_722) (by decide) (pc' := 723) rfl ?_
        refine w_icmp_lt X210 hx (Jvm.hb hby at_723) (by decide) (pcT := 730) (by decide) (pcF := 726) rfl (fun q => absurd q (show ¬ (2 : Int32) < (1 : Int32) from by decide)) (fun _ => ?_)
        refine w_iconst X210 hx (1 : Int32) (Jvm.hb hby at_726) (by decide) (pc' := 727) rfl ?_
        refine w_goto X210 hx (Jvm.hb hby at_727) (by decide) (pc' := 731) (by decide) ?_
        refine w_icmp_ne X210 hx (Jvm.hb hby at_731) (by decide) (pcT := 775) (by decide) (pcF := 734) rfl (fun q => absurd hp1.1 q) (fun _ => ?_)
        refine w_iload X210 hx (Jvm.hb hby at_734) rfl (pc' := 736) rfl ?_
        refine w_iload X210 hx (Jvm.hb hby at_736) rfl (pc' := 738) rfl ?_
        refine w_iconst X210 hx (2 : Int32) (Jvm.hb hby at_738) (by decide) (pc' := 739) rfl ?_
        refine w_icmp_lt X210 hx (Jvm.hb hby at_739) (by decide) (pcT := 746) (by decide) (pcF := 742) rfl (fun q => absurd q (show ¬ (2 : Int32) < (2 : Int32) from by decide)) (fun _ => ?_)
        refine w_iconst X210 hx (1 : Int32) (Jvm.hb hby at_742) (by decide) (pc' := 743) rfl ?_
        refine w_goto X210 hx (Jvm.hb hby at_743) (by decide) (pc' := 747) (by decide) ?_
        refine w_icmp_ne X210 hx (Jvm.hb hby at_747) (by decide) (pcT := 775) (by decide) (pcF := 750) rfl (fun q => absurd (show (1 : Int32) = (1 : Int32) from by decide) q) (fun _ => ?_)
        refine w_iload X210 hx (Jvm.hb hby at_750) rfl (pc' := 752) rfl ?_
        refine w_iload X210 hx (Jvm.hb hby at_752) rfl (pc' := 754) rfl ?_
        refine w_iconst X210 hx (3 : Int32) (Jvm.hb hby at_754) (by decide) (pc' := 755) rfl ?_
        refine w_icmp_lt X210 hx (Jvm.hb hby at_755) (by decide) (pcT := 762) (by decide) (pcF := 758) rfl (fun _ => ?_) (fun q => absurd (show (2 : Int32) < (3 : Int32) from by decide) q)
        refine w_iconst X210 hx (0 : Int32) (Jvm.hb hby at_762) (by decide) (pc' := 763) rfl ?_
        refine w_icmp_ne X210 hx (Jvm.hb hby at_763) (by decide) (pcT := 775) (by decide) (pcF := 766) rfl (fun q => absurd (show (0 : Int32) = (0 : Int32) from by decide) q) (fun _ => ?_)
        refine w_iload X210 hx (Jvm.hb hby at_766) rfl (pc' := 768) rfl ?_
        refine w_if_ne X210 hx (Jvm.hb hby at_768) (by decide) (pcT := 775) (by decide) (pcF := 771) rfl (fun q => absurd (show (0 : Int32) = 0 from by decide) q) (fun _ => ?_)
        refine w_iconst X210 hx (1 : Int32) (Jvm.hb hby at_771) (by decide) (pc' := 772) rfl ?_
        refine w_goto X210 hx (Jvm.hb hby at_772) (by decide) (pc' := 776) (by decide) ?_
        refine w_istore X210 hx (Jvm.hb hby at_776) #[.val (.long q0), .second, .val (.long q1), .second, .val (.int p2), .val (.int p3), .val (.long q4), .second, .val (.long q5), .second, .val (.long vm), .second, .val (.long kx), .second, .val (.long vk), .second, .val (.long sd), .second, .val (.long vq), .second, .val (.long lo), .second, .val (.long hi), .second, .val (.long cn), .second, .val (.long cx), .second, .val (.long cy), .second, .val (.int d1), .val (.int d2), .val (.long ax), .second, .val (.long ay), .second, .val (.long gx), .second, .val (.long gy), .second, .val (.long vs), .second, .val (.long vt), .second, .val (.long xa), .second, .val (.long ya), .second, .val (.long xb), .second, .val (.long yb), .second, .val (.long dx), .second, .val (.long dy), .second, .val (.long wc), .second, .val (.long wr), .second, .val (.int pv), .val (.int bx), .val (.int bY), .val (.int (2 : Int32)), .val (.long (wc + dx)), .second, .val (.long wr), .second, .val (.long (0 : Int64)), .second, .val (.long (0 : Int64)), .second, .val (.ref a199), .val (.int pv), .val (.long (clx.toInt64)), .second, .val (.long (rwy.toInt64)), .second, .val (.int (1 : Int32)), .val (.long ((clx + scx).toInt64)), .second, .val (.long (rwy.toInt64)), .second, .val (.int (0 : Int32)), .val (.long ((clx + scx).toInt64)), .second, .val (.long (rwy.toInt64)), .second, .val (.int (0 : Int32)), .val (.int (1 : Int32))] rfl  (pc' := 778) rfl ?_
        refine w_iload X210 hx (Jvm.hb hby at_778) rfl (pc' := 780) rfl ?_
        refine w_iconst X210 hx (1 : Int32) (Jvm.hb hby at_780) (by decide) (pc' := 781) rfl ?_
        refine w_icmp_lt X210 hx (Jvm.hb hby at_781) (by decide) (pcT := 812) (by decide) (pcF := 784) rfl (fun q => absurd q (show ¬ (2 : Int32) < (1 : Int32) from by decide)) (fun _ => ?_)
        refine w_iload X210 hx (Jvm.hb hby at_784) rfl (pc' := 786) rfl ?_
        refine w_if_eq X210 hx (Jvm.hb hby at_786) (by decide) (pcT := 809) (by decide) (pcF := 789) rfl (fun q => absurd q (show ¬ (1 : Int32) = 0 from by decide)) (fun _ => ?_)
        refine w_lload X210 hx (Jvm.hb hby at_789) rfl (pc' := 791) rfl ?_
        refine w_lload X210 hx (Jvm.hb hby at_791) rfl (pc' := 793) rfl ?_
        refine w_lcmp_ne X210 hx (Jvm.hb hby at_793) (Jvm.hb hby at_794) rfl (by decide) (pcT := 809) (by decide) (pcF := 797) rfl (fun q => absurd (own_col HX AX hwc hp1.2.1).1 q) (fun _ => ?_)
        refine w_lload X210 hx (Jvm.hb hby at_797) rfl (pc' := 799) rfl ?_
        refine w_lload X210 hx (Jvm.hb hby at_799) rfl (pc' := 801) rfl ?_
        refine w_lcmp_ne X210 hx (Jvm.hb hby at_801) (Jvm.hb hby at_802) rfl (by decide) (pcT := 809) (by decide) (pcF := 805) rfl (fun q => absurd (own_col HY AY hwr hp1.2.2).1 q) (fun _ => ?_)
        refine w_iconst X210 hx (1 : Int32) (Jvm.hb hby at_805) (by decide) (pc' := 806) rfl ?_
        refine w_goto X210 hx (Jvm.hb hby at_806) (by decide) (pc' := 810) (by decide) ?_
        refine w_istore X210 hx (Jvm.hb hby at_810) #[.val (.long q0), .second, .val (.long q1), .second, .val (.int p2), .val (.int p3), .val (.long q4), .second, .val (.long q5), .second, .val (.long vm), .second, .val (.long kx), .second, .val (.long vk), .second, .val (.long sd), .second, .val (.long vq), .second, .val (.long lo), .second, .val (.long hi), .second, .val (.long cn), .second, .val (.long cx), .second, .val (.long cy), .second, .val (.int d1), .val (.int d2), .val (.long ax), .second, .val (.long ay), .second, .val (.long gx), .second, .val (.long gy), .second, .val (.long vs), .second, .val (.long vt), .second, .val (.long xa), .second, .val (.long ya), .second, .val (.long xb), .second, .val (.long yb), .second, .val (.long dx), .second, .val (.long dy), .second, .val (.long wc), .second, .val (.long wr), .second, .val (.int pv), .val (.int bx), .val (.int bY), .val (.int (2 : Int32)), .val (.long (wc + dx)), .second, .val (.long wr), .second, .val (.long (0 : Int64)), .second, .val (.long (0 : Int64)), .second, .val (.ref a199), .val (.int pv), .val (.long (clx.toInt64)), .second, .val (.long (rwy.toInt64)), .second, .val (.int (1 : Int32)), .val (.long ((clx + scx).toInt64)), .second, .val (.long (rwy.toInt64)), .second, .val (.int (0 : Int32)), .val (.long ((clx + scx).toInt64)), .second, .val (.long (rwy.toInt64)), .second, .val (.int (0 : Int32)), .val (.int (1 : Int32))] rfl  (pc' := 812) rfl ?_
        refine w_iload X210 hx (Jvm.hb hby at_812) rfl (pc' := 814) rfl ?_
        refine w_iconst X210 hx (2 : Int32) (Jvm.hb hby at_814) (by decide) (pc' := 815) rfl ?_
        refine w_icmp_lt X210 hx (Jvm.hb hby at_815) (by decide) (pcT := 846) (by decide) (pcF := 818) rfl (fun q => absurd q (show ¬ (2 : Int32) < (2 : Int32) from by decide)) (fun _ => ?_)
        refine w_iload X210 hx (Jvm.hb hby at_818) rfl (pc' := 820) rfl ?_
        refine w_if_eq X210 hx (Jvm.hb hby at_820) (by decide) (pcT := 843) (by decide) (pcF := 823) rfl (fun q => absurd q (show ¬ (1 : Int32) = 0 from by decide)) (fun _ => ?_)
        refine w_lload X210 hx (Jvm.hb hby at_823) rfl (pc' := 825) rfl ?_
        refine w_lload X210 hx (Jvm.hb hby at_825) rfl (pc' := 827) rfl ?_
        refine w_lcmp_ne X210 hx (Jvm.hb hby at_827) (Jvm.hb hby at_828) rfl (by decide) (pcT := 843) (by decide) (pcF := 831) rfl (fun q => absurd (own_colS HX AX hwc hdx hgx') q) (fun _ => ?_)
        refine w_lload X210 hx (Jvm.hb hby at_831) rfl (pc' := 833) rfl ?_
        refine w_lload X210 hx (Jvm.hb hby at_833) rfl (pc' := 835) rfl ?_
        refine w_lcmp_ne X210 hx (Jvm.hb hby at_835) (Jvm.hb hby at_836) rfl (by decide) (pcT := 843) (by decide) (pcF := 839) rfl (fun q => absurd (own_col HY AY hwr hp1.2.2).1 q) (fun _ => ?_)
        refine w_iconst X210 hx (1 : Int32) (Jvm.hb hby at_839) (by decide) (pc' := 840) rfl ?_
        refine w_goto X210 hx (Jvm.hb hby at_840) (by decide) (pc' := 844) (by decide) ?_
        refine w_istore X210 hx (Jvm.hb hby at_844) #[.val (.long q0), .second, .val (.long q1), .second, .val (.int p2), .val (.int p3), .val (.long q4), .second, .val (.long q5), .second, .val (.long vm), .second, .val (.long kx), .second, .val (.long vk), .second, .val (.long sd), .second, .val (.long vq), .second, .val (.long lo), .second, .val (.long hi), .second, .val (.long cn), .second, .val (.long cx), .second, .val (.long cy), .second, .val (.int d1), .val (.int d2), .val (.long ax), .second, .val (.long ay), .second, .val (.long gx), .second, .val (.long gy), .second, .val (.long vs), .second, .val (.long vt), .second, .val (.long xa), .second, .val (.long ya), .second, .val (.long xb), .second, .val (.long yb), .second, .val (.long dx), .second, .val (.long dy), .second, .val (.long wc), .second, .val (.long wr), .second, .val (.int pv), .val (.int bx), .val (.int bY), .val (.int (2 : Int32)), .val (.long (wc + dx)), .second, .val (.long wr), .second, .val (.long (0 : Int64)), .second, .val (.long (0 : Int64)), .second, .val (.ref a199), .val (.int pv), .val (.long (clx.toInt64)), .second, .val (.long (rwy.toInt64)), .second, .val (.int (1 : Int32)), .val (.long ((clx + scx).toInt64)), .second, .val (.long (rwy.toInt64)), .second, .val (.int (0 : Int32)), .val (.long ((clx + scx).toInt64)), .second, .val (.long (rwy.toInt64)), .second, .val (.int (0 : Int32)), .val (.int (1 : Int32))] rfl  (pc' := 846) rfl ?_
        refine w_iload X210 hx (Jvm.hb hby at_846) rfl (pc' := 848) rfl ?_
        refine w_iconst X210 hx (3 : Int32) (Jvm.hb hby at_848) (by decide) (pc' := 849) rfl ?_
        refine w_icmp_lt X210 hx (Jvm.hb hby at_849) (by decide) (pcT := 880) (by decide) (pcF := 852) rfl (fun _ => ?_) (fun q => absurd (show (2 : Int32) < (3 : Int32) from by decide) q)
        refine w_iload X210 hx (Jvm.hb hby at_880) rfl (pc' := 882) rfl ?_
        exact w_zreturn X210 hx Bd.returns (Or.inr rfl) (BodyLoose.notSynchronized Bd) (Nat.le_of_ble_eq_true rfl) (Nat.le_of_ble_eq_true rfl) (Jvm.hb hby at_882) ⟨rfl, by simpa using M210⟩
      · have hgx' := own_b1 hbx kb
        have hgy' := own_b1 hbY kc'
        refine w_lload X174 hx (Jvm.hb hby at_464) rfl (pc' := 466) rfl ?_
        refine w_lload X174 hx (Jvm.hb hby at_466) rfl (pc' := 468) rfl ?_
        refine w_lmul X174 hx (Jvm.hb hby at_468) (pc' := 469) rfl ?_
        refine w_lstore X174 hx (Jvm.hb hby at_469) #[.val (.long q0), .second, .val (.long q1), .second, .val (.int p2), .val (.int p3), .val (.long q4), .second, .val (.long q5), .second, .val (.long vm), .second, .val (.long kx), .second, .val (.long vk), .second, .val (.long sd), .second, .val (.long vq), .second, .val (.long lo), .second, .val (.long hi), .second, .val (.long cn), .second, .val (.long cx), .second, .val (.long cy), .second, .val (.int d1), .val (.int d2), .val (.long ax), .second, .val (.long ay), .second, .val (.long gx), .second, .val (.long gy), .second, .val (.long vs), .second, .val (.long vt), .second, .val (.long xa), .second, .val (.long ya), .second, .val (.long xb), .second, .val (.long yb), .second, .val (.long dx), .second, .val (.long dy), .second, .val (.long wc), .second, .val (.long wr), .second, .val (.int pv), .val (.int bx), .val (.int bY), .val (.int (0 : Int32)), .val (.long (0 : Int64)), .second, .val (.long (0 : Int64)), .second, .val (.long (0 : Int64)), .second, .val (.long (0 : Int64)), .second, .val (.long (gx * vt)), .second, .unset, .unset, .unset, .unset, .unset, .unset, .unset, .unset, .unset, .unset, .unset, .unset, .unset, .unset, .unset, .unset] rfl  (pc' := 471) rfl ?_
        refine w_lload X174 hx (Jvm.hb hby at_471) rfl (pc' := 473) rfl ?_
        refine w_lload X174 hx (Jvm.hb hby at_473) rfl (pc' := 475) rfl ?_
        refine w_lmul X174 hx (Jvm.hb hby at_475) (pc' := 476) rfl ?_
        refine w_lstore X174 hx (Jvm.hb hby at_476) #[.val (.long q0), .second, .val (.long q1), .second, .val (.int p2), .val (.int p3), .val (.long q4), .second, .val (.long q5), .second, .val (.long vm), .second, .val (.long kx), .second, .val (.long vk), .second, .val (.long sd), .second, .val (.long vq), .second, .val (.long lo), .second, .val (.long hi), .second, .val (.long cn), .second, .val (.long cx), .second, .val (.long cy), .second, .val (.int d1), .val (.int d2), .val (.long ax), .second, .val (.long ay), .second, .val (.long gx), .second, .val (.long gy), .second, .val (.long vs), .second, .val (.long vt), .second, .val (.long xa), .second, .val (.long ya), .second, .val (.long xb), .second, .val (.long yb), .second, .val (.long dx), .second, .val (.long dy), .second, .val (.long wc), .second, .val (.long wr), .second, .val (.int pv), .val (.int bx), .val (.int bY), .val (.int (0 : Int32)), .val (.long (0 : Int64)), .second, .val (.long (0 : Int64)), .second, .val (.long (0 : Int64)), .second, .val (.long (0 : Int64)), .second, .val (.long (gx * vt)), .second, .val (.long (gy * vs)), .second, .unset, .unset, .unset, .unset, .unset, .unset, .unset, .unset, .unset, .unset, .unset, .unset, .unset, .unset] rfl  (pc' := 478) rfl ?_
        refine w_lload X174 hx (Jvm.hb hby at_478) rfl (pc' := 480) rfl ?_
        refine w_lload X174 hx (Jvm.hb hby at_480) rfl (pc' := 482) rfl ?_
        refine w_lcmp_ge X174 hx (Jvm.hb hby at_482) (Jvm.hb hby at_483) rfl (by decide) (pcT := 517) (by decide) (pcF := 486) rfl (fun hord => ?_) (fun hord => ?_)
        · refine w_lload X174 hx (Jvm.hb hby at_517) rfl (pc' := 519) rfl ?_
          refine w_lload X174 hx (Jvm.hb hby at_519) rfl (pc' := 521) rfl ?_
          refine w_lcmp_le X174 hx (Jvm.hb hby at_521) (Jvm.hb hby at_522) rfl (by decide) (pcT := 556) (by decide) (pcF := 525) rfl (fun hord2 => ?_) (fun hord2 => ?_)
          · refine w_iconst X174 hx (2 : Int32) (Jvm.hb hby at_556) (by decide) (pc' := 557) rfl ?_
            refine w_istore X174 hx (Jvm.hb hby at_557) #[.val (.long q0), .second, .val (.long q1), .second, .val (.int p2), .val (.int p3), .val (.long q4), .second, .val (.long q5), .second, .val (.long vm), .second, .val (.long kx), .second, .val (.long vk), .second, .val (.long sd), .second, .val (.long vq), .second, .val (.long lo), .second, .val (.long hi), .second, .val (.long cn), .second, .val (.long cx), .second, .val (.long cy), .second, .val (.int d1), .val (.int d2), .val (.long ax), .second, .val (.long ay), .second, .val (.long gx), .second, .val (.long gy), .second, .val (.long vs), .second, .val (.long vt), .second, .val (.long xa), .second, .val (.long ya), .second, .val (.long xb), .second, .val (.long yb), .second, .val (.long dx), .second, .val (.long dy), .second, .val (.long wc), .second, .val (.long wr), .second, .val (.int pv), .val (.int bx), .val (.int bY), .val (.int (2 : Int32)), .val (.long (0 : Int64)), .second, .val (.long (0 : Int64)), .second, .val (.long (0 : Int64)), .second, .val (.long (0 : Int64)), .second, .val (.long (gx * vt)), .second, .val (.long (gy * vs)), .second, .unset, .unset, .unset, .unset, .unset, .unset, .unset, .unset, .unset, .unset, .unset, .unset, .unset, .unset] rfl  (pc' := 559) rfl ?_
            refine w_lload X174 hx (Jvm.hb hby at_559) rfl (pc' := 561) rfl ?_
            refine w_lload X174 hx (Jvm.hb hby at_561) rfl (pc' := 563) rfl ?_
            refine w_ladd X174 hx (Jvm.hb hby at_563) (pc' := 564) rfl ?_
            refine w_lstore X174 hx (Jvm.hb hby at_564) #[.val (.long q0), .second, .val (.long q1), .second, .val (.int p2), .val (.int p3), .val (.long q4), .second, .val (.long q5), .second, .val (.long vm), .second, .val (.long kx), .second, .val (.long vk), .second, .val (.long sd), .second, .val (.long vq), .second, .val (.long lo), .second, .val (.long hi), .second, .val (.long cn), .second, .val (.long cx), .second, .val (.long cy), .second, .val (.int d1), .val (.int d2), .val (.long ax), .second, .val (.long ay), .second, .val (.long gx), .second, .val (.long gy), .second, .val (.long vs), .second, .val (.long vt), .second, .val (.long xa), .second, .val (.long ya), .second, .val (.long xb), .second, .val (.long yb), .second, .val (.long dx), .second, .val (.long dy), .second, .val (.long wc), .second, .val (.long wr), .second, .val (.int pv), .val (.int bx), .val (.int bY), .val (.int (2 : Int32)), .val (.long (wc + dx)), .second, .val (.long (0 : Int64)), .second, .val (.long (0 : Int64)), .second, .val (.long (0 : Int64)), .second, .val (.long (gx * vt)), .second, .val (.long (gy * vs)), .second, .unset, .unset, .unset, .unset, .unset, .unset, .unset, .unset, .unset, .unset, .unset, .unset, .unset, .unset] rfl  (pc' := 566) rfl ?_
            refine w_lload X174 hx (Jvm.hb hby at_566) rfl (pc' := 568) rfl ?_
            refine w_lload X174 hx (Jvm.hb hby at_568) rfl (pc' := 570) rfl ?_
            refine w_ladd X174 hx (Jvm.hb hby at_570) (pc' := 571) rfl ?_
            refine w_lstore X174 hx (Jvm.hb hby at_571) #[.val (.long q0), .second, .val (.long q1), .second, .val (.int p2), .val (.int p3), .val (.long q4), .second, .val (.long q5), .second, .val (.long vm), .second, .val (.long kx), .second, .val (.long vk), .second, .val (.long sd), .second, .val (.long vq), .second, .val (.long lo), .second, .val (.long hi), .second, .val (.long cn), .second, .val (.long cx), .second, .val (.long cy), .second, .val (.int d1), .val (.int d2), .val (.long ax), .second, .val (.long ay), .second, .val (.long gx), .second, .val (.long gy), .second, .val (.long vs), .second, .val (.long vt), .second, .val (.long xa), .second, .val (.long ya), .second, .val (.long xb), .second, .val (.long yb), .second, .val (.long dx), .second, .val (.long dy), .second, .val (.long wc), .second, .val (.long wr), .second, .val (.int pv), .val (.int bx), .val (.int bY), .val (.int (2 : Int32)), .val (.long (wc + dx)), .second, .val (.long (wr + dy)), .second, .val (.long (0 : Int64)), .second, .val (.long (0 : Int64)), .second, .val (.long (gx * vt)), .second, .val (.long (gy * vs)), .second, .unset, .unset, .unset, .unset, .unset, .unset, .unset, .unset, .unset, .unset, .unset, .unset, .unset, .unset] rfl  (pc' := 573) rfl ?_
            refine w_goto X174 hx (Jvm.hb hby at_573) (by decide) (pc' := 623) (by decide) ?_
            refine w_new X174 hx hZ hown (hw _ (List.mem_of_getElem? (i := 22) rfl)) (hw _ (List.mem_of_getElem? (i := 23) rfl)) (hw _ (List.mem_of_getElem? (i := 24) rfl)) e174 (Jvm.hb hby at_623) (by decide) (by decide) (pc' := 626) rfl ?_
            intro T211 h211 a211 g211 X211 e211 E211 A211 D211
            have G211_side : Fld Z h211 a211 "com/example/sarutahiko/sarutahiko/lattice/SegmentWalk" "side" "J" (.long (0 : Int64)) := D211 (Or.inr (hw _ (List.mem_of_getElem? (i := 42) rfl))) (ty := .long) (by decide)
            have G211_spanX : Fld Z h211 a211 "com/example/sarutahiko/sarutahiko/lattice/SegmentWalk" "spanX" "J" (.long (0 : Int64)) := D211 (Or.inr (hw _ (List.mem_of_getElem? (i := 47) rfl))) (ty := .long) (by decide)
            have G211_spanY : Fld Z h211 a211 "com/example/sarutahiko/sarutahiko/lattice/SegmentWalk" "spanY" "J" (.long (0 : Int64)) := D211 (Or.inr (hw _ (List.mem_of_getElem? (i := 49) rfl))) (ty := .long) (by decide)
            have G211_stepColumn : Fld Z h211 a211 "com/example/sarutahiko/sarutahiko/lattice/SegmentWalk" "stepColumn" "I" (.int (0 : Int32)) := D211 (Or.inr (hw _ (List.mem_of_getElem? (i := 51) rfl))) (ty := .int) (by decide)
            have G211_stepRow : Fld Z h211 a211 "com/example/sarutahiko/sarutahiko/lattice/SegmentWalk" "stepRow" "I" (.int (0 : Int32)) := D211 (Or.inr (hw _ (List.mem_of_getElem? (i := 53) rfl))) (ty := .int) (by decide)
            have G211_passes : Fld Z h211 a211 "com/example/sarutahiko/sarutahiko/lattice/SegmentWalk" "passes" "Z" (.int (0 : Int32)) := D211 (Or.inr (hw _ (List.mem_of_getElem? (i := 63) rfl))) (ty := .boolean) (by decide)
            have G211_column : Fld Z h211 a211 "com/example/sarutahiko/sarutahiko/lattice/SegmentWalk" "column" "I" (.int (0 : Int32)) := D211 (Or.inl (hw _ (List.mem_of_getElem? (i := 59) rfl))) (ty := .int) (by decide)
            have G211_row : Fld Z h211 a211 "com/example/sarutahiko/sarutahiko/lattice/SegmentWalk" "row" "I" (.int (0 : Int32)) := D211 (Or.inl (hw _ (List.mem_of_getElem? (i := 61) rfl))) (ty := .int) (by decide)
            have G211_toColumnLine : Fld Z h211 a211 "com/example/sarutahiko/sarutahiko/lattice/SegmentWalk" "toColumnLine" "J" (.long (0 : Int64)) := D211 (Or.inl (hw _ (List.mem_of_getElem? (i := 55) rfl))) (ty := .long) (by decide)
            have G211_toRowLine : Fld Z h211 a211 "com/example/sarutahiko/sarutahiko/lattice/SegmentWalk" "toRowLine" "J" (.long (0 : Int64)) := D211 (Or.inl (hw _ (List.mem_of_getElem? (i := 57) rfl))) (ty := .long) (by decide)
            have G211_started : Fld Z h211 a211 "com/example/sarutahiko/sarutahiko/lattice/SegmentWalk" "started" "Z" (.int (0 : Int32)) := D211 (Or.inl (hw _ (List.mem_of_getElem? (i := 70) rfl))) (ty := .boolean) (by decide)
            have GA : n0 ≤ a211 := Nat.le_trans Z0 (Nat.le_of_eq g211.symm)
            have OO : SWo Z h211 a211 (0 : Int64) (0 : Int64) (0 : Int64) (0 : Int32) (0 : Int32) (0 : Int32) (0 : Int32) (0 : Int32) (0 : Int64) (0 : Int64) (0 : Int32) := ⟨G211_side, G211_spanX, G211_spanY, G211_stepColumn, G211_stepRow, G211_passes, G211_column, G211_row, G211_toColumnLine, G211_toRowLine, G211_started, A211⟩
            refine w_dup X211 hx (Jvm.hb hby at_626) rfl (pc' := 627) rfl ?_
            refine w_lload X211 hx (Jvm.hb hby at_627) rfl (pc' := 629) rfl ?_
            refine w_lload X211 hx (Jvm.hb hby at_629) rfl (pc' := 631) rfl ?_
            refine w_lload X211 hx (Jvm.hb hby at_631) rfl (pc' := 633) rfl ?_
            refine w_lload X211 hx (Jvm.hb hby at_633) rfl (pc' := 635) rfl ?_
            refine w_lload X211 hx (Jvm.hb hby at_635) rfl (pc' := 637) rfl ?_
            refine w_callN X211 hx hZ rfl hown (hw _ (List.mem_of_getElem? (i := 25) rfl)) (hw _ (List.mem_of_getElem? (i := 26) rfl)) (hw _ (List.mem_of_getElem? (i := 24) rfl)) (hw _ (List.mem_of_getElem? (i := 27) rfl)) (by decide) (W := 1) (rm5 l Z aw hw [] a211 xa ya xb yb sd spx spy scx scy Xp Yp ccx ccy tcx tcy clx rwy pv h211 n0 GA OO (q_nz (by have := Bs.2.1; omega)) (j_lt.mpr (by rw [j0]; have := Bs.2.1; omega)) (fun z => by have h9 := j_lt.mp z; rw [show (2305843009213693952 : Int64).toInt = 2305843009213693952 from by decide] at h9; have := Bs.2.2; omega) AX.2.2.2.2.2.2.1 AY.2.2.2.2.2.2.1 AX.2.2.2.2.2.2.2.1 AY.2.2.2.2.2.2.2.1 AX.1 AY.1 AX.2.1 AY.2.1 AX.2.2.1 AY.2.2.1 AX.2.2.2.1 AY.2.2.2.1 AX.2.2.2.2.1 AY.2.2.2.2.1 AX.2.2.2.2.2.1 AY.2.2.2.2.2.1 hpsw) e211 (by decide) (by decide) (by decide) (by decide) (Jvm.hb hby at_637) (by rw [hml]; rfl) (a := a211) (argsL := [(.long xa), (.long ya), (.long xb), (.long yb), (.long sd)]) (rest := [(.ref a211)]) pd_6 rfl rfl rfl (Nat.le_of_eq rfl) (pc' := 640) rfl ?_
            rintro _ T212 L212 X212 ⟨rfl, N212, K212, O212⟩
            show Ow p e below s _ _ _ (T212.setTop (mkF m 640 #[.val (.long q0), .second, .val (.long q1), .second, .val (.int p2), .val (.int p3), .val (.long q4), .second, .val (.long q5), .second, .val (.long vm), .second, .val (.long kx), .second, .val (.long vk), .second, .val (.long sd), .second, .val (.long vq), .second, .val (.long lo), .second, .val (.long hi), .second, .val (.long cn), .second, .val (.long cx), .second, .val (.long cy), .second, .val (.int d1), .val (.int d2), .val (.long ax), .second, .val (.long ay), .second, .val (.long gx), .second, .val (.long gy), .second, .val (.long vs), .second, .val (.long vt), .second, .val (.long xa), .second, .val (.long ya), .second, .val (.long xb), .second, .val (.long yb), .second, .val (.long dx), .second, .val (.long dy), .second, .val (.long wc), .second, .val (.long wr), .second, .val (.int pv), .val (.int bx), .val (.int bY), .val (.int (2 : Int32)), .val (.long (wc + dx)), .second, .val (.long (wr + dy)), .second, .val (.long (0 : Int64)), .second, .val (.long (0 : Int64)), .second, .val (.long (gx * vt)), .second, .val (.long (gy * vs)), .second, .unset, .unset, .unset, .unset, .unset, .unset, .unset, .unset, .unset, .unset, .unset, .unset, .unset, .unset] [(.ref a211)]))
            have M212 := Fr.app NB N212
            refine w_astore X212 hx (Jvm.hb hby at_640) #[.val (.long q0), .second, .val (.long q1), .second, .val (.int p2), .val (.int p3), .val (.long q4), .second, .val (.long q5), .second, .val (.long vm), .second, .val (.long kx), .second, .val (.long vk), .second, .val (.long sd), .second, .val (.long vq), .second, .val (.long lo), .second, .val (.long hi), .second, .val (.long cn), .second, .val (.long cx), .second, .val (.long cy), .second, .val (.int d1), .val (.int d2), .val (.long ax), .second, .val (.long ay), .second, .val (.long gx), .second, .val (.long gy), .second, .val (.long vs), .second, .val (.long vt), .second, .val (.long xa), .second, .val (.long ya), .second, .val (.long xb), .second, .val (.long yb), .second, .val (.long dx), .second, .val (.long dy), .second, .val (.long wc), .second, .val (.long wr), .second, .val (.int pv), .val (.int bx), .val (.int bY), .val (.int (2 : Int32)), .val (.long (wc + dx)), .second, .val (.long (wr + dy)), .second, .val (.long (0 : Int64)), .second, .val (.long (0 : Int64)), .second, .val (.ref a211), .unset, .val (.long (gy * vs)), .second, .unset, .unset, .unset, .unset, .unset, .unset, .unset, .unset, .unset, .unset, .unset, .unset, .unset, .unset] rfl rfl (pc' := 642) rfl ?_
            refine w_aload X212 hx (Jvm.hb hby at_642) rfl rfl (pc' := 644) rfl ?_
            refine w_callV X212 hx hZ hown (hw _ (List.mem_of_getElem? (i := 64) rfl)) (hw _ (List.mem_of_getElem? (i := 65) rfl)) (notFace_of_selects (args := #[]) (mvT hZ (hw _ (List.mem_of_getElem? (i := 67) rfl)))) (hw _ (List.mem_of_getElem? (i := 67) rfl)) (hw _ (List.mem_of_getElem? (i := 66) rfl)) (hw _ (List.mem_of_getElem? (i := 24) rfl)) (hw _ (List.mem_of_getElem? (i := 68) rfl)) (by decide) (W := 0) (rmN_first l Z aw hw [] a211 sd spx spy scx scy pv clx rwy tcx tcy T212.heap n0 GA O212 (own_p01 hpas)) rfl (by decide) (by decide) (by decide) (by decide) (O212.2.2.2.2.2.2.2.2.2.2.2) (Jvm.hb hby at_644) (by rw [hml]; rfl) (argsL := []) (rest := []) pd_7 rfl rfl rfl (Nat.le_of_eq rfl) (pc' := 647) rfl ?_
            rintro _ T213 L213 X213 ⟨rfl, N213, K213, O213⟩
            show Ow p e below s _ _ _ (T213.setTop (mkF m 647 #[.val (.long q0), .second, .val (.long q1), .second, .val (.int p2), .val (.int p3), .val (.long q4), .second, .val (.long q5), .second, .val (.long vm), .second, .val (.long kx), .second, .val (.long vk), .second, .val (.long sd), .second, .val (.long vq), .second, .val (.long lo), .second, .val (.long hi), .second, .val (.long cn), .second, .val (.long cx), .second, .val (.long cy), .second, .val (.int d1), .val (.int d2), .val (.long ax), .second, .val (.long ay), .second, .val (.long gx), .second, .val (.long gy), .second, .val (.long vs), .second, .val (.long vt), .second, .val (.long xa), .second, .val (.long ya), .second, .val (.long xb), .second, .val (.long yb), .second, .val (.long dx), .second, .val (.long dy), .second, .val (.long wc), .second, .val (.long wr), .second, .val (.int pv), .val (.int bx), .val (.int bY), .val (.int (2 : Int32)), .val (.long (wc + dx)), .second, .val (.long (wr + dy)), .second, .val (.long (0 : Int64)), .second, .val (.long (0 : Int64)), .second, .val (.ref a211), .unset, .val (.long (gy * vs)), .second, .unset, .unset, .unset, .unset, .unset, .unset, .unset, .unset, .unset, .unset, .unset, .unset, .unset, .unset] [(.int pv)]))
            have M213 := Fr.app M212 N213
            refine w_istore X213 hx (Jvm.hb hby at_647) #[.val (.long q0), .second, .val (.long q1), .second, .val (.int p2), .val (.int p3), .val (.long q4), .second, .val (.long q5), .second, .val (.long vm), .second, .val (.long kx), .second, .val (.long vk), .second, .val (.long sd), .second, .val (.long vq), .second, .val (.long lo), .second, .val (.long hi), .second, .val (.long cn), .second, .val (.long cx), .second, .val (.long cy), .second, .val (.int d1), .val (.int d2), .val (.long ax), .second, .val (.long ay), .second, .val (.long gx), .second, .val (.long gy), .second, .val (.long vs), .second, .val (.long vt), .second, .val (.long xa), .second, .val (.long ya), .second, .val (.long xb), .second, .val (.long yb), .second, .val (.long dx), .second, .val (.long dy), .second, .val (.long wc), .second, .val (.long wr), .second, .val (.int pv), .val (.int bx), .val (.int bY), .val (.int (2 : Int32)), .val (.long (wc + dx)), .second, .val (.long (wr + dy)), .second, .val (.long (0 : Int64)), .second, .val (.long (0 : Int64)), .second, .val (.ref a211), .val (.int pv), .val (.long (gy * vs)), .second, .unset, .unset, .unset, .unset, .unset, .unset, .unset, .unset, .unset, .unset, .unset, .unset, .unset, .unset] rfl  (pc' := 649) rfl ?_
            refine w_aload X213 hx (Jvm.hb hby at_649) rfl rfl (pc' := 651) rfl ?_
            refine w_callV X213 hx hZ hown (hw _ (List.mem_of_getElem? (i := 71) rfl)) (hw _ (List.mem_of_getElem? (i := 72) rfl)) (notFace_of_selects (args := #[]) (mvT hZ (hw _ (List.mem_of_getElem? (i := 74) rfl)))) (hw _ (List.mem_of_getElem? (i := 74) rfl)) (hw _ (List.mem_of_getElem? (i := 73) rfl)) (hw _ (List.mem_of_getElem? (i := 24) rfl)) (hw _ (List.mem_of_getElem? (i := 75) rfl)) (by decide) (W := 0) (rm11 l Z aw hw [] a211 clx T213.heap (O213.2.2.2.2.2.2.1)) rfl (by decide) (by decide) (by decide) (by decide) (O213.2.2.2.2.2.2.2.2.2.2.2) (Jvm.hb hby at_651) (by rw [hml]; rfl) (argsL := []) (rest := []) pd_8 rfl rfl rfl (Nat.le_of_eq rfl) (pc' := 654) rfl ?_
            rintro _ T214 L214 X214 ⟨rfl, e214, rfl⟩
            show Ow p e below s _ _ _ (T214.setTop (mkF m 654 #[.val (.long q0), .second, .val (.long q1), .second, .val (.int p2), .val (.int p3), .val (.long q4), .second, .val (.long q5), .second, .val (.long vm), .second, .val (.long kx), .second, .val (.long vk), .second, .val (.long sd), .second, .val (.long vq), .second, .val (.long lo), .second, .val (.long hi), .second, .val (.long cn), .second, .val (.long cx), .second, .val (.long cy), .second, .val (.int d1), .val (.int d2), .val (.long ax), .second, .val (.long ay), .second, .val (.long gx), .second, .val (.long gy), .second, .val (.long vs), .second, .val (.long vt), .second, .val (.long xa), .second, .val (.long ya), .second, .val (.long xb), .second, .val (.long yb), .second, .val (.long dx), .second, .val (.long dy), .second, .val (.long wc), .second, .val (.long wr), .second, .val (.int pv), .val (.int bx), .val (.int bY), .val (.int (2 : Int32)), .val (.long (wc + dx)), .second, .val (.long (wr + dy)), .second, .val (.long (0 : Int64)), .second, .val (.long (0 : Int64)), .second, .val (.ref a211), .val (.int pv), .val (.long (gy * vs)), .second, .unset, .unset, .unset, .unset, .unset, .unset, .unset, .unset, .unset, .unset, .unset, .unset, .unset, .unset] [(.int clx)]))
            have M214 := Fr.app M213 (Fr.nil n0)
            refine w_i2l X214 hx (Jvm.hb hby at_654) (pc' := 655) rfl ?_
            refine w_lstore X214 hx (Jvm.hb hby at_655) #[.val (.long q0), .second, .val (.long q1), .second, .val (.int p2), .val (.int p3), .val (.long q4), .second, .val (.long q5), .second, .val (.long vm), .second, .val (.long kx), .second, .val (.long vk), .second, .val (.long sd), .second, .val (.long vq), .second, .val (.long lo), .second, .val (.long hi), .second, .val (.long cn), .second, .val (.long cx), .second, .val (.long cy), .second, .val (.int d1), .val (.int d2), .val (.long ax), .second, .val (.long ay), .second, .val (.long gx), .second, .val (.long gy), .second, .val (.long vs), .second, .val (.long vt), .second, .val (.long xa), .second, .val (.long ya), .second, .val (.long xb), .second, .val (.long yb), .second, .val (.long dx), .second, .val (.long dy), .second, .val (.long wc), .second, .val (.long wr), .second, .val (.int pv), .val (.int bx), .val (.int bY), .val (.int (2 : Int32)), .val (.long (wc + dx)), .second, .val (.long (wr + dy)), .second, .val (.long (0 : Int64)), .second, .val (.long (0 : Int64)), .second, .val (.ref a211), .val (.int pv), .val (.long (clx.toInt64)), .second, .unset, .unset, .unset, .unset, .unset, .unset, .unset, .unset, .unset, .unset, .unset, .unset, .unset, .unset] rfl  (pc' := 657) rfl ?_
            refine w_aload X214 hx (Jvm.hb hby at_657) rfl rfl (pc' := 659) rfl ?_
            refine w_callV X214 hx hZ hown (hw _ (List.mem_of_getElem? (i := 76) rfl)) (hw _ (List.mem_of_getElem? (i := 77) rfl)) (notFace_of_selects (args := #[]) (mvT hZ (hw _ (List.mem_of_getElem? (i := 79) rfl)))) (hw _ (List.mem_of_getElem? (i := 79) rfl)) (hw _ (List.mem_of_getElem? (i := 78) rfl)) (hw _ (List.mem_of_getElem? (i := 24) rfl)) (hw _ (List.mem_of_getElem? (i := 80) rfl)) (by decide) (W := 0) (rm12 l Z aw hw [] a211 rwy T213.heap (O213.2.2.2.2.2.2.2.1)) e214 (by decide) (by decide) (by decide) (by decide) (O213.2.2.2.2.2.2.2.2.2.2.2) (Jvm.hb hby at_659) (by rw [hml]; rfl) (argsL := []) (rest := []) pd_8 rfl rfl rfl (Nat.le_of_eq rfl) (pc' := 662) rfl ?_
            rintro _ T215 L215 X215 ⟨rfl, e215, rfl⟩
            show Ow p e below s _ _ _ (T215.setTop (mkF m 662 #[.val (.long q0), .second, .val (.long q1), .second, .val (.int p2), .val (.int p3), .val (.long q4), .second, .val (.long q5), .second, .val (.long vm), .second, .val (.long kx), .second, .val (.long vk), .second, .val (.long sd), .second, .val (.long vq), .second, .val (.long lo), .second, .val (.long hi), .second, .val (.long cn), .second, .val (.long cx), .second, .val (.long cy), .second, .val (.int d1), .val (.int d2), .val (.long ax), .second, .val (.long ay), .second, .val (.long gx), .second, .val (.long gy), .second, .val (.long vs), .second, .val (.long vt), .second, .val (.long xa), .second, .val (.long ya), .second, .val (.long xb), .second, .val (.long yb), .second, .val (.long dx), .second, .val (.long dy), .second, .val (.long wc), .second, .val (.long wr), .second, .val (.int pv), .val (.int bx), .val (.int bY), .val (.int (2 : Int32)), .val (.long (wc + dx)), .second, .val (.long (wr + dy)), .second, .val (.long (0 : Int64)), .second, .val (.long (0 : Int64)), .second, .val (.ref a211), .val (.int pv), .val (.long (clx.toInt64)), .second, .unset, .unset, .unset, .unset, .unset, .unset, .unset, .unset, .unset, .unset, .unset, .unset, .unset, .unset] [(.int rwy)]))
            have M215 := Fr.app M214 (Fr.nil n0)
            refine w_i2l X215 hx (Jvm.hb hby at_662) (pc' := 663) rfl ?_
            refine w_lstore X215 hx (Jvm.hb hby at_663) #[.val (.long q0), .second, .val (.long q1), .second, .val (.int p2), .val (.int p3), .val (.long q4), .second, .val (.long q5), .second, .val (.long vm), .second, .val (.long kx), .second, .val (.long vk), .second, .val (.long sd), .second, .val (.long vq), .second, .val (.long lo), .second, .val (.long hi), .second, .val (.long cn), .second, .val (.long cx), .second, .val (.long cy), .second, .val (.int d1), .val (.int d2), .val (.long ax), .second, .val (.long ay), .second, .val (.long gx), .second, .val (.long gy), .second, .val (.long vs), .second, .val (.long vt), .second, .val (.long xa), .second, .val (.long ya), .second, .val (.long xb), .second, .val (.long yb), .second, .val (.long dx), .second, .val (.long dy), .second, .val (.long wc), .second, .val (.long wr), .second, .val (.int pv), .val (.int bx), .val (.int bY), .val (.int (2 : Int32)), .val (.long (wc + dx)), .second, .val (.long (wr + dy)), .second, .val (.long (0 : Int64)), .second, .val (.long (0 : Int64)), .second, .val (.ref a211), .val (.int pv), .val (.long (clx.toInt64)), .second, .val (.long (rwy.toInt64)), .second, .unset, .unset, .unset, .unset, .unset, .unset, .unset, .unset, .unset, .unset, .unset, .unset] rfl  (pc' := 665) rfl ?_
            refine w_aload X215 hx (Jvm.hb hby at_665) rfl rfl (pc' := 667) rfl ?_
            refine w_callV X215 hx hZ hown (hw _ (List.mem_of_getElem? (i := 64) rfl)) (hw _ (List.mem_of_getElem? (i := 65) rfl)) (notFace_of_selects (args := #[]) (mvT hZ (hw _ (List.mem_of_getElem? (i := 67) rfl)))) (hw _ (List.mem_of_getElem? (i := 67) rfl)) (hw _ (List.mem_of_getElem? (i := 66) rfl)) (hw _ (List.mem_of_getElem? (i := 24) rfl)) (hw _ (List.mem_of_getElem? (i := 68) rfl)) (by decide) (W := 0) (rmN_eq l Z aw hw [] a211 sd spx spy scx scy pv clx rwy tcx tcy T213.heap n0 GA O213 hp1.1 (own_c HX AX hgx').1 (own_c HY AY hgy').1 ((own_cps HX AX HY AY hgx' hgy').2.1 hord hord2)) e215 (by decide) (by decide) (by decide) (by decide) (O213.2.2.2.2.2.2.2.2.2.2.2) (Jvm.hb hby at_667) (by rw [hml]; rfl) (argsL := []) (rest := []) pd_7 rfl rfl rfl (Nat.le_of_eq rfl) (pc' := 670) rfl ?_
            rintro _ T216 L216 X216 ⟨rfl, N216, K216, O216⟩
            show Ow p e below s _ _ _ (T216.setTop (mkF m 670 #[.val (.long q0), .second, .val (.long q1), .second, .val (.int p2), .val (.int p3), .val (.long q4), .second, .val (.long q5), .second, .val (.long vm), .second, .val (.long kx), .second, .val (.long vk), .second, .val (.long sd), .second, .val (.long vq), .second, .val (.long lo), .second, .val (.long hi), .second, .val (.long cn), .second, .val (.long cx), .second, .val (.long cy), .second, .val (.int d1), .val (.int d2), .val (.long ax), .second, .val (.long ay), .second, .val (.long gx), .second, .val (.long gy), .second, .val (.long vs), .second, .val (.long vt), .second, .val (.long xa), .second, .val (.long ya), .second, .val (.long xb), .second, .val (.long yb), .second, .val (.long dx), .second, .val (.long dy), .second, .val (.long wc), .second, .val (.long wr), .second, .val (.int pv), .val (.int bx), .val (.int bY), .val (.int (2 : Int32)), .val (.long (wc + dx)), .second, .val (.long (wr + dy)), .second, .val (.long (0 : Int64)), .second, .val (.long (0 : Int64)), .second, .val (.ref a211), .val (.int pv), .val (.long (clx.toInt64)), .second, .val (.long (rwy.toInt64)), .second, .unset, .unset, .unset, .unset, .unset, .unset, .unset, .unset, .unset, .unset, .unset, .unset] [(.int (1 : Int32))]))
            have M216 := Fr.app M215 N216
            refine w_istore X216 hx (Jvm.hb hby at_670) #[.val (.long q0), .second, .val (.long q1), .second, .val (.int p2), .val (.int p3), .val (.long q4), .second, .val (.long q5), .second, .val (.long vm), .second, .val (.long kx), .second, .val (.long vk), .second, .val (.long sd), .second, .val (.long vq), .second, .val (.long lo), .second, .val (.long hi), .second, .val (.long cn), .second, .val (.long cx), .second, .val (.long cy), .second, .val (.int d1), .val (.int d2), .val (.long ax), .second, .val (.long ay), .second, .val (.long gx), .second, .val (.long gy), .second, .val (.long vs), .second, .val (.long vt), .second, .val (.long xa), .second, .val (.long ya), .second, .val (.long xb), .second, .val (.long yb), .second, .val (.long dx), .second, .val (.long dy), .second, .val (.long wc), .second, .val (.long wr), .second, .val (.int pv), .val (.int bx), .val (.int bY), .val (.int (2 : Int32)), .val (.long (wc + dx)), .second, .val (.long (wr + dy)), .second, .val (.long (0 : Int64)), .second, .val (.long (0 : Int64)), .second, .val (.ref a211), .val (.int pv), .val (.long (clx.toInt64)), .second, .val (.long (rwy.toInt64)), .second, .val (.int (1 : Int32)), .unset, .unset, .unset, .unset, .unset, .unset, .unset, .unset, .unset, .unset, .unset] rfl  (pc' := 672) rfl ?_
            refine w_aload X216 hx (Jvm.hb hby at_672) rfl rfl (pc' := 674) rfl ?_
            refine w_callV X216 hx hZ hown (hw _ (List.mem_of_getElem? (i := 71) rfl)) (hw _ (List.mem_of_getElem? (i := 72) rfl)) (notFace_of_selects (args := #[]) (mvT hZ (hw _ (List.mem_of_getElem? (i := 74) rfl)))) (hw _ (List.mem_of_getElem? (i := 74) rfl)) (hw _ (List.mem_of_getElem? (i := 73) rfl)) (hw _ (List.mem_of_getElem? (i := 24) rfl)) (hw _ (List.mem_of_getElem? (i := 75) rfl)) (by decide) (W := 0) (rm11 l Z aw hw [] a211 (clx + scx) T216.heap (O216.2.2.2.2.2.2.1)) rfl (by decide) (by decide) (by decide) (by decide) (O216.2.2.2.2.2.2.2.2.2.2.2) (Jvm.hb hby at_674) (by rw [hml]; rfl) (argsL := []) (rest := []) pd_8 rfl rfl rfl (Nat.le_of_eq rfl) (pc' := 677) rfl ?_
            rintro _ T217 L217 X217 ⟨rfl, e217, rfl⟩
            show Ow p e below s _ _ _ (T217.setTop (mkF m 677 #[.val (.long q0), .second, .val (.long q1), .second, .val (.int p2), .val (.int p3), .val (.long q4), .second, .val (.long q5), .second, .val (.long vm), .second, .val (.long kx), .second, .val (.long vk), .second, .val (.long sd), .second, .val (.long vq), .second, .val (.long lo), .second, .val (.long hi), .second, .val (.long cn), .second, .val (.long cx), .second, .val (.long cy), .second, .val (.int d1), .val (.int d2), .val (.long ax), .second, .val (.long ay), .second, .val (.long gx), .second, .val (.long gy), .second, .val (.long vs), .second, .val (.long vt), .second, .val (.long xa), .second, .val (.long ya), .second, .val (.long xb), .second, .val (.long yb), .second, .val (.long dx), .second, .val (.long dy), .second, .val (.long wc), .second, .val (.long wr), .second, .val (.int pv), .val (.int bx), .val (.int bY), .val (.int (2 : Int32)), .val (.long (wc + dx)), .second, .val (.long (wr + dy)), .second, .val (.long (0 : Int64)), .second, .val (.long (0 : Int64)), .second, .val (.ref a211), .val (.int pv), .val (.long (clx.toInt64)), .second, .val (.long (rwy.toInt64)), .second, .val (.int (1 : Int32)), .unset, .unset, .unset, .unset, .unset, .unset, .unset, .unset, .unset, .unset, .unset] [(.int (clx + scx))]))
            have M217 := Fr.app M216 (Fr.nil n0)
            refine w_i2l X217 hx (Jvm.hb hby at_677) (pc' := 678) rfl ?_
            refine w_lstore X217 hx (Jvm.hb hby at_678) #[.val (.long q0), .second, .val (.long q1), .second, .val (.int p2), .val (.int p3), .val (.long q4), .second, .val (.long q5), .second, .val (.long vm), .second, .val (.long kx), .second, .val (.long vk), .second, .val (.long sd), .second, .val (.long vq), .second, .val (.long lo), .second, .val (.long hi), .second, .val (.long cn), .second, .val (.long cx), .second, .val (.long cy), .second, .val (.int d1), .val (.int d2), .val (.long ax), .second, .val (.long ay), .second, .val (.long gx), .second, .val (.long gy), .second, .val (.long vs), .second, .val (.long vt), .second, .val (.long xa), .second, .val (.long ya), .second, .val (.long xb), .second, .val (.long yb), .second, .val (.long dx), .second, .val (.long dy), .second, .val (.long wc), .second, .val (.long wr), .second, .val (.int pv), .val (.int bx), .val (.int bY), .val (.int (2 : Int32)), .val (.long (wc + dx)), .second, .val (.long (wr + dy)), .second, .val (.long (0 : Int64)), .second, .val (.long (0 : Int64)), .second, .val (.ref a211), .val (.int pv), .val (.long (clx.toInt64)), .second, .val (.long (rwy.toInt64)), .second, .val (.int (1 : Int32)), .val (.long ((clx + scx).toInt64)), .second, .unset, .unset, .unset, .unset, .unset, .unset, .unset, .unset, .unset] rfl  (pc' := 680) rfl ?_
            refine w_aload X217 hx (Jvm.hb hby at_680) rfl rfl (pc' := 682) rfl ?_
            refine w_callV X217 hx hZ hown (hw _ (List.mem_of_getElem? (i := 76) rfl)) (hw _ (List.mem_of_getElem? (i := 77) rfl)) (notFace_of_selects (args := #[]) (mvT hZ (hw _ (List.mem_of_getElem? (i := 79) rfl)))) (hw _ (List.mem_of_getElem? (i := 79) rfl)) (hw _ (List.mem_of_getElem? (i := 78) rfl)) (hw _ (List.mem_of_getElem? (i := 24) rfl)) (hw _ (List.mem_of_getElem? (i := 80) rfl)) (by decide) (W := 0) (rm12 l Z aw hw [] a211 (rwy + scy) T216.heap (O216.2.2.2.2.2.2.2.1)) e217 (by decide) (by decide) (by decide) (by decide) (O216.2.2.2.2.2.2.2.2.2.2.2) (Jvm.hb hby at_682) (by rw [hml]; rfl) (argsL := []) (rest := []) pd_8 rfl rfl rfl (Nat.le_of_eq rfl) (pc' := 685) rfl ?_
            rintro _ T218 L218 X218 ⟨rfl, e218, rfl⟩
            show Ow p e below s _ _ _ (T218.setTop (mkF m 685 #[.val (.long q0), .second, .val (.long q1), .second, .val (.int p2), .val (.int p3), .val (.long q4), .second, .val (.long q5), .second, .val (.long vm), .second, .val (.long kx), .second, .val (.long vk), .second, .val (.long sd), .second, .val (.long vq), .second, .val (.long lo), .second, .val (.long hi), .second, .val (.long cn), .second, .val (.long cx), .second, .val (.long cy), .second, .val (.int d1), .val (.int d2), .val (.long ax), .second, .val (.long ay), .second, .val (.long gx), .second, .val (.long gy), .second, .val (.long vs), .second, .val (.long vt), .second, .val (.long xa), .second, .val (.long ya), .second, .val (.long xb), .second, .val (.long yb), .second, .val (.long dx), .second, .val (.long dy), .second, .val (.long wc), .second, .val (.long wr), .second, .val (.int pv), .val (.int bx), .val (.int bY), .val (.int (2 : Int32)), .val (.long (wc + dx)), .second, .val (.long (wr + dy)), .second, .val (.long (0 : Int64)), .second, .val (.long (0 : Int64)), .second, .val (.ref a211), .val (.int pv), .val (.long (clx.toInt64)), .second, .val (.long (rwy.toInt64)), .second, .val (.int (1 : Int32)), .val (.long ((clx + scx).toInt64)), .second, .unset, .unset, .unset, .unset, .unset, .unset, .unset, .unset, .unset] [(.int (rwy + scy))]))
            have M218 := Fr.app M217 (Fr.nil n0)
            refine w_i2l X218 hx (Jvm.hb hby at_685) (pc' := 686) rfl ?_
            refine w_lstore X218 hx (Jvm.hb hby at_686) #[.val (.long q0), .second, .val (.long q1), .second, .val (.int p2), .val (.int p3), .val (.long q4), .second, .val (.long q5), .second, .val (.long vm), .second, .val (.long kx), .second, .val (.long vk), .second, .val (.long sd), .second, .val (.long vq), .second, .val (.long lo), .second, .val (.long hi), .second, .val (.long cn), .second, .val (.long cx), .second, .val (.long cy), .second, .val (.int d1), .val (.int d2), .val (.long ax), .second, .val (.long ay), .second, .val (.long gx), .second, .val (.long gy), .second, .val (.long vs), .second, .val (.long vt), .second, .val (.long xa), .second, .val (.long ya), .second, .val (.long xb), .second, .val (.long yb), .second, .val (.long dx), .second, .val (.long dy), .second, .val (.long wc), .second, .val (.long wr), .second, .val (.int pv), .val (.int bx), .val (.int bY), .val (.int (2 : Int32)), .val (.long (wc + dx)), .second, .val (.long (wr + dy)), .second, .val (.long (0 : Int64)), .second, .val (.long (0 : Int64)), .second, .val (.ref a211), .val (.int pv), .val (.long (clx.toInt64)), .second, .val (.long (rwy.toInt64)), .second, .val (.int (1 : Int32)), .val (.long ((clx + scx).toInt64)), .second, .val (.long ((rwy + scy).toInt64)), .second, .unset, .unset, .unset, .unset, .unset, .unset, .unset] rfl  (pc' := 688) rfl ?_
            refine w_aload X218 hx (Jvm.hb hby at_688) rfl rfl (pc' := 690) rfl ?_
            refine w_callV X218 hx hZ hown (hw _ (List.mem_of_getElem? (i := 64) rfl)) (hw _ (List.mem_of_getElem? (i := 65) rfl)) (notFace_of_selects (args := #[]) (mvT hZ (hw _ (List.mem_of_getElem? (i := 67) rfl)))) (hw _ (List.mem_of_getElem? (i := 67) rfl)) (hw _ (List.mem_of_getElem? (i := 66) rfl)) (hw _ (List.mem_of_getElem? (i := 24) rfl)) (hw _ (List.mem_of_getElem? (i := 68) rfl)) (by decide) (W := 0) (rmN_stop l Z aw hw [] a211 sd spx spy scx scy pv (clx + scx) (rwy + scy) (tcx + sd) (tcy + sd) T216.heap n0 GA O216 hp1.1 (own_c HX AX hgx').2.1 (own_c HY AY hgy').2.1) e218 (by decide) (by decide) (by decide) (by decide) (O216.2.2.2.2.2.2.2.2.2.2.2) (Jvm.hb hby at_690) (by rw [hml]; rfl) (argsL := []) (rest := []) pd_7 rfl rfl rfl (Nat.le_of_eq rfl) (pc' := 693) rfl ?_
            rintro _ T219 L219 X219 ⟨rfl, N219, K219, O219⟩
            show Ow p e below s _ _ _ (T219.setTop (mkF m 693 #[.val (.long q0), .second, .val (.long q1), .second, .val (.int p2), .val (.int p3), .val (.long q4), .second, .val (.long q5), .second, .val (.long vm), .second, .val (.long kx), .second, .val (.long vk), .second, .val (.long sd), .second, .val (.long vq), .second, .val (.long lo), .second, .val (.long hi), .second, .val (.long cn), .second, .val (.long cx), .second, .val (.long cy), .second, .val (.int d1), .val (.int d2), .val (.long ax), .second, .val (.long ay), .second, .val (.long gx), .second, .val (.long gy), .second, .val (.long vs), .second, .val (.long vt), .second, .val (.long xa), .second, .val (.long ya), .second, .val (.long xb), .second, .val (.long yb), .second, .val (.long dx), .second, .val (.long dy), .second, .val (.long wc), .second, .val (.long wr), .second, .val (.int pv), .val (.int bx), .val (.int bY), .val (.int (2 : Int32)), .val (.long (wc + dx)), .second, .val (.long (wr + dy)), .second, .val (.long (0 : Int64)), .second, .val (.long (0 : Int64)), .second, .val (.ref a211), .val (.int pv), .val (.long (clx.toInt64)), .second, .val (.long (rwy.toInt64)), .second, .val (.int (1 : Int32)), .val (.long ((clx + scx).toInt64)), .second, .val (.long ((rwy + scy).toInt64)), .second, .unset, .unset, .unset, .unset, .unset, .unset, .unset] [(.int (0 : Int32))]))
            have M219 := Fr.app M218 N219
            refine w_istore X219 hx (Jvm.hb hby at_693) #[.val (.long q0), .second, .val (.long q1), .second, .val (.int p2), .val (.int p3), .val (.long q4), .second, .val (.long q5), .second, .val (.long vm), .second, .val (.long kx), .second, .val (.long vk), .second, .val (.long sd), .second, .val (.long vq), .second, .val (.long lo), .second, .val (.long hi), .second, .val (.long cn), .second, .val (.long cx), .second, .val (.long cy), .second, .val (.int d1), .val (.int d2), .val (.long ax), .second, .val (.long ay), .second, .val (.long gx), .second, .val (.long gy), .second, .val (.long vs), .second, .val (.long vt), .second, .val (.long xa), .second, .val (.long ya), .second, .val (.long xb), .second, .val (.long yb), .second, .val (.long dx), .second, .val (.long dy), .second, .val (.long wc), .second, .val (.long wr), .second, .val (.int pv), .val (.int bx), .val (.int bY), .val (.int (2 : Int32)), .val (.long (wc + dx)), .second, .val (.long (wr + dy)), .second, .val (.long (0 : Int64)), .second, .val (.long (0 : Int64)), .second, .val (.ref a211), .val (.int pv), .val (.long (clx.toInt64)), .second, .val (.long (rwy.toInt64)), .second, .val (.int (1 : Int32)), .val (.long ((clx + scx).toInt64)), .second, .val (.long ((rwy + scy).toInt64)), .second, .val (.int (0 : Int32)), .unset, .unset, .unset, .unset, .unset, .unset] rfl  (pc' := 695) rfl ?_
            refine w_aload X219 hx (Jvm.hb hby at_695) rfl rfl (pc' := 697) rfl ?_
            refine w_callV X219 hx hZ hown (hw _ (List.mem_of_getElem? (i := 71) rfl)) (hw _ (List.mem_of_getElem? (i := 72) rfl)) (notFace_of_selects (args := #[]) (mvT hZ (hw _ (List.mem_of_getElem? (i := 74) rfl)))) (hw _ (List.mem_of_getElem? (i := 74) rfl)) (hw _ (List.mem_of_getElem? (i := 73) rfl)) (hw _ (List.mem_of_getElem? (i := 24) rfl)) (hw _ (List.mem_of_getElem? (i := 75) rfl)) (by decide) (W := 0) (rm11 l Z aw hw [] a211 (clx + scx) T219.heap (O219.2.2.2.2.2.2.1)) rfl (by decide) (by decide) (by decide) (by decide) (O219.2.2.2.2.2.2.2.2.2.2.2) (Jvm.hb hby at_697) (by rw [hml]; rfl) (argsL := []) (rest := []) pd_8 rfl rfl rfl (Nat.le_of_eq rfl) (pc' := 700) rfl ?_
            rintro _ T220 L220 X220 ⟨rfl, e220, rfl⟩
            show Ow p e below s _ _ _ (T220.setTop (mkF m 700 #[.val (.long q0), .second, .val (.long q1), .second, .val (.int p2), .val (.int p3), .val (.long q4), .second, .val (.long q5), .second, .val (.long vm), .second, .val (.long kx), .second, .val (.long vk), .second, .val (.long sd), .second, .val (.long vq), .second, .val (.long lo), .second, .val (.long hi), .second, .val (.long cn), .second, .val (.long cx), .second, .val (.long cy), .second, .val (.int d1), .val (.int d2), .val (.long ax), .second, .val (.long ay), .second, .val (.long gx), .second, .val (.long gy), .second, .val (.long vs), .second, .val (.long vt), .second, .val (.long xa), .second, .val (.long ya), .second, .val (.long xb), .second, .val (.long yb), .second, .val (.long dx), .second, .val (.long dy), .second, .val (.long wc), .second, .val (.long wr), .second, .val (.int pv), .val (.int bx), .val (.int bY), .val (.int (2 : Int32)), .val (.long (wc + dx)), .second, .val (.long (wr + dy)), .second, .val (.long (0 : Int64)), .second, .val (.long (0 : Int64)), .second, .val (.ref a211), .val (.int pv), .val (.long (clx.toInt64)), .second, .val (.long (rwy.toInt64)), .second, .val (.int (1 : Int32)), .val (.long ((clx + scx).toInt64)), .second, .val (.long ((rwy + scy).toInt64)), .second, .val (.int (0 : Int32)), .unset, .unset, .unset, .unset, .unset, .unset] [(.int (clx + scx))]))
            have M220 := Fr.app M219 (Fr.nil n0)
            refine w_i2l X220 hx (Jvm.hb hby at_700) (pc' := 701) rfl ?_
            refine w_lstore X220 hx (Jvm.hb hby at_701) #[.val (.long q0), .second, .val (.long q1), .second, .val (.int p2), .val (.int p3), .val (.long q4), .second, .val (.long q5), .second, .val (.long vm), .second, .val (.long kx), .second, .val (.long vk), .second, .val (.long sd), .second, .val (.long vq), .second, .val (.long lo), .second, .val (.long hi), .second, .val (.long cn), .second, .val (.long cx), .second, .val (.long cy), .second, .val (.int d1), .val (.int d2), .val (.long ax), .second, .val (.long ay), .second, .val (.long gx), .second, .val (.long gy), .second, .val (.long vs), .second, .val (.long vt), .second, .val (.long xa), .second, .val (.long ya), .second, .val (.long xb), .second, .val (.long yb), .second, .val (.long dx), .second, .val (.long dy), .second, .val (.long wc), .second, .val (.long wr), .second, .val (.int pv), .val (.int bx), .val (.int bY), .val (.int (2 : Int32)), .val (.long (wc + dx)), .second, .val (.long (wr + dy)), .second, .val (.long (0 : Int64)), .second, .val (.long (0 : Int64)), .second, .val (.ref a211), .val (.int pv), .val (.long (clx.toInt64)), .second, .val (.long (rwy.toInt64)), .second, .val (.int (1 : Int32)), .val (.long ((clx + scx).toInt64)), .second, .val (.long ((rwy + scy).toInt64)), .second, .val (.int (0 : Int32)), .val (.long ((clx + scx).toInt64)), .second, .unset, .unset, .unset, .unset] rfl  (pc' := 703) rfl ?_
            refine w_aload X220 hx (Jvm.hb hby at_703) rfl rfl (pc' := 705) rfl ?_
            refine w_callV X220 hx hZ hown (hw _ (List.mem_of_getElem? (i := 76) rfl)) (hw _ (List.mem_of_getElem? (i := 77) rfl)) (notFace_of_selects (args := #[]) (mvT hZ (hw _ (List.mem_of_getElem? (i := 79) rfl)))) (hw _ (List.mem_of_getElem? (i := 79) rfl)) (hw _ (List.mem_of_getElem? (i := 78) rfl)) (hw _ (List.mem_of_getElem? (i := 24) rfl)) (hw _ (List.mem_of_getElem? (i := 80) rfl)) (by decide) (W := 0) (rm12 l Z aw hw [] a211 (rwy + scy) T219.heap (O219.2.2.2.2.2.2.2.1)) e220 (by decide) (by decide) (by decide) (by decide) (O219.2.2.2.2.2.2.2.2.2.2.2) (Jvm.hb hby at_705) (by rw [hml]; rfl) (argsL := []) (rest := []) pd_8 rfl rfl rfl (Nat.le_of_eq rfl) (pc' := 708) rfl ?_
            rintro _ T221 L221 X221 ⟨rfl, e221, rfl⟩
            show Ow p e below s _ _ _ (T221.setTop (mkF m 708 #[.val (.long q0), .second, .val (.long q1), .second, .val (.int p2), .val (.int p3), .val (.long q4), .second, .val (.long q5), .second, .val (.long vm), .second, .val (.long kx), .second, .val (.long vk), .second, .val (.long sd), .second, .val (.long vq), .second, .val (.long lo), .second, .val (.long hi), .second, .val (.long cn), .second, .val (.long cx), .second, .val (.long cy), .second, .val (.int d1), .val (.int d2), .val (.long ax), .second, .val (.long ay), .second, .val (.long gx), .second, .val (.long gy), .second, .val (.long vs), .second, .val (.long vt), .second, .val (.long xa), .second, .val (.long ya), .second, .val (.long xb), .second, .val (.long yb), .second, .val (.long dx), .second, .val (.long dy), .second, .val (.long wc), .second, .val (.long wr), .second, .val (.int pv), .val (.int bx), .val (.int bY), .val (.int (2 : Int32)), .val (.long (wc + dx)), .second, .val (.long (wr + dy)), .second, .val (.long (0 : Int64)), .second, .val (.long (0 : Int64)), .second, .val (.ref a211), .val (.int pv), .val (.long (clx.toInt64)), .second, .val (.long (rwy.toInt64)), .second, .val (.int (1 : Int32)), .val (.long ((clx + scx).toInt64)), .second, .val (.long ((rwy + scy).toInt64)), .second, .val (.int (0 : Int32)), .val (.long ((clx + scx).toInt64)), .second, .unset, .unset, .unset, .unset] [(.int (rwy + scy))]))
            have M221 := Fr.app M220 (Fr.nil n0)
            refine w_i2l X221 hx (Jvm.hb hby at_708) (pc' := 709) rfl ?_
            refine w_lstore X221 hx (Jvm.hb hby at_709) #[.val (.long q0), .second, .val (.long q1), .second, .val (.int p2), .val (.int p3), .val (.long q4), .second, .val (.long q5), .second, .val (.long vm), .second, .val (.long kx), .second, .val (.long vk), .second, .val (.long sd), .second, .val (.long vq), .second, .val (.long lo), .second, .val (.long hi), .second, .val (.long cn), .second, .val (.long cx), .second, .val (.long cy), .second, .val (.int d1), .val (.int d2), .val (.long ax), .second, .val (.long ay), .second, .val (.long gx), .second, .val (.long gy), .second, .val (.long vs), .second, .val (.long vt), .second, .val (.long xa), .second, .val (.long ya), .second, .val (.long xb), .second, .val (.long yb), .second, .val (.long dx), .second, .val (.long dy), .second, .val (.long wc), .second, .val (.long wr), .second, .val (.int pv), .val (.int bx), .val (.int bY), .val (.int (2 : Int32)), .val (.long (wc + dx)), .second, .val (.long (wr + dy)), .second, .val (.long (0 : Int64)), .second, .val (.long (0 : Int64)), .second, .val (.ref a211), .val (.int pv), .val (.long (clx.toInt64)), .second, .val (.long (rwy.toInt64)), .second, .val (.int (1 : Int32)), .val (.long ((clx + scx).toInt64)), .second, .val (.long ((rwy + scy).toInt64)), .second, .val (.int (0 : Int32)), .val (.long ((clx + scx).toInt64)), .second, .val (.long ((rwy + scy).toInt64)), .second, .unset, .unset] rfl  (pc' := 711) rfl ?_
            refine w_aload X221 hx (Jvm.hb hby at_711) rfl rfl (pc' := 713) rfl ?_
            refine w_callV X221 hx hZ hown (hw _ (List.mem_of_getElem? (i := 64) rfl)) (hw _ (List.mem_of_getElem? (i := 65) rfl)) (notFace_of_selects (args := #[]) (mvT hZ (hw _ (List.mem_of_getElem? (i := 67) rfl)))) (hw _ (List.mem_of_getElem? (i := 67) rfl)) (hw _ (List.mem_of_getElem? (i := 66) rfl)) (hw _ (List.mem_of_getElem? (i := 24) rfl)) (hw _ (List.mem_of_getElem? (i := 68) rfl)) (by decide) (W := 0) (rmN_stop l Z aw hw [] a211 sd spx spy scx scy pv (clx + scx) (rwy + scy) (tcx + sd) (tcy + sd) T219.heap n0 GA O219 hp1.1 (own_c HX AX hgx').2.1 (own_c HY AY hgy').2.1) e221 (by decide) (by decide) (by decide) (by decide) (O219.2.2.2.2.2.2.2.2.2.2.2) (Jvm.hb hby at_713) (by rw [hml]; rfl) (argsL := []) (rest := []) pd_7 rfl rfl rfl (Nat.le_of_eq rfl) (pc' := 716) rfl ?_
            rintro _ T222 L222 X222 ⟨rfl, N222, K222, O222⟩
            show Ow p e below s _ _ _ (T222.setTop (mkF m 716 #[.val (.long q0), .second, .val (.long q1), .second, .val (.int p2), .val (.int p3), .val (.long q4), .second, .val (.long q5), .second, .val (.long vm), .second, .val (.long kx), .second, .val (.long vk), .second, .val (.long sd), .second, .val (.long vq), .second, .val (.long lo), .second, .val (.long hi), .second, .val (.long cn), .second, .val (.long cx), .second, .val (.long cy), .second, .val (.int d1), .val (.int d2), .val (.long ax), .second, .val (.long ay), .second, .val (.long gx), .second, .val (.long gy), .second, .val (.long vs), .second, .val (.long vt), .second, .val (.long xa), .second, .val (.long ya), .second, .val (.long xb), .second, .val (.long yb), .second, .val (.long dx), .second, .val (.long dy), .second, .val (.long wc), .second, .val (.long wr), .second, .val (.int pv), .val (.int bx), .val (.int bY), .val (.int (2 : Int32)), .val (.long (wc + dx)), .second, .val (.long (wr + dy)), .second, .val (.long (0 : Int64)), .second, .val (.long (0 : Int64)), .second, .val (.ref a211), .val (.int pv), .val (.long (clx.toInt64)), .second, .val (.long (rwy.toInt64)), .second, .val (.int (1 : Int32)), .val (.long ((clx + scx).toInt64)), .second, .val (.long ((rwy + scy).toInt64)), .second, .val (.int (0 : Int32)), .val (.long ((clx + scx).toInt64)), .second, .val (.long ((rwy + scy).toInt64)), .second, .unset, .unset] [(.int (0 : Int32))]))
            have M222 := Fr.app M221 N222
            refine w_istore X222 hx (Jvm.hb hby at_716) #[.val (.long q0), .second, .val (.long q1), .second, .val (.int p2), .val (.int p3), .val (.long q4), .second, .val (.long q5), .second, .val (.long vm), .second, .val (.long kx), .second, .val (.long vk), .second, .val (.long sd), .second, .val (.long vq), .second, .val (.long lo), .second, .val (.long hi), .second, .val (.long cn), .second, .val (.long cx), .second, .val (.long cy), .second, .val (.int d1), .val (.int d2), .val (.long ax), .second, .val (.long ay), .second, .val (.long gx), .second, .val (.long gy), .second, .val (.long vs), .second, .val (.long vt), .second, .val (.long xa), .second, .val (.long ya), .second, .val (.long xb), .second, .val (.long yb), .second, .val (.long dx), .second, .val (.long dy), .second, .val (.long wc), .second, .val (.long wr), .second, .val (.int pv), .val (.int bx), .val (.int bY), .val (.int (2 : Int32)), .val (.long (wc + dx)), .second, .val (.long (wr + dy)), .second, .val (.long (0 : Int64)), .second, .val (.long (0 : Int64)), .second, .val (.ref a211), .val (.int pv), .val (.long (clx.toInt64)), .second, .val (.long (rwy.toInt64)), .second, .val (.int (1 : Int32)), .val (.long ((clx + scx).toInt64)), .second, .val (.long ((rwy + scy).toInt64)), .second, .val (.int (0 : Int32)), .val (.long ((clx + scx).toInt64)), .second, .val (.long ((rwy + scy).toInt64)), .second, .val (.int (0 : Int32)), .unset] rfl  (pc' := 718) rfl ?_
            refine w_iload X222 hx (Jvm.hb hby at_718) rfl (pc' := 720) rfl ?_
            refine w_iload X222 hx (Jvm.hb hby at_720) rfl (pc' := 722) rfl ?_
            refine w_iconst X222 hx (1 : Int32) (Jvm.hb hby at_722) (by decide) (pc' := 723) rfl ?_
            refine w_icmp_lt X222 hx (Jvm.hb hby at_723) (by decide) (pcT := 730) (by decide) (pcF := 726) rfl (fun q => absurd q (show ¬ (2 : Int32) < (1 : Int32) from by decide)) (fun _ => ?_)
            refine w_iconst X222 hx (1 : Int32) (Jvm.hb hby at_726) (by decide) (pc' := 727) rfl ?_
            refine w_goto X222 hx (Jvm.hb hby at_727) (by decide) (pc' := 731) (by decide) ?_
            refine w_icmp_ne X222 hx (Jvm.hb hby at_731) (by decide) (pcT := 775) (by decide) (pcF := 734) rfl (fun q => absurd hp1.1 q) (fun _ => ?_)
            refine w_iload X222 hx (Jvm.hb hby at_734) rfl (pc' := 736) rfl ?_
            refine w_iload X222 hx (Jvm.hb hby at_736) rfl (pc' := 738) rfl ?_
            refine w_iconst X222 hx (2 : Int32) (Jvm.hb hby at_738) (by decide) (pc' := 739) rfl ?_
            refine w_icmp_lt X222 hx (Jvm.hb hby at_739) (by decide) (pcT := 746) (by decide) (pcF := 742) rfl (fun q => absurd q (show ¬ (2 : Int32) < (2 : Int32) from by decide)) (fun _ => ?_)
            refine w_iconst X222 hx (1 : Int32) (Jvm.hb hby at_742) (by decide) (pc' := 743) rfl ?_
            refine w_goto X222 hx (Jvm.hb hby at_743) (by decide) (pc' := 747) (by decide) ?_
            refine w_icmp_ne X222 hx (Jvm.hb hby at_747) (by decide) (pcT := 775) (by decide) (pcF := 750) rfl (fun q => absurd (show (1 : Int32) = (1 : Int32) from by decide) q) (fun _ => ?_)
            refine w_iload X222 hx (Jvm.hb hby at_750) rfl (pc' := 752) rfl ?_
            refine w_iload X222 hx (Jvm.hb hby at_752) rfl (pc' := 754) rfl ?_
            refine w_iconst X222 hx (3 : Int32) (Jvm.hb hby at_754) (by decide) (pc' := 755) rfl ?_
            refine w_icmp_lt X222 hx (Jvm.hb hby at_755) (by decide) (pcT := 762) (by decide) (pcF := 758) rfl (fun _ => ?_) (fun q => absurd (show (2 : Int32) < (3 : Int32) from by decide) q)
            refine w_iconst X222 hx (0 : Int32) (Jvm.hb hby at_762) (by decide) (pc' := 763) rfl ?_
            refine w_icmp_ne X222 hx (Jvm.hb hby at_763) (by decide) (pcT := 775) (by decide) (pcF := 766) rfl (fun q => absurd (show (0 : Int32) = (0 : Int32) from by decide) q) (fun _ => ?_)
            refine w_iload X222 hx (Jvm.hb hby at_766) rfl (pc' := 768) rfl ?_
            refine w_if_ne X222 hx (Jvm.hb hby at_768) (by decide) (pcT := 775) (by decide) (pcF := 771) rfl (fun q => absurd (show (0 : Int32) = 0 from by decide) q) (fun _ => ?_)
            refine w_iconst X222 hx (1 : Int32) (Jvm.hb hby at_771) (by decide) (pc' := 772) rfl ?_
            refine w_goto X222 hx (Jvm.hb hby at_772) (by decide) (pc' := 776) (by decide) ?_
            refine w_istore X222 hx (Jvm.hb hby at_776) #[.val (.long q0), .second, .val (.long q1), .second, .val (.int p2), .val (.int p3), .val (.long q4), .second, .val (.long q5), .second, .val (.long vm), .second, .val (.long kx), .second, .val (.long vk), .second, .val (.long sd), .second, .val (.long vq), .second, .val (.long lo), .second, .val (.long hi), .second, .val (.long cn), .second, .val (.long cx), .second, .val (.long cy), .second, .val (.int d1), .val (.int d2), .val (.long ax), .second, .val (.long ay), .second, .val (.long gx), .second, .val (.long gy), .second, .val (.long vs), .second, .val (.long vt), .second, .val (.long xa), .second, .val (.long ya), .second, .val (.long xb), .second, .val (.long yb), .second, .val (.long dx), .second, .val (.long dy), .second, .val (.long wc), .second, .val (.long wr), .second, .val (.int pv), .val (.int bx), .val (.int bY), .val (.int (2 : Int32)), .val (.long (wc + dx)), .second, .val (.long (wr + dy)), .second, .val (.long (0 : Int64)), .second, .val (.long (0 : Int64)), .second, .val (.ref a211), .val (.int pv), .val (.long (clx.toInt64)), .second, .val (.long (rwy.toInt64)), .second, .val (.int (1 : Int32)), .val (.long ((clx + scx).toInt64)), .second, .val (.long ((rwy + scy).toInt64)), .second, .val (.int (0 : Int32)), .val (.long ((clx + scx).toInt64)), .second, .val (.long ((rwy + scy).toInt64)), .second, .val (.int (0 : Int32)), .val (.int (1 : Int32))] rfl  (pc' := 778) rfl ?_
            refine w_iload X222 hx (Jvm.hb hby at_778) rfl (pc' := 780) rfl ?_
            refine w_iconst X222 hx (1 : Int32) (Jvm.hb hby at_780) (by decide) (pc' := 781) rfl ?_
            refine w_icmp_lt X222 hx (Jvm.hb hby at_781) (by decide) (pcT := 812) (by decide) (pcF := 784) rfl (fun q => absurd q (show ¬ (2 : Int32) < (1 : Int32) from by decide)) (fun _ => ?_)
            refine w_iload X222 hx (Jvm.hb hby at_784) rfl (pc' := 786) rfl ?_
            refine w_if_eq X222 hx (Jvm.hb hby at_786) (by decide) (pcT := 809) (by decide) (pcF := 789) rfl (fun q => absurd q (show ¬ (1 : Int32) = 0 from by decide)) (fun _ => ?_)
            refine w_lload X222 hx (Jvm.hb hby at_789) rfl (pc' := 791) rfl ?_
            refine w_lload X222 hx (Jvm.hb hby at_791) rfl (pc' := 793) rfl ?_
            refine w_lcmp_ne X222 hx (Jvm.hb hby at_793) (Jvm.hb hby at_794) rfl (by decide) (pcT := 809) (by decide) (pcF := 797) rfl (fun q => absurd (own_col HX AX hwc hp1.2.1).1 q) (fun _ => ?_)
            refine w_lload X222 hx (Jvm.hb hby at_797) rfl (pc' := 799) rfl ?_
            refine w_lload X222 hx (Jvm.hb hby at_799) rfl (pc' := 801) rfl ?_
            refine w_lcmp_ne X222 hx (Jvm.hb hby at_801) (Jvm.hb hby at_802) rfl (by decide) (pcT := 809) (by decide) (pcF := 805) rfl (fun q => absurd (own_col HY AY hwr hp1.2.2).1 q) (fun _ => ?_)
            refine w_iconst X222 hx (1 : Int32) (Jvm.hb hby at_805) (by decide) (pc' := 806) rfl ?_
            refine w_goto X222 hx (Jvm.hb hby at_806) (by decide) (pc' := 810) (by decide) ?_
            refine w_istore X222 hx (Jvm.hb hby at_810) #[.val (.long q0), .second, .val (.long q1), .second, .val (.int p2), .val (.int p3), .val (.long q4), .second, .val (.long q5), .second, .val (.long vm), .second, .val (.long kx), .second, .val (.long vk), .second, .val (.long sd), .second, .val (.long vq), .second, .val (.long lo), .second, .val (.long hi), .second, .val (.long cn), .second, .val (.long cx), .second, .val (.long cy), .second, .val (.int d1), .val (.int d2), .val (.long ax), .second, .val (.long ay), .second, .val (.long gx), .second, .val (.long gy), .second, .val (.long vs), .second, .val (.long vt), .second, .val (.long xa), .second, .val (.long ya), .second, .val (.long xb), .second, .val (.long yb), .second, .val (.long dx), .second, .val (.long dy), .second, .val (.long wc), .second, .val (.long wr), .second, .val (.int pv), .val (.int bx), .val (.int bY), .val (.int (2 : Int32)), .val (.long (wc + dx)), .second, .val (.long (wr + dy)), .second, .val (.long (0 : Int64)), .second, .val (.long (0 : Int64)), .second, .val (.ref a211), .val (.int pv), .val (.long (clx.toInt64)), .second, .val (.long (rwy.toInt64)), .second, .val (.int (1 : Int32)), .val (.long ((clx + scx).toInt64)), .second, .val (.long ((rwy + scy).toInt64)), .second, .val (.int (0 : Int32)), .val (.long ((clx + scx).toInt64)), .second, .val (.long ((rwy + scy).toInt64)), .second, .val (.int (0 : Int32)), .val (.int (1 : Int32))] rfl  (pc' := 812) rfl ?_
            refine w_iload X222 hx (Jvm.hb hby at_812) rfl (pc' := 814) rfl ?_
            refine w_iconst X222 hx (2 : Int32) (Jvm.hb hby at_814) (by decide) (pc' := 815) rfl ?_
            refine w_icmp_lt X222 hx (Jvm.hb hby at_815) (by decide) (pcT := 846) (by decide) (pcF := 818) rfl (fun q => absurd q (show ¬ (2 : Int32) < (2 : Int32) from by decide)) (fun _ => ?_)
            refine w_iload X222 hx (Jvm.hb hby at_818) rfl (pc' := 820) rfl ?_
            refine w_if_eq X222 hx (Jvm.hb hby at_820) (by decide) (pcT := 843) (by decide) (pcF := 823) rfl (fun q => absurd q (show ¬ (1 : Int32) = 0 from by decide)) (fun _ => ?_)
            refine w_lload X222 hx (Jvm.hb hby at_823) rfl (pc' := 825) rfl ?_
            refine w_lload X222 hx (Jvm.hb hby at_825) rfl (pc' := 827) rfl ?_
            refine w_lcmp_ne X222 hx (Jvm.hb hby at_827) (Jvm.hb hby at_828) rfl (by decide) (pcT := 843) (by decide) (pcF := 831) rfl (fun q => absurd (own_colS HX AX hwc hdx hgx') q) (fun _ => ?_)
            refine w_lload X222 hx (Jvm.hb hby at_831) rfl (pc' := 833) rfl ?_
            refine w_lload X222 hx (Jvm.hb hby at_833) rfl (pc' := 835) rfl ?_
            refine w_lcmp_ne X222 hx (Jvm.hb hby at_835) (Jvm.hb hby at_836) rfl (by decide) (pcT := 843) (by decide) (pcF := 839) rfl (fun q => absurd (own_colS HY AY hwr hdy hgy') q) (fun _ => ?_)
            refine w_iconst X222 hx (1 : Int32) (Jvm.hb hby at_839) (by decide) (pc' := 840) rfl ?_
            refine w_goto X222 hx (Jvm.hb hby at_840) (by decide) (pc' := 844) (by decide) ?_
            refine w_istore X222 hx (Jvm.hb hby at_844) #[.val (.long q0), .second, .val (.long q1), .second, .val (.int p2), .val (.int p3), .val (.long q4), .second, .val (.long q5), .second, .val (.long vm), .second, .val (.long kx), .second, .val (.long vk), .second, .val (.long sd), .second, .val (.long vq), .second, .val (.long lo), .second, .val (.long hi), .second, .val (.long cn), .second, .val (.long cx), .second, .val (.long cy), .second, .val (.int d1), .val (.int d2), .val (.long ax), .second, .val (.long ay), .second, .val (.long gx), .second, .val (.long gy), .second, .val (.long vs), .second, .val (.long vt), .second, .val (.long xa), .second, .val (.long ya), .second, .val (.long xb), .second, .val (.long yb), .second, .val (.long dx), .second, .val (.long dy), .second, .val (.long wc), .second, .val (.long wr), .second, .val (.int pv), .val (.int bx), .val (.int bY), .val (.int (2 : Int32)), .val (.long (wc + dx)), .second, .val (.long (wr + dy)), .second, .val (.long (0 : Int64)), .second, .val (.long (0 : Int64)), .second, .val (.ref a211), .val (.int pv), .val (.long (clx.toInt64)), .second, .val (.long (rwy.toInt64)), .second, .val (.int (1 : Int32)), .val (.long ((clx + scx).toInt64)), .second, .val (.long ((rwy + scy).toInt64)), .second, .val (.int (0 : Int32)), .val (.long ((clx + scx).toInt64)), .second, .val (.long ((rwy + scy).toInt64)), .second, .val (.int (0 : Int32)), .val (.int (1 : Int32))] rfl  (pc' := 846) rfl ?_
            refine w_iload X222 hx (Jvm.hb hby at_846) rfl (pc' := 848) rfl ?_
            refine w_iconst X222 hx (3 : Int32) (Jvm.hb hby at_848) (by decide) (pc' := 849) rfl ?_
            refine w_icmp_lt X222 hx (Jvm.hb hby at_849) (by decide) (pcT := 880) (by decide) (pcF := 852) rfl (fun _ => ?_) (fun q => absurd (show (2 : Int32) < (3 : Int32) from by decide) q)
            refine w_iload X222 hx (Jvm.hb hby at_880) rfl (pc' := 882) rfl ?_
            exact w_zreturn X222 hx Bd.returns (Or.inr rfl) (BodyLoose.notSynchronized Bd) (Nat.le_of_ble_eq_true rfl) (Nat.le_of_ble_eq_true rfl) (Jvm.hb hby at_882) ⟨rfl, by simpa using M222⟩
          · refine w_iconst X174 hx (3 : Int32) (Jvm.hb hby at_525) (by decide) (pc' := 526) rfl ?_
            refine w_istore X174 hx (Jvm.hb hby at_526) #[.val (.long q0), .second, .val (.long q1), .second, .val (.int p2), .val (.int p3), .val (.long q4), .second, .val (.long q5), .second, .val (.long vm), .second, .val (.long kx), .second, .val (.long vk), .second, .val (.long sd), .second, .val (.long vq), .second, .val (.long lo), .second, .val (.long hi), .second, .val (.long cn), .second, .val (.long cx), .second, .val (.long cy), .second, .val (.int d1), .val (.int d2), .val (.long ax), .second, .val (.long ay), .second, .val (.long gx), .second, .val (.long gy), .second, .val (.long vs), .second, .val (.long vt), .second, .val (.long xa), .second, .val (.long ya), .second, .val (.long xb), .second, .val (.long yb), .second, .val (.long dx), .second, .val (.long dy), .second, .val (.long wc), .second, .val (.long wr), .second, .val (.int pv), .val (.int bx), .val (.int bY), .val (.int (3 : Int32)), .val (.long (0 : Int64)), .second, .val (.long (0 : Int64)), .second, .val (.long (0 : Int64)), .second, .val (.long (0 : Int64)), .second, .val (.long (gx * vt)), .second, .val (.long (gy * vs)), .second, .unset, .unset, .unset, .unset, .unset, .unset, .unset, .unset, .unset, .unset, .unset, .unset, .unset, .unset] rfl  (pc' := 528) rfl ?_
            refine w_lload X174 hx (Jvm.hb hby at_528) rfl (pc' := 530) rfl ?_
            refine w_lstore X174 hx (Jvm.hb hby at_530) #[.val (.long q0), .second, .val (.long q1), .second, .val (.int p2), .val (.int p3), .val (.long q4), .second, .val (.long q5), .second, .val (.long vm), .second, .val (.long kx), .second, .val (.long vk), .second, .val (.long sd), .second, .val (.long vq), .second, .val (.long lo), .second, .val (.long hi), .second, .val (.long cn), .second, .val (.long cx), .second, .val (.long cy), .second, .val (.int d1), .val (.int d2), .val (.long ax), .second, .val (.long ay), .second, .val (.long gx), .second, .val (.long gy), .second, .val (.long vs), .second, .val (.long vt), .second, .val (.long xa), .second, .val (.long ya), .second, .val (.long xb), .second, .val (.long yb), .second, .val (.long dx), .second, .val (.long dy), .second, .val (.long wc), .second, .val (.long wr), .second, .val (.int pv), .val (.int bx), .val (.int bY), .val (.int (3 : Int32)), .val (.long wc), .second, .val (.long (0 : Int64)), .second, .val (.long (0 : Int64)), .second, .val (.long (0 : Int64)), .second, .val (.long (gx * vt)), .second, .val (.long (gy * vs)), .second, .unset, .unset, .unset, .unset, .unset, .unset, .unset, .unset, .unset, .unset, .unset, .unset, .unset, .unset] rfl  (pc' := 532) rfl ?_
            refine w_lload X174 hx (Jvm.hb hby at_532) rfl (pc' := 534) rfl ?_
            refine w_lload X174 hx (Jvm.hb hby at_534) rfl (pc' := 536) rfl ?_
            refine w_ladd X174 hx (Jvm.hb hby at_536) (pc' := 537) rfl ?_
            refine w_lstore X174 hx (Jvm.hb hby at_537) #[.val (.long q0), .second, .val (.long q1), .second, .val (.int p2), .val (.int p3), .val (.long q4), .second, .val (.long q5), .second, .val (.long vm), .second, .val (.long kx), .second, .val (.long vk), .second, .val (.long sd), .second, .val (.long vq), .second, .val (.long lo), .second, .val (.long hi), .second, .val (.long cn), .second, .val (.long cx), .second, .val (.long cy), .second, .val (.int d1), .val (.int d2), .val (.long ax), .second, .val (.long ay), .second, .val (.long gx), .second, .val (.long gy), .second, .val (.long vs), .second, .val (.long vt), .second, .val (.long xa), .second, .val (.long ya), .second, .val (.long xb), .second, .val (.long yb), .second, .val (.long dx), .second, .val (.long dy), .second, .val (.long wc), .second, .val (.long wr), .second, .val (.int pv), .val (.int bx), .val (.int bY), .val (.int (3 : Int32)), .val (.long wc), .second, .val (.long (wr + dy)), .second, .val (.long (0 : Int64)), .second, .val (.long (0 : Int64)), .second, .val (.long (gx * vt)), .second, .val (.long (gy * vs)), .second, .unset, .unset, .unset, .unset, .unset, .unset, .unset, .unset, .unset, .unset, .unset, .unset, .unset, .unset] rfl  (pc' := 539) rfl ?_
            refine w_lload X174 hx (Jvm.hb hby at_539) rfl (pc' := 541) rfl ?_
            refine w_lload X174 hx (Jvm.hb hby at_541) rfl (pc' := 543) rfl ?_
            refine w_ladd X174 hx (Jvm.hb hby at_543) (pc' := 544) rfl ?_
            refine w_lstore X174 hx (Jvm.hb hby at_544) #[.val (.long q0), .second, .val (.long q1), .second, .val (.int p2), .val (.int p3), .val (.long q4), .second, .val (.long q5), .second, .val (.long vm), .second, .val (.long kx), .second, .val (.long vk), .second, .val (.long sd), .second, .val (.long vq), .second, .val (.long lo), .second, .val (.long hi), .second, .val (.long cn), .second, .val (.long cx), .second, .val (.long cy), .second, .val (.int d1), .val (.int d2), .val (.long ax), .second, .val (.long ay), .second, .val (.long gx), .second, .val (.long gy), .second, .val (.long vs), .second, .val (.long vt), .second, .val (.long xa), .second, .val (.long ya), .second, .val (.long xb), .second, .val (.long yb), .second, .val (.long dx), .second, .val (.long dy), .second, .val (.long wc), .second, .val (.long wr), .second, .val (.int pv), .val (.int bx), .val (.int bY), .val (.int (3 : Int32)), .val (.long wc), .second, .val (.long (wr + dy)), .second, .val (.long (wc + dx)), .second, .val (.long (0 : Int64)), .second, .val (.long (gx * vt)), .second, .val (.long (gy * vs)), .second, .unset, .unset, .unset, .unset, .unset, .unset, .unset, .unset, .unset, .unset, .unset, .unset, .unset, .unset] rfl  (pc' := 546) rfl ?_
            refine w_lload X174 hx (Jvm.hb hby at_546) rfl (pc' := 548) rfl ?_
            refine w_lload X174 hx (Jvm.hb hby at_548) rfl (pc' := 550) rfl ?_
            refine w_ladd X174 hx (Jvm.hb hby at_550) (pc' := 551) rfl ?_
            refine w_lstore X174 hx (Jvm.hb hby at_551) #[.val (.long q0), .second, .val (.long q1), .second, .val (.int p2), .val (.int p3), .val (.long q4), .second, .val (.long q5), .second, .val (.long vm), .second, .val (.long kx), .second, .val (.long vk), .second, .val (.long sd), .second, .val (.long vq), .second, .val (.long lo), .second, .val (.long hi), .second, .val (.long cn), .second, .val (.long cx), .second, .val (.long cy), .second, .val (.int d1), .val (.int d2), .val (.long ax), .second, .val (.long ay), .second, .val (.long gx), .second, .val (.long gy), .second, .val (.long vs), .second, .val (.long vt), .second, .val (.long xa), .second, .val (.long ya), .second, .val (.long xb), .second, .val (.long yb), .second, .val (.long dx), .second, .val (.long dy), .second, .val (.long wc), .second, .val (.long wr), .second, .val (.int pv), .val (.int bx), .val (.int bY), .val (.int (3 : Int32)), .val (.long wc), .second, .val (.long (wr + dy)), .second, .val (.long (wc + dx)), .second, .val (.long (wr + dy)), .second, .val (.long (gx * vt)), .second, .val (.long (gy * vs)), .second, .unset, .unset, .unset, .unset, .unset, .unset, .unset, .unset, .unset, .unset, .unset, .unset, .unset, .unset] rfl  (pc' := 553) rfl ?_
            refine w_goto X174 hx (Jvm.hb hby at_553) (by decide) (pc' := 573) (by decide) ?_
            refine w_goto X174 hx (Jvm.hb hby at_573) (by decide) (pc' := 623) (by decide) ?_
            refine w_new X174 hx hZ hown (hw _ (List.mem_of_getElem? (i := 22) rfl)) (hw _ (List.mem_of_getElem? (i := 23) rfl)) (hw _ (List.mem_of_getElem? (i := 24) rfl)) e174 (Jvm.hb hby at_623) (by decide) (by decide) (pc' := 626) rfl ?_
            intro T223 h223 a223 g223 X223 e223 E223 A223 D223
            have G223_side : Fld Z h223 a223 "com/example/sarutahiko/sarutahiko/lattice/SegmentWalk" "side" "J" (.long (0 : Int64)) := D223 (Or.inr (hw _ (List.mem_of_getElem? (i := 42) rfl))) (ty := .long) (by decide)
            have G223_spanX : Fld Z h223 a223 "com/example/sarutahiko/sarutahiko/lattice/SegmentWalk" "spanX" "J" (.long (0 : Int64)) := D223 (Or.inr (hw _ (List.mem_of_getElem? (i := 47) rfl))) (ty := .long) (by decide)
            have G223_spanY : Fld Z h223 a223 "com/example/sarutahiko/sarutahiko/lattice/SegmentWalk" "spanY" "J" (.long (0 : Int64)) := D223 (Or.inr (hw _ (List.mem_of_getElem? (i := 49) rfl))) (ty := .long) (by decide)
            have G223_stepColumn : Fld Z h223 a223 "com/example/sarutahiko/sarutahiko/lattice/SegmentWalk" "stepColumn" "I" (.int (0 : Int32)) := D223 (Or.inr (hw _ (List.mem_of_getElem? (i := 51) rfl))) (ty := .int) (by decide)
            have G223_stepRow : Fld Z h223 a223 "com/example/sarutahiko/sarutahiko/lattice/SegmentWalk" "stepRow" "I" (.int (0 : Int32)) := D223 (Or.inr (hw _ (List.mem_of_getElem? (i := 53) rfl))) (ty := .int) (by decide)
            have G223_passes : Fld Z h223 a223 "com/example/sarutahiko/sarutahiko/lattice/SegmentWalk" "passes" "Z" (.int (0 : Int32)) := D223 (Or.inr (hw _ (List.mem_of_getElem? (i := 63) rfl))) (ty := .boolean) (by decide)
            have G223_column : Fld Z h223 a223 "com/example/sarutahiko/sarutahiko/lattice/SegmentWalk" "column" "I" (.int (0 : Int32)) := D223 (Or.inl (hw _ (List.mem_of_getElem? (i := 59) rfl))) (ty := .int) (by decide)
            have G223_row : Fld Z h223 a223 "com/example/sarutahiko/sarutahiko/lattice/SegmentWalk" "row" "I" (.int (0 : Int32)) := D223 (Or.inl (hw _ (List.mem_of_getElem? (i := 61) rfl))) (ty := .int) (by decide)
            have G223_toColumnLine : Fld Z h223 a223 "com/example/sarutahiko/sarutahiko/lattice/SegmentWalk" "toColumnLine" "J" (.long (0 : Int64)) := D223 (Or.inl (hw _ (List.mem_of_getElem? (i := 55) rfl))) (ty := .long) (by decide)
            have G223_toRowLine : Fld Z h223 a223 "com/example/sarutahiko/sarutahiko/lattice/SegmentWalk" "toRowLine" "J" (.long (0 : Int64)) := D223 (Or.inl (hw _ (List.mem_of_getElem? (i := 57) rfl))) (ty := .long) (by decide)
            have G223_started : Fld Z h223 a223 "com/example/sarutahiko/sarutahiko/lattice/SegmentWalk" "started" "Z" (.int (0 : Int32)) := D223 (Or.inl (hw _ (List.mem_of_getElem? (i := 70) rfl))) (ty := .boolean) (by decide)
            have GA : n0 ≤ a223 := Nat.le_trans Z0 (Nat.le_of_eq g223.symm)
            have OO : SWo Z h223 a223 (0 : Int64) (0 : Int64) (0 : Int64) (0 : Int32) (0 : Int32) (0 : Int32) (0 : Int32) (0 : Int32) (0 : Int64) (0 : Int64) (0 : Int32) := ⟨G223_side, G223_spanX, G223_spanY, G223_stepColumn, G223_stepRow, G223_passes, G223_column, G223_row, G223_toColumnLine, G223_toRowLine, G223_started, A223⟩
            refine w_dup X223 hx (Jvm.hb hby at_626) rfl (pc' := 627) rfl ?_
            refine w_lload X223 hx (Jvm.hb hby at_627) rfl (pc' := 629) rfl ?_
            refine w_lload X223 hx (Jvm.hb hby at_629) rfl (pc' := 631) rfl ?_
            refine w_lload X223 hx (Jvm.hb hby at_631) rfl (pc' := 633) rfl ?_
            refine w_lload X223 hx (Jvm.hb hby at_633) rfl (pc' := 635) rfl ?_
            refine w_lload X223 hx (Jvm.hb hby at_635) rfl (pc' := 637) rfl ?_
            refine w_callN X223 hx hZ rfl hown (hw _ (List.mem_of_getElem? (i := 25) rfl)) (hw _ (List.mem_of_getElem? (i := 26) rfl)) (hw _ (List.mem_of_getElem? (i := 24) rfl)) (hw _ (List.mem_of_getElem? (i := 27) rfl)) (by decide) (W := 1) (rm5 l Z aw hw [] a223 xa ya xb yb sd spx spy scx scy Xp Yp ccx ccy tcx tcy clx rwy pv h223 n0 GA OO (q_nz (by have := Bs.2.1; omega)) (j_lt.mpr (by rw [j0]; have := Bs.2.1; omega)) (fun z => by have h9 := j_lt.mp z; rw [show (2305843009213693952 : Int64).toInt = 2305843009213693952 from by decide] at h9; have := Bs.2.2; omega) AX.2.2.2.2.2.2.1 AY.2.2.2.2.2.2.1 AX.2.2.2.2.2.2.2.1 AY.2.2.2.2.2.2.2.1 AX.1 AY.1 AX.2.1 AY.2.1 AX.2.2.1 AY.2.2.1 AX.2.2.2.1 AY.2.2.2.1 AX.2.2.2.2.1 AY.2.2.2.2.1 AX.2.2.2.2.2.1 AY.2.2.2.2.2.1 hpsw) e223 (by decide) (by decide) (by decide) (by decide) (Jvm.hb hby at_637) (by rw [hml]; rfl) (a := a223) (argsL := [(.long xa), (.long ya), (.long xb), (.long yb), (.long sd)]) (rest := [(.ref a223)]) pd_6 rfl rfl rfl (Nat.le_of_eq rfl) (pc' := 640) rfl ?_
            rintro _ T224 L224 X224 ⟨rfl, N224, K224, O224⟩
            show Ow p e below s _ _ _ (T224.setTop (mkF m 640 #[.val (.long q0), .second, .val (.long q1), .second, .val (.int p2), .val (.int p3), .val (.long q4), .second, .val (.long q5), .second, .val (.long vm), .second, .val (.long kx), .second, .val (.long vk), .second, .val (.long sd), .second, .val (.long vq), .second, .val (.long lo), .second, .val (.long hi), .second, .val (.long cn), .second, .val (.long cx), .second, .val (.long cy), .second, .val (.int d1), .val (.int d2), .val (.long ax), .second, .val (.long ay), .second, .val (.long gx), .second, .val (.long gy), .second, .val (.long vs), .second, .val (.long vt), .second, .val (.long xa), .second, .val (.long ya), .second, .val (.long xb), .second, .val (.long yb), .second, .val (.long dx), .second, .val (.long dy), .second, .val (.long wc), .second, .val (.long wr), .second, .val (.int pv), .val (.int bx), .val (.int bY), .val (.int (3 : Int32)), .val (.long wc), .second, .val (.long (wr + dy)), .second, .val (.long (wc + dx)), .second, .val (.long (wr + dy)), .second, .val (.long (gx * vt)), .second, .val (.long (gy * vs)), .second, .unset, .unset, .unset, .unset, .unset, .unset, .unset, .unset, .unset, .unset, .unset, .unset, .unset, .unset] [(.ref a223)]))
            have M224 := Fr.app NB N224
            refine w_astore X224 hx (Jvm.hb hby at_640) #[.val (.long q0), .second, .val (.long q1), .second, .val (.int p2), .val (.int p3), .val (.long q4), .second, .val (.long q5), .second, .val (.long vm), .second, .val (.long kx), .second, .val (.long vk), .second, .val (.long sd), .second, .val (.long vq), .second, .val (.long lo), .second, .val (.long hi), .second, .val (.long cn), .second, .val (.long cx), .second, .val (.long cy), .second, .val (.int d1), .val (.int d2), .val (.long ax), .second, .val (.long ay), .second, .val (.long gx), .second, .val (.long gy), .second, .val (.long vs), .second, .val (.long vt), .second, .val (.long xa), .second, .val (.long ya), .second, .val (.long xb), .second, .val (.long yb), .second, .val (.long dx), .second, .val (.long dy), .second, .val (.long wc), .second, .val (.long wr), .second, .val (.int pv), .val (.int bx), .val (.int bY), .val (.int (3 : Int32)), .val (.long wc), .second, .val (.long (wr + dy)), .second, .val (.long (wc + dx)), .second, .val (.long (wr + dy)), .second, .val (.ref a223), .unset, .val (.long (gy * vs)), .second, .unset, .unset, .unset, .unset, .unset, .unset, .unset, .unset, .unset, .unset, .unset, .unset, .unset, .unset] rfl rfl (pc' := 642) rfl ?_
            refine w_aload X224 hx (Jvm.hb hby at_642) rfl rfl (pc' := 644) rfl ?_
            refine w_callV X224 hx hZ hown (hw _ (List.mem_of_getElem? (i := 64) rfl)) (hw _ (List.mem_of_getElem? (i := 65) rfl)) (notFace_of_selects (args := #[]) (mvT hZ (hw _ (List.mem_of_getElem? (i := 67) rfl)))) (hw _ (List.mem_of_getElem? (i := 67) rfl)) (hw _ (List.mem_of_getElem? (i := 66) rfl)) (hw _ (List.mem_of_getElem? (i := 24) rfl)) (hw _ (List.mem_of_getElem? (i := 68) rfl)) (by decide) (W := 0) (rmN_first l Z aw hw [] a223 sd spx spy scx scy pv clx rwy tcx tcy T224.heap n0 GA O224 (own_p01 hpas)) rfl (by decide) (by decide) (by decide) (by decide) (O224.2.2.2.2.2.2.2.2.2.2.2) (Jvm.hb hby at_644) (by rw [hml]; rfl) (argsL := []) (rest := []) pd_7 rfl rfl rfl (Nat.le_of_eq rfl) (pc' := 647) rfl ?_
            rintro _ T225 L225 X225 ⟨rfl, N225, K225, O225⟩
            show Ow p e below s _ _ _ (T225.setTop (mkF m 647 #[.val (.long q0), .second, .val (.long q1), .second, .val (.int p2), .val (.int p3), .val (.long q4), .second, .val (.long q5), .second, .val (.long vm), .second, .val (.long kx), .second, .val (.long vk), .second, .val (.long sd), .second, .val (.long vq), .second, .val (.long lo), .second, .val (.long hi), .second, .val (.long cn), .second, .val (.long cx), .second, .val (.long cy), .second, .val (.int d1), .val (.int d2), .val (.long ax), .second, .val (.long ay), .second, .val (.long gx), .second, .val (.long gy), .second, .val (.long vs), .second, .val (.long vt), .second, .val (.long xa), .second, .val (.long ya), .second, .val (.long xb), .second, .val (.long yb), .second, .val (.long dx), .second, .val (.long dy), .second, .val (.long wc), .second, .val (.long wr), .second, .val (.int pv), .val (.int bx), .val (.int bY), .val (.int (3 : Int32)), .val (.long wc), .second, .val (.long (wr + dy)), .second, .val (.long (wc + dx)), .second, .val (.long (wr + dy)), .second, .val (.ref a223), .unset, .val (.long (gy * vs)), .second, .unset, .unset, .unset, .unset, .unset, .unset, .unset, .unset, .unset, .unset, .unset, .unset, .unset, .unset] [(.int pv)]))
            have M225 := Fr.app M224 N225
            refine w_istore X225 hx (Jvm.hb hby at_647) #[.val (.long q0), .second, .val (.long q1), .second, .val (.int p2), .val (.int p3), .val (.long q4), .second, .val (.long q5), .second, .val (.long vm), .second, .val (.long kx), .second, .val (.long vk), .second, .val (.long sd), .second, .val (.long vq), .second, .val (.long lo), .second, .val (.long hi), .second, .val (.long cn), .second, .val (.long cx), .second, .val (.long cy), .second, .val (.int d1), .val (.int d2), .val (.long ax), .second, .val (.long ay), .second, .val (.long gx), .second, .val (.long gy), .second, .val (.long vs), .second, .val (.long vt), .second, .val (.long xa), .second, .val (.long ya), .second, .val (.long xb), .second, .val (.long yb), .second, .val (.long dx), .second, .val (.long dy), .second, .val (.long wc), .second, .val (.long wr), .second, .val (.int pv), .val (.int bx), .val (.int bY), .val (.int (3 : Int32)), .val (.long wc), .second, .val (.long (wr + dy)), .second, .val (.long (wc + dx)), .second, .val (.long (wr + dy)), .second, .val (.ref a223), .val (.int pv), .val (.long (gy * vs)), .second, .unset, .unset, .unset, .unset, .unset, .unset, .unset, .unset, .unset, .unset, .unset, .unset, .unset, .unset] rfl  (pc' := 649) rfl ?_
            refine w_aload X225 hx (Jvm.hb hby at_649) rfl rfl (pc' := 651) rfl ?_
            refine w_callV X225 hx hZ hown (hw _ (List.mem_of_getElem? (i := 71) rfl)) (hw _ (List.mem_of_getElem? (i := 72) rfl)) (notFace_of_selects (args := #[]) (mvT hZ (hw _ (List.mem_of_getElem? (i := 74) rfl)))) (hw _ (List.mem_of_getElem? (i := 74) rfl)) (hw _ (List.mem_of_getElem? (i := 73) rfl)) (hw _ (List.mem_of_getElem? (i := 24) rfl)) (hw _ (List.mem_of_getElem? (i := 75) rfl)) (by decide) (W := 0) (rm11 l Z aw hw [] a223 clx T225.heap (O225.2.2.2.2.2.2.1)) rfl (by decide) (by decide) (by decide) (by decide) (O225.2.2.2.2.2.2.2.2.2.2.2) (Jvm.hb hby at_651) (by rw [hml]; rfl) (argsL := []) (rest := []) pd_8 rfl rfl rfl (Nat.le_of_eq rfl) (pc' := 654) rfl ?_
            rintro _ T226 L226 X226 ⟨rfl, e226, rfl⟩
            show Ow p e below s _ _ _ (T226.setTop (mkF m 654 #[.val (.long q0), .second, .val (.long q1), .second, .val (.int p2), .val (.int p3), .val (.long q4), .second, .val (.long q5), .second, .val (.long vm), .second, .val (.long kx), .second, .val (.long vk), .second, .val (.long sd), .second, .val (.long vq), .second, .val (.long lo), .second, .val (.long hi), .second, .val (.long cn), .second, .val (.long cx), .second, .val (.long cy), .second, .val (.int d1), .val (.int d2), .val (.long ax), .second, .val (.long ay), .second, .val (.long gx), .second, .val (.long gy), .second, .val (.long vs), .second, .val (.long vt), .second, .val (.long xa), .second, .val (.long ya), .second, .val (.long xb), .second, .val (.long yb), .second, .val (.long dx), .second, .val (.long dy), .second, .val (.long wc), .second, .val (.long wr), .second, .val (.int pv), .val (.int bx), .val (.int bY), .val (.int (3 : Int32)), .val (.long wc), .second, .val (.long (wr + dy)), .second, .val (.long (wc + dx)), .second, .val (.long (wr + dy)), .second, .val (.ref a223), .val (.int pv), .val (.long (gy * vs)), .second, .unset, .unset, .unset, .unset, .unset, .unset, .unset, .unset, .unset, .unset, .unset, .unset, .unset, .unset] [(.int clx)]))
            have M226 := Fr.app M225 (Fr.nil n0)
            refine w_i2l X226 hx (Jvm.hb hby at_654) (pc' := 655) rfl ?_
            refine w_lstore X226 hx (Jvm.hb hby at_655) #[.val (.long q0), .second, .val (.long q1), .second, .val (.int p2), .val (.int p3), .val (.long q4), .second, .val (.long q5), .second, .val (.long vm), .second, .val (.long kx), .second, .val (.long vk), .second, .val (.long sd), .second, .val (.long vq), .second, .val (.long lo), .second, .val (.long hi), .second, .val (.long cn), .second, .val (.long cx), .second, .val (.long cy), .second, .val (.int d1), .val (.int d2), .val (.long ax), .second, .val (.long ay), .second, .val (.long gx), .second, .val (.long gy), .second, .val (.long vs), .second, .val (.long vt), .second, .val (.long xa), .second, .val (.long ya), .second, .val (.long xb), .second, .val (.long yb), .second, .val (.long dx), .second, .val (.long dy), .second, .val (.long wc), .second, .val (.long wr), .second, .val (.int pv), .val (.int bx), .val (.int bY), .val (.int (3 : Int32)), .val (.long wc), .second, .val (.long (wr + dy)), .second, .val (.long (wc + dx)), .second, .val (.long (wr + dy)), .second, .val (.ref a223), .val (.int pv), .val (.long (clx.toInt64)), .second, .unset, .unset, .unset, .unset, .unset, .unset, .unset, .unset, .unset, .unset, .unset, .unset, .unset, .unset] rfl  (pc' := 657) rfl ?_
            refine w_aload X226 hx (Jvm.hb hby at_657) rfl rfl (pc' := 659) rfl ?_
            refine w_callV X226 hx hZ hown (hw _ (List.mem_of_getElem? (i := 76) rfl)) (hw _ (List.mem_of_getElem? (i := 77) rfl)) (notFace_of_selects (args := #[]) (mvT hZ (hw _ (List.mem_of_getElem? (i := 79) rfl)))) (hw _ (List.mem_of_getElem? (i := 79) rfl)) (hw _ (List.mem_of_getElem? (i := 78) rfl)) (hw _ (List.mem_of_getElem? (i := 24) rfl)) (hw _ (List.mem_of_getElem? (i := 80) rfl)) (by decide) (W := 0) (rm12 l Z aw hw [] a223 rwy T225.heap (O225.2.2.2.2.2.2.2.1)) e226 (by decide) (by decide) (by decide) (by decide) (O225.2.2.2.2.2.2.2.2.2.2.2) (Jvm.hb hby at_659) (by rw [hml]; rfl) (argsL := []) (rest := []) pd_8 rfl rfl rfl (Nat.le_of_eq rfl) (pc' := 662) rfl ?_
            rintro _ T227 L227 X227 ⟨rfl, e227, rfl⟩
            show Ow p e below s _ _ _ (T227.setTop (mkF m 662 #[.val (.long q0), .second, .val (.long q1), .second, .val (.int p2), .val (.int p3), .val (.long q4), .second, .val (.long q5), .second, .val (.long vm), .second, .val (.long kx), .second, .val (.long vk), .second, .val (.long sd), .second, .val (.long vq), .second, .val (.long lo), .second, .val (.long hi), .second, .val (.long cn), .second, .val (.long cx), .second, .val (.long cy), .second, .val (.int d1), .val (.int d2), .val (.long ax), .second, .val (.long ay), .second, .val (.long gx), .second, .val (.long gy), .second, .val (.long vs), .second, .val (.long vt), .second, .val (.long xa), .second, .val (.long ya), .second, .val (.long xb), .second, .val (.long yb), .second, .val (.long dx), .second, .val (.long dy), .second, .val (.long wc), .second, .val (.long wr), .second, .val (.int pv), .val (.int bx), .val (.int bY), .val (.int (3 : Int32)), .val (.long wc), .second, .val (.long (wr + dy)), .second, .val (.long (wc + dx)), .second, .val (.long (wr + dy)), .second, .val (.ref a223), .val (.int pv), .val (.long (clx.toInt64)), .second, .unset, .unset, .unset, .unset, .unset, .unset, .unset, .unset, .unset, .unset, .unset, .unset, .unset, .unset] [(.int rwy)]))
            have M227 := Fr.app M226 (Fr.nil n0)
            refine w_i2l X227 hx (Jvm.hb hby at_662) (pc' := 663) rfl ?_
            refine w_lstore X227 hx (Jvm.hb hby at_663) #[.val (.long q0), .second, .val (.long q1), .second, .val (.int p2), .val (.int p3), .val (.long q4), .second, .val (.long q5), .second, .val (.long vm), .second, .val (.long kx), .second, .val (.long vk), .second, .val (.long sd), .second, .val (.long vq), .second, .val (.long lo), .second, .val (.long hi), .second, .val (.long cn), .second, .val (.long cx), .second, .val (.long cy), .second, .val (.int d1), .val (.int d2), .val (.long ax), .second, .val (.long ay), .second, .val (.long gx), .second, .val (.long gy), .second, .val (.long vs), .second, .val (.long vt), .second, .val (.long xa), .second, .val (.long ya), .second, .val (.long xb), .second, .val (.long yb), .second, .val (.long dx), .second, .val (.long dy), .second, .val (.long wc), .second, .val (.long wr), .second, .val (.int pv), .val (.int bx), .val (.int bY), .val (.int (3 : Int32)), .val (.long wc), .second, .val (.long (wr + dy)), .second, .val (.long (wc + dx)), .second, .val (.long (wr + dy)), .second, .val (.ref a223), .val (.int pv), .val (.long (clx.toInt64)), .second, .val (.long (rwy.toInt64)), .second, .unset, .unset, .unset, .unset, .unset, .unset, .unset, .unset, .unset, .unset, .unset, .unset] rfl  (pc' := 665) rfl ?_
            refine w_aload X227 hx (Jvm.hb hby at_665) rfl rfl (pc' := 667) rfl ?_
            refine w_callV X227 hx hZ hown (hw _ (List.mem_of_getElem? (i := 64) rfl)) (hw _ (List.mem_of_getElem? (i := 65) rfl)) (notFace_of_selects (args := #[]) (mvT hZ (hw _ (List.mem_of_getElem? (i := 67) rfl)))) (hw _ (List.mem_of_getElem? (i := 67) rfl)) (hw _ (List.mem_of_getElem? (i := 66) rfl)) (hw _ (List.mem_of_getElem? (i := 24) rfl)) (hw _ (List.mem_of_getElem? (i := 68) rfl)) (by decide) (W := 0) (rmN_gt l Z aw hw [] a223 sd spx spy scx scy pv clx rwy tcx tcy T225.heap n0 GA O225 hp1.1 (own_c HX AX hgx').1 (own_c HY AY hgy').1 ((own_cps HX AX HY AY hgx' hgy').2.2 hord2)) e227 (by decide) (by decide) (by decide) (by decide) (O225.2.2.2.2.2.2.2.2.2.2.2) (Jvm.hb hby at_667) (by rw [hml]; rfl) (argsL := []) (rest := []) pd_7 rfl rfl rfl (Nat.le_of_eq rfl) (pc' := 670) rfl ?_
            rintro _ T228 L228 X228 ⟨rfl, N228, K228, O228⟩
            show Ow p e below s _ _ _ (T228.setTop (mkF m 670 #[.val (.long q0), .second, .val (.long q1), .second, .val (.int p2), .val (.int p3), .val (.long q4), .second, .val (.long q5), .second, .val (.long vm), .second, .val (.long kx), .second, .val (.long vk), .second, .val (.long sd), .second, .val (.long vq), .second, .val (.long lo), .second, .val (.long hi), .second, .val (.long cn), .second, .val (.long cx), .second, .val (.long cy), .second, .val (.int d1), .val (.int d2), .val (.long ax), .second, .val (.long ay), .second, .val (.long gx), .second, .val (.long gy), .second, .val (.long vs), .second, .val (.long vt), .second, .val (.long xa), .second, .val (.long ya), .second, .val (.long xb), .second, .val (.long yb), .second, .val (.long dx), .second, .val (.long dy), .second, .val (.long wc), .second, .val (.long wr), .second, .val (.int pv), .val (.int bx), .val (.int bY), .val (.int (3 : Int32)), .val (.long wc), .second, .val (.long (wr + dy)), .second, .val (.long (wc + dx)), .second, .val (.long (wr + dy)), .second, .val (.ref a223), .val (.int pv), .val (.long (clx.toInt64)), .second, .val (.long (rwy.toInt64)), .second, .unset, .unset, .unset, .unset, .unset, .unset, .unset, .unset, .unset, .unset, .unset, .unset] [(.int (1 : Int32))]))
            have M228 := Fr.app M227 N228
            refine w_istore X228 hx (Jvm.hb hby at_670) #[.val (.long q0), .second, .val (.long q1), .second, .val (.int p2), .val (.int p3), .val (.long q4), .second, .val (.long q5), .second, .val (.long vm), .second, .val (.long kx), .second, .val (.long vk), .second, .val (.long sd), .second, .val (.long vq), .second, .val (.long lo), .second, .val (.long hi), .second, .val (.long cn), .second, .val (.long cx), .second, .val (.long cy), .second, .val (.int d1), .val (.int d2), .val (.long ax), .second, .val (.long ay), .second, .val (.long gx), .second, .val (.long gy), .second, .val (.long vs), .second, .val (.long vt), .second, .val (.long xa), .second, .val (.long ya), .second, .val (.long xb), .second, .val (.long yb), .second, .val (.long dx), .second, .val (.long dy), .second, .val (.long wc), .second, .val (.long wr), .second, .val (.int pv), .val (.int bx), .val (.int bY), .val (.int (3 : Int32)), .val (.long wc), .second, .val (.long (wr + dy)), .second, .val (.long (wc + dx)), .second, .val (.long (wr + dy)), .second, .val (.ref a223), .val (.int pv), .val (.long (clx.toInt64)), .second, .val (.long (rwy.toInt64)), .second, .val (.int (1 : Int32)), .unset, .unset, .unset, .unset, .unset, .unset, .unset, .unset, .unset, .unset, .unset] rfl  (pc' := 672) rfl ?_
            refine w_aload X228 hx (Jvm.hb hby at_672) rfl rfl (pc' := 674) rfl ?_
            refine w_callV X228 hx hZ hown (hw _ (List.mem_of_getElem? (i := 71) rfl)) (hw _ (List.mem_of_getElem? (i := 72) rfl)) (notFace_of_selects (args := #[]) (mvT hZ (hw _ (List.mem_of_getElem? (i := 74) rfl)))) (hw _ (List.mem_of_getElem? (i := 74) rfl)) (hw _ (List.mem_of_getElem? (i := 73) rfl)) (hw _ (List.mem_of_getElem? (i := 24) rfl)) (hw _ (List.mem_of_getElem? (i := 75) rfl)) (by decide) (W := 0) (rm11 l Z aw hw [] a223 clx T228.heap (O228.2.2.2.2.2.2.1)) rfl (by decide) (by decide) (by decide) (by decide) (O228.2.2.2.2.2.2.2.2.2.2.2) (Jvm.hb hby at_674) (by rw [hml]; rfl) (argsL := []) (rest := []) pd_8 rfl rfl rfl (Nat.le_of_eq rfl) (pc' := 677) rfl ?_
            rintro _ T229 L229 X229 ⟨rfl, e229, rfl⟩
            show Ow p e below s _ _ _ (T229.setTop (mkF m 677 #[.val (.long q0), .second, .val (.long q1), .second, .val (.int p2), .val (.int p3), .val (.long q4), .second, .val (.long q5), .second, .val (.long vm), .second, .val (.long kx), .second, .val (.long vk), .second, .val (.long sd), .second, .val (.long vq), .second, .val (.long lo), .second, .val (.long hi), .second, .val (.long cn), .second, .val (.long cx), .second, .val (.long cy), .second, .val (.int d1), .val (.int d2), .val (.long ax), .second, .val (.long ay), .second, .val (.long gx), .second, .val (.long gy), .second, .val (.long vs), .second, .val (.long vt), .second, .val (.long xa), .second, .val (.long ya), .second, .val (.long xb), .second, .val (.long yb), .second, .val (.long dx), .second, .val (.long dy), .second, .val (.long wc), .second, .val (.long wr), .second, .val (.int pv), .val (.int bx), .val (.int bY), .val (.int (3 : Int32)), .val (.long wc), .second, .val (.long (wr + dy)), .second, .val (.long (wc + dx)), .second, .val (.long (wr + dy)), .second, .val (.ref a223), .val (.int pv), .val (.long (clx.toInt64)), .second, .val (.long (rwy.toInt64)), .second, .val (.int (1 : Int32)), .unset, .unset, .unset, .unset, .unset, .unset, .unset, .unset, .unset, .unset, .unset] [(.int clx)]))
            have M229 := Fr.app M228 (Fr.nil n0)
            refine w_i2l X229 hx (Jvm.hb hby at_677) (pc' := 678) rfl ?_
            refine w_lstore X229 hx (Jvm.hb hby at_678) #[.val (.long q0), .second, .val (.long q1), .second, .val (.int p2), .val (.int p3), .val (.long q4), .second, .val (.long q5), .second, .val (.long vm), .second, .val (.long kx), .second, .val (.long vk), .second, .val (.long sd), .second, .val (.long vq), .second, .val (.long lo), .second, .val (.long hi), .second, .val (.long cn), .second, .val (.long cx), .second, .val (.long cy), .second, .val (.int d1), .val (.int d2), .val (.long ax), .second, .val (.long ay), .second, .val (.long gx), .second, .val (.long gy), .second, .val (.long vs), .second, .val (.long vt), .second, .val (.long xa), .second, .val (.long ya), .second, .val (.long xb), .second, .val (.long yb), .second, .val (.long dx), .second, .val (.long dy), .second, .val (.long wc), .second, .val (.long wr), .second, .val (.int pv), .val (.int bx), .val (.int bY), .val (.int (3 : Int32)), .val (.long wc), .second, .val (.long (wr + dy)), .second, .val (.long (wc + dx)), .second, .val (.long (wr + dy)), .second, .val (.ref a223), .val (.int pv), .val (.long (clx.toInt64)), .second, .val (.long (rwy.toInt64)), .second, .val (.int (1 : Int32)), .val (.long (clx.toInt64)), .second, .unset, .unset, .unset, .unset, .unset, .unset, .unset, .unset, .unset] rfl  (pc' := 680) rfl ?_
            refine w_aload X229 hx (Jvm.hb hby at_680) rfl rfl (pc' := 682) rfl ?_
            refine w_callV X229 hx hZ hown (hw _ (List.mem_of_getElem? (i := 76) rfl)) (hw _ (List.mem_of_getElem? (i := 77) rfl)) (notFace_of_selects (args := #[]) (mvT hZ (hw _ (List.mem_of_getElem? (i := 79) rfl)))) (hw _ (List.mem_of_getElem? (i := 79) rfl)) (hw _ (List.mem_of_getElem? (i := 78) rfl)) (hw _ (List.mem_of_getElem? (i := 24) rfl)) (hw _ (List.mem_of_getElem? (i := 80) rfl)) (by decide) (W := 0) (rm12 l Z aw hw [] a223 (rwy + scy) T228.heap (O228.2.2.2.2.2.2.2.1)) e229 (by decide) (by decide) (by decide) (by decide) (O228.2.2.2.2.2.2.2.2.2.2.2) (Jvm.hb hby at_682) (by rw [hml]; rfl) (argsL := []) (rest := []) pd_8 rfl rfl rfl (Nat.le_of_eq rfl) (pc' := 685) rfl ?_
            rintro _ T230 L230 X230 ⟨rfl, e230, rfl⟩
            show Ow p e below s _ _ _ (T230.setTop (mkF m 685 #[.val (.long q0), .second, .val (.long q1), .second, .val (.int p2), .val (.int p3), .val (.long q4), .second, .val (.long q5), .second, .val (.long vm), .second, .val (.long kx), .second, .val (.long vk), .second, .val (.long sd), .second, .val (.long vq), .second, .val (.long lo), .second, .val (.long hi), .second, .val (.long cn), .second, .val (.long cx), .second, .val (.long cy), .second, .val (.int d1), .val (.int d2), .val (.long ax), .second, .val (.long ay), .second, .val (.long gx), .second, .val (.long gy), .second, .val (.long vs), .second, .val (.long vt), .second, .val (.long xa), .second, .val (.long ya), .second, .val (.long xb), .second, .val (.long yb), .second, .val (.long dx), .second, .val (.long dy), .second, .val (.long wc), .second, .val (.long wr), .second, .val (.int pv), .val (.int bx), .val (.int bY), .val (.int (3 : Int32)), .val (.long wc), .second, .val (.long (wr + dy)), .second, .val (.long (wc + dx)), .second, .val (.long (wr + dy)), .second, .val (.ref a223), .val (.int pv), .val (.long (clx.toInt64)), .second, .val (.long (rwy.toInt64)), .second, .val (.int (1 : Int32)), .val (.long (clx.toInt64)), .second, .unset, .unset, .unset, .unset, .unset, .unset, .unset, .unset, .unset] [(.int (rwy + scy))]))
            have M230 := Fr.app M229 (Fr.nil n0)
            refine w_i2l X230 hx (Jvm.hb hby at_685) (pc' := 686) rfl ?_
            refine w_lstore X230 hx (Jvm.hb hby at_686) #[.val (.long q0), .second, .val (.long q1), .second, .val (.int p2), .val (.int p3), .val (.long q4), .second, .val (.long q5), .second, .val (.long vm), .second, .val (.long kx), .second, .val (.long vk), .second, .val (.long sd), .second, .val (.long vq), .second, .val (.long lo), .second, .val (.long hi), .second, .val (.long cn), .second, .val (.long cx), .second, .val (.long cy), .second, .val (.int d1), .val (.int d2), .val (.long ax), .second, .val (.long ay), .second, .val (.long gx), .second, .val (.long gy), .second, .val (.long vs), .second, .val (.long vt), .second, .val (.long xa), .second, .val (.long ya), .second, .val (.long xb), .second, .val (.long yb), .second, .val (.long dx), .second, .val (.long dy), .second, .val (.long wc), .second, .val (.long wr), .second, .val (.int pv), .val (.int bx), .val (.int bY), .val (.int (3 : Int32)), .val (.long wc), .second, .val (.long (wr + dy)), .second, .val (.long (wc + dx)), .second, .val (.long (wr + dy)), .second, .val (.ref a223), .val (.int pv), .val (.long (clx.toInt64)), .second, .val (.long (rwy.toInt64)), .second, .val (.int (1 : Int32)), .val (.long (clx.toInt64)), .second, .val (.long ((rwy + scy).toInt64)), .second, .unset, .unset, .unset, .unset, .unset, .unset, .unset] rfl  (pc' := 688) rfl ?_
            refine w_aload X230 hx (Jvm.hb hby at_688) rfl rfl (pc' := 690) rfl ?_
            refine w_callV X230 hx hZ hown (hw _ (List.mem_of_getElem? (i := 64) rfl)) (hw _ (List.mem_of_getElem? (i := 65) rfl)) (notFace_of_selects (args := #[]) (mvT hZ (hw _ (List.mem_of_getElem? (i := 67) rfl)))) (hw _ (List.mem_of_getElem? (i := 67) rfl)) (hw _ (List.mem_of_getElem? (i := 66) rfl)) (hw _ (List.mem_of_getElem? (i := 24) rfl)) (hw _ (List.mem_of_getElem? (i := 68) rfl)) (by decide) (W := 0) (rmN_x l Z aw hw [] a223 sd spx spy scx scy pv clx (rwy + scy) tcx (tcy + sd) T228.heap n0 GA O228 hp1.1 (own_c HX AX hgx').1 (own_c HY AY hgy').2.1) e230 (by decide) (by decide) (by decide) (by decide) (O228.2.2.2.2.2.2.2.2.2.2.2) (Jvm.hb hby at_690) (by rw [hml]; rfl) (argsL := []) (rest := []) pd_7 rfl rfl rfl (Nat.le_of_eq rfl) (pc' := 693) rfl ?_
            rintro _ T231 L231 X231 ⟨rfl, N231, K231, O231⟩
            show Ow p e below s _ _ _ (T231.setTop (mkF m 693 #[.val (.long q0), .second, .val (.long q1), .second, .val (.int p2), .val (.int p3), .val (.long q4), .second, .val (.long q5), .second, .val (.long vm), .second, .val (.long kx), .second, .val (.long vk), .second, .val (.long sd), .second, .val (.long vq), .second, .val (.long lo), .second, .val (.long hi), .second, .val (.long cn), .second, .val (.long cx), .second, .val (.long cy), .second, .val (.int d1), .val (.int d2), .val (.long ax), .second, .val (.long ay), .second, .val (.long gx), .second, .val (.long gy), .second, .val (.long vs), .second, .val (.long vt), .second, .val (.long xa), .second, .val (.long ya), .second, .val (.long xb), .second, .val (.long yb), .second, .val (.long dx), .second, .val (.long dy), .second, .val (.long wc), .second, .val (.long wr), .second, .val (.int pv), .val (.int bx), .val (.int bY), .val (.int (3 : Int32)), .val (.long wc), .second, .val (.long (wr + dy)), .second, .val (.long (wc + dx)), .second, .val (.long (wr + dy)), .second, .val (.ref a223), .val (.int pv), .val (.long (clx.toInt64)), .second, .val (.long (rwy.toInt64)), .second, .val (.int (1 : Int32)), .val (.long (clx.toInt64)), .second, .val (.long ((rwy + scy).toInt64)), .second, .unset, .unset, .unset, .unset, .unset, .unset, .unset] [(.int (1 : Int32))]))
            have M231 := Fr.app M230 N231
            refine w_istore X231 hx (Jvm.hb hby at_693) #[.val (.long q0), .second, .val (.long q1), .second, .val (.int p2), .val (.int p3), .val (.long q4), .second, .val (.long q5), .second, .val (.long vm), .second, .val (.long kx), .second, .val (.long vk), .second, .val (.long sd), .second, .val (.long vq), .second, .val (.long lo), .second, .val (.long hi), .second, .val (.long cn), .second, .val (.long cx), .second, .val (.long cy), .second, .val (.int d1), .val (.int d2), .val (.long ax), .second, .val (.long ay), .second, .val (.long gx), .second, .val (.long gy), .second, .val (.long vs), .second, .val (.long vt), .second, .val (.long xa), .second, .val (.long ya), .second, .val (.long xb), .second, .val (.long yb), .second, .val (.long dx), .second, .val (.long dy), .second, .val (.long wc), .second, .val (.long wr), .second, .val (.int pv), .val (.int bx), .val (.int bY), .val (.int (3 : Int32)), .val (.long wc), .second, .val (.long (wr + dy)), .second, .val (.long (wc + dx)), .second, .val (.long (wr + dy)), .second, .val (.ref a223), .val (.int pv), .val (.long (clx.toInt64)), .second, .val (.long (rwy.toInt64)), .second, .val (.int (1 : Int32)), .val (.long (clx.toInt64)), .second, .val (.long ((rwy + scy).toInt64)), .second, .val (.int (1 : Int32)), .unset, .unset, .unset, .unset, .unset, .unset] rfl  (pc' := 695) rfl ?_
            refine w_aload X231 hx (Jvm.hb hby at_695) rfl rfl (pc' := 697) rfl ?_
            refine w_callV X231 hx hZ hown (hw _ (List.mem_of_getElem? (i := 71) rfl)) (hw _ (List.mem_of_getElem? (i := 72) rfl)) (notFace_of_selects (args := #[]) (mvT hZ (hw _ (List.mem_of_getElem? (i := 74) rfl)))) (hw _ (List.mem_of_getElem? (i := 74) rfl)) (hw _ (List.mem_of_getElem? (i := 73) rfl)) (hw _ (List.mem_of_getElem? (i := 24) rfl)) (hw _ (List.mem_of_getElem? (i := 75) rfl)) (by decide) (W := 0) (rm11 l Z aw hw [] a223 (clx + scx) T231.heap (O231.2.2.2.2.2.2.1)) rfl (by decide) (by decide) (by decide) (by decide) (O231.2.2.2.2.2.2.2.2.2.2.2) (Jvm.hb hby at_697) (by rw [hml]; rfl) (argsL := []) (rest := []) pd_8 rfl rfl rfl (Nat.le_of_eq rfl) (pc' := 700) rfl ?_
            rintro _ T232 L232 X232 ⟨rfl, e232, rfl⟩
            show Ow p e below s _ _ _ (T232.setTop (mkF m 700 #[.val (.long q0), .second, .val (.long q1), .second, .val (.int p2), .val (.int p3), .val (.long q4), .second, .val (.long q5), .second, .val (.long vm), .second, .val (.long kx), .second, .val (.long vk), .second, .val (.long sd), .second, .val (.long vq), .second, .val (.long lo), .second, .val (.long hi), .second, .val (.long cn), .second, .val (.long cx), .second, .val (.long cy), .second, .val (.int d1), .val (.int d2), .val (.long ax), .second, .val (.long ay), .second, .val (.long gx), .second, .val (.long gy), .second, .val (.long vs), .second, .val (.long vt), .second, .val (.long xa), .second, .val (.long ya), .second, .val (.long xb), .second, .val (.long yb), .second, .val (.long dx), .second, .val (.long dy), .second, .val (.long wc), .second, .val (.long wr), .second, .val (.int pv), .val (.int bx), .val (.int bY), .val (.int (3 : Int32)), .val (.long wc), .second, .val (.long (wr + dy)), .second, .val (.long (wc + dx)), .second, .val (.long (wr + dy)), .second, .val (.ref a223), .val (.int pv), .val (.long (clx.toInt64)), .second, .val (.long (rwy.toInt64)), .second, .val (.int (1 : Int32)), .val (.long (clx.toInt64)), .second, .val (.long ((rwy + scy).toInt64)), .second, .val (.int (1 : Int32)), .unset, .unset, .unset, .unset, .unset, .unset] [(.int (clx + scx))]))
            have M232 := Fr.app M231 (Fr.nil n0)
            refine w_i2l X232 hx (Jvm.hb hby at_700) (pc' := 701) rfl ?_
            refine w_lstore X232 hx (Jvm.hb hby at_701) #[.val (.long q0), .second, .val (.long q1), .second, .val (.int p2), .val (.int p3), .val (.long q4), .second, .val (.long q5), .second, .val (.long vm), .second, .val (.long kx), .second, .val (.long vk), .second, .val (.long sd), .second, .val (.long vq), .second, .val (.long lo), .second, .val (.long hi), .second, .val (.long cn), .second, .val (.long cx), .second, .val (.long cy), .second, .val (.int d1), .val (.int d2), .val (.long ax), .second, .val (.long ay), .second, .val (.long gx), .second, .val (.long gy), .second, .val (.long vs), .second, .val (.long vt), .second, .val (.long xa), .second, .val (.long ya), .second, .val (.long xb), .second, .val (.long yb), .second, .val (.long dx), .second, .val (.long dy), .second, .val (.long wc), .second, .val (.long wr), .second, .val (.int pv), .val (.int bx), .val (.int bY), .val (.int (3 : Int32)), .val (.long wc), .second, .val (.long (wr + dy)), .second, .val (.long (wc + dx)), .second, .val (.long (wr + dy)), .second, .val (.ref a223), .val (.int pv), .val (.long (clx.toInt64)), .second, .val (.long (rwy.toInt64)), .second, .val (.int (1 : Int32)), .val (.long (clx.toInt64)), .second, .val (.long ((rwy + scy).toInt64)), .second, .val (.int (1 : Int32)), .val (.long ((clx + scx).toInt64)), .second, .unset, .unset, .unset, .unset] rfl  (pc' := 703) rfl ?_
            refine w_aload X232 hx (Jvm.hb hby at_703) rfl rfl (pc' := 705) rfl ?_
            refine w_callV X232 hx hZ hown (hw _ (List.mem_of_getElem? (i := 76) rfl)) (hw _ (List.mem_of_getElem? (i := 77) rfl)) (notFace_of_selects (args := #[]) (mvT hZ (hw _ (List.mem_of_getElem? (i := 79) rfl)))) (hw _ (List.mem_of_getElem? (i := 79) rfl)) (hw _ (List.mem_of_getElem? (i := 78) rfl)) (hw _ (List.mem_of_getElem? (i := 24) rfl)) (hw _ (List.mem_of_getElem? (i := 80) rfl)) (by decide) (W := 0) (rm12 l Z aw hw [] a223 (rwy + scy) T231.heap (O231.2.2.2.2.2.2.2.1)) e232 (by decide) (by decide) (by decide) (by decide) (O231.2.2.2.2.2.2.2.2.2.2.2) (Jvm.hb hby at_705) (by rw [hml]; rfl) (argsL := []) (rest := []) pd_8 rfl rfl rfl (Nat.le_of_eq rfl) (pc' := 708) rfl ?_
            rintro _ T233 L233 X233 ⟨rfl, e233, rfl⟩
            show Ow p e below s _ _ _ (T233.setTop (mkF m 708 #[.val (.long q0), .second, .val (.long q1), .second, .val (.int p2), .val (.int p3), .val (.long q4), .second, .val (.long q5), .second, .val (.long vm), .second, .val (.long kx), .second, .val (.long vk), .second, .val (.long sd), .second, .val (.long vq), .second, .val (.long lo), .second, .val (.long hi), .second, .val (.long cn), .second, .val (.long cx), .second, .val (.long cy), .second, .val (.int d1), .val (.int d2), .val (.long ax), .second, .val (.long ay), .second, .val (.long gx), .second, .val (.long gy), .second, .val (.long vs), .second, .val (.long vt), .second, .val (.long xa), .second, .val (.long ya), .second, .val (.long xb), .second, .val (.long yb), .second, .val (.long dx), .second, .val (.long dy), .second, .val (.long wc), .second, .val (.long wr), .second, .val (.int pv), .val (.int bx), .val (.int bY), .val (.int (3 : Int32)), .val (.long wc), .second, .val (.long (wr + dy)), .second, .val (.long (wc + dx)), .second, .val (.long (wr + dy)), .second, .val (.ref a223), .val (.int pv), .val (.long (clx.toInt64)), .second, .val (.long (rwy.toInt64)), .second, .val (.int (1 : Int32)), .val (.long (clx.toInt64)), .second, .val (.long ((rwy + scy).toInt64)), .second, .val (.int (1 : Int32)), .val (.long ((clx + scx).toInt64)), .second, .unset, .unset, .unset, .unset] [(.int (rwy + scy))]))
            have M233 := Fr.app M232 (Fr.nil n0)
            refine w_i2l X233 hx (Jvm.hb hby at_708) (pc' := 709) rfl ?_
            refine w_lstore X233 hx (Jvm.hb hby at_709) #[.val (.long q0), .second, .val (.long q1), .second, .val (.int p2), .val (.int p3), .val (.long q4), .second, .val (.long q5), .second, .val (.long vm), .second, .val (.long kx), .second, .val (.long vk), .second, .val (.long sd), .second, .val (.long vq), .second, .val (.long lo), .second, .val (.long hi), .second, .val (.long cn), .second, .val (.long cx), .second, .val (.long cy), .second, .val (.int d1), .val (.int d2), .val (.long ax), .second, .val (.long ay), .second, .val (.long gx), .second, .val (.long gy), .second, .val (.long vs), .second, .val (.long vt), .second, .val (.long xa), .second, .val (.long ya), .second, .val (.long xb), .second, .val (.long yb), .second, .val (.long dx), .second, .val (.long dy), .second, .val (.long wc), .second, .val (.long wr), .second, .val (.int pv), .val (.int bx), .val (.int bY), .val (.int (3 : Int32)), .val (.long wc), .second, .val (.long (wr + dy)), .second, .val (.long (wc + dx)), .second, .val (.long (wr + dy)), .second, .val (.ref a223), .val (.int pv), .val (.long (clx.toInt64)), .second, .val (.long (rwy.toInt64)), .second, .val (.int (1 : Int32)), .val (.long (clx.toInt64)), .second, .val (.long ((rwy + scy).toInt64)), .second, .val (.int (1 : Int32)), .val (.long ((clx + scx).toInt64)), .second, .val (.long ((rwy + scy).toInt64)), .second, .unset, .unset] rfl  (pc' := 711) rfl ?_
            refine w_aload X233 hx (Jvm.hb hby at_711) rfl rfl (pc' := 713) rfl ?_
            refine w_callV X233 hx hZ hown (hw _ (List.mem_of_getElem? (i := 64) rfl)) (hw _ (List.mem_of_getElem? (i := 65) rfl)) (notFace_of_selects (args := #[]) (mvT hZ (hw _ (List.mem_of_getElem? (i := 67) rfl)))) (hw _ (List.mem_of_getElem? (i := 67) rfl)) (hw _ (List.mem_of_getElem? (i := 66) rfl)) (hw _ (List.mem_of_getElem? (i := 24) rfl)) (hw _ (List.mem_of_getElem? (i := 68) rfl)) (by decide) (W := 0) (rmN_stop l Z aw hw [] a223 sd spx spy scx scy pv (clx + scx) (rwy + scy) (tcx + sd) (tcy + sd) T231.heap n0 GA O231 hp1.1 (own_c HX AX hgx').2.1 (own_c HY AY hgy').2.1) e233 (by decide) (by decide) (by decide) (by decide) (O231.2.2.2.2.2.2.2.2.2.2.2) (Jvm.hb hby at_713) (by rw [hml]; rfl) (argsL := []) (rest := []) pd_7 rfl rfl rfl (Nat.le_of_eq rfl) (pc' := 716) rfl ?_
            rintro _ T234 L234 X234 ⟨rfl, N234, K234, O234⟩
            show Ow p e below s _ _ _ (T234.setTop (mkF m 716 #[.val (.long q0), .second, .val (.long q1), .second, .val (.int p2), .val (.int p3), .val (.long q4), .second, .val (.long q5), .second, .val (.long vm), .second, .val (.long kx), .second, .val (.long vk), .second, .val (.long sd), .second, .val (.long vq), .second, .val (.long lo), .second, .val (.long hi), .second, .val (.long cn), .second, .val (.long cx), .second, .val (.long cy), .second, .val (.int d1), .val (.int d2), .val (.long ax), .second, .val (.long ay), .second, .val (.long gx), .second, .val (.long gy), .second, .val (.long vs), .second, .val (.long vt), .second, .val (.long xa), .second, .val (.long ya), .second, .val (.long xb), .second, .val (.long yb), .second, .val (.long dx), .second, .val (.long dy), .second, .val (.long wc), .second, .val (.long wr), .second, .val (.int pv), .val (.int bx), .val (.int bY), .val (.int (3 : Int32)), .val (.long wc), .second, .val (.long (wr + dy)), .second, .val (.long (wc + dx)), .second, .val (.long (wr + dy)), .second, .val (.ref a223), .val (.int pv), .val (.long (clx.toInt64)), .second, .val (.long (rwy.toInt64)), .second, .val (.int (1 : Int32)), .val (.long (clx.toInt64)), .second, .val (.long ((rwy + scy).toInt64)), .second, .val (.int (1 : Int32)), .val (.long ((clx + scx).toInt64)), .second, .val (.long ((rwy + scy).toInt64)), .second, .unset, .unset] [(.int (0 : Int32))]))
            have M234 := Fr.app M233 N234
            refine w_istore X234 hx (Jvm.hb hby at_716) #[.val (.long q0), .second, .val (.long q1), .second, .val (.int p2), .val (.int p3), .val (.long q4), .second, .val (.long q5), .second, .val (.long vm), .second, .val (.long kx), .second, .val (.long vk), .second, .val (.long sd), .second, .val (.long vq), .second, .val (.long lo), .second, .val (.long hi), .second, .val (.long cn), .second, .val (.long cx), .second, .val (.long cy), .second, .val (.int d1), .val (.int d2), .val (.long ax), .second, .val (.long ay), .second, .val (.long gx), .second, .val (.long gy), .second, .val (.long vs), .second, .val (.long vt), .second, .val (.long xa), .second, .val (.long ya), .second, .val (.long xb), .second, .val (.long yb), .second, .val (.long dx), .second, .val (.long dy), .second, .val (.long wc), .second, .val (.long wr), .second, .val (.int pv), .val (.int bx), .val (.int bY), .val (.int (3 : Int32)), .val (.long wc), .second, .val (.long (wr + dy)), .second, .val (.long (wc + dx)), .second, .val (.long (wr + dy)), .second, .val (.ref a223), .val (.int pv), .val (.long (clx.toInt64)), .second, .val (.long (rwy.toInt64)), .second, .val (.int (1 : Int32)), .val (.long (clx.toInt64)), .second, .val (.long ((rwy + scy).toInt64)), .second, .val (.int (1 : Int32)), .val (.long ((clx + scx).toInt64)), .second, .val (.long ((rwy + scy).toInt64)), .second, .val (.int (0 : Int32)), .unset] rfl  (pc' := 718) rfl ?_
            refine w_iload X234 hx (Jvm.hb hby at_718) rfl (pc' := 720) rfl ?_
            refine w_iload X234 hx (Jvm.hb hby at_720) rfl (pc' := 722) rfl ?_
            refine w_iconst X234 hx (1 : Int32) (Jvm.hb hby at_722) (by decide) (pc' := 723) rfl ?_
            refine w_icmp_lt X234 hx (Jvm.hb hby at_723) (by decide) (pcT := 730) (by decide) (pcF := 726) rfl (fun q => absurd q (show ¬ (3 : Int32) < (1 : Int32) from by decide)) (fun _ => ?_)
            refine w_iconst X234 hx (1 : Int32) (Jvm.hb hby at_726) (by decide) (pc' := 727) rfl ?_
            refine w_goto X234 hx (Jvm.hb hby at_727) (by decide) (pc' := 731) (by decide) ?_
            refine w_icmp_ne X234 hx (Jvm.hb hby at_731) (by decide) (pcT := 775) (by decide) (pcF := 734) rfl (fun q => absurd hp1.1 q) (fun _ => ?_)
            refine w_iload X234 hx (Jvm.hb hby at_734) rfl (pc' := 736) rfl ?_
            refine w_iload X234 hx (Jvm.hb hby at_736) rfl (pc' := 738) rfl ?_
            refine w_iconst X234 hx (2 : Int32) (Jvm.hb hby at_738) (by decide) (pc' := 739) rfl ?_
            refine w_icmp_lt X234 hx (Jvm.hb hby at_739) (by decide) (pcT := 746) (by decide) (pcF := 742) rfl (fun q => absurd q (show ¬ (3 : Int32) < (2 : Int32) from by decide)) (fun _ => ?_)
            refine w_iconst X234 hx (1 : Int32) (Jvm.hb hby at_742) (by decide) (pc' := 743) rfl ?_
            refine w_goto X234 hx (Jvm.hb hby at_743) (by decide) (pc' := 747) (by decide) ?_
            refine w_icmp_ne X234 hx (Jvm.hb hby at_747) (by decide) (pcT := 775) (by decide) (pcF := 750) rfl (fun q => absurd (show (1 : Int32) = (1 : Int32) from by decide) q) (fun _ => ?_)
            refine w_iload X234 hx (Jvm.hb hby at_750) rfl (pc' := 752) rfl ?_
            refine w_iload X234 hx (Jvm.hb hby at_752) rfl (pc' := 754) rfl ?_
            refine w_iconst X234 hx (3 : Int32) (Jvm.hb hby at_754) (by decide) (pc' := 755) rfl ?_
            refine w_icmp_lt X234 hx (Jvm.hb hby at_755) (by decide) (pcT := 762) (by decide) (pcF := 758) rfl (fun q => absurd q (show ¬ (3 : Int32) < (3 : Int32) from by decide)) (fun _ => ?_)
            refine w_iconst X234 hx (1 : Int32) (Jvm.hb hby at_758) (by decide) (pc' := 759) rfl ?_
            refine w_goto X234 hx (Jvm.hb hby at_759) (by decide) (pc' := 763) (by decide) ?_
            refine w_icmp_ne X234 hx (Jvm.hb hby at_763) (by decide) (pcT := 775) (by decide) (pcF := 766) rfl (fun q => absurd (show (1 : Int32) = (1 : Int32) from by decide) q) (fun _ => ?_)
            refine w_iload X234 hx (Jvm.hb hby at_766) rfl (pc' := 768) rfl ?_
            refine w_if_ne X234 hx (Jvm.hb hby at_768) (by decide) (pcT := 775) (by decide) (pcF := 771) rfl (fun q => absurd (show (0 : Int32) = 0 from by decide) q) (fun _ => ?_)
            refine w_iconst X234 hx (1 : Int32) (Jvm.hb hby at_771) (by decide) (pc' := 772) rfl ?_
            refine w_goto X234 hx (Jvm.hb hby at_772) (by decide) (pc' := 776) (by decide) ?_
            refine w_istore X234 hx (Jvm.hb hby at_776) #[.val (.long q0), .second, .val (.long q1), .second, .val (.int p2), .val (.int p3), .val (.long q4), .second, .val (.long q5), .second, .val (.long vm), .second, .val (.long kx), .second, .val (.long vk), .second, .val (.long sd), .second, .val (.long vq), .second, .val (.long lo), .second, .val (.long hi), .second, .val (.long cn), .second, .val (.long cx), .second, .val (.long cy), .second, .val (.int d1), .val (.int d2), .val (.long ax), .second, .val (.long ay), .second, .val (.long gx), .second, .val (.long gy), .second, .val (.long vs), .second, .val (.long vt), .second, .val (.long xa), .second, .val (.long ya), .second, .val (.long xb), .second, .val (.long yb), .second, .val (.long dx), .second, .val (.long dy), .second, .val (.long wc), .second, .val (.long wr), .second, .val (.int pv), .val (.int bx), .val (.int bY), .val (.int (3 : Int32)), .val (.long wc), .second, .val (.long (wr + dy)), .second, .val (.long (wc + dx)), .second, .val (.long (wr + dy)), .second, .val (.ref a223), .val (.int pv), .val (.long (clx.toInt64)), .second, .val (.long (rwy.toInt64)), .second, .val (.int (1 : Int32)), .val (.long (clx.toInt64)), .second, .val (.long ((rwy + scy).toInt64)), .second, .val (.int (1 : Int32)), .val (.long ((clx + scx).toInt64)), .second, .val (.long ((rwy + scy).toInt64)), .second, .val (.int (0 : Int32)), .val (.int (1 : Int32))] rfl  (pc' := 778) rfl ?_
            refine w_iload X234 hx (Jvm.hb hby at_778) rfl (pc' := 780) rfl ?_
            refine w_iconst X234 hx (1 : Int32) (Jvm.hb hby at_780) (by decide) (pc' := 781) rfl ?_
            refine w_icmp_lt X234 hx (Jvm.hb hby at_781) (by decide) (pcT := 812) (by decide) (pcF := 784) rfl (fun q => absurd q (show ¬ (3 : Int32) < (1 : Int32) from by decide)) (fun _ => ?_)
            refine w_iload X234 hx (Jvm.hb hby at_784) rfl (pc' := 786) rfl ?_
            refine w_if_eq X234 hx (Jvm.hb hby at_786) (by decide) (pcT := 809) (by decide) (pcF := 789) rfl (fun q => absurd q (show ¬ (1 : Int32) = 0 from by decide)) (fun _ => ?_)
            refine w_lload X234 hx (Jvm.hb hby at_789) rfl (pc' := 791) rfl ?_
            refine w_lload X234 hx (Jvm.hb hby at_791) rfl (pc' := 793) rfl ?_
            refine w_lcmp_ne X234 hx (Jvm.hb hby at_793) (Jvm.hb hby at_794) rfl (by decide) (pcT := 809) (by decide) (pcF := 797) rfl (fun q => absurd (own_col HX AX hwc hp1.2.1).1 q) (fun _ => ?_)
            refine w_lload X234 hx (Jvm.hb hby at_797) rfl (pc' := 799) rfl ?_
            refine w_lload X234 hx (Jvm.hb hby at_799) rfl (pc' := 801) rfl ?_
            refine w_lcmp_ne X234 hx (Jvm.hb hby at_801) (Jvm.hb hby at_802) rfl (by decide) (pcT := 809) (by decide) (pcF := 805) rfl (fun q => absurd (own_col HY AY hwr hp1.2.2).1 q) (fun _ => ?_)
            refine w_iconst X234 hx (1 : Int32) (Jvm.hb hby at_805) (by decide) (pc' := 806) rfl ?_
            refine w_goto X234 hx (Jvm.hb hby at_806) (by decide) (pc' := 810) (by decide) ?_
            refine w_istore X234 hx (Jvm.hb hby at_810) #[.val (.long q0), .second, .val (.long q1), .second, .val (.int p2), .val (.int p3), .val (.long q4), .second, .val (.long q5), .second, .val (.long vm), .second, .val (.long kx), .second, .val (.long vk), .second, .val (.long sd), .second, .val (.long vq), .second, .val (.long lo), .second, .val (.long hi), .second, .val (.long cn), .second, .val (.long cx), .second, .val (.long cy), .second, .val (.int d1), .val (.int d2), .val (.long ax), .second, .val (.long ay), .second, .val (.long gx), .second, .val (.long gy), .second, .val (.long vs), .second, .val (.long vt), .second, .val (.long xa), .second, .val (.long ya), .second, .val (.long xb), .second, .val (.long yb), .second, .val (.long dx), .second, .val (.long dy), .second, .val (.long wc), .second, .val (.long wr), .second, .val (.int pv), .val (.int bx), .val (.int bY), .val (.int (3 : Int32)), .val (.long wc), .second, .val (.long (wr + dy)), .second, .val (.long (wc + dx)), .second, .val (.long (wr + dy)), .second, .val (.ref a223), .val (.int pv), .val (.long (clx.toInt64)), .second, .val (.long (rwy.toInt64)), .second, .val (.int (1 : Int32)), .val (.long (clx.toInt64)), .second, .val (.long ((rwy + scy).toInt64)), .second, .val (.int (1 : Int32)), .val (.long ((clx + scx).toInt64)), .second, .val (.long ((rwy + scy).toInt64)), .second, .val (.int (0 : Int32)), .val (.int (1 : Int32))] rfl  (pc' := 812) rfl ?_
            refine w_iload X234 hx (Jvm.hb hby at_812) rfl (pc' := 814) rfl ?_
            refine w_iconst X234 hx (2 : Int32) (Jvm.hb hby at_814) (by decide) (pc' := 815) rfl ?_
            refine w_icmp_lt X234 hx (Jvm.hb hby at_815) (by decide) (pcT := 846) (by decide) (pcF := 818) rfl (fun q => absurd q (show ¬ (3 : Int32) < (2 : Int32) from by decide)) (fun _ => ?_)
            refine w_iload X234 hx (Jvm.hb hby at_818) rfl (pc' := 820) rfl ?_
            refine w_if_eq X234 hx (Jvm.hb hby at_820) (by decide) (pcT := 843) (by decide) (pcF := 823) rfl (fun q => absurd q (show ¬ (1 : Int32) = 0 from by decide)) (fun _ => ?_)
            refine w_lload X234 hx (Jvm.hb hby at_823) rfl (pc' := 825) rfl ?_
            refine w_lload X234 hx (Jvm.hb hby at_825) rfl (pc' := 827) rfl ?_
            refine w_lcmp_ne X234 hx (Jvm.hb hby at_827) (Jvm.hb hby at_828) rfl (by decide) (pcT := 843) (by decide) (pcF := 831) rfl (fun q => absurd (own_col HX AX hwc hp1.2.1).1 q) (fun _ => ?_)
            refine w_lload X234 hx (Jvm.hb hby at_831) rfl (pc' := 833) rfl ?_
            refine w_lload X234 hx (Jvm.hb hby at_833) rfl (pc' := 835) rfl ?_
            refine w_lcmp_ne X234 hx (Jvm.hb hby at_835) (Jvm.hb hby at_836) rfl (by decide) (pcT := 843) (by decide) (pcF := 839) rfl (fun q => absurd (own_colS HY AY hwr hdy hgy') q) (fun _ => ?_)
            refine w_iconst X234 hx (1 : Int32) (Jvm.hb hby at_839) (by decide) (pc' := 840) rfl ?_
            refine w_goto X234 hx (Jvm.hb hby at_840) (by decide) (pc' := 844) (by decide) ?_
            refine w_istore X234 hx (Jvm.hb hby at_844) #[.val (.long q0), .second, .val (.long q1), .second, .val (.int p2), .val (.int p3), .val (.long q4), .second, .val (.long q5), .second, .val (.long vm), .second, .val (.long kx), .second, .val (.long vk), .second, .val (.long sd), .second, .val (.long vq), .second, .val (.long lo), .second, .val (.long hi), .second, .val (.long cn), .second, .val (.long cx), .second, .val (.long cy), .second, .val (.int d1), .val (.int d2), .val (.long ax), .second, .val (.long ay), .second, .val (.long gx), .second, .val (.long gy), .second, .val (.long vs), .second, .val (.long vt), .second, .val (.long xa), .second, .val (.long ya), .second, .val (.long xb), .second, .val (.long yb), .second, .val (.long dx), .second, .val (.long dy), .second, .val (.long wc), .second, .val (.long wr), .second, .val (.int pv), .val (.int bx), .val (.int bY), .val (.int (3 : Int32)), .val (.long wc), .second, .val (.long (wr + dy)), .second, .val (.long (wc + dx)), .second, .val (.long (wr + dy)), .second, .val (.ref a223), .val (.int pv), .val (.long (clx.toInt64)), .second, .val (.long (rwy.toInt64)), .second, .val (.int (1 : Int32)), .val (.long (clx.toInt64)), .second, .val (.long ((rwy + scy).toInt64)), .second, .val (.int (1 : Int32)), .val (.long ((clx + scx).toInt64)), .second, .val (.long ((rwy + scy).toInt64)), .second, .val (.int (0 : Int32)), .val (.int (1 : Int32))] rfl  (pc' := 846) rfl ?_
            refine w_iload X234 hx (Jvm.hb hby at_846) rfl (pc' := 848) rfl ?_
            refine w_iconst X234 hx (3 : Int32) (Jvm.hb hby at_848) (by decide) (pc' := 849) rfl ?_
            refine w_icmp_lt X234 hx (Jvm.hb hby at_849) (by decide) (pcT := 880) (by decide) (pcF := 852) rfl (fun q => absurd q (show ¬ (3 : Int32) < (3 : Int32) from by decide)) (fun _ => ?_)
            refine w_iload X234 hx (Jvm.hb hby at_852) rfl (pc' := 854) rfl ?_
            refine w_if_eq X234 hx (Jvm.hb hby at_854) (by decide) (pcT := 877) (by decide) (pcF := 857) rfl (fun q => absurd q (show ¬ (1 : Int32) = 0 from by decide)) (fun _ => ?_)
            refine w_lload X234 hx (Jvm.hb hby at_857) rfl (pc' := 859) rfl ?_
            refine w_lload X234 hx (Jvm.hb hby at_859) rfl (pc' := 861) rfl ?_
            refine w_lcmp_ne X234 hx (Jvm.hb hby at_861) (Jvm.hb hby at_862) rfl (by decide) (pcT := 877) (by decide) (pcF := 865) rfl (fun q => absurd (own_colS HX AX hwc hdx hgx') q) (fun _ => ?_)
            refine w_lload X234 hx (Jvm.hb hby at_865) rfl (pc' := 867) rfl ?_
            refine w_lload X234 hx (Jvm.hb hby at_867) rfl (pc' := 869) rfl ?_
            refine w_lcmp_ne X234 hx (Jvm.hb hby at_869) (Jvm.hb hby at_870) rfl (by decide) (pcT := 877) (by decide) (pcF := 873) rfl (fun q => absurd (own_colS HY AY hwr hdy hgy') q) (fun _ => ?_)
            refine w_iconst X234 hx (1 : Int32) (Jvm.hb hby at_873) (by decide) (pc' := 874) rfl ?_
            refine w_goto X234 hx (Jvm.hb hby at_874) (by decide) (pc' := 878) (by decide) ?_
            refine w_istore X234 hx (Jvm.hb hby at_878) #[.val (.long q0), .second, .val (.long q1), .second, .val (.int p2), .val (.int p3), .val (.long q4), .second, .val (.long q5), .second, .val (.long vm), .second, .val (.long kx), .second, .val (.long vk), .second, .val (.long sd), .second, .val (.long vq), .second, .val (.long lo), .second, .val (.long hi), .second, .val (.long cn), .second, .val (.long cx), .second, .val (.long cy), .second, .val (.int d1), .val (.int d2), .val (.long ax), .second, .val (.long ay), .second, .val (.long gx), .second, .val (.long gy), .second, .val (.long vs), .second, .val (.long vt), .second, .val (.long xa), .second, .val (.long ya), .second, .val (.long xb), .second, .val (.long yb), .second, .val (.long dx), .second, .val (.long dy), .second, .val (.long wc), .second, .val (.long wr), .second, .val (.int pv), .val (.int bx), .val (.int bY), .val (.int (3 : Int32)), .val (.long wc), .second, .val (.long (wr + dy)), .second, .val (.long (wc + dx)), .second, .val (.long (wr + dy)), .second, .val (.ref a223), .val (.int pv), .val (.long (clx.toInt64)), .second, .val (.long (rwy.toInt64)), .second, .val (.int (1 : Int32)), .val (.long (clx.toInt64)), .second, .val (.long ((rwy + scy).toInt64)), .second, .val (.int (1 : Int32)), .val (.long ((clx + scx).toInt64)), .second, .val (.long ((rwy + scy).toInt64)), .second, .val (.int (0 : Int32)), .val (.int (1 : Int32))] rfl  (pc' := 880) rfl ?_
            refine w_iload X234 hx (Jvm.hb hby at_880) rfl (pc' := 882) rfl ?_
            exact w_zreturn X234 hx Bd.returns (Or.inr rfl) (BodyLoose.notSynchronized Bd) (Nat.le_of_ble_eq_true rfl) (Nat.le_of_ble_eq_true rfl) (Jvm.hb hby at_882) ⟨rfl, by simpa using M234⟩
        · refine w_iconst X174 hx (3 : Int32) (Jvm.hb hby at_486) (by decide) (pc' := 487) rfl ?_
          refine w_istore X174 hx (Jvm.hb hby at_487) #[.val (.long q0), .second, .val (.long q1), .second, .val (.int p2), .val (.int p3), .val (.long q4), .second, .val (.long q5), .second, .val (.long vm), .second, .val (.long kx), .second, .val (.long vk), .second, .val (.long sd), .second, .val (.long vq), .second, .val (.long lo), .second, .val (.long hi), .second, .val (.long cn), .second, .val (.long cx), .second, .val (.long cy), .second, .val (.int d1), .val (.int d2), .val (.long ax), .second, .val (.long ay), .second, .val (.long gx), .second, .val (.long gy), .second, .val (.long vs), .second, .val (.long vt), .second, .val (.long xa), .second, .val (.long ya), .second, .val (.long xb), .second, .val (.long yb), .second, .val (.long dx), .second, .val (.long dy), .second, .val (.long wc), .second, .val (.long wr), .second, .val (.int pv), .val (.int bx), .val (.int bY), .val (.int (3 : Int32)), .val (.long (0 : Int64)), .second, .val (.long (0 : Int64)), .second, .val (.long (0 : Int64)), .second, .val (.long (0 : Int64)), .second, .val (.long (gx * vt)), .second, .val (.long (gy * vs)), .second, .unset, .unset, .unset, .unset, .unset, .unset, .unset, .unset, .unset, .unset, .unset, .unset, .unset, .unset] rfl  (pc' := 489) rfl ?_
          refine w_lload X174 hx (Jvm.hb hby at_489) rfl (pc' := 491) rfl ?_
          refine w_lload X174 hx (Jvm.hb hby at_491) rfl (pc' := 493) rfl ?_
          refine w_ladd X174 hx (Jvm.hb hby at_493) (pc' := 494) rfl ?_
          refine w_lstore X174 hx (Jvm.hb hby at_494) #[.val (.long q0), .second, .val (.long q1), .second, .val (.int p2), .val (.int p3), .val (.long q4), .second, .val (.long q5), .second, .val (.long vm), .second, .val (.long kx), .second, .val (.long vk), .second, .val (.long sd), .second, .val (.long vq), .second, .val (.long lo), .second, .val (.long hi), .second, .val (.long cn), .second, .val (.long cx), .second, .val (.long cy), .second, .val (.int d1), .val (.int d2), .val (.long ax), .second, .val (.long ay), .second, .val (.long gx), .second, .val (.long gy), .second, .val (.long vs), .second, .val (.long vt), .second, .val (.long xa), .second, .val (.long ya), .second, .val (.long xb), .second, .val (.long yb), .second, .val (.long dx), .second, .val (.long dy), .second, .val (.long wc), .second, .val (.long wr), .second, .val (.int pv), .val (.int bx), .val (.int bY), .val (.int (3 : Int32)), .val (.long (wc + dx)), .second, .val (.long (0 : Int64)), .second, .val (.long (0 : Int64)), .second, .val (.long (0 : Int64)), .second, .val (.long (gx * vt)), .second, .val (.long (gy * vs)), .second, .unset, .unset, .unset, .unset, .unset, .unset, .unset, .unset, .unset, .unset, .unset, .unset, .unset, .unset] rfl  (pc' := 496) rfl ?_
          refine w_lload X174 hx (Jvm.hb hby at_496) rfl (pc' := 498) rfl ?_
          refine w_lstore X174 hx (Jvm.hb hby at_498) #[.val (.long q0), .second, .val (.long q1), .second, .val (.int p2), .val (.int p3), .val (.long q4), .second, .val (.long q5), .second, .val (.long vm), .second, .val (.long kx), .second, .val (.long vk), .second, .val (.long sd), .second, .val (.long vq), .second, .val (.long lo), .second, .val (.long hi), .second, .val (.long cn), .second, .val (.long cx), .second, .val (.long cy), .second, .val (.int d1), .val (.int d2), .val (.long ax), .second, .val (.long ay), .second, .val (.long gx), .second, .val (.long gy), .second, .val (.long vs), .second, .val (.long vt), .second, .val (.long xa), .second, .val (.long ya), .second, .val (.long xb), .second, .val (.long yb), .second, .val (.long dx), .second, .val (.long dy), .second, .val (.long wc), .second, .val (.long wr), .second, .val (.int pv), .val (.int bx), .val (.int bY), .val (.int (3 : Int32)), .val (.long (wc + dx)), .second, .val (.long wr), .second, .val (.long (0 : Int64)), .second, .val (.long (0 : Int64)), .second, .val (.long (gx * vt)), .second, .val (.long (gy * vs)), .second, .unset, .unset, .unset, .unset, .unset, .unset, .unset, .unset, .unset, .unset, .unset, .unset, .unset, .unset] rfl  (pc' := 500) rfl ?_
          refine w_lload X174 hx (Jvm.hb hby at_500) rfl (pc' := 502) rfl ?_
          refine w_lload X174 hx (Jvm.hb hby at_502) rfl (pc' := 504) rfl ?_
          refine w_ladd X174 hx (Jvm.hb hby at_504) (pc' := 505) rfl ?_
          refine w_lstore X174 hx (Jvm.hb hby at_505) #[.val (.long q0), .second, .val (.long q1), .second, .val (.int p2), .val (.int p3), .val (.long q4), .second, .val (.long q5), .second, .val (.long vm), .second, .val (.long kx), .second, .val (.long vk), .second, .val (.long sd), .second, .val (.long vq), .second, .val (.long lo), .second, .val (.long hi), .second, .val (.long cn), .second, .val (.long cx), .second, .val (.long cy), .second, .val (.int d1), .val (.int d2), .val (.long ax), .second, .val (.long ay), .second, .val (.long gx), .second, .val (.long gy), .second, .val (.long vs), .second, .val (.long vt), .second, .val (.long xa), .second, .val (.long ya), .second, .val (.long xb), .second, .val (.long yb), .second, .val (.long dx), .second, .val (.long dy), .second, .val (.long wc), .second, .val (.long wr), .second, .val (.int pv), .val (.int bx), .val (.int bY), .val (.int (3 : Int32)), .val (.long (wc + dx)), .second, .val (.long wr), .second, .val (.long (wc + dx)), .second, .val (.long (0 : Int64)), .second, .val (.long (gx * vt)), .second, .val (.long (gy * vs)), .second, .unset, .unset, .unset, .unset, .unset, .unset, .unset, .unset, .unset, .unset, .unset, .unset, .unset, .unset] rfl  (pc' := 507) rfl ?_
          refine w_lload X174 hx (Jvm.hb hby at_507) rfl (pc' := 509) rfl ?_
          refine w_lload X174 hx (Jvm.hb hby at_509) rfl (pc' := 511) rfl ?_
          refine w_ladd X174 hx (Jvm.hb hby at_511) (pc' := 512) rfl ?_
          refine w_lstore X174 hx (Jvm.hb hby at_512) #[.val (.long q0), .second, .val (.long q1), .second, .val (.int p2), .val (.int p3), .val (.long q4), .second, .val (.long q5), .second, .val (.long vm), .second, .val (.long kx), .second, .val (.long vk), .second, .val (.long sd), .second, .val (.long vq), .second, .val (.long lo), .second, .val (.long hi), .second, .val (.long cn), .second, .val (.long cx), .second, .val (.long cy), .second, .val (.int d1), .val (.int d2), .val (.long ax), .second, .val (.long ay), .second, .val (.long gx), .second, .val (.long gy), .second, .val (.long vs), .second, .val (.long vt), .second, .val (.long xa), .second, .val (.long ya), .second, .val (.long xb), .second, .val (.long yb), .second, .val (.long dx), .second, .val (.long dy), .second, .val (.long wc), .second, .val (.long wr), .second, .val (.int pv), .val (.int bx), .val (.int bY), .val (.int (3 : Int32)), .val (.long (wc + dx)), .second, .val (.long wr), .second, .val (.long (wc + dx)), .second, .val (.long (wr + dy)), .second, .val (.long (gx * vt)), .second, .val (.long (gy * vs)), .second, .unset, .unset, .unset, .unset, .unset, .unset, .unset, .unset, .unset, .unset, .unset, .unset, .unset, .unset] rfl  (pc' := 514) rfl ?_
          refine w_goto X174 hx (Jvm.hb hby at_514) (by decide) (pc' := 573) (by decide) ?_
          refine w_goto X174 hx (Jvm.hb hby at_573) (by decide) (pc' := 623) (by decide) ?_
          refine w_new X174 hx hZ hown (hw _ (List.mem_of_getElem? (i := 22) rfl)) (hw _ (List.mem_of_getElem? (i := 23) rfl)) (hw _ (List.mem_of_getElem? (i := 24) rfl)) e174 (Jvm.hb hby at_623) (by decide) (by decide) (pc' := 626) rfl ?_
          intro T235 h235 a235 g235 X235 e235 E235 A235 D235
          have G235_side : Fld Z h235 a235 "com/example/sarutahiko/sarutahiko/lattice/SegmentWalk" "side" "J" (.long (0 : Int64)) := D235 (Or.inr (hw _ (List.mem_of_getElem? (i := 42) rfl))) (ty := .long) (by decide)
          have G235_spanX : Fld Z h235 a235 "com/example/sarutahiko/sarutahiko/lattice/SegmentWalk" "spanX" "J" (.long (0 : Int64)) := D235 (Or.inr (hw _ (List.mem_of_getElem? (i := 47) rfl))) (ty := .long) (by decide)
          have G235_spanY : Fld Z h235 a235 "com/example/sarutahiko/sarutahiko/lattice/SegmentWalk" "spanY" "J" (.long (0 : Int64)) := D235 (Or.inr (hw _ (List.mem_of_getElem? (i := 49) rfl))) (ty := .long) (by decide)
          have G235_stepColumn : Fld Z h235 a235 "com/example/sarutahiko/sarutahiko/lattice/SegmentWalk" "stepColumn" "I" (.int (0 : Int32)) := D235 (Or.inr (hw _ (List.mem_of_getElem? (i := 51) rfl))) (ty := .int) (by decide)
          have G235_stepRow : Fld Z h235 a235 "com/example/sarutahiko/sarutahiko/lattice/SegmentWalk" "stepRow" "I" (.int (0 : Int32)) := D235 (Or.inr (hw _ (List.mem_of_getElem? (i := 53) rfl))) (ty := .int) (by decide)
          have G235_passes : Fld Z h235 a235 "com/example/sarutahiko/sarutahiko/lattice/SegmentWalk" "passes" "Z" (.int (0 : Int32)) := D235 (Or.inr (hw _ (List.mem_of_getElem? (i := 63) rfl))) (ty := .boolean) (by decide)
          have G235_column : Fld Z h235 a235 "com/example/sarutahiko/sarutahiko/lattice/SegmentWalk" "column" "I" (.int (0 : Int32)) := D235 (Or.inl (hw _ (List.mem_of_getElem? (i := 59) rfl))) (ty := .int) (by decide)
          have G235_row : Fld Z h235 a235 "com/example/sarutahiko/sarutahiko/lattice/SegmentWalk" "row" "I" (.int (0 : Int32)) := D235 (Or.inl (hw _ (List.mem_of_getElem? (i := 61) rfl))) (ty := .int) (by decide)
          have G235_toColumnLine : Fld Z h235 a235 "com/example/sarutahiko/sarutahiko/lattice/SegmentWalk" "toColumnLine" "J" (.long (0 : Int64)) := D235 (Or.inl (hw _ (List.mem_of_getElem? (i := 55) rfl))) (ty := .long) (by decide)
          have G235_toRowLine : Fld Z h235 a235 "com/example/sarutahiko/sarutahiko/lattice/SegmentWalk" "toRowLine" "J" (.long (0 : Int64)) := D235 (Or.inl (hw _ (List.mem_of_getElem? (i := 57) rfl))) (ty := .long) (by decide)
          have G235_started : Fld Z h235 a235 "com/example/sarutahiko/sarutahiko/lattice/SegmentWalk" "started" "Z" (.int (0 : Int32)) := D235 (Or.inl (hw _ (List.mem_of_getElem? (i := 70) rfl))) (ty := .boolean) (by decide)
          have GA : n0 ≤ a235 := Nat.le_trans Z0 (Nat.le_of_eq g235.symm)
          have OO : SWo Z h235 a235 (0 : Int64) (0 : Int64) (0 : Int64) (0 : Int32) (0 : Int32) (0 : Int32) (0 : Int32) (0 : Int32) (0 : Int64) (0 : Int64) (0 : Int32) := ⟨G235_side, G235_spanX, G235_spanY, G235_stepColumn, G235_stepRow, G235_passes, G235_column, G235_row, G235_toColumnLine, G235_toRowLine, G235_started, A235⟩
          refine w_dup X235 hx (Jvm.hb hby at_626) rfl (pc' := 627) rfl ?_
          refine w_lload X235 hx (Jvm.hb hby at_627) rfl (pc' := 629) rfl ?_
          refine w_lload X235 hx (Jvm.hb hby at_629) rfl (pc' := 631) rfl ?_
          refine w_lload X235 hx (Jvm.hb hby at_631) rfl (pc' := 633) rfl ?_
          refine w_lload X235 hx (Jvm.hb hby at_633) rfl (pc' := 635) rfl ?_
          refine w_lload X235 hx (Jvm.hb hby at_635) rfl (pc' := 637) rfl ?_
          refine w_callN X235 hx hZ rfl hown (hw _ (List.mem_of_getElem? (i := 25) rfl)) (hw _ (List.mem_of_getElem? (i := 26) rfl)) (hw _ (List.mem_of_getElem? (i := 24) rfl)) (hw _ (List.mem_of_getElem? (i := 27) rfl)) (by decide) (W := 1) (rm5 l Z aw hw [] a235 xa ya xb yb sd spx spy scx scy Xp Yp ccx ccy tcx tcy clx rwy pv h235 n0 GA OO (q_nz (by have := Bs.2.1; omega)) (j_lt.mpr (by rw [j0]; have := Bs.2.1; omega)) (fun z => by have h9 := j_lt.mp z; rw [show (2305843009213693952 : Int64).toInt = 2305843009213693952 from by decide] at h9; have := Bs.2.2; omega) AX.2.2.2.2.2.2.1 AY.2.2.2.2.2.2.1 AX.2.2.2.2.2.2.2.1 AY.2.2.2.2.2.2.2.1 AX.1 AY.1 AX.2.1 AY.2.1 AX.2.2.1 AY.2.2.1 AX.2.2.2.1 AY.2.2.2.1 AX.2.2.2.2.1 AY.2.2.2.2.1 AX.2.2.2.2.2.1 AY.2.2.2.2.2.1 hpsw) e235 (by decide) (by decide) (by decide) (by decide) (Jvm.hb hby at_637) (by rw [hml]; rfl) (a := a235) (argsL := [(.long xa), (.long ya), (.long xb), (.long yb), (.long sd)]) (rest := [(.ref a235)]) pd_6 rfl rfl rfl (Nat.le_of_eq rfl) (pc' := 640) rfl ?_
          rintro _ T236 L236 X236 ⟨rfl, N236, K236, O236⟩
          show Ow p e below s _ _ _ (T236.setTop (mkF m 640 #[.val (.long q0), .second, .val (.long q1), .second, .val (.int p2), .val (.int p3), .val (.long q4), .second, .val (.long q5), .second, .val (.long vm), .second, .val (.long kx), .second, .val (.long vk), .second, .val (.long sd), .second, .val (.long vq), .second, .val (.long lo), .second, .val (.long hi), .second, .val (.long cn), .second, .val (.long cx), .second, .val (.long cy), .second, .val (.int d1), .val (.int d2), .val (.long ax), .second, .val (.long ay), .second, .val (.long gx), .second, .val (.long gy), .second, .val (.long vs), .second, .val (.long vt), .second, .val (.long xa), .second, .val (.long ya), .second, .val (.long xb), .second, .val (.long yb), .second, .val (.long dx), .second, .val (.long dy), .second, .val (.long wc), .second, .val (.long wr), .second, .val (.int pv), .val (.int bx), .val (.int bY), .val (.int (3 : Int32)), .val (.long (wc + dx)), .second, .val (.long wr), .second, .val (.long (wc + dx)), .second, .val (.long (wr + dy)), .second, .val (.long (gx * vt)), .second, .val (.long (gy * vs)), .second, .unset, .unset, .unset, .unset, .unset, .unset, .unset, .unset, .unset, .unset, .unset, .unset, .unset, .unset] [(.ref a235)]))
          have M236 := Fr.app NB N236
          refine w_astore X236 hx (Jvm.hb hby at_640) #[.val (.long q0), .second, .val (.long q1), .second, .val (.int p2), .val (.int p3), .val (.long q4), .second, .val (.long q5), .second, .val (.long vm), .second, .val (.long kx), .second, .val (.long vk), .second, .val (.long sd), .second, .val (.long vq), .second, .val (.long lo), .second, .val (.long hi), .second, .val (.long cn), .second, .val (.long cx), .second, .val (.long cy), .second, .val (.int d1), .val (.int d2), .val (.long ax), .second, .val (.long ay), .second, .val (.long gx), .second, .val (.long gy), .second, .val (.long vs), .second, .val (.long vt), .second, .val (.long xa), .second, .val (.long ya), .second, .val (.long xb), .second, .val (.long yb), .second, .val (.long dx), .second, .val (.long dy), .second, .val (.long wc), .second, .val (.long wr), .second, .val (.int pv), .val (.int bx), .val (.int bY), .val (.int (3 : Int32)), .val (.long (wc + dx)), .second, .val (.long wr), .second, .val (.long (wc + dx)), .second, .val (.long (wr + dy)), .second, .val (.ref a235), .unset, .val (.long (gy * vs)), .second, .unset, .unset, .unset, .unset, .unset, .unset, .unset, .unset, .unset, .unset, .unset, .unset, .unset, .unset] rfl rfl (pc' := 642) rfl ?_
          refine w_aload X236 hx (Jvm.hb hby at_642) rfl rfl (pc' := 644) rfl ?_
          refine w_callV X236 hx hZ hown (hw _ (List.mem_of_getElem? (i := 64) rfl)) (hw _ (List.mem_of_getElem? (i := 65) rfl)) (notFace_of_selects (args := #[]) (mvT hZ (hw _ (List.mem_of_getElem? (i := 67) rfl)))) (hw _ (List.mem_of_getElem? (i := 67) rfl)) (hw _ (List.mem_of_getElem? (i := 66) rfl)) (hw _ (List.mem_of_getElem? (i := 24) rfl)) (hw _ (List.mem_of_getElem? (i := 68) rfl)) (by decide) (W := 0) (rmN_first l Z aw hw [] a235 sd spx spy scx scy pv clx rwy tcx tcy T236.heap n0 GA O236 (own_p01 hpas)) rfl (by decide) (by decide) (by decide) (by decide) (O236.2.2.2.2.2.2.2.2.2.2.2) (Jvm.hb hby at_644) (by rw [hml]; rfl) (argsL := []) (rest := []) pd_7 rfl rfl rfl (Nat.le_of_eq rfl) (pc' := 647) rfl ?_
          rintro _ T237 L237 X237 ⟨rfl, N237, K237, O237⟩
          show Ow p e below s _ _ _ (T237.setTop (mkF m 647 #[.val (.long q0), .second, .val (.long q1), .second, .val (.int p2), .val (.int p3), .val (.long q4), .second, .val (.long q5), .second, .val (.long vm), .second, .val (.long kx), .second, .val (.long vk), .second, .val (.long sd), .second, .val (.long vq), .second, .val (.long lo), .second, .val (.long hi), .second, .val (.long cn), .second, .val (.long cx), .second, .val (.long cy), .second, .val (.int d1), .val (.int d2), .val (.long ax), .second, .val (.long ay), .second, .val (.long gx), .second, .val (.long gy), .second, .val (.long vs), .second, .val (.long vt), .second, .val (.long xa), .second, .val (.long ya), .second, .val (.long xb), .second, .val (.long yb), .second, .val (.long dx), .second, .val (.long dy), .second, .val (.long wc), .second, .val (.long wr), .second, .val (.int pv), .val (.int bx), .val (.int bY), .val (.int (3 : Int32)), .val (.long (wc + dx)), .second, .val (.long wr), .second, .val (.long (wc + dx)), .second, .val (.long (wr + dy)), .second, .val (.ref a235), .unset, .val (.long (gy * vs)), .second, .unset, .unset, .unset, .unset, .unset, .unset, .unset, .unset, .unset, .unset, .unset, .unset, .unset, .unset] [(.int pv)]))
          have M237 := Fr.app M236 N237
          refine w_istore X237 hx (Jvm.hb hby at_647) #[.val (.long q0), .second, .val (.long q1), .second, .val (.int p2), .val (.int p3), .val (.long q4), .second, .val (.long q5), .second, .val (.long vm), .second, .val (.long kx), .second, .val (.long vk), .second, .val (.long sd), .second, .val (.long vq), .second, .val (.long lo), .second, .val (.long hi), .second, .val (.long cn), .second, .val (.long cx), .second, .val (.long cy), .second, .val (.int d1), .val (.int d2), .val (.long ax), .second, .val (.long ay), .second, .val (.long gx), .second, .val (.long gy), .second, .val (.long vs), .second, .val (.long vt), .second, .val (.long xa), .second, .val (.long ya), .second, .val (.long xb), .second, .val (.long yb), .second, .val (.long dx), .second, .val (.long dy), .second, .val (.long wc), .second, .val (.long wr), .second, .val (.int pv), .val (.int bx), .val (.int bY), .val (.int (3 : Int32)), .val (.long (wc + dx)), .second, .val (.long wr), .second, .val (.long (wc + dx)), .second, .val (.long (wr + dy)), .second, .val (.ref a235), .val (.int pv), .val (.long (gy * vs)), .second, .unset, .unset, .unset, .unset, .unset, .unset, .unset, .unset, .unset, .unset, .unset, .unset, .unset, .unset] rfl  (pc' := 649) rfl ?_
          refine w_aload X237 hx (Jvm.hb hby at_649) rfl rfl (pc' := 651) rfl ?_
          refine w_callV X237 hx hZ hown (hw _ (List.mem_of_getElem? (i := 71) rfl)) (hw _ (List.mem_of_getElem? (i := 72) rfl)) (notFace_of_selects (args := #[]) (mvT hZ (hw _ (List.mem_of_getElem? (i := 74) rfl)))) (hw _ (List.mem_of_getElem? (i := 74) rfl)) (hw _ (List.mem_of_getElem? (i := 73) rfl)) (hw _ (List.mem_of_getElem? (i := 24) rfl)) (hw _ (List.mem_of_getElem? (i := 75) rfl)) (by decide) (W := 0) (rm11 l Z aw hw [] a235 clx T237.heap (O237.2.2.2.2.2.2.1)) rfl (by decide) (by decide) (by decide) (by decide) (O237.2.2.2.2.2.2.2.2.2.2.2) (Jvm.hb hby at_651) (by rw [hml]; rfl) (argsL := []) (rest := []) pd_8 rfl rfl rfl (Nat.le_of_eq rfl) (pc' := 654) rfl ?_
          rintro _ T238 L238 X238 ⟨rfl, e238, rfl⟩
          show Ow p e below s _ _ _ (T238.setTop (mkF m 654 #[.val (.long q0), .second, .val (.long q1), .second, .val (.int p2), .val (.int p3), .val (.long q4), .second, .val (.long q5), .second, .val (.long vm), .second, .val (.long kx), .second, .val (.long vk), .second, .val (.long sd), .second, .val (.long vq), .second, .val (.long lo), .second, .val (.long hi), .second, .val (.long cn), .second, .val (.long cx), .second, .val (.long cy), .second, .val (.int d1), .val (.int d2), .val (.long ax), .second, .val (.long ay), .second, .val (.long gx), .second, .val (.long gy), .second, .val (.long vs), .second, .val (.long vt), .second, .val (.long xa), .second, .val (.long ya), .second, .val (.long xb), .second, .val (.long yb), .second, .val (.long dx), .second, .val (.long dy), .second, .val (.long wc), .second, .val (.long wr), .second, .val (.int pv), .val (.int bx), .val (.int bY), .val (.int (3 : Int32)), .val (.long (wc + dx)), .second, .val (.long wr), .second, .val (.long (wc + dx)), .second, .val (.long (wr + dy)), .second, .val (.ref a235), .val (.int pv), .val (.long (gy * vs)), .second, .unset, .unset, .unset, .unset, .unset, .unset, .unset, .unset, .unset, .unset, .unset, .unset, .unset, .unset] [(.int clx)]))
          have M238 := Fr.app M237 (Fr.nil n0)
          refine w_i2l X238 hx (Jvm.hb hby at_654) (pc' := 655) rfl ?_
          refine w_lstore X238 hx (Jvm.hb hby at_655) #[.val (.long q0), .second, .val (.long q1), .second, .val (.int p2), .val (.int p3), .val (.long q4), .second, .val (.long q5), .second, .val (.long vm), .second, .val (.long kx), .second, .val (.long vk), .second, .val (.long sd), .second, .val (.long vq), .second, .val (.long lo), .second, .val (.long hi), .second, .val (.long cn), .second, .val (.long cx), .second, .val (.long cy), .second, .val (.int d1), .val (.int d2), .val (.long ax), .second, .val (.long ay), .second, .val (.long gx), .second, .val (.long gy), .second, .val (.long vs), .second, .val (.long vt), .second, .val (.long xa), .second, .val (.long ya), .second, .val (.long xb), .second, .val (.long yb), .second, .val (.long dx), .second, .val (.long dy), .second, .val (.long wc), .second, .val (.long wr), .second, .val (.int pv), .val (.int bx), .val (.int bY), .val (.int (3 : Int32)), .val (.long (wc + dx)), .second, .val (.long wr), .second, .val (.long (wc + dx)), .second, .val (.long (wr + dy)), .second, .val (.ref a235), .val (.int pv), .val (.long (clx.toInt64)), .second, .unset, .unset, .unset, .unset, .unset, .unset, .unset, .unset, .unset, .unset, .unset, .unset, .unset, .unset] rfl  (pc' := 657) rfl ?_
          refine w_aload X238 hx (Jvm.hb hby at_657) rfl rfl (pc' := 659) rfl ?_
          refine w_callV X238 hx hZ hown (hw _ (List.mem_of_getElem? (i := 76) rfl)) (hw _ (List.mem_of_getElem? (i := 77) rfl)) (notFace_of_selects (args := #[]) (mvT hZ (hw _ (List.mem_of_getElem? (i := 79) rfl)))) (hw _ (List.mem_of_getElem? (i := 79) rfl)) (hw _ (List.mem_of_getElem? (i := 78) rfl)) (hw _ (List.mem_of_getElem? (i := 24) rfl)) (hw _ (List.mem_of_getElem? (i := 80) rfl)) (by decide) (W := 0) (rm12 l Z aw hw [] a235 rwy T237.heap (O237.2.2.2.2.2.2.2.1)) e238 (by decide) (by decide) (by decide) (by decide) (O237.2.2.2.2.2.2.2.2.2.2.2) (Jvm.hb hby at_659) (by rw [hml]; rfl) (argsL := []) (rest := []) pd_8 rfl rfl rfl (Nat.le_of_eq rfl) (pc' := 662) rfl ?_
          rintro _ T239 L239 X239 ⟨rfl, e239, rfl⟩
          show Ow p e below s _ _ _ (T239.setTop (mkF m 662 #[.val (.long q0), .second, .val (.long q1), .second, .val (.int p2), .val (.int p3), .val (.long q4), .second, .val (.long q5), .second, .val (.long vm), .second, .val (.long kx), .second, .val (.long vk), .second, .val (.long sd), .second, .val (.long vq), .second, .val (.long lo), .second, .val (.long hi), .second, .val (.long cn), .second, .val (.long cx), .second, .val (.long cy), .second, .val (.int d1), .val (.int d2), .val (.long ax), .second, .val (.long ay), .second, .val (.long gx), .second, .val (.long gy), .second, .val (.long vs), .second, .val (.long vt), .second, .val (.long xa), .second, .val (.long ya), .second, .val (.long xb), .second, .val (.long yb), .second, .val (.long dx), .second, .val (.long dy), .second, .val (.long wc), .second, .val (.long wr), .second, .val (.int pv), .val (.int bx), .val (.int bY), .val (.int (3 : Int32)), .val (.long (wc + dx)), .second, .val (.long wr), .second, .val (.long (wc + dx)), .second, .val (.long (wr + dy)), .second, .val (.ref a235), .val (.int pv), .val (.long (clx.toInt64)), .second, .unset, .unset, .unset, .unset, .unset, .unset, .unset, .unset, .unset, .unset, .unset, .unset, .unset, .unset] [(.int rwy)]))
          have M239 := Fr.app M238 (Fr.nil n0)
          refine w_i2l X239 hx (Jvm.hb hby at_662) (pc' := 663) rfl ?_
          refine w_lstore X239 hx (Jvm.hb hby at_663) #[.val (.long q0), .second, .val (.long q1), .second, .val (.int p2), .val (.int p3), .val (.long q4), .second, .val (.long q5), .second, .val (.long vm), .second, .val (.long kx), .second, .val (.long vk), .second, .val (.long sd), .second, .val (.long vq), .second, .val (.long lo), .second, .val (.long hi), .second, .val (.long cn), .second, .val (.long cx), .second, .val (.long cy), .second, .val (.int d1), .val (.int d2), .val (.long ax), .second, .val (.long ay), .second, .val (.long gx), .second, .val (.long gy), .second, .val (.long vs), .second, .val (.long vt), .second, .val (.long xa), .second, .val (.long ya), .second, .val (.long xb), .second, .val (.long yb), .second, .val (.long dx), .second, .val (.long dy), .second, .val (.long wc), .second, .val (.long wr), .second, .val (.int pv), .val (.int bx), .val (.int bY), .val (.int (3 : Int32)), .val (.long (wc + dx)), .second, .val (.long wr), .second, .val (.long (wc + dx)), .second, .val (.long (wr + dy)), .second, .val (.ref a235), .val (.int pv), .val (.long (clx.toInt64)), .second, .val (.long (rwy.toInt64)), .second, .unset, .unset, .unset, .unset, .unset, .unset, .unset, .unset, .unset, .unset, .unset, .unset] rfl  (pc' := 665) rfl ?_
          refine w_aload X239 hx (Jvm.hb hby at_665) rfl rfl (pc' := 667) rfl ?_
          refine w_callV X239 hx hZ hown (hw _ (List.mem_of_getElem? (i := 64) rfl)) (hw _ (List.mem_of_getElem? (i := 65) rfl)) (notFace_of_selects (args := #[]) (mvT hZ (hw _ (List.mem_of_getElem? (i := 67) rfl)))) (hw _ (List.mem_of_getElem? (i := 67) rfl)) (hw _ (List.mem_of_getElem? (i := 66) rfl)) (hw _ (List.mem_of_getElem? (i := 24) rfl)) (hw _ (List.mem_of_getElem? (i := 68) rfl)) (by decide) (W := 0) (rmN_lt l Z aw hw [] a235 sd spx spy scx scy pv clx rwy tcx tcy T237.heap n0 GA O237 hp1.1 (own_c HX AX hgx').1 (own_c HY AY hgy').1 ((own_cps HX AX HY AY hgx' hgy').1 hord)) e239 (by decide) (by decide) (by decide) (by decide) (O237.2.2.2.2.2.2.2.2.2.2.2) (Jvm.hb hby at_667) (by rw [hml]; rfl) (argsL := []) (rest := []) pd_7 rfl rfl rfl (Nat.le_of_eq rfl) (pc' := 670) rfl ?_
          rintro _ T240 L240 X240 ⟨rfl, N240, K240, O240⟩
          show Ow p e below s _ _ _ (T240.setTop (mkF m 670 #[.val (.long q0), .second, .val (.long q1), .second, .val (.int p2), .val (.int p3), .val (.long q4), .second, .val (.long q5), .second, .val (.long vm), .second, .val (.long kx), .second, .val (.long vk), .second, .val (.long sd), .second, .val (.long vq), .second, .val (.long lo), .second, .val (.long hi), .second, .val (.long cn), .second, .val (.long cx), .second, .val (.long cy), .second, .val (.int d1), .val (.int d2), .val (.long ax), .second, .val (.long ay), .second, .val (.long gx), .second, .val (.long gy), .second, .val (.long vs), .second, .val (.long vt), .second, .val (.long xa), .second, .val (.long ya), .second, .val (.long xb), .second, .val (.long yb), .second, .val (.long dx), .second, .val (.long dy), .second, .val (.long wc), .second, .val (.long wr), .second, .val (.int pv), .val (.int bx), .val (.int bY), .val (.int (3 : Int32)), .val (.long (wc + dx)), .second, .val (.long wr), .second, .val (.long (wc + dx)), .second, .val (.long (wr + dy)), .second, .val (.ref a235), .val (.int pv), .val (.long (clx.toInt64)), .second, .val (.long (rwy.toInt64)), .second, .unset, .unset, .unset, .unset, .unset, .unset, .unset, .unset, .unset, .unset, .unset, .unset] [(.int (1 : Int32))]))
          have M240 := Fr.app M239 N240
          refine w_istore X240 hx (Jvm.hb hby at_670) #[.val (.long q0), .second, .val (.long q1), .second, .val (.int p2), .val (.int p3), .val (.long q4), .second, .val (.long q5), .second, .val (.long vm), .second, .val (.long kx), .second, .val (.long vk), .second, .val (.long sd), .second, .val (.long vq), .second, .val (.long lo), .second, .val (.long hi), .second, .val (.long cn), .second, .val (.long cx), .second, .val (.long cy), .second, .val (.int d1), .val (.int d2), .val (.long ax), .second, .val (.long ay), .second, .val (.long gx), .second, .val (.long gy), .second, .val (.long vs), .second, .val (.long vt), .second, .val (.long xa), .second, .val (.long ya), .second, .val (.long xb), .second, .val (.long yb), .second, .val (.long dx), .second, .val (.long dy), .second, .val (.long wc), .second, .val (.long wr), .second, .val (.int pv), .val (.int bx), .val (.int bY), .val (.int (3 : Int32)), .val (.long (wc + dx)), .second, .val (.long wr), .second, .val (.long (wc + dx)), .second, .val (.long (wr + dy)), .second, .val (.ref a235), .val (.int pv), .val (.long (clx.toInt64)), .second, .val (.long (rwy.toInt64)), .second, .val (.int (1 : Int32)), .unset, .unset, .unset, .unset, .unset, .unset, .unset, .unset, .unset, .unset, .unset] rfl  (pc' := 672) rfl ?_
          refine w_aload X240 hx (Jvm.hb hby at_672) rfl rfl (pc' := 674) rfl ?_
          refine w_callV X240 hx hZ hown (hw _ (List.mem_of_getElem? (i := 71) rfl)) (hw _ (List.mem_of_getElem? (i := 72) rfl)) (notFace_of_selects (args := #[]) (mvT hZ (hw _ (List.mem_of_getElem? (i := 74) rfl)))) (hw _ (List.mem_of_getElem? (i := 74) rfl)) (hw _ (List.mem_of_getElem? (i := 73) rfl)) (hw _ (List.mem_of_getElem? (i := 24) rfl)) (hw _ (List.mem_of_getElem? (i := 75) rfl)) (by decide) (W := 0) (rm11 l Z aw hw [] a235 (clx + scx) T240.heap (O240.2.2.2.2.2.2.1)) rfl (by decide) (by decide) (by decide) (by decide) (O240.2.2.2.2.2.2.2.2.2.2.2) (Jvm.hb hby at_674) (by rw [hml]; rfl) (argsL := []) (rest := []) pd_8 rfl rfl rfl (Nat.le_of_eq rfl) (pc' := 677) rfl ?_
          rintro _ T241 L241 X241 ⟨rfl, e241, rfl⟩
          show Ow p e below s _ _ _ (T241.setTop (mkF m 677 #[.val (.long q0), .second, .val (.long q1), .second, .val (.int p2), .val (.int p3), .val (.long q4), .second, .val (.long q5), .second, .val (.long vm), .second, .val (.long kx), .second, .val (.long vk), .second, .val (.long sd), .second, .val (.long vq), .second, .val (.long lo), .second, .val (.long hi), .second, .val (.long cn), .second, .val (.long cx), .second, .val (.long cy), .second, .val (.int d1), .val (.int d2), .val (.long ax), .second, .val (.long ay), .second, .val (.long gx), .second, .val (.long gy), .second, .val (.long vs), .second, .val (.long vt), .second, .val (.long xa), .second, .val (.long ya), .second, .val (.long xb), .second, .val (.long yb), .second, .val (.long dx), .second, .val (.long dy), .second, .val (.long wc), .second, .val (.long wr), .second, .val (.int pv), .val (.int bx), .val (.int bY), .val (.int (3 : Int32)), .val (.long (wc + dx)), .second, .val (.long wr), .second, .val (.long (wc + dx)), .second, .val (.long (wr + dy)), .second, .val (.ref a235), .val (.int pv), .val (.long (clx.toInt64)), .second, .val (.long (rwy.toInt64)), .second, .val (.int (1 : Int32)), .unset, .unset, .unset, .unset, .unset, .unset, .unset, .unset, .unset, .unset, .unset] [(.int (clx + scx))]))
          have M241 := Fr.app M240 (Fr.nil n0)
          refine w_i2l X241 hx (Jvm.hb hby at_677) (pc' := 678) rfl ?_
          refine w_lstore X241 hx (Jvm.hb hby at_678) #[.val (.long q0), .second, .val (.long q1), .second, .val (.int p2), .val (.int p3), .val (.long q4), .second, .val (.long q5), .second, .val (.long vm), .second, .val (.long kx), .second, .val (.long vk), .second, .val (.long sd), .second, .val (.long vq), .second, .val (.long lo), .second, .val (.long hi), .second, .val (.long cn), .second, .val (.long cx), .second, .val (.long cy), .second, .val (.int d1), .val (.int d2), .val (.long ax), .second, .val (.long ay), .second, .val (.long gx), .second, .val (.long gy), .second, .val (.long vs), .second, .val (.long vt), .second, .val (.long xa), .second, .val (.long ya), .second, .val (.long xb), .second, .val (.long yb), .second, .val (.long dx), .second, .val (.long dy), .second, .val (.long wc), .second, .val (.long wr), .second, .val (.int pv), .val (.int bx), .val (.int bY), .val (.int (3 : Int32)), .val (.long (wc + dx)), .second, .val (.long wr), .second, .val (.long (wc + dx)), .second, .val (.long (wr + dy)), .second, .val (.ref a235), .val (.int pv), .val (.long (clx.toInt64)), .second, .val (.long (rwy.toInt64)), .second, .val (.int (1 : Int32)), .val (.long ((clx + scx).toInt64)), .second, .unset, .unset, .unset, .unset, .unset, .unset, .unset, .unset, .unset] rfl  (pc' := 680) rfl ?_
          refine w_aload X241 hx (Jvm.hb hby at_680) rfl rfl (pc' := 682) rfl ?_
          refine w_callV X241 hx hZ hown (hw _ (List.mem_of_getElem? (i := 76) rfl)) (hw _ (List.mem_of_getElem? (i := 77) rfl)) (notFace_of_selects (args := #[]) (mvT hZ (hw _ (List.mem_of_getElem? (i := 79) rfl)))) (hw _ (List.mem_of_getElem? (i := 79) rfl)) (hw _ (List.mem_of_getElem? (i := 78) rfl)) (hw _ (List.mem_of_getElem? (i := 24) rfl)) (hw _ (List.mem_of_getElem? (i := 80) rfl)) (by decide) (W := 0) (rm12 l Z aw hw [] a235 rwy T240.heap (O240.2.2.2.2.2.2.2.1)) e241 (by decide) (by decide) (by decide) (by decide) (O240.2.2.2.2.2.2.2.2.2.2.2) (Jvm.hb hby at_682) (by rw [hml]; rfl) (argsL := []) (rest := []) pd_8 rfl rfl rfl (Nat.le_of_eq rfl) (pc' := 685) rfl ?_
          rintro _ T242 L242 X242 ⟨rfl, e242, rfl⟩
          show Ow p e below s _ _ _ (T242.setTop (mkF m 685 #[.val (.long q0), .second, .val (.long q1), .second, .val (.int p2), .val (.int p3), .val (.long q4), .second, .val (.long q5), .second, .val (.long vm), .second, .val (.long kx), .second, .val (.long vk), .second, .val (.long sd), .second, .val (.long vq), .second, .val (.long lo), .second, .val (.long hi), .second, .val (.long cn), .second, .val (.long cx), .second, .val (.long cy), .second, .val (.int d1), .val (.int d2), .val (.long ax), .second, .val (.long ay), .second, .val (.long gx), .second, .val (.long gy), .second, .val (.long vs), .second, .val (.long vt), .second, .val (.long xa), .second, .val (.long ya), .second, .val (.long xb), .second, .val (.long yb), .second, .val (.long dx), .second, .val (.long dy), .second, .val (.long wc), .second, .val (.long wr), .second, .val (.int pv), .val (.int bx), .val (.int bY), .val (.int (3 : Int32)), .val (.long (wc + dx)), .second, .val (.long wr), .second, .val (.long (wc + dx)), .second, .val (.long (wr + dy)), .second, .val (.ref a235), .val (.int pv), .val (.long (clx.toInt64)), .second, .val (.long (rwy.toInt64)), .second, .val (.int (1 : Int32)), .val (.long ((clx + scx).toInt64)), .second, .unset, .unset, .unset, .unset, .unset, .unset, .unset, .unset, .unset] [(.int rwy)]))
          have M242 := Fr.app M241 (Fr.nil n0)
          refine w_i2l X242 hx (Jvm.hb hby at_685) (pc' := 686) rfl ?_
          refine w_lstore X242 hx (Jvm.hb hby at_686) #[.val (.long q0), .second, .val (.long q1), .second, .val (.int p2), .val (.int p3), .val (.long q4), .second, .val (.long q5), .second, .val (.long vm), .second, .val (.long kx), .second, .val (.long vk), .second, .val (.long sd), .second, .val (.long vq), .second, .val (.long lo), .second, .val (.long hi), .second, .val (.long cn), .second, .val (.long cx), .second, .val (.long cy), .second, .val (.int d1), .val (.int d2), .val (.long ax), .second, .val (.long ay), .second, .val (.long gx), .second, .val (.long gy), .second, .val (.long vs), .second, .val (.long vt), .second, .val (.long xa), .second, .val (.long ya), .second, .val (.long xb), .second, .val (.long yb), .second, .val (.long dx), .second, .val (.long dy), .second, .val (.long wc), .second, .val (.long wr), .second, .val (.int pv), .val (.int bx), .val (.int bY), .val (.int (3 : Int32)), .val (.long (wc + dx)), .second, .val (.long wr), .second, .val (.long (wc + dx)), .second, .val (.long (wr + dy)), .second, .val (.ref a235), .val (.int pv), .val (.long (clx.toInt64)), .second, .val (.long (rwy.toInt64)), .second, .val (.int (1 : Int32)), .val (.long ((clx + scx).toInt64)), .second, .val (.long (rwy.toInt64)), .second, .unset, .unset, .unset, .unset, .unset, .unset, .unset] rfl  (pc' := 688) rfl ?_
          refine w_aload X242 hx (Jvm.hb hby at_688) rfl rfl (pc' := 690) rfl ?_
          refine w_callV X242 hx hZ hown (hw _ (List.mem_of_getElem? (i := 64) rfl)) (hw _ (List.mem_of_getElem? (i := 65) rfl)) (notFace_of_selects (args := #[]) (mvT hZ (hw _ (List.mem_of_getElem? (i := 67) rfl)))) (hw _ (List.mem_of_getElem? (i := 67) rfl)) (hw _ (List.mem_of_getElem? (i := 66) rfl)) (hw _ (List.mem_of_getElem? (i := 24) rfl)) (hw _ (List.mem_of_getElem? (i := 68) rfl)) (by decide) (W := 0) (rmN_y l Z aw hw [] a235 sd spx spy scx scy pv (clx + scx) rwy (tcx + sd) tcy T240.heap n0 GA O240 hp1.1 (own_c HX AX hgx').2.1 (own_c HY AY hgy').1) e242 (by decide) (by decide) (by decide) (by decide) (O240.2.2.2.2.2.2.2.2.2.2.2) (Jvm.hb hby at_690) (by rw [hml]; rfl) (argsL := []) (rest := []) pd_7 rfl rfl rfl (Nat.le_of_eq rfl) (pc' := 693) rfl ?_
          rintro _ T243 L243 X243 ⟨rfl, N243, K243, O243⟩
          show Ow p e below s _ _ _ (T243.setTop (mkF m 693 #[.val (.long q0), .second, .val (.long q1), .second, .val (.int p2), .val (.int p3), .val (.long q4), .second, .val (.long q5), .second, .val (.long vm), .second, .val (.long kx), .second, .val (.long vk), .second, .val (.long sd), .second, .val (.long vq), .second, .val (.long lo), .second, .val (.long hi), .second, .val (.long cn), .second, .val (.long cx), .second, .val (.long cy), .second, .val (.int d1), .val (.int d2), .val (.long ax), .second, .val (.long ay), .second, .val (.long gx), .second, .val (.long gy), .second, .val (.long vs), .second, .val (.long vt), .second, .val (.long xa), .second, .val (.long ya), .second, .val (.long xb), .second, .val (.long yb), .second, .val (.long dx), .second, .val (.long dy), .second, .val (.long wc), .second, .val (.long wr), .second, .val (.int pv), .val (.int bx), .val (.int bY), .val (.int (3 : Int32)), .val (.long (wc + dx)), .second, .val (.long wr), .second, .val (.long (wc + dx)), .second, .val (.long (wr + dy)), .second, .val (.ref a235), .val (.int pv), .val (.long (clx.toInt64)), .second, .val (.long (rwy.toInt64)), .second, .val (.int (1 : Int32)), .val (.long ((clx + scx).toInt64)), .second, .val (.long (rwy.toInt64)), .second, .unset, .unset, .unset, .unset, .unset, .unset, .unset] [(.int (1 : Int32))]))
          have M243 := Fr.app M242 N243
          refine w_istore X243 hx (Jvm.hb hby at_693) #[.val (.long q0), .second, .val (.long q1), .second, .val (.int p2), .val (.int p3), .val (.long q4), .second, .val (.long q5), .second, .val (.long vm), .second, .val (.long kx), .second, .val (.long vk), .second, .val (.long sd), .second, .val (.long vq), .second, .val (.long lo), .second, .val (.long hi), .second, .val (.long cn), .second, .val (.long cx), .second, .val (.long cy), .second, .val (.int d1), .val (.int d2), .val (.long ax), .second, .val (.long ay), .second, .val (.long gx), .second, .val (.long gy), .second, .val (.long vs), .second, .val (.long vt), .second, .val (.long xa), .second, .val (.long ya), .second, .val (.long xb), .second, .val (.long yb), .second, .val (.long dx), .second, .val (.long dy), .second, .val (.long wc), .second, .val (.long wr), .second, .val (.int pv), .val (.int bx), .val (.int bY), .val (.int (3 : Int32)), .val (.long (wc + dx)), .second, .val (.long wr), .second, .val (.long (wc + dx)), .second, .val (.long (wr + dy)), .second, .val (.ref a235), .val (.int pv), .val (.long (clx.toInt64)), .second, .val (.long (rwy.toInt64)), .second, .val (.int (1 : Int32)), .val (.long ((clx + scx).toInt64)), .second, .val (.long (rwy.toInt64)), .second, .val (.int (1 : Int32)), .unset, .unset, .unset, .unset, .unset, .unset] rfl  (pc' := 695) rfl ?_
          refine w_aload X243 hx (Jvm.hb hby at_695) rfl rfl (pc' := 697) rfl ?_
          refine w_callV X243 hx hZ hown (hw _ (List.mem_of_getElem? (i := 71) rfl)) (hw _ (List.mem_of_getElem? (i := 72) rfl)) (notFace_of_selects (args := #[]) (mvT hZ (hw _ (List.mem_of_getElem? (i := 74) rfl)))) (hw _ (List.mem_of_getElem? (i := 74) rfl)) (hw _ (List.mem_of_getElem? (i := 73) rfl)) (hw _ (List.mem_of_getElem? (i := 24) rfl)) (hw _ (List.mem_of_getElem? (i := 75) rfl)) (by decide) (W := 0) (rm11 l Z aw hw [] a235 (clx + scx) T243.heap (O243.2.2.2.2.2.2.1)) rfl (by decide) (by decide) (by decide) (by decide) (O243.2.2.2.2.2.2.2.2.2.2.2) (Jvm.hb hby at_697) (by rw [hml]; rfl) (argsL := []) (rest := []) pd_8 rfl rfl rfl (Nat.le_of_eq rfl) (pc' := 700) rfl ?_
          rintro _ T244 L244 X244 ⟨rfl, e244, rfl⟩
          show Ow p e below s _ _ _ (T244.setTop (mkF m 700 #[.val (.long q0), .second, .val (.long q1), .second, .val (.int p2), .val (.int p3), .val (.long q4), .second, .val (.long q5), .second, .val (.long vm), .second, .val (.long kx), .second, .val (.long vk), .second, .val (.long sd), .second, .val (.long vq), .second, .val (.long lo), .second, .val (.long hi), .second, .val (.long cn), .second, .val (.long cx), .second, .val (.long cy), .second, .val (.int d1), .val (.int d2), .val (.long ax), .second, .val (.long ay), .second, .val (.long gx), .second, .val (.long gy), .second, .val (.long vs), .second, .val (.long vt), .second, .val (.long xa), .second, .val (.long ya), .second, .val (.long xb), .second, .val (.long yb), .second, .val (.long dx), .second, .val (.long dy), .second, .val (.long wc), .second, .val (.long wr), .second, .val (.int pv), .val (.int bx), .val (.int bY), .val (.int (3 : Int32)), .val (.long (wc + dx)), .second, .val (.long wr), .second, .val (.long (wc + dx)), .second, .val (.long (wr + dy)), .second, .val (.ref a235), .val (.int pv), .val (.long (clx.toInt64)), .second, .val (.long (rwy.toInt64)), .second, .val (.int (1 : Int32)), .val (.long ((clx + scx).toInt64)), .second, .val (.long (rwy.toInt64)), .second, .val (.int (1 : Int32)), .unset, .unset, .unset, .unset, .unset, .unset] [(.int (clx + scx))]))
          have M244 := Fr.app M243 (Fr.nil n0)
          refine w_i2l X244 hx (Jvm.hb hby at_700) (pc' := 701) rfl ?_
          refine w_lstore X244 hx (Jvm.hb hby at_701) #[.val (.long q0), .second, .val (.long q1), .second, .val (.int p2), .val (.int p3), .val (.long q4), .second, .val (.long q5), .second, .val (.long vm), .second, .val (.long kx), .second, .val (.long vk), .second, .val (.long sd), .second, .val (.long vq), .second, .val (.long lo), .second, .val (.long hi), .second, .val (.long cn), .second, .val (.long cx), .second, .val (.long cy), .second, .val (.int d1), .val (.int d2), .val (.long ax), .second, .val (.long ay), .second, .val (.long gx), .second, .val (.long gy), .second, .val (.long vs), .second, .val (.long vt), .second, .val (.long xa), .second, .val (.long ya), .second, .val (.long xb), .second, .val (.long yb), .second, .val (.long dx), .second, .val (.long dy), .second, .val (.long wc), .second, .val (.long wr), .second, .val (.int pv), .val (.int bx), .val (.int bY), .val (.int (3 : Int32)), .val (.long (wc + dx)), .second, .val (.long wr), .second, .val (.long (wc + dx)), .second, .val (.long (wr + dy)), .second, .val (.ref a235), .val (.int pv), .val (.long (clx.toInt64)), .second, .val (.long (rwy.toInt64)), .second, .val (.int (1 : Int32)), .val (.long ((clx + scx).toInt64)), .second, .val (.long (rwy.toInt64)), .second, .val (.int (1 : Int32)), .val (.long ((clx + scx).toInt64)), .second, .unset, .unset, .unset, .unset] rfl  (pc' := 703) rfl ?_
          refine w_aload X244 hx (Jvm.hb hby at_703) rfl rfl (pc' := 705) rfl ?_
          refine w_callV X244 hx hZ hown (hw _ (List.mem_of_getElem? (i := 76) rfl)) (hw _ (List.mem_of_getElem? (i := 77) rfl)) (notFace_of_selects (args := #[]) (mvT hZ (hw _ (List.mem_of_getElem? (i := 79) rfl)))) (hw _ (List.mem_of_getElem? (i := 79) rfl)) (hw _ (List.mem_of_getElem? (i := 78) rfl)) (hw _ (List.mem_of_getElem? (i := 24) rfl)) (hw _ (List.mem_of_getElem? (i := 80) rfl)) (by decide) (W := 0) (rm12 l Z aw hw [] a235 (rwy + scy) T243.heap (O243.2.2.2.2.2.2.2.1)) e244 (by decide) (by decide) (by decide) (by decide) (O243.2.2.2.2.2.2.2.2.2.2.2) (Jvm.hb hby at_705) (by rw [hml]; rfl) (argsL := []) (rest := []) pd_8 rfl rfl rfl (Nat.le_of_eq rfl) (pc' := 708) rfl ?_
          rintro _ T245 L245 X245 ⟨rfl, e245, rfl⟩
          show Ow p e below s _ _ _ (T245.setTop (mkF m 708 #[.val (.long q0), .second, .val (.long q1), .second, .val (.int p2), .val (.int p3), .val (.long q4), .second, .val (.long q5), .second, .val (.long vm), .second, .val (.long kx), .second, .val (.long vk), .second, .val (.long sd), .second, .val (.long vq), .second, .val (.long lo), .second, .val (.long hi), .second, .val (.long cn), .second, .val (.long cx), .second, .val (.long cy), .second, .val (.int d1), .val (.int d2), .val (.long ax), .second, .val (.long ay), .second, .val (.long gx), .second, .val (.long gy), .second, .val (.long vs), .second, .val (.long vt), .second, .val (.long xa), .second, .val (.long ya), .second, .val (.long xb), .second, .val (.long yb), .second, .val (.long dx), .second, .val (.long dy), .second, .val (.long wc), .second, .val (.long wr), .second, .val (.int pv), .val (.int bx), .val (.int bY), .val (.int (3 : Int32)), .val (.long (wc + dx)), .second, .val (.long wr), .second, .val (.long (wc + dx)), .second, .val (.long (wr + dy)), .second, .val (.ref a235), .val (.int pv), .val (.long (clx.toInt64)), .second, .val (.long (rwy.toInt64)), .second, .val (.int (1 : Int32)), .val (.long ((clx + scx).toInt64)), .second, .val (.long (rwy.toInt64)), .second, .val (.int (1 : Int32)), .val (.long ((clx + scx).toInt64)), .second, .unset, .unset, .unset, .unset] [(.int (rwy + scy))]))
          have M245 := Fr.app M244 (Fr.nil n0)
          refine w_i2l X245 hx (Jvm.hb hby at_708) (pc' := 709) rfl ?_
          refine w_lstore X245 hx (Jvm.hb hby at_709) #[.val (.long q0), .second, .val (.long q1), .second, .val (.int p2), .val (.int p3), .val (.long q4), .second, .val (.long q5), .second, .val (.long vm), .second, .val (.long kx), .second, .val (.long vk), .second, .val (.long sd), .second, .val (.long vq), .second, .val (.long lo), .second, .val (.long hi), .second, .val (.long cn), .second, .val (.long cx), .second, .val (.long cy), .second, .val (.int d1), .val (.int d2), .val (.long ax), .second, .val (.long ay), .second, .val (.long gx), .second, .val (.long gy), .second, .val (.long vs), .second, .val (.long vt), .second, .val (.long xa), .second, .val (.long ya), .second, .val (.long xb), .second, .val (.long yb), .second, .val (.long dx), .second, .val (.long dy), .second, .val (.long wc), .second, .val (.long wr), .second, .val (.int pv), .val (.int bx), .val (.int bY), .val (.int (3 : Int32)), .val (.long (wc + dx)), .second, .val (.long wr), .second, .val (.long (wc + dx)), .second, .val (.long (wr + dy)), .second, .val (.ref a235), .val (.int pv), .val (.long (clx.toInt64)), .second, .val (.long (rwy.toInt64)), .second, .val (.int (1 : Int32)), .val (.long ((clx + scx).toInt64)), .second, .val (.long (rwy.toInt64)), .second, .val (.int (1 : Int32)), .val (.long ((clx + scx).toInt64)), .second, .val (.long ((rwy + scy).toInt64)), .second, .unset, .unset] rfl  (pc' := 711) rfl ?_
          refine w_aload X245 hx (Jvm.hb hby at_711) rfl rfl (pc' := 713) rfl ?_
          refine w_callV X245 hx hZ hown (hw _ (List.mem_of_getElem? (i := 64) rfl)) (hw _ (List.mem_of_getElem? (i := 65) rfl)) (notFace_of_selects (args := #[]) (mvT hZ (hw _ (List.mem_of_getElem? (i := 67) rfl)))) (hw _ (List.mem_of_getElem? (i := 67) rfl)) (hw _ (List.mem_of_getElem? (i := 66) rfl)) (hw _ (List.mem_of_getElem? (i := 24) rfl)) (hw _ (List.mem_of_getElem? (i := 68) rfl)) (by decide) (W := 0) (rmN_stop l Z aw hw [] a235 sd spx spy scx scy pv (clx + scx) (rwy + scy) (tcx + sd) (tcy + sd) T243.heap n0 GA O243 hp1.1 (own_c HX AX hgx').2.1 (own_c HY AY hgy').2.1) e245 (by decide) (by decide) (by decide) (by decide) (O243.2.2.2.2.2.2.2.2.2.2.2) (Jvm.hb hby at_713) (by rw [hml]; rfl) (argsL := []) (rest := []) pd_7 rfl rfl rfl (Nat.le_of_eq rfl) (pc' := 716) rfl ?_
          rintro _ T246 L246 X246 ⟨rfl, N246, K246, O246⟩
          show Ow p e below s _ _ _ (T246.setTop (mkF m 716 #[.val (.long q0), .second, .val (.long q1), .second, .val (.int p2), .val (.int p3), .val (.long q4), .second, .val (.long q5), .second, .val (.long vm), .second, .val (.long kx), .second, .val (.long vk), .second, .val (.long sd), .second, .val (.long vq), .second, .val (.long lo), .second, .val (.long hi), .second, .val (.long cn), .second, .val (.long cx), .second, .val (.long cy), .second, .val (.int d1), .val (.int d2), .val (.long ax), .second, .val (.long ay), .second, .val (.long gx), .second, .val (.long gy), .second, .val (.long vs), .second, .val (.long vt), .second, .val (.long xa), .second, .val (.long ya), .second, .val (.long xb), .second, .val (.long yb), .second, .val (.long dx), .second, .val (.long dy), .second, .val (.long wc), .second, .val (.long wr), .second, .val (.int pv), .val (.int bx), .val (.int bY), .val (.int (3 : Int32)), .val (.long (wc + dx)), .second, .val (.long wr), .second, .val (.long (wc + dx)), .second, .val (.long (wr + dy)), .second, .val (.ref a235), .val (.int pv), .val (.long (clx.toInt64)), .second, .val (.long (rwy.toInt64)), .second, .val (.int (1 : Int32)), .val (.long ((clx + scx).toInt64)), .second, .val (.long (rwy.toInt64)), .second, .val (.int (1 : Int32)), .val (.long ((clx + scx).toInt64)), .second, .val (.long ((rwy + scy).toInt64)), .second, .unset, .unset] [(.int (0 : Int32))]))
          have M246 := Fr.app M245 N246
          refine w_istore X246 hx (Jvm.hb hby at_716) #[.val (.long q0), .second, .val (.long q1), .second, .val (.int p2), .val (.int p3), .val (.long q4), .second, .val (.long q5), .second, .val (.long vm), .second, .val (.long kx), .second, .val (.long vk), .second, .val (.long sd), .second, .val (.long vq), .second, .val (.long lo), .second, .val (.long hi), .second, .val (.long cn), .second, .val (.long cx), .second, .val (.long cy), .second, .val (.int d1), .val (.int d2), .val (.long ax), .second, .val (.long ay), .second, .val (.long gx), .second, .val (.long gy), .second, .val (.long vs), .second, .val (.long vt), .second, .val (.long xa), .second, .val (.long ya), .second, .val (.long xb), .second, .val (.long yb), .second, .val (.long dx), .second, .val (.long dy), .second, .val (.long wc), .second, .val (.long wr), .second, .val (.int pv), .val (.int bx), .val (.int bY), .val (.int (3 : Int32)), .val (.long (wc + dx)), .second, .val (.long wr), .second, .val (.long (wc + dx)), .second, .val (.long (wr + dy)), .second, .val (.ref a235), .val (.int pv), .val (.long (clx.toInt64)), .second, .val (.long (rwy.toInt64)), .second, .val (.int (1 : Int32)), .val (.long ((clx + scx).toInt64)), .second, .val (.long (rwy.toInt64)), .second, .val (.int (1 : Int32)), .val (.long ((clx + scx).toInt64)), .second, .val (.long ((rwy + scy).toInt64)), .second, .val (.int (0 : Int32)), .unset] rfl  (pc' := 718) rfl ?_
          refine w_iload X246 hx (Jvm.hb hby at_718) rfl (pc' := 720) rfl ?_
          refine w_iload X246 hx (Jvm.hb hby at_720) rfl (pc' := 722) rfl ?_
          refine w_iconst X246 hx (1 : Int32) (Jvm.hb hby at_722) (by decide) (pc' := 723) rfl ?_
          refine w_icmp_lt X246 hx (Jvm.hb hby at_723) (by decide) (pcT := 730) (by decide) (pcF := 726) rfl (fun q => absurd q (show ¬ (3 : Int32) < (1 : Int32) from by decide)) (fun _ => ?_)
          refine w_iconst X246 hx (1 : Int32) (Jvm.hb hby at_726) (by decide) (pc' := 727) rfl ?_
          refine w_goto X246 hx (Jvm.hb hby at_727) (by decide) (pc' := 731) (by decide) ?_
          refine w_icmp_ne X246 hx (Jvm.hb hby at_731) (by decide) (pcT := 775) (by decide) (pcF := 734) rfl (fun q => absurd hp1.1 q) (fun _ => ?_)
          refine w_iload X246 hx (Jvm.hb hby at_734) rfl (pc' := 736) rfl ?_
          refine w_iload X246 hx (Jvm.hb hby at_736) rfl (pc' := 738) rfl ?_
          refine w_iconst X246 hx (2 : Int32) (Jvm.hb hby at_738) (by decide) (pc' := 739) rfl ?_
          refine w_icmp_lt X246 hx (Jvm.hb hby at_739) (by decide) (pcT := 746) (by decide) (pcF := 742) rfl (fun q => absurd q (show ¬ (3 : Int32) < (2 : Int32) from by decide)) (fun _ => ?_)
          refine w_iconst X246 hx (1 : Int32) (Jvm.hb hby at_742) (by decide) (pc' := 743) rfl ?_
          refine w_goto X246 hx (Jvm.hb hby at_743) (by decide) (pc' := 747) (by decide) ?_
          refine w_icmp_ne X246 hx (Jvm.hb hby at_747) (by decide) (pcT := 775) (by decide) (pcF := 750) rfl (fun q => absurd (show (1 : Int32) = (1 : Int32) from by decide) q) (fun _ => ?_)
          refine w_iload X246 hx (Jvm.hb hby at_750) rfl (pc' := 752) rfl ?_
          refine w_iload X246 hx (Jvm.hb hby at_752) rfl (pc' := 754) rfl ?_
          refine w_iconst X246 hx (3 : Int32) (Jvm.hb hby at_754) (by decide) (pc' := 755) rfl ?_
          refine w_icmp_lt X246 hx (Jvm.hb hby at_755) (by decide) (pcT := 762) (by decide) (pcF := 758) rfl (fun q => absurd q (show ¬ (3 : Int32) < (3 : Int32) from by decide)) (fun _ => ?_)
          refine w_iconst X246 hx (1 : Int32) (Jvm.hb hby at_758) (by decide) (pc' := 759) rfl ?_
          refine w_goto X246 hx (Jvm.hb hby at_759) (by decide) (pc' := 763) (by decide) ?_
          refine w_icmp_ne X246 hx (Jvm.hb hby at_763) (by decide) (pcT := 775) (by decide) (pcF := 766) rfl (fun q => absurd (show (1 : Int32) = (1 : Int32) from by decide) q) (fun _ => ?_)
          refine w_iload X246 hx (Jvm.hb hby at_766) rfl (pc' := 768) rfl ?_
          refine w_if_ne X246 hx (Jvm.hb hby at_768) (by decide) (pcT := 775) (by decide) (pcF := 771) rfl (fun q => absurd (show (0 : Int32) = 0 from by decide) q) (fun _ => ?_)
          refine w_iconst X246 hx (1 : Int32) (Jvm.hb hby at_771) (by decide) (pc' := 772) rfl ?_
          refine w_goto X246 hx (Jvm.hb hby at_772) (by decide) (pc' := 776) (by decide) ?_
          refine w_istore X246 hx (Jvm.hb hby at_776) #[.val (.long q0), .second, .val (.long q1), .second, .val (.int p2), .val (.int p3), .val (.long q4), .second, .val (.long q5), .second, .val (.long vm), .second, .val (.long kx), .second, .val (.long vk), .second, .val (.long sd), .second, .val (.long vq), .second, .val (.long lo), .second, .val (.long hi), .second, .val (.long cn), .second, .val (.long cx), .second, .val (.long cy), .second, .val (.int d1), .val (.int d2), .val (.long ax), .second, .val (.long ay), .second, .val (.long gx), .second, .val (.long gy), .second, .val (.long vs), .second, .val (.long vt), .second, .val (.long xa), .second, .val (.long ya), .second, .val (.long xb), .second, .val (.long yb), .second, .val (.long dx), .second, .val (.long dy), .second, .val (.long wc), .second, .val (.long wr), .second, .val (.int pv), .val (.int bx), .val (.int bY), .val (.int (3 : Int32)), .val (.long (wc + dx)), .second, .val (.long wr), .second, .val (.long (wc + dx)), .second, .val (.long (wr + dy)), .second, .val (.ref a235), .val (.int pv), .val (.long (clx.toInt64)), .second, .val (.long (rwy.toInt64)), .second, .val (.int (1 : Int32)), .val (.long ((clx + scx).toInt64)), .second, .val (.long (rwy.toInt64)), .second, .val (.int (1 : Int32)), .val (.long ((clx + scx).toInt64)), .second, .val (.long ((rwy + scy).toInt64)), .second, .val (.int (0 : Int32)), .val (.int (1 : Int32))] rfl  (pc' := 778) rfl ?_
          refine w_iload X246 hx (Jvm.hb hby at_778) rfl (pc' := 780) rfl ?_
          refine w_iconst X246 hx (1 : Int32) (Jvm.hb hby at_780) (by decide) (pc' := 781) rfl ?_
          refine w_icmp_lt X246 hx (Jvm.hb hby at_781) (by decide) (pcT := 812) (by decide) (pcF := 784) rfl (fun q => absurd q (show ¬ (3 : Int32) < (1 : Int32) from by decide)) (fun _ => ?_)
          refine w_iload X246 hx (Jvm.hb hby at_784) rfl (pc' := 786) rfl ?_
          refine w_if_eq X246 hx (Jvm.hb hby at_786) (by decide) (pcT := 809) (by decide) (pcF := 789) rfl (fun q => absurd q (show ¬ (1 : Int32) = 0 from by decide)) (fun _ => ?_)
          refine w_lload X246 hx (Jvm.hb hby at_789) rfl (pc' := 791) rfl ?_
          refine w_lload X246 hx (Jvm.hb hby at_791) rfl (pc' := 793) rfl ?_
          refine w_lcmp_ne X246 hx (Jvm.hb hby at_793) (Jvm.hb hby at_794) rfl (by decide) (pcT := 809) (by decide) (pcF := 797) rfl (fun q => absurd (own_col HX AX hwc hp1.2.1).1 q) (fun _ => ?_)
          refine w_lload X246 hx (Jvm.hb hby at_797) rfl (pc' := 799) rfl ?_
          refine w_lload X246 hx (Jvm.hb hby at_799) rfl (pc' := 801) rfl ?_
          refine w_lcmp_ne X246 hx (Jvm.hb hby at_801) (Jvm.hb hby at_802) rfl (by decide) (pcT := 809) (by decide) (pcF := 805) rfl (fun q => absurd (own_col HY AY hwr hp1.2.2).1 q) (fun _ => ?_)
          refine w_iconst X246 hx (1 : Int32) (Jvm.hb hby at_805) (by decide) (pc' := 806) rfl ?_
          refine w_goto X246 hx (Jvm.hb hby at_806) (by decide) (pc' := 810) (by decide) ?_
          refine w_istore X246 hx (Jvm.hb hby at_810) #[.val (.long q0), .second, .val (.long q1), .second, .val (.int p2), .val (.int p3), .val (.long q4), .second, .val (.long q5), .second, .val (.long vm), .second, .val (.long kx), .second, .val (.long vk), .second, .val (.long sd), .second, .val (.long vq), .second, .val (.long lo), .second, .val (.long hi), .second, .val (.long cn), .second, .val (.long cx), .second, .val (.long cy), .second, .val (.int d1), .val (.int d2), .val (.long ax), .second, .val (.long ay), .second, .val (.long gx), .second, .val (.long gy), .second, .val (.long vs), .second, .val (.long vt), .second, .val (.long xa), .second, .val (.long ya), .second, .val (.long xb), .second, .val (.long yb), .second, .val (.long dx), .second, .val (.long dy), .second, .val (.long wc), .second, .val (.long wr), .second, .val (.int pv), .val (.int bx), .val (.int bY), .val (.int (3 : Int32)), .val (.long (wc + dx)), .second, .val (.long wr), .second, .val (.long (wc + dx)), .second, .val (.long (wr + dy)), .second, .val (.ref a235), .val (.int pv), .val (.long (clx.toInt64)), .second, .val (.long (rwy.toInt64)), .second, .val (.int (1 : Int32)), .val (.long ((clx + scx).toInt64)), .second, .val (.long (rwy.toInt64)), .second, .val (.int (1 : Int32)), .val (.long ((clx + scx).toInt64)), .second, .val (.long ((rwy + scy).toInt64)), .second, .val (.int (0 : Int32)), .val (.int (1 : Int32))] rfl  (pc' := 812) rfl ?_
          refine w_iload X246 hx (Jvm.hb hby at_812) rfl (pc' := 814) rfl ?_
          refine w_iconst X246 hx (2 : Int32) (Jvm.hb hby at_814) (by decide) (pc' := 815) rfl ?_
          refine w_icmp_lt X246 hx (Jvm.hb hby at_815) (by decide) (pcT := 846) (by decide) (pcF := 818) rfl (fun q => absurd q (show ¬ (3 : Int32) < (2 : Int32) from by decide)) (fun _ => ?_)
          refine w_iload X246 hx (Jvm.hb hby at_818) rfl (pc' := 820) rfl ?_
          refine w_if_eq X246 hx (Jvm.hb hby at_820) (by decide) (pcT := 843) (by decide) (pcF := 823) rfl (fun q => absurd q (show ¬ (1 : Int32) = 0 from by decide)) (fun _ => ?_)
          refine w_lload X246 hx (Jvm.hb hby at_823) rfl (pc' := 825) rfl ?_
          refine w_lload X246 hx (Jvm.hb hby at_825) rfl (pc' := 827) rfl ?_
          refine w_lcmp_ne X246 hx (Jvm.hb hby at_827) (Jvm.hb hby at_828) rfl (by decide) (pcT := 843) (by decide) (pcF := 831) rfl (fun q => absurd (own_colS HX AX hwc hdx hgx') q) (fun _ => ?_)
          refine w_lload X246 hx (Jvm.hb hby at_831) rfl (pc' := 833) rfl ?_
          refine w_lload X246 hx (Jvm.hb hby at_833) rfl (pc' := 835) rfl ?_
          refine w_lcmp_ne X246 hx (Jvm.hb hby at_835) (Jvm.hb hby at_836) rfl (by decide) (pcT := 843) (by decide) (pcF := 839) rfl (fun q => absurd (own_col HY AY hwr hp1.2.2).1 q) (fun _ => ?_)
          refine w_iconst X246 hx (1 : Int32) (Jvm.hb hby at_839) (by decide) (pc' := 840) rfl ?_
          refine w_goto X246 hx (Jvm.hb hby at_840) (by decide) (pc' := 844) (by decide) ?_
          refine w_istore X246 hx (Jvm.hb hby at_844) #[.val (.long q0), .second, .val (.long q1), .second, .val (.int p2), .val (.int p3), .val (.long q4), .second, .val (.long q5), .second, .val (.long vm), .second, .val (.long kx), .second, .val (.long vk), .second, .val (.long sd), .second, .val (.long vq), .second, .val (.long lo), .second, .val (.long hi), .second, .val (.long cn), .second, .val (.long cx), .second, .val (.long cy), .second, .val (.int d1), .val (.int d2), .val (.long ax), .second, .val (.long ay), .second, .val (.long gx), .second, .val (.long gy), .second, .val (.long vs), .second, .val (.long vt), .second, .val (.long xa), .second, .val (.long ya), .second, .val (.long xb), .second, .val (.long yb), .second, .val (.long dx), .second, .val (.long dy), .second, .val (.long wc), .second, .val (.long wr), .second, .val (.int pv), .val (.int bx), .val (.int bY), .val (.int (3 : Int32)), .val (.long (wc + dx)), .second, .val (.long wr), .second, .val (.long (wc + dx)), .second, .val (.long (wr + dy)), .second, .val (.ref a235), .val (.int pv), .val (.long (clx.toInt64)), .second, .val (.long (rwy.toInt64)), .second, .val (.int (1 : Int32)), .val (.long ((clx + scx).toInt64)), .second, .val (.long (rwy.toInt64)), .second, .val (.int (1 : Int32)), .val (.long ((clx + scx).toInt64)), .second, .val (.long ((rwy + scy).toInt64)), .second, .val (.int (0 : Int32)), .val (.int (1 : Int32))] rfl  (pc' := 846) rfl ?_
          refine w_iload X246 hx (Jvm.hb hby at_846) rfl (pc' := 848) rfl ?_
          refine w_iconst X246 hx (3 : Int32) (Jvm.hb hby at_848) (by decide) (pc' := 849) rfl ?_
          refine w_icmp_lt X246 hx (Jvm.hb hby at_849) (by decide) (pcT := 880) (by decide) (pcF := 852) rfl (fun q => absurd q (show ¬ (3 : Int32) < (3 : Int32) from by decide)) (fun _ => ?_)
          refine w_iload X246 hx (Jvm.hb hby at_852) rfl (pc' := 854) rfl ?_
          refine w_if_eq X246 hx (Jvm.hb hby at_854) (by decide) (pcT := 877) (by decide) (pcF := 857) rfl (fun q => absurd q (show ¬ (1 : Int32) = 0 from by decide)) (fun _ => ?_)
          refine w_lload X246 hx (Jvm.hb hby at_857) rfl (pc' := 859) rfl ?_
          refine w_lload X246 hx (Jvm.hb hby at_859) rfl (pc' := 861) rfl ?_
          refine w_lcmp_ne X246 hx (Jvm.hb hby at_861) (Jvm.hb hby at_862) rfl (by decide) (pcT := 877) (by decide) (pcF := 865) rfl (fun q => absurd (own_colS HX AX hwc hdx hgx') q) (fun _ => ?_)
          refine w_lload X246 hx (Jvm.hb hby at_865) rfl (pc' := 867) rfl ?_
          refine w_lload X246 hx (Jvm.hb hby at_867) rfl (pc' := 869) rfl ?_
          refine w_lcmp_ne X246 hx (Jvm.hb hby at_869) (Jvm.hb hby at_870) rfl (by decide) (pcT := 877) (by decide) (pcF := 873) rfl (fun q => absurd (own_colS HY AY hwr hdy hgy') q) (fun _ => ?_)
          refine w_iconst X246 hx (1 : Int32) (Jvm.hb hby at_873) (by decide) (pc' := 874) rfl ?_
          refine w_goto X246 hx (Jvm.hb hby at_874) (by decide) (pc' := 878) (by decide) ?_
          refine w_istore X246 hx (Jvm.hb hby at_878) #[.val (.long q0), .second, .val (.long q1), .second, .val (.int p2), .val (.int p3), .val (.long q4), .second, .val (.long q5), .second, .val (.long vm), .second, .val (.long kx), .second, .val (.long vk), .second, .val (.long sd), .second, .val (.long vq), .second, .val (.long lo), .second, .val (.long hi), .second, .val (.long cn), .second, .val (.long cx), .second, .val (.long cy), .second, .val (.int d1), .val (.int d2), .val (.long ax), .second, .val (.long ay), .second, .val (.long gx), .second, .val (.long gy), .second, .val (.long vs), .second, .val (.long vt), .second, .val (.long xa), .second, .val (.long ya), .second, .val (.long xb), .second, .val (.long yb), .second, .val (.long dx), .second, .val (.long dy), .second, .val (.long wc), .second, .val (.long wr), .second, .val (.int pv), .val (.int bx), .val (.int bY), .val (.int (3 : Int32)), .val (.long (wc + dx)), .second, .val (.long wr), .second, .val (.long (wc + dx)), .second, .val (.long (wr + dy)), .second, .val (.ref a235), .val (.int pv), .val (.long (clx.toInt64)), .second, .val (.long (rwy.toInt64)), .second, .val (.int (1 : Int32)), .val (.long ((clx + scx).toInt64)), .second, .val (.long (rwy.toInt64)), .second, .val (.int (1 : Int32)), .val (.long ((clx + scx).toInt64)), .second, .val (.long ((rwy + scy).toInt64)), .second, .val (.int (0 : Int32)), .val (.int (1 : Int32))] rfl  (pc' := 880) rfl ?_
          refine w_iload X246 hx (Jvm.hb hby at_880) rfl (pc' := 882) rfl ?_
          exact w_zreturn X246 hx Bd.returns (Or.inr rfl) (BodyLoose.notSynchronized Bd) (Nat.le_of_ble_eq_true rfl) (Nat.le_of_ble_eq_true rfl) (Jvm.hb hby at_882) ⟨rfl, by simpa using M246⟩
  · have hp0 := kp
    refine w_iconst X174 hx (0 : Int32) (Jvm.hb hby at_448) (by decide) (pc' := 449) rfl ?_
    refine w_istore X174 hx (Jvm.hb hby at_449) #[.val (.long q0), .second, .val (.long q1), .second, .val (.int p2), .val (.int p3), .val (.long q4), .second, .val (.long q5), .second, .val (.long vm), .second, .val (.long kx), .second, .val (.long vk), .second, .val (.long sd), .second, .val (.long vq), .second, .val (.long lo), .second, .val (.long hi), .second, .val (.long cn), .second, .val (.long cx), .second, .val (.long cy), .second, .val (.int d1), .val (.int d2), .val (.long ax), .second, .val (.long ay), .second, .val (.long gx), .second, .val (.long gy), .second, .val (.long vs), .second, .val (.long vt), .second, .val (.long xa), .second, .val (.long ya), .second, .val (.long xb), .second, .val (.long yb), .second, .val (.long dx), .second, .val (.long dy), .second, .val (.long wc), .second, .val (.long wr), .second, .val (.int pv), .val (.int bx), .val (.int bY), .val (.int (0 : Int32)), .val (.long (0 : Int64)), .second, .val (.long (0 : Int64)), .second, .val (.long (0 : Int64)), .second, .val (.long (0 : Int64)), .second, .unset, .unset, .unset, .unset, .unset, .unset, .unset, .unset, .unset, .unset, .unset, .unset, .unset, .unset, .unset, .unset, .unset, .unset] rfl  (pc' := 451) rfl ?_
    refine w_goto X174 hx (Jvm.hb hby at_451) (by decide) (pc' := 623) (by decide) ?_
    refine w_new X174 hx hZ hown (hw _ (List.mem_of_getElem? (i := 22) rfl)) (hw _ (List.mem_of_getElem? (i := 23) rfl)) (hw _ (List.mem_of_getElem? (i := 24) rfl)) e174 (Jvm.hb hby at_623) (by decide) (by decide) (pc' := 626) rfl ?_
    intro T247 h247 a247 g247 X247 e247 E247 A247 D247
    have G247_side : Fld Z h247 a247 "com/example/sarutahiko/sarutahiko/lattice/SegmentWalk" "side" "J" (.long (0 : Int64)) := D247 (Or.inr (hw _ (List.mem_of_getElem? (i := 42) rfl))) (ty := .long) (by decide)
    have G247_spanX : Fld Z h247 a247 "com/example/sarutahiko/sarutahiko/lattice/SegmentWalk" "spanX" "J" (.long (0 : Int64)) := D247 (Or.inr (hw _ (List.mem_of_getElem? (i := 47) rfl))) (ty := .long) (by decide)
    have G247_spanY : Fld Z h247 a247 "com/example/sarutahiko/sarutahiko/lattice/SegmentWalk" "spanY" "J" (.long (0 : Int64)) := D247 (Or.inr (hw _ (List.mem_of_getElem? (i := 49) rfl))) (ty := .long) (by decide)
    have G247_stepColumn : Fld Z h247 a247 "com/example/sarutahiko/sarutahiko/lattice/SegmentWalk" "stepColumn" "I" (.int (0 : Int32)) := D247 (Or.inr (hw _ (List.mem_of_getElem? (i := 51) rfl))) (ty := .int) (by decide)
    have G247_stepRow : Fld Z h247 a247 "com/example/sarutahiko/sarutahiko/lattice/SegmentWalk" "stepRow" "I" (.int (0 : Int32)) := D247 (Or.inr (hw _ (List.mem_of_getElem? (i := 53) rfl))) (ty := .int) (by decide)
    have G247_passes : Fld Z h247 a247 "com/example/sarutahiko/sarutahiko/lattice/SegmentWalk" "passes" "Z" (.int (0 : Int32)) := D247 (Or.inr (hw _ (List.mem_of_getElem? (i := 63) rfl))) (ty := .boolean) (by decide)
    have G247_column : Fld Z h247 a247 "com/example/sarutahiko/sarutahiko/lattice/SegmentWalk" "column" "I" (.int (0 : Int32)) := D247 (Or.inl (hw _ (List.mem_of_getElem? (i := 59) rfl))) (ty := .int) (by decide)
    have G247_row : Fld Z h247 a247 "com/example/sarutahiko/sarutahiko/lattice/SegmentWalk" "row" "I" (.int (0 : Int32)) := D247 (Or.inl (hw _ (List.mem_of_getElem? (i := 61) rfl))) (ty := .int) (by decide)
    have G247_toColumnLine : Fld Z h247 a247 "com/example/sarutahiko/sarutahiko/lattice/SegmentWalk" "toColumnLine" "J" (.long (0 : Int64)) := D247 (Or.inl (hw _ (List.mem_of_getElem? (i := 55) rfl))) (ty := .long) (by decide)
    have G247_toRowLine : Fld Z h247 a247 "com/example/sarutahiko/sarutahiko/lattice/SegmentWalk" "toRowLine" "J" (.long (0 : Int64)) := D247 (Or.inl (hw _ (List.mem_of_getElem? (i := 57) rfl))) (ty := .long) (by decide)
    have G247_started : Fld Z h247 a247 "com/example/sarutahiko/sarutahiko/lattice/SegmentWalk" "started" "Z" (.int (0 : Int32)) := D247 (Or.inl (hw _ (List.mem_of_getElem? (i := 70) rfl))) (ty := .boolean) (by decide)
    have GA : n0 ≤ a247 := Nat.le_trans Z0 (Nat.le_of_eq g247.symm)
    have OO : SWo Z h247 a247 (0 : Int64) (0 : Int64) (0 : Int64) (0 : Int32) (0 : Int32) (0 : Int32) (0 : Int32) (0 : Int32) (0 : Int64) (0 : Int64) (0 : Int32) := ⟨G247_side, G247_spanX, G247_spanY, G247_stepColumn, G247_stepRow, G247_passes, G247_column, G247_row, G247_toColumnLine, G247_toRowLine, G247_started, A247⟩
    refine w_dup X247 hx (Jvm.hb hby at_626) rfl (pc' := 627) rfl ?_
    refine w_lload X247 hx (Jvm.hb hby at_627) rfl (pc' := 629) rfl ?_
    refine w_lload X247 hx (Jvm.hb hby at_629) rfl (pc' := 631) rfl ?_
    refine w_lload X247 hx (Jvm.hb hby at_631) rfl (pc' := 633) rfl ?_
    refine w_lload X247 hx (Jvm.hb hby at_633) rfl (pc' := 635) rfl ?_
    refine w_lload X247 hx (Jvm.hb hby at_635) rfl (pc' := 637) rfl ?_
    refine w_callN X247 hx hZ rfl hown (hw _ (List.mem_of_getElem? (i := 25) rfl)) (hw _ (List.mem_of_getElem? (i := 26) rfl)) (hw _ (List.mem_of_getElem? (i := 24) rfl)) (hw _ (List.mem_of_getElem? (i := 27) rfl)) (by decide) (W := 1) (rm5 l Z aw hw [] a247 xa ya xb yb sd spx spy scx scy Xp Yp ccx ccy tcx tcy clx rwy pv h247 n0 GA OO (q_nz (by have := Bs.2.1; omega)) (j_lt.mpr (by rw [j0]; have := Bs.2.1; omega)) (fun z => by have h9 := j_lt.mp z; rw [show (2305843009213693952 : Int64).toInt = 2305843009213693952 from by decide] at h9; have := Bs.2.2; omega) AX.2.2.2.2.2.2.1 AY.2.2.2.2.2.2.1 AX.2.2.2.2.2.2.2.1 AY.2.2.2.2.2.2.2.1 AX.1 AY.1 AX.2.1 AY.2.1 AX.2.2.1 AY.2.2.1 AX.2.2.2.1 AY.2.2.2.1 AX.2.2.2.2.1 AY.2.2.2.2.1 AX.2.2.2.2.2.1 AY.2.2.2.2.2.1 hpsw) e247 (by decide) (by decide) (by decide) (by decide) (Jvm.hb hby at_637) (by rw [hml]; rfl) (a := a247) (argsL := [(.long xa), (.long ya), (.long xb), (.long yb), (.long sd)]) (rest := [(.ref a247)]) pd_6 rfl rfl rfl (Nat.le_of_eq rfl) (pc' := 640) rfl ?_
    rintro _ T248 L248 X248 ⟨rfl, N248, K248, O248⟩
    show Ow p e below s _ _ _ (T248.setTop (mkF m 640 #[.val (.long q0), .second, .val (.long q1), .second, .val (.int p2), .val (.int p3), .val (.long q4), .second, .val (.long q5), .second, .val (.long vm), .second, .val (.long kx), .second, .val (.long vk), .second, .val (.long sd), .second, .val (.long vq), .second, .val (.long lo), .second, .val (.long hi), .second, .val (.long cn), .second, .val (.long cx), .second, .val (.long cy), .second, .val (.int d1), .val (.int d2), .val (.long ax), .second, .val (.long ay), .second, .val (.long gx), .second, .val (.long gy), .second, .val (.long vs), .second, .val (.long vt), .second, .val (.long xa), .second, .val (.long ya), .second, .val (.long xb), .second, .val (.long yb), .second, .val (.long dx), .second, .val (.long dy), .second, .val (.long wc), .second, .val (.long wr), .second, .val (.int pv), .val (.int bx), .val (.int bY), .val (.int (0 : Int32)), .val (.long (0 : Int64)), .second, .val (.long (0 : Int64)), .second, .val (.long (0 : Int64)), .second, .val (.long (0 : Int64)), .second, .unset, .unset, .unset, .unset, .unset, .unset, .unset, .unset, .unset, .unset, .unset, .unset, .unset, .unset, .unset, .unset, .unset, .unset] [(.ref a247)]))
    have M248 := Fr.app NB N248
    refine w_astore X248 hx (Jvm.hb hby at_640) #[.val (.long q0), .second, .val (.long q1), .second, .val (.int p2), .val (.int p3), .val (.long q4), .second, .val (.long q5), .second, .val (.long vm), .second, .val (.long kx), .second, .val (.long vk), .second, .val (.long sd), .second, .val (.long vq), .second, .val (.long lo), .second, .val (.long hi), .second, .val (.long cn), .second, .val (.long cx), .second, .val (.long cy), .second, .val (.int d1), .val (.int d2), .val (.long ax), .second, .val (.long ay), .second, .val (.long gx), .second, .val (.long gy), .second, .val (.long vs), .second, .val (.long vt), .second, .val (.long xa), .second, .val (.long ya), .second, .val (.long xb), .second, .val (.long yb), .second, .val (.long dx), .second, .val (.long dy), .second, .val (.long wc), .second, .val (.long wr), .second, .val (.int pv), .val (.int bx), .val (.int bY), .val (.int (0 : Int32)), .val (.long (0 : Int64)), .second, .val (.long (0 : Int64)), .second, .val (.long (0 : Int64)), .second, .val (.long (0 : Int64)), .second, .val (.ref a247), .unset, .unset, .unset, .unset, .unset, .unset, .unset, .unset, .unset, .unset, .unset, .unset, .unset, .unset, .unset, .unset, .unset] rfl rfl (pc' := 642) rfl ?_
    refine w_aload X248 hx (Jvm.hb hby at_642) rfl rfl (pc' := 644) rfl ?_
    refine w_callV X248 hx hZ hown (hw _ (List.mem_of_getElem? (i := 64) rfl)) (hw _ (List.mem_of_getElem? (i := 65) rfl)) (notFace_of_selects (args := #[]) (mvT hZ (hw _ (List.mem_of_getElem? (i := 67) rfl)))) (hw _ (List.mem_of_getElem? (i := 67) rfl)) (hw _ (List.mem_of_getElem? (i := 66) rfl)) (hw _ (List.mem_of_getElem? (i := 24) rfl)) (hw _ (List.mem_of_getElem? (i := 68) rfl)) (by decide) (W := 0) (rmN_first l Z aw hw [] a247 sd spx spy scx scy pv clx rwy tcx tcy T248.heap n0 GA O248 (own_p01 hpas)) rfl (by decide) (by decide) (by decide) (by decide) (O248.2.2.2.2.2.2.2.2.2.2.2) (Jvm.hb hby at_644) (by rw [hml]; rfl) (argsL := []) (rest := []) pd_7 rfl rfl rfl (Nat.le_of_eq rfl) (pc' := 647) rfl ?_
    rintro _ T249 L249 X249 ⟨rfl, N249, K249, O249⟩
    show Ow p e below s _ _ _ (T249.setTop (mkF m 647 #[.val (.long q0), .second, .val (.long q1), .second, .val (.int p2), .val (.int p3), .val (.long q4), .second, .val (.long q5), .second, .val (.long vm), .second, .val (.long kx), .second, .val (.long vk), .second, .val (.long sd), .second, .val (.long vq), .second, .val (.long lo), .second, .val (.long hi), .second, .val (.long cn), .second, .val (.long cx), .second, .val (.long cy), .second, .val (.int d1), .val (.int d2), .val (.long ax), .second, .val (.long ay), .second, .val (.long gx), .second, .val (.long gy), .second, .val (.long vs), .second, .val (.long vt), .second, .val (.long xa), .second, .val (.long ya), .second, .val (.long xb), .second, .val (.long yb), .second, .val (.long dx), .second, .val (.long dy), .second, .val (.long wc), .second, .val (.long wr), .second, .val (.int pv), .val (.int bx), .val (.int bY), .val (.int (0 : Int32)), .val (.long (0 : Int64)), .second, .val (.long (0 : Int64)), .second, .val (.long (0 : Int64)), .second, .val (.long (0 : Int64)), .second, .val (.ref a247), .unset, .unset, .unset, .unset, .unset, .unset, .unset, .unset, .unset, .unset, .unset, .unset, .unset, .unset, .unset, .unset, .unset] [(.int pv)]))
    have M249 := Fr.app M248 N249
    refine w_istore X249 hx (Jvm.hb hby at_647) #[.val (.long q0), .second, .val (.long q1), .second, .val (.int p2), .val (.int p3), .val (.long q4), .second, .val (.long q5), .second, .val (.long vm), .second, .val (.long kx), .second, .val (.long vk), .second, .val (.long sd), .second, .val (.long vq), .second, .val (.long lo), .second, .val (.long hi), .second, .val (.long cn), .second, .val (.long cx), .second, .val (.long cy), .second, .val (.int d1), .val (.int d2), .val (.long ax), .second, .val (.long ay), .second, .val (.long gx), .second, .val (.long gy), .second, .val (.long vs), .second, .val (.long vt), .second, .val (.long xa), .second, .val (.long ya), .second, .val (.long xb), .second, .val (.long yb), .second, .val (.long dx), .second, .val (.long dy), .second, .val (.long wc), .second, .val (.long wr), .second, .val (.int pv), .val (.int bx), .val (.int bY), .val (.int (0 : Int32)), .val (.long (0 : Int64)), .second, .val (.long (0 : Int64)), .second, .val (.long (0 : Int64)), .second, .val (.long (0 : Int64)), .second, .val (.ref a247), .val (.int pv), .unset, .unset, .unset, .unset, .unset, .unset, .unset, .unset, .unset, .unset, .unset, .unset, .unset, .unset, .unset, .unset] rfl  (pc' := 649) rfl ?_
    refine w_aload X249 hx (Jvm.hb hby at_649) rfl rfl (pc' := 651) rfl ?_
    refine w_callV X249 hx hZ hown (hw _ (List.mem_of_getElem? (i := 71) rfl)) (hw _ (List.mem_of_getElem? (i := 72) rfl)) (notFace_of_selects (args := #[]) (mvT hZ (hw _ (List.mem_of_getElem? (i := 74) rfl)))) (hw _ (List.mem_of_getElem? (i := 74) rfl)) (hw _ (List.mem_of_getElem? (i := 73) rfl)) (hw _ (List.mem_of_getElem? (i := 24) rfl)) (hw _ (List.mem_of_getElem? (i := 75) rfl)) (by decide) (W := 0) (rm11 l Z aw hw [] a247 clx T249.heap (O249.2.2.2.2.2.2.1)) rfl (by decide) (by decide) (by decide) (by decide) (O249.2.2.2.2.2.2.2.2.2.2.2) (Jvm.hb hby at_651) (by rw [hml]; rfl) (argsL := []) (rest := []) pd_8 rfl rfl rfl (Nat.le_of_eq rfl) (pc' := 654) rfl ?_
    rintro _ T250 L250 X250 ⟨rfl, e250, rfl⟩
    show Ow p e below s _ _ _ (T250.setTop (mkF m 654 #[.val (.long q0), .second, .val (.long q1), .second, .val (.int p2), .val (.int p3), .val (.long q4), .second, .val (.long q5), .second, .val (.long vm), .second, .val (.long kx), .second, .val (.long vk), .second, .val (.long sd), .second, .val (.long vq), .second, .val (.long lo), .second, .val (.long hi), .second, .val (.long cn), .second, .val (.long cx), .second, .val (.long cy), .second, .val (.int d1), .val (.int d2), .val (.long ax), .second, .val (.long ay), .second, .val (.long gx), .second, .val (.long gy), .second, .val (.long vs), .second, .val (.long vt), .second, .val (.long xa), .second, .val (.long ya), .second, .val (.long xb), .second, .val (.long yb), .second, .val (.long dx), .second, .val (.long dy), .second, .val (.long wc), .second, .val (.long wr), .second, .val (.int pv), .val (.int bx), .val (.int bY), .val (.int (0 : Int32)), .val (.long (0 : Int64)), .second, .val (.long (0 : Int64)), .second, .val (.long (0 : Int64)), .second, .val (.long (0 : Int64)), .second, .val (.ref a247), .val (.int pv), .unset, .unset, .unset, .unset, .unset, .unset, .unset, .unset, .unset, .unset, .unset, .unset, .unset, .unset, .unset, .unset] [(.int clx)]))
    have M250 := Fr.app M249 (Fr.nil n0)
    refine w_i2l X250 hx (Jvm.hb hby at_654) (pc' := 655) rfl ?_
    refine w_lstore X250 hx (Jvm.hb hby at_655) #[.val (.long q0), .second, .val (.long q1), .second, .val (.int p2), .val (.int p3), .val (.long q4), .second, .val (.long q5), .second, .val (.long vm), .second, .val (.long kx), .second, .val (.long vk), .second, .val (.long sd), .second, .val (.long vq), .second, .val (.long lo), .second, .val (.long hi), .second, .val (.long cn), .second, .val (.long cx), .second, .val (.long cy), .second, .val (.int d1), .val (.int d2), .val (.long ax), .second, .val (.long ay), .second, .val (.long gx), .second, .val (.long gy), .second, .val (.long vs), .second, .val (.long vt), .second, .val (.long xa), .second, .val (.long ya), .second, .val (.long xb), .second, .val (.long yb), .second, .val (.long dx), .second, .val (.long dy), .second, .val (.long wc), .second, .val (.long wr), .second, .val (.int pv), .val (.int bx), .val (.int bY), .val (.int (0 : Int32)), .val (.long (0 : Int64)), .second, .val (.long (0 : Int64)), .second, .val (.long (0 : Int64)), .second, .val (.long (0 : Int64)), .second, .val (.ref a247), .val (.int pv), .val (.long (clx.toInt64)), .second, .unset, .unset, .unset, .unset, .unset, .unset, .unset, .unset, .unset, .unset, .unset, .unset, .unset, .unset] rfl  (pc' := 657) rfl ?_
    refine w_aload X250 hx (Jvm.hb hby at_657) rfl rfl (pc' := 659) rfl ?_
    refine w_callV X250 hx hZ hown (hw _ (List.mem_of_getElem? (i := 76) rfl)) (hw _ (List.mem_of_getElem? (i := 77) rfl)) (notFace_of_selects (args := #[]) (mvT hZ (hw _ (List.mem_of_getElem? (i := 79) rfl)))) (hw _ (List.mem_of_getElem? (i := 79) rfl)) (hw _ (List.mem_of_getElem? (i := 78) rfl)) (hw _ (List.mem_of_getElem? (i := 24) rfl)) (hw _ (List.mem_of_getElem? (i := 80) rfl)) (by decide) (W := 0) (rm12 l Z aw hw [] a247 rwy T249.heap (O249.2.2.2.2.2.2.2.1)) e250 (by decide) (by decide) (by decide) (by decide) (O249.2.2.2.2.2.2.2.2.2.2.2) (Jvm.hb hby at_659) (by rw [hml]; rfl) (argsL := []) (rest := []) pd_8 rfl rfl rfl (Nat.le_of_eq rfl) (pc' := 662) rfl ?_
    rintro _ T251 L251 X251 ⟨rfl, e251, rfl⟩
    show Ow p e below s _ _ _ (T251.setTop (mkF m 662 #[.val (.long q0), .second, .val (.long q1), .second, .val (.int p2), .val (.int p3), .val (.long q4), .second, .val (.long q5), .second, .val (.long vm), .second, .val (.long kx), .second, .val (.long vk), .second, .val (.long sd), .second, .val (.long vq), .second, .val (.long lo), .second, .val (.long hi), .second, .val (.long cn), .second, .val (.long cx), .second, .val (.long cy), .second, .val (.int d1), .val (.int d2), .val (.long ax), .second, .val (.long ay), .second, .val (.long gx), .second, .val (.long gy), .second, .val (.long vs), .second, .val (.long vt), .second, .val (.long xa), .second, .val (.long ya), .second, .val (.long xb), .second, .val (.long yb), .second, .val (.long dx), .second, .val (.long dy), .second, .val (.long wc), .second, .val (.long wr), .second, .val (.int pv), .val (.int bx), .val (.int bY), .val (.int (0 : Int32)), .val (.long (0 : Int64)), .second, .val (.long (0 : Int64)), .second, .val (.long (0 : Int64)), .second, .val (.long (0 : Int64)), .second, .val (.ref a247), .val (.int pv), .val (.long (clx.toInt64)), .second, .unset, .unset, .unset, .unset, .unset, .unset, .unset, .unset, .unset, .unset, .unset, .unset, .unset, .unset] [(.int rwy)]))
    have M251 := Fr.app M250 (Fr.nil n0)
    refine w_i2l X251 hx (Jvm.hb hby at_662) (pc' := 663) rfl ?_
    refine w_lstore X251 hx (Jvm.hb hby at_663) #[.val (.long q0), .second, .val (.long q1), .second, .val (.int p2), .val (.int p3), .val (.long q4), .second, .val (.long q5), .second, .val (.long vm), .second, .val (.long kx), .second, .val (.long vk), .second, .val (.long sd), .second, .val (.long vq), .second, .val (.long lo), .second, .val (.long hi), .second, .val (.long cn), .second, .val (.long cx), .second, .val (.long cy), .second, .val (.int d1), .val (.int d2), .val (.long ax), .second, .val (.long ay), .second, .val (.long gx), .second, .val (.long gy), .second, .val (.long vs), .second, .val (.long vt), .second, .val (.long xa), .second, .val (.long ya), .second, .val (.long xb), .second, .val (.long yb), .second, .val (.long dx), .second, .val (.long dy), .second, .val (.long wc), .second, .val (.long wr), .second, .val (.int pv), .val (.int bx), .val (.int bY), .val (.int (0 : Int32)), .val (.long (0 : Int64)), .second, .val (.long (0 : Int64)), .second, .val (.long (0 : Int64)), .second, .val (.long (0 : Int64)), .second, .val (.ref a247), .val (.int pv), .val (.long (clx.toInt64)), .second, .val (.long (rwy.toInt64)), .second, .unset, .unset, .unset, .unset, .unset, .unset, .unset, .unset, .unset, .unset, .unset, .unset] rfl  (pc' := 665) rfl ?_
    refine w_aload X251 hx (Jvm.hb hby at_665) rfl rfl (pc' := 667) rfl ?_
    refine w_callV X251 hx hZ hown (hw _ (List.mem_of_getElem? (i := 64) rfl)) (hw _ (List.mem_of_getElem? (i := 65) rfl)) (notFace_of_selects (args := #[]) (mvT hZ (hw _ (List.mem_of_getElem? (i := 67) rfl)))) (hw _ (List.mem_of_getElem? (i := 67) rfl)) (hw _ (List.mem_of_getElem? (i := 66) rfl)) (hw _ (List.mem_of_getElem? (i := 24) rfl)) (hw _ (List.mem_of_getElem? (i := 68) rfl)) (by decide) (W := 0) (rmN_stop0 l Z aw hw [] a247 sd spx spy scx scy pv clx rwy tcx tcy T249.heap n0 GA O249 hp0) e251 (by decide) (by decide) (by decide) (by decide) (O249.2.2.2.2.2.2.2.2.2.2.2) (Jvm.hb hby at_667) (by rw [hml]; rfl) (argsL := []) (rest := []) pd_7 rfl rfl rfl (Nat.le_of_eq rfl) (pc' := 670) rfl ?_
    rintro _ T252 L252 X252 ⟨rfl, N252, K252, O252⟩
    show Ow p e below s _ _ _ (T252.setTop (mkF m 670 #[.val (.long q0), .second, .val (.long q1), .second, .val (.int p2), .val (.int p3), .val (.long q4), .second, .val (.long q5), .second, .val (.long vm), .second, .val (.long kx), .second, .val (.long vk), .second, .val (.long sd), .second, .val (.long vq), .second, .val (.long lo), .second, .val (.long hi), .second, .val (.long cn), .second, .val (.long cx), .second, .val (.long cy), .second, .val (.int d1), .val (.int d2), .val (.long ax), .second, .val (.long ay), .second, .val (.long gx), .second, .val (.long gy), .second, .val (.long vs), .second, .val (.long vt), .second, .val (.long xa), .second, .val (.long ya), .second, .val (.long xb), .second, .val (.long yb), .second, .val (.long dx), .second, .val (.long dy), .second, .val (.long wc), .second, .val (.long wr), .second, .val (.int pv), .val (.int bx), .val (.int bY), .val (.int (0 : Int32)), .val (.long (0 : Int64)), .second, .val (.long (0 : Int64)), .second, .val (.long (0 : Int64)), .second, .val (.long (0 : Int64)), .second, .val (.ref a247), .val (.int pv), .val (.long (clx.toInt64)), .second, .val (.long (rwy.toInt64)), .second, .unset, .unset, .unset, .unset, .unset, .unset, .unset, .unset, .unset, .unset, .unset, .unset] [(.int (0 : Int32))]))
    have M252 := Fr.app M251 N252
    refine w_istore X252 hx (Jvm.hb hby at_670) #[.val (.long q0), .second, .val (.long q1), .second, .val (.int p2), .val (.int p3), .val (.long q4), .second, .val (.long q5), .second, .val (.long vm), .second, .val (.long kx), .second, .val (.long vk), .second, .val (.long sd), .second, .val (.long vq), .second, .val (.long lo), .second, .val (.long hi), .second, .val (.long cn), .second, .val (.long cx), .second, .val (.long cy), .second, .val (.int d1), .val (.int d2), .val (.long ax), .second, .val (.long ay), .second, .val (.long gx), .second, .val (.long gy), .second, .val (.long vs), .second, .val (.long vt), .second, .val (.long xa), .second, .val (.long ya), .second, .val (.long xb), .second, .val (.long yb), .second, .val (.long dx), .second, .val (.long dy), .second, .val (.long wc), .second, .val (.long wr), .second, .val (.int pv), .val (.int bx), .val (.int bY), .val (.int (0 : Int32)), .val (.long (0 : Int64)), .second, .val (.long (0 : Int64)), .second, .val (.long (0 : Int64)), .second, .val (.long (0 : Int64)), .second, .val (.ref a247), .val (.int pv), .val (.long (clx.toInt64)), .second, .val (.long (rwy.toInt64)), .second, .val (.int (0 : Int32)), .unset, .unset, .unset, .unset, .unset, .unset, .unset, .unset, .unset, .unset, .unset] rfl  (pc' := 672) rfl ?_
    refine w_aload X252 hx (Jvm.hb hby at_672) rfl rfl (pc' := 674) rfl ?_
    refine w_callV X252 hx hZ hown (hw _ (List.mem_of_getElem? (i := 71) rfl)) (hw _ (List.mem_of_getElem? (i := 72) rfl)) (notFace_of_selects (args := #[]) (mvT hZ (hw _ (List.mem_of_getElem? (i := 74) rfl)))) (hw _ (List.mem_of_getElem? (i := 74) rfl)) (hw _ (List.mem_of_getElem? (i := 73) rfl)) (hw _ (List.mem_of_getElem? (i := 24) rfl)) (hw _ (List.mem_of_getElem? (i := 75) rfl)) (by decide) (W := 0) (rm11 l Z aw hw [] a247 clx T252.heap (O252.2.2.2.2.2.2.1)) rfl (by decide) (by decide) (by decide) (by decide) (O252.2.2.2.2.2.2.2.2.2.2.2) (Jvm.hb hby at_674) (by rw [hml]; rfl) (argsL := []) (rest := []) pd_8 rfl rfl rfl (Nat.le_of_eq rfl) (pc' := 677) rfl ?_
    rintro _ T253 L253 X253 ⟨rfl, e253, rfl⟩
    show Ow p e below s _ _ _ (T253.setTop (mkF m 677 #[.val (.long q0), .second, .val (.long q1), .second, .val (.int p2), .val (.int p3), .val (.long q4), .second, .val (.long q5), .second, .val (.long vm), .second, .val (.long kx), .second, .val (.long vk), .second, .val (.long sd), .second, .val (.long vq), .second, .val (.long lo), .second, .val (.long hi), .second, .val (.long cn), .second, .val (.long cx), .second, .val (.long cy), .second, .val (.int d1), .val (.int d2), .val (.long ax), .second, .val (.long ay), .second, .val (.long gx), .second, .val (.long gy), .second, .val (.long vs), .second, .val (.long vt), .second, .val (.long xa), .second, .val (.long ya), .second, .val (.long xb), .second, .val (.long yb), .second, .val (.long dx), .second, .val (.long dy), .second, .val (.long wc), .second, .val (.long wr), .second, .val (.int pv), .val (.int bx), .val (.int bY), .val (.int (0 : Int32)), .val (.long (0 : Int64)), .second, .val (.long (0 : Int64)), .second, .val (.long (0 : Int64)), .second, .val (.long (0 : Int64)), .second, .val (.ref a247), .val (.int pv), .val (.long (clx.toInt64)), .second, .val (.long (rwy.toInt64)), .second, .val (.int (0 : Int32)), .unset, .unset, .unset, .unset, .unset, .unset, .unset, .unset, .unset, .unset, .unset] [(.int clx)]))
    have M253 := Fr.app M252 (Fr.nil n0)
    refine w_i2l X253 hx (Jvm.hb hby at_677) (pc' := 678) rfl ?_
    refine w_lstore X253 hx (Jvm.hb hby at_678) #[.val (.long q0), .second, .val (.long q1), .second, .val (.int p2), .val (.int p3), .val (.long q4), .second, .val (.long q5), .second, .val (.long vm), .second, .val (.long kx), .second, .val (.long vk), .second, .val (.long sd), .second, .val (.long vq), .second, .val (.long lo), .second, .val (.long hi), .second, .val (.long cn), .second, .val (.long cx), .second, .val (.long cy), .second, .val (.int d1), .val (.int d2), .val (.long ax), .second, .val (.long ay), .second, .val (.long gx), .second, .val (.long gy), .second, .val (.long vs), .second, .val (.long vt), .second, .val (.long xa), .second, .val (.long ya), .second, .val (.long xb), .second, .val (.long yb), .second, .val (.long dx), .second, .val (.long dy), .second, .val (.long wc), .second, .val (.long wr), .second, .val (.int pv), .val (.int bx), .val (.int bY), .val (.int (0 : Int32)), .val (.long (0 : Int64)), .second, .val (.long (0 : Int64)), .second, .val (.long (0 : Int64)), .second, .val (.long (0 : Int64)), .second, .val (.ref a247), .val (.int pv), .val (.long (clx.toInt64)), .second, .val (.long (rwy.toInt64)), .second, .val (.int (0 : Int32)), .val (.long (clx.toInt64)), .second, .unset, .unset, .unset, .unset, .unset, .unset, .unset, .unset, .unset] rfl  (pc' := 680) rfl ?_
    refine w_aload X253 hx (Jvm.hb hby at_680) rfl rfl (pc' := 682) rfl ?_
    refine w_callV X253 hx hZ hown (hw _ (List.mem_of_getElem? (i := 76) rfl)) (hw _ (List.mem_of_getElem? (i := 77) rfl)) (notFace_of_selects (args := #[]) (mvT hZ (hw _ (List.mem_of_getElem? (i := 79) rfl)))) (hw _ (List.mem_of_getElem? (i := 79) rfl)) (hw _ (List.mem_of_getElem? (i := 78) rfl)) (hw _ (List.mem_of_getElem? (i := 24) rfl)) (hw _ (List.mem_of_getElem? (i := 80) rfl)) (by decide) (W := 0) (rm12 l Z aw hw [] a247 rwy T252.heap (O252.2.2.2.2.2.2.2.1)) e253 (by decide) (by decide) (by decide) (by decide) (O252.2.2.2.2.2.2.2.2.2.2.2) (Jvm.hb hby at_682) (by rw [hml]; rfl) (argsL := []) (rest := []) pd_8 rfl rfl rfl (Nat.le_of_eq rfl) (pc' := 685) rfl ?_
    rintro _ T254 L254 X254 ⟨rfl, e254, rfl⟩
    show Ow p e below s _ _ _ (T254.setTop (mkF m 685 #[.val (.long q0), .second, .val (.long q1), .second, .val (.int p2), .val (.int p3), .val (.long q4), .second, .val (.long q5), .second, .val (.long vm), .second, .val (.long kx), .second, .val (.long vk), .second, .val (.long sd), .second, .val (.long vq), .second, .val (.long lo), .second, .val (.long hi), .second, .val (.long cn), .second, .val (.long cx), .second, .val (.long cy), .second, .val (.int d1), .val (.int d2), .val (.long ax), .second, .val (.long ay), .second, .val (.long gx), .second, .val (.long gy), .second, .val (.long vs), .second, .val (.long vt), .second, .val (.long xa), .second, .val (.long ya), .second, .val (.long xb), .second, .val (.long yb), .second, .val (.long dx), .second, .val (.long dy), .second, .val (.long wc), .second, .val (.long wr), .second, .val (.int pv), .val (.int bx), .val (.int bY), .val (.int (0 : Int32)), .val (.long (0 : Int64)), .second, .val (.long (0 : Int64)), .second, .val (.long (0 : Int64)), .second, .val (.long (0 : Int64)), .second, .val (.ref a247), .val (.int pv), .val (.long (clx.toInt64)), .second, .val (.long (rwy.toInt64)), .second, .val (.int (0 : Int32)), .val (.long (clx.toInt64)), .second, .unset, .unset, .unset, .unset, .unset, .unset, .unset, .unset, .unset] [(.int rwy)]))
    have M254 := Fr.app M253 (Fr.nil n0)
    refine w_i2l X254 hx (Jvm.hb hby at_685) (pc' := 686) rfl ?_
    refine w_lstore X254 hx (Jvm.hb hby at_686) #[.val (.long q0), .second, .val (.long q1), .second, .val (.int p2), .val (.int p3), .val (.long q4), .second, .val (.long q5), .second, .val (.long vm), .second, .val (.long kx), .second, .val (.long vk), .second, .val (.long sd), .second, .val (.long vq), .second, .val (.long lo), .second, .val (.long hi), .second, .val (.long cn), .second, .val (.long cx), .second, .val (.long cy), .second, .val (.int d1), .val (.int d2), .val (.long ax), .second, .val (.long ay), .second, .val (.long gx), .second, .val (.long gy), .second, .val (.long vs), .second, .val (.long vt), .second, .val (.long xa), .second, .val (.long ya), .second, .val (.long xb), .second, .val (.long yb), .second, .val (.long dx), .second, .val (.long dy), .second, .val (.long wc), .second, .val (.long wr), .second, .val (.int pv), .val (.int bx), .val (.int bY), .val (.int (0 : Int32)), .val (.long (0 : Int64)), .second, .val (.long (0 : Int64)), .second, .val (.long (0 : Int64)), .second, .val (.long (0 : Int64)), .second, .val (.ref a247), .val (.int pv), .val (.long (clx.toInt64)), .second, .val (.long (rwy.toInt64)), .second, .val (.int (0 : Int32)), .val (.long (clx.toInt64)), .second, .val (.long (rwy.toInt64)), .second, .unset, .unset, .unset, .unset, .unset, .unset, .unset] rfl  (pc' := 688) rfl ?_
    refine w_aload X254 hx (Jvm.hb hby at_688) rfl rfl (pc' := 690) rfl ?_
    refine w_callV X254 hx hZ hown (hw _ (List.mem_of_getElem? (i := 64) rfl)) (hw _ (List.mem_of_getElem? (i := 65) rfl)) (notFace_of_selects (args := #[]) (mvT hZ (hw _ (List.mem_of_getElem? (i := 67) rfl)))) (hw _ (List.mem_of_getElem? (i := 67) rfl)) (hw _ (List.mem_of_getElem? (i := 66) rfl)) (hw _ (List.mem_of_getElem? (i := 24) rfl)) (hw _ (List.mem_of_getElem? (i := 68) rfl)) (by decide) (W := 0) (rmN_stop0 l Z aw hw [] a247 sd spx spy scx scy pv clx rwy tcx tcy T252.heap n0 GA O252 hp0) e254 (by decide) (by decide) (by decide) (by decide) (O252.2.2.2.2.2.2.2.2.2.2.2) (Jvm.hb hby at_690) (by rw [hml]; rfl) (argsL := []) (rest := []) pd_7 rfl rfl rfl (Nat.le_of_eq rfl) (pc' := 693) rfl ?_
    rintro _ T255 L255 X255 ⟨rfl, N255, K255, O255⟩
    show Ow p e below s _ _ _ (T255.setTop (mkF m 693 #[.val (.long q0), .second, .val (.long q1), .second, .val (.int p2), .val (.int p3), .val (.long q4), .second, .val (.long q5), .second, .val (.long vm), .second, .val (.long kx), .second, .val (.long vk), .second, .val (.long sd), .second, .val (.long vq), .second, .val (.long lo), .second, .val (.long hi), .second, .val (.long cn), .second, .val (.long cx), .second, .val (.long cy), .second, .val (.int d1), .val (.int d2), .val (.long ax), .second, .val (.long ay), .second, .val (.long gx), .second, .val (.long gy), .second, .val (.long vs), .second, .val (.long vt), .second, .val (.long xa), .second, .val (.long ya), .second, .val (.long xb), .second, .val (.long yb), .second, .val (.long dx), .second, .val (.long dy), .second, .val (.long wc), .second, .val (.long wr), .second, .val (.int pv), .val (.int bx), .val (.int bY), .val (.int (0 : Int32)), .val (.long (0 : Int64)), .second, .val (.long (0 : Int64)), .second, .val (.long (0 : Int64)), .second, .val (.long (0 : Int64)), .second, .val (.ref a247), .val (.int pv), .val (.long (clx.toInt64)), .second, .val (.long (rwy.toInt64)), .second, .val (.int (0 : Int32)), .val (.long (clx.toInt64)), .second, .val (.long (rwy.toInt64)), .second, .unset, .unset, .unset, .unset, .unset, .unset, .unset] [(.int (0 : Int32))]))
    have M255 := Fr.app M254 N255
    refine w_istore X255 hx (Jvm.hb hby at_693) #[.val (.long q0), .second, .val (.long q1), .second, .val (.int p2), .val (.int p3), .val (.long q4), .second, .val (.long q5), .second, .val (.long vm), .second, .val (.long kx), .second, .val (.long vk), .second, .val (.long sd), .second, .val (.long vq), .second, .val (.long lo), .second, .val (.long hi), .second, .val (.long cn), .second, .val (.long cx), .second, .val (.long cy), .second, .val (.int d1), .val (.int d2), .val (.long ax), .second, .val (.long ay), .second, .val (.long gx), .second, .val (.long gy), .second, .val (.long vs), .second, .val (.long vt), .second, .val (.long xa), .second, .val (.long ya), .second, .val (.long xb), .second, .val (.long yb), .second, .val (.long dx), .second, .val (.long dy), .second, .val (.long wc), .second, .val (.long wr), .second, .val (.int pv), .val (.int bx), .val (.int bY), .val (.int (0 : Int32)), .val (.long (0 : Int64)), .second, .val (.long (0 : Int64)), .second, .val (.long (0 : Int64)), .second, .val (.long (0 : Int64)), .second, .val (.ref a247), .val (.int pv), .val (.long (clx.toInt64)), .second, .val (.long (rwy.toInt64)), .second, .val (.int (0 : Int32)), .val (.long (clx.toInt64)), .second, .val (.long (rwy.toInt64)), .second, .val (.int (0 : Int32)), .unset, .unset, .unset, .unset, .unset, .unset] rfl  (pc' := 695) rfl ?_
    refine w_aload X255 hx (Jvm.hb hby at_695) rfl rfl (pc' := 697) rfl ?_
    refine w_callV X255 hx hZ hown (hw _ (List.mem_of_getElem? (i := 71) rfl)) (hw _ (List.mem_of_getElem? (i := 72) rfl)) (notFace_of_selects (args := #[]) (mvT hZ (hw _ (List.mem_of_getElem? (i := 74) rfl)))) (hw _ (List.mem_of_getElem? (i := 74) rfl)) (hw _ (List.mem_of_getElem? (i := 73) rfl)) (hw _ (List.mem_of_getElem? (i := 24) rfl)) (hw _ (List.mem_of_getElem? (i := 75) rfl)) (by decide) (W := 0) (rm11 l Z aw hw [] a247 clx T255.heap (O255.2.2.2.2.2.2.1)) rfl (by decide) (by decide) (by decide) (by decide) (O255.2.2.2.2.2.2.2.2.2.2.2) (Jvm.hb hby at_697) (by rw [hml]; rfl) (argsL := []) (rest := []) pd_8 rfl rfl rfl (Nat.le_of_eq rfl) (pc' := 700) rfl ?_
    rintro _ T256 L256 X256 ⟨rfl, e256, rfl⟩
    show Ow p e below s _ _ _ (T256.setTop (mkF m 700 #[.val (.long q0), .second, .val (.long q1), .second, .val (.int p2), .val (.int p3), .val (.long q4), .second, .val (.long q5), .second, .val (.long vm), .second, .val (.long kx), .second, .val (.long vk), .second, .val (.long sd), .second, .val (.long vq), .second, .val (.long lo), .second, .val (.long hi), .second, .val (.long cn), .second, .val (.long cx), .second, .val (.long cy), .second, .val (.int d1), .val (.int d2), .val (.long ax), .second, .val (.long ay), .second, .val (.long gx), .second, .val (.long gy), .second, .val (.long vs), .second, .val (.long vt), .second, .val (.long xa), .second, .val (.long ya), .second, .val (.long xb), .second, .val (.long yb), .second, .val (.long dx), .second, .val (.long dy), .second, .val (.long wc), .second, .val (.long wr), .second, .val (.int pv), .val (.int bx), .val (.int bY), .val (.int (0 : Int32)), .val (.long (0 : Int64)), .second, .val (.long (0 : Int64)), .second, .val (.long (0 : Int64)), .second, .val (.long (0 : Int64)), .second, .val (.ref a247), .val (.int pv), .val (.long (clx.toInt64)), .second, .val (.long (rwy.toInt64)), .second, .val (.int (0 : Int32)), .val (.long (clx.toInt64)), .second, .val (.long (rwy.toInt64)), .second, .val (.int (0 : Int32)), .unset, .unset, .unset, .unset, .unset, .unset] [(.int clx)]))
    have M256 := Fr.app M255 (Fr.nil n0)
    refine w_i2l X256 hx (Jvm.hb hby at_700) (pc' := 701) rfl ?_
    refine w_lstore X256 hx (Jvm.hb hby at_701) #[.val (.long q0), .second, .val (.long q1), .second, .val (.int p2), .val (.int p3), .val (.long q4), .second, .val (.long q5), .second, .val (.long vm), .second, .val (.long kx), .second, .val (.long vk), .second, .val (.long sd), .second, .val (.long vq), .second, .val (.long lo), .second, .val (.long hi), .second, .val (.long cn), .second, .val (.long cx), .second, .val (.long cy), .second, .val (.int d1), .val (.int d2), .val (.long ax), .second, .val (.long ay), .second, .val (.long gx), .second, .val (.long gy), .second, .val (.long vs), .second, .val (.long vt), .second, .val (.long xa), .second, .val (.long ya), .second, .val (.long xb), .second, .val (.long yb), .second, .val (.long dx), .second, .val (.long dy), .second, .val (.long wc), .second, .val (.long wr), .second, .val (.int pv), .val (.int bx), .val (.int bY), .val (.int (0 : Int32)), .val (.long (0 : Int64)), .second, .val (.long (0 : Int64)), .second, .val (.long (0 : Int64)), .second, .val (.long (0 : Int64)), .second, .val (.ref a247), .val (.int pv), .val (.long (clx.toInt64)), .second, .val (.long (rwy.toInt64)), .second, .val (.int (0 : Int32)), .val (.long (clx.toInt64)), .second, .val (.long (rwy.toInt64)), .second, .val (.int (0 : Int32)), .val (.long (clx.toInt64)), .second, .unset, .unset, .unset, .unset] rfl  (pc' := 703) rfl ?_
    refine w_aload X256 hx (Jvm.hb hby at_703) rfl rfl (pc' := 705) rfl ?_
    refine w_callV X256 hx hZ hown (hw _ (List.mem_of_getElem? (i := 76) rfl)) (hw _ (List.mem_of_getElem? (i := 77) rfl)) (notFace_of_selects (args := #[]) (mvT hZ (hw _ (List.mem_of_getElem? (i := 79) rfl)))) (hw _ (List.mem_of_getElem? (i := 79) rfl)) (hw _ (List.mem_of_getElem? (i := 78) rfl)) (hw _ (List.mem_of_getElem? (i := 24) rfl)) (hw _ (List.mem_of_getElem? (i := 80) rfl)) (by decide) (W := 0) (rm12 l Z aw hw [] a247 rwy T255.heap (O255.2.2.2.2.2.2.2.1)) e256 (by decide) (by decide) (by decide) (by decide) (O255.2.2.2.2.2.2.2.2.2.2.2) (Jvm.hb hby at_705) (by rw [hml]; rfl) (argsL := []) (rest := []) pd_8 rfl rfl rfl (Nat.le_of_eq rfl) (pc' := 708) rfl ?_
    rintro _ T257 L257 X257 ⟨rfl, e257, rfl⟩
    show Ow p e below s _ _ _ (T257.setTop (mkF m 708 #[.val (.long q0), .second, .val (.long q1), .second, .val (.int p2), .val (.int p3), .val (.long q4), .second, .val (.long q5), .second, .val (.long vm), .second, .val (.long kx), .second, .val (.long vk), .second, .val (.long sd), .second, .val (.long vq), .second, .val (.long lo), .second, .val (.long hi), .second, .val (.long cn), .second, .val (.long cx), .second, .val (.long cy), .second, .val (.int d1), .val (.int d2), .val (.long ax), .second, .val (.long ay), .second, .val (.long gx), .second, .val (.long gy), .second, .val (.long vs), .second, .val (.long vt), .second, .val (.long xa), .second, .val (.long ya), .second, .val (.long xb), .second, .val (.long yb), .second, .val (.long dx), .second, .val (.long dy), .second, .val (.long wc), .second, .val (.long wr), .second, .val (.int pv), .val (.int bx), .val (.int bY), .val (.int (0 : Int32)), .val (.long (0 : Int64)), .second, .val (.long (0 : Int64)), .second, .val (.long (0 : Int64)), .second, .val (.long (0 : Int64)), .second, .val (.ref a247), .val (.int pv), .val (.long (clx.toInt64)), .second, .val (.long (rwy.toInt64)), .second, .val (.int (0 : Int32)), .val (.long (clx.toInt64)), .second, .val (.long (rwy.toInt64)), .second, .val (.int (0 : Int32)), .val (.long (clx.toInt64)), .second, .unset, .unset, .unset, .unset] [(.int rwy)]))
    have M257 := Fr.app M256 (Fr.nil n0)
    refine w_i2l X257 hx (Jvm.hb hby at_708) (pc' := 709) rfl ?_
    refine w_lstore X257 hx (Jvm.hb hby at_709) #[.val (.long q0), .second, .val (.long q1), .second, .val (.int p2), .val (.int p3), .val (.long q4), .second, .val (.long q5), .second, .val (.long vm), .second, .val (.long kx), .second, .val (.long vk), .second, .val (.long sd), .second, .val (.long vq), .second, .val (.long lo), .second, .val (.long hi), .second, .val (.long cn), .second, .val (.long cx), .second, .val (.long cy), .second, .val (.int d1), .val (.int d2), .val (.long ax), .second, .val (.long ay), .second, .val (.long gx), .second, .val (.long gy), .second, .val (.long vs), .second, .val (.long vt), .second, .val (.long xa), .second, .val (.long ya), .second, .val (.long xb), .second, .val (.long yb), .second, .val (.long dx), .second, .val (.long dy), .second, .val (.long wc), .second, .val (.long wr), .second, .val (.int pv), .val (.int bx), .val (.int bY), .val (.int (0 : Int32)), .val (.long (0 : Int64)), .second, .val (.long (0 : Int64)), .second, .val (.long (0 : Int64)), .second, .val (.long (0 : Int64)), .second, .val (.ref a247), .val (.int pv), .val (.long (clx.toInt64)), .second, .val (.long (rwy.toInt64)), .second, .val (.int (0 : Int32)), .val (.long (clx.toInt64)), .second, .val (.long (rwy.toInt64)), .second, .val (.int (0 : Int32)), .val (.long (clx.toInt64)), .second, .val (.long (rwy.toInt64)), .second, .unset, .unset] rfl  (pc' := 711) rfl ?_
    refine w_aload X257 hx (Jvm.hb hby at_711) rfl rfl (pc' := 713) rfl ?_
    refine w_callV X257 hx hZ hown (hw _ (List.mem_of_getElem? (i := 64) rfl)) (hw _ (List.mem_of_getElem? (i := 65) rfl)) (notFace_of_selects (args := #[]) (mvT hZ (hw _ (List.mem_of_getElem? (i := 67) rfl)))) (hw _ (List.mem_of_getElem? (i := 67) rfl)) (hw _ (List.mem_of_getElem? (i := 66) rfl)) (hw _ (List.mem_of_getElem? (i := 24) rfl)) (hw _ (List.mem_of_getElem? (i := 68) rfl)) (by decide) (W := 0) (rmN_stop0 l Z aw hw [] a247 sd spx spy scx scy pv clx rwy tcx tcy T255.heap n0 GA O255 hp0) e257 (by decide) (by decide) (by decide) (by decide) (O255.2.2.2.2.2.2.2.2.2.2.2) (Jvm.hb hby at_713) (by rw [hml]; rfl) (argsL := []) (rest := []) pd_7 rfl rfl rfl (Nat.le_of_eq rfl) (pc' := 716) rfl ?_
    rintro _ T258 L258 X258 ⟨rfl, N258, K258, O258⟩
    show Ow p e below s _ _ _ (T258.setTop (mkF m 716 #[.val (.long q0), .second, .val (.long q1), .second, .val (.int p2), .val (.int p3), .val (.long q4), .second, .val (.long q5), .second, .val (.long vm), .second, .val (.long kx), .second, .val (.long vk), .second, .val (.long sd), .second, .val (.long vq), .second, .val (.long lo), .second, .val (.long hi), .second, .val (.long cn), .second, .val (.long cx), .second, .val (.long cy), .second, .val (.int d1), .val (.int d2), .val (.long ax), .second, .val (.long ay), .second, .val (.long gx), .second, .val (.long gy), .second, .val (.long vs), .second, .val (.long vt), .second, .val (.long xa), .second, .val (.long ya), .second, .val (.long xb), .second, .val (.long yb), .second, .val (.long dx), .second, .val (.long dy), .second, .val (.long wc), .second, .val (.long wr), .second, .val (.int pv), .val (.int bx), .val (.int bY), .val (.int (0 : Int32)), .val (.long (0 : Int64)), .second, .val (.long (0 : Int64)), .second, .val (.long (0 : Int64)), .second, .val (.long (0 : Int64)), .second, .val (.ref a247), .val (.int pv), .val (.long (clx.toInt64)), .second, .val (.long (rwy.toInt64)), .second, .val (.int (0 : Int32)), .val (.long (clx.toInt64)), .second, .val (.long (rwy.toInt64)), .second, .val (.int (0 : Int32)), .val (.long (clx.toInt64)), .second, .val (.long (rwy.toInt64)), .second, .unset, .unset] [(.int (0 : Int32))]))
    have M258 := Fr.app M257 N258
    refine w_istore X258 hx (Jvm.hb hby at_716) #[.val (.long q0), .second, .val (.long q1), .second, .val (.int p2), .val (.int p3), .val (.long q4), .second, .val (.long q5), .second, .val (.long vm), .second, .val (.long kx), .second, .val (.long vk), .second, .val (.long sd), .second, .val (.long vq), .second, .val (.long lo), .second, .val (.long hi), .second, .val (.long cn), .second, .val (.long cx), .second, .val (.long cy), .second, .val (.int d1), .val (.int d2), .val (.long ax), .second, .val (.long ay), .second, .val (.long gx), .second, .val (.long gy), .second, .val (.long vs), .second, .val (.long vt), .second, .val (.long xa), .second, .val (.long ya), .second, .val (.long xb), .second, .val (.long yb), .second, .val (.long dx), .second, .val (.long dy), .second, .val (.long wc), .second, .val (.long wr), .second, .val (.int pv), .val (.int bx), .val (.int bY), .val (.int (0 : Int32)), .val (.long (0 : Int64)), .second, .val (.long (0 : Int64)), .second, .val (.long (0 : Int64)), .second, .val (.long (0 : Int64)), .second, .val (.ref a247), .val (.int pv), .val (.long (clx.toInt64)), .second, .val (.long (rwy.toInt64)), .second, .val (.int (0 : Int32)), .val (.long (clx.toInt64)), .second, .val (.long (rwy.toInt64)), .second, .val (.int (0 : Int32)), .val (.long (clx.toInt64)), .second, .val (.long (rwy.toInt64)), .second, .val (.int (0 : Int32)), .unset] rfl  (pc' := 718) rfl ?_
    refine w_iload X258 hx (Jvm.hb hby at_718) rfl (pc' := 720) rfl ?_
    refine w_iload X258 hx (Jvm.hb hby at_720) rfl (pc' := 722) rfl ?_
    refine w_iconst X258 hx (1 : Int32) (Jvm.hb hby at_722) (by decide) (pc' := 723) rfl ?_
    refine w_icmp_lt X258 hx (Jvm.hb hby at_723) (by decide) (pcT := 730) (by decide) (pcF := 726) rfl (fun _ => ?_) (fun q => absurd (show (0 : Int32) < (1 : Int32) from by decide) q)
    refine w_iconst X258 hx (0 : Int32) (Jvm.hb hby at_730) (by decide) (pc' := 731) rfl ?_
    refine w_icmp_ne X258 hx (Jvm.hb hby at_731) (by decide) (pcT := 775) (by decide) (pcF := 734) rfl (fun q => absurd hp0 q) (fun _ => ?_)
    refine w_iload X258 hx (Jvm.hb hby at_734) rfl (pc' := 736) rfl ?_
    refine w_iload X258 hx (Jvm.hb hby at_736) rfl (pc' := 738) rfl ?_
    refine w_iconst X258 hx (2 : Int32) (Jvm.hb hby at_738) (by decide) (pc' := 739) rfl ?_
    refine w_icmp_lt X258 hx (Jvm.hb hby at_739) (by decide) (pcT := 746) (by decide) (pcF := 742) rfl (fun _ => ?_) (fun q => absurd (show (0 : Int32) < (2 : Int32) from by decide) q)
    refine w_iconst X258 hx (0 : Int32) (Jvm.hb hby at_746) (by decide) (pc' := 747) rfl ?_
    refine w_icmp_ne X258 hx (Jvm.hb hby at_747) (by decide) (pcT := 775) (by decide) (pcF := 750) rfl (fun q => absurd (show (0 : Int32) = (0 : Int32) from by decide) q) (fun _ => ?_)
    refine w_iload X258 hx (Jvm.hb hby at_750) rfl (pc' := 752) rfl ?_
    refine w_iload X258 hx (Jvm.hb hby at_752) rfl (pc' := 754) rfl ?_
    refine w_iconst X258 hx (3 : Int32) (Jvm.hb hby at_754) (by decide) (pc' := 755) rfl ?_
    refine w_icmp_lt X258 hx (Jvm.hb hby at_755) (by decide) (pcT := 762) (by decide) (pcF := 758) rfl (fun _ => ?_) (fun q => absurd (show (0 : Int32) < (3 : Int32) from by decide) q)
    refine w_iconst X258 hx (0 : Int32) (Jvm.hb hby at_762) (by decide) (pc' := 763) rfl ?_
    refine w_icmp_ne X258 hx (Jvm.hb hby at_763) (by decide) (pcT := 775) (by decide) (pcF := 766) rfl (fun q => absurd (show (0 : Int32) = (0 : Int32) from by decide) q) (fun _ => ?_)
    refine w_iload X258 hx (Jvm.hb hby at_766) rfl (pc' := 768) rfl ?_
    refine w_if_ne X258 hx (Jvm.hb hby at_768) (by decide) (pcT := 775) (by decide) (pcF := 771) rfl (fun q => absurd (show (0 : Int32) = 0 from by decide) q) (fun _ => ?_)
    refine w_iconst X258 hx (1 : Int32) (Jvm.hb hby at_771) (by decide) (pc' := 772) rfl ?_
    refine w_goto X258 hx (Jvm.hb hby at_772) (by decide) (pc' := 776) (by decide) ?_
    refine w_istore X258 hx (Jvm.hb hby at_776) #[.val (.long q0), .second, .val (.long q1), .second, .val (.int p2), .val (.int p3), .val (.long q4), .second, .val (.long q5), .second, .val (.long vm), .second, .val (.long kx), .second, .val (.long vk), .second, .val (.long sd), .second, .val (.long vq), .second, .val (.long lo), .second, .val (.long hi), .second, .val (.long cn), .second, .val (.long cx), .second, .val (.long cy), .second, .val (.int d1), .val (.int d2), .val (.long ax), .second, .val (.long ay), .second, .val (.long gx), .second, .val (.long gy), .second, .val (.long vs), .second, .val (.long vt), .second, .val (.long xa), .second, .val (.long ya), .second, .val (.long xb), .second, .val (.long yb), .second, .val (.long dx), .second, .val (.long dy), .second, .val (.long wc), .second, .val (.long wr), .second, .val (.int pv), .val (.int bx), .val (.int bY), .val (.int (0 : Int32)), .val (.long (0 : Int64)), .second, .val (.long (0 : Int64)), .second, .val (.long (0 : Int64)), .second, .val (.long (0 : Int64)), .second, .val (.ref a247), .val (.int pv), .val (.long (clx.toInt64)), .second, .val (.long (rwy.toInt64)), .second, .val (.int (0 : Int32)), .val (.long (clx.toInt64)), .second, .val (.long (rwy.toInt64)), .second, .val (.int (0 : Int32)), .val (.long (clx.toInt64)), .second, .val (.long (rwy.toInt64)), .second, .val (.int (0 : Int32)), .val (.int (1 : Int32))] rfl  (pc' := 778) rfl ?_
    refine w_iload X258 hx (Jvm.hb hby at_778) rfl (pc' := 780) rfl ?_
    refine w_iconst X258 hx (1 : Int32) (Jvm.hb hby at_780) (by decide) (pc' := 781) rfl ?_
    refine w_icmp_lt X258 hx (Jvm.hb hby at_781) (by decide) (pcT := 812) (by decide) (pcF := 784) rfl (fun _ => ?_) (fun q => absurd (show (0 : Int32) < (1 : Int32) from by decide) q)
    refine w_iload X258 hx (Jvm.hb hby at_812) rfl (pc' := 814) rfl ?_
    refine w_iconst X258 hx (2 : Int32) (Jvm.hb hby at_814) (by decide) (pc' := 815) rfl ?_
    refine w_icmp_lt X258 hx (Jvm.hb hby at_815) (by decide) (pcT := 846) (by decide) (pcF := 818) rfl (fun _ => ?_) (fun q => absurd (show (0 : Int32) < (2 : Int32) from by decide) q)
    refine w_iload X258 hx (Jvm.hb hby at_846) rfl (pc' := 848) rfl ?_
    refine w_iconst X258 hx (3 : Int32) (Jvm.hb hby at_848) (by decide) (pc' := 849) rfl ?_
    refine w_icmp_lt X258 hx (Jvm.hb hby at_849) (by decide) (pcT := 880) (by decide) (pcF := 852) rfl (fun _ => ?_) (fun q => absurd (show (0 : Int32) < (3 : Int32) from by decide) q)
    refine w_iload X258 hx (Jvm.hb hby at_880) rfl (pc' := 882) rfl ?_
    exact w_zreturn X258 hx Bd.returns (Or.inr rfl) (BodyLoose.notSynchronized Bd) (Nat.le_of_ble_eq_true rfl) (Nat.le_of_ble_eq_true rfl) (Jvm.hb hby at_882) ⟨rfl, by simpa using M258⟩
set_option maxRecDepth 65536 in
set_option maxHeartbeats 40000000 in
theorem comes_1 {Post : Tables → Env → Array Value → State → Outcome → State → Prop} (hpost : ∀ tb e args s v u, (limb_1_1.after args s (.returned v) u = true ∧ limb_1_2.after args s (.returned v) u = true ∧ True) → FrameEnd s (.returned v) u (Jvm.fieldLocs frame_1_writes args s ++ Jvm.arrayLocs frame_1_arrays args s ++ Jvm.staticLocs frame_1_statics s) 16 128 → Post tb e args s (.returned v) u) :
    ArmFor flags0 classFile x code maxLocals ret World_1 tables_1 room_1 Calls_1 rest_1 Pre_1 Post := by
  intro l hfl _ _ p e ha hc hk s m args below hf hA hF happ hP
  obtain ⟨hcalls, hrest, hpre⟩ := hP
  obtain ⟨-, -, -, hnamed, -, -, -, hat⟩ := (Spec.applies_iff hf).mp happ
  obtain ⟨hg, hn⟩ := and_e (Cond.before_iff.mp (show (Jvm.Cond.and given_1 narrow_1).before args s = true from hpre))
  obtain ⟨g1, g2⟩ := and_e hg
  obtain ⟨g3, g4⟩ := and_e g2
  obtain ⟨g5, g6⟩ := and_e g4
  obtain ⟨g7, g8⟩ := and_e g6
  obtain ⟨g9, g10⟩ := and_e g8
  obtain ⟨g11, g12⟩ := and_e g10
  obtain ⟨w0, w1, w2, w3, w4, w5, rfl⟩ : ∃ w0 w1 w2 w3 w4 w5 : Value, args = #[w0, w1, w2, w3, w4, w5] := by
    have hs : args.size = 6 := by simpa [Cond.value, given_1] using g1
    obtain ⟨L⟩ := args
    match L, hs with
    | [w0, w1, w2, w3, w4, w5], _ => exact ⟨w0, w1, w2, w3, w4, w5, rfl⟩
  have hw := fun d (hd : d ∈ tables_1) => atoms_spec (ws := Jvm.Cond.code x code maxLocals ret :: tables_1) hat d (List.mem_cons_of_mem _ hd)
  obtain ⟨i0, ei0⟩ := isL_v g3
  obtain rfl : w0 = (.long i0) := Option.some.inj ei0
  obtain ⟨i1, ei1⟩ := isL_v g5
  obtain rfl : w1 = (.long i1) := Option.some.inj ei1
  obtain ⟨i2, ei2⟩ := is_v g7
  obtain rfl : w2 = (.int i2) := Option.some.inj ei2
  obtain ⟨i3, ei3⟩ := is_v g9
  obtain rfl : w3 = (.int i3) := Option.some.inj ei3
  obtain ⟨i4, ei4⟩ := isL_v g11
  obtain rfl : w4 = (.long i4) := Option.some.inj ei4
  obtain ⟨i5, ei5⟩ := isL_v g12
  obtain rfl : w5 = (.long i5) := Option.some.inj ei5
  obtain ⟨n, o, h1, h2, h3, _, L, rfl, ⟨rfl, N⟩, hq⟩ := rm0 l s _ hw tables_1 i0 i1 i2 i3 i4 i5 s.heap s.heap.size (Nat.le_refl _) p e ha hc hk s m _ below hf ((Spec.applies_iff_loose hf).mp happ).1 ⟨rfl, State.Warmed39.refl s, rfl⟩ trivial
  refine ⟨n, _, h1, h2, h3, hpost _ _ _ _ _ _ ⟨Cond.after_iff.mpr rfl, Cond.after_iff.mpr (eq_i res_at (Term.int_eval (1)) rfl), trivial⟩ ⟨hq.1, hq.2.1, (hq.2.2.sift fun y hy => Or.inr (N y hy)).mono (by decide) (by decide)⟩⟩
theorem main_1_1 : Claimed_1_1 := comes_1 fun _ _ _ _ _ _ h hF => ⟨h.1, hF⟩
theorem main_1_2 : Claimed_1_2 := comes_1 fun _ _ _ _ _ _ h hF => ⟨h.2.1, hF⟩
end Jvm.Pilot.@@N@@
namespace Jvm.Pilot.@@N@@
open Jvm Jvm.ClassFile Sem Op Lib Jvm.Free Jvm.Stand Jvm.Pilot.@@N@@.Jvm.D
/-! MADE BY PROGRAM (witnessworld.py) out of the Statement's table words and the real class files: 15 classes; the members and pool entries that the words name. The judged class is class 1, her method 3. -/
namespace start1
open Jvm.ClassFile
def u (s : String) : CpInfo := .utf8 (stringToUtf16 s)
/-- a pool by its gaps: so many unusable entries, then the entry; so many at the end -/
def gap : Nat → List CpInfo → List CpInfo
  | 0, r => r
  | n + 1, r => .unusable :: gap n r
def poolList (es : List (Nat × CpInfo)) (last : Nat) : List CpInfo := es.foldr (fun e r => gap e.1 (e.2 :: r)) (gap last [])
def pool (es : List (Nat × CpInfo)) (last : Nat) : Array CpInfo := ⟨poolList es last⟩
def fileOf (pool : Array CpInfo) (this : Nat) (attrs : Array Attribute := #[]) (ms : Array MethodInfo := #[]) (fl : Nat := 33) (sup : Nat := 0) (ifs : Array Nat := #[]) (fds : Array FieldInfo := #[]) : ClassFile where
  minorVersion := 0
  majorVersion := 65
  constantPool := pool
  accessFlags := fl
  thisClass := this
  superClass := sup
  interfaces := ifs
  fields := fds
  methods := ms
  attributes := attrs
def plain (name : String) (sup : Option ClassId) : Class where
  name := name
  kind := .ordinary
  loader := none
  accessFlags := 33
  super := sup
  interfaces := #[]
  cf := none
  fields := #[]
  methods := #[]
  instanceTypes := #[]
  staticTypes := #[]
  resolved := #[]
  callSites := []
  init := .initialized
  statics := none
  mirror := none

def pool0 : Array CpInfo := pool [(5, u "<init>"), (0, u "()V"), (1, .class_ 10), (1, u "java/lang/Object")] 113

def k0c0 : Code := { maxStack := 0, maxLocals := 1, code := object_method_1_code, exceptionTable := #[], attributes := #[] }
def k0m0 : Method := { name := "<init>", desc := "()V", sig := { parameters := [], returnType := none }, accessFlags := 1, code := some k0c0 }
/-- java/lang/Object -/
def k0 : Class := { plain "java/lang/Object" none with
  accessFlags := 33
  interfaces := #[]
  cf := some (fileOf pool0 8 #[] #[{ accessFlags := 1, nameIndex := 5, descriptorIndex := 6, attributes := #[] }] 33 0 #[] #[])
  fields := #[]
  methods := #[k0m0]
  instanceTypes := #[]
  staticTypes := #[]
  resolved := Array.replicate 124 none
  statics := none }

def pool1 : Array CpInfo := pool [(2, .class_ 4), (1, u "java/lang/Object"), (0, u "<init>"), (0, u "()V"), (0, .long 1048575), (1, .class_ 10), (0, u "com/example/sarutahiko/sarutahiko/lattice/SegmentWalk"), (0, .long 576460752303423488), (1, .methodref 14 15), (0, .class_ 16), (0, .nameAndType 17 18), (0, u "com/example/sarutahiko/sarutahiko/lattice/SegmentWalkNextPinLaw"), (0, u "mod"), (0, u "(JJ)J"), (0, .long 2305843009213693952), (1, .long 2), (3, .long 18446744071562067970), (1, .methodref 28 29), (0, .class_ 30), (0, .nameAndType 31 18), (0, u "java/lang/Math"), (0, u "max"), (0, .long 3), (1, .long 2147483645), (1, .methodref 28 37), (0, .nameAndType 38 18), (0, u "min"), (0, .long 16777215), (1, .methodref 14 42), (0, .nameAndType 43 44), (0, u "gap"), (0, u "(ZJJ)J"), (0, .long 18446744073709551615), (1, .methodref 9 48), (0, .nameAndType 5 49), (0, u "(JJJJJ)V"), (0, .methodref 9 51), (0, .nameAndType 52 53), (0, u "next"), (0, u "()Z"), (0, .methodref 9 55), (0, .nameAndType 56 57), (0, u "getColumn"), (0, u "()I"), (0, .methodref 9 59), (0, .nameAndType 60 57), (0, u "getRow"), (3, u "law"), (0, u "(JJIIJJ)Z")] 2

def k1m0 : Method := { name := "<init>", desc := "()V", sig := { parameters := [], returnType := none }, accessFlags := 2, code := none }
def k1c1 : Code := { maxStack := 4, maxLocals := 6, code := method_2_code, exceptionTable := #[], attributes := #[] }
def k1m1 : Method := { name := "mod", desc := "(JJ)J", sig := { parameters := [.long, .long], returnType := some .long }, accessFlags := 10, code := some k1c1 }
def k1c2 : Code := { maxStack := 4, maxLocals := 5, code := method_3_code, exceptionTable := #[], attributes := #[] }
def k1m2 : Method := { name := "gap", desc := "(ZJJ)J", sig := { parameters := [.boolean, .long, .long], returnType := some .long }, accessFlags := 10, code := some k1c2 }
def k1c3 : Code := { maxStack := 12, maxLocals := 90, code := code, exceptionTable := #[], attributes := #[] }
def k1m3 : Method := { name := "law", desc := "(JJIIJJ)Z", sig := { parameters := [.long, .long, .int, .int, .long, .long], returnType := some .boolean }, accessFlags := 9, code := some k1c3 }
/-- com/example/sarutahiko/sarutahiko/lattice/SegmentWalkNextPinLaw -/
def k1 : Class := { plain "com/example/sarutahiko/sarutahiko/lattice/SegmentWalkNextPinLaw" (some 0) with
  accessFlags := 49
  interfaces := #[]
  cf := some (fileOf pool1 14 #[] #[{ accessFlags := 2, nameIndex := 5, descriptorIndex := 6, attributes := #[] }, { accessFlags := 10, nameIndex := 17, descriptorIndex := 18, attributes := #[] }, { accessFlags := 10, nameIndex := 43, descriptorIndex := 44, attributes := #[] }, { accessFlags := 9, nameIndex := 64, descriptorIndex := 65, attributes := #[] }] 49 2 #[] #[])
  fields := #[]
  methods := #[k1m0, k1m1, k1m2, k1m3]
  instanceTypes := #[]
  staticTypes := #[]
  resolved := Array.replicate 68 none
  statics := none }

def pool2 : Array CpInfo := pool [(1, .class_ 2), (0, u "java/lang/Math"), (1, .class_ 6), (1, u "java/lang/Object"), (0, u "<init>"), (0, u "()V"), (89, .class_ 100), (1, u "java/lang/Math$RandomNumberGeneratorHolder"), (20, u "(JJ)J"), (2, u "abs"), (0, u "(J)J"), (12, .long 4294967295), (3, u "multiplyHigh"), (2, u "floorDiv"), (26, u "negativeZeroFloatBits"), (0, u "J"), (2, u "negativeZeroDoubleBits"), (21, u "max"), (2, u "min"), (43, u "$assertionsDisabled"), (0, u "Z"), (91, u "twoToTheDoubleScaleDown"), (0, u "D"), (4, u "twoToTheDoubleScaleUp"), (9, u "E"), (3, u "PI"), (2, u "TAU"), (2, u "DEGREES_TO_RADIANS"), (0, u "RADIANS_TO_DEGREES")] 94

def k2m0 : Method := { name := "<init>", desc := "()V", sig := { parameters := [], returnType := none }, accessFlags := 2, code := none }
def k2c1 : Code := { maxStack := 6, maxLocals := 20, code := jdk_29_method_45_code, exceptionTable := #[], attributes := #[] }
def k2m1 : Method := { name := "multiplyHigh", desc := "(JJ)J", sig := { parameters := [.long, .long], returnType := some .long }, accessFlags := 9, code := some k2c1 }
def k2c2 : Code := { maxStack := 4, maxLocals := 6, code := jdk_29_method_49_code, exceptionTable := #[], attributes := #[] }
def k2m2 : Method := { name := "floorDiv", desc := "(JJ)J", sig := { parameters := [.long, .long], returnType := some .long }, accessFlags := 9, code := some k2c2 }
def k2c3 : Code := { maxStack := 4, maxLocals := 2, code := jdk_29_method_61_code, exceptionTable := #[], attributes := #[] }
def k2m3 : Method := { name := "abs", desc := "(J)J", sig := { parameters := [.long], returnType := some .long }, accessFlags := 9, code := some k2c3 }
def k2c4 : Code := { maxStack := 4, maxLocals := 4, code := jdk_29_method_66_code, exceptionTable := #[], attributes := #[] }
def k2m4 : Method := { name := "max", desc := "(JJ)J", sig := { parameters := [.long, .long], returnType := some .long }, accessFlags := 9, code := some k2c4 }
def k2c5 : Code := { maxStack := 4, maxLocals := 4, code := jdk_29_method_70_code, exceptionTable := #[], attributes := #[] }
def k2m5 : Method := { name := "min", desc := "(JJ)J", sig := { parameters := [.long, .long], returnType := some .long }, accessFlags := 9, code := some k2c5 }
/-- java/lang/Math -/
def k2 : Class := { plain "java/lang/Math" (some 0) with
  accessFlags := 49
  interfaces := #[]
  cf := some (fileOf pool2 1 #[.nestMembers #[98]] #[{ accessFlags := 2, nameIndex := 7, descriptorIndex := 8, attributes := #[] }, { accessFlags := 9, nameIndex := 142, descriptorIndex := 121, attributes := #[] }, { accessFlags := 9, nameIndex := 145, descriptorIndex := 121, attributes := #[] }, { accessFlags := 9, nameIndex := 124, descriptorIndex := 125, attributes := #[] }, { accessFlags := 9, nameIndex := 198, descriptorIndex := 121, attributes := #[] }, { accessFlags := 9, nameIndex := 201, descriptorIndex := 121, attributes := #[] }] 49 4 #[] #[{ accessFlags := 25, nameIndex := 354, descriptorIndex := 339, attributes := #[] }, { accessFlags := 25, nameIndex := 358, descriptorIndex := 339, attributes := #[] }, { accessFlags := 25, nameIndex := 361, descriptorIndex := 339, attributes := #[] }, { accessFlags := 26, nameIndex := 364, descriptorIndex := 339, attributes := #[] }, { accessFlags := 26, nameIndex := 365, descriptorIndex := 339, attributes := #[] }, { accessFlags := 26, nameIndex := 172, descriptorIndex := 173, attributes := #[] }, { accessFlags := 26, nameIndex := 176, descriptorIndex := 173, attributes := #[] }, { accessFlags := 8, nameIndex := 344, descriptorIndex := 339, attributes := #[] }, { accessFlags := 8, nameIndex := 338, descriptorIndex := 339, attributes := #[] }, { accessFlags := 4120, nameIndex := 245, descriptorIndex := 246, attributes := #[] }])
  fields := #[{ name := "E", type := .double, accessFlags := 25, slot := 0, constantValue := 0 }, { name := "PI", type := .double, accessFlags := 25, slot := 1, constantValue := 0 }, { name := "TAU", type := .double, accessFlags := 25, slot := 2, constantValue := 0 }, { name := "DEGREES_TO_RADIANS", type := .double, accessFlags := 26, slot := 3, constantValue := 0 }, { name := "RADIANS_TO_DEGREES", type := .double, accessFlags := 26, slot := 4, constantValue := 0 }, { name := "negativeZeroFloatBits", type := .long, accessFlags := 26, slot := 5, constantValue := 0 }, { name := "negativeZeroDoubleBits", type := .long, accessFlags := 26, slot := 6, constantValue := 0 }, { name := "twoToTheDoubleScaleUp", type := .double, accessFlags := 8, slot := 7, constantValue := 0 }, { name := "twoToTheDoubleScaleDown", type := .double, accessFlags := 8, slot := 8, constantValue := 0 }, { name := "$assertionsDisabled", type := .boolean, accessFlags := 4120, slot := 9, constantValue := 0 }]
  methods := #[k2m0, k2m1, k2m2, k2m3, k2m4, k2m5]
  instanceTypes := #[]
  staticTypes := #[.double, .double, .double, .double, .double, .long, .long, .double, .double, .boolean]
  resolved := Array.replicate 460 none
  statics := none }

def pool3 : Array CpInfo := pool [(1, .methodref 2 3), (0, .class_ 4), (0, .nameAndType 5 6), (0, u "java/lang/Object"), (0, u "<init>"), (0, u "()V"), (0, .class_ 8), (0, u "com/example/sarutahiko/sarutahiko/lattice/SegmentWalk"), (0, .long 2305843009213693952), (10, .methodref 7 21), (0, .nameAndType 22 23), (0, u "checkEnd"), (0, u "(JJ)V"), (0, .fieldref 7 25), (0, .nameAndType 26 27), (0, u "side"), (0, u "J"), (0, .methodref 29 30), (0, .class_ 31), (0, .nameAndType 32 33), (0, u "java/lang/Math"), (0, u "abs"), (0, u "(J)J"), (0, .fieldref 7 35), (0, .nameAndType 36 27), (0, u "spanX"), (0, .fieldref 7 38), (0, .nameAndType 39 27), (0, u "spanY"), (0, .fieldref 7 41), (0, .nameAndType 42 43), (0, u "stepColumn"), (0, u "I"), (0, .fieldref 7 45), (0, .nameAndType 46 43), (0, u "stepRow"), (0, .methodref 29 48), (0, .nameAndType 49 50), (0, u "floorDiv"), (0, u "(JJ)J"), (0, .fieldref 7 52), (0, .nameAndType 53 27), (0, u "toColumnLine"), (0, .fieldref 7 55), (0, .nameAndType 56 27), (0, u "toRowLine"), (0, .fieldref 7 58), (0, .nameAndType 59 43), (0, u "column"), (0, .fieldref 7 61), (0, .nameAndType 62 43), (0, u "row"), (0, .fieldref 7 64), (0, .nameAndType 65 66), (0, u "passes"), (0, u "Z"), (0, .long 16140901064495857664), (3, .long 18446744071562067968), (1, .long 2147483647), (4, .fieldref 7 79), (0, .nameAndType 80 66), (0, u "started"), (0, .methodref 7 82), (0, .nameAndType 83 84), (0, u "compareProducts"), (0, u "(JJJJ)I"), (0, .methodref 29 86), (0, .nameAndType 87 50), (0, u "multiplyHigh"), (0, .methodref 89 90), (0, .class_ 91), (0, .nameAndType 92 93), (0, u "java/lang/Long"), (0, u "compare"), (0, u "(JJ)I"), (0, .methodref 89 95), (0, .nameAndType 96 93), (0, u "compareUnsigned"), (0, u "LIMIT"), (1, u "(JJJJJ)V"), (3, u "next"), (0, u "()Z"), (0, u "getColumn"), (0, u "()I"), (0, u "getRow")] 19

def k3c0 : Code := { maxStack := 5, maxLocals := 19, code := prog_23_method_1_code, exceptionTable := #[], attributes := #[] }
def k3m0 : Method := { name := "<init>", desc := "(JJJJJ)V", sig := { parameters := [.long, .long, .long, .long, .long], returnType := none }, accessFlags := 1, code := some k3c0 }
def k3c1 : Code := { maxStack := 6, maxLocals := 6, code := prog_23_method_2_code, exceptionTable := #[], attributes := #[] }
def k3m1 : Method := { name := "checkEnd", desc := "(JJ)V", sig := { parameters := [.long, .long], returnType := none }, accessFlags := 10, code := some k3c1 }
def k3c2 : Code := { maxStack := 8, maxLocals := 5, code := prog_23_method_3_code, exceptionTable := #[], attributes := #[] }
def k3m2 : Method := { name := "next", desc := "()Z", sig := { parameters := [], returnType := some .boolean }, accessFlags := 1, code := some k3c2 }
def k3c3 : Code := { maxStack := 6, maxLocals := 9, code := prog_23_method_4_code, exceptionTable := #[], attributes := #[] }
def k3m3 : Method := { name := "compareProducts", desc := "(JJJJ)I", sig := { parameters := [.long, .long, .long, .long], returnType := some .int }, accessFlags := 10, code := some k3c3 }
def k3c4 : Code := { maxStack := 1, maxLocals := 1, code := prog_23_method_5_code, exceptionTable := #[], attributes := #[] }
def k3m4 : Method := { name := "getColumn", desc := "()I", sig := { parameters := [], returnType := some .int }, accessFlags := 1, code := some k3c4 }
def k3c5 : Code := { maxStack := 1, maxLocals := 1, code := prog_23_method_6_code, exceptionTable := #[], attributes := #[] }
def k3m5 : Method := { name := "getRow", desc := "()I", sig := { parameters := [], returnType := some .int }, accessFlags := 1, code := some k3c5 }
/-- com/example/sarutahiko/sarutahiko/lattice/SegmentWalk -/
def k3 : Class := { plain "com/example/sarutahiko/sarutahiko/lattice/SegmentWalk" (some 0) with
  accessFlags := 49
  interfaces := #[]
  cf := some (fileOf pool3 7 #[] #[{ accessFlags := 1, nameIndex := 5, descriptorIndex := 99, attributes := #[] }, { accessFlags := 10, nameIndex := 22, descriptorIndex := 23, attributes := #[] }, { accessFlags := 1, nameIndex := 103, descriptorIndex := 104, attributes := #[] }, { accessFlags := 10, nameIndex := 83, descriptorIndex := 84, attributes := #[] }, { accessFlags := 1, nameIndex := 105, descriptorIndex := 106, attributes := #[] }, { accessFlags := 1, nameIndex := 107, descriptorIndex := 106, attributes := #[] }] 49 2 #[] #[{ accessFlags := 25, nameIndex := 97, descriptorIndex := 27, attributes := #[] }, { accessFlags := 18, nameIndex := 26, descriptorIndex := 27, attributes := #[] }, { accessFlags := 18, nameIndex := 36, descriptorIndex := 27, attributes := #[] }, { accessFlags := 18, nameIndex := 39, descriptorIndex := 27, attributes := #[] }, { accessFlags := 18, nameIndex := 42, descriptorIndex := 43, attributes := #[] }, { accessFlags := 18, nameIndex := 46, descriptorIndex := 43, attributes := #[] }, { accessFlags := 18, nameIndex := 65, descriptorIndex := 66, attributes := #[] }, { accessFlags := 2, nameIndex := 59, descriptorIndex := 43, attributes := #[] }, { accessFlags := 2, nameIndex := 62, descriptorIndex := 43, attributes := #[] }, { accessFlags := 2, nameIndex := 53, descriptorIndex := 27, attributes := #[] }, { accessFlags := 2, nameIndex := 56, descriptorIndex := 27, attributes := #[] }, { accessFlags := 2, nameIndex := 80, descriptorIndex := 66, attributes := #[] }])
  fields := #[{ name := "LIMIT", type := .long, accessFlags := 25, slot := 0, constantValue := 0 }, { name := "side", type := .long, accessFlags := 18, slot := 0, constantValue := 0 }, { name := "spanX", type := .long, accessFlags := 18, slot := 1, constantValue := 0 }, { name := "spanY", type := .long, accessFlags := 18, slot := 2, constantValue := 0 }, { name := "stepColumn", type := .int, accessFlags := 18, slot := 3, constantValue := 0 }, { name := "stepRow", type := .int, accessFlags := 18, slot := 4, constantValue := 0 }, { name := "passes", type := .boolean, accessFlags := 18, slot := 5, constantValue := 0 }, { name := "column", type := .int, accessFlags := 2, slot := 6, constantValue := 0 }, { name := "row", type := .int, accessFlags := 2, slot := 7, constantValue := 0 }, { name := "toColumnLine", type := .long, accessFlags := 2, slot := 8, constantValue := 0 }, { name := "toRowLine", type := .long, accessFlags := 2, slot := 9, constantValue := 0 }, { name := "started", type := .boolean, accessFlags := 2, slot := 10, constantValue := 0 }]
  methods := #[k3m0, k3m1, k3m2, k3m3, k3m4, k3m5]
  instanceTypes := #[.long, .long, .long, .int, .int, .boolean, .int, .int, .long, .long, .boolean]
  staticTypes := #[.long]
  resolved := Array.replicate 127 none
  statics := none }

def pool4 : Array CpInfo := pool [(1, .class_ 2), (0, u "java/io/Serializable"), (0, .class_ 4), (0, u "java/lang/Object")] 2

/-- java/io/Serializable -/
def k4 : Class := { plain "java/io/Serializable" (some 0) with
  accessFlags := 1537
  interfaces := #[]
  cf := some (fileOf pool4 1 #[] #[] 1537 3 #[] #[])
  fields := #[]
  methods := #[]
  instanceTypes := #[]
  staticTypes := #[]
  resolved := Array.replicate 7 none
  statics := none }

def pool5 : Array CpInfo := pool [(2, .class_ 4), (1, u "java/lang/Object"), (0, u "<init>"), (0, u "()V"), (1, .class_ 10), (1, u "java/lang/Number"), (2, .class_ 14), (0, u "java/io/Serializable"), (0, u "serialVersionUID"), (0, u "J")] 20

def k5m0 : Method := { name := "<init>", desc := "()V", sig := { parameters := [], returnType := none }, accessFlags := 1, code := none }
/-- java/lang/Number -/
def k5 : Class := { plain "java/lang/Number" (some 0) with
  accessFlags := 1057
  interfaces := #[4]
  cf := some (fileOf pool5 8 #[] #[{ accessFlags := 1, nameIndex := 5, descriptorIndex := 6, attributes := #[] }] 1057 2 #[13] #[{ accessFlags := 26, nameIndex := 15, descriptorIndex := 16, attributes := #[] }])
  fields := #[{ name := "serialVersionUID", type := .long, accessFlags := 26, slot := 0, constantValue := 0 }]
  methods := #[k5m0]
  instanceTypes := #[]
  staticTypes := #[.long]
  resolved := Array.replicate 37 none
  statics := none }

def pool6 : Array CpInfo := pool [(1, .class_ 2), (0, u "java/lang/Comparable"), (0, .class_ 4), (0, u "java/lang/Object")] 7

/-- java/lang/Comparable -/
def k6 : Class := { plain "java/lang/Comparable" (some 0) with
  accessFlags := 1537
  interfaces := #[]
  cf := some (fileOf pool6 1 #[] #[] 1537 3 #[] #[])
  fields := #[]
  methods := #[]
  instanceTypes := #[]
  staticTypes := #[]
  resolved := Array.replicate 12 none
  statics := none }

def pool7 : Array CpInfo := pool [(1, .class_ 2), (0, u "java/lang/constant/Constable"), (0, .class_ 4), (0, u "java/lang/Object")] 6

/-- java/lang/constant/Constable -/
def k7 : Class := { plain "java/lang/constant/Constable" (some 0) with
  accessFlags := 1537
  interfaces := #[]
  cf := some (fileOf pool7 1 #[] #[] 1537 3 #[] #[])
  fields := #[]
  methods := #[]
  instanceTypes := #[]
  staticTypes := #[]
  resolved := Array.replicate 11 none
  statics := none }

def pool8 : Array CpInfo := pool [(1, .class_ 2), (0, u "java/lang/constant/ConstantDesc"), (0, .class_ 4), (0, u "java/lang/Object")] 32

/-- java/lang/constant/ConstantDesc -/
def k8 : Class := { plain "java/lang/constant/ConstantDesc" (some 0) with
  accessFlags := 1537
  interfaces := #[]
  cf := some (fileOf pool8 1 #[] #[] 1537 3 #[] #[])
  fields := #[]
  methods := #[]
  instanceTypes := #[]
  staticTypes := #[]
  resolved := Array.replicate 37 none
  statics := none }

def pool9 : Array CpInfo := pool [(1, .class_ 2), (0, u "java/lang/Long"), (165, .long 9223372036854775808), (66, .class_ 237), (1, u "java/lang/Long$LongCache"), (33, .class_ 272), (0, u "java/lang/Number"), (2, u "value"), (0, u "J"), (25, .methodref 1 303), (0, .nameAndType 304 305), (0, u "compare"), (0, u "(JJ)I"), (55, u "TYPE"), (0, u "Ljava/lang/Class;"), (0, .class_ 364), (0, u "java/lang/Comparable"), (0, .class_ 366), (0, u "java/lang/constant/Constable"), (0, .class_ 368), (0, u "java/lang/constant/ConstantDesc"), (0, u "MIN_VALUE"), (1, u "MAX_VALUE"), (4, u "SIZE"), (0, u "I"), (1, u "BYTES"), (1, u "serialVersionUID"), (87, u "compareUnsigned")] 54

def k9c0 : Code := { maxStack := 4, maxLocals := 4, code := jdk_35_method_42_code, exceptionTable := #[], attributes := #[] }
def k9m0 : Method := { name := "compare", desc := "(JJ)I", sig := { parameters := [.long, .long], returnType := some .int }, accessFlags := 9, code := some k9c0 }
def k9c1 : Code := { maxStack := 6, maxLocals := 4, code := jdk_35_method_43_code, exceptionTable := #[], attributes := #[] }
def k9m1 : Method := { name := "compareUnsigned", desc := "(JJ)I", sig := { parameters := [.long, .long], returnType := some .int }, accessFlags := 9, code := some k9c1 }
/-- java/lang/Long -/
def k9 : Class := { plain "java/lang/Long" (some 5) with
  accessFlags := 49
  interfaces := #[6, 7, 8]
  cf := some (fileOf pool9 1 #[.nestMembers #[235]] #[{ accessFlags := 9, nameIndex := 304, descriptorIndex := 305, attributes := #[] }, { accessFlags := 9, nameIndex := 469, descriptorIndex := 305, attributes := #[] }] 49 271 #[363, 365, 367] #[{ accessFlags := 25, nameIndex := 369, descriptorIndex := 276, attributes := #[] }, { accessFlags := 25, nameIndex := 371, descriptorIndex := 276, attributes := #[] }, { accessFlags := 25, nameIndex := 361, descriptorIndex := 362, attributes := #[] }, { accessFlags := 18, nameIndex := 275, descriptorIndex := 276, attributes := #[] }, { accessFlags := 25, nameIndex := 376, descriptorIndex := 377, attributes := #[] }, { accessFlags := 25, nameIndex := 379, descriptorIndex := 377, attributes := #[] }, { accessFlags := 26, nameIndex := 381, descriptorIndex := 276, attributes := #[] }])
  fields := #[{ name := "MIN_VALUE", type := .long, accessFlags := 25, slot := 0, constantValue := 0 }, { name := "MAX_VALUE", type := .long, accessFlags := 25, slot := 1, constantValue := 0 }, { name := "TYPE", type := (.object "java/lang/Class"), accessFlags := 25, slot := 2, constantValue := 0 }, { name := "value", type := .long, accessFlags := 18, slot := 0, constantValue := 0 }, { name := "SIZE", type := .int, accessFlags := 25, slot := 3, constantValue := 0 }, { name := "BYTES", type := .int, accessFlags := 25, slot := 4, constantValue := 0 }, { name := "serialVersionUID", type := .long, accessFlags := 26, slot := 5, constantValue := 0 }]
  methods := #[k9m0, k9m1]
  instanceTypes := #[.long]
  staticTypes := #[.long, .long, (.object "java/lang/Class"), .int, .int, .long]
  resolved := Array.replicate 524 none
  statics := none }

def pool10 : Array CpInfo := pool [(1, u "java/lang/Cloneable"), (0, .class_ 1), (0, u "java/lang/Object"), (0, .class_ 3)] 3

/-- java/lang/Cloneable -/
def k10 : Class := { plain "java/lang/Cloneable" (some 0) with
  accessFlags := 1537
  interfaces := #[]
  cf := some (fileOf pool10 2 #[] #[] 1537 4 #[] #[])
  fields := #[]
  methods := #[]
  instanceTypes := #[]
  staticTypes := #[]
  resolved := Array.replicate 8 none
  statics := none }

/-- the primitive byte -/
def k11 : Class := { plain "byte" none with kind := .primitive 'B', accessFlags := 0x411 }
/-- [B -/
def k12 : Class := { plain "[B" (some 0) with kind := .array 11 .byte, interfaces := #[10, 4], accessFlags := 1041 }

/-- the primitive int -/
def k13 : Class := { plain "int" none with kind := .primitive 'I', accessFlags := 0x411 }
/-- [I -/
def k14 : Class := { plain "[I" (some 0) with kind := .array 13 .int, interfaces := #[10, 4], accessFlags := 1041 }

def heap : Heap := #[]
def classes : Array Class := #[k0, k1, k2, k3, k4, k5, k6, k7, k8, k9, k10, k11, k12, k13, k14]
def interned : List (Array UInt16 × Addr) := []
def slotsUsed : Nat := 0
def theMethod : MethodId := ⟨1, 3⟩
def args0 : Array Value := #[.long 5, .long 6, .int 700, .int 8, .long 900000009, .long 770000777]
def aboutOver (below : List Frame) : State where
  vm := { classes := classes, interned := interned.toArray }
  heap := heap
  slotsUsed := slotsUsed
  threads := #[{ frames := .invoking theMethod args0 :: below }]
def below0 : List Frame := [.native { method := ⟨0, 0⟩, args := #[] }]
def about1 : State := aboutOver below0
def p0 : Program := .bare "" "" ""
def e0 : Env := launch0.env 0 0 0
theorem w_frames : about1.frames = Frame.invoking theMethod args0 :: below0 := rfl
set_option maxRecDepth 65536 in
theorem w_args : argsFit about1.vm theMethod args0 = true := by decide +kernel
set_option maxRecDepth 65536 in
theorem w_heap : heapFits about1 = true := by decide +kernel
set_option maxRecDepth 65536 in
theorem w_runnable : about1.curStatus? = some .runnable := by decide +kernel
set_option maxRecDepth 65536 in
theorem w_alone : about1.alone = true := by decide +kernel
set_option maxRecDepth 65536 in
theorem w_named : about1.methodNamed? x = some theMethod := by decide +kernel
set_option maxRecDepth 65536 in
theorem w_hears : about1.hears theMethod below0 = true := by decide +kernel
set_option maxRecDepth 65536 in
theorem w_ripe : about1.ripe theMethod args0 below0 = true := by decide +kernel
theorem w_running : about1.status = .running := rfl
set_option maxRecDepth 65536 in
theorem w_room : about1.hasRoom e0.platform room_1 = true :=
  launch0.hasRoom_least _ room_1 (by decide +kernel) (by decide +kernel) (by decide +kernel) (by decide +kernel) (by decide +kernel) (by decide +kernel)
theorem allAtoms_all (ts : List Jvm.Cond) (a : Array Jvm.Value) (st : Jvm.State) : (allAtoms ts).before a st = ts.all (fun c => c.before a st) := by
  induction ts with
  | nil => rfl
  | cons c t ih =>
    show (Jvm.Cond.and c (allAtoms t)).before a st = _
    rw [Jvm.Cond.before_and, ih, List.all_cons]
def words1 : List Jvm.Cond := Jvm.Cond.code x code maxLocals ret :: tables_1
/-- a 'code' word, met by the world's own term for the bytes: nothing is compared byte by byte -/
theorem code_word {y : MethodName} {bytes : ByteArray} {mx : Nat} {rt : Option FieldType} {a : Array Value} {s : State} {m : MethodId} {meth : Method} {c : Code} (h1 : s.methodNamed? y = some m) (h2 : s.vm.method? m = some meth) (h3 : meth.code = some c) (h4 : c.code = bytes)
    (h5 : (c.maxLocals == mx && c.exceptionTable.isEmpty && decide (c.maxStack ≤ mostOperands) && decide (meth.sig.returnType = rt) && !meth.locks && decide (parseMethodDescriptor y.desc = some meth.sig)) = true) : (Jvm.Cond.code y bytes mx rt).before a s = true := by
  simp only [Bool.and_eq_true, beq_iff_eq, Bool.not_eq_true', decide_eq_true_eq] at h5
  obtain ⟨⟨⟨⟨⟨g1, g2⟩, g3⟩, g4⟩, g5⟩, g6⟩ := h5
  simp [Cond.before, Cond.holds, Cond.value, h1, h2, h3, h4, g1, g2, g3, g4, g5, g6]
def isCode : Jvm.Cond → Bool
  | .code _ _ _ _ => true
  | _ => false
theorem all_split {L : List Jvm.Cond} {P : Jvm.Cond → Bool} (h1 : L.all (fun c => isCode c || P c) = true) (h2 : ∀ c ∈ L.filter isCode, P c = true) : L.all P = true := by
  refine List.all_eq_true.mpr fun c hc => ?_
  have h := List.all_eq_true.mp h1 c hc
  rcases Bool.eq_false_or_eq_true (isCode c) with hi | hi
  · exact h2 c (List.mem_filter.mpr ⟨hc, hi⟩)
  · simpa [hi] using h
set_option maxRecDepth 65536 in
theorem w_c0 : (Jvm.Cond.code x code maxLocals ret).before args0 about1 = true := code_word (m := ⟨1, 3⟩) (meth := k1m3) (c := k1c3) (by decide +kernel) rfl rfl rfl (by decide +kernel)
set_option maxRecDepth 65536 in
theorem w_c1 : (Jvm.Cond.code ({ cls := "com/example/sarutahiko/sarutahiko/lattice/SegmentWalkNextPinLaw", name := "mod", desc := "(JJ)J" } : Jvm.MethodName) method_2_code (6 : Nat) (Option.some Jvm.ClassFile.FieldType.long)).before args0 about1 = true := code_word (m := ⟨1, 1⟩) (meth := k1m1) (c := k1c1) (by decide +kernel) rfl rfl rfl (by decide +kernel)
set_option maxRecDepth 65536 in
theorem w_c2 : (Jvm.Cond.code ({ cls := "java/lang/Math", name := "max", desc := "(JJ)J" } : Jvm.MethodName) jdk_29_method_66_code (4 : Nat) (Option.some Jvm.ClassFile.FieldType.long)).before args0 about1 = true := code_word (m := ⟨2, 4⟩) (meth := k2m4) (c := k2c4) (by decide +kernel) rfl rfl rfl (by decide +kernel)
set_option maxRecDepth 65536 in
theorem w_c3 : (Jvm.Cond.code ({ cls := "java/lang/Math", name := "min", desc := "(JJ)J" } : Jvm.MethodName) jdk_29_method_70_code (4 : Nat) (Option.some Jvm.ClassFile.FieldType.long)).before args0 about1 = true := code_word (m := ⟨2, 5⟩) (meth := k2m5) (c := k2c5) (by decide +kernel) rfl rfl rfl (by decide +kernel)
set_option maxRecDepth 65536 in
theorem w_c4 : (Jvm.Cond.code ({ cls := "com/example/sarutahiko/sarutahiko/lattice/SegmentWalkNextPinLaw", name := "gap", desc := "(ZJJ)J" } : Jvm.MethodName) method_3_code (5 : Nat) (Option.some Jvm.ClassFile.FieldType.long)).before args0 about1 = true := code_word (m := ⟨1, 2⟩) (meth := k1m2) (c := k1c2) (by decide +kernel) rfl rfl rfl (by decide +kernel)
set_option maxRecDepth 65536 in
theorem w_c5 : (Jvm.Cond.code ({ cls := "com/example/sarutahiko/sarutahiko/lattice/SegmentWalk", name := "<init>", desc := "(JJJJJ)V" } : Jvm.MethodName) prog_23_method_1_code (19 : Nat) (Option.none : Option Jvm.ClassFile.FieldType)).before args0 about1 = true := code_word (m := ⟨3, 0⟩) (meth := k3m0) (c := k3c0) (by decide +kernel) rfl rfl rfl (by decide +kernel)
set_option maxRecDepth 65536 in
theorem w_c6 : (Jvm.Cond.code ({ cls := "java/lang/Object", name := "<init>", desc := "()V" } : Jvm.MethodName) object_method_1_code (1 : Nat) (Option.none : Option Jvm.ClassFile.FieldType)).before args0 about1 = true := code_word (m := ⟨0, 0⟩) (meth := k0m0) (c := k0c0) (by decide +kernel) rfl rfl rfl (by decide +kernel)
set_option maxRecDepth 65536 in
theorem w_c7 : (Jvm.Cond.code ({ cls := "com/example/sarutahiko/sarutahiko/lattice/SegmentWalk", name := "checkEnd", desc := "(JJ)V" } : Jvm.MethodName) prog_23_method_2_code (6 : Nat) (Option.none : Option Jvm.ClassFile.FieldType)).before args0 about1 = true := code_word (m := ⟨3, 1⟩) (meth := k3m1) (c := k3c1) (by decide +kernel) rfl rfl rfl (by decide +kernel)
set_option maxRecDepth 65536 in
theorem w_c8 : (Jvm.Cond.code ({ cls := "java/lang/Math", name := "floorDiv", desc := "(JJ)J" } : Jvm.MethodName) jdk_29_method_49_code (6 : Nat) (Option.some Jvm.ClassFile.FieldType.long)).before args0 about1 = true := code_word (m := ⟨2, 2⟩) (meth := k2m2) (c := k2c2) (by decide +kernel) rfl rfl rfl (by decide +kernel)
set_option maxRecDepth 65536 in
theorem w_c9 : (Jvm.Cond.code ({ cls := "java/lang/Math", name := "abs", desc := "(J)J" } : Jvm.MethodName) jdk_29_method_61_code (2 : Nat) (Option.some Jvm.ClassFile.FieldType.long)).before args0 about1 = true := code_word (m := ⟨2, 3⟩) (meth := k2m3) (c := k2c3) (by decide +kernel) rfl rfl rfl (by decide +kernel)
set_option maxRecDepth 65536 in
theorem w_c10 : (Jvm.Cond.code ({ cls := "com/example/sarutahiko/sarutahiko/lattice/SegmentWalk", name := "next", desc := "()Z" } : Jvm.MethodName) prog_23_method_3_code (5 : Nat) (Option.some Jvm.ClassFile.FieldType.boolean)).before args0 about1 = true := code_word (m := ⟨3, 2⟩) (meth := k3m2) (c := k3c2) (by decide +kernel) rfl rfl rfl (by decide +kernel)
set_option maxRecDepth 65536 in
theorem w_c11 : (Jvm.Cond.code ({ cls := "com/example/sarutahiko/sarutahiko/lattice/SegmentWalk", name := "getColumn", desc := "()I" } : Jvm.MethodName) prog_23_method_5_code (1 : Nat) (Option.some Jvm.ClassFile.FieldType.int)).before args0 about1 = true := code_word (m := ⟨3, 4⟩) (meth := k3m4) (c := k3c4) (by decide +kernel) rfl rfl rfl (by decide +kernel)
set_option maxRecDepth 65536 in
theorem w_c12 : (Jvm.Cond.code ({ cls := "com/example/sarutahiko/sarutahiko/lattice/SegmentWalk", name := "getRow", desc := "()I" } : Jvm.MethodName) prog_23_method_6_code (1 : Nat) (Option.some Jvm.ClassFile.FieldType.int)).before args0 about1 = true := code_word (m := ⟨3, 5⟩) (meth := k3m5) (c := k3c5) (by decide +kernel) rfl rfl rfl (by decide +kernel)
set_option maxRecDepth 65536 in
theorem w_c13 : (Jvm.Cond.code ({ cls := "com/example/sarutahiko/sarutahiko/lattice/SegmentWalk", name := "compareProducts", desc := "(JJJJ)I" } : Jvm.MethodName) prog_23_method_4_code (9 : Nat) (Option.some Jvm.ClassFile.FieldType.int)).before args0 about1 = true := code_word (m := ⟨3, 3⟩) (meth := k3m3) (c := k3c3) (by decide +kernel) rfl rfl rfl (by decide +kernel)
set_option maxRecDepth 65536 in
theorem w_c14 : (Jvm.Cond.code ({ cls := "java/lang/Math", name := "multiplyHigh", desc := "(JJ)J" } : Jvm.MethodName) jdk_29_method_45_code (20 : Nat) (Option.some Jvm.ClassFile.FieldType.long)).before args0 about1 = true := code_word (m := ⟨2, 1⟩) (meth := k2m1) (c := k2c1) (by decide +kernel) rfl rfl rfl (by decide +kernel)
set_option maxRecDepth 65536 in
theorem w_c15 : (Jvm.Cond.code ({ cls := "java/lang/Long", name := "compare", desc := "(JJ)I" } : Jvm.MethodName) jdk_35_method_42_code (4 : Nat) (Option.some Jvm.ClassFile.FieldType.int)).before args0 about1 = true := code_word (m := ⟨9, 0⟩) (meth := k9m0) (c := k9c0) (by decide +kernel) rfl rfl rfl (by decide +kernel)
set_option maxRecDepth 65536 in
theorem w_c16 : (Jvm.Cond.code ({ cls := "java/lang/Long", name := "compareUnsigned", desc := "(JJ)I" } : Jvm.MethodName) jdk_35_method_43_code (4 : Nat) (Option.some Jvm.ClassFile.FieldType.int)).before args0 about1 = true := code_word (m := ⟨9, 1⟩) (meth := k9m1) (c := k9c1) (by decide +kernel) rfl rfl rfl (by decide +kernel)
def codes1 : List Jvm.Cond := [Jvm.Cond.code x code maxLocals ret, Jvm.Cond.code ({ cls := "com/example/sarutahiko/sarutahiko/lattice/SegmentWalkNextPinLaw", name := "mod", desc := "(JJ)J" } : Jvm.MethodName) method_2_code (6 : Nat) (Option.some Jvm.ClassFile.FieldType.long), Jvm.Cond.code ({ cls := "java/lang/Math", name := "max", desc := "(JJ)J" } : Jvm.MethodName) jdk_29_method_66_code (4 : Nat) (Option.some Jvm.ClassFile.FieldType.long), Jvm.Cond.code ({ cls := "java/lang/Math", name := "min", desc := "(JJ)J" } : Jvm.MethodName) jdk_29_method_70_code (4 : Nat) (Option.some Jvm.ClassFile.FieldType.long), Jvm.Cond.code ({ cls := "com/example/sarutahiko/sarutahiko/lattice/SegmentWalkNextPinLaw", name := "gap", desc := "(ZJJ)J" } : Jvm.MethodName) method_3_code (5 : Nat) (Option.some Jvm.ClassFile.FieldType.long), Jvm.Cond.code ({ cls := "com/example/sarutahiko/sarutahiko/lattice/SegmentWalk", name := "<init>", desc := "(JJJJJ)V" } : Jvm.MethodName) prog_23_method_1_code (19 : Nat) (Option.none : Option Jvm.ClassFile.FieldType), Jvm.Cond.code ({ cls := "java/lang/Object", name := "<init>", desc := "()V" } : Jvm.MethodName) object_method_1_code (1 : Nat) (Option.none : Option Jvm.ClassFile.FieldType), Jvm.Cond.code ({ cls := "com/example/sarutahiko/sarutahiko/lattice/SegmentWalk", name := "checkEnd", desc := "(JJ)V" } : Jvm.MethodName) prog_23_method_2_code (6 : Nat) (Option.none : Option Jvm.ClassFile.FieldType), Jvm.Cond.code ({ cls := "java/lang/Math", name := "floorDiv", desc := "(JJ)J" } : Jvm.MethodName) jdk_29_method_49_code (6 : Nat) (Option.some Jvm.ClassFile.FieldType.long), Jvm.Cond.code ({ cls := "java/lang/Math", name := "abs", desc := "(J)J" } : Jvm.MethodName) jdk_29_method_61_code (2 : Nat) (Option.some Jvm.ClassFile.FieldType.long), Jvm.Cond.code ({ cls := "com/example/sarutahiko/sarutahiko/lattice/SegmentWalk", name := "next", desc := "()Z" } : Jvm.MethodName) prog_23_method_3_code (5 : Nat) (Option.some Jvm.ClassFile.FieldType.boolean), Jvm.Cond.code ({ cls := "com/example/sarutahiko/sarutahiko/lattice/SegmentWalk", name := "getColumn", desc := "()I" } : Jvm.MethodName) prog_23_method_5_code (1 : Nat) (Option.some Jvm.ClassFile.FieldType.int), Jvm.Cond.code ({ cls := "com/example/sarutahiko/sarutahiko/lattice/SegmentWalk", name := "getRow", desc := "()I" } : Jvm.MethodName) prog_23_method_6_code (1 : Nat) (Option.some Jvm.ClassFile.FieldType.int), Jvm.Cond.code ({ cls := "com/example/sarutahiko/sarutahiko/lattice/SegmentWalk", name := "compareProducts", desc := "(JJJJ)I" } : Jvm.MethodName) prog_23_method_4_code (9 : Nat) (Option.some Jvm.ClassFile.FieldType.int), Jvm.Cond.code ({ cls := "java/lang/Math", name := "multiplyHigh", desc := "(JJ)J" } : Jvm.MethodName) jdk_29_method_45_code (20 : Nat) (Option.some Jvm.ClassFile.FieldType.long), Jvm.Cond.code ({ cls := "java/lang/Long", name := "compare", desc := "(JJ)I" } : Jvm.MethodName) jdk_35_method_42_code (4 : Nat) (Option.some Jvm.ClassFile.FieldType.int), Jvm.Cond.code ({ cls := "java/lang/Long", name := "compareUnsigned", desc := "(JJ)I" } : Jvm.MethodName) jdk_35_method_43_code (4 : Nat) (Option.some Jvm.ClassFile.FieldType.int)]
set_option maxRecDepth 65536 in
theorem codes_eq : words1.filter isCode = codes1 := rfl
theorem w_codes : ∀ c ∈ words1.filter isCode, c.before args0 about1 = true := by
  rw [codes_eq]
  intro c hc
  simp only [codes1, List.mem_cons, List.not_mem_nil, or_false] at hc
  rcases hc with rfl | rfl | rfl | rfl | rfl | rfl | rfl | rfl | rfl | rfl | rfl | rfl | rfl | rfl | rfl | rfl | rfl
  · exact w_c0
  · exact w_c1
  · exact w_c2
  · exact w_c3
  · exact w_c4
  · exact w_c5
  · exact w_c6
  · exact w_c7
  · exact w_c8
  · exact w_c9
  · exact w_c10
  · exact w_c11
  · exact w_c12
  · exact w_c13
  · exact w_c14
  · exact w_c15
  · exact w_c16
set_option maxRecDepth 65536 in
theorem w_t1 : (words1.take 24).all (fun c => isCode c || c.before args0 about1) = true := by decide +kernel
set_option maxRecDepth 65536 in
theorem w_t2 : ((words1.drop 24).take 24).all (fun c => isCode c || c.before args0 about1) = true := by decide +kernel
set_option maxRecDepth 65536 in
theorem w_t3 : (((words1.drop 24).drop 24).take 24).all (fun c => isCode c || c.before args0 about1) = true := by decide +kernel
set_option maxRecDepth 65536 in
theorem w_t4 : ((((words1.drop 24).drop 24).drop 24).take 24).all (fun c => isCode c || c.before args0 about1) = true := by decide +kernel
set_option maxRecDepth 65536 in
theorem w_t5 : ((((words1.drop 24).drop 24).drop 24).drop 24).all (fun c => isCode c || c.before args0 about1) = true := by decide +kernel
theorem w_tables : (allAtoms (Jvm.Cond.code x code maxLocals ret :: tables_1)).before args0 about1 = true := by
  rw [allAtoms_all]
  show words1.all (fun c => c.before args0 about1) = true
  refine all_split ?_ w_codes
  rw [← List.take_append_drop 24 words1, List.all_append, w_t1, ← List.take_append_drop 24 (words1.drop 24), List.all_append, w_t2, ← List.take_append_drop 24 ((words1.drop 24).drop 24), List.all_append, w_t3, ← List.take_append_drop 24 (((words1.drop 24).drop 24).drop 24), List.all_append, w_t4, w_t5]
  rfl
set_option maxRecDepth 65536 in
theorem w_case : (Jvm.Cond.and given_1 narrow_1).before args0 about1 = true := by decide +kernel
theorem w_applies : (headSpec (Jvm.Cond.code x code maxLocals ret :: tables_1) room_1).applies x e0.platform about1 = true :=
  (Spec.applies_iff w_frames).mpr ⟨w_running, w_runnable, w_alone, w_named, w_hears, w_ripe, w_room, w_tables⟩
theorem atStart : AtStart classFile x code maxLocals ret World_1 tables_1 room_1 Calls_1 rest_1 Pre_1 launch0 p0 e0 about1 theMethod args0 below0 :=
  ⟨lists_1, trivial, launch0.admits_env _ _ _, launch0.least_env, fairChoices_fair.cas, fairChoices_fair.clock, w_frames, w_args, w_heap, w_applies, trivial, trivial, w_case⟩
end start1
theorem witness_1 : WitnessClaimed_1 := ⟨start1.p0, start1.e0, start1.about1, start1.theMethod, start1.args0, start1.below0, start1.atStart⟩
end Jvm.Pilot.@@N@@
