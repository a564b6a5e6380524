import JvmDerived
import JvmDerived.Pilot.@@N@@Statement
import JvmDerived.Pilot.@@N@@Code
set_option linter.unusedVariables false
set_option linter.unusedSimpArgs false
@@BLOCK:NumsL.lean.txt@@
namespace Jvm.Pilot.@@N@@
open Jvm Jvm.ClassFile Sem Op Lib Jvm.Free Jvm.Stand Jvm.LawKit Jvm.RoadKit Bundle Jvm.Pilot.@@N@@.Jvm.D
/-- what a body still owes at the state U: that it comes to a return with Q, within kc cells and ks slots -/
def Ow (p : Program) (e : Env) (below : List Frame) (s : State) (Q : Option Value → Heap → List Loc → Prop) (kc ks : Nat) (U : State) : Prop :=
  ∃ s₂ o, Steps p.tables e below U s₂ ∧ s₂.status = .running ∧ Ended s₂ below o ∧ ∃ v L, o = .returned v ∧ Q v s₂.heap L ∧ FrameEnd s o s₂ L kc ks
def lsr64 (x : Int64) (y : Int32) : Int64 := ((x.toUInt64 >>> (y &&& 0x3f).toInt64.toUInt64).toInt64)
def lsr32 (x y : Int32) : Int32 := ((x.toUInt32 >>> (y &&& 31).toUInt32).toInt32)
section W
variable {p : Program} {l : Launch} {e : Env} {R : Room} {s : State} {m : MethodId} {args : Array Value} {below : List Frame} {meth : Method} {c : Code} {T : State} {locs : List Loc} {cells slots : Nat} {Q : Option Value → Heap → List Loc → Prop} {kc ks : Nat} {pc pc' : Nat} {Ls Ls' : Array Slot} {st : List Value} {Z : State} {a0 : Array Value} {h : Heap}
theorem Ow.go {U U' : State} (k : Steps p.tables e below U U') (o : Ow p e below s Q kc ks U') : Ow p e below s Q kc ks U := by
  obtain ⟨s₂, o', h1, h2⟩ := o
  exact ⟨s₂, o', k.trans h1, h2⟩
theorem Ow.via {U U' : State} (k : ∀ t, Steps p.tables e below U' t → Steps p.tables e below U t) (o : Ow p e below s Q kc ks U') : Ow p e below s Q kc ks U := Ow.go (k _ (Steps.refl _)) o
theorem Ow.enter {n : Nat} (q : entryFrame m args n = mkF m 0 Ls []) (k : Ow p e below s Q kc ks (T.setTop (mkF m 0 Ls []))) :
    ∃ s₂ o, Steps p.tables e below (T.setTop (entryFrame m args n)) s₂ ∧ s₂.status = .running ∧ Ended s₂ below o ∧ ∃ v L, o = .returned v ∧ Q v s₂.heap L ∧ FrameEnd s o s₂ L kc ks := by
  rw [q]; exact k
theorem Ow.join {U : State} (T' : State) (g' : JFrame) (f : Ow p e below s Q kc ks (T'.setTop g') → Ow p e below s Q kc ks U) (k : Ow p e below s Q kc ks (T'.setTop g')) : Ow p e below s Q kc ks U := f k
theorem w_iloadN (X : Stand p l e R s m args below meth c T locs cells slots) (hx : p.tables.exec = Jvm.exec) {k : Fin 4} {v : Int32} (hd : decode c.code pc = .ok (.iload_n k, 1)) (hl : Ls[k.val]? = some (.val (.int v))) (hp : pc + 1 = pc') (k : Ow p e below s Q kc ks (T.setTop (mkF m pc' Ls (.int v :: st)))) : Ow p e below s Q kc ks (T.setTop (mkF m pc Ls st)) := by
  subst hp; exact Ow.go (XS.iloadN X.here hx rfl hd hl (Steps.refl _)) k
theorem w_iload (X : Stand p l e R s m args below meth c T locs cells slots) (hx : p.tables.exec = Jvm.exec) {k : Nat} {v : Int32} (hd : decode c.code pc = .ok (.iload k, 2)) (hl : Ls[k]? = some (.val (.int v))) (hp : pc + 2 = pc') (k : Ow p e below s Q kc ks (T.setTop (mkF m pc' Ls (.int v :: st)))) : Ow p e below s Q kc ks (T.setTop (mkF m pc Ls st)) := by
  subst hp; exact Ow.go (XS.iload X.here hx rfl hd hl (Steps.refl _)) k
theorem w_istoreN (X : Stand p l e R s m args below meth c T locs cells slots) (hx : p.tables.exec = Jvm.exec) {k : Fin 4} {v : Int32} (hd : decode c.code pc = .ok (.istore_n k, 1)) (Ls' : Array Slot) (hl : storeLocals Ls k.val (.int v) = some Ls') (hp : pc + 1 = pc') (k : Ow p e below s Q kc ks (T.setTop (mkF m pc' Ls' st))) : Ow p e below s Q kc ks (T.setTop (mkF m pc Ls (.int v :: st))) := by
  subst hp; exact Ow.go (XS.istoreN X.here hx rfl hd rfl hl (Steps.refl _)) k
theorem w_istore (X : Stand p l e R s m args below meth c T locs cells slots) (hx : p.tables.exec = Jvm.exec) {k : Nat} {v : Int32} (hd : decode c.code pc = .ok (.istore k, 2)) (Ls' : Array Slot) (hl : storeLocals Ls k (.int v) = some Ls') (hp : pc + 2 = pc') (k : Ow p e below s Q kc ks (T.setTop (mkF m pc' Ls' st))) : Ow p e below s Q kc ks (T.setTop (mkF m pc Ls (.int v :: st))) := by
  subst hp; exact Ow.go (XS.istore X.here hx rfl hd rfl hl (Steps.refl _)) k
theorem w_lloadN (X : Stand p l e R s m args below meth c T locs cells slots) (hx : p.tables.exec = Jvm.exec) {k : Fin 4} {v : Int64} (hd : decode c.code pc = .ok (.lload_n k, 1)) (hl : Ls[k.val]? = some (.val (.long v))) (hp : pc + 1 = pc') (k : Ow p e below s Q kc ks (T.setTop (mkF m pc' Ls (.long v :: st)))) : Ow p e below s Q kc ks (T.setTop (mkF m pc Ls st)) := by
  subst hp; exact Ow.go (XS.lloadN X.here hx rfl hd hl (Steps.refl _)) k
theorem w_lload (X : Stand p l e R s m args below meth c T locs cells slots) (hx : p.tables.exec = Jvm.exec) {k : Nat} {v : Int64} (hd : decode c.code pc = .ok (.lload k, 2)) (hl : Ls[k]? = some (.val (.long v))) (hp : pc + 2 = pc') (k : Ow p e below s Q kc ks (T.setTop (mkF m pc' Ls (.long v :: st)))) : Ow p e below s Q kc ks (T.setTop (mkF m pc Ls st)) := by
  subst hp; exact Ow.go (XS.lload X.here hx rfl hd hl (Steps.refl _)) k
theorem w_lstoreN (X : Stand p l e R s m args below meth c T locs cells slots) (hx : p.tables.exec = Jvm.exec) {k : Fin 4} {v : Int64} (hd : decode c.code pc = .ok (.lstore_n k, 1)) (Ls' : Array Slot) (hl : storeLocals Ls k.val (.long v) = some Ls') (hp : pc + 1 = pc') (k : Ow p e below s Q kc ks (T.setTop (mkF m pc' Ls' st))) : Ow p e below s Q kc ks (T.setTop (mkF m pc Ls (.long v :: st))) := by
  subst hp; exact Ow.go (XS.lstoreN X.here hx rfl hd rfl hl (Steps.refl _)) k
theorem w_lstore (X : Stand p l e R s m args below meth c T locs cells slots) (hx : p.tables.exec = Jvm.exec) {k : Nat} {v : Int64} (hd : decode c.code pc = .ok (.lstore k, 2)) (Ls' : Array Slot) (hl : storeLocals Ls k (.long v) = some Ls') (hp : pc + 2 = pc') (k : Ow p e below s Q kc ks (T.setTop (mkF m pc' Ls' st))) : Ow p e below s Q kc ks (T.setTop (mkF m pc Ls (.long v :: st))) := by
  subst hp; exact Ow.go (XS.lstore X.here hx rfl hd rfl hl (Steps.refl _)) k
theorem w_aloadN (X : Stand p l e R s m args below meth c T locs cells slots) (hx : p.tables.exec = Jvm.exec) {k : Fin 4} {v : Value} (hd : decode c.code pc = .ok (.aload_n k, 1)) (hl : Ls[k.val]? = some (.val v)) (hv : v.isRef = true) (hp : pc + 1 = pc') (k : Ow p e below s Q kc ks (T.setTop (mkF m pc' Ls (v :: st)))) : Ow p e below s Q kc ks (T.setTop (mkF m pc Ls st)) := by
  subst hp; exact Ow.go (XS.aloadN X.here hx rfl hd hl hv (Steps.refl _)) k
theorem w_aload (X : Stand p l e R s m args below meth c T locs cells slots) (hx : p.tables.exec = Jvm.exec) {k : Nat} {v : Value} (hd : decode c.code pc = .ok (.aload k, 2)) (hl : Ls[k]? = some (.val v)) (hv : v.isRef = true) (hp : pc + 2 = pc') (k : Ow p e below s Q kc ks (T.setTop (mkF m pc' Ls (v :: st)))) : Ow p e below s Q kc ks (T.setTop (mkF m pc Ls st)) := by
  subst hp; exact Ow.go (XS.aload X.here hx rfl hd hl hv (Steps.refl _)) k
theorem w_astore (X : Stand p l e R s m args below meth c T locs cells slots) (hx : p.tables.exec = Jvm.exec) {k : Nat} {v : Value} (hd : decode c.code pc = .ok (.astore k, 2)) (Ls' : Array Slot) (hl : storeLocals Ls k v = some Ls') (hv : v.isRef = true) (hp : pc + 2 = pc') (k : Ow p e below s Q kc ks (T.setTop (mkF m pc' Ls' st))) : Ow p e below s Q kc ks (T.setTop (mkF m pc Ls (v :: st))) := by
  subst hp; exact Ow.go (XS.astore X.here hx rfl hd rfl hv hl (Steps.refl _)) k
theorem w_iconst (X : Stand p l e R s m args below meth c T locs cells slots) (hx : p.tables.exec = Jvm.exec) {i : Int} (v : Int32) (hd : decode c.code pc = .ok (.iconst i, 1)) (hv : Int32.ofInt i = v) (hp : pc + 1 = pc') (k : Ow p e below s Q kc ks (T.setTop (mkF m pc' Ls (.int v :: st)))) : Ow p e below s Q kc ks (T.setTop (mkF m pc Ls st)) := by
  subst hp hv; exact Ow.go (XS.iconst X.here hx rfl hd (Steps.refl _)) k
theorem w_bipush (X : Stand p l e R s m args below meth c T locs cells slots) (hx : p.tables.exec = Jvm.exec) {i : Int} (v : Int32) (hd : decode c.code pc = .ok (.bipush i, 2)) (hv : (Int8.ofInt i).toInt32 = v) (hp : pc + 2 = pc') (k : Ow p e below s Q kc ks (T.setTop (mkF m pc' Ls (.int v :: st)))) : Ow p e below s Q kc ks (T.setTop (mkF m pc Ls st)) := by
  subst hp hv; exact Ow.go (XS.bipush X.here hx rfl hd (Steps.refl _)) k
theorem w_ldcI (X : Stand p l e R s m args below meth c T locs cells slots) (hx : p.tables.exec = Jvm.exec) (hZ : Z.Warmed39 s.vm) {own : String} {index : Nat} {v : Int32} (hown : s.vm.findClass own = some m.cls) (w : (Cond.constant own index v).before a0 Z = true) (hd : decode c.code pc = .ok (.ldc index, 2)) (hp : pc + 2 = pc') (k : Ow p e below s Q kc ks (T.setTop (mkF m pc' Ls (.int v :: st)))) : Ow p e below s Q kc ks (T.setTop (mkF m pc Ls st)) := by
  subst hp; exact Ow.via (X.ldcInt hx hown (mvT hZ w) (g := mkF m pc Ls st) rfl hd) k
theorem w_ldc2J (X : Stand p l e R s m args below meth c T locs cells slots) (hx : p.tables.exec = Jvm.exec) (hZ : Z.Warmed39 s.vm) {own : String} {index : Nat} {v : Int64} (hown : s.vm.findClass own = some m.cls) (w : (Cond.constantLong own index v).before a0 Z = true) (hd : decode c.code pc = .ok (.ldc2_w index, 3)) (hp : pc + 3 = pc') (k : Ow p e below s Q kc ks (T.setTop (mkF m pc' Ls (.long v :: st)))) : Ow p e below s Q kc ks (T.setTop (mkF m pc Ls st)) := by
  subst hp; exact Ow.via (X.ldc2Long hx hown (mvT hZ w) (g := mkF m pc Ls st) rfl hd) k
theorem w_ladd (X : Stand p l e R s m args below meth c T locs cells slots) (hx : p.tables.exec = Jvm.exec) {x y : Int64} (hd : decode c.code pc = .ok (.ladd, 1))  (hp : pc + 1 = pc') (k : Ow p e below s Q kc ks (T.setTop (mkF m pc' Ls (.long (x + y) :: st)))) : Ow p e below s Q kc ks (T.setTop (mkF m pc Ls (.long y :: .long x :: st))) := by
  subst hp; exact Ow.go (XS.ladd X.here hx rfl hd rfl (Steps.refl _)) k
theorem w_lsub (X : Stand p l e R s m args below meth c T locs cells slots) (hx : p.tables.exec = Jvm.exec) {x y : Int64} (hd : decode c.code pc = .ok (.lsub, 1))  (hp : pc + 1 = pc') (k : Ow p e below s Q kc ks (T.setTop (mkF m pc' Ls (.long (x - y) :: st)))) : Ow p e below s Q kc ks (T.setTop (mkF m pc Ls (.long y :: .long x :: st))) := by
  subst hp; exact Ow.go (XS.lsub X.here hx rfl hd rfl (Steps.refl _)) k
theorem w_lmul (X : Stand p l e R s m args below meth c T locs cells slots) (hx : p.tables.exec = Jvm.exec) {x y : Int64} (hd : decode c.code pc = .ok (.lmul, 1))  (hp : pc + 1 = pc') (k : Ow p e below s Q kc ks (T.setTop (mkF m pc' Ls (.long (x * y) :: st)))) : Ow p e below s Q kc ks (T.setTop (mkF m pc Ls (.long y :: .long x :: st))) := by
  subst hp; exact Ow.go (XS.lmul X.here hx rfl hd rfl (Steps.refl _)) k
theorem w_iand (X : Stand p l e R s m args below meth c T locs cells slots) (hx : p.tables.exec = Jvm.exec) {x y : Int32} (hd : decode c.code pc = .ok (.iand, 1))  (hp : pc + 1 = pc') (k : Ow p e below s Q kc ks (T.setTop (mkF m pc' Ls (.int (x &&& y) :: st)))) : Ow p e below s Q kc ks (T.setTop (mkF m pc Ls (.int y :: .int x :: st))) := by
  subst hp; exact Ow.go (XS.iand X.here hx rfl hd rfl (Steps.refl _)) k
theorem w_land (X : Stand p l e R s m args below meth c T locs cells slots) (hx : p.tables.exec = Jvm.exec) {x y : Int64} (hd : decode c.code pc = .ok (.land, 1))  (hp : pc + 1 = pc') (k : Ow p e below s Q kc ks (T.setTop (mkF m pc' Ls (.long (x &&& y) :: st)))) : Ow p e below s Q kc ks (T.setTop (mkF m pc Ls (.long y :: .long x :: st))) := by
  subst hp; exact Ow.go (XS.land X.here hx rfl hd rfl (Steps.refl _)) k
theorem w_lxor (X : Stand p l e R s m args below meth c T locs cells slots) (hx : p.tables.exec = Jvm.exec) {x y : Int64} (hd : decode c.code pc = .ok (.lxor, 1))  (hp : pc + 1 = pc') (k : Ow p e below s Q kc ks (T.setTop (mkF m pc' Ls (.long (x ^^^ y) :: st)))) : Ow p e below s Q kc ks (T.setTop (mkF m pc Ls (.long y :: .long x :: st))) := by
  subst hp; exact Ow.go (XS.lxor X.here hx rfl hd rfl (Steps.refl _)) k
theorem w_lushr (X : Stand p l e R s m args below meth c T locs cells slots) (hx : p.tables.exec = Jvm.exec) {x : Int64} {y : Int32} (hd : decode c.code pc = .ok (.lushr, 1))  (hp : pc + 1 = pc') (k : Ow p e below s Q kc ks (T.setTop (mkF m pc' Ls (.long (lsr64 x y) :: st)))) : Ow p e below s Q kc ks (T.setTop (mkF m pc Ls (.int y :: .long x :: st))) := by
  subst hp; exact Ow.go (XS.lushr X.here hx rfl hd rfl (Steps.refl _)) k
theorem w_lrem (X : Stand p l e R s m args below meth c T locs cells slots) (hx : p.tables.exec = Jvm.exec) {x y : Int64} (hd : decode c.code pc = .ok (.lrem, 1)) (hy : ¬ y = 0) (hp : pc + 1 = pc') (k : Ow p e below s Q kc ks (T.setTop (mkF m pc' Ls (.long (x - (x / y) * y) :: st)))) : Ow p e below s Q kc ks (T.setTop (mkF m pc Ls (.long y :: .long x :: st))) := by
  subst hp; exact Ow.go (XS.lrem X.here hx rfl hd rfl hy (Steps.refl _)) k
theorem w_i2l (X : Stand p l e R s m args below meth c T locs cells slots) (hx : p.tables.exec = Jvm.exec) {x : Int32} (hd : decode c.code pc = .ok (.i2l, 1))  (hp : pc + 1 = pc') (k : Ow p e below s Q kc ks (T.setTop (mkF m pc' Ls (.long (x.toInt64) :: st)))) : Ow p e below s Q kc ks (T.setTop (mkF m pc Ls (.int x :: st))) := by
  subst hp; exact Ow.go (XS.i2l X.here hx rfl hd rfl (Steps.refl _)) k
theorem w_l2i (X : Stand p l e R s m args below meth c T locs cells slots) (hx : p.tables.exec = Jvm.exec) {x : Int64} (hd : decode c.code pc = .ok (.l2i, 1))  (hp : pc + 1 = pc') (k : Ow p e below s Q kc ks (T.setTop (mkF m pc' Ls (.int (x.toInt32) :: st)))) : Ow p e below s Q kc ks (T.setTop (mkF m pc Ls (.long x :: st))) := by
  subst hp; exact Ow.go (XS.l2i X.here hx rfl hd rfl (Steps.refl _)) k
theorem w_dup (X : Stand p l e R s m args below meth c T locs cells slots) (hx : p.tables.exec = Jvm.exec) {x : Value} (hd : decode c.code pc = .ok (.dup, 1)) (hc : x.category = 1) (hp : pc + 1 = pc') (k : Ow p e below s Q kc ks (T.setTop (mkF m pc' Ls (x :: x :: st)))) : Ow p e below s Q kc ks (T.setTop (mkF m pc Ls (x :: st))) := by
  subst hp; exact Ow.go (XS.dup X.here hx rfl hd rfl hc (Steps.refl _)) k
theorem w_goto (X : Stand p l e R s m args below meth c T locs cells slots) (hx : p.tables.exec = Jvm.exec) {o : Int} (hd : decode c.code pc = .ok (.goto o, 3)) (ho : 0 ≤ (pc : Int) + o) (hp : ((pc : Int) + o).toNat = pc') (k : Ow p e below s Q kc ks (T.setTop (mkF m pc' Ls st))) : Ow p e below s Q kc ks (T.setTop (mkF m pc Ls st)) := by
  exact Ow.go (XS.goto X.here hx rfl (pc0 := pc) rfl hd ho hp (Steps.refl _)) k
theorem w_icmp_ne (X : Stand p l e R s m args below meth c T locs cells slots) (hx : p.tables.exec = Jvm.exec) {x y : Int32} {o : Int} {pcT pcF : Nat} (hd : decode c.code pc = .ok (.if_icmp .ne o, 3)) (ho : 0 ≤ (pc : Int) + o) (ht : ((pc : Int) + o).toNat = pcT) (hp : pc + 3 = pcF) (k1 : ¬ (x = y) → Ow p e below s Q kc ks (T.setTop (mkF m pcT Ls st))) (k2 : x = y → Ow p e below s Q kc ks (T.setTop (mkF m pcF Ls st))) : Ow p e below s Q kc ks (T.setTop (mkF m pc Ls (.int y :: .int x :: st))) := by
  subst hp
  by_cases q : x = y
  · exact Ow.go (XS.icmpNo X.here hx rfl hd rfl (teq q).2 (Steps.refl _)) (k2 q)
  · exact Ow.go (XS.icmpYes X.here hx rfl (pc0 := pc) rfl hd rfl (feq q).2 ho ht (Steps.refl _)) (k1 q)
theorem w_if_ne (X : Stand p l e R s m args below meth c T locs cells slots) (hx : p.tables.exec = Jvm.exec) {x : Int32} {o : Int} {pcT pcF : Nat} (hd : decode c.code pc = .ok (.ifCond .ne o, 3)) (ho : 0 ≤ (pc : Int) + o) (ht : ((pc : Int) + o).toNat = pcT) (hp : pc + 3 = pcF) (k1 : ¬ (x = (0 : Int32)) → Ow p e below s Q kc ks (T.setTop (mkF m pcT Ls st))) (k2 : x = (0 : Int32) → Ow p e below s Q kc ks (T.setTop (mkF m pcF Ls st))) : Ow p e below s Q kc ks (T.setTop (mkF m pc Ls (.int x :: st))) := by
  subst hp
  by_cases q : x = (0 : Int32)
  · exact Ow.go (XS.ifNo X.here hx rfl hd rfl ((if0 _ _).trans (teq q).2) (Steps.refl _)) (k2 q)
  · exact Ow.go (XS.ifYes X.here hx rfl (pc0 := pc) rfl hd rfl ((if0 _ _).trans (feq q).2) ho ht (Steps.refl _)) (k1 q)
theorem w_lcmp_ne (X : Stand p l e R s m args below meth c T locs cells slots) (hx : p.tables.exec = Jvm.exec) {x y : Int64} {o : Int} {pc1 pcT pcF : Nat} (hd : decode c.code pc = .ok (.lcmp, 1)) (hd1 : decode c.code pc1 = .ok (.ifCond .ne o, 3)) (hp1 : pc + 1 = pc1) (ho : 0 ≤ (pc1 : Int) + o) (ht : ((pc1 : Int) + o).toNat = pcT) (hp : pc1 + 3 = pcF) (k1 : ¬ (x = y) → Ow p e below s Q kc ks (T.setTop (mkF m pcT Ls st))) (k2 : x = y → Ow p e below s Q kc ks (T.setTop (mkF m pcF Ls st))) : Ow p e below s Q kc ks (T.setTop (mkF m pc Ls (.long y :: .long x :: st))) := by
  subst hp1
  refine Ow.go (XS.lcmp X.here hx rfl hd rfl (Steps.refl _)) ?_
  exact w_if_ne X hx (x := lcmpW x y) hd1 ho ht hp (fun q => k1 (fun r => q ((lw_eq x y).mpr r))) (fun q => k2 ((lw_eq x y).mp q))
theorem w_icmp_lt (X : Stand p l e R s m args below meth c T locs cells slots) (hx : p.tables.exec = Jvm.exec) {x y : Int32} {o : Int} {pcT pcF : Nat} (hd : decode c.code pc = .ok (.if_icmp .lt o, 3)) (ho : 0 ≤ (pc : Int) + o) (ht : ((pc : Int) + o).toNat = pcT) (hp : pc + 3 = pcF) (k1 : x < y → Ow p e below s Q kc ks (T.setTop (mkF m pcT Ls st))) (k2 : ¬ (x < y) → Ow p e below s Q kc ks (T.setTop (mkF m pcF Ls st))) : Ow p e below s Q kc ks (T.setTop (mkF m pc Ls (.int y :: .int x :: st))) := by
  subst hp
  by_cases q : x < y
  · exact Ow.go (XS.icmpYes X.here hx rfl (pc0 := pc) rfl hd rfl (tlt q).1 ho ht (Steps.refl _)) (k1 q)
  · exact Ow.go (XS.icmpNo X.here hx rfl hd rfl (flt q).1 (Steps.refl _)) (k2 q)
theorem w_if_lt (X : Stand p l e R s m args below meth c T locs cells slots) (hx : p.tables.exec = Jvm.exec) {x : Int32} {o : Int} {pcT pcF : Nat} (hd : decode c.code pc = .ok (.ifCond .lt o, 3)) (ho : 0 ≤ (pc : Int) + o) (ht : ((pc : Int) + o).toNat = pcT) (hp : pc + 3 = pcF) (k1 : x < (0 : Int32) → Ow p e below s Q kc ks (T.setTop (mkF m pcT Ls st))) (k2 : ¬ (x < (0 : Int32)) → Ow p e below s Q kc ks (T.setTop (mkF m pcF Ls st))) : Ow p e below s Q kc ks (T.setTop (mkF m pc Ls (.int x :: st))) := by
  subst hp
  by_cases q : x < (0 : Int32)
  · exact Ow.go (XS.ifYes X.here hx rfl (pc0 := pc) rfl hd rfl ((if0 _ _).trans (tlt q).1) ho ht (Steps.refl _)) (k1 q)
  · exact Ow.go (XS.ifNo X.here hx rfl hd rfl ((if0 _ _).trans (flt q).1) (Steps.refl _)) (k2 q)
theorem w_lcmp_lt (X : Stand p l e R s m args below meth c T locs cells slots) (hx : p.tables.exec = Jvm.exec) {x y : Int64} {o : Int} {pc1 pcT pcF : Nat} (hd : decode c.code pc = .ok (.lcmp, 1)) (hd1 : decode c.code pc1 = .ok (.ifCond .lt o, 3)) (hp1 : pc + 1 = pc1) (ho : 0 ≤ (pc1 : Int) + o) (ht : ((pc1 : Int) + o).toNat = pcT) (hp : pc1 + 3 = pcF) (k1 : x < y → Ow p e below s Q kc ks (T.setTop (mkF m pcT Ls st))) (k2 : ¬ (x < y) → Ow p e below s Q kc ks (T.setTop (mkF m pcF Ls st))) : Ow p e below s Q kc ks (T.setTop (mkF m pc Ls (.long y :: .long x :: st))) := by
  subst hp1
  refine Ow.go (XS.lcmp X.here hx rfl hd rfl (Steps.refl _)) ?_
  exact w_if_lt X hx (x := lcmpW x y) hd1 ho ht hp (fun q => k1 ((lw_lt x y).mp q)) (fun q => k2 (fun r => q ((lw_lt x y).mpr r)))
theorem w_if_ge (X : Stand p l e R s m args below meth c T locs cells slots) (hx : p.tables.exec = Jvm.exec) {x : Int32} {o : Int} {pcT pcF : Nat} (hd : decode c.code pc = .ok (.ifCond .ge o, 3)) (ho : 0 ≤ (pc : Int) + o) (ht : ((pc : Int) + o).toNat = pcT) (hp : pc + 3 = pcF) (k1 : ¬ (x < (0 : Int32)) → Ow p e below s Q kc ks (T.setTop (mkF m pcT Ls st))) (k2 : x < (0 : Int32) → Ow p e below s Q kc ks (T.setTop (mkF m pcF Ls st))) : Ow p e below s Q kc ks (T.setTop (mkF m pc Ls (.int x :: st))) := by
  subst hp
  by_cases q : x < (0 : Int32)
  · exact Ow.go (XS.ifNo X.here hx rfl hd rfl ((if0 _ _).trans (tlt q).2.1) (Steps.refl _)) (k2 q)
  · exact Ow.go (XS.ifYes X.here hx rfl (pc0 := pc) rfl hd rfl ((if0 _ _).trans (flt q).2.1) ho ht (Steps.refl _)) (k1 q)
theorem w_lcmp_ge (X : Stand p l e R s m args below meth c T locs cells slots) (hx : p.tables.exec = Jvm.exec) {x y : Int64} {o : Int} {pc1 pcT pcF : Nat} (hd : decode c.code pc = .ok (.lcmp, 1)) (hd1 : decode c.code pc1 = .ok (.ifCond .ge o, 3)) (hp1 : pc + 1 = pc1) (ho : 0 ≤ (pc1 : Int) + o) (ht : ((pc1 : Int) + o).toNat = pcT) (hp : pc1 + 3 = pcF) (k1 : ¬ (x < y) → Ow p e below s Q kc ks (T.setTop (mkF m pcT Ls st))) (k2 : x < y → Ow p e below s Q kc ks (T.setTop (mkF m pcF Ls st))) : Ow p e below s Q kc ks (T.setTop (mkF m pc Ls (.long y :: .long x :: st))) := by
  subst hp1
  refine Ow.go (XS.lcmp X.here hx rfl hd rfl (Steps.refl _)) ?_
  exact w_if_ge X hx (x := lcmpW x y) hd1 ho ht hp (fun q => k1 (fun r => q ((lw_lt x y).mpr r))) (fun q => k2 ((lw_lt x y).mp q))
theorem w_ireturn (X : Stand p l e R s m args below meth c T locs cells slots) (hx : p.tables.exec = Jvm.exec) {z : Int32} (hret : meth.sig.returnType = some .int)  (hlk : meth.locks = false) (hc : cells ≤ kc) (hs : slots ≤ ks) (hd : decode c.code pc = .ok (.ireturn, 1)) (hq : Q (some (.int z)) T.heap locs) : Ow p e below s Q kc ks (T.setTop (mkF m pc Ls (.int z :: st))) := by
  obtain ⟨fs, hr, hrun, hended, hW, hsame⟩ := X.leave (v := some (.int z)) (fun h => by rw [hret] at h; cases h) hlk
  exact ⟨_, _, retOut X hx (t := .int) hret rfl (Or.inl ⟨rfl, Or.inl rfl, _, rfl⟩) hd hr, hrun, hended, _, _, rfl, hq, ⟨_, rfl⟩, hW, hsame.mono hc hs⟩
theorem w_lreturn (X : Stand p l e R s m args below meth c T locs cells slots) (hx : p.tables.exec = Jvm.exec) {z : Int64} (hret : meth.sig.returnType = some .long)  (hlk : meth.locks = false) (hc : cells ≤ kc) (hs : slots ≤ ks) (hd : decode c.code pc = .ok (.lreturn, 1)) (hq : Q (some (.long z)) T.heap locs) : Ow p e below s Q kc ks (T.setTop (mkF m pc Ls (.long z :: st))) := by
  obtain ⟨fs, hr, hrun, hended, hW, hsame⟩ := X.leave (v := some (.long z)) (fun h => by rw [hret] at h; cases h) hlk
  exact ⟨_, _, retOut X hx (t := .long) hret rfl (Or.inr (Or.inl ⟨rfl, rfl, _, rfl⟩)) hd hr, hrun, hended, _, _, rfl, hq, ⟨_, rfl⟩, hW, hsame.mono hc hs⟩
theorem w_zreturn (X : Stand p l e R s m args below meth c T locs cells slots) (hx : p.tables.exec = Jvm.exec) {z : Int32} (hret : meth.sig.returnType = some .boolean) (hz : z = 0 ∨ z = 1) (hlk : meth.locks = false) (hc : cells ≤ kc) (hs : slots ≤ ks) (hd : decode c.code pc = .ok (.ireturn, 1)) (hq : Q (some (.int z)) T.heap locs) : Ow p e below s Q kc ks (T.setTop (mkF m pc Ls (.int z :: st))) := by
  obtain ⟨fs, hr, hrun, hended, hW, hsame⟩ := X.leave (v := some (.int z)) (fun h => by rw [hret] at h; cases h) hlk
  exact ⟨_, _, retOut X hx (t := .boolean) hret (by rcases hz with rfl | rfl <;> rfl) (Or.inl ⟨rfl, Or.inr (Or.inl rfl), _, rfl⟩) hd hr, hrun, hended, _, _, rfl, hq, ⟨_, rfl⟩, hW, hsame.mono hc hs⟩
theorem w_return (X : Stand p l e R s m args below meth c T locs cells slots) (hx : p.tables.exec = Jvm.exec) (hret : meth.sig.returnType = none) (hlk : meth.locks = false) (hc : cells ≤ kc) (hs : slots ≤ ks) (hd : decode c.code pc = .ok (.return_, 1)) (hq : Q none T.heap locs) : Ow p e below s Q kc ks (T.setTop (mkF m pc Ls [])) := by
  obtain ⟨fs, hr, hrun, hended, hW, hsame⟩ := X.leave (v := none) (fun _ => rfl) hlk
  exact ⟨_, _, X.returnOut hx hret hd hr, hrun, hended, _, _, rfl, hq, ⟨_, rfl⟩, hW, hsame.mono hc hs⟩
theorem w_getfield (X : Stand p l e R s m args below meth c T locs cells slots) (hx : p.tables.exec = Jvm.exec) (hZ : Z.Warmed39 s.vm) {own R0 O n d host : String} {index : Nat} (hown : s.vm.findClass own = some m.cls) (w : (Cond.fieldLink own index R0 n d).before a0 Z = true ∨ (Cond.fieldLinkNest own index R0 n d host).before a0 Z = true) (via : Via Z R0 O n d) (eT : T.heap = h) {a : Addr} {v : Value} (F : Fld Z h a O n d v) (hd : decode c.code pc = .ok (.getfield index, 3)) (hp : pc + 3 = pc') (k : ∀ T', Stand p l e R s m args below meth c T' locs cells slots → T'.heap = h → Ow p e below s Q kc ks (T'.setTop (mkF m pc' Ls (v :: st)))) : Ow p e below s Q kc ks (T.setTop (mkF m pc Ls (.ref a :: st))) := by
  subst hp
  obtain ⟨T', X', e', st'⟩ := getF X hx hZ hown w via eT F (g := mkF m pc Ls (.ref a :: st)) rfl rfl hd
  exact Ow.via st' (k T' X' e')
theorem w_putfield (X : Stand p l e R s m args below meth c T locs cells slots) (hx : p.tables.exec = Jvm.exec) (hZ : Z.Warmed39 s.vm) {own R0 O n d host C : String} {index kk : Nat} {ty : FieldType} (hown : s.vm.findClass own = some m.cls) (w : (Cond.fieldLink own index R0 n d).before a0 Z = true ∨ (Cond.fieldLinkNest own index R0 n d host).before a0 Z = true) (via : Via Z R0 O n d) (eT : T.heap = h) {a : Addr} {v old : Value} (F : Fld Z h a O n d old) (E : Exa Z h a C) (L : (Cond.lays C O n d).before a0 Z = true ∨ ((Cond.laysFinal C O n d).before a0 Z = true ∧ own = O ∧ meth.name = "<init>")) (wi : (Cond.instantiable C kk).before a0 Z = true) (hty : parseFieldDescriptor d = some ty) (hn : narrow ty v = v) (hf : fits ty v = true) (hd : decode c.code pc = .ok (.putfield index, 3)) (hp : pc + 3 = pc') (k : ∀ T' h', Stand p l e R s m args below meth c T' (locs ++ [⟨a, RoadKit.slotOf Z O n d⟩]) cells slots → T'.heap = h' → Wr h h' a (RoadKit.slotOf Z O n d) v → Ow p e below s Q kc ks (T'.setTop (mkF m pc' Ls st))) : Ow p e below s Q kc ks (T.setTop (mkF m pc Ls (v :: .ref a :: st))) := by
  subst hp
  obtain ⟨T', h', X', e', W', st'⟩ := putF X hx hZ hown w via eT F E L wi hty hn hf (g := mkF m pc Ls (v :: .ref a :: st)) rfl rfl hd
  exact Ow.via st' (k T' h' X' e' W')
theorem w_new (X : Stand p l e R s m args below meth c T locs cells slots) (hx : p.tables.exec = Jvm.exec) (hZ : Z.Warmed39 s.vm) {own C : String} {index n : Nat} (hown : s.vm.findClass own = some m.cls) (w : (Cond.classLink own index C).before a0 Z = true) (wi : (Cond.instantiable C n).before a0 Z = true) (wz : (Cond.initialized C).before a0 Z = true) (eT : T.heap = h) (hd : decode c.code pc = .ok (.new index, 3)) (hc : cells + 1 ≤ R.cells) (hl : slots + n ≤ R.slots) (hp : pc + 3 = pc') (k : ∀ T' h' a, a = h.size → Stand p l e R s m args below meth c T' locs (cells + 1) (slots + n) → T'.heap = h' → Ext h h' → Exa Z h' a C → (∀ {O nm d : String} {ty : FieldType}, Laid Z a0 C O nm d → parseFieldDescriptor d = some ty → Fld Z h' a O nm d (defaultValue ty)) → Ow p e below s Q kc ks (T'.setTop (mkF m pc' Ls (.ref a :: st)))) : Ow p e below s Q kc ks (T.setTop (mkF m pc Ls st)) := by
  subst hp
  obtain ⟨T', h', X', e', E', A', D', -, st'⟩ := newO X hx hZ hown w wi wz eT (g := mkF m pc Ls st) rfl hd hc hl
  exact Ow.via st' (k T' h' _ rfl X' e' E' A' D')
theorem w_objinit (X : Stand p l e R s m args below meth c T locs cells slots) (hx : p.tables.exec = Jvm.exec) (hZ : Z.Warmed39 s.vm) {own : String} {idx : Nat} (hown : s.vm.findClass own = some m.cls) (w1 : (Cond.methodLink own idx Lib.objectInit).before a0 Z = true) (w2 : (Cond.instanceMethod Lib.objectInit).before a0 Z = true) (w3 : (Cond.code Lib.objectInit ⟨#[0xb1]⟩ 1 none).before a0 Z = true) (eT : T.heap = h) {a : Addr} (hd : decode c.code pc = .ok (.invokespecial idx, 3)) (hsz : Ls.size = c.maxLocals) (hf : 1 ≤ R.frames) {W : Nat} (hW : (st.map fun v => v.category).sum ≤ W) (hl : W + 12 ≤ R.locals) (hp : pc + 3 = pc') (k : ∀ T', Stand p l e R s m args below meth c T' locs cells slots → T'.heap = h → Ow p e below s Q kc ks (T'.setTop (mkF m pc' Ls st))) : Ow p e below s Q kc ks (T.setTop (mkF m pc Ls (.ref a :: st))) := by
  subst hp
  obtain ⟨T', X', e', st'⟩ := initO X hx hZ hown w1 w2 w3 eT (g := mkF m pc Ls (.ref a :: st)) rfl hsz rfl hd hf (W := W) (by show 2 * 0 + _ ≤ _; omega) hl
  exact Ow.via st' (k T' X' e')
theorem w_callN (X : Stand p l e R s m args below meth c T locs cells slots) (hx : p.tables.exec = Jvm.exec) (hZ : Z.Warmed39 s.vm) {own : String} {index : Nat} {y : MethodName} {bytes : ByteArray} {maxL : Nat} (hy1 : y.name = "<init>") (hown : s.vm.findClass own = some m.cls) (w1 : (Cond.methodLink own index y).before a0 Z = true) (w2 : (Cond.instanceMethod y).before a0 Z = true) (w3 : (Cond.initialized y.cls).before a0 Z = true) (w4 : (Cond.code y bytes maxL none).before a0 Z = true) (hy : y.cls ≠ "java/lang/invoke/MethodHandle" ∧ y.cls ≠ "java/lang/invoke/VarHandle") {rm : Room} {as' : Array Value} {Qf : Option Value → Heap → List Loc → Prop} {W : Nat} (hM : MetFree l y (head1 [Cond.code y bytes maxL none] rm) (fun a U => a = as' ∧ Z.Warmed39 U.vm ∧ U.heap = h) (fun _ _ _ _ _ => True) (fun _ U o U' => ∃ v L, o = .returned v ∧ Qf v U'.heap L ∧ FrameEnd U o U' L rm.cells rm.slots)) (eT : T.heap = h) (hf : rm.frames + 1 ≤ R.frames) (hlo : W + (maxL + 11) + rm.locals ≤ R.locals) (hc : cells + rm.cells ≤ R.cells) (hs : slots + rm.slots ≤ R.slots) (hd : decode c.code pc = .ok (.invokespecial index, 3)) (hsz : Ls.size = c.maxLocals) {a : Addr} {argsL rest : List Value} {ps : List FieldType} {r : Option FieldType} (pd : parseMethodDescriptor y.desc = some ⟨ps, r⟩) (hlen : argsL.length = ps.length) (hst : st = argsL.reverse ++ .ref a :: rest) (has : (Value.ref a :: argsL).toArray = as') (hW : (rest.map fun v => v.category).sum ≤ W) (hp : pc + 3 = pc') (k : ∀ v T' L, Stand p l e R s m args below meth c T' (locs ++ L) (cells + rm.cells) (slots + rm.slots) → Qf v T'.heap L → Ow p e below s Q kc ks (T'.setTop (mkF m pc' Ls (v.toList ++ rest)))) : Ow p e below s Q kc ks (T.setTop (mkF m pc Ls st)) := by
  subst hp
  obtain ⟨v, vm₁, ⟨T', L', k', n'⟩, -, X', ⟨L, hq, l1, y1, z1⟩, st'⟩ := X.specialBack hx hy1 hown (mvT hZ w1) (mvT hZ w2) (mvT hZ w4) hy (backOf (W := W) hM hZ w4 w3 hf hlo) (g := mkF m pc Ls st) rfl hsz (Steps.refl _) (a := a) (argsL := argsL) (rest := rest) (lenOf pd hlen) hst (by show 2 * 0 + _ ≤ _; omega) hd (fun _ _ => ⟨has, eT, hc, hs⟩)
  dsimp only [Pt.U, Pt.locs, Pt.cells, Pt.slots] at X' l1 y1 z1 st' hq
  subst l1 y1 z1
  exact Ow.go st' (k v T' L X' hq)
theorem w_callV (X : Stand p l e R s m args below meth c T locs cells slots) (hx : p.tables.exec = Jvm.exec) (hZ : Z.Warmed39 s.vm) {own C : String} {index : Nat} {y z : MethodName} {bytes : ByteArray} {maxL : Nat} {ret : Option FieldType} (hown : s.vm.findClass own = some m.cls) (w1 : (Cond.methodLink own index y).before a0 Z = true) (w2 : (Cond.declares y).before a0 Z = true) (nf : NotFace s y) (w5 : (Cond.selects C y z).before a0 Z = true) (w6 : (Cond.instanceMethod z).before a0 Z = true) (w3 : (Cond.initialized z.cls).before a0 Z = true) (w4 : (Cond.code z bytes maxL ret).before a0 Z = true) (hy : y.cls ≠ "java/lang/invoke/MethodHandle" ∧ y.cls ≠ "java/lang/invoke/VarHandle") {rm : Room} {as' : Array Value} {Qf : Option Value → Heap → List Loc → Prop} {W : Nat} (hM : MetFree l z (head1 [Cond.code z bytes maxL ret] rm) (fun a U => a = as' ∧ Z.Warmed39 U.vm ∧ U.heap = h) (fun _ _ _ _ _ => True) (fun _ U o U' => ∃ v L, o = .returned v ∧ Qf v U'.heap L ∧ FrameEnd U o U' L rm.cells rm.slots)) (eT : T.heap = h) (hf : rm.frames + 1 ≤ R.frames) (hlo : W + (maxL + 11) + rm.locals ≤ R.locals) (hc : cells + rm.cells ≤ R.cells) (hs : slots + rm.slots ≤ R.slots) {a : Addr} (E : Exa Z h a C) (hd : decode c.code pc = .ok (.invokevirtual index, 3)) (hsz : Ls.size = c.maxLocals) {argsL rest : List Value} {ps : List FieldType} {r : Option FieldType} (pd : parseMethodDescriptor y.desc = some ⟨ps, r⟩) (hlen : argsL.length = ps.length) (hst : st = argsL.reverse ++ .ref a :: rest) (has : (Value.ref a :: argsL).toArray = as') (hW : (rest.map fun v => v.category).sum ≤ W) (hp : pc + 3 = pc') (k : ∀ v T' L, Stand p l e R s m args below meth c T' (locs ++ L) (cells + rm.cells) (slots + rm.slots) → Qf v T'.heap L → Ow p e below s Q kc ks (T'.setTop (mkF m pc' Ls (v.toList ++ rest)))) : Ow p e below s Q kc ks (T.setTop (mkF m pc Ls st)) := by
  subst hp
  obtain ⟨cB, kB, qa, qb, qc⟩ := isOf hZ eT E
  obtain ⟨v, vm₁, ⟨T', L', k', n'⟩, -, X', ⟨L, hq, l1, y1, z1⟩, st'⟩ := X.virtualBack hx (y := y) (z := z) hown (mvT hZ w1) (mvT hZ w2) nf (mvT hZ w5) (mvT hZ w6) hy (backOf (W := W) hM hZ w4 w3 hf hlo) qa qc (g := mkF m pc Ls st) rfl hsz (Steps.refl _) (argsL := argsL) (rest := rest) (lenOf pd hlen) hst (by show 2 * 0 + _ ≤ _; omega) hd (fun _ _ => ⟨has, eT, hc, hs⟩)
  dsimp only [Pt.U, Pt.locs, Pt.cells, Pt.slots] at X' l1 y1 z1 st' hq
  subst l1 y1 z1
  exact Ow.go st' (k v T' L X' hq)
end W
theorem d1_0 : decode prog_34_method_1_code 0 = .ok (.aload_n 0, 1) := by decide +kernel
theorem d1_1 : decode prog_34_method_1_code 1 = .ok (.invokespecial 1, 3) := by decide +kernel
theorem d1_4 : decode prog_34_method_1_code 4 = .ok (.aload_n 0, 1) := by decide +kernel
theorem d1_5 : decode prog_34_method_1_code 5 = .ok (.lload_n 1, 1) := by decide +kernel
theorem d1_6 : decode prog_34_method_1_code 6 = .ok (.putfield 7, 3) := by decide +kernel
theorem d1_9 : decode prog_34_method_1_code 9 = .ok (.return_, 1) := by decide +kernel
theorem ef_1 (m : MethodId) (a0 : Addr) (q1 : Int64) : entryFrame m #[(.ref a0), (.long q1)] 3 = mkF m 0 #[.val (.ref a0), .val (.long q1), .second] [] := by first | (simp [entryFrame, mkF, argsToLocals, Value.category]; done) | rfl
theorem pn_0 : plainName "com/example/vagabond/vagabond/SplitMix64" = true := by first | (simp [plainName, overriddenIn]; done) | decide +kernel
theorem d4_0 : decode prog_34_method_2_code 0 = .ok (.aload_n 0, 1) := by decide +kernel
theorem d4_1 : decode prog_34_method_2_code 1 = .ok (.dup, 1) := by decide +kernel
theorem d4_2 : decode prog_34_method_2_code 2 = .ok (.getfield 7, 3) := by decide +kernel
theorem d4_5 : decode prog_34_method_2_code 5 = .ok (.ldc2_w 13, 3) := by decide +kernel
theorem d4_8 : decode prog_34_method_2_code 8 = .ok (.ladd, 1) := by decide +kernel
theorem d4_9 : decode prog_34_method_2_code 9 = .ok (.putfield 7, 3) := by decide +kernel
theorem d4_12 : decode prog_34_method_2_code 12 = .ok (.aload_n 0, 1) := by decide +kernel
theorem d4_13 : decode prog_34_method_2_code 13 = .ok (.getfield 7, 3) := by decide +kernel
theorem d4_16 : decode prog_34_method_2_code 16 = .ok (.lstore_n 1, 1) := by decide +kernel
theorem d4_17 : decode prog_34_method_2_code 17 = .ok (.lload_n 1, 1) := by decide +kernel
theorem d4_18 : decode prog_34_method_2_code 18 = .ok (.lload_n 1, 1) := by decide +kernel
theorem d4_19 : decode prog_34_method_2_code 19 = .ok (.bipush 30, 2) := by decide +kernel
theorem d4_21 : decode prog_34_method_2_code 21 = .ok (.lushr, 1) := by decide +kernel
theorem d4_22 : decode prog_34_method_2_code 22 = .ok (.lxor, 1) := by decide +kernel
theorem d4_23 : decode prog_34_method_2_code 23 = .ok (.ldc2_w 15, 3) := by decide +kernel
theorem d4_26 : decode prog_34_method_2_code 26 = .ok (.lmul, 1) := by decide +kernel
theorem d4_27 : decode prog_34_method_2_code 27 = .ok (.lstore_n 1, 1) := by decide +kernel
theorem d4_28 : decode prog_34_method_2_code 28 = .ok (.lload_n 1, 1) := by decide +kernel
theorem d4_29 : decode prog_34_method_2_code 29 = .ok (.lload_n 1, 1) := by decide +kernel
theorem d4_30 : decode prog_34_method_2_code 30 = .ok (.bipush 27, 2) := by decide +kernel
theorem d4_32 : decode prog_34_method_2_code 32 = .ok (.lushr, 1) := by decide +kernel
theorem d4_33 : decode prog_34_method_2_code 33 = .ok (.lxor, 1) := by decide +kernel
theorem d4_34 : decode prog_34_method_2_code 34 = .ok (.ldc2_w 17, 3) := by decide +kernel
theorem d4_37 : decode prog_34_method_2_code 37 = .ok (.lmul, 1) := by decide +kernel
theorem d4_38 : decode prog_34_method_2_code 38 = .ok (.lstore_n 1, 1) := by decide +kernel
theorem d4_39 : decode prog_34_method_2_code 39 = .ok (.lload_n 1, 1) := by decide +kernel
theorem d4_40 : decode prog_34_method_2_code 40 = .ok (.lload_n 1, 1) := by decide +kernel
theorem d4_41 : decode prog_34_method_2_code 41 = .ok (.bipush 31, 2) := by decide +kernel
theorem d4_43 : decode prog_34_method_2_code 43 = .ok (.lushr, 1) := by decide +kernel
theorem d4_44 : decode prog_34_method_2_code 44 = .ok (.lxor, 1) := by decide +kernel
theorem d4_45 : decode prog_34_method_2_code 45 = .ok (.lreturn, 1) := by decide +kernel
theorem ef_4 (m : MethodId) (a0 : Addr) : entryFrame m #[(.ref a0)] 3 = mkF m 0 #[.val (.ref a0), .unset, .unset] [] := by first | (simp [entryFrame, mkF, argsToLocals, Value.category]; done) | rfl
theorem d3_0 : decode prog_34_method_4_code 0 = .ok (.aload_n 0, 1) := by decide +kernel
theorem d3_1 : decode prog_34_method_4_code 1 = .ok (.invokevirtual 19, 3) := by decide +kernel
theorem pd_0 : parseMethodDescriptor "()J" = some ⟨[], some .long⟩ := by decide +kernel
theorem d3_4 : decode prog_34_method_4_code 4 = .ok (.bipush 32, 2) := by decide +kernel
theorem d3_6 : decode prog_34_method_4_code 6 = .ok (.lushr, 1) := by decide +kernel
theorem d3_7 : decode prog_34_method_4_code 7 = .ok (.iload_n 1, 1) := by decide +kernel
theorem d3_8 : decode prog_34_method_4_code 8 = .ok (.i2l, 1) := by decide +kernel
theorem d3_9 : decode prog_34_method_4_code 9 = .ok (.lmul, 1) := by decide +kernel
theorem d3_10 : decode prog_34_method_4_code 10 = .ok (.lstore_n 2, 1) := by decide +kernel
theorem d3_11 : decode prog_34_method_4_code 11 = .ok (.lload_n 2, 1) := by decide +kernel
theorem d3_12 : decode prog_34_method_4_code 12 = .ok (.ldc2_w 25, 3) := by decide +kernel
theorem d3_15 : decode prog_34_method_4_code 15 = .ok (.land, 1) := by decide +kernel
theorem d3_16 : decode prog_34_method_4_code 16 = .ok (.lstore 4, 2) := by decide +kernel
theorem d3_18 : decode prog_34_method_4_code 18 = .ok (.lload 4, 2) := by decide +kernel
theorem d3_20 : decode prog_34_method_4_code 20 = .ok (.iload_n 1, 1) := by decide +kernel
theorem d3_21 : decode prog_34_method_4_code 21 = .ok (.i2l, 1) := by decide +kernel
theorem d3_22 : decode prog_34_method_4_code 22 = .ok (.lcmp, 1) := by decide +kernel
theorem d3_23 : decode prog_34_method_4_code 23 = .ok (.ifCond .ge 43, 3) := by decide +kernel
theorem d3_66 : decode prog_34_method_4_code 66 = .ok (.lload_n 2, 1) := by decide +kernel
theorem d3_67 : decode prog_34_method_4_code 67 = .ok (.bipush 32, 2) := by decide +kernel
theorem d3_69 : decode prog_34_method_4_code 69 = .ok (.lushr, 1) := by decide +kernel
theorem d3_70 : decode prog_34_method_4_code 70 = .ok (.l2i, 1) := by decide +kernel
theorem d3_71 : decode prog_34_method_4_code 71 = .ok (.ireturn, 1) := by decide +kernel
theorem d3_26 : decode prog_34_method_4_code 26 = .ok (.ldc2_w 27, 3) := by decide +kernel
theorem d3_29 : decode prog_34_method_4_code 29 = .ok (.iload_n 1, 1) := by decide +kernel
theorem d3_30 : decode prog_34_method_4_code 30 = .ok (.i2l, 1) := by decide +kernel
theorem d3_31 : decode prog_34_method_4_code 31 = .ok (.lsub, 1) := by decide +kernel
theorem d3_32 : decode prog_34_method_4_code 32 = .ok (.iload_n 1, 1) := by decide +kernel
theorem d3_33 : decode prog_34_method_4_code 33 = .ok (.i2l, 1) := by decide +kernel
theorem d3_34 : decode prog_34_method_4_code 34 = .ok (.lrem, 1) := by decide +kernel
theorem d3_35 : decode prog_34_method_4_code 35 = .ok (.lstore 6, 2) := by decide +kernel
theorem d3_37 : decode prog_34_method_4_code 37 = .ok (.lload 4, 2) := by decide +kernel
theorem d3_39 : decode prog_34_method_4_code 39 = .ok (.lload 6, 2) := by decide +kernel
theorem d3_41 : decode prog_34_method_4_code 41 = .ok (.lcmp, 1) := by decide +kernel
theorem d3_42 : decode prog_34_method_4_code 42 = .ok (.ifCond .ge 24, 3) := by decide +kernel
theorem d3_45 : decode prog_34_method_4_code 45 = .ok (.aload_n 0, 1) := by decide +kernel
theorem d3_46 : decode prog_34_method_4_code 46 = .ok (.invokevirtual 19, 3) := by decide +kernel
theorem d3_49 : decode prog_34_method_4_code 49 = .ok (.bipush 32, 2) := by decide +kernel
theorem d3_51 : decode prog_34_method_4_code 51 = .ok (.lushr, 1) := by decide +kernel
theorem d3_52 : decode prog_34_method_4_code 52 = .ok (.iload_n 1, 1) := by decide +kernel
theorem d3_53 : decode prog_34_method_4_code 53 = .ok (.i2l, 1) := by decide +kernel
theorem d3_54 : decode prog_34_method_4_code 54 = .ok (.lmul, 1) := by decide +kernel
theorem d3_55 : decode prog_34_method_4_code 55 = .ok (.lstore_n 2, 1) := by decide +kernel
theorem d3_56 : decode prog_34_method_4_code 56 = .ok (.lload_n 2, 1) := by decide +kernel
theorem d3_57 : decode prog_34_method_4_code 57 = .ok (.ldc2_w 25, 3) := by decide +kernel
theorem d3_60 : decode prog_34_method_4_code 60 = .ok (.land, 1) := by decide +kernel
theorem d3_61 : decode prog_34_method_4_code 61 = .ok (.lstore 4, 2) := by decide +kernel
theorem d3_63 : decode prog_34_method_4_code 63 = .ok (.goto (-26), 3) := by decide +kernel
theorem ef_3 (m : MethodId) (a0 : Addr) (p1 : Int32) : entryFrame m #[(.ref a0), (.int p1)] 8 = mkF m 0 #[.val (.ref a0), .val (.int p1), .unset, .unset, .unset, .unset, .unset, .unset] [] := by first | (simp [entryFrame, mkF, argsToLocals, Value.category]; done) | rfl
def Q1 (Z : State) (a0 : Addr) (q1 : Int64) (h0 : Heap) (n0 : Nat) (v : Option Value) (h : Heap) (L : List Loc) : Prop := v = none ∧ Fr n0 L ∧ Keep h0 h [a0] ∧ Fld Z h a0 "com/example/vagabond/vagabond/SplitMix64" "state" "J" (.long q1)
set_option maxRecDepth 65536 in
set_option maxHeartbeats 40000000 in
theorem rm1 (l : Launch) (Z : State) (aw : Array Value) (hw : ∀ d ∈ tables_1, d.before aw Z = true) (ws : List Jvm.Cond) (a0 : Addr) (q1 : Int64) (h0 : Heap) (n0 : Nat) (F : Fld Z h0 a0 "com/example/vagabond/vagabond/SplitMix64" "state" "J" (.long (0 : Int64))) (E : Exa Z h0 a0 "com/example/vagabond/vagabond/SplitMix64") (g : n0 ≤ a0) :
    MetFree l (⟨"com/example/vagabond/vagabond/SplitMix64", "<init>", "(J)V"⟩ : MethodName) (head1 (Jvm.Cond.code (⟨"com/example/vagabond/vagabond/SplitMix64", "<init>", "(J)V"⟩ : MethodName) prog_34_method_1_code 3 none :: ws) ({ frames := 1, cells := 0, slots := 0, locals := 12 } : Room)) (fun a U => a = #[(.ref a0), (.long q1)] ∧ Z.Warmed39 U.vm ∧ U.heap = h0) (fun _ _ _ _ _ => True) (fun _ U o U' => ∃ v L, o = .returned v ∧ Q1 Z a0 q1 h0 n0 v U'.heap L ∧ FrameEnd U o U' L ({ frames := 1, cells := 0, slots := 0, locals := 12 } : Room).cells ({ frames := 1, cells := 0, slots := 0, locals := 12 } : Room).slots) := by
  refine MetFree.of_bodySF (plainFor_of_name pn_0) hisR ?_
  intro p e s m args below meth c s₁ Bd hml0 hP _hKK
  obtain ⟨rfl, hZ, hh⟩ := hP
  have hx := Bd.exec
  have hby := Bd.bytes
  have hml : c.maxLocals = 3 := hml0
  have hown : s.vm.findClass "com/example/vagabond/vagabond/SplitMix64" = some m.cls := findClass_of_methodNamed Bd.named
  have hnm := (name_of_methodNamed Bd.named Bd.method).1
  have X0 : Stand p l e ({ frames := 1, cells := 0, slots := 0, locals := 12 } : Room) s m #[(.ref a0), (.long q1)] below meth c s₁ [] 0 0 := Stand.of_body Bd
  have e0 : s₁.heap = h0 := by rw [← hh, Bd.state]; rfl
  refine Ow.enter (Q := Q1 Z a0 q1 h0 n0) (ef_1 m a0 q1) ?_
  show Ow p e below s _ _ _ (s₁.setTop (mkF m 0 #[.val (.ref a0), .val (.long q1), .second] []))
  refine w_aloadN X0 hx (Jvm.hb hby d1_0) rfl rfl (pc' := 1) rfl ?_
  refine w_objinit X0 hx hZ hown (hw _ (List.mem_of_getElem? (i := 7) rfl)) (hw _ (List.mem_of_getElem? (i := 8) rfl)) (hw _ (List.mem_of_getElem? (i := 9) rfl)) e0 (Jvm.hb hby d1_1) (by rw [hml]; rfl) (by decide) (W := 0) (Nat.le_of_eq rfl) (by decide) (pc' := 4) rfl ?_
  intro T21 X21 e21
  refine w_aloadN X21 hx (Jvm.hb hby d1_4) rfl rfl (pc' := 5) rfl ?_
  refine w_lloadN X21 hx (Jvm.hb hby d1_5) rfl (pc' := 6) rfl ?_
  refine w_putfield X21 hx hZ hown (host := "") (Or.inl (hw _ (List.mem_of_getElem? (i := 10) rfl))) Via.refl e21 F E (Or.inl (hw _ (List.mem_of_getElem? (i := 11) rfl))) (hw _ (List.mem_of_getElem? (i := 2) rfl)) (ty := .long) (by decide) rfl rfl (Jvm.hb hby d1_6) (pc' := 9) rfl ?_
  intro T22 h22 X22 e22 W22
  have N1 := Fr.snoc X22 (Fr.nil n0) g
  exact w_return X22 hx Bd.returns (BodyLoose.notSynchronized Bd) (Nat.le_of_ble_eq_true rfl) (Nat.le_of_ble_eq_true rfl) (Jvm.hb hby d1_9) ⟨rfl, N1, by rw [e22]; exact Keep.of_wr W22, by rw [e22]; exact F.same W22⟩
def mix_t0 (y : Int64) : Int64 := ((y ^^^ (lsr64 y (30 : Int32))) * (-4658895280553007687 : Int64))
def mix_t1 (y : Int64) : Int64 := (((mix_t0 y) ^^^ (lsr64 (mix_t0 y) (27 : Int32))) * (-7723592293110705685 : Int64))
def mix (y : Int64) : Int64 := ((mix_t1 y) ^^^ (lsr64 (mix_t1 y) (31 : Int32)))
def Q4 (Z : State) (a0 : Addr) (x0 : Int64) (h0 : Heap) (n0 : Nat) (v : Option Value) (h : Heap) (L : List Loc) : Prop := v = some (.long (mix (x0 + (-7046029254386353131 : Int64)))) ∧ Fr n0 L ∧ Keep h0 h [a0] ∧ Fld Z h a0 "com/example/vagabond/vagabond/SplitMix64" "state" "J" (.long (x0 + (-7046029254386353131 : Int64)))
set_option maxRecDepth 65536 in
set_option maxHeartbeats 40000000 in
theorem rm4 (l : Launch) (Z : State) (aw : Array Value) (hw : ∀ d ∈ tables_1, d.before aw Z = true) (ws : List Jvm.Cond) (a0 : Addr) (x0 : Int64) (h0 : Heap) (n0 : Nat) (F : Fld Z h0 a0 "com/example/vagabond/vagabond/SplitMix64" "state" "J" (.long x0)) (E : Exa Z h0 a0 "com/example/vagabond/vagabond/SplitMix64") (g : n0 ≤ a0) :
    MetFree l (⟨"com/example/vagabond/vagabond/SplitMix64", "nextLong", "()J"⟩ : MethodName) (head1 (Jvm.Cond.code (⟨"com/example/vagabond/vagabond/SplitMix64", "nextLong", "()J"⟩ : MethodName) prog_34_method_2_code 3 (some .long) :: ws) ({ frames := 0, cells := 0, slots := 0, locals := 0 } : Room)) (fun a U => a = #[(.ref a0)] ∧ Z.Warmed39 U.vm ∧ U.heap = h0) (fun _ _ _ _ _ => True) (fun _ U o U' => ∃ v L, o = .returned v ∧ Q4 Z a0 x0 h0 n0 v U'.heap L ∧ FrameEnd U o U' L ({ frames := 0, cells := 0, slots := 0, locals := 0 } : Room).cells ({ frames := 0, cells := 0, slots := 0, locals := 0 } : Room).slots) := by
  refine MetFree.of_bodySF (plainFor_of_name pn_0) hisR ?_
  intro p e s m args below meth c s₁ Bd hml0 hP _hKK
  obtain ⟨rfl, hZ, hh⟩ := hP
  have hx := Bd.exec
  have hby := Bd.bytes
  have hml : c.maxLocals = 3 := hml0
  have hown : s.vm.findClass "com/example/vagabond/vagabond/SplitMix64" = some m.cls := findClass_of_methodNamed Bd.named
  have hnm := (name_of_methodNamed Bd.named Bd.method).1
  have X0 : Stand p l e ({ frames := 0, cells := 0, slots := 0, locals := 0 } : Room) s m #[(.ref a0)] below meth c s₁ [] 0 0 := Stand.of_body Bd
  have e0 : s₁.heap = h0 := by rw [← hh, Bd.state]; rfl
  refine Ow.enter (Q := Q4 Z a0 x0 h0 n0) (ef_4 m a0) ?_
  show Ow p e below s _ _ _ (s₁.setTop (mkF m 0 #[.val (.ref a0), .unset, .unset] []))
  refine w_aloadN X0 hx (Jvm.hb hby d4_0) rfl rfl (pc' := 1) rfl ?_
  refine w_dup X0 hx (Jvm.hb hby d4_1) rfl (pc' := 2) rfl ?_
  refine w_getfield X0 hx hZ hown (host := "") (Or.inl (hw _ (List.mem_of_getElem? (i := 10) rfl))) Via.refl e0 F (Jvm.hb hby d4_2) (pc' := 5) rfl ?_
  intro T23 X23 e23
  refine w_ldc2J X23 hx hZ hown (hw _ (List.mem_of_getElem? (i := 22) rfl)) (Jvm.hb hby d4_5) (pc' := 8) rfl ?_
  refine w_ladd X23 hx (Jvm.hb hby d4_8) (pc' := 9) rfl ?_
  refine w_putfield X23 hx hZ hown (host := "") (Or.inl (hw _ (List.mem_of_getElem? (i := 10) rfl))) Via.refl e23 F E (Or.inl (hw _ (List.mem_of_getElem? (i := 11) rfl))) (hw _ (List.mem_of_getElem? (i := 2) rfl)) (ty := .long) (by decide) rfl rfl (Jvm.hb hby d4_9) (pc' := 12) rfl ?_
  intro T24 h24 X24 e24 W24
  have F1 := F.same W24
  refine w_aloadN X24 hx (Jvm.hb hby d4_12) rfl rfl (pc' := 13) rfl ?_
  refine w_getfield X24 hx hZ hown (host := "") (Or.inl (hw _ (List.mem_of_getElem? (i := 10) rfl))) Via.refl e24 F1 (Jvm.hb hby d4_13) (pc' := 16) rfl ?_
  intro T25 X25 e25
  refine w_lstoreN X25 hx (Jvm.hb hby d4_16) #[.val (.ref a0), .val (.long (x0 + (-7046029254386353131 : Int64))), .second] rfl  (pc' := 17) rfl ?_
  refine w_lloadN X25 hx (Jvm.hb hby d4_17) rfl (pc' := 18) rfl ?_
  refine w_lloadN X25 hx (Jvm.hb hby d4_18) rfl (pc' := 19) rfl ?_
  refine w_bipush X25 hx (30 : Int32) (Jvm.hb hby d4_19) (by decide) (pc' := 21) rfl ?_
  refine w_lushr X25 hx (Jvm.hb hby d4_21) (pc' := 22) rfl ?_
  refine w_lxor X25 hx (Jvm.hb hby d4_22) (pc' := 23) rfl ?_
  refine w_ldc2J X25 hx hZ hown (hw _ (List.mem_of_getElem? (i := 23) rfl)) (Jvm.hb hby d4_23) (pc' := 26) rfl ?_
  refine w_lmul X25 hx (Jvm.hb hby d4_26) (pc' := 27) rfl ?_
  refine w_lstoreN X25 hx (Jvm.hb hby d4_27) #[.val (.ref a0), .val (.long (mix_t0 (x0 + (-7046029254386353131 : Int64)))), .second] rfl  (pc' := 28) rfl ?_
  refine w_lloadN X25 hx (Jvm.hb hby d4_28) rfl (pc' := 29) rfl ?_
  refine w_lloadN X25 hx (Jvm.hb hby d4_29) rfl (pc' := 30) rfl ?_
  refine w_bipush X25 hx (27 : Int32) (Jvm.hb hby d4_30) (by decide) (pc' := 32) rfl ?_
  refine w_lushr X25 hx (Jvm.hb hby d4_32) (pc' := 33) rfl ?_
  refine w_lxor X25 hx (Jvm.hb hby d4_33) (pc' := 34) rfl ?_
  refine w_ldc2J X25 hx hZ hown (hw _ (List.mem_of_getElem? (i := 24) rfl)) (Jvm.hb hby d4_34) (pc' := 37) rfl ?_
  refine w_lmul X25 hx (Jvm.hb hby d4_37) (pc' := 38) rfl ?_
  refine w_lstoreN X25 hx (Jvm.hb hby d4_38) #[.val (.ref a0), .val (.long (mix_t1 (x0 + (-7046029254386353131 : Int64)))), .second] rfl  (pc' := 39) rfl ?_
  refine w_lloadN X25 hx (Jvm.hb hby d4_39) rfl (pc' := 40) rfl ?_
  refine w_lloadN X25 hx (Jvm.hb hby d4_40) rfl (pc' := 41) rfl ?_
  refine w_bipush X25 hx (31 : Int32) (Jvm.hb hby d4_41) (by decide) (pc' := 43) rfl ?_
  refine w_lushr X25 hx (Jvm.hb hby d4_43) (pc' := 44) rfl ?_
  refine w_lxor X25 hx (Jvm.hb hby d4_44) (pc' := 45) rfl ?_
  have N1 := Fr.snoc X24 (Fr.nil n0) g
  exact w_lreturn X25 hx Bd.returns (BodyLoose.notSynchronized Bd) (Nat.le_of_ble_eq_true rfl) (Nat.le_of_ble_eq_true rfl) (Jvm.hb hby d4_45) ⟨rfl, N1, by rw [e25]; exact Keep.of_wr W24, by rw [e25]; exact F1⟩
def stN (x : Int64) : Nat → Int64
  | 0 => x
  | k + 1 => stN x k + (-7046029254386353131 : Int64)
def prd (b : Int32) (y : Int64) : Int64 := (lsr64 (mix y) (32 : Int32)) * (b.toInt64)
def lowP (b : Int32) (y : Int64) : Int64 := prd b y &&& (4294967295 : Int64)
def rejP (b : Int32) : Int64 := (((4294967296 : Int64) - (b.toInt64)) - (((4294967296 : Int64) - (b.toInt64)) / (b.toInt64)) * (b.toInt64))
def resP (b : Int32) (y : Int64) : Int32 := ((lsr64 (prd b y) (32 : Int32)).toInt32)
def First (b : Int32) (x : Int64) (K : Nat) : Prop := 1 ≤ K ∧ (∀ j, 1 ≤ j → j < K → lowP b (stN x j) < rejP b) ∧ ¬ lowP b (stN x K) < rejP b
def thrP (b : Int32) : Int64 := ((4294967296 : Int64) - ((4294967296 : Int64) / (b.toInt64)) * (b.toInt64))
theorem own_b64 (b : Int32) : (b.toInt64).toInt = b.toInt := Kit.i64_of_i32 b
theorem own_blt (b : Int32) : b.toInt < 2 ^ 31 := Int32.toInt_lt b
theorem own_k32 : (4294967296 : Int64).toInt = 2 ^ 32 := by decide
theorem own_nz {b : Int32} (hb : 0 < b.toInt) : ¬ (b.toInt64) = 0 := fun q => by
  have h := own_b64 b
  rw [q, show (0 : Int64).toInt = 0 from by decide] at h; omega
theorem own_thr (b : Int32) : (thrP b).toInt = 2 ^ 32 % b.toInt := by
  unfold thrP; rw [Kit.i64_rem_nonneg (by rw [own_k32]; decide), own_k32, own_b64]
theorem own_rej (b : Int32) (hb : 0 < b.toInt) : (rejP b).toInt = 2 ^ 32 % b.toInt := by
  have h1 := own_blt b
  have h2 := own_b64 b
  have hs : ((4294967296 : Int64) - (b.toInt64)).toInt = 2 ^ 32 - b.toInt := by
    rw [Kit.i64_sub (by rw [own_k32, h2]; omega) (by rw [own_k32, h2]; omega), own_k32, h2]
  unfold rejP; rw [Kit.i64_rem_nonneg (by rw [hs]; omega), hs, h2]
  exact Int.sub_emod_right _ _
theorem own_thr_rej (b : Int32) (hb : 0 < b.toInt) : thrP b = rejP b := Int64.toInt_inj.mp (by rw [own_thr, own_rej b hb])
theorem own_rejlt {b : Int32} (hb : 0 < b.toInt) : rejP b < b.toInt64 := by
  rw [Int64.lt_iff_toInt_lt, own_rej b hb, own_b64]; exact Int.emod_lt_of_pos _ hb
theorem own_big {b : Int32} {y : Int64} (hb : 0 < b.toInt) (h : ¬ lowP b y < b.toInt64) : ¬ lowP b y < rejP b := fun q => h (Int64.lt_trans q (own_rejlt hb))
theorem own_first1 {b : Int32} {x : Int64} {K : Nat} (hK : First b x K) (h : ¬ lowP b (stN x 1) < rejP b) : K = 1 := by
  obtain ⟨h1, h2, h3⟩ := hK
  rcases Nat.lt_or_ge 1 K with q | q
  · exact absurd (h2 1 (Nat.le_refl _) q) h
  · omega
theorem own_sh (x : Int64) (k : Int32) (n : Nat) (hk : ((k &&& 0x3f).toInt64.toUInt64.toBitVec % 64#64).toNat = n) : (lsr64 x k).toBitVec = x.toBitVec >>> n := by
  subst hk; rfl
theorem own_lsr (x : Int64) : (lsr64 x 32).toInt = ((x.toBitVec.toNat / 2 ^ 32 : Nat) : Int) := by
  show (lsr64 x 32).toBitVec.toInt = _
  rw [own_sh x 32 32 (by decide), BitVec.toInt_eq_toNat_cond, BitVec.toNat_ushiftRight, Nat.shiftRight_eq_div_pow]
  have := x.toBitVec.isLt
  rw [if_pos (by omega)]
theorem own_prd (b : Int32) (y : Int64) (hb : 0 < b.toInt) : ∃ u : Nat, u < 2 ^ 32 ∧ (prd b y).toInt = (u : Int) * b.toInt := by
  have h1 := own_blt b
  have hl := own_lsr (mix y)
  have hu : (mix y).toBitVec.toNat / 2 ^ 32 < 2 ^ 32 := by have := (mix y).toBitVec.isLt; omega
  refine ⟨(mix y).toBitVec.toNat / 2 ^ 32, hu, ?_⟩
  generalize (mix y).toBitVec.toNat / 2 ^ 32 = u at hl hu
  have hm : (u : Int) * b.toInt ≤ (2 ^ 32 - 1) * (2 ^ 31 - 1) := Int.mul_le_mul (by omega) (by omega) (by omega) (by decide)
  have hm0 : 0 ≤ (u : Int) * b.toInt := Int.mul_nonneg (by omega) (by omega)
  unfold prd
  rw [Kit.i64_mul (by rw [hl, own_b64]; omega) (by rw [hl, own_b64]; omega), hl, own_b64]
theorem own_res (b : Int32) (y : Int64) (hb : 0 < b.toInt) : 0 ≤ (resP b y).toInt ∧ (resP b y).toInt < b.toInt := by
  obtain ⟨u, hu, hp⟩ := own_prd b y hb
  have h1 := own_blt b
  have hm0 : 0 ≤ (u : Int) * b.toInt := Int.mul_nonneg (by omega) (by omega)
  have hm : (u : Int) * b.toInt < 2 ^ 32 * b.toInt := Int.mul_lt_mul_of_pos_right (by omega) hb
  have hn : ((prd b y).toBitVec.toNat : Int) = (prd b y).toInt := by
    have e : (prd b y).toInt = (prd b y).toBitVec.toInt := rfl
    rw [BitVec.toInt_eq_toNat_cond] at e
    have := (prd b y).toBitVec.isLt
    split at e <;> omega
  have hl := own_lsr (prd b y)
  have hd : (lsr64 (prd b y) 32).toInt = (u : Int) * b.toInt / 2 ^ 32 := by rw [hl, Int.natCast_ediv, hn, hp]; rfl
  have hd1 : (u : Int) * b.toInt / 2 ^ 32 < b.toInt := Int.ediv_lt_of_lt_mul (by decide) (by rw [Int.mul_comm b.toInt]; exact hm)
  have hd0 : 0 ≤ (u : Int) * b.toInt / 2 ^ 32 := Int.ediv_nonneg hm0 (by decide)
  unfold resP
  rw [Kit.i32_of_i64 (by rw [hd]; omega) (by rw [hd]; omega), hd]
  exact ⟨hd0, hd1⟩
theorem own_res0 (b : Int32) (y : Int64) (hb : 0 < b.toInt) : ¬ (resP b y) < (0 : Int32) := by
  rw [Int32.lt_iff_toInt_lt, show (0 : Int32).toInt = 0 from by decide]; have := (own_res b y hb).1; omega
theorem own_res1 (b : Int32) (y : Int64) (hb : 0 < b.toInt) : (resP b y) < b := by
  rw [Int32.lt_iff_toInt_lt]; exact (own_res b y hb).2
theorem own_acc1 {b : Int32} {x : Int64} {K : Nat} (hK : First b x K) (hb : 0 < b.toInt) (q1 : ¬ (prd b (stN x 1) &&& (4294967295 : Int64)) < thrP b) : K = 1 := by
  rw [own_thr_rej b hb] at q1; exact own_first1 hK q1
theorem own_acc2 {b : Int32} {x : Int64} {K : Nat} (hK : First b x K) (hb : 0 < b.toInt) (q1 : (prd b (stN x 1) &&& (4294967295 : Int64)) < thrP b) (q2 : ¬ (prd b (stN x 2) &&& (4294967295 : Int64)) < thrP b) : K = 2 := by
  rw [own_thr_rej b hb] at q1 q2
  obtain ⟨h1, h2, h3⟩ := hK
  have n1 : K ≠ 1 := fun z => by subst z; exact h3 q1
  rcases Nat.lt_or_ge 2 K with q | q
  · exact absurd (h2 2 (by decide) q) q2
  · omega
theorem own_acc3 {b : Int32} {x : Int64} {K : Nat} (hK : First b x K) (hb : 0 < b.toInt) (q1 : (prd b (stN x 1) &&& (4294967295 : Int64)) < thrP b) (q2 : (prd b (stN x 2) &&& (4294967295 : Int64)) < thrP b) (q3 : ¬ (prd b (stN x 3) &&& (4294967295 : Int64)) < thrP b) : K = 3 := by
  rw [own_thr_rej b hb] at q1 q2 q3
  obtain ⟨h1, h2, h3⟩ := hK
  have n1 : K ≠ 1 := fun z => by subst z; exact h3 q1
  have n2 : K ≠ 2 := fun z => by subst z; exact h3 q2
  rcases Nat.lt_or_ge 3 K with q | q
  · exact absurd (h2 3 (by decide) q) q3
  · omega
theorem own_bd (p1 bd : Int32) (h : bd = (if (p1 &&& (2147483647 : Int32)) = (0 : Int32) then (1 : Int32) else (p1 &&& (2147483647 : Int32)))) : 0 < bd.toInt := by
  have hm : (p1 &&& (2147483647 : Int32)).toInt = p1.toInt % 2 ^ 31 := Kit.i32_mask p1 2147483647 (k := 31) (by decide) (by decide)
  by_cases q : (p1 &&& (2147483647 : Int32)) = (0 : Int32)
  · rw [h, if_pos q]; decide
  · rw [h, if_neg q]
    have : (p1 &&& (2147483647 : Int32)).toInt ≠ 0 := fun z => q (Int32.toInt_inj.mp (by rw [z]; decide))
    omega
theorem own_stN (x : Int64) : ∀ k : Nat, stN x k = x + Int64.ofNat k * (-7046029254386353131 : Int64)
  | 0 => by show x = x + Int64.ofNat 0 * _; rw [show Int64.ofNat 0 = 0 from rfl, Int64.zero_mul, Int64.add_zero]
  | k + 1 => by
    show stN x k + _ = _
    rw [own_stN x k, Int64.ofNat_add, show Int64.ofNat 1 = 1 from rfl, Int64.add_mul, Int64.one_mul, Int64.add_assoc]
theorem own_least {P : Nat → Prop} [DecidablePred P] : ∀ n, P n → ∃ m, P m ∧ ∀ j, j < m → ¬ P j := by
  intro n
  induction n using Nat.strongRecOn with
  | ind n ih =>
    intro h
    by_cases q : ∃ j, j < n ∧ P j
    · obtain ⟨j, h1, h2⟩ := q; exact ih j h1 h2
    · exact ⟨n, h, fun j h1 h2 => q ⟨j, h1, h2⟩⟩
theorem own_hit (b : Int32) (hb : 0 < b.toInt) : ¬ lowP b (-6857235525900058748 : Int64) < rejP b := by
  have hp : prd b (-6857235525900058748 : Int64) = b.toInt64 := by
    unfold prd; rw [show lsr64 (mix (-6857235525900058748 : Int64)) (32 : Int32) = 1 from by decide +kernel, Int64.one_mul]
  have hl : lowP b (-6857235525900058748 : Int64) = b.toInt64 := by
    apply Int64.toInt_inj.mp
    unfold lowP; rw [hp, Kit.i64_mask b.toInt64 4294967295 (k := 32) (by decide) (by decide), own_b64]
    have := own_blt b; omega
  rw [hl]; intro q; exact absurd (Int64.lt_trans q (own_rejlt hb)) (Int64.lt_irrefl)
theorem own_exists (b : Int32) (hb : 0 < b.toInt) (x : Int64) : ∃ K, First b x K := by
  have hC : ∃ k : Nat, 1 ≤ k ∧ stN x k = (-6857235525900058748 : Int64) := by
    refine ⟨(((-6857235525900058748 : Int64) - x) * (-1018231460777725123 : Int64)).toBitVec.toNat + 2 ^ 64, by omega, ?_⟩
    have e : Int64.ofNat ((((-6857235525900058748 : Int64) - x) * (-1018231460777725123 : Int64)).toBitVec.toNat + 2 ^ 64) = ((-6857235525900058748 : Int64) - x) * (-1018231460777725123 : Int64) := by
      apply Int64.toBitVec_inj.mp
      show BitVec.ofNat 64 _ = _
      apply BitVec.eq_of_toNat_eq
      rw [BitVec.toNat_ofNat]
      have := (((-6857235525900058748 : Int64) - x) * (-1018231460777725123 : Int64)).toBitVec.isLt
      omega
    rw [own_stN, e, Int64.mul_assoc, show (-1018231460777725123 : Int64) * (-7046029254386353131 : Int64) = 1 from by decide, Int64.mul_one, Int64.add_comm, Int64.sub_add_cancel]
  obtain ⟨k, hk1, hk⟩ := hC
  obtain ⟨K, ⟨h1, h2⟩, h3⟩ := own_least (P := fun n => 1 ≤ n ∧ ¬ lowP b (stN x n) < rejP b) k ⟨hk1, by rw [hk]; exact own_hit b hb⟩
  exact ⟨K, h1, fun j j1 j2 => Decidable.not_not.mp fun q => h3 j j2 ⟨j1, q⟩, h2⟩

def Q3 (Z : State) (a0 : Addr) (p1 : Int32) (x0 : Int64) (K : Nat) (h0 : Heap) (n0 : Nat) (v : Option Value) (h : Heap) (L : List Loc) : Prop := v = some (.int (resP p1 (stN x0 K))) ∧ Fr n0 L ∧ Keep h0 h [a0] ∧ Fld Z h a0 "com/example/vagabond/vagabond/SplitMix64" "state" "J" (.long (stN x0 K))
set_option maxRecDepth 65536 in
set_option maxHeartbeats 40000000 in
theorem rm3 (l : Launch) (Z : State) (aw : Array Value) (hw : ∀ d ∈ tables_1, d.before aw Z = true) (ws : List Jvm.Cond) (a0 : Addr) (p1 : Int32) (x0 : Int64) (K : Nat) (h0 : Heap) (n0 : Nat) (F : Fld Z h0 a0 "com/example/vagabond/vagabond/SplitMix64" "state" "J" (.long x0)) (E : Exa Z h0 a0 "com/example/vagabond/vagabond/SplitMix64") (g : n0 ≤ a0) (hb : 0 < p1.toInt) (hK : First p1 x0 K) :
    MetFree l (⟨"com/example/vagabond/vagabond/SplitMix64", "nextInt", "(I)I"⟩ : MethodName) (head1 (Jvm.Cond.code (⟨"com/example/vagabond/vagabond/SplitMix64", "nextInt", "(I)I"⟩ : MethodName) prog_34_method_4_code 8 (some .int) :: ws) ({ frames := 1, cells := 0, slots := 0, locals := 15 } : Room)) (fun a U => a = #[(.ref a0), (.int p1)] ∧ Z.Warmed39 U.vm ∧ U.heap = h0) (fun _ _ _ _ _ => True) (fun _ U o U' => ∃ v L, o = .returned v ∧ Q3 Z a0 p1 x0 K h0 n0 v U'.heap L ∧ FrameEnd U o U' L ({ frames := 1, cells := 0, slots := 0, locals := 15 } : Room).cells ({ frames := 1, cells := 0, slots := 0, locals := 15 } : Room).slots) := by
  refine MetFree.of_bodySF (plainFor_of_name pn_0) hisR ?_
  intro p e s m args below meth c s₁ Bd hml0 hP _hKK
  obtain ⟨rfl, hZ, hh⟩ := hP
  have hx := Bd.exec
  have hby := Bd.bytes
  have hml : c.maxLocals = 8 := hml0
  have hown : s.vm.findClass "com/example/vagabond/vagabond/SplitMix64" = some m.cls := findClass_of_methodNamed Bd.named
  have hnm := (name_of_methodNamed Bd.named Bd.method).1
  have X0 : Stand p l e ({ frames := 1, cells := 0, slots := 0, locals := 15 } : Room) s m #[(.ref a0), (.int p1)] below meth c s₁ [] 0 0 := Stand.of_body Bd
  have e0 : s₁.heap = h0 := by rw [← hh, Bd.state]; rfl
  refine Ow.enter (Q := Q3 Z a0 p1 x0 K h0 n0) (ef_3 m a0 p1) ?_
  show Ow p e below s _ _ _ (s₁.setTop (mkF m 0 #[.val (.ref a0), .val (.int p1), .unset, .unset, .unset, .unset, .unset, .unset] []))
  refine w_aloadN X0 hx (Jvm.hb hby d3_0) rfl rfl (pc' := 1) rfl ?_
  refine w_callV X0 hx hZ hown (hw _ (List.mem_of_getElem? (i := 17) rfl)) (hw _ (List.mem_of_getElem? (i := 18) rfl)) (notFace_of_selects (args := #[]) (mvT hZ (hw _ (List.mem_of_getElem? (i := 20) rfl)))) (hw _ (List.mem_of_getElem? (i := 20) rfl)) (hw _ (List.mem_of_getElem? (i := 19) rfl)) (hw _ (List.mem_of_getElem? (i := 3) rfl)) (hw _ (List.mem_of_getElem? (i := 21) rfl)) (by decide) (W := 0) (rm4 l Z aw hw [] a0 x0 h0 n0 F E g) e0 (by decide) (by decide) (by decide) (by decide) E (Jvm.hb hby d3_1) (by rw [hml]; rfl) (argsL := []) (rest := []) pd_0 rfl rfl rfl (Nat.le_of_eq rfl) (pc' := 4) rfl ?_
  rintro _ T26 L26 X26 ⟨rfl, N26, K26, F26⟩
  show Ow p e below s _ _ _ (T26.setTop (mkF m 4 #[.val (.ref a0), .val (.int p1), .unset, .unset, .unset, .unset, .unset, .unset] [(.long (mix (stN x0 1)))]))
  refine w_bipush X26 hx (32 : Int32) (Jvm.hb hby d3_4) (by decide) (pc' := 6) rfl ?_
  refine w_lushr X26 hx (Jvm.hb hby d3_6) (pc' := 7) rfl ?_
  refine w_iloadN X26 hx (Jvm.hb hby d3_7) rfl (pc' := 8) rfl ?_
  refine w_i2l X26 hx (Jvm.hb hby d3_8) (pc' := 9) rfl ?_
  refine w_lmul X26 hx (Jvm.hb hby d3_9) (pc' := 10) rfl ?_
  refine w_lstoreN X26 hx (Jvm.hb hby d3_10) #[.val (.ref a0), .val (.int p1), .val (.long (prd p1 (stN x0 1))), .second, .unset, .unset, .unset, .unset] rfl  (pc' := 11) rfl ?_
  refine w_lloadN X26 hx (Jvm.hb hby d3_11) rfl (pc' := 12) rfl ?_
  refine w_ldc2J X26 hx hZ hown (hw _ (List.mem_of_getElem? (i := 25) rfl)) (Jvm.hb hby d3_12) (pc' := 15) rfl ?_
  refine w_land X26 hx (Jvm.hb hby d3_15) (pc' := 16) rfl ?_
  refine w_lstore X26 hx (Jvm.hb hby d3_16) #[.val (.ref a0), .val (.int p1), .val (.long (prd p1 (stN x0 1))), .second, .val (.long (lowP p1 (stN x0 1))), .second, .unset, .unset] rfl  (pc' := 18) rfl ?_
  refine w_lload X26 hx (Jvm.hb hby d3_18) rfl (pc' := 20) rfl ?_
  refine w_iloadN X26 hx (Jvm.hb hby d3_20) rfl (pc' := 21) rfl ?_
  refine w_i2l X26 hx (Jvm.hb hby d3_21) (pc' := 22) rfl ?_
  refine w_lcmp_ge X26 hx (Jvm.hb hby d3_22) (Jvm.hb hby d3_23) rfl (by decide) (pcT := 66) (by decide) (pcF := 26) rfl (fun h1 => ?_) (fun h1 => ?_)
  · have hK1 : K = 1 := own_first1 hK (own_big hb h1)
    subst hK1
    refine w_lloadN X26 hx (Jvm.hb hby d3_66) rfl (pc' := 67) rfl ?_
    refine w_bipush X26 hx (32 : Int32) (Jvm.hb hby d3_67) (by decide) (pc' := 69) rfl ?_
    refine w_lushr X26 hx (Jvm.hb hby d3_69) (pc' := 70) rfl ?_
    refine w_l2i X26 hx (Jvm.hb hby d3_70) (pc' := 71) rfl ?_
    exact w_ireturn X26 hx Bd.returns (BodyLoose.notSynchronized Bd) (Nat.le_of_ble_eq_true rfl) (Nat.le_of_ble_eq_true rfl) (Jvm.hb hby d3_71) ⟨rfl, by simpa using N26, K26, F26⟩
  · refine w_ldc2J X26 hx hZ hown (hw _ (List.mem_of_getElem? (i := 29) rfl)) (Jvm.hb hby d3_26) (pc' := 29) rfl ?_
    refine w_iloadN X26 hx (Jvm.hb hby d3_29) rfl (pc' := 30) rfl ?_
    refine w_i2l X26 hx (Jvm.hb hby d3_30) (pc' := 31) rfl ?_
    refine w_lsub X26 hx (Jvm.hb hby d3_31) (pc' := 32) rfl ?_
    refine w_iloadN X26 hx (Jvm.hb hby d3_32) rfl (pc' := 33) rfl ?_
    refine w_i2l X26 hx (Jvm.hb hby d3_33) (pc' := 34) rfl ?_
    refine w_lrem X26 hx (Jvm.hb hby d3_34) (own_nz hb) (pc' := 35) rfl ?_
    refine w_lstore X26 hx (Jvm.hb hby d3_35) #[.val (.ref a0), .val (.int p1), .val (.long (prd p1 (stN x0 1))), .second, .val (.long (lowP p1 (stN x0 1))), .second, .val (.long (rejP p1)), .second] rfl  (pc' := 37) rfl ?_
    have loop : ∀ (k j : Nat) (T : State) (L : List Loc), j + k = K → 1 ≤ j → Stand p l e ({ frames := 1, cells := 0, slots := 0, locals := 15 } : Room) s m #[(.ref a0), (.int p1)] below meth c T L 0 0 → Fr n0 L → Keep h0 T.heap [a0] → Fld Z T.heap a0 "com/example/vagabond/vagabond/SplitMix64" "state" "J" (.long (stN x0 j)) → Ow p e below s (Q3 Z a0 p1 x0 K h0 n0) 0 0 (T.setTop (mkF m 37 #[.val (.ref a0), .val (.int p1), .val (.long (prd p1 (stN x0 j))), .second, .val (.long (lowP p1 (stN x0 j))), .second, .val (.long (rejP p1)), .second] [])) := by
      intro k
      induction k with
      | zero =>
        intro j T L hj hj1 X N KK FF
        have hjK : j = K := by omega
        subst hjK
        refine w_lload X hx (Jvm.hb hby d3_37) rfl (pc' := 39) rfl ?_
        refine w_lload X hx (Jvm.hb hby d3_39) rfl (pc' := 41) rfl ?_
        refine w_lcmp_ge X hx (Jvm.hb hby d3_41) (Jvm.hb hby d3_42) rfl (by decide) (pcT := 66) (by decide) (pcF := 45) rfl (fun _ => ?_) (fun q => absurd q hK.2.2)
        refine w_lloadN X hx (Jvm.hb hby d3_66) rfl (pc' := 67) rfl ?_
        refine w_bipush X hx (32 : Int32) (Jvm.hb hby d3_67) (by decide) (pc' := 69) rfl ?_
        refine w_lushr X hx (Jvm.hb hby d3_69) (pc' := 70) rfl ?_
        refine w_l2i X hx (Jvm.hb hby d3_70) (pc' := 71) rfl ?_
        exact w_ireturn X hx Bd.returns (BodyLoose.notSynchronized Bd) (Nat.le_of_ble_eq_true rfl) (Nat.le_of_ble_eq_true rfl) (Jvm.hb hby d3_71) ⟨rfl, N, KK, FF⟩
      | succ k ih =>
        intro j T L hj hj1 X N KK FF
        refine w_lload X hx (Jvm.hb hby d3_37) rfl (pc' := 39) rfl ?_
        refine w_lload X hx (Jvm.hb hby d3_39) rfl (pc' := 41) rfl ?_
        refine w_lcmp_ge X hx (Jvm.hb hby d3_41) (Jvm.hb hby d3_42) rfl (by decide) (pcT := 66) (by decide) (pcF := 45) rfl (fun q => absurd (hK.2.1 j hj1 (by omega)) q) (fun _ => ?_)
        refine w_aloadN X hx (Jvm.hb hby d3_45) rfl rfl (pc' := 46) rfl ?_
        refine w_callV X hx hZ hown (hw _ (List.mem_of_getElem? (i := 17) rfl)) (hw _ (List.mem_of_getElem? (i := 18) rfl)) (notFace_of_selects (args := #[]) (mvT hZ (hw _ (List.mem_of_getElem? (i := 20) rfl)))) (hw _ (List.mem_of_getElem? (i := 20) rfl)) (hw _ (List.mem_of_getElem? (i := 19) rfl)) (hw _ (List.mem_of_getElem? (i := 3) rfl)) (hw _ (List.mem_of_getElem? (i := 21) rfl)) (by decide) (W := 0) (rm4 l Z aw hw [] a0 (stN x0 j) T.heap n0 FF (E.keep KK) g) rfl (by decide) (by decide) (by decide) (by decide) (E.keep KK) (Jvm.hb hby d3_46) (by rw [hml]; rfl) (argsL := []) (rest := []) pd_0 rfl rfl rfl (Nat.le_of_eq rfl) (pc' := 49) rfl ?_
        rintro _ T27 L27 X27 ⟨rfl, N27, K27, F27⟩
        show Ow p e below s _ _ _ (T27.setTop (mkF m 49 #[.val (.ref a0), .val (.int p1), .val (.long (prd p1 (stN x0 j))), .second, .val (.long (lowP p1 (stN x0 j))), .second, .val (.long (rejP p1)), .second] [(.long (mix (stN x0 (j + 1))))]))
        refine w_bipush X27 hx (32 : Int32) (Jvm.hb hby d3_49) (by decide) (pc' := 51) rfl ?_
        refine w_lushr X27 hx (Jvm.hb hby d3_51) (pc' := 52) rfl ?_
        refine w_iloadN X27 hx (Jvm.hb hby d3_52) rfl (pc' := 53) rfl ?_
        refine w_i2l X27 hx (Jvm.hb hby d3_53) (pc' := 54) rfl ?_
        refine w_lmul X27 hx (Jvm.hb hby d3_54) (pc' := 55) rfl ?_
        refine w_lstoreN X27 hx (Jvm.hb hby d3_55) #[.val (.ref a0), .val (.int p1), .val (.long (prd p1 (stN x0 (j + 1)))), .second, .val (.long (lowP p1 (stN x0 j))), .second, .val (.long (rejP p1)), .second] rfl  (pc' := 56) rfl ?_
        refine w_lloadN X27 hx (Jvm.hb hby d3_56) rfl (pc' := 57) rfl ?_
        refine w_ldc2J X27 hx hZ hown (hw _ (List.mem_of_getElem? (i := 25) rfl)) (Jvm.hb hby d3_57) (pc' := 60) rfl ?_
        refine w_land X27 hx (Jvm.hb hby d3_60) (pc' := 61) rfl ?_
        refine w_lstore X27 hx (Jvm.hb hby d3_61) #[.val (.ref a0), .val (.int p1), .val (.long (prd p1 (stN x0 (j + 1)))), .second, .val (.long (lowP p1 (stN x0 (j + 1)))), .second, .val (.long (rejP p1)), .second] rfl  (pc' := 63) rfl ?_
        refine w_goto X27 hx (Jvm.hb hby d3_63) (by decide) (pc' := 37) (by decide) ?_
        exact ih (j + 1) T27 _ (by omega) (by omega) X27 (Fr.app N N27) (KK.trans K27 (fun x hx => Or.inl hx)) F27
    exact loop (K - 1) 1 T26 _ (by have := hK.1; omega) (Nat.le_refl _) X26 (by simpa using N26) K26 F26
theorem pd_1 : parseMethodDescriptor "(J)V" = some ⟨[.long], none⟩ := by decide +kernel
theorem pd_2 : parseMethodDescriptor "(I)I" = some ⟨[.int], some .int⟩ := by decide +kernel
theorem ef_0 (m : MethodId) (q0 : Int64) (p1 : Int32) : entryFrame m #[(.long q0), (.int p1)] maxLocals = mkF m 0 #[.val (.long q0), .second, .val (.int p1), .unset, .unset, .unset, .unset, .unset, .unset, .unset, .unset, .unset, .unset, .unset, .unset] [] := by first | (simp [entryFrame, mkF, argsToLocals, Value.category, maxLocals]; done) | rfl
theorem pn_1 : plainName "com/example/vagabond/vagabond/SplitMix64NextIntPinLaw" = true := by first | (simp [plainName, overriddenIn]; done) | decide +kernel
def Q0 (n0 : Nat) (v : Option Value) (h : Heap) (L : List Loc) : Prop := v = some (.int 1) ∧ Fr n0 L
set_option maxRecDepth 65536 in
set_option maxHeartbeats 40000000 in
theorem rm0 (l : Launch) (Z : State) (aw : Array Value) (hw : ∀ d ∈ tables_1, d.before aw Z = true) (ws : List Jvm.Cond) (q0 : Int64) (p1 : Int32) (h0 : Heap) (n0 : Nat) (Z0 : n0 ≤ h0.size) :
    MetFree l x (head1 (Jvm.Cond.code x code maxLocals ret :: ws) room_1) (fun a U => a = #[(.long q0), (.int p1)] ∧ Z.Warmed39 U.vm ∧ U.heap = h0) (fun _ _ _ _ _ => True) (fun _ U o U' => ∃ v L, o = .returned v ∧ Q0 n0 v U'.heap L ∧ FrameEnd U o U' L 16 128) := by
  refine MetFree.of_bodySF (plainFor_of_name pn_1) hisR ?_
  intro p e s m args below meth c s₁ Bd hml0 hP _hKK
  obtain ⟨rfl, hZ, hh⟩ := hP
  have hx := Bd.exec
  have hby := Bd.bytes
  have hml : c.maxLocals = 15 := hml0
  have hown : s.vm.findClass "com/example/vagabond/vagabond/SplitMix64NextIntPinLaw" = some m.cls := findClass_of_methodNamed Bd.named
  have hnm := (name_of_methodNamed Bd.named Bd.method).1
  have X0 : Stand p l e room_1 s m #[(.long q0), (.int p1)] below meth c s₁ [] 0 0 := Stand.of_body Bd
  have e0 : s₁.heap = h0 := by rw [← hh, Bd.state]; rfl
  refine Ow.enter (Q := Q0 n0) (ef_0 m q0 p1) ?_
  show Ow p e below s _ _ _ (s₁.setTop (mkF m 0 #[.val (.long q0), .second, .val (.int p1), .unset, .unset, .unset, .unset, .unset, .unset, .unset, .unset, .unset, .unset, .unset, .unset] []))
  refine w_iloadN X0 hx (Jvm.hb hby at_0) rfl (pc' := 1) rfl ?_
  refine w_ldcI X0 hx hZ hown (hw _ (List.mem_of_getElem? (i := 0) rfl)) (Jvm.hb hby at_1) (pc' := 3) rfl ?_
  refine w_iand X0 hx (Jvm.hb hby at_3) (pc' := 4) rfl ?_
  refine w_istoreN X0 hx (Jvm.hb hby at_4) #[.val (.long q0), .second, .val (.int p1), .val (.int (p1 &&& (2147483647 : Int32))), .unset, .unset, .unset, .unset, .unset, .unset, .unset, .unset, .unset, .unset, .unset] rfl  (pc' := 5) rfl ?_
  obtain ⟨bd, hbd⟩ : ∃ v : Int32, v = (if (p1 &&& (2147483647 : Int32)) = (0 : Int32) then (1 : Int32) else (p1 &&& (2147483647 : Int32))) := ⟨_, rfl⟩
  refine Ow.join s₁ (mkF m 11 #[.val (.long q0), .second, .val (.int p1), .val (.int bd), .unset, .unset, .unset, .unset, .unset, .unset, .unset, .unset, .unset, .unset, .unset] []) (fun K => ?_) ?_
  · refine w_iloadN X0 hx (Jvm.hb hby at_5) rfl (pc' := 6) rfl ?_
    refine w_if_ne X0 hx (Jvm.hb hby at_6) (by decide) (pcT := 11) (by decide) (pcF := 9) rfl (fun hj6_0 => ?_) (fun hj6_0 => ?_)
    · rw [hbd, if_neg hj6_0] at K; exact K
    · refine w_iconst X0 hx (1 : Int32) (Jvm.hb hby at_9) (by decide) (pc' := 10) rfl ?_
      refine w_istoreN X0 hx (Jvm.hb hby at_10) #[.val (.long q0), .second, .val (.int p1), .val (.int (1 : Int32)), .unset, .unset, .unset, .unset, .unset, .unset, .unset, .unset, .unset, .unset, .unset] rfl  (pc' := 11) rfl ?_
      rw [hbd, if_pos hj6_0] at K; exact K
  have hb : 0 < bd.toInt := own_bd p1 bd hbd
  refine w_new X0 hx hZ hown (hw _ (List.mem_of_getElem? (i := 1) rfl)) (hw _ (List.mem_of_getElem? (i := 2) rfl)) (hw _ (List.mem_of_getElem? (i := 3) rfl)) e0 (Jvm.hb hby at_11) (by decide) (by decide) (pc' := 14) rfl ?_
  intro T28 h28 a28 g28 X28 e28 E28 A28 D28
  have F28 : Fld Z h28 a28 "com/example/vagabond/vagabond/SplitMix64" "state" "J" (.long (0 : Int64)) := D28 (Or.inl (hw _ (List.mem_of_getElem? (i := 11) rfl))) (ty := .long) (by decide)
  have G28 : n0 ≤ a28 := Nat.le_trans Z0 (Nat.le_of_eq g28.symm)
  have S28 : n0 ≤ h28.size := Nat.le_trans Z0 E28.1
  refine w_dup X28 hx (Jvm.hb hby at_14) rfl (pc' := 15) rfl ?_
  refine w_lloadN X28 hx (Jvm.hb hby at_15) rfl (pc' := 16) rfl ?_
  refine w_callN X28 hx hZ rfl hown (hw _ (List.mem_of_getElem? (i := 4) rfl)) (hw _ (List.mem_of_getElem? (i := 5) rfl)) (hw _ (List.mem_of_getElem? (i := 3) rfl)) (hw _ (List.mem_of_getElem? (i := 6) rfl)) (by decide) (W := 1) (rm1 l Z aw hw [] a28 q0 h28 n0 F28 A28 G28) e28 (by decide) (by decide) (by decide) (by decide) (Jvm.hb hby at_16) (by rw [hml]; rfl) (a := a28) (argsL := [(.long q0)]) (rest := [(.ref a28)]) pd_1 rfl rfl rfl (Nat.le_of_eq rfl) (pc' := 19) rfl ?_
  rintro _ T29 L29 X29 ⟨rfl, N29, K29, B29⟩
  show Ow p e below s _ _ _ (T29.setTop (mkF m 19 #[.val (.long q0), .second, .val (.int p1), .val (.int bd), .unset, .unset, .unset, .unset, .unset, .unset, .unset, .unset, .unset, .unset, .unset] [(.ref a28)]))
  have M29 := Fr.app (Fr.nil n0) N29
  have S29 : n0 ≤ T29.heap.size := Nat.le_trans S28 K29.1
  have E29 := A28.keep K29
  refine w_astore X29 hx (Jvm.hb hby at_19) #[.val (.long q0), .second, .val (.int p1), .val (.int bd), .val (.ref a28), .unset, .unset, .unset, .unset, .unset, .unset, .unset, .unset, .unset, .unset] rfl rfl (pc' := 21) rfl ?_
  refine w_new X29 hx hZ hown (hw _ (List.mem_of_getElem? (i := 1) rfl)) (hw _ (List.mem_of_getElem? (i := 2) rfl)) (hw _ (List.mem_of_getElem? (i := 3) rfl)) rfl (Jvm.hb hby at_21) (by decide) (by decide) (pc' := 24) rfl ?_
  intro T30 h30 a30 g30 X30 e30 E30 A30 D30
  have F30 : Fld Z h30 a30 "com/example/vagabond/vagabond/SplitMix64" "state" "J" (.long (0 : Int64)) := D30 (Or.inl (hw _ (List.mem_of_getElem? (i := 11) rfl))) (ty := .long) (by decide)
  have G30 : n0 ≤ a30 := Nat.le_trans S29 (Nat.le_of_eq g30.symm)
  have S30 : n0 ≤ h30.size := Nat.le_trans S29 E30.1
  have ne : a28 ≠ a30 := by rw [g30]; exact Nat.ne_of_lt B29.lt
  have P30 := B29.ext E30
  have PE30 := E29.ext E30
  refine w_dup X30 hx (Jvm.hb hby at_24) rfl (pc' := 25) rfl ?_
  refine w_lloadN X30 hx (Jvm.hb hby at_25) rfl (pc' := 26) rfl ?_
  refine w_callN X30 hx hZ rfl hown (hw _ (List.mem_of_getElem? (i := 4) rfl)) (hw _ (List.mem_of_getElem? (i := 5) rfl)) (hw _ (List.mem_of_getElem? (i := 3) rfl)) (hw _ (List.mem_of_getElem? (i := 6) rfl)) (by decide) (W := 1) (rm1 l Z aw hw [] a30 q0 h30 n0 F30 A30 G30) e30 (by decide) (by decide) (by decide) (by decide) (Jvm.hb hby at_26) (by rw [hml]; rfl) (a := a30) (argsL := [(.long q0)]) (rest := [(.ref a30)]) pd_1 rfl rfl rfl (Nat.le_of_eq rfl) (pc' := 29) rfl ?_
  rintro _ T31 L31 X31 ⟨rfl, N31, K31, B31⟩
  show Ow p e below s _ _ _ (T31.setTop (mkF m 29 #[.val (.long q0), .second, .val (.int p1), .val (.int bd), .val (.ref a28), .unset, .unset, .unset, .unset, .unset, .unset, .unset, .unset, .unset, .unset] [(.ref a30)]))
  have M31 := Fr.app M29 N31
  have S31 : n0 ≤ T31.heap.size := Nat.le_trans S30 K31.1
  have R31 := P30.keep K31 (ninS ne nin0)
  have RE31 := PE30.keep K31
  have E31 := A30.keep K31
  refine w_astore X31 hx (Jvm.hb hby at_29) #[.val (.long q0), .second, .val (.int p1), .val (.int bd), .val (.ref a28), .val (.ref a30), .unset, .unset, .unset, .unset, .unset, .unset, .unset, .unset, .unset] rfl rfl (pc' := 31) rfl ?_
  refine w_aload X31 hx (Jvm.hb hby at_31) rfl rfl (pc' := 33) rfl ?_
  refine w_iloadN X31 hx (Jvm.hb hby at_33) rfl (pc' := 34) rfl ?_
  obtain ⟨K, hK⟩ := own_exists bd hb q0
  refine w_callV X31 hx hZ hown (hw _ (List.mem_of_getElem? (i := 12) rfl)) (hw _ (List.mem_of_getElem? (i := 13) rfl)) (notFace_of_selects (args := #[]) (mvT hZ (hw _ (List.mem_of_getElem? (i := 15) rfl)))) (hw _ (List.mem_of_getElem? (i := 15) rfl)) (hw _ (List.mem_of_getElem? (i := 14) rfl)) (hw _ (List.mem_of_getElem? (i := 3) rfl)) (hw _ (List.mem_of_getElem? (i := 16) rfl)) (by decide) (W := 0) (rm3 l Z aw hw [] a28 bd q0 K T31.heap n0 R31 RE31 G28 hb hK) rfl (by decide) (by decide) (by decide) (by decide) RE31 (Jvm.hb hby at_34) (by rw [hml]; rfl) (argsL := [(.int bd)]) (rest := []) pd_2 rfl rfl rfl (Nat.le_of_eq rfl) (pc' := 37) rfl ?_
  rintro _ T32 L32 X32 ⟨rfl, N32, K32, B32⟩
  show Ow p e below s _ _ _ (T32.setTop (mkF m 37 #[.val (.long q0), .second, .val (.int p1), .val (.int bd), .val (.ref a28), .val (.ref a30), .unset, .unset, .unset, .unset, .unset, .unset, .unset, .unset, .unset] [(.int (resP bd (stN q0 K)))]))
  have M32 := Fr.app M31 N32
  have R32 := B31.keep K32 (ninS (Ne.symm ne) nin0)
  have RE32 := E31.keep K32
  have QE32 := RE31.keep K32
  refine w_istore X32 hx (Jvm.hb hby at_37) #[.val (.long q0), .second, .val (.int p1), .val (.int bd), .val (.ref a28), .val (.ref a30), .val (.int (resP bd (stN q0 K))), .unset, .unset, .unset, .unset, .unset, .unset, .unset, .unset] rfl  (pc' := 39) rfl ?_
  refine w_iload X32 hx (Jvm.hb hby at_39) rfl (pc' := 41) rfl ?_
  refine w_if_lt X32 hx (Jvm.hb hby at_41) (by decide) (pcT := 50) (by decide) (pcF := 44) rfl (fun q => absurd q (own_res0 bd (stN q0 K) hb)) (fun _ => ?_)
  refine w_iload X32 hx (Jvm.hb hby at_44) rfl (pc' := 46) rfl ?_
  refine w_iloadN X32 hx (Jvm.hb hby at_46) rfl (pc' := 47) rfl ?_
  refine w_icmp_lt X32 hx (Jvm.hb hby at_47) (by decide) (pcT := 52) (by decide) (pcF := 50) rfl (fun _ => ?_) (fun q => absurd (own_res1 bd (stN q0 K) hb) q)
  refine w_ldc2J X32 hx hZ hown (hw _ (List.mem_of_getElem? (i := 26) rfl)) (Jvm.hb hby at_52) (pc' := 55) rfl ?_
  refine w_iloadN X32 hx (Jvm.hb hby at_55) rfl (pc' := 56) rfl ?_
  refine w_i2l X32 hx (Jvm.hb hby at_56) (pc' := 57) rfl ?_
  refine w_lrem X32 hx (Jvm.hb hby at_57) (own_nz hb) (pc' := 58) rfl ?_
  refine w_lstore X32 hx (Jvm.hb hby at_58) #[.val (.long q0), .second, .val (.int p1), .val (.int bd), .val (.ref a28), .val (.ref a30), .val (.int (resP bd (stN q0 K))), .val (.long (thrP bd)), .second, .unset, .unset, .unset, .unset, .unset, .unset] rfl  (pc' := 60) rfl ?_
  refine w_aload X32 hx (Jvm.hb hby at_60) rfl rfl (pc' := 62) rfl ?_
  refine w_callV X32 hx hZ hown (hw _ (List.mem_of_getElem? (i := 27) rfl)) (hw _ (List.mem_of_getElem? (i := 18) rfl)) (notFace_of_selects (args := #[]) (mvT hZ (hw _ (List.mem_of_getElem? (i := 20) rfl)))) (hw _ (List.mem_of_getElem? (i := 20) rfl)) (hw _ (List.mem_of_getElem? (i := 19) rfl)) (hw _ (List.mem_of_getElem? (i := 3) rfl)) (hw _ (List.mem_of_getElem? (i := 21) rfl)) (by decide) (W := 0) (rm4 l Z aw hw [] a30 q0 T32.heap n0 R32 RE32 G30) rfl (by decide) (by decide) (by decide) (by decide) RE32 (Jvm.hb hby at_62) (by rw [hml]; rfl) (argsL := []) (rest := []) pd_0 rfl rfl rfl (Nat.le_of_eq rfl) (pc' := 65) rfl ?_
  rintro _ T33 L33 X33 ⟨rfl, N33, K33, B33⟩
  show Ow p e below s _ _ _ (T33.setTop (mkF m 65 #[.val (.long q0), .second, .val (.int p1), .val (.int bd), .val (.ref a28), .val (.ref a30), .val (.int (resP bd (stN q0 K))), .val (.long (thrP bd)), .second, .unset, .unset, .unset, .unset, .unset, .unset] [(.long (mix (q0 + (-7046029254386353131 : Int64))))]))
  have M33 := Fr.app M32 N33
  have R33 := B32.keep K33 (ninS ne nin0)
  have RE33 := QE32.keep K33
  have QE33 := RE32.keep K33
  refine w_bipush X33 hx (32 : Int32) (Jvm.hb hby at_65) (by decide) (pc' := 67) rfl ?_
  refine w_lushr X33 hx (Jvm.hb hby at_67) (pc' := 68) rfl ?_
  refine w_iloadN X33 hx (Jvm.hb hby at_68) rfl (pc' := 69) rfl ?_
  refine w_i2l X33 hx (Jvm.hb hby at_69) (pc' := 70) rfl ?_
  refine w_lmul X33 hx (Jvm.hb hby at_70) (pc' := 71) rfl ?_
  refine w_lstore X33 hx (Jvm.hb hby at_71) #[.val (.long q0), .second, .val (.int p1), .val (.int bd), .val (.ref a28), .val (.ref a30), .val (.int (resP bd (stN q0 K))), .val (.long (thrP bd)), .second, .val (.long (prd bd (q0 + (-7046029254386353131 : Int64)))), .second, .unset, .unset, .unset, .unset] rfl  (pc' := 73) rfl ?_
  refine w_lload X33 hx (Jvm.hb hby at_73) rfl (pc' := 75) rfl ?_
  refine w_ldc2J X33 hx hZ hown (hw _ (List.mem_of_getElem? (i := 28) rfl)) (Jvm.hb hby at_75) (pc' := 78) rfl ?_
  refine w_land X33 hx (Jvm.hb hby at_78) (pc' := 79) rfl ?_
  refine w_lload X33 hx (Jvm.hb hby at_79) rfl (pc' := 81) rfl ?_
  refine w_lcmp_lt X33 hx (Jvm.hb hby at_81) (Jvm.hb hby at_82) rfl (by decide) (pcT := 116) (by decide) (pcF := 85) rfl (fun q1 => ?_) (fun q1 => ?_)
  · refine w_aload X33 hx (Jvm.hb hby at_116) rfl rfl (pc' := 118) rfl ?_
    refine w_callV X33 hx hZ hown (hw _ (List.mem_of_getElem? (i := 27) rfl)) (hw _ (List.mem_of_getElem? (i := 18) rfl)) (notFace_of_selects (args := #[]) (mvT hZ (hw _ (List.mem_of_getElem? (i := 20) rfl)))) (hw _ (List.mem_of_getElem? (i := 20) rfl)) (hw _ (List.mem_of_getElem? (i := 19) rfl)) (hw _ (List.mem_of_getElem? (i := 3) rfl)) (hw _ (List.mem_of_getElem? (i := 21) rfl)) (by decide) (W := 0) (rm4 l Z aw hw [] a30 (q0 + (-7046029254386353131 : Int64)) T33.heap n0 B33 QE33 G30) rfl (by decide) (by decide) (by decide) (by decide) QE33 (Jvm.hb hby at_118) (by rw [hml]; rfl) (argsL := []) (rest := []) pd_0 rfl rfl rfl (Nat.le_of_eq rfl) (pc' := 121) rfl ?_
    rintro _ T34 L34 X34 ⟨rfl, N34, K34, B34⟩
    show Ow p e below s _ _ _ (T34.setTop (mkF m 121 #[.val (.long q0), .second, .val (.int p1), .val (.int bd), .val (.ref a28), .val (.ref a30), .val (.int (resP bd (stN q0 K))), .val (.long (thrP bd)), .second, .val (.long (prd bd (q0 + (-7046029254386353131 : Int64)))), .second, .unset, .unset, .unset, .unset] [(.long (mix ((q0 + (-7046029254386353131 : Int64)) + (-7046029254386353131 : Int64))))]))
    have M34 := Fr.app M33 N34
    have R34 := R33.keep K34 (ninS ne nin0)
    have RE34 := RE33.keep K34
    have QE34 := QE33.keep K34
    refine w_bipush X34 hx (32 : Int32) (Jvm.hb hby at_121) (by decide) (pc' := 123) rfl ?_
    refine w_lushr X34 hx (Jvm.hb hby at_123) (pc' := 124) rfl ?_
    refine w_iloadN X34 hx (Jvm.hb hby at_124) rfl (pc' := 125) rfl ?_
    refine w_i2l X34 hx (Jvm.hb hby at_125) (pc' := 126) rfl ?_
    refine w_lmul X34 hx (Jvm.hb hby at_126) (pc' := 127) rfl ?_
    refine w_lstore X34 hx (Jvm.hb hby at_127) #[.val (.long q0), .second, .val (.int p1), .val (.int bd), .val (.ref a28), .val (.ref a30), .val (.int (resP bd (stN q0 K))), .val (.long (thrP bd)), .second, .val (.long (prd bd (q0 + (-7046029254386353131 : Int64)))), .second, .val (.long (prd bd ((q0 + (-7046029254386353131 : Int64)) + (-7046029254386353131 : Int64)))), .second, .unset, .unset] rfl  (pc' := 129) rfl ?_
    refine w_lload X34 hx (Jvm.hb hby at_129) rfl (pc' := 131) rfl ?_
    refine w_ldc2J X34 hx hZ hown (hw _ (List.mem_of_getElem? (i := 28) rfl)) (Jvm.hb hby at_131) (pc' := 134) rfl ?_
    refine w_land X34 hx (Jvm.hb hby at_134) (pc' := 135) rfl ?_
    refine w_lload X34 hx (Jvm.hb hby at_135) rfl (pc' := 137) rfl ?_
    refine w_lcmp_lt X34 hx (Jvm.hb hby at_137) (Jvm.hb hby at_138) rfl (by decide) (pcT := 172) (by decide) (pcF := 141) rfl (fun q2 => ?_) (fun q2 => ?_)
    · refine w_aload X34 hx (Jvm.hb hby at_172) rfl rfl (pc' := 174) rfl ?_
      refine w_callV X34 hx hZ hown (hw _ (List.mem_of_getElem? (i := 27) rfl)) (hw _ (List.mem_of_getElem? (i := 18) rfl)) (notFace_of_selects (args := #[]) (mvT hZ (hw _ (List.mem_of_getElem? (i := 20) rfl)))) (hw _ (List.mem_of_getElem? (i := 20) rfl)) (hw _ (List.mem_of_getElem? (i := 19) rfl)) (hw _ (List.mem_of_getElem? (i := 3) rfl)) (hw _ (List.mem_of_getElem? (i := 21) rfl)) (by decide) (W := 0) (rm4 l Z aw hw [] a30 ((q0 + (-7046029254386353131 : Int64)) + (-7046029254386353131 : Int64)) T34.heap n0 B34 QE34 G30) rfl (by decide) (by decide) (by decide) (by decide) QE34 (Jvm.hb hby at_174) (by rw [hml]; rfl) (argsL := []) (rest := []) pd_0 rfl rfl rfl (Nat.le_of_eq rfl) (pc' := 177) rfl ?_
      rintro _ T35 L35 X35 ⟨rfl, N35, K35, B35⟩
      show Ow p e below s _ _ _ (T35.setTop (mkF m 177 #[.val (.long q0), .second, .val (.int p1), .val (.int bd), .val (.ref a28), .val (.ref a30), .val (.int (resP bd (stN q0 K))), .val (.long (thrP bd)), .second, .val (.long (prd bd (q0 + (-7046029254386353131 : Int64)))), .second, .val (.long (prd bd ((q0 + (-7046029254386353131 : Int64)) + (-7046029254386353131 : Int64)))), .second, .unset, .unset] [(.long (mix (((q0 + (-7046029254386353131 : Int64)) + (-7046029254386353131 : Int64)) + (-7046029254386353131 : Int64))))]))
      have M35 := Fr.app M34 N35
      have R35 := R34.keep K35 (ninS ne nin0)
      have RE35 := RE34.keep K35
      have QE35 := QE34.keep K35
      refine w_bipush X35 hx (32 : Int32) (Jvm.hb hby at_177) (by decide) (pc' := 179) rfl ?_
      refine w_lushr X35 hx (Jvm.hb hby at_179) (pc' := 180) rfl ?_
      refine w_iloadN X35 hx (Jvm.hb hby at_180) rfl (pc' := 181) rfl ?_
      refine w_i2l X35 hx (Jvm.hb hby at_181) (pc' := 182) rfl ?_
      refine w_lmul X35 hx (Jvm.hb hby at_182) (pc' := 183) rfl ?_
      refine w_lstore X35 hx (Jvm.hb hby at_183) #[.val (.long q0), .second, .val (.int p1), .val (.int bd), .val (.ref a28), .val (.ref a30), .val (.int (resP bd (stN q0 K))), .val (.long (thrP bd)), .second, .val (.long (prd bd (q0 + (-7046029254386353131 : Int64)))), .second, .val (.long (prd bd ((q0 + (-7046029254386353131 : Int64)) + (-7046029254386353131 : Int64)))), .second, .val (.long (prd bd (((q0 + (-7046029254386353131 : Int64)) + (-7046029254386353131 : Int64)) + (-7046029254386353131 : Int64)))), .second] rfl  (pc' := 185) rfl ?_
      refine w_lload X35 hx (Jvm.hb hby at_185) rfl (pc' := 187) rfl ?_
      refine w_ldc2J X35 hx hZ hown (hw _ (List.mem_of_getElem? (i := 28) rfl)) (Jvm.hb hby at_187) (pc' := 190) rfl ?_
      refine w_land X35 hx (Jvm.hb hby at_190) (pc' := 191) rfl ?_
      refine w_lload X35 hx (Jvm.hb hby at_191) rfl (pc' := 193) rfl ?_
      refine w_lcmp_lt X35 hx (Jvm.hb hby at_193) (Jvm.hb hby at_194) rfl (by decide) (pcT := 228) (by decide) (pcF := 197) rfl (fun q3 => ?_) (fun q3 => ?_)
      · refine w_iconst X35 hx (1 : Int32) (Jvm.hb hby at_228) (by decide) (pc' := 229) rfl ?_
        exact w_zreturn X35 hx Bd.returns (Or.inr rfl) (BodyLoose.notSynchronized Bd) (Nat.le_of_ble_eq_true rfl) (Nat.le_of_ble_eq_true rfl) (Jvm.hb hby at_229) ⟨rfl, by simpa using M35⟩
      · have hKt : K = 3 := own_acc3 hK hb q1 q2 q3
        refine w_iload X35 hx (Jvm.hb hby at_197) rfl (pc' := 199) rfl ?_
        refine w_lload X35 hx (Jvm.hb hby at_199) rfl (pc' := 201) rfl ?_
        refine w_bipush X35 hx (32 : Int32) (Jvm.hb hby at_201) (by decide) (pc' := 203) rfl ?_
        refine w_lushr X35 hx (Jvm.hb hby at_203) (pc' := 204) rfl ?_
        refine w_l2i X35 hx (Jvm.hb hby at_204) (pc' := 205) rfl ?_
        refine w_icmp_ne X35 hx (Jvm.hb hby at_205) (by decide) (pcT := 226) (by decide) (pcF := 208) rfl (fun q => absurd (show resP bd (stN q0 K) = (lsr64 (prd bd (((q0 + (-7046029254386353131 : Int64)) + (-7046029254386353131 : Int64)) + (-7046029254386353131 : Int64))) (32 : Int32)).toInt32 from by rw [hKt]; rfl) q) (fun _ => ?_)
        refine w_aload X35 hx (Jvm.hb hby at_208) rfl rfl (pc' := 210) rfl ?_
        refine w_callV X35 hx hZ hown (hw _ (List.mem_of_getElem? (i := 27) rfl)) (hw _ (List.mem_of_getElem? (i := 18) rfl)) (notFace_of_selects (args := #[]) (mvT hZ (hw _ (List.mem_of_getElem? (i := 20) rfl)))) (hw _ (List.mem_of_getElem? (i := 20) rfl)) (hw _ (List.mem_of_getElem? (i := 19) rfl)) (hw _ (List.mem_of_getElem? (i := 3) rfl)) (hw _ (List.mem_of_getElem? (i := 21) rfl)) (by decide) (W := 0) (rm4 l Z aw hw [] a28 (stN q0 K) T35.heap n0 R35 RE35 G28) rfl (by decide) (by decide) (by decide) (by decide) RE35 (Jvm.hb hby at_210) (by rw [hml]; rfl) (argsL := []) (rest := []) pd_0 rfl rfl rfl (Nat.le_of_eq rfl) (pc' := 213) rfl ?_
        rintro _ T36 L36 X36 ⟨rfl, N36, K36, B36⟩
        show Ow p e below s _ _ _ (T36.setTop (mkF m 213 #[.val (.long q0), .second, .val (.int p1), .val (.int bd), .val (.ref a28), .val (.ref a30), .val (.int (resP bd (stN q0 K))), .val (.long (thrP bd)), .second, .val (.long (prd bd (q0 + (-7046029254386353131 : Int64)))), .second, .val (.long (prd bd ((q0 + (-7046029254386353131 : Int64)) + (-7046029254386353131 : Int64)))), .second, .val (.long (prd bd (((q0 + (-7046029254386353131 : Int64)) + (-7046029254386353131 : Int64)) + (-7046029254386353131 : Int64)))), .second] [(.long (mix ((stN q0 K) + (-7046029254386353131 : Int64))))]))
        have M36 := Fr.app M35 N36
        have R36 := B35.keep K36 (ninS (Ne.symm ne) nin0)
        have RE36 := QE35.keep K36
        have QE36 := RE35.keep K36
        refine w_aload X36 hx (Jvm.hb hby at_213) rfl rfl (pc' := 215) rfl ?_
        refine w_callV X36 hx hZ hown (hw _ (List.mem_of_getElem? (i := 27) rfl)) (hw _ (List.mem_of_getElem? (i := 18) rfl)) (notFace_of_selects (args := #[]) (mvT hZ (hw _ (List.mem_of_getElem? (i := 20) rfl)))) (hw _ (List.mem_of_getElem? (i := 20) rfl)) (hw _ (List.mem_of_getElem? (i := 19) rfl)) (hw _ (List.mem_of_getElem? (i := 3) rfl)) (hw _ (List.mem_of_getElem? (i := 21) rfl)) (by decide) (W := 2) (rm4 l Z aw hw [] a30 (((q0 + (-7046029254386353131 : Int64)) + (-7046029254386353131 : Int64)) + (-7046029254386353131 : Int64)) T36.heap n0 R36 RE36 G30) rfl (by decide) (by decide) (by decide) (by decide) RE36 (Jvm.hb hby at_215) (by rw [hml]; rfl) (argsL := []) (rest := [(.long (mix ((stN q0 K) + (-7046029254386353131 : Int64))))]) pd_0 rfl rfl rfl (Nat.le_of_eq rfl) (pc' := 218) rfl ?_
        rintro _ T37 L37 X37 ⟨rfl, N37, K37, B37⟩
        show Ow p e below s _ _ _ (T37.setTop (mkF m 218 #[.val (.long q0), .second, .val (.int p1), .val (.int bd), .val (.ref a28), .val (.ref a30), .val (.int (resP bd (stN q0 K))), .val (.long (thrP bd)), .second, .val (.long (prd bd (q0 + (-7046029254386353131 : Int64)))), .second, .val (.long (prd bd ((q0 + (-7046029254386353131 : Int64)) + (-7046029254386353131 : Int64)))), .second, .val (.long (prd bd (((q0 + (-7046029254386353131 : Int64)) + (-7046029254386353131 : Int64)) + (-7046029254386353131 : Int64)))), .second] [(.long (mix ((((q0 + (-7046029254386353131 : Int64)) + (-7046029254386353131 : Int64)) + (-7046029254386353131 : Int64)) + (-7046029254386353131 : Int64)))), (.long (mix ((stN q0 K) + (-7046029254386353131 : Int64))))]))
        have M37 := Fr.app M36 N37
        have R37 := B36.keep K37 (ninS ne nin0)
        have RE37 := QE36.keep K37
        have QE37 := RE36.keep K37
        refine w_lcmp_ne X37 hx (Jvm.hb hby at_218) (Jvm.hb hby at_219) rfl (by decide) (pcT := 226) (by decide) (pcF := 222) rfl (fun q => absurd (show mix ((stN q0 K) + (-7046029254386353131 : Int64)) = mix ((((q0 + (-7046029254386353131 : Int64)) + (-7046029254386353131 : Int64)) + (-7046029254386353131 : Int64)) + (-7046029254386353131 : Int64)) from by rw [hKt]; rfl) q) (fun _ => ?_)
        refine w_iconst X37 hx (1 : Int32) (Jvm.hb hby at_222) (by decide) (pc' := 223) rfl ?_
        refine w_goto X37 hx (Jvm.hb hby at_223) (by decide) (pc' := 227) (by decide) ?_
        exact w_zreturn X37 hx Bd.returns (Or.inr rfl) (BodyLoose.notSynchronized Bd) (Nat.le_of_ble_eq_true rfl) (Nat.le_of_ble_eq_true rfl) (Jvm.hb hby at_227) ⟨rfl, by simpa using M37⟩
    · have hKt : K = 2 := own_acc2 hK hb q1 q2
      refine w_iload X34 hx (Jvm.hb hby at_141) rfl (pc' := 143) rfl ?_
      refine w_lload X34 hx (Jvm.hb hby at_143) rfl (pc' := 145) rfl ?_
      refine w_bipush X34 hx (32 : Int32) (Jvm.hb hby at_145) (by decide) (pc' := 147) rfl ?_
      refine w_lushr X34 hx (Jvm.hb hby at_147) (pc' := 148) rfl ?_
      refine w_l2i X34 hx (Jvm.hb hby at_148) (pc' := 149) rfl ?_
      refine w_icmp_ne X34 hx (Jvm.hb hby at_149) (by decide) (pcT := 170) (by decide) (pcF := 152) rfl (fun q => absurd (show resP bd (stN q0 K) = (lsr64 (prd bd ((q0 + (-7046029254386353131 : Int64)) + (-7046029254386353131 : Int64))) (32 : Int32)).toInt32 from by rw [hKt]; rfl) q) (fun _ => ?_)
      refine w_aload X34 hx (Jvm.hb hby at_152) rfl rfl (pc' := 154) rfl ?_
      refine w_callV X34 hx hZ hown (hw _ (List.mem_of_getElem? (i := 27) rfl)) (hw _ (List.mem_of_getElem? (i := 18) rfl)) (notFace_of_selects (args := #[]) (mvT hZ (hw _ (List.mem_of_getElem? (i := 20) rfl)))) (hw _ (List.mem_of_getElem? (i := 20) rfl)) (hw _ (List.mem_of_getElem? (i := 19) rfl)) (hw _ (List.mem_of_getElem? (i := 3) rfl)) (hw _ (List.mem_of_getElem? (i := 21) rfl)) (by decide) (W := 0) (rm4 l Z aw hw [] a28 (stN q0 K) T34.heap n0 R34 RE34 G28) rfl (by decide) (by decide) (by decide) (by decide) RE34 (Jvm.hb hby at_154) (by rw [hml]; rfl) (argsL := []) (rest := []) pd_0 rfl rfl rfl (Nat.le_of_eq rfl) (pc' := 157) rfl ?_
      rintro _ T38 L38 X38 ⟨rfl, N38, K38, B38⟩
      show Ow p e below s _ _ _ (T38.setTop (mkF m 157 #[.val (.long q0), .second, .val (.int p1), .val (.int bd), .val (.ref a28), .val (.ref a30), .val (.int (resP bd (stN q0 K))), .val (.long (thrP bd)), .second, .val (.long (prd bd (q0 + (-7046029254386353131 : Int64)))), .second, .val (.long (prd bd ((q0 + (-7046029254386353131 : Int64)) + (-7046029254386353131 : Int64)))), .second, .unset, .unset] [(.long (mix ((stN q0 K) + (-7046029254386353131 : Int64))))]))
      have M38 := Fr.app M34 N38
      have R38 := B34.keep K38 (ninS (Ne.symm ne) nin0)
      have RE38 := QE34.keep K38
      have QE38 := RE34.keep K38
      refine w_aload X38 hx (Jvm.hb hby at_157) rfl rfl (pc' := 159) rfl ?_
      refine w_callV X38 hx hZ hown (hw _ (List.mem_of_getElem? (i := 27) rfl)) (hw _ (List.mem_of_getElem? (i := 18) rfl)) (notFace_of_selects (args := #[]) (mvT hZ (hw _ (List.mem_of_getElem? (i := 20) rfl)))) (hw _ (List.mem_of_getElem? (i := 20) rfl)) (hw _ (List.mem_of_getElem? (i := 19) rfl)) (hw _ (List.mem_of_getElem? (i := 3) rfl)) (hw _ (List.mem_of_getElem? (i := 21) rfl)) (by decide) (W := 2) (rm4 l Z aw hw [] a30 ((q0 + (-7046029254386353131 : Int64)) + (-7046029254386353131 : Int64)) T38.heap n0 R38 RE38 G30) rfl (by decide) (by decide) (by decide) (by decide) RE38 (Jvm.hb hby at_159) (by rw [hml]; rfl) (argsL := []) (rest := [(.long (mix ((stN q0 K) + (-7046029254386353131 : Int64))))]) pd_0 rfl rfl rfl (Nat.le_of_eq rfl) (pc' := 162) rfl ?_
      rintro _ T39 L39 X39 ⟨rfl, N39, K39, B39⟩
      show Ow p e below s _ _ _ (T39.setTop (mkF m 162 #[.val (.long q0), .second, .val (.int p1), .val (.int bd), .val (.ref a28), .val (.ref a30), .val (.int (resP bd (stN q0 K))), .val (.long (thrP bd)), .second, .val (.long (prd bd (q0 + (-7046029254386353131 : Int64)))), .second, .val (.long (prd bd ((q0 + (-7046029254386353131 : Int64)) + (-7046029254386353131 : Int64)))), .second, .unset, .unset] [(.long (mix (((q0 + (-7046029254386353131 : Int64)) + (-7046029254386353131 : Int64)) + (-7046029254386353131 : Int64)))), (.long (mix ((stN q0 K) + (-7046029254386353131 : Int64))))]))
      have M39 := Fr.app M38 N39
      have R39 := B38.keep K39 (ninS ne nin0)
      have RE39 := QE38.keep K39
      have QE39 := RE38.keep K39
      refine w_lcmp_ne X39 hx (Jvm.hb hby at_162) (Jvm.hb hby at_163) rfl (by decide) (pcT := 170) (by decide) (pcF := 166) rfl (fun q => absurd (show mix ((stN q0 K) + (-7046029254386353131 : Int64)) = mix (((q0 + (-7046029254386353131 : Int64)) + (-7046029254386353131 : Int64)) + (-7046029254386353131 : Int64)) from by rw [hKt]; rfl) q) (fun _ => ?_)
      refine w_iconst X39 hx (1 : Int32) (Jvm.hb hby at_166) (by decide) (pc' := 167) rfl ?_
      refine w_goto X39 hx (Jvm.hb hby at_167) (by decide) (pc' := 171) (by decide) ?_
      exact w_zreturn X39 hx Bd.returns (Or.inr rfl) (BodyLoose.notSynchronized Bd) (Nat.le_of_ble_eq_true rfl) (Nat.le_of_ble_eq_true rfl) (Jvm.hb hby at_171) ⟨rfl, by simpa using M39⟩
  · have hKt : K = 1 := own_acc1 hK hb q1
    refine w_iload X33 hx (Jvm.hb hby at_85) rfl (pc' := 87) rfl ?_
    refine w_lload X33 hx (Jvm.hb hby at_87) rfl (pc' := 89) rfl ?_
    refine w_bipush X33 hx (32 : Int32) (Jvm.hb hby at_89) (by decide) (pc' := 91) rfl ?_
    refine w_lushr X33 hx (Jvm.hb hby at_91) (pc' := 92) rfl ?_
    refine w_l2i X33 hx (Jvm.hb hby at_92) (pc' := 93) rfl ?_
    refine w_icmp_ne X33 hx (Jvm.hb hby at_93) (by decide) (pcT := 114) (by decide) (pcF := 96) rfl (fun q => absurd (show resP bd (stN q0 K) = (lsr64 (prd bd (q0 + (-7046029254386353131 : Int64))) (32 : Int32)).toInt32 from by rw [hKt]; rfl) q) (fun _ => ?_)
    refine w_aload X33 hx (Jvm.hb hby at_96) rfl rfl (pc' := 98) rfl ?_
    refine w_callV X33 hx hZ hown (hw _ (List.mem_of_getElem? (i := 27) rfl)) (hw _ (List.mem_of_getElem? (i := 18) rfl)) (notFace_of_selects (args := #[]) (mvT hZ (hw _ (List.mem_of_getElem? (i := 20) rfl)))) (hw _ (List.mem_of_getElem? (i := 20) rfl)) (hw _ (List.mem_of_getElem? (i := 19) rfl)) (hw _ (List.mem_of_getElem? (i := 3) rfl)) (hw _ (List.mem_of_getElem? (i := 21) rfl)) (by decide) (W := 0) (rm4 l Z aw hw [] a28 (stN q0 K) T33.heap n0 R33 RE33 G28) rfl (by decide) (by decide) (by decide) (by decide) RE33 (Jvm.hb hby at_98) (by rw [hml]; rfl) (argsL := []) (rest := []) pd_0 rfl rfl rfl (Nat.le_of_eq rfl) (pc' := 101) rfl ?_
    rintro _ T40 L40 X40 ⟨rfl, N40, K40, B40⟩
    show Ow p e below s _ _ _ (T40.setTop (mkF m 101 #[.val (.long q0), .second, .val (.int p1), .val (.int bd), .val (.ref a28), .val (.ref a30), .val (.int (resP bd (stN q0 K))), .val (.long (thrP bd)), .second, .val (.long (prd bd (q0 + (-7046029254386353131 : Int64)))), .second, .unset, .unset, .unset, .unset] [(.long (mix ((stN q0 K) + (-7046029254386353131 : Int64))))]))
    have M40 := Fr.app M33 N40
    have R40 := B33.keep K40 (ninS (Ne.symm ne) nin0)
    have RE40 := QE33.keep K40
    have QE40 := RE33.keep K40
    refine w_aload X40 hx (Jvm.hb hby at_101) rfl rfl (pc' := 103) rfl ?_
    refine w_callV X40 hx hZ hown (hw _ (List.mem_of_getElem? (i := 27) rfl)) (hw _ (List.mem_of_getElem? (i := 18) rfl)) (notFace_of_selects (args := #[]) (mvT hZ (hw _ (List.mem_of_getElem? (i := 20) rfl)))) (hw _ (List.mem_of_getElem? (i := 20) rfl)) (hw _ (List.mem_of_getElem? (i := 19) rfl)) (hw _ (List.mem_of_getElem? (i := 3) rfl)) (hw _ (List.mem_of_getElem? (i := 21) rfl)) (by decide) (W := 2) (rm4 l Z aw hw [] a30 (q0 + (-7046029254386353131 : Int64)) T40.heap n0 R40 RE40 G30) rfl (by decide) (by decide) (by decide) (by decide) RE40 (Jvm.hb hby at_103) (by rw [hml]; rfl) (argsL := []) (rest := [(.long (mix ((stN q0 K) + (-7046029254386353131 : Int64))))]) pd_0 rfl rfl rfl (Nat.le_of_eq rfl) (pc' := 106) rfl ?_
    rintro _ T41 L41 X41 ⟨rfl, N41, K41, B41⟩
    show Ow p e below s _ _ _ (T41.setTop (mkF m 106 #[.val (.long q0), .second, .val (.int p1), .val (.int bd), .val (.ref a28), .val (.ref a30), .val (.int (resP bd (stN q0 K))), .val (.long (thrP bd)), .second, .val (.long (prd bd (q0 + (-7046029254386353131 : Int64)))), .second, .unset, .unset, .unset, .unset] [(.long (mix ((q0 + (-7046029254386353131 : Int64)) + (-7046029254386353131 : Int64)))), (.long (mix ((stN q0 K) + (-7046029254386353131 : Int64))))]))
    have M41 := Fr.app M40 N41
    have R41 := B40.keep K41 (ninS ne nin0)
    have RE41 := QE40.keep K41
    have QE41 := RE40.keep K41
    refine w_lcmp_ne X41 hx (Jvm.hb hby at_106) (Jvm.hb hby at_107) rfl (by decide) (pcT := 114) (by decide) (pcF := 110) rfl (fun q => absurd (show mix ((stN q0 K) + (-7046029254386353131 : Int64)) = mix ((q0 + (-7046029254386353131 : Int64)) + (-7046029254386353131 : Int64)) from by rw [hKt]; rfl) q) (fun _ => ?_)
    refine w_iconst X41 hx (1 : Int32) (Jvm.hb hby at_110) (by decide) (pc' := 111) rfl ?_
    refine w_goto X41 hx (Jvm.hb hby at_111) (by decide) (pc' := 115) (by decide) ?_
    exact w_zreturn X41 hx Bd.returns (Or.inr rfl) (BodyLoose.notSynchronized Bd) (Nat.le_of_ble_eq_true rfl) (Nat.le_of_ble_eq_true rfl) (Jvm.hb hby at_115) ⟨rfl, by simpa using M41⟩
set_option maxRecDepth 65536 in
set_option maxHeartbeats 40000000 in
theorem comes_1 {Post : Tables → Env → Array Value → State → Outcome → State → Prop} (hpost : ∀ tb e args s v u, (limb_1_1.after args s (.returned v) u = true ∧ limb_1_2.after args s (.returned v) u = true ∧ True) → FrameEnd s (.returned v) u (Jvm.fieldLocs frame_1_writes args s ++ Jvm.arrayLocs frame_1_arrays args s ++ Jvm.staticLocs frame_1_statics s) 16 128 → Post tb e args s (.returned v) u) :
    ArmFor flags0 classFile x code maxLocals ret World_1 tables_1 room_1 Calls_1 rest_1 Pre_1 Post := by
  intro l hfl _ _ p e ha hc hk s m args below hf hA hF happ hP
  obtain ⟨hcalls, hrest, hpre⟩ := hP
  obtain ⟨-, -, -, hnamed, -, -, -, hat⟩ := (Spec.applies_iff hf).mp happ
  obtain ⟨hg, hn⟩ := and_e (Cond.before_iff.mp (show (Jvm.Cond.and given_1 narrow_1).before args s = true from hpre))
  obtain ⟨g1, g2⟩ := and_e hg
  obtain ⟨g3, g4⟩ := and_e g2
  obtain ⟨w0, w1, rfl⟩ : ∃ w0 w1 : Value, args = #[w0, w1] := by
    have hs : args.size = 2 := by simpa [Cond.value, given_1] using g1
    obtain ⟨L⟩ := args
    match L, hs with
    | [w0, w1], _ => exact ⟨w0, w1, rfl⟩
  have hw := fun d (hd : d ∈ tables_1) => atoms_spec (ws := Jvm.Cond.code x code maxLocals ret :: tables_1) hat d (List.mem_cons_of_mem _ hd)
  obtain ⟨i0, ei0⟩ := isL_v g3
  obtain rfl : w0 = (.long i0) := Option.some.inj ei0
  obtain ⟨i1, ei1⟩ := is_v g4
  obtain rfl : w1 = (.int i1) := Option.some.inj ei1
  obtain ⟨n, o, h1, h2, h3, _, L, rfl, ⟨rfl, N⟩, hq⟩ := rm0 l s _ hw tables_1 i0 i1 s.heap s.heap.size (Nat.le_refl _) p e ha hc hk s m _ below hf ((Spec.applies_iff_loose hf).mp happ).1 ⟨rfl, State.Warmed39.refl s, rfl⟩ trivial
  refine ⟨n, _, h1, h2, h3, hpost _ _ _ _ _ _ ⟨Cond.after_iff.mpr rfl, Cond.after_iff.mpr (eq_i res_at (Term.int_eval (1)) rfl), trivial⟩ ⟨hq.1, hq.2.1, (hq.2.2.sift fun y hy => Or.inr (N y hy)).mono (by decide) (by decide)⟩⟩
theorem main_1_1 : Claimed_1_1 := comes_1 fun _ _ _ _ _ _ h hF => ⟨h.1, hF⟩
theorem main_1_2 : Claimed_1_2 := comes_1 fun _ _ _ _ _ _ h hF => ⟨h.2.1, hF⟩
end Jvm.Pilot.@@N@@
namespace Jvm.Pilot.@@N@@
open Jvm Jvm.ClassFile Sem Op Lib Jvm.Free Jvm.Stand Jvm.Pilot.@@N@@.Jvm.D
/-! MADE BY PROGRAM (witnessworld.py) out of the Statement's table words and the real class files: 9 classes; the members and pool entries that the words name. The judged class is class 1, her method 1. -/
namespace start1
open Jvm.ClassFile
def u (s : String) : CpInfo := .utf8 (stringToUtf16 s)
/-- a pool by its gaps: so many unusable entries, then the entry; so many at the end -/
def gap : Nat → List CpInfo → List CpInfo
  | 0, r => r
  | n + 1, r => .unusable :: gap n r
def poolList (es : List (Nat × CpInfo)) (last : Nat) : List CpInfo := es.foldr (fun e r => gap e.1 (e.2 :: r)) (gap last [])
def pool (es : List (Nat × CpInfo)) (last : Nat) : Array CpInfo := ⟨poolList es last⟩
def fileOf (pool : Array CpInfo) (this : Nat) (attrs : Array Attribute := #[]) (ms : Array MethodInfo := #[]) (fl : Nat := 33) (sup : Nat := 0) (ifs : Array Nat := #[]) (fds : Array FieldInfo := #[]) : ClassFile where
  minorVersion := 0
  majorVersion := 65
  constantPool := pool
  accessFlags := fl
  thisClass := this
  superClass := sup
  interfaces := ifs
  fields := fds
  methods := ms
  attributes := attrs
def plain (name : String) (sup : Option ClassId) : Class where
  name := name
  kind := .ordinary
  loader := none
  accessFlags := 33
  super := sup
  interfaces := #[]
  cf := none
  fields := #[]
  methods := #[]
  instanceTypes := #[]
  staticTypes := #[]
  resolved := #[]
  callSites := []
  init := .initialized
  statics := none
  mirror := none

def pool0 : Array CpInfo := pool [(5, u "<init>"), (0, u "()V"), (1, .class_ 10), (1, u "java/lang/Object")] 113

def k0c0 : Code := { maxStack := 0, maxLocals := 1, code := object_method_1_code, exceptionTable := #[], attributes := #[] }
def k0m0 : Method := { name := "<init>", desc := "()V", sig := { parameters := [], returnType := none }, accessFlags := 1, code := some k0c0 }
/-- java/lang/Object -/
def k0 : Class := { plain "java/lang/Object" none with
  accessFlags := 33
  interfaces := #[]
  cf := some (fileOf pool0 8 #[] #[{ accessFlags := 1, nameIndex := 5, descriptorIndex := 6, attributes := #[] }] 33 0 #[] #[])
  fields := #[]
  methods := #[k0m0]
  instanceTypes := #[]
  staticTypes := #[]
  resolved := Array.replicate 124 none
  statics := none }

def pool1 : Array CpInfo := pool [(2, .class_ 4), (1, u "java/lang/Object"), (0, u "<init>"), (0, u "()V"), (0, .integer 2147483647), (0, .class_ 9), (0, u "com/example/vagabond/vagabond/SplitMix64"), (0, .methodref 8 11), (0, .nameAndType 5 12), (0, u "(J)V"), (0, .methodref 8 14), (0, .nameAndType 15 16), (0, u "nextInt"), (0, u "(I)I"), (0, .long 4294967296), (1, .methodref 8 20), (0, .nameAndType 21 22), (0, u "nextLong"), (0, u "()J"), (0, .long 4294967295), (1, .class_ 26), (0, u "com/example/vagabond/vagabond/SplitMix64NextIntPinLaw"), (2, u "law"), (0, u "(JI)Z")] 3

def k1m0 : Method := { name := "<init>", desc := "()V", sig := { parameters := [], returnType := none }, accessFlags := 2, code := none }
def k1c1 : Code := { maxStack := 4, maxLocals := 15, code := code, exceptionTable := #[], attributes := #[] }
def k1m1 : Method := { name := "law", desc := "(JI)Z", sig := { parameters := [.long, .int], returnType := some .boolean }, accessFlags := 9, code := some k1c1 }
/-- com/example/vagabond/vagabond/SplitMix64NextIntPinLaw -/
def k1 : Class := { plain "com/example/vagabond/vagabond/SplitMix64NextIntPinLaw" (some 0) with
  accessFlags := 49
  interfaces := #[]
  cf := some (fileOf pool1 25 #[] #[{ accessFlags := 2, nameIndex := 5, descriptorIndex := 6, attributes := #[] }, { accessFlags := 9, nameIndex := 29, descriptorIndex := 30, attributes := #[] }] 49 2 #[] #[])
  fields := #[]
  methods := #[k1m0, k1m1]
  instanceTypes := #[]
  staticTypes := #[]
  resolved := Array.replicate 34 none
  statics := none }

def pool2 : Array CpInfo := pool [(1, .methodref 2 3), (0, .class_ 4), (0, .nameAndType 5 6), (0, u "java/lang/Object"), (0, u "<init>"), (0, u "()V"), (0, .fieldref 8 9), (0, .class_ 10), (0, .nameAndType 11 12), (0, u "com/example/vagabond/vagabond/SplitMix64"), (0, u "state"), (0, u "J"), (0, .long 11400714819323198485), (1, .long 13787848793156543929), (1, .long 10723151780598845931), (1, .methodref 8 20), (0, .nameAndType 21 22), (0, u "nextLong"), (0, u "()J"), (2, .long 4294967295), (1, .long 4294967296), (1, u "STEP"), (1, u "UNIT"), (0, u "D"), (0, u "(J)V"), (4, u "nextInt"), (0, u "(I)I")] 3

def k2c0 : Code := { maxStack := 3, maxLocals := 3, code := prog_34_method_1_code, exceptionTable := #[], attributes := #[] }
def k2m0 : Method := { name := "<init>", desc := "(J)V", sig := { parameters := [.long], returnType := none }, accessFlags := 0, code := some k2c0 }
def k2c1 : Code := { maxStack := 5, maxLocals := 3, code := prog_34_method_2_code, exceptionTable := #[], attributes := #[] }
def k2m1 : Method := { name := "nextLong", desc := "()J", sig := { parameters := [], returnType := some .long }, accessFlags := 0, code := some k2c1 }
def k2c2 : Code := { maxStack := 4, maxLocals := 8, code := prog_34_method_4_code, exceptionTable := #[], attributes := #[] }
def k2m2 : Method := { name := "nextInt", desc := "(I)I", sig := { parameters := [.int], returnType := some .int }, accessFlags := 0, code := some k2c2 }
/-- com/example/vagabond/vagabond/SplitMix64 -/
def k2 : Class := { plain "com/example/vagabond/vagabond/SplitMix64" (some 0) with
  accessFlags := 48
  interfaces := #[]
  cf := some (fileOf pool2 8 #[] #[{ accessFlags := 0, nameIndex := 5, descriptorIndex := 33, attributes := #[] }, { accessFlags := 0, nameIndex := 21, descriptorIndex := 22, attributes := #[] }, { accessFlags := 0, nameIndex := 38, descriptorIndex := 39, attributes := #[] }] 48 2 #[] #[{ accessFlags := 26, nameIndex := 29, descriptorIndex := 12, attributes := #[] }, { accessFlags := 26, nameIndex := 31, descriptorIndex := 32, attributes := #[] }, { accessFlags := 2, nameIndex := 11, descriptorIndex := 12, attributes := #[] }])
  fields := #[{ name := "STEP", type := .long, accessFlags := 26, slot := 0, constantValue := 0 }, { name := "UNIT", type := .double, accessFlags := 26, slot := 1, constantValue := 0 }, { name := "state", type := .long, accessFlags := 2, slot := 0, constantValue := 0 }]
  methods := #[k2m0, k2m1, k2m2]
  instanceTypes := #[.long]
  staticTypes := #[.long, .double]
  resolved := Array.replicate 43 none
  statics := none }

def pool3 : Array CpInfo := pool [(1, u "java/lang/Cloneable"), (0, .class_ 1), (0, u "java/lang/Object"), (0, .class_ 3)] 3

/-- java/lang/Cloneable -/
def k3 : Class := { plain "java/lang/Cloneable" (some 0) with
  accessFlags := 1537
  interfaces := #[]
  cf := some (fileOf pool3 2 #[] #[] 1537 4 #[] #[])
  fields := #[]
  methods := #[]
  instanceTypes := #[]
  staticTypes := #[]
  resolved := Array.replicate 8 none
  statics := none }

def pool4 : Array CpInfo := pool [(1, u "java/io/Serializable"), (0, .class_ 1), (0, u "java/lang/Object"), (0, .class_ 3)] 3

/-- java/io/Serializable -/
def k4 : Class := { plain "java/io/Serializable" (some 0) with
  accessFlags := 1537
  interfaces := #[]
  cf := some (fileOf pool4 2 #[] #[] 1537 4 #[] #[])
  fields := #[]
  methods := #[]
  instanceTypes := #[]
  staticTypes := #[]
  resolved := Array.replicate 8 none
  statics := none }

/-- the primitive byte -/
def k5 : Class := { plain "byte" none with kind := .primitive 'B', accessFlags := 0x411 }
/-- [B -/
def k6 : Class := { plain "[B" (some 0) with kind := .array 5 .byte, interfaces := #[3, 4], accessFlags := 1041 }

/-- the primitive int -/
def k7 : Class := { plain "int" none with kind := .primitive 'I', accessFlags := 0x411 }
/-- [I -/
def k8 : Class := { plain "[I" (some 0) with kind := .array 7 .int, interfaces := #[3, 4], accessFlags := 1041 }

def heap : Heap := #[]
def classes : Array Class := #[k0, k1, k2, k3, k4, k5, k6, k7, k8]
def interned : List (Array UInt16 × Addr) := []
def slotsUsed : Nat := 0
def theMethod : MethodId := ⟨1, 1⟩
def args0 : Array Value := #[.long 5, .int 7]
def aboutOver (below : List Frame) : State where
  vm := { classes := classes, interned := interned.toArray }
  heap := heap
  slotsUsed := slotsUsed
  threads := #[{ frames := .invoking theMethod args0 :: below }]
def below0 : List Frame := [.native { method := ⟨0, 0⟩, args := #[] }]
def about1 : State := aboutOver below0
def p0 : Program := .bare "" "" ""
def e0 : Env := launch0.env 0 0 0
theorem w_frames : about1.frames = Frame.invoking theMethod args0 :: below0 := rfl
set_option maxRecDepth 65536 in
theorem w_args : argsFit about1.vm theMethod args0 = true := by decide +kernel
set_option maxRecDepth 65536 in
theorem w_heap : heapFits about1 = true := by decide +kernel
set_option maxRecDepth 65536 in
theorem w_runnable : about1.curStatus? = some .runnable := by decide +kernel
set_option maxRecDepth 65536 in
theorem w_alone : about1.alone = true := by decide +kernel
set_option maxRecDepth 65536 in
theorem w_named : about1.methodNamed? x = some theMethod := by decide +kernel
set_option maxRecDepth 65536 in
theorem w_hears : about1.hears theMethod below0 = true := by decide +kernel
set_option maxRecDepth 65536 in
theorem w_ripe : about1.ripe theMethod args0 below0 = true := by decide +kernel
theorem w_running : about1.status = .running := rfl
set_option maxRecDepth 65536 in
theorem w_room : about1.hasRoom e0.platform room_1 = true :=
  launch0.hasRoom_least _ room_1 (by decide +kernel) (by decide +kernel) (by decide +kernel) (by decide +kernel) (by decide +kernel) (by decide +kernel)
theorem allAtoms_all (ts : List Jvm.Cond) (a : Array Jvm.Value) (st : Jvm.State) : (allAtoms ts).before a st = ts.all (fun c => c.before a st) := by
  induction ts with
  | nil => rfl
  | cons c t ih =>
    show (Jvm.Cond.and c (allAtoms t)).before a st = _
    rw [Jvm.Cond.before_and, ih, List.all_cons]
def words1 : List Jvm.Cond := Jvm.Cond.code x code maxLocals ret :: tables_1
/-- a 'code' word, met by the world's own term for the bytes: nothing is compared byte by byte -/
theorem code_word {y : MethodName} {bytes : ByteArray} {mx : Nat} {rt : Option FieldType} {a : Array Value} {s : State} {m : MethodId} {meth : Method} {c : Code} (h1 : s.methodNamed? y = some m) (h2 : s.vm.method? m = some meth) (h3 : meth.code = some c) (h4 : c.code = bytes)
    (h5 : (c.maxLocals == mx && c.exceptionTable.isEmpty && decide (c.maxStack ≤ mostOperands) && decide (meth.sig.returnType = rt) && !meth.locks && decide (parseMethodDescriptor y.desc = some meth.sig)) = true) : (Jvm.Cond.code y bytes mx rt).before a s = true := by
  simp only [Bool.and_eq_true, beq_iff_eq, Bool.not_eq_true', decide_eq_true_eq] at h5
  obtain ⟨⟨⟨⟨⟨g1, g2⟩, g3⟩, g4⟩, g5⟩, g6⟩ := h5
  simp [Cond.before, Cond.holds, Cond.value, h1, h2, h3, h4, g1, g2, g3, g4, g5, g6]
def isCode : Jvm.Cond → Bool
  | .code _ _ _ _ => true
  | _ => false
theorem all_split {L : List Jvm.Cond} {P : Jvm.Cond → Bool} (h1 : L.all (fun c => isCode c || P c) = true) (h2 : ∀ c ∈ L.filter isCode, P c = true) : L.all P = true := by
  refine List.all_eq_true.mpr fun c hc => ?_
  have h := List.all_eq_true.mp h1 c hc
  rcases Bool.eq_false_or_eq_true (isCode c) with hi | hi
  · exact h2 c (List.mem_filter.mpr ⟨hc, hi⟩)
  · simpa [hi] using h
set_option maxRecDepth 65536 in
theorem w_c0 : (Jvm.Cond.code x code maxLocals ret).before args0 about1 = true := code_word (m := ⟨1, 1⟩) (meth := k1m1) (c := k1c1) (by decide +kernel) rfl rfl rfl (by decide +kernel)
set_option maxRecDepth 65536 in
theorem w_c1 : (Jvm.Cond.code ({ cls := "com/example/vagabond/vagabond/SplitMix64", name := "<init>", desc := "(J)V" } : Jvm.MethodName) prog_34_method_1_code (3 : Nat) (Option.none : Option Jvm.ClassFile.FieldType)).before args0 about1 = true := code_word (m := ⟨2, 0⟩) (meth := k2m0) (c := k2c0) (by decide +kernel) rfl rfl rfl (by decide +kernel)
set_option maxRecDepth 65536 in
theorem w_c2 : (Jvm.Cond.code ({ cls := "java/lang/Object", name := "<init>", desc := "()V" } : Jvm.MethodName) object_method_1_code (1 : Nat) (Option.none : Option Jvm.ClassFile.FieldType)).before args0 about1 = true := code_word (m := ⟨0, 0⟩) (meth := k0m0) (c := k0c0) (by decide +kernel) rfl rfl rfl (by decide +kernel)
set_option maxRecDepth 65536 in
theorem w_c3 : (Jvm.Cond.code ({ cls := "com/example/vagabond/vagabond/SplitMix64", name := "nextInt", desc := "(I)I" } : Jvm.MethodName) prog_34_method_4_code (8 : Nat) (Option.some Jvm.ClassFile.FieldType.int)).before args0 about1 = true := code_word (m := ⟨2, 2⟩) (meth := k2m2) (c := k2c2) (by decide +kernel) rfl rfl rfl (by decide +kernel)
set_option maxRecDepth 65536 in
theorem w_c4 : (Jvm.Cond.code ({ cls := "com/example/vagabond/vagabond/SplitMix64", name := "nextLong", desc := "()J" } : Jvm.MethodName) prog_34_method_2_code (3 : Nat) (Option.some Jvm.ClassFile.FieldType.long)).before args0 about1 = true := code_word (m := ⟨2, 1⟩) (meth := k2m1) (c := k2c1) (by decide +kernel) rfl rfl rfl (by decide +kernel)
def codes1 : List Jvm.Cond := [Jvm.Cond.code x code maxLocals ret, Jvm.Cond.code ({ cls := "com/example/vagabond/vagabond/SplitMix64", name := "<init>", desc := "(J)V" } : Jvm.MethodName) prog_34_method_1_code (3 : Nat) (Option.none : Option Jvm.ClassFile.FieldType), Jvm.Cond.code ({ cls := "java/lang/Object", name := "<init>", desc := "()V" } : Jvm.MethodName) object_method_1_code (1 : Nat) (Option.none : Option Jvm.ClassFile.FieldType), Jvm.Cond.code ({ cls := "com/example/vagabond/vagabond/SplitMix64", name := "nextInt", desc := "(I)I" } : Jvm.MethodName) prog_34_method_4_code (8 : Nat) (Option.some Jvm.ClassFile.FieldType.int), Jvm.Cond.code ({ cls := "com/example/vagabond/vagabond/SplitMix64", name := "nextLong", desc := "()J" } : Jvm.MethodName) prog_34_method_2_code (3 : Nat) (Option.some Jvm.ClassFile.FieldType.long)]
set_option maxRecDepth 65536 in
theorem codes_eq : words1.filter isCode = codes1 := rfl
theorem w_codes : ∀ c ∈ words1.filter isCode, c.before args0 about1 = true := by
  rw [codes_eq]
  intro c hc
  simp only [codes1, List.mem_cons, List.not_mem_nil, or_false] at hc
  rcases hc with rfl | rfl | rfl | rfl | rfl
  · exact w_c0
  · exact w_c1
  · exact w_c2
  · exact w_c3
  · exact w_c4
set_option maxRecDepth 65536 in
theorem w_t1 : (words1.take 24).all (fun c => isCode c || c.before args0 about1) = true := by decide +kernel
set_option maxRecDepth 65536 in
theorem w_t2 : (words1.drop 24).all (fun c => isCode c || c.before args0 about1) = true := by decide +kernel
theorem w_tables : (allAtoms (Jvm.Cond.code x code maxLocals ret :: tables_1)).before args0 about1 = true := by
  rw [allAtoms_all]
  show words1.all (fun c => c.before args0 about1) = true
  refine all_split ?_ w_codes
  rw [← List.take_append_drop 24 words1, List.all_append, w_t1, w_t2]
  rfl
set_option maxRecDepth 65536 in
theorem w_case : (Jvm.Cond.and given_1 narrow_1).before args0 about1 = true := by decide +kernel
theorem w_applies : (headSpec (Jvm.Cond.code x code maxLocals ret :: tables_1) room_1).applies x e0.platform about1 = true :=
  (Spec.applies_iff w_frames).mpr ⟨w_running, w_runnable, w_alone, w_named, w_hears, w_ripe, w_room, w_tables⟩
theorem atStart : AtStart classFile x code maxLocals ret World_1 tables_1 room_1 Calls_1 rest_1 Pre_1 launch0 p0 e0 about1 theMethod args0 below0 :=
  ⟨lists_1, trivial, launch0.admits_env _ _ _, launch0.least_env, fairChoices_fair.cas, fairChoices_fair.clock, w_frames, w_args, w_heap, w_applies, trivial, trivial, w_case⟩
end start1
theorem witness_1 : WitnessClaimed_1 := ⟨start1.p0, start1.e0, start1.about1, start1.theMethod, start1.args0, start1.below0, start1.atStart⟩
end Jvm.Pilot.@@N@@
