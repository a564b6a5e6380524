import JvmDerived
import JvmDerived.Pilot.@@N@@Statement
import JvmDerived.Pilot.@@N@@Code
set_option linter.unusedVariables false
set_option linter.unusedSimpArgs false
namespace Jvm.Pilot.@@N@@
open Jvm Jvm.ClassFile Sem Op Lib Jvm.Free Jvm.Stand Jvm.LawKit Jvm.RoadKit Bundle Jvm.Pilot.@@N@@.Jvm.D
/-- what a body still owes at the state U: that it comes to a return with Q, within kc cells and ks slots -/
def Ow (p : Program) (e : Env) (below : List Frame) (s : State) (Q : Option Value → Heap → List Loc → Prop) (kc ks : Nat) (U : State) : Prop :=
  ∃ s₂ o, Steps p.tables e below U s₂ ∧ s₂.status = .running ∧ Ended s₂ below o ∧ ∃ v L, o = .returned v ∧ Q v s₂.heap L ∧ FrameEnd s o s₂ L kc ks
def lsr64 (x : Int64) (y : Int32) : Int64 := ((x.toUInt64 >>> (y &&& 0x3f).toInt64.toUInt64).toInt64)
def lsr32 (x y : Int32) : Int32 := ((x.toUInt32 >>> (y &&& 31).toUInt32).toInt32)
section W
variable {p : Program} {l : Launch} {e : Env} {R : Room} {s : State} {m : MethodId} {args : Array Value} {below : List Frame} {meth : Method} {c : Code} {T : State} {locs : List Loc} {cells slots : Nat} {Q : Option Value → Heap → List Loc → Prop} {kc ks : Nat} {pc pc' : Nat} {Ls Ls' : Array Slot} {st : List Value} {Z : State} {a0 : Array Value} {h : Heap}
theorem Ow.go {U U' : State} (k : Steps p.tables e below U U') (o : Ow p e below s Q kc ks U') : Ow p e below s Q kc ks U := by
  obtain ⟨s₂, o', h1, h2⟩ := o
  exact ⟨s₂, o', k.trans h1, h2⟩
theorem Ow.via {U U' : State} (k : ∀ t, Steps p.tables e below U' t → Steps p.tables e below U t) (o : Ow p e below s Q kc ks U') : Ow p e below s Q kc ks U := Ow.go (k _ (Steps.refl _)) o
theorem Ow.enter {n : Nat} (q : entryFrame m args n = mkF m 0 Ls []) (k : Ow p e below s Q kc ks (T.setTop (mkF m 0 Ls []))) :
    ∃ s₂ o, Steps p.tables e below (T.setTop (entryFrame m args n)) s₂ ∧ s₂.status = .running ∧ Ended s₂ below o ∧ ∃ v L, o = .returned v ∧ Q v s₂.heap L ∧ FrameEnd s o s₂ L kc ks := by
  rw [q]; exact k
theorem Ow.join {U : State} (T' : State) (g' : JFrame) (f : Ow p e below s Q kc ks (T'.setTop g') → Ow p e below s Q kc ks U) (k : Ow p e below s Q kc ks (T'.setTop g')) : Ow p e below s Q kc ks U := f k
theorem w_iloadN (X : Stand p l e R s m args below meth c T locs cells slots) (hx : p.tables.exec = Jvm.exec) {k : Fin 4} {v : Int32} (hd : decode c.code pc = .ok (.iload_n k, 1)) (hl : Ls[k.val]? = some (.val (.int v))) (hp : pc + 1 = pc') (k : Ow p e below s Q kc ks (T.setTop (mkF m pc' Ls (.int v :: st)))) : Ow p e below s Q kc ks (T.setTop (mkF m pc Ls st)) := by
  subst hp; exact Ow.go (XS.iloadN X.here hx rfl hd hl (Steps.refl _)) k
theorem w_iload (X : Stand p l e R s m args below meth c T locs cells slots) (hx : p.tables.exec = Jvm.exec) {k : Nat} {v : Int32} (hd : decode c.code pc = .ok (.iload k, 2)) (hl : Ls[k]? = some (.val (.int v))) (hp : pc + 2 = pc') (k : Ow p e below s Q kc ks (T.setTop (mkF m pc' Ls (.int v :: st)))) : Ow p e below s Q kc ks (T.setTop (mkF m pc Ls st)) := by
  subst hp; exact Ow.go (XS.iload X.here hx rfl hd hl (Steps.refl _)) k
theorem w_istore (X : Stand p l e R s m args below meth c T locs cells slots) (hx : p.tables.exec = Jvm.exec) {k : Nat} {v : Int32} (hd : decode c.code pc = .ok (.istore k, 2)) (Ls' : Array Slot) (hl : storeLocals Ls k (.int v) = some Ls') (hp : pc + 2 = pc') (k : Ow p e below s Q kc ks (T.setTop (mkF m pc' Ls' st))) : Ow p e below s Q kc ks (T.setTop (mkF m pc Ls (.int v :: st))) := by
  subst hp; exact Ow.go (XS.istore X.here hx rfl hd rfl hl (Steps.refl _)) k
theorem w_lloadN (X : Stand p l e R s m args below meth c T locs cells slots) (hx : p.tables.exec = Jvm.exec) {k : Fin 4} {v : Int64} (hd : decode c.code pc = .ok (.lload_n k, 1)) (hl : Ls[k.val]? = some (.val (.long v))) (hp : pc + 1 = pc') (k : Ow p e below s Q kc ks (T.setTop (mkF m pc' Ls (.long v :: st)))) : Ow p e below s Q kc ks (T.setTop (mkF m pc Ls st)) := by
  subst hp; exact Ow.go (XS.lloadN X.here hx rfl hd hl (Steps.refl _)) k
theorem w_lload (X : Stand p l e R s m args below meth c T locs cells slots) (hx : p.tables.exec = Jvm.exec) {k : Nat} {v : Int64} (hd : decode c.code pc = .ok (.lload k, 2)) (hl : Ls[k]? = some (.val (.long v))) (hp : pc + 2 = pc') (k : Ow p e below s Q kc ks (T.setTop (mkF m pc' Ls (.long v :: st)))) : Ow p e below s Q kc ks (T.setTop (mkF m pc Ls st)) := by
  subst hp; exact Ow.go (XS.lload X.here hx rfl hd hl (Steps.refl _)) k
theorem w_lstoreN (X : Stand p l e R s m args below meth c T locs cells slots) (hx : p.tables.exec = Jvm.exec) {k : Fin 4} {v : Int64} (hd : decode c.code pc = .ok (.lstore_n k, 1)) (Ls' : Array Slot) (hl : storeLocals Ls k.val (.long v) = some Ls') (hp : pc + 1 = pc') (k : Ow p e below s Q kc ks (T.setTop (mkF m pc' Ls' st))) : Ow p e below s Q kc ks (T.setTop (mkF m pc Ls (.long v :: st))) := by
  subst hp; exact Ow.go (XS.lstoreN X.here hx rfl hd rfl hl (Steps.refl _)) k
theorem w_lstore (X : Stand p l e R s m args below meth c T locs cells slots) (hx : p.tables.exec = Jvm.exec) {k : Nat} {v : Int64} (hd : decode c.code pc = .ok (.lstore k, 2)) (Ls' : Array Slot) (hl : storeLocals Ls k (.long v) = some Ls') (hp : pc + 2 = pc') (k : Ow p e below s Q kc ks (T.setTop (mkF m pc' Ls' st))) : Ow p e below s Q kc ks (T.setTop (mkF m pc Ls (.long v :: st))) := by
  subst hp; exact Ow.go (XS.lstore X.here hx rfl hd rfl hl (Steps.refl _)) k
theorem w_aloadN (X : Stand p l e R s m args below meth c T locs cells slots) (hx : p.tables.exec = Jvm.exec) {k : Fin 4} {v : Value} (hd : decode c.code pc = .ok (.aload_n k, 1)) (hl : Ls[k.val]? = some (.val v)) (hv : v.isRef = true) (hp : pc + 1 = pc') (k : Ow p e below s Q kc ks (T.setTop (mkF m pc' Ls (v :: st)))) : Ow p e below s Q kc ks (T.setTop (mkF m pc Ls st)) := by
  subst hp; exact Ow.go (XS.aloadN X.here hx rfl hd hl hv (Steps.refl _)) k
theorem w_aload (X : Stand p l e R s m args below meth c T locs cells slots) (hx : p.tables.exec = Jvm.exec) {k : Nat} {v : Value} (hd : decode c.code pc = .ok (.aload k, 2)) (hl : Ls[k]? = some (.val v)) (hv : v.isRef = true) (hp : pc + 2 = pc') (k : Ow p e below s Q kc ks (T.setTop (mkF m pc' Ls (v :: st)))) : Ow p e below s Q kc ks (T.setTop (mkF m pc Ls st)) := by
  subst hp; exact Ow.go (XS.aload X.here hx rfl hd hl hv (Steps.refl _)) k
theorem w_astore (X : Stand p l e R s m args below meth c T locs cells slots) (hx : p.tables.exec = Jvm.exec) {k : Nat} {v : Value} (hd : decode c.code pc = .ok (.astore k, 2)) (Ls' : Array Slot) (hl : storeLocals Ls k v = some Ls') (hv : v.isRef = true) (hp : pc + 2 = pc') (k : Ow p e below s Q kc ks (T.setTop (mkF m pc' Ls' st))) : Ow p e below s Q kc ks (T.setTop (mkF m pc Ls (v :: st))) := by
  subst hp; exact Ow.go (XS.astore X.here hx rfl hd rfl hv hl (Steps.refl _)) k
theorem w_iconst (X : Stand p l e R s m args below meth c T locs cells slots) (hx : p.tables.exec = Jvm.exec) {i : Int} (v : Int32) (hd : decode c.code pc = .ok (.iconst i, 1)) (hv : Int32.ofInt i = v) (hp : pc + 1 = pc') (k : Ow p e below s Q kc ks (T.setTop (mkF m pc' Ls (.int v :: st)))) : Ow p e below s Q kc ks (T.setTop (mkF m pc Ls st)) := by
  subst hp hv; exact Ow.go (XS.iconst X.here hx rfl hd (Steps.refl _)) k
theorem w_lconst (X : Stand p l e R s m args below meth c T locs cells slots) (hx : p.tables.exec = Jvm.exec) {i : Fin 2} (v : Int64) (hd : decode c.code pc = .ok (.lconst i, 1)) (hv : Int64.ofNat i = v) (hp : pc + 1 = pc') (k : Ow p e below s Q kc ks (T.setTop (mkF m pc' Ls (.long v :: st)))) : Ow p e below s Q kc ks (T.setTop (mkF m pc Ls st)) := by
  subst hp hv; exact Ow.go (XS.lconst X.here hx rfl hd (Steps.refl _)) k
theorem w_ldc2J (X : Stand p l e R s m args below meth c T locs cells slots) (hx : p.tables.exec = Jvm.exec) (hZ : Z.Warmed39 s.vm) {own : String} {index : Nat} {v : Int64} (hown : s.vm.findClass own = some m.cls) (w : (Cond.constantLong own index v).before a0 Z = true) (hd : decode c.code pc = .ok (.ldc2_w index, 3)) (hp : pc + 3 = pc') (k : Ow p e below s Q kc ks (T.setTop (mkF m pc' Ls (.long v :: st)))) : Ow p e below s Q kc ks (T.setTop (mkF m pc Ls st)) := by
  subst hp; exact Ow.via (X.ldc2Long hx hown (mvT hZ w) (g := mkF m pc Ls st) rfl hd) k
theorem w_ladd (X : Stand p l e R s m args below meth c T locs cells slots) (hx : p.tables.exec = Jvm.exec) {x y : Int64} (hd : decode c.code pc = .ok (.ladd, 1))  (hp : pc + 1 = pc') (k : Ow p e below s Q kc ks (T.setTop (mkF m pc' Ls (.long (x + y) :: st)))) : Ow p e below s Q kc ks (T.setTop (mkF m pc Ls (.long y :: .long x :: st))) := by
  subst hp; exact Ow.go (XS.ladd X.here hx rfl hd rfl (Steps.refl _)) k
theorem w_lsub (X : Stand p l e R s m args below meth c T locs cells slots) (hx : p.tables.exec = Jvm.exec) {x y : Int64} (hd : decode c.code pc = .ok (.lsub, 1))  (hp : pc + 1 = pc') (k : Ow p e below s Q kc ks (T.setTop (mkF m pc' Ls (.long (x - y) :: st)))) : Ow p e below s Q kc ks (T.setTop (mkF m pc Ls (.long y :: .long x :: st))) := by
  subst hp; exact Ow.go (XS.lsub X.here hx rfl hd rfl (Steps.refl _)) k
theorem w_lmul (X : Stand p l e R s m args below meth c T locs cells slots) (hx : p.tables.exec = Jvm.exec) {x y : Int64} (hd : decode c.code pc = .ok (.lmul, 1))  (hp : pc + 1 = pc') (k : Ow p e below s Q kc ks (T.setTop (mkF m pc' Ls (.long (x * y) :: st)))) : Ow p e below s Q kc ks (T.setTop (mkF m pc Ls (.long y :: .long x :: st))) := by
  subst hp; exact Ow.go (XS.lmul X.here hx rfl hd rfl (Steps.refl _)) k
theorem w_iand (X : Stand p l e R s m args below meth c T locs cells slots) (hx : p.tables.exec = Jvm.exec) {x y : Int32} (hd : decode c.code pc = .ok (.iand, 1))  (hp : pc + 1 = pc') (k : Ow p e below s Q kc ks (T.setTop (mkF m pc' Ls (.int (x &&& y) :: st)))) : Ow p e below s Q kc ks (T.setTop (mkF m pc Ls (.int y :: .int x :: st))) := by
  subst hp; exact Ow.go (XS.iand X.here hx rfl hd rfl (Steps.refl _)) k
theorem w_ldiv (X : Stand p l e R s m args below meth c T locs cells slots) (hx : p.tables.exec = Jvm.exec) {x y : Int64} (hd : decode c.code pc = .ok (.ldiv, 1)) (hy : ¬ y = 0) (hp : pc + 1 = pc') (k : Ow p e below s Q kc ks (T.setTop (mkF m pc' Ls (.long (x / y) :: st)))) : Ow p e below s Q kc ks (T.setTop (mkF m pc Ls (.long y :: .long x :: st))) := by
  subst hp; exact Ow.go (XS.ldiv X.here hx rfl hd rfl hy (Steps.refl _)) k
theorem w_i2l (X : Stand p l e R s m args below meth c T locs cells slots) (hx : p.tables.exec = Jvm.exec) {x : Int32} (hd : decode c.code pc = .ok (.i2l, 1))  (hp : pc + 1 = pc') (k : Ow p e below s Q kc ks (T.setTop (mkF m pc' Ls (.long (x.toInt64) :: st)))) : Ow p e below s Q kc ks (T.setTop (mkF m pc Ls (.int x :: st))) := by
  subst hp; exact Ow.go (XS.i2l X.here hx rfl hd rfl (Steps.refl _)) k
theorem w_dup (X : Stand p l e R s m args below meth c T locs cells slots) (hx : p.tables.exec = Jvm.exec) {x : Value} (hd : decode c.code pc = .ok (.dup, 1)) (hc : x.category = 1) (hp : pc + 1 = pc') (k : Ow p e below s Q kc ks (T.setTop (mkF m pc' Ls (x :: x :: st)))) : Ow p e below s Q kc ks (T.setTop (mkF m pc Ls (x :: st))) := by
  subst hp; exact Ow.go (XS.dup X.here hx rfl hd rfl hc (Steps.refl _)) k
theorem w_goto (X : Stand p l e R s m args below meth c T locs cells slots) (hx : p.tables.exec = Jvm.exec) {o : Int} (hd : decode c.code pc = .ok (.goto o, 3)) (ho : 0 ≤ (pc : Int) + o) (hp : ((pc : Int) + o).toNat = pc') (k : Ow p e below s Q kc ks (T.setTop (mkF m pc' Ls st))) : Ow p e below s Q kc ks (T.setTop (mkF m pc Ls st)) := by
  exact Ow.go (XS.goto X.here hx rfl (pc0 := pc) rfl hd ho hp (Steps.refl _)) k
theorem w_icmp_ne (X : Stand p l e R s m args below meth c T locs cells slots) (hx : p.tables.exec = Jvm.exec) {x y : Int32} {o : Int} {pcT pcF : Nat} (hd : decode c.code pc = .ok (.if_icmp .ne o, 3)) (ho : 0 ≤ (pc : Int) + o) (ht : ((pc : Int) + o).toNat = pcT) (hp : pc + 3 = pcF) (k1 : ¬ (x = y) → Ow p e below s Q kc ks (T.setTop (mkF m pcT Ls st))) (k2 : x = y → Ow p e below s Q kc ks (T.setTop (mkF m pcF Ls st))) : Ow p e below s Q kc ks (T.setTop (mkF m pc Ls (.int y :: .int x :: st))) := by
  subst hp
  by_cases q : x = y
  · exact Ow.go (XS.icmpNo X.here hx rfl hd rfl (teq q).2 (Steps.refl _)) (k2 q)
  · exact Ow.go (XS.icmpYes X.here hx rfl (pc0 := pc) rfl hd rfl (feq q).2 ho ht (Steps.refl _)) (k1 q)
theorem w_if_lt (X : Stand p l e R s m args below meth c T locs cells slots) (hx : p.tables.exec = Jvm.exec) {x : Int32} {o : Int} {pcT pcF : Nat} (hd : decode c.code pc = .ok (.ifCond .lt o, 3)) (ho : 0 ≤ (pc : Int) + o) (ht : ((pc : Int) + o).toNat = pcT) (hp : pc + 3 = pcF) (k1 : x < (0 : Int32) → Ow p e below s Q kc ks (T.setTop (mkF m pcT Ls st))) (k2 : ¬ (x < (0 : Int32)) → Ow p e below s Q kc ks (T.setTop (mkF m pcF Ls st))) : Ow p e below s Q kc ks (T.setTop (mkF m pc Ls (.int x :: st))) := by
  subst hp
  by_cases q : x < (0 : Int32)
  · exact Ow.go (XS.ifYes X.here hx rfl (pc0 := pc) rfl hd rfl ((if0 _ _).trans (tlt q).1) ho ht (Steps.refl _)) (k1 q)
  · exact Ow.go (XS.ifNo X.here hx rfl hd rfl ((if0 _ _).trans (flt q).1) (Steps.refl _)) (k2 q)
theorem w_lcmp_lt (X : Stand p l e R s m args below meth c T locs cells slots) (hx : p.tables.exec = Jvm.exec) {x y : Int64} {o : Int} {pc1 pcT pcF : Nat} (hd : decode c.code pc = .ok (.lcmp, 1)) (hd1 : decode c.code pc1 = .ok (.ifCond .lt o, 3)) (hp1 : pc + 1 = pc1) (ho : 0 ≤ (pc1 : Int) + o) (ht : ((pc1 : Int) + o).toNat = pcT) (hp : pc1 + 3 = pcF) (k1 : x < y → Ow p e below s Q kc ks (T.setTop (mkF m pcT Ls st))) (k2 : ¬ (x < y) → Ow p e below s Q kc ks (T.setTop (mkF m pcF Ls st))) : Ow p e below s Q kc ks (T.setTop (mkF m pc Ls (.long y :: .long x :: st))) := by
  subst hp1
  refine Ow.go (XS.lcmp X.here hx rfl hd rfl (Steps.refl _)) ?_
  exact w_if_lt X hx (x := lcmpW x y) hd1 ho ht hp (fun q => k1 ((lw_lt x y).mp q)) (fun q => k2 (fun r => q ((lw_lt x y).mpr r)))
theorem w_if_ge (X : Stand p l e R s m args below meth c T locs cells slots) (hx : p.tables.exec = Jvm.exec) {x : Int32} {o : Int} {pcT pcF : Nat} (hd : decode c.code pc = .ok (.ifCond .ge o, 3)) (ho : 0 ≤ (pc : Int) + o) (ht : ((pc : Int) + o).toNat = pcT) (hp : pc + 3 = pcF) (k1 : ¬ (x < (0 : Int32)) → Ow p e below s Q kc ks (T.setTop (mkF m pcT Ls st))) (k2 : x < (0 : Int32) → Ow p e below s Q kc ks (T.setTop (mkF m pcF Ls st))) : Ow p e below s Q kc ks (T.setTop (mkF m pc Ls (.int x :: st))) := by
  subst hp
  by_cases q : x < (0 : Int32)
  · exact Ow.go (XS.ifNo X.here hx rfl hd rfl ((if0 _ _).trans (tlt q).2.1) (Steps.refl _)) (k2 q)
  · exact Ow.go (XS.ifYes X.here hx rfl (pc0 := pc) rfl hd rfl ((if0 _ _).trans (flt q).2.1) ho ht (Steps.refl _)) (k1 q)
theorem w_lcmp_ge (X : Stand p l e R s m args below meth c T locs cells slots) (hx : p.tables.exec = Jvm.exec) {x y : Int64} {o : Int} {pc1 pcT pcF : Nat} (hd : decode c.code pc = .ok (.lcmp, 1)) (hd1 : decode c.code pc1 = .ok (.ifCond .ge o, 3)) (hp1 : pc + 1 = pc1) (ho : 0 ≤ (pc1 : Int) + o) (ht : ((pc1 : Int) + o).toNat = pcT) (hp : pc1 + 3 = pcF) (k1 : ¬ (x < y) → Ow p e below s Q kc ks (T.setTop (mkF m pcT Ls st))) (k2 : x < y → Ow p e below s Q kc ks (T.setTop (mkF m pcF Ls st))) : Ow p e below s Q kc ks (T.setTop (mkF m pc Ls (.long y :: .long x :: st))) := by
  subst hp1
  refine Ow.go (XS.lcmp X.here hx rfl hd rfl (Steps.refl _)) ?_
  exact w_if_ge X hx (x := lcmpW x y) hd1 ho ht hp (fun q => k1 (fun r => q ((lw_lt x y).mpr r))) (fun q => k2 ((lw_lt x y).mp q))
theorem w_if_gt (X : Stand p l e R s m args below meth c T locs cells slots) (hx : p.tables.exec = Jvm.exec) {x : Int32} {o : Int} {pcT pcF : Nat} (hd : decode c.code pc = .ok (.ifCond .gt o, 3)) (ho : 0 ≤ (pc : Int) + o) (ht : ((pc : Int) + o).toNat = pcT) (hp : pc + 3 = pcF) (k1 : (0 : Int32) < x → Ow p e below s Q kc ks (T.setTop (mkF m pcT Ls st))) (k2 : ¬ ((0 : Int32) < x) → Ow p e below s Q kc ks (T.setTop (mkF m pcF Ls st))) : Ow p e below s Q kc ks (T.setTop (mkF m pc Ls (.int x :: st))) := by
  subst hp
  by_cases q : (0 : Int32) < x
  · exact Ow.go (XS.ifYes X.here hx rfl (pc0 := pc) rfl hd rfl ((if0 _ _).trans (tlt q).2.2.1) ho ht (Steps.refl _)) (k1 q)
  · exact Ow.go (XS.ifNo X.here hx rfl hd rfl ((if0 _ _).trans (flt q).2.2.1) (Steps.refl _)) (k2 q)
theorem w_lcmp_gt (X : Stand p l e R s m args below meth c T locs cells slots) (hx : p.tables.exec = Jvm.exec) {x y : Int64} {o : Int} {pc1 pcT pcF : Nat} (hd : decode c.code pc = .ok (.lcmp, 1)) (hd1 : decode c.code pc1 = .ok (.ifCond .gt o, 3)) (hp1 : pc + 1 = pc1) (ho : 0 ≤ (pc1 : Int) + o) (ht : ((pc1 : Int) + o).toNat = pcT) (hp : pc1 + 3 = pcF) (k1 : y < x → Ow p e below s Q kc ks (T.setTop (mkF m pcT Ls st))) (k2 : ¬ (y < x) → Ow p e below s Q kc ks (T.setTop (mkF m pcF Ls st))) : Ow p e below s Q kc ks (T.setTop (mkF m pc Ls (.long y :: .long x :: st))) := by
  subst hp1
  refine Ow.go (XS.lcmp X.here hx rfl hd rfl (Steps.refl _)) ?_
  exact w_if_gt X hx (x := lcmpW x y) hd1 ho ht hp (fun q => k1 ((lw_gt x y).mp q)) (fun q => k2 (fun r => q ((lw_gt x y).mpr r)))
theorem w_lreturn (X : Stand p l e R s m args below meth c T locs cells slots) (hx : p.tables.exec = Jvm.exec) {z : Int64} (hret : meth.sig.returnType = some .long)  (hlk : meth.locks = false) (hc : cells ≤ kc) (hs : slots ≤ ks) (hd : decode c.code pc = .ok (.lreturn, 1)) (hq : Q (some (.long z)) T.heap locs) : Ow p e below s Q kc ks (T.setTop (mkF m pc Ls (.long z :: st))) := by
  obtain ⟨fs, hr, hrun, hended, hW, hsame⟩ := X.leave (v := some (.long z)) (fun h => by rw [hret] at h; cases h) hlk
  exact ⟨_, _, retOut X hx (t := .long) hret rfl (Or.inr (Or.inl ⟨rfl, rfl, _, rfl⟩)) hd hr, hrun, hended, _, _, rfl, hq, ⟨_, rfl⟩, hW, hsame.mono hc hs⟩
theorem w_zreturn (X : Stand p l e R s m args below meth c T locs cells slots) (hx : p.tables.exec = Jvm.exec) {z : Int32} (hret : meth.sig.returnType = some .boolean) (hz : z = 0 ∨ z = 1) (hlk : meth.locks = false) (hc : cells ≤ kc) (hs : slots ≤ ks) (hd : decode c.code pc = .ok (.ireturn, 1)) (hq : Q (some (.int z)) T.heap locs) : Ow p e below s Q kc ks (T.setTop (mkF m pc Ls (.int z :: st))) := by
  obtain ⟨fs, hr, hrun, hended, hW, hsame⟩ := X.leave (v := some (.int z)) (fun h => by rw [hret] at h; cases h) hlk
  exact ⟨_, _, retOut X hx (t := .boolean) hret (by rcases hz with rfl | rfl <;> rfl) (Or.inl ⟨rfl, Or.inr (Or.inl rfl), _, rfl⟩) hd hr, hrun, hended, _, _, rfl, hq, ⟨_, rfl⟩, hW, hsame.mono hc hs⟩
theorem w_return (X : Stand p l e R s m args below meth c T locs cells slots) (hx : p.tables.exec = Jvm.exec) (hret : meth.sig.returnType = none) (hlk : meth.locks = false) (hc : cells ≤ kc) (hs : slots ≤ ks) (hd : decode c.code pc = .ok (.return_, 1)) (hq : Q none T.heap locs) : Ow p e below s Q kc ks (T.setTop (mkF m pc Ls [])) := by
  obtain ⟨fs, hr, hrun, hended, hW, hsame⟩ := X.leave (v := none) (fun _ => rfl) hlk
  exact ⟨_, _, X.returnOut hx hret hd hr, hrun, hended, _, _, rfl, hq, ⟨_, rfl⟩, hW, hsame.mono hc hs⟩
theorem w_getfield (X : Stand p l e R s m args below meth c T locs cells slots) (hx : p.tables.exec = Jvm.exec) (hZ : Z.Warmed39 s.vm) {own R0 O n d host : String} {index : Nat} (hown : s.vm.findClass own = some m.cls) (w : (Cond.fieldLink own index R0 n d).before a0 Z = true ∨ (Cond.fieldLinkNest own index R0 n d host).before a0 Z = true) (via : Via Z R0 O n d) (eT : T.heap = h) {a : Addr} {v : Value} (F : Fld Z h a O n d v) (hd : decode c.code pc = .ok (.getfield index, 3)) (hp : pc + 3 = pc') (k : ∀ T', Stand p l e R s m args below meth c T' locs cells slots → T'.heap = h → Ow p e below s Q kc ks (T'.setTop (mkF m pc' Ls (v :: st)))) : Ow p e below s Q kc ks (T.setTop (mkF m pc Ls (.ref a :: st))) := by
  subst hp
  obtain ⟨T', X', e', st'⟩ := getF X hx hZ hown w via eT F (g := mkF m pc Ls (.ref a :: st)) rfl rfl hd
  exact Ow.via st' (k T' X' e')
theorem w_putfield (X : Stand p l e R s m args below meth c T locs cells slots) (hx : p.tables.exec = Jvm.exec) (hZ : Z.Warmed39 s.vm) {own R0 O n d host C : String} {index kk : Nat} {ty : FieldType} (hown : s.vm.findClass own = some m.cls) (w : (Cond.fieldLink own index R0 n d).before a0 Z = true ∨ (Cond.fieldLinkNest own index R0 n d host).before a0 Z = true) (via : Via Z R0 O n d) (eT : T.heap = h) {a : Addr} {v old : Value} (F : Fld Z h a O n d old) (E : Exa Z h a C) (L : (Cond.lays C O n d).before a0 Z = true ∨ ((Cond.laysFinal C O n d).before a0 Z = true ∧ own = O ∧ meth.name = "<init>")) (wi : (Cond.instantiable C kk).before a0 Z = true) (hty : parseFieldDescriptor d = some ty) (hn : narrow ty v = v) (hf : fits ty v = true) (hd : decode c.code pc = .ok (.putfield index, 3)) (hp : pc + 3 = pc') (k : ∀ T' h', Stand p l e R s m args below meth c T' (locs ++ [⟨a, RoadKit.slotOf Z O n d⟩]) cells slots → T'.heap = h' → Wr h h' a (RoadKit.slotOf Z O n d) v → Ow p e below s Q kc ks (T'.setTop (mkF m pc' Ls st))) : Ow p e below s Q kc ks (T.setTop (mkF m pc Ls (v :: .ref a :: st))) := by
  subst hp
  obtain ⟨T', h', X', e', W', st'⟩ := putF X hx hZ hown w via eT F E L wi hty hn hf (g := mkF m pc Ls (v :: .ref a :: st)) rfl rfl hd
  exact Ow.via st' (k T' h' X' e' W')
theorem w_new (X : Stand p l e R s m args below meth c T locs cells slots) (hx : p.tables.exec = Jvm.exec) (hZ : Z.Warmed39 s.vm) {own C : String} {index n : Nat} (hown : s.vm.findClass own = some m.cls) (w : (Cond.classLink own index C).before a0 Z = true) (wi : (Cond.instantiable C n).before a0 Z = true) (wz : (Cond.initialized C).before a0 Z = true) (eT : T.heap = h) (hd : decode c.code pc = .ok (.new index, 3)) (hc : cells + 1 ≤ R.cells) (hl : slots + n ≤ R.slots) (hp : pc + 3 = pc') (k : ∀ T' h' a, a = h.size → Stand p l e R s m args below meth c T' locs (cells + 1) (slots + n) → T'.heap = h' → Ext h h' → Exa Z h' a C → (∀ {O nm d : String} {ty : FieldType}, Laid Z a0 C O nm d → parseFieldDescriptor d = some ty → Fld Z h' a O nm d (defaultValue ty)) → Ow p e below s Q kc ks (T'.setTop (mkF m pc' Ls (.ref a :: st)))) : Ow p e below s Q kc ks (T.setTop (mkF m pc Ls st)) := by
  subst hp
  obtain ⟨T', h', X', e', E', A', D', -, st'⟩ := newO X hx hZ hown w wi wz eT (g := mkF m pc Ls st) rfl hd hc hl
  exact Ow.via st' (k T' h' _ rfl X' e' E' A' D')
theorem w_objinit (X : Stand p l e R s m args below meth c T locs cells slots) (hx : p.tables.exec = Jvm.exec) (hZ : Z.Warmed39 s.vm) {own : String} {idx : Nat} (hown : s.vm.findClass own = some m.cls) (w1 : (Cond.methodLink own idx Lib.objectInit).before a0 Z = true) (w2 : (Cond.instanceMethod Lib.objectInit).before a0 Z = true) (w3 : (Cond.code Lib.objectInit ⟨#[0xb1]⟩ 1 none).before a0 Z = true) (eT : T.heap = h) {a : Addr} (hd : decode c.code pc = .ok (.invokespecial idx, 3)) (hsz : Ls.size = c.maxLocals) (hf : 1 ≤ R.frames) {W : Nat} (hW : (st.map fun v => v.category).sum ≤ W) (hl : W + 12 ≤ R.locals) (hp : pc + 3 = pc') (k : ∀ T', Stand p l e R s m args below meth c T' locs cells slots → T'.heap = h → Ow p e below s Q kc ks (T'.setTop (mkF m pc' Ls st))) : Ow p e below s Q kc ks (T.setTop (mkF m pc Ls (.ref a :: st))) := by
  subst hp
  obtain ⟨T', X', e', st'⟩ := initO X hx hZ hown w1 w2 w3 eT (g := mkF m pc Ls (.ref a :: st)) rfl hsz rfl hd hf (W := W) (by show 2 * 0 + _ ≤ _; omega) hl
  exact Ow.via st' (k T' X' e')
theorem w_callS (X : Stand p l e R s m args below meth c T locs cells slots) (hx : p.tables.exec = Jvm.exec) (hZ : Z.Warmed39 s.vm) {own : String} {index : Nat} {y : MethodName} {bytes : ByteArray} {maxL : Nat} {ret : Option FieldType} (hown : s.vm.findClass own = some m.cls) (w1 : (Cond.methodLink own index y).before a0 Z = true) (w2 : (Cond.static y).before a0 Z = true) (w3 : (Cond.initialized y.cls).before a0 Z = true) (w4 : (Cond.code y bytes maxL ret).before a0 Z = true) (hy : y.cls ≠ "java/lang/invoke/MethodHandle" ∧ y.cls ≠ "java/lang/invoke/VarHandle") {rm : Room} {as' : Array Value} {Qf : Option Value → Heap → List Loc → Prop} {W : Nat} (hM : MetFree l y (head1 [Cond.code y bytes maxL ret] rm) (fun a U => a = as' ∧ Z.Warmed39 U.vm ∧ U.heap = h) (fun _ _ _ _ _ => True) (fun _ U o U' => ∃ v L, o = .returned v ∧ Qf v U'.heap L ∧ FrameEnd U o U' L rm.cells rm.slots)) (eT : T.heap = h) (hf : rm.frames + 1 ≤ R.frames) (hlo : W + (maxL + 11) + rm.locals ≤ R.locals) (hc : cells + rm.cells ≤ R.cells) (hs : slots + rm.slots ≤ R.slots) (hd : decode c.code pc = .ok (.invokestatic index, 3)) (hsz : Ls.size = c.maxLocals) {argsL rest : List Value} {ps : List FieldType} {r : Option FieldType} (pd : parseMethodDescriptor y.desc = some ⟨ps, r⟩) (hlen : argsL.length = ps.length) (hst : st = argsL.reverse ++ rest) (has : argsL.toArray = as') (hW : (rest.map fun v => v.category).sum ≤ W) (hp : pc + 3 = pc') (k : ∀ v T' L, Stand p l e R s m args below meth c T' (locs ++ L) (cells + rm.cells) (slots + rm.slots) → Qf v T'.heap L → Ow p e below s Q kc ks (T'.setTop (mkF m pc' Ls (v.toList ++ rest)))) : Ow p e below s Q kc ks (T.setTop (mkF m pc Ls st)) := by
  subst hp
  obtain ⟨v, vm₁, ⟨T', L', k', n'⟩, -, X', ⟨L, hq, l1, y1, z1⟩, st'⟩ := Jvm.LawKit.callS X hx hown (mvT hZ w1) (mvT hZ w2) (mvT hZ w3) (mvT hZ w4) hy (backOf (W := W) hM hZ w4 w3 hf hlo) (g := mkF m pc Ls st) rfl hsz (argsL := argsL) (rest := rest) (lenOf pd hlen) hst (by show 2 * 0 + _ ≤ _; omega) hd (fun _ _ => ⟨has, eT, hc, hs⟩)
  dsimp only [Pt.U, Pt.locs, Pt.cells, Pt.slots] at X' l1 y1 z1 st' hq
  subst l1 y1 z1
  exact Ow.via st' (k v T' L X' hq)
theorem w_callN (X : Stand p l e R s m args below meth c T locs cells slots) (hx : p.tables.exec = Jvm.exec) (hZ : Z.Warmed39 s.vm) {own : String} {index : Nat} {y : MethodName} {bytes : ByteArray} {maxL : Nat} (hy1 : y.name = "<init>") (hown : s.vm.findClass own = some m.cls) (w1 : (Cond.methodLink own index y).before a0 Z = true) (w2 : (Cond.instanceMethod y).before a0 Z = true) (w3 : (Cond.initialized y.cls).before a0 Z = true) (w4 : (Cond.code y bytes maxL none).before a0 Z = true) (hy : y.cls ≠ "java/lang/invoke/MethodHandle" ∧ y.cls ≠ "java/lang/invoke/VarHandle") {rm : Room} {as' : Array Value} {Qf : Option Value → Heap → List Loc → Prop} {W : Nat} (hM : MetFree l y (head1 [Cond.code y bytes maxL none] rm) (fun a U => a = as' ∧ Z.Warmed39 U.vm ∧ U.heap = h) (fun _ _ _ _ _ => True) (fun _ U o U' => ∃ v L, o = .returned v ∧ Qf v U'.heap L ∧ FrameEnd U o U' L rm.cells rm.slots)) (eT : T.heap = h) (hf : rm.frames + 1 ≤ R.frames) (hlo : W + (maxL + 11) + rm.locals ≤ R.locals) (hc : cells + rm.cells ≤ R.cells) (hs : slots + rm.slots ≤ R.slots) (hd : decode c.code pc = .ok (.invokespecial index, 3)) (hsz : Ls.size = c.maxLocals) {a : Addr} {argsL rest : List Value} {ps : List FieldType} {r : Option FieldType} (pd : parseMethodDescriptor y.desc = some ⟨ps, r⟩) (hlen : argsL.length = ps.length) (hst : st = argsL.reverse ++ .ref a :: rest) (has : (Value.ref a :: argsL).toArray = as') (hW : (rest.map fun v => v.category).sum ≤ W) (hp : pc + 3 = pc') (k : ∀ v T' L, Stand p l e R s m args below meth c T' (locs ++ L) (cells + rm.cells) (slots + rm.slots) → Qf v T'.heap L → Ow p e below s Q kc ks (T'.setTop (mkF m pc' Ls (v.toList ++ rest)))) : Ow p e below s Q kc ks (T.setTop (mkF m pc Ls st)) := by
  subst hp
  obtain ⟨v, vm₁, ⟨T', L', k', n'⟩, -, X', ⟨L, hq, l1, y1, z1⟩, st'⟩ := X.specialBack hx hy1 hown (mvT hZ w1) (mvT hZ w2) (mvT hZ w4) hy (backOf (W := W) hM hZ w4 w3 hf hlo) (g := mkF m pc Ls st) rfl hsz (Steps.refl _) (a := a) (argsL := argsL) (rest := rest) (lenOf pd hlen) hst (by show 2 * 0 + _ ≤ _; omega) hd (fun _ _ => ⟨has, eT, hc, hs⟩)
  dsimp only [Pt.U, Pt.locs, Pt.cells, Pt.slots] at X' l1 y1 z1 st' hq
  subst l1 y1 z1
  exact Ow.go st' (k v T' L X' hq)
theorem w_callV (X : Stand p l e R s m args below meth c T locs cells slots) (hx : p.tables.exec = Jvm.exec) (hZ : Z.Warmed39 s.vm) {own C : String} {index : Nat} {y z : MethodName} {bytes : ByteArray} {maxL : Nat} {ret : Option FieldType} (hown : s.vm.findClass own = some m.cls) (w1 : (Cond.methodLink own index y).before a0 Z = true) (w2 : (Cond.declares y).before a0 Z = true) (nf : NotFace s y) (w5 : (Cond.selects C y z).before a0 Z = true) (w6 : (Cond.instanceMethod z).before a0 Z = true) (w3 : (Cond.initialized z.cls).before a0 Z = true) (w4 : (Cond.code z bytes maxL ret).before a0 Z = true) (hy : y.cls ≠ "java/lang/invoke/MethodHandle" ∧ y.cls ≠ "java/lang/invoke/VarHandle") {rm : Room} {as' : Array Value} {Qf : Option Value → Heap → List Loc → Prop} {W : Nat} (hM : MetFree l z (head1 [Cond.code z bytes maxL ret] rm) (fun a U => a = as' ∧ Z.Warmed39 U.vm ∧ U.heap = h) (fun _ _ _ _ _ => True) (fun _ U o U' => ∃ v L, o = .returned v ∧ Qf v U'.heap L ∧ FrameEnd U o U' L rm.cells rm.slots)) (eT : T.heap = h) (hf : rm.frames + 1 ≤ R.frames) (hlo : W + (maxL + 11) + rm.locals ≤ R.locals) (hc : cells + rm.cells ≤ R.cells) (hs : slots + rm.slots ≤ R.slots) {a : Addr} (E : Exa Z h a C) (hd : decode c.code pc = .ok (.invokevirtual index, 3)) (hsz : Ls.size = c.maxLocals) {argsL rest : List Value} {ps : List FieldType} {r : Option FieldType} (pd : parseMethodDescriptor y.desc = some ⟨ps, r⟩) (hlen : argsL.length = ps.length) (hst : st = argsL.reverse ++ .ref a :: rest) (has : (Value.ref a :: argsL).toArray = as') (hW : (rest.map fun v => v.category).sum ≤ W) (hp : pc + 3 = pc') (k : ∀ v T' L, Stand p l e R s m args below meth c T' (locs ++ L) (cells + rm.cells) (slots + rm.slots) → Qf v T'.heap L → Ow p e below s Q kc ks (T'.setTop (mkF m pc' Ls (v.toList ++ rest)))) : Ow p e below s Q kc ks (T.setTop (mkF m pc Ls st)) := by
  subst hp
  obtain ⟨cB, kB, qa, qb, qc⟩ := isOf hZ eT E
  obtain ⟨v, vm₁, ⟨T', L', k', n'⟩, -, X', ⟨L, hq, l1, y1, z1⟩, st'⟩ := X.virtualBack hx (y := y) (z := z) hown (mvT hZ w1) (mvT hZ w2) nf (mvT hZ w5) (mvT hZ w6) hy (backOf (W := W) hM hZ w4 w3 hf hlo) qa qc (g := mkF m pc Ls st) rfl hsz (Steps.refl _) (argsL := argsL) (rest := rest) (lenOf pd hlen) hst (by show 2 * 0 + _ ≤ _; omega) hd (fun _ _ => ⟨has, eT, hc, hs⟩)
  dsimp only [Pt.U, Pt.locs, Pt.cells, Pt.slots] at X' l1 y1 z1 st' hq
  subst l1 y1 z1
  exact Ow.go st' (k v T' L X' hq)
end W
theorem d1_0 : decode method_2_code 0 = .ok (.lload_n 0, 1) := by decide +kernel
theorem d1_1 : decode method_2_code 1 = .ok (.lconst 1, 1) := by decide +kernel
theorem d1_2 : decode method_2_code 2 = .ok (.lsub, 1) := by decide +kernel
theorem d1_3 : decode method_2_code 3 = .ok (.lstore_n 2, 1) := by decide +kernel
theorem d1_4 : decode method_2_code 4 = .ok (.ldc2_w 7, 3) := by decide +kernel
theorem d1_7 : decode method_2_code 7 = .ok (.lload_n 2, 1) := by decide +kernel
theorem d1_8 : decode method_2_code 8 = .ok (.lmul, 1) := by decide +kernel
theorem d1_9 : decode method_2_code 9 = .ok (.lload_n 2, 1) := by decide +kernel
theorem d1_10 : decode method_2_code 10 = .ok (.ldc2_w 9, 3) := by decide +kernel
theorem d1_13 : decode method_2_code 13 = .ok (.ldiv, 1) := by decide +kernel
theorem d1_14 : decode method_2_code 14 = .ok (.ladd, 1) := by decide +kernel
theorem d1_15 : decode method_2_code 15 = .ok (.lload_n 2, 1) := by decide +kernel
theorem d1_16 : decode method_2_code 16 = .ok (.ldc2_w 11, 3) := by decide +kernel
theorem d1_19 : decode method_2_code 19 = .ok (.ldiv, 1) := by decide +kernel
theorem d1_20 : decode method_2_code 20 = .ok (.lsub, 1) := by decide +kernel
theorem d1_21 : decode method_2_code 21 = .ok (.lload_n 2, 1) := by decide +kernel
theorem d1_22 : decode method_2_code 22 = .ok (.ldc2_w 13, 3) := by decide +kernel
theorem d1_25 : decode method_2_code 25 = .ok (.ldiv, 1) := by decide +kernel
theorem d1_26 : decode method_2_code 26 = .ok (.ladd, 1) := by decide +kernel
theorem d1_27 : decode method_2_code 27 = .ok (.lreturn, 1) := by decide +kernel
theorem ef_1 (m : MethodId) (q0 : Int64) : entryFrame m #[(.long q0)] 4 = mkF m 0 #[.val (.long q0), .second, .unset, .unset] [] := by first | (simp [entryFrame, mkF, argsToLocals, Value.category]; done) | rfl
theorem pn_0 : plainName "com/example/tagwire/tagwire/value/TimestampValueHasIsoFormPinLaw" = true := by first | (simp [plainName, overriddenIn]; done) | decide +kernel
theorem d3_0 : decode jdk_30_method_1_code 0 = .ok (.aload_n 0, 1) := by decide +kernel
theorem d3_1 : decode jdk_30_method_1_code 1 = .ok (.invokespecial 1, 3) := by decide +kernel
theorem d3_4 : decode jdk_30_method_1_code 4 = .ok (.return_, 1) := by decide +kernel
theorem ef_3 (m : MethodId) (a0 : Addr) : entryFrame m #[(.ref a0)] 1 = mkF m 0 #[.val (.ref a0)] [] := by first | (simp [entryFrame, mkF, argsToLocals, Value.category]; done) | rfl
theorem pn_1 : plainName "java/lang/Record" = true := by first | (simp [plainName, overriddenIn]; done) | decide +kernel
theorem d2_0 : decode prog_109_method_1_code 0 = .ok (.aload_n 0, 1) := by decide +kernel
theorem d2_1 : decode prog_109_method_1_code 1 = .ok (.invokespecial 1, 3) := by decide +kernel
theorem pd_0 : parseMethodDescriptor "()V" = some ⟨[], none⟩ := by decide +kernel
theorem d2_4 : decode prog_109_method_1_code 4 = .ok (.aload_n 0, 1) := by decide +kernel
theorem d2_5 : decode prog_109_method_1_code 5 = .ok (.lload_n 1, 1) := by decide +kernel
theorem d2_6 : decode prog_109_method_1_code 6 = .ok (.putfield 7, 3) := by decide +kernel
theorem d2_9 : decode prog_109_method_1_code 9 = .ok (.return_, 1) := by decide +kernel
theorem ef_2 (m : MethodId) (a0 : Addr) (q1 : Int64) : entryFrame m #[(.ref a0), (.long q1)] 3 = mkF m 0 #[.val (.ref a0), .val (.long q1), .second] [] := by first | (simp [entryFrame, mkF, argsToLocals, Value.category]; done) | rfl
theorem pn_2 : plainName "com/example/tagwire/tagwire/value/TimestampValue" = true := by first | (simp [plainName, overriddenIn]; done) | decide +kernel
theorem d5_0 : decode prog_109_method_3_code 0 = .ok (.aload_n 0, 1) := by decide +kernel
theorem d5_1 : decode prog_109_method_3_code 1 = .ok (.getfield 7, 3) := by decide +kernel
theorem d5_4 : decode prog_109_method_3_code 4 = .ok (.ldc2_w 19, 3) := by decide +kernel
theorem d5_7 : decode prog_109_method_3_code 7 = .ok (.lcmp, 1) := by decide +kernel
theorem d5_8 : decode prog_109_method_3_code 8 = .ok (.ifCond .lt 18, 3) := by decide +kernel
theorem d5_26 : decode prog_109_method_3_code 26 = .ok (.iconst 0, 1) := by decide +kernel
theorem d5_27 : decode prog_109_method_3_code 27 = .ok (.ireturn, 1) := by decide +kernel
theorem d5_11 : decode prog_109_method_3_code 11 = .ok (.aload_n 0, 1) := by decide +kernel
theorem d5_12 : decode prog_109_method_3_code 12 = .ok (.getfield 7, 3) := by decide +kernel
theorem d5_15 : decode prog_109_method_3_code 15 = .ok (.ldc2_w 21, 3) := by decide +kernel
theorem d5_18 : decode prog_109_method_3_code 18 = .ok (.lcmp, 1) := by decide +kernel
theorem d5_19 : decode prog_109_method_3_code 19 = .ok (.ifCond .gt 7, 3) := by decide +kernel
theorem d5_22 : decode prog_109_method_3_code 22 = .ok (.iconst 1, 1) := by decide +kernel
theorem d5_23 : decode prog_109_method_3_code 23 = .ok (.goto 4, 3) := by decide +kernel
theorem ef_5 (m : MethodId) (a0 : Addr) : entryFrame m #[(.ref a0)] 1 = mkF m 0 #[.val (.ref a0)] [] := by first | (simp [entryFrame, mkF, argsToLocals, Value.category]; done) | rfl
/-- TimestampValueHasIsoFormPinLaw.daysBeforeYear -/
def dby (q0 : Int64) : Int64 := (((((365 : Int64) * (q0 - (1 : Int64))) + ((q0 - (1 : Int64)) / (4 : Int64))) - ((q0 - (1 : Int64)) / (100 : Int64))) + ((q0 - (1 : Int64)) / (400 : Int64)))
def Q1 (q0 : Int64) (h0 : Heap) (v : Option Value) (h : Heap) (L : List Loc) : Prop := v = some (.long (dby q0)) ∧ h = h0 ∧ L = []
set_option maxRecDepth 65536 in
set_option maxHeartbeats 40000000 in
theorem rm1 (l : Launch) (Z : State) (aw : Array Value) (hw : ∀ d ∈ tables_1, d.before aw Z = true) (ws : List Jvm.Cond) (q0 : Int64) (h0 : Heap) :
    MetFree l (⟨"com/example/tagwire/tagwire/value/TimestampValueHasIsoFormPinLaw", "daysBeforeYear", "(J)J"⟩ : MethodName) (head1 (Jvm.Cond.code (⟨"com/example/tagwire/tagwire/value/TimestampValueHasIsoFormPinLaw", "daysBeforeYear", "(J)J"⟩ : MethodName) method_2_code 4 (some .long) :: ws) ({ frames := 0, cells := 0, slots := 0, locals := 0 } : Room)) (fun a U => a = #[(.long q0)] ∧ Z.Warmed39 U.vm ∧ U.heap = h0) (fun _ _ _ _ _ => True) (fun _ U o U' => ∃ v L, o = .returned v ∧ Q1 q0 h0 v U'.heap L ∧ FrameEnd U o U' L ({ frames := 0, cells := 0, slots := 0, locals := 0 } : Room).cells ({ frames := 0, cells := 0, slots := 0, locals := 0 } : Room).slots) := by
  refine MetFree.of_bodySF (plainFor_of_name pn_0) hisR ?_
  intro p e s m args below meth c s₁ Bd hml0 hP _hKK
  obtain ⟨rfl, hZ, hh⟩ := hP
  have hx := Bd.exec
  have hby := Bd.bytes
  have hml : c.maxLocals = 4 := hml0
  have hown : s.vm.findClass "com/example/tagwire/tagwire/value/TimestampValueHasIsoFormPinLaw" = some m.cls := findClass_of_methodNamed Bd.named
  have hnm := (name_of_methodNamed Bd.named Bd.method).1
  have X0 : Stand p l e ({ frames := 0, cells := 0, slots := 0, locals := 0 } : Room) s m #[(.long q0)] below meth c s₁ [] 0 0 := Stand.of_body Bd
  have e0 : s₁.heap = h0 := by rw [← hh, Bd.state]; rfl
  refine Ow.enter (Q := Q1 q0 h0) (ef_1 m q0) ?_
  show Ow p e below s _ _ _ (s₁.setTop (mkF m 0 #[.val (.long q0), .second, .unset, .unset] []))
  refine w_lloadN X0 hx (Jvm.hb hby d1_0) rfl (pc' := 1) rfl ?_
  refine w_lconst X0 hx (1 : Int64) (Jvm.hb hby d1_1) (by decide) (pc' := 2) rfl ?_
  refine w_lsub X0 hx (Jvm.hb hby d1_2) (pc' := 3) rfl ?_
  refine w_lstoreN X0 hx (Jvm.hb hby d1_3) #[.val (.long q0), .second, .val (.long (q0 - (1 : Int64))), .second] rfl  (pc' := 4) rfl ?_
  refine w_ldc2J X0 hx hZ hown (hw _ (List.mem_of_getElem? (i := 5) rfl)) (Jvm.hb hby d1_4) (pc' := 7) rfl ?_
  refine w_lloadN X0 hx (Jvm.hb hby d1_7) rfl (pc' := 8) rfl ?_
  refine w_lmul X0 hx (Jvm.hb hby d1_8) (pc' := 9) rfl ?_
  refine w_lloadN X0 hx (Jvm.hb hby d1_9) rfl (pc' := 10) rfl ?_
  refine w_ldc2J X0 hx hZ hown (hw _ (List.mem_of_getElem? (i := 6) rfl)) (Jvm.hb hby d1_10) (pc' := 13) rfl ?_
  refine w_ldiv X0 hx (Jvm.hb hby d1_13) (by decide) (pc' := 14) rfl ?_
  refine w_ladd X0 hx (Jvm.hb hby d1_14) (pc' := 15) rfl ?_
  refine w_lloadN X0 hx (Jvm.hb hby d1_15) rfl (pc' := 16) rfl ?_
  refine w_ldc2J X0 hx hZ hown (hw _ (List.mem_of_getElem? (i := 7) rfl)) (Jvm.hb hby d1_16) (pc' := 19) rfl ?_
  refine w_ldiv X0 hx (Jvm.hb hby d1_19) (by decide) (pc' := 20) rfl ?_
  refine w_lsub X0 hx (Jvm.hb hby d1_20) (pc' := 21) rfl ?_
  refine w_lloadN X0 hx (Jvm.hb hby d1_21) rfl (pc' := 22) rfl ?_
  refine w_ldc2J X0 hx hZ hown (hw _ (List.mem_of_getElem? (i := 8) rfl)) (Jvm.hb hby d1_22) (pc' := 25) rfl ?_
  refine w_ldiv X0 hx (Jvm.hb hby d1_25) (by decide) (pc' := 26) rfl ?_
  refine w_ladd X0 hx (Jvm.hb hby d1_26) (pc' := 27) rfl ?_
  exact w_lreturn X0 hx Bd.returns (BodyLoose.notSynchronized Bd) (Nat.le_of_ble_eq_true rfl) (Nat.le_of_ble_eq_true rfl) (Jvm.hb hby d1_27) ⟨congrArg (fun z => some (Value.long z)) (show (((((365 : Int64) * (q0 - (1 : Int64))) + ((q0 - (1 : Int64)) / (4 : Int64))) - ((q0 - (1 : Int64)) / (100 : Int64))) + ((q0 - (1 : Int64)) / (400 : Int64))) = dby q0 from by unfold dby; rfl), e0, rfl⟩
def Q3 (h0 : Heap) (v : Option Value) (h : Heap) (L : List Loc) : Prop := v = none ∧ h = h0 ∧ L = []
set_option maxRecDepth 65536 in
set_option maxHeartbeats 40000000 in
theorem rm3 (l : Launch) (Z : State) (aw : Array Value) (hw : ∀ d ∈ tables_1, d.before aw Z = true) (ws : List Jvm.Cond) (a0 : Addr) (h0 : Heap) :
    MetFree l (⟨"java/lang/Record", "<init>", "()V"⟩ : MethodName) (head1 (Jvm.Cond.code (⟨"java/lang/Record", "<init>", "()V"⟩ : MethodName) jdk_30_method_1_code 1 none :: ws) ({ frames := 1, cells := 0, slots := 0, locals := 12 } : Room)) (fun a U => a = #[(.ref a0)] ∧ Z.Warmed39 U.vm ∧ U.heap = h0) (fun _ _ _ _ _ => True) (fun _ U o U' => ∃ v L, o = .returned v ∧ Q3 h0 v U'.heap L ∧ FrameEnd U o U' L ({ frames := 1, cells := 0, slots := 0, locals := 12 } : Room).cells ({ frames := 1, cells := 0, slots := 0, locals := 12 } : Room).slots) := by
  refine MetFree.of_bodySF (plainFor_of_name pn_1) hisR ?_
  intro p e s m args below meth c s₁ Bd hml0 hP _hKK
  obtain ⟨rfl, hZ, hh⟩ := hP
  have hx := Bd.exec
  have hby := Bd.bytes
  have hml : c.maxLocals = 1 := hml0
  have hown : s.vm.findClass "java/lang/Record" = some m.cls := findClass_of_methodNamed Bd.named
  have hnm := (name_of_methodNamed Bd.named Bd.method).1
  have X0 : Stand p l e ({ frames := 1, cells := 0, slots := 0, locals := 12 } : Room) s m #[(.ref a0)] below meth c s₁ [] 0 0 := Stand.of_body Bd
  have e0 : s₁.heap = h0 := by rw [← hh, Bd.state]; rfl
  refine Ow.enter (Q := Q3 h0) (ef_3 m a0) ?_
  show Ow p e below s _ _ _ (s₁.setTop (mkF m 0 #[.val (.ref a0)] []))
  refine w_aloadN X0 hx (Jvm.hb hby d3_0) rfl rfl (pc' := 1) rfl ?_
  refine w_objinit X0 hx hZ hown (hw _ (List.mem_of_getElem? (i := 22) rfl)) (hw _ (List.mem_of_getElem? (i := 23) rfl)) (hw _ (List.mem_of_getElem? (i := 24) rfl)) e0 (Jvm.hb hby d3_1) (by rw [hml]; rfl) (by decide) (W := 0) (Nat.le_of_eq rfl) (by decide) (pc' := 4) rfl ?_
  intro T21 X21 e21
  exact w_return X21 hx Bd.returns (BodyLoose.notSynchronized Bd) (Nat.le_of_ble_eq_true rfl) (Nat.le_of_ble_eq_true rfl) (Jvm.hb hby d3_4) ⟨rfl, e21, rfl⟩
def Q2 (Z : State) (a0 : Addr) (q1 : Int64) (h0 : Heap) (n0 : Nat) (v : Option Value) (h : Heap) (L : List Loc) : Prop := v = none ∧ Fr n0 L ∧ Keep h0 h [a0] ∧ Fld Z h a0 "com/example/tagwire/tagwire/value/TimestampValue" "millis" "J" (.long q1)
set_option maxRecDepth 65536 in
set_option maxHeartbeats 40000000 in
theorem rm2 (l : Launch) (Z : State) (aw : Array Value) (hw : ∀ d ∈ tables_1, d.before aw Z = true) (ws : List Jvm.Cond) (a0 : Addr) (q1 : Int64) (h0 : Heap) (n0 : Nat) (F : Fld Z h0 a0 "com/example/tagwire/tagwire/value/TimestampValue" "millis" "J" (.long (0 : Int64))) (E : Exa Z h0 a0 "com/example/tagwire/tagwire/value/TimestampValue") (g : n0 ≤ a0) :
    MetFree l (⟨"com/example/tagwire/tagwire/value/TimestampValue", "<init>", "(J)V"⟩ : MethodName) (head1 (Jvm.Cond.code (⟨"com/example/tagwire/tagwire/value/TimestampValue", "<init>", "(J)V"⟩ : MethodName) prog_109_method_1_code 3 none :: ws) ({ frames := 2, cells := 0, slots := 0, locals := 24 } : Room)) (fun a U => a = #[(.ref a0), (.long q1)] ∧ Z.Warmed39 U.vm ∧ U.heap = h0) (fun _ _ _ _ _ => True) (fun _ U o U' => ∃ v L, o = .returned v ∧ Q2 Z a0 q1 h0 n0 v U'.heap L ∧ FrameEnd U o U' L ({ frames := 2, cells := 0, slots := 0, locals := 24 } : Room).cells ({ frames := 2, cells := 0, slots := 0, locals := 24 } : Room).slots) := by
  refine MetFree.of_bodySF (plainFor_of_name pn_2) hisR ?_
  intro p e s m args below meth c s₁ Bd hml0 hP _hKK
  obtain ⟨rfl, hZ, hh⟩ := hP
  have hx := Bd.exec
  have hby := Bd.bytes
  have hml : c.maxLocals = 3 := hml0
  have hown : s.vm.findClass "com/example/tagwire/tagwire/value/TimestampValue" = some m.cls := findClass_of_methodNamed Bd.named
  have hnm := (name_of_methodNamed Bd.named Bd.method).1
  have X0 : Stand p l e ({ frames := 2, cells := 0, slots := 0, locals := 24 } : Room) s m #[(.ref a0), (.long q1)] below meth c s₁ [] 0 0 := Stand.of_body Bd
  have e0 : s₁.heap = h0 := by rw [← hh, Bd.state]; rfl
  refine Ow.enter (Q := Q2 Z a0 q1 h0 n0) (ef_2 m a0 q1) ?_
  show Ow p e below s _ _ _ (s₁.setTop (mkF m 0 #[.val (.ref a0), .val (.long q1), .second] []))
  refine w_aloadN X0 hx (Jvm.hb hby d2_0) rfl rfl (pc' := 1) rfl ?_
  refine w_callN X0 hx hZ rfl hown (hw _ (List.mem_of_getElem? (i := 17) rfl)) (hw _ (List.mem_of_getElem? (i := 18) rfl)) (hw _ (List.mem_of_getElem? (i := 20) rfl)) (hw _ (List.mem_of_getElem? (i := 21) rfl)) (by decide) (W := 0) (rm3 l Z aw hw [] a0 h0) e0 (by decide) (by decide) (by decide) (by decide) (Jvm.hb hby d2_1) (by rw [hml]; rfl) (a := a0) (argsL := []) (rest := []) pd_0 rfl rfl rfl (Nat.le_of_eq rfl) (pc' := 4) rfl ?_
  rintro _ T22 L22 X22 ⟨rfl, e22, rfl⟩
  show Ow p e below s _ _ _ (T22.setTop (mkF m 4 #[.val (.ref a0), .val (.long q1), .second] []))
  refine w_aloadN X22 hx (Jvm.hb hby d2_4) rfl rfl (pc' := 5) rfl ?_
  refine w_lloadN X22 hx (Jvm.hb hby d2_5) rfl (pc' := 6) rfl ?_
  refine w_putfield X22 hx hZ hown (host := "") (Or.inl (hw _ (List.mem_of_getElem? (i := 25) rfl))) Via.refl e22 F E (Or.inr ⟨(hw _ (List.mem_of_getElem? (i := 26) rfl)), rfl, hnm⟩) (hw _ (List.mem_of_getElem? (i := 12) rfl)) (ty := .long) (by decide) rfl rfl (Jvm.hb hby d2_6) (pc' := 9) rfl ?_
  intro T23 h23 X23 e23 W23
  have N1 := Fr.snoc X23 (Fr.nil n0) g
  exact w_return X23 hx Bd.returns (BodyLoose.notSynchronized Bd) (Nat.le_of_ble_eq_true rfl) (Nat.le_of_ble_eq_true rfl) (Jvm.hb hby d2_9) ⟨rfl, N1, by rw [e23]; exact ⟨Keep.of_wr W23, F.same W23⟩⟩
def iso (x : Int64) : Int32 := if x < (-62135596800000 : Int64) then 0 else if (253402300799999 : Int64) < x then 0 else 1
def Q5 (x0 : Int64) (h0 : Heap) (v : Option Value) (h : Heap) (L : List Loc) : Prop := v = some (.int (iso x0)) ∧ h = h0 ∧ L = []
set_option maxRecDepth 65536 in
set_option maxHeartbeats 40000000 in
theorem rm5 (l : Launch) (Z : State) (aw : Array Value) (hw : ∀ d ∈ tables_1, d.before aw Z = true) (ws : List Jvm.Cond) (a0 : Addr) (x0 : Int64) (h0 : Heap) (F : Fld Z h0 a0 "com/example/tagwire/tagwire/value/TimestampValue" "millis" "J" (.long x0)) :
    MetFree l (⟨"com/example/tagwire/tagwire/value/TimestampValue", "hasIsoForm", "()Z"⟩ : MethodName) (head1 (Jvm.Cond.code (⟨"com/example/tagwire/tagwire/value/TimestampValue", "hasIsoForm", "()Z"⟩ : MethodName) prog_109_method_3_code 1 (some .boolean) :: ws) ({ frames := 0, cells := 0, slots := 0, locals := 0 } : Room)) (fun a U => a = #[(.ref a0)] ∧ Z.Warmed39 U.vm ∧ U.heap = h0) (fun _ _ _ _ _ => True) (fun _ U o U' => ∃ v L, o = .returned v ∧ Q5 x0 h0 v U'.heap L ∧ FrameEnd U o U' L ({ frames := 0, cells := 0, slots := 0, locals := 0 } : Room).cells ({ frames := 0, cells := 0, slots := 0, locals := 0 } : Room).slots) := by
  refine MetFree.of_bodySF (plainFor_of_name pn_2) hisR ?_
  intro p e s m args below meth c s₁ Bd hml0 hP _hKK
  obtain ⟨rfl, hZ, hh⟩ := hP
  have hx := Bd.exec
  have hby := Bd.bytes
  have hml : c.maxLocals = 1 := hml0
  have hown : s.vm.findClass "com/example/tagwire/tagwire/value/TimestampValue" = some m.cls := findClass_of_methodNamed Bd.named
  have hnm := (name_of_methodNamed Bd.named Bd.method).1
  have X0 : Stand p l e ({ frames := 0, cells := 0, slots := 0, locals := 0 } : Room) s m #[(.ref a0)] below meth c s₁ [] 0 0 := Stand.of_body Bd
  have e0 : s₁.heap = h0 := by rw [← hh, Bd.state]; rfl
  refine Ow.enter (Q := Q5 x0 h0) (ef_5 m a0) ?_
  show Ow p e below s _ _ _ (s₁.setTop (mkF m 0 #[.val (.ref a0)] []))
  refine w_aloadN X0 hx (Jvm.hb hby d5_0) rfl rfl (pc' := 1) rfl ?_
  refine w_getfield X0 hx hZ hown (host := "") (Or.inl (hw _ (List.mem_of_getElem? (i := 25) rfl))) Via.refl e0 F (Jvm.hb hby d5_1) (pc' := 4) rfl ?_
  intro T24 X24 e24
  refine w_ldc2J X24 hx hZ hown (hw _ (List.mem_of_getElem? (i := 32) rfl)) (Jvm.hb hby d5_4) (pc' := 7) rfl ?_
  refine w_lcmp_lt X24 hx (Jvm.hb hby d5_7) (Jvm.hb hby d5_8) rfl (by decide) (pcT := 26) (by decide) (pcF := 11) rfl (fun h1 => ?_) (fun h1 => ?_)
  · refine w_iconst X24 hx (0 : Int32) (Jvm.hb hby d5_26) (by decide) (pc' := 27) rfl ?_
    exact w_zreturn X24 hx Bd.returns (Or.inl rfl) (BodyLoose.notSynchronized Bd) (Nat.le_of_ble_eq_true rfl) (Nat.le_of_ble_eq_true rfl) (Jvm.hb hby d5_27) ⟨congrArg (fun z => some (Value.int z)) (show (0 : Int32) = iso x0 from by unfold iso; rw [if_pos h1]), e24, rfl⟩
  · refine w_aloadN X24 hx (Jvm.hb hby d5_11) rfl rfl (pc' := 12) rfl ?_
    refine w_getfield X24 hx hZ hown (host := "") (Or.inl (hw _ (List.mem_of_getElem? (i := 25) rfl))) Via.refl e24 F (Jvm.hb hby d5_12) (pc' := 15) rfl ?_
    intro T25 X25 e25
    refine w_ldc2J X25 hx hZ hown (hw _ (List.mem_of_getElem? (i := 33) rfl)) (Jvm.hb hby d5_15) (pc' := 18) rfl ?_
    refine w_lcmp_gt X25 hx (Jvm.hb hby d5_18) (Jvm.hb hby d5_19) rfl (by decide) (pcT := 26) (by decide) (pcF := 22) rfl (fun h2 => ?_) (fun h2 => ?_)
    · refine w_iconst X25 hx (0 : Int32) (Jvm.hb hby d5_26) (by decide) (pc' := 27) rfl ?_
      exact w_zreturn X25 hx Bd.returns (Or.inl rfl) (BodyLoose.notSynchronized Bd) (Nat.le_of_ble_eq_true rfl) (Nat.le_of_ble_eq_true rfl) (Jvm.hb hby d5_27) ⟨congrArg (fun z => some (Value.int z)) (show (0 : Int32) = iso x0 from by unfold iso; rw [if_neg h1, if_pos h2]), e25, rfl⟩
    · refine w_iconst X25 hx (1 : Int32) (Jvm.hb hby d5_22) (by decide) (pc' := 23) rfl ?_
      refine w_goto X25 hx (Jvm.hb hby d5_23) (by decide) (pc' := 27) (by decide) ?_
      exact w_zreturn X25 hx Bd.returns (Or.inr rfl) (BodyLoose.notSynchronized Bd) (Nat.le_of_ble_eq_true rfl) (Nat.le_of_ble_eq_true rfl) (Jvm.hb hby d5_27) ⟨congrArg (fun z => some (Value.int z)) (show (1 : Int32) = iso x0 from by unfold iso; rw [if_neg h1, if_neg h2]), e25, rfl⟩
def lw_t0 : Int64 := (((dby (1 : Int64)) - (dby (1970 : Int64))) * (86400000 : Int64))
def lw_t1 : Int64 := (((dby (10000 : Int64)) - (dby (1970 : Int64))) * (86400000 : Int64))
theorem own_first : lw_t0 = (-62135596800000 : Int64) := by decide +kernel
theorem own_end : lw_t1 = (253402300800000 : Int64) := by decide +kernel
theorem own_iso (ms : Int64) (ex : Int32) (hex : ex = (if ms < lw_t0 then (0 : Int32) else (if ms < lw_t1 then (1 : Int32) else (0 : Int32)))) : (iso ms) = ex := by
  rw [hex, own_first, own_end]; unfold iso
  by_cases h1 : ms < (-62135596800000 : Int64)
  · rw [if_pos h1, if_pos h1]
  · rw [if_neg h1, if_neg h1]
    have k1 : (253402300799999 : Int64).toInt = 253402300799999 := by decide
    have k2 : (253402300800000 : Int64).toInt = 253402300800000 := by decide
    by_cases h2 : (253402300799999 : Int64) < ms
    · have h3 : ¬ ms < (253402300800000 : Int64) := by rw [Int64.lt_iff_toInt_lt] at h2 ⊢; omega
      rw [if_pos h2, if_neg h3]
    · have h3 : ms < (253402300800000 : Int64) := by rw [Int64.lt_iff_toInt_lt] at h2 ⊢; omega
      rw [if_neg h2, if_pos h3]
theorem pd_1 : parseMethodDescriptor "(J)J" = some ⟨[.long], some .long⟩ := by decide +kernel
theorem pd_2 : parseMethodDescriptor "(J)V" = some ⟨[.long], none⟩ := by decide +kernel
theorem pd_3 : parseMethodDescriptor "()Z" = some ⟨[], some .boolean⟩ := by decide +kernel
theorem ef_0 (m : MethodId) (q0 : Int64) (p1 : Int32) (p2 : Int32) : entryFrame m #[(.long q0), (.int p1), (.int p2)] maxLocals = mkF m 0 #[.val (.long q0), .second, .val (.int p1), .val (.int p2), .unset, .unset, .unset, .unset, .unset, .unset, .unset, .unset, .unset, .unset, .unset] [] := by first | (simp [entryFrame, mkF, argsToLocals, Value.category, maxLocals]; done) | rfl
def Q0 (n0 : Nat) (v : Option Value) (h : Heap) (L : List Loc) : Prop := v = some (.int 1) ∧ Fr n0 L
set_option maxRecDepth 65536 in
set_option maxHeartbeats 40000000 in
theorem rm0 (l : Launch) (Z : State) (aw : Array Value) (hw : ∀ d ∈ tables_1, d.before aw Z = true) (ws : List Jvm.Cond) (q0 : Int64) (p1 : Int32) (p2 : Int32) (h0 : Heap) (n0 : Nat) (Z0 : n0 ≤ h0.size) :
    MetFree l x (head1 (Jvm.Cond.code x code maxLocals ret :: ws) room_1) (fun a U => a = #[(.long q0), (.int p1), (.int p2)] ∧ Z.Warmed39 U.vm ∧ U.heap = h0) (fun _ _ _ _ _ => True) (fun _ U o U' => ∃ v L, o = .returned v ∧ Q0 n0 v U'.heap L ∧ FrameEnd U o U' L 16 128) := by
  refine MetFree.of_bodySF (plainFor_of_name pn_0) hisR ?_
  intro p e s m args below meth c s₁ Bd hml0 hP _hKK
  obtain ⟨rfl, hZ, hh⟩ := hP
  have hx := Bd.exec
  have hby := Bd.bytes
  have hml : c.maxLocals = 15 := hml0
  have hown : s.vm.findClass "com/example/tagwire/tagwire/value/TimestampValueHasIsoFormPinLaw" = some m.cls := findClass_of_methodNamed Bd.named
  have hnm := (name_of_methodNamed Bd.named Bd.method).1
  have X0 : Stand p l e room_1 s m #[(.long q0), (.int p1), (.int p2)] below meth c s₁ [] 0 0 := Stand.of_body Bd
  have e0 : s₁.heap = h0 := by rw [← hh, Bd.state]; rfl
  refine Ow.enter (Q := Q0 n0) (ef_0 m q0 p1 p2) ?_
  show Ow p e below s _ _ _ (s₁.setTop (mkF m 0 #[.val (.long q0), .second, .val (.int p1), .val (.int p2), .unset, .unset, .unset, .unset, .unset, .unset, .unset, .unset, .unset, .unset, .unset] []))
  refine w_ldc2J X0 hx hZ hown (hw _ (List.mem_of_getElem? (i := 0) rfl)) (Jvm.hb hby at_0) (pc' := 3) rfl ?_
  refine w_callS X0 hx hZ hown (hw _ (List.mem_of_getElem? (i := 1) rfl)) (hw _ (List.mem_of_getElem? (i := 2) rfl)) (hw _ (List.mem_of_getElem? (i := 3) rfl)) (hw _ (List.mem_of_getElem? (i := 4) rfl)) (by decide) (W := 0) (rm1 l Z aw hw [] (1970 : Int64) h0) e0 (by decide) (by decide) (by decide) (by decide) (Jvm.hb hby at_3) (by rw [hml]; rfl) (argsL := [(.long (1970 : Int64))]) (rest := []) pd_1 rfl rfl rfl (Nat.le_of_eq rfl) (pc' := 6) rfl ?_
  rintro _ T26 L26 X26 ⟨rfl, e26, rfl⟩
  show Ow p e below s _ _ _ (T26.setTop (mkF m 6 #[.val (.long q0), .second, .val (.int p1), .val (.int p2), .unset, .unset, .unset, .unset, .unset, .unset, .unset, .unset, .unset, .unset, .unset] [(.long (dby (1970 : Int64)))]))
  refine w_lstore X26 hx (Jvm.hb hby at_6) #[.val (.long q0), .second, .val (.int p1), .val (.int p2), .val (.long (dby (1970 : Int64))), .second, .unset, .unset, .unset, .unset, .unset, .unset, .unset, .unset, .unset] rfl  (pc' := 8) rfl ?_
  refine w_lconst X26 hx (1 : Int64) (Jvm.hb hby at_8) (by decide) (pc' := 9) rfl ?_
  refine w_callS X26 hx hZ hown (hw _ (List.mem_of_getElem? (i := 1) rfl)) (hw _ (List.mem_of_getElem? (i := 2) rfl)) (hw _ (List.mem_of_getElem? (i := 3) rfl)) (hw _ (List.mem_of_getElem? (i := 4) rfl)) (by decide) (W := 0) (rm1 l Z aw hw [] (1 : Int64) h0) e26 (by decide) (by decide) (by decide) (by decide) (Jvm.hb hby at_9) (by rw [hml]; rfl) (argsL := [(.long (1 : Int64))]) (rest := []) pd_1 rfl rfl rfl (Nat.le_of_eq rfl) (pc' := 12) rfl ?_
  rintro _ T27 L27 X27 ⟨rfl, e27, rfl⟩
  show Ow p e below s _ _ _ (T27.setTop (mkF m 12 #[.val (.long q0), .second, .val (.int p1), .val (.int p2), .val (.long (dby (1970 : Int64))), .second, .unset, .unset, .unset, .unset, .unset, .unset, .unset, .unset, .unset] [(.long (dby (1 : Int64)))]))
  refine w_lload X27 hx (Jvm.hb hby at_12) rfl (pc' := 14) rfl ?_
  refine w_lsub X27 hx (Jvm.hb hby at_14) (pc' := 15) rfl ?_
  refine w_ldc2J X27 hx hZ hown (hw _ (List.mem_of_getElem? (i := 9) rfl)) (Jvm.hb hby at_15) (pc' := 18) rfl ?_
  refine w_lmul X27 hx (Jvm.hb hby at_18) (pc' := 19) rfl ?_
  refine w_lstore X27 hx (Jvm.hb hby at_19) #[.val (.long q0), .second, .val (.int p1), .val (.int p2), .val (.long (dby (1970 : Int64))), .second, .val (.long lw_t0), .second, .unset, .unset, .unset, .unset, .unset, .unset, .unset] rfl  (pc' := 21) rfl ?_
  refine w_ldc2J X27 hx hZ hown (hw _ (List.mem_of_getElem? (i := 10) rfl)) (Jvm.hb hby at_21) (pc' := 24) rfl ?_
  refine w_callS X27 hx hZ hown (hw _ (List.mem_of_getElem? (i := 1) rfl)) (hw _ (List.mem_of_getElem? (i := 2) rfl)) (hw _ (List.mem_of_getElem? (i := 3) rfl)) (hw _ (List.mem_of_getElem? (i := 4) rfl)) (by decide) (W := 0) (rm1 l Z aw hw [] (10000 : Int64) h0) e27 (by decide) (by decide) (by decide) (by decide) (Jvm.hb hby at_24) (by rw [hml]; rfl) (argsL := [(.long (10000 : Int64))]) (rest := []) pd_1 rfl rfl rfl (Nat.le_of_eq rfl) (pc' := 27) rfl ?_
  rintro _ T28 L28 X28 ⟨rfl, e28, rfl⟩
  show Ow p e below s _ _ _ (T28.setTop (mkF m 27 #[.val (.long q0), .second, .val (.int p1), .val (.int p2), .val (.long (dby (1970 : Int64))), .second, .val (.long lw_t0), .second, .unset, .unset, .unset, .unset, .unset, .unset, .unset] [(.long (dby (10000 : Int64)))]))
  refine w_lload X28 hx (Jvm.hb hby at_27) rfl (pc' := 29) rfl ?_
  refine w_lsub X28 hx (Jvm.hb hby at_29) (pc' := 30) rfl ?_
  refine w_ldc2J X28 hx hZ hown (hw _ (List.mem_of_getElem? (i := 9) rfl)) (Jvm.hb hby at_30) (pc' := 33) rfl ?_
  refine w_lmul X28 hx (Jvm.hb hby at_33) (pc' := 34) rfl ?_
  refine w_lstore X28 hx (Jvm.hb hby at_34) #[.val (.long q0), .second, .val (.int p1), .val (.int p2), .val (.long (dby (1970 : Int64))), .second, .val (.long lw_t0), .second, .val (.long lw_t1), .second, .unset, .unset, .unset, .unset, .unset] rfl  (pc' := 36) rfl ?_
  refine w_iloadN X28 hx (Jvm.hb hby at_36) rfl (pc' := 37) rfl ?_
  refine w_iconst X28 hx (3 : Int32) (Jvm.hb hby at_37) (by decide) (pc' := 38) rfl ?_
  refine w_iand X28 hx (Jvm.hb hby at_38) (pc' := 39) rfl ?_
  refine w_istore X28 hx (Jvm.hb hby at_39) #[.val (.long q0), .second, .val (.int p1), .val (.int p2), .val (.long (dby (1970 : Int64))), .second, .val (.long lw_t0), .second, .val (.long lw_t1), .second, .val (.int (p1 &&& (3 : Int32))), .unset, .unset, .unset, .unset] rfl  (pc' := 41) rfl ?_
  obtain ⟨ms, hms⟩ : ∃ v : Int64, v = (if (p1 &&& (3 : Int32)) = (1 : Int32) then (lw_t0 + (p2.toInt64)) else (if (p1 &&& (3 : Int32)) = (2 : Int32) then (lw_t1 + (p2.toInt64)) else q0)) := ⟨_, rfl⟩
  refine Ow.join T28 (mkF m 76 #[.val (.long q0), .second, .val (.int p1), .val (.int p2), .val (.long (dby (1970 : Int64))), .second, .val (.long lw_t0), .second, .val (.long lw_t1), .second, .val (.int (p1 &&& (3 : Int32))), .val (.long ms), .second, .unset, .unset] []) (fun K => ?_) ?_
  · refine w_iload X28 hx (Jvm.hb hby at_41) rfl (pc' := 43) rfl ?_
    refine w_iconst X28 hx (1 : Int32) (Jvm.hb hby at_43) (by decide) (pc' := 44) rfl ?_
    refine w_icmp_ne X28 hx (Jvm.hb hby at_44) (by decide) (pcT := 57) (by decide) (pcF := 47) rfl (fun hj44_0 => ?_) (fun hj44_0 => ?_)
    · refine w_iload X28 hx (Jvm.hb hby at_57) rfl (pc' := 59) rfl ?_
      refine w_iconst X28 hx (2 : Int32) (Jvm.hb hby at_59) (by decide) (pc' := 60) rfl ?_
      refine w_icmp_ne X28 hx (Jvm.hb hby at_60) (by decide) (pcT := 73) (by decide) (pcF := 63) rfl (fun hj60_1 => ?_) (fun hj60_1 => ?_)
      · refine w_lloadN X28 hx (Jvm.hb hby at_73) rfl (pc' := 74) rfl ?_
        refine w_lstore X28 hx (Jvm.hb hby at_74) #[.val (.long q0), .second, .val (.int p1), .val (.int p2), .val (.long (dby (1970 : Int64))), .second, .val (.long lw_t0), .second, .val (.long lw_t1), .second, .val (.int (p1 &&& (3 : Int32))), .val (.long q0), .second, .unset, .unset] rfl  (pc' := 76) rfl ?_
        rw [hms, if_neg hj44_0, if_neg hj60_1] at K; exact K
      · refine w_lload X28 hx (Jvm.hb hby at_63) rfl (pc' := 65) rfl ?_
        refine w_iloadN X28 hx (Jvm.hb hby at_65) rfl (pc' := 66) rfl ?_
        refine w_i2l X28 hx (Jvm.hb hby at_66) (pc' := 67) rfl ?_
        refine w_ladd X28 hx (Jvm.hb hby at_67) (pc' := 68) rfl ?_
        refine w_lstore X28 hx (Jvm.hb hby at_68) #[.val (.long q0), .second, .val (.int p1), .val (.int p2), .val (.long (dby (1970 : Int64))), .second, .val (.long lw_t0), .second, .val (.long lw_t1), .second, .val (.int (p1 &&& (3 : Int32))), .val (.long (lw_t1 + (p2.toInt64))), .second, .unset, .unset] rfl  (pc' := 70) rfl ?_
        refine w_goto X28 hx (Jvm.hb hby at_70) (by decide) (pc' := 76) (by decide) ?_
        rw [hms, if_neg hj44_0, if_pos hj60_1] at K; exact K
    · refine w_lload X28 hx (Jvm.hb hby at_47) rfl (pc' := 49) rfl ?_
      refine w_iloadN X28 hx (Jvm.hb hby at_49) rfl (pc' := 50) rfl ?_
      refine w_i2l X28 hx (Jvm.hb hby at_50) (pc' := 51) rfl ?_
      refine w_ladd X28 hx (Jvm.hb hby at_51) (pc' := 52) rfl ?_
      refine w_lstore X28 hx (Jvm.hb hby at_52) #[.val (.long q0), .second, .val (.int p1), .val (.int p2), .val (.long (dby (1970 : Int64))), .second, .val (.long lw_t0), .second, .val (.long lw_t1), .second, .val (.int (p1 &&& (3 : Int32))), .val (.long (lw_t0 + (p2.toInt64))), .second, .unset, .unset] rfl  (pc' := 54) rfl ?_
      refine w_goto X28 hx (Jvm.hb hby at_54) (by decide) (pc' := 76) (by decide) ?_
      rw [hms, if_pos hj44_0] at K; exact K
  obtain ⟨ex, hex⟩ : ∃ v : Int32, v = (if ms < lw_t0 then (0 : Int32) else (if ms < lw_t1 then (1 : Int32) else (0 : Int32))) := ⟨_, rfl⟩
  refine Ow.join T28 (mkF m 99 #[.val (.long q0), .second, .val (.int p1), .val (.int p2), .val (.long (dby (1970 : Int64))), .second, .val (.long lw_t0), .second, .val (.long lw_t1), .second, .val (.int (p1 &&& (3 : Int32))), .val (.long ms), .second, .val (.int ex), .unset] []) (fun K => ?_) ?_
  · refine w_lload X28 hx (Jvm.hb hby at_76) rfl (pc' := 78) rfl ?_
    refine w_lload X28 hx (Jvm.hb hby at_78) rfl (pc' := 80) rfl ?_
    refine w_lcmp_lt X28 hx (Jvm.hb hby at_80) (Jvm.hb hby at_81) rfl (by decide) (pcT := 96) (by decide) (pcF := 84) rfl (fun hj80_0 => ?_) (fun hj80_0 => ?_)
    · refine w_iconst X28 hx (0 : Int32) (Jvm.hb hby at_96) (by decide) (pc' := 97) rfl ?_
      refine w_istore X28 hx (Jvm.hb hby at_97) #[.val (.long q0), .second, .val (.int p1), .val (.int p2), .val (.long (dby (1970 : Int64))), .second, .val (.long lw_t0), .second, .val (.long lw_t1), .second, .val (.int (p1 &&& (3 : Int32))), .val (.long ms), .second, .val (.int (0 : Int32)), .unset] rfl  (pc' := 99) rfl ?_
      rw [hex, if_pos hj80_0] at K; exact K
    · refine w_lload X28 hx (Jvm.hb hby at_84) rfl (pc' := 86) rfl ?_
      refine w_lload X28 hx (Jvm.hb hby at_86) rfl (pc' := 88) rfl ?_
      refine w_lcmp_ge X28 hx (Jvm.hb hby at_88) (Jvm.hb hby at_89) rfl (by decide) (pcT := 96) (by decide) (pcF := 92) rfl (fun hj88_1 => ?_) (fun hj88_1 => ?_)
      · refine w_iconst X28 hx (0 : Int32) (Jvm.hb hby at_96) (by decide) (pc' := 97) rfl ?_
        refine w_istore X28 hx (Jvm.hb hby at_97) #[.val (.long q0), .second, .val (.int p1), .val (.int p2), .val (.long (dby (1970 : Int64))), .second, .val (.long lw_t0), .second, .val (.long lw_t1), .second, .val (.int (p1 &&& (3 : Int32))), .val (.long ms), .second, .val (.int (0 : Int32)), .unset] rfl  (pc' := 99) rfl ?_
        rw [hex, if_neg hj80_0, if_neg hj88_1] at K; exact K
      · refine w_iconst X28 hx (1 : Int32) (Jvm.hb hby at_92) (by decide) (pc' := 93) rfl ?_
        refine w_goto X28 hx (Jvm.hb hby at_93) (by decide) (pc' := 97) (by decide) ?_
        refine w_istore X28 hx (Jvm.hb hby at_97) #[.val (.long q0), .second, .val (.int p1), .val (.int p2), .val (.long (dby (1970 : Int64))), .second, .val (.long lw_t0), .second, .val (.long lw_t1), .second, .val (.int (p1 &&& (3 : Int32))), .val (.long ms), .second, .val (.int (1 : Int32)), .unset] rfl  (pc' := 99) rfl ?_
        rw [hex, if_neg hj80_0, if_pos hj88_1] at K; exact K
  refine w_new X28 hx hZ hown (hw _ (List.mem_of_getElem? (i := 11) rfl)) (hw _ (List.mem_of_getElem? (i := 12) rfl)) (hw _ (List.mem_of_getElem? (i := 13) rfl)) e28 (Jvm.hb hby at_99) (by decide) (by decide) (pc' := 102) rfl ?_
  intro T29 h29 a29 g29 X29 e29 E29 A29 D29
  have F0 : Fld Z h29 a29 "com/example/tagwire/tagwire/value/TimestampValue" "millis" "J" (.long (0 : Int64)) := D29 (Or.inr (hw _ (List.mem_of_getElem? (i := 26) rfl))) (ty := .long) (by decide)
  have G : n0 ≤ a29 := Nat.le_trans Z0 (Nat.le_of_eq g29.symm)
  refine w_dup X29 hx (Jvm.hb hby at_102) rfl (pc' := 103) rfl ?_
  refine w_lload X29 hx (Jvm.hb hby at_103) rfl (pc' := 105) rfl ?_
  refine w_callN X29 hx hZ rfl hown (hw _ (List.mem_of_getElem? (i := 14) rfl)) (hw _ (List.mem_of_getElem? (i := 15) rfl)) (hw _ (List.mem_of_getElem? (i := 13) rfl)) (hw _ (List.mem_of_getElem? (i := 16) rfl)) (by decide) (W := 1) (rm2 l Z aw hw [] a29 ms h29 n0 F0 A29 G) e29 (by decide) (by decide) (by decide) (by decide) (Jvm.hb hby at_105) (by rw [hml]; rfl) (a := a29) (argsL := [(.long ms)]) (rest := [(.ref a29)]) pd_2 rfl rfl rfl (Nat.le_of_eq rfl) (pc' := 108) rfl ?_
  rintro _ T30 L30 X30 ⟨rfl, N30, K30, F30⟩
  show Ow p e below s _ _ _ (T30.setTop (mkF m 108 #[.val (.long q0), .second, .val (.int p1), .val (.int p2), .val (.long (dby (1970 : Int64))), .second, .val (.long lw_t0), .second, .val (.long lw_t1), .second, .val (.int (p1 &&& (3 : Int32))), .val (.long ms), .second, .val (.int ex), .unset] [(.ref a29)]))
  have E30 := A29.keep K30
  refine w_astore X30 hx (Jvm.hb hby at_108) #[.val (.long q0), .second, .val (.int p1), .val (.int p2), .val (.long (dby (1970 : Int64))), .second, .val (.long lw_t0), .second, .val (.long lw_t1), .second, .val (.int (p1 &&& (3 : Int32))), .val (.long ms), .second, .val (.int ex), .val (.ref a29)] rfl rfl (pc' := 110) rfl ?_
  refine w_aload X30 hx (Jvm.hb hby at_110) rfl rfl (pc' := 112) rfl ?_
  refine w_callV X30 hx hZ hown (hw _ (List.mem_of_getElem? (i := 27) rfl)) (hw _ (List.mem_of_getElem? (i := 28) rfl)) (notFace_of_selects (args := #[]) (mvT hZ (hw _ (List.mem_of_getElem? (i := 30) rfl)))) (hw _ (List.mem_of_getElem? (i := 30) rfl)) (hw _ (List.mem_of_getElem? (i := 29) rfl)) (hw _ (List.mem_of_getElem? (i := 13) rfl)) (hw _ (List.mem_of_getElem? (i := 31) rfl)) (by decide) (W := 0) (rm5 l Z aw hw [] a29 ms T30.heap F30) rfl (by decide) (by decide) (by decide) (by decide) E30 (Jvm.hb hby at_112) (by rw [hml]; rfl) (argsL := []) (rest := []) pd_3 rfl rfl rfl (Nat.le_of_eq rfl) (pc' := 115) rfl ?_
  rintro _ T31 L31 X31 ⟨rfl, e31, rfl⟩
  show Ow p e below s _ _ _ (T31.setTop (mkF m 115 #[.val (.long q0), .second, .val (.int p1), .val (.int p2), .val (.long (dby (1970 : Int64))), .second, .val (.long lw_t0), .second, .val (.long lw_t1), .second, .val (.int (p1 &&& (3 : Int32))), .val (.long ms), .second, .val (.int ex), .val (.ref a29)] [(.int (iso ms))]))
  refine w_iload X31 hx (Jvm.hb hby at_115) rfl (pc' := 117) rfl ?_
  refine w_icmp_ne X31 hx (Jvm.hb hby at_117) (by decide) (pcT := 124) (by decide) (pcF := 120) rfl (fun q => absurd (own_iso ms ex hex) q) (fun _ => ?_)
  refine w_iconst X31 hx (1 : Int32) (Jvm.hb hby at_120) (by decide) (pc' := 121) rfl ?_
  refine w_goto X31 hx (Jvm.hb hby at_121) (by decide) (pc' := 125) (by decide) ?_
  exact w_zreturn X31 hx Bd.returns (Or.inr rfl) (BodyLoose.notSynchronized Bd) (Nat.le_of_ble_eq_true rfl) (Nat.le_of_ble_eq_true rfl) (Jvm.hb hby at_125) ⟨rfl, by simpa using N30⟩
set_option maxRecDepth 65536 in
set_option maxHeartbeats 40000000 in
theorem comes_1 {Post : Tables → Env → Array Value → State → Outcome → State → Prop} (hpost : ∀ tb e args s v u, (limb_1_1.after args s (.returned v) u = true ∧ limb_1_2.after args s (.returned v) u = true ∧ True) → FrameEnd s (.returned v) u (Jvm.fieldLocs frame_1_writes args s ++ Jvm.arrayLocs frame_1_arrays args s ++ Jvm.staticLocs frame_1_statics s) 16 128 → Post tb e args s (.returned v) u) :
    ArmFor flags0 classFile x code maxLocals ret World_1 tables_1 room_1 Calls_1 rest_1 Pre_1 Post := by
  intro l hfl _ _ p e ha hc hk s m args below hf hA hF happ hP
  obtain ⟨hcalls, hrest, hpre⟩ := hP
  obtain ⟨-, -, -, hnamed, -, -, -, hat⟩ := (Spec.applies_iff hf).mp happ
  obtain ⟨hg, hn⟩ := and_e (Cond.before_iff.mp (show (Jvm.Cond.and given_1 narrow_1).before args s = true from hpre))
  obtain ⟨g1, g2⟩ := and_e hg
  obtain ⟨g3, g4⟩ := and_e g2
  obtain ⟨g5, g6⟩ := and_e g4
  obtain ⟨w0, w1, w2, rfl⟩ : ∃ w0 w1 w2 : Value, args = #[w0, w1, w2] := by
    have hs : args.size = 3 := by simpa [Cond.value, given_1] using g1
    obtain ⟨L⟩ := args
    match L, hs with
    | [w0, w1, w2], _ => exact ⟨w0, w1, w2, rfl⟩
  have hw := fun d (hd : d ∈ tables_1) => atoms_spec (ws := Jvm.Cond.code x code maxLocals ret :: tables_1) hat d (List.mem_cons_of_mem _ hd)
  obtain ⟨i0, ei0⟩ := isL_v g3
  obtain rfl : w0 = (.long i0) := Option.some.inj ei0
  obtain ⟨i1, ei1⟩ := is_v g5
  obtain rfl : w1 = (.int i1) := Option.some.inj ei1
  obtain ⟨i2, ei2⟩ := is_v g6
  obtain rfl : w2 = (.int i2) := Option.some.inj ei2
  obtain ⟨n, o, h1, h2, h3, _, L, rfl, ⟨rfl, N⟩, hq⟩ := rm0 l s _ hw tables_1 i0 i1 i2 s.heap s.heap.size (Nat.le_refl _) p e ha hc hk s m _ below hf ((Spec.applies_iff_loose hf).mp happ).1 ⟨rfl, State.Warmed39.refl s, rfl⟩ trivial
  refine ⟨n, _, h1, h2, h3, hpost _ _ _ _ _ _ ⟨Cond.after_iff.mpr rfl, Cond.after_iff.mpr (eq_i res_at (Term.int_eval (1)) rfl), trivial⟩ ⟨hq.1, hq.2.1, (hq.2.2.sift fun y hy => Or.inr (N y hy)).mono (by decide) (by decide)⟩⟩
theorem main_1_1 : Claimed_1_1 := comes_1 fun _ _ _ _ _ _ h hF => ⟨h.1, hF⟩
theorem main_1_2 : Claimed_1_2 := comes_1 fun _ _ _ _ _ _ h hF => ⟨h.2.1, hF⟩
end Jvm.Pilot.@@N@@
namespace Jvm.Pilot.@@N@@
open Jvm Jvm.ClassFile Sem Op Lib Jvm.Free Jvm.Stand Jvm.Pilot.@@N@@.Jvm.D
/-! MADE BY PROGRAM (witnessworld.py) out of the Statement's table words and the real class files: 11 classes; the members and pool entries that the words name. The judged class is class 1, her method 2. -/
namespace start1
open Jvm.ClassFile
def u (s : String) : CpInfo := .utf8 (stringToUtf16 s)
/-- a pool by its gaps: so many unusable entries, then the entry; so many at the end -/
def gap : Nat → List CpInfo → List CpInfo
  | 0, r => r
  | n + 1, r => .unusable :: gap n r
def poolList (es : List (Nat × CpInfo)) (last : Nat) : List CpInfo := es.foldr (fun e r => gap e.1 (e.2 :: r)) (gap last [])
def pool (es : List (Nat × CpInfo)) (last : Nat) : Array CpInfo := ⟨poolList es last⟩
def fileOf (pool : Array CpInfo) (this : Nat) (attrs : Array Attribute := #[]) (ms : Array MethodInfo := #[]) (fl : Nat := 33) (sup : Nat := 0) (ifs : Array Nat := #[]) (fds : Array FieldInfo := #[]) : ClassFile where
  minorVersion := 0
  majorVersion := 65
  constantPool := pool
  accessFlags := fl
  thisClass := this
  superClass := sup
  interfaces := ifs
  fields := fds
  methods := ms
  attributes := attrs
def plain (name : String) (sup : Option ClassId) : Class where
  name := name
  kind := .ordinary
  loader := none
  accessFlags := 33
  super := sup
  interfaces := #[]
  cf := none
  fields := #[]
  methods := #[]
  instanceTypes := #[]
  staticTypes := #[]
  resolved := #[]
  callSites := []
  init := .initialized
  statics := none
  mirror := none

def pool0 : Array CpInfo := pool [(5, u "<init>"), (0, u "()V"), (1, .class_ 10), (1, u "java/lang/Object")] 113

def k0c0 : Code := { maxStack := 0, maxLocals := 1, code := object_method_1_code, exceptionTable := #[], attributes := #[] }
def k0m0 : Method := { name := "<init>", desc := "()V", sig := { parameters := [], returnType := none }, accessFlags := 1, code := some k0c0 }
/-- java/lang/Object -/
def k0 : Class := { plain "java/lang/Object" none with
  accessFlags := 33
  interfaces := #[]
  cf := some (fileOf pool0 8 #[] #[{ accessFlags := 1, nameIndex := 5, descriptorIndex := 6, attributes := #[] }] 33 0 #[] #[])
  fields := #[]
  methods := #[k0m0]
  instanceTypes := #[]
  staticTypes := #[]
  resolved := Array.replicate 124 none
  statics := none }

def pool1 : Array CpInfo := pool [(2, .class_ 4), (1, u "java/lang/Object"), (0, u "<init>"), (0, u "()V"), (0, .long 365), (1, .long 4), (1, .long 100), (1, .long 400), (1, .long 1970), (1, .methodref 18 19), (0, .class_ 20), (0, .nameAndType 21 22), (0, u "com/example/tagwire/tagwire/value/TimestampValueHasIsoFormPinLaw"), (0, u "daysBeforeYear"), (0, u "(J)J"), (0, .long 86400000), (1, .long 10000), (1, .class_ 28), (0, u "com/example/tagwire/tagwire/value/TimestampValue"), (0, .methodref 27 30), (0, .nameAndType 5 31), (0, u "(J)V"), (0, .methodref 27 33), (0, .nameAndType 34 35), (0, u "hasIsoForm"), (0, u "()Z"), (0, u "MS_PER_DAY"), (0, u "J"), (3, u "law"), (0, u "(JII)Z")] 3

def k1m0 : Method := { name := "<init>", desc := "()V", sig := { parameters := [], returnType := none }, accessFlags := 1, code := none }
def k1c1 : Code := { maxStack := 6, maxLocals := 4, code := method_2_code, exceptionTable := #[], attributes := #[] }
def k1m1 : Method := { name := "daysBeforeYear", desc := "(J)J", sig := { parameters := [.long], returnType := some .long }, accessFlags := 10, code := some k1c1 }
def k1c2 : Code := { maxStack := 4, maxLocals := 15, code := code, exceptionTable := #[], attributes := #[] }
def k1m2 : Method := { name := "law", desc := "(JII)Z", sig := { parameters := [.long, .int, .int], returnType := some .boolean }, accessFlags := 9, code := some k1c2 }
/-- com/example/tagwire/tagwire/value/TimestampValueHasIsoFormPinLaw -/
def k1 : Class := { plain "com/example/tagwire/tagwire/value/TimestampValueHasIsoFormPinLaw" (some 0) with
  accessFlags := 49
  interfaces := #[]
  cf := some (fileOf pool1 18 #[] #[{ accessFlags := 1, nameIndex := 5, descriptorIndex := 6, attributes := #[] }, { accessFlags := 10, nameIndex := 21, descriptorIndex := 22, attributes := #[] }, { accessFlags := 9, nameIndex := 41, descriptorIndex := 42, attributes := #[] }] 49 2 #[] #[{ accessFlags := 26, nameIndex := 36, descriptorIndex := 37, attributes := #[] }])
  fields := #[{ name := "MS_PER_DAY", type := .long, accessFlags := 26, slot := 0, constantValue := 0 }]
  methods := #[k1m0, k1m1, k1m2]
  instanceTypes := #[]
  staticTypes := #[.long]
  resolved := Array.replicate 46 none
  statics := none }

def pool2 : Array CpInfo := pool [(1, .methodref 2 3), (0, .class_ 4), (0, .nameAndType 5 6), (0, u "java/lang/Object"), (0, u "<init>"), (0, u "()V"), (0, .class_ 8), (0, u "java/lang/Record")] 13

def k2c0 : Code := { maxStack := 1, maxLocals := 1, code := jdk_30_method_1_code, exceptionTable := #[], attributes := #[] }
def k2m0 : Method := { name := "<init>", desc := "()V", sig := { parameters := [], returnType := none }, accessFlags := 4, code := some k2c0 }
/-- java/lang/Record -/
def k2 : Class := { plain "java/lang/Record" (some 0) with
  accessFlags := 1057
  interfaces := #[]
  cf := some (fileOf pool2 7 #[] #[{ accessFlags := 4, nameIndex := 5, descriptorIndex := 6, attributes := #[] }] 1057 2 #[] #[])
  fields := #[]
  methods := #[k2m0]
  instanceTypes := #[]
  staticTypes := #[]
  resolved := Array.replicate 22 none
  statics := none }

def pool3 : Array CpInfo := pool [(8, .class_ 10), (1, u "com/example/tagwire/tagwire/value/Value"), (148, u "NESTED_TOO_DEEP"), (0, u "Ljava/lang/String;"), (0, .class_ 162), (0, u "java/lang/Object"), (0, u "NESTING_LIMIT"), (0, u "I")] 52

/-- com/example/tagwire/tagwire/value/Value -/
def k3 : Class := { plain "com/example/tagwire/tagwire/value/Value" (some 0) with
  accessFlags := 1537
  interfaces := #[]
  cf := some (fileOf pool3 8 #[] #[] 1537 161 #[] #[{ accessFlags := 25, nameIndex := 163, descriptorIndex := 164, attributes := #[] }, { accessFlags := 25, nameIndex := 159, descriptorIndex := 160, attributes := #[] }])
  fields := #[{ name := "NESTING_LIMIT", type := .int, accessFlags := 25, slot := 0, constantValue := 0 }, { name := "NESTED_TOO_DEEP", type := (.object "java/lang/String"), accessFlags := 25, slot := 1, constantValue := 0 }]
  methods := #[]
  instanceTypes := #[]
  staticTypes := #[.int, (.object "java/lang/String")]
  resolved := Array.replicate 217 none
  statics := none }

def pool4 : Array CpInfo := pool [(1, .methodref 2 3), (0, .class_ 4), (0, .nameAndType 5 6), (0, u "java/lang/Record"), (0, u "<init>"), (0, u "()V"), (0, .fieldref 8 9), (0, .class_ 10), (0, .nameAndType 11 12), (0, u "com/example/tagwire/tagwire/value/TimestampValue"), (0, u "millis"), (0, u "J"), (6, .long 18446681938112751616), (1, .long 253402300799999), (3, u "hasIsoForm"), (0, u "()Z"), (11, u "ISO_FORM"), (0, u "Ljava/time/format/DateTimeFormatter;"), (57, u "(J)V"), (44, .class_ 143), (0, u "com/example/tagwire/tagwire/value/Value"), (0, u "FIRST_ISO"), (1, u "LAST_ISO"), (0, u "ISO_SHAPE"), (0, u "Ljava/lang/String;")] 41

def k4c0 : Code := { maxStack := 3, maxLocals := 3, code := prog_109_method_1_code, exceptionTable := #[], attributes := #[] }
def k4m0 : Method := { name := "<init>", desc := "(J)V", sig := { parameters := [.long], returnType := none }, accessFlags := 1, code := some k4c0 }
def k4c1 : Code := { maxStack := 4, maxLocals := 1, code := prog_109_method_3_code, exceptionTable := #[], attributes := #[] }
def k4m1 : Method := { name := "hasIsoForm", desc := "()Z", sig := { parameters := [], returnType := some .boolean }, accessFlags := 1, code := some k4c1 }
/-- com/example/tagwire/tagwire/value/TimestampValue -/
def k4 : Class := { plain "com/example/tagwire/tagwire/value/TimestampValue" (some 2) with
  accessFlags := 49
  interfaces := #[3]
  cf := some (fileOf pool4 8 #[] #[{ accessFlags := 1, nameIndex := 5, descriptorIndex := 97, attributes := #[] }, { accessFlags := 1, nameIndex := 25, descriptorIndex := 26, attributes := #[] }] 49 2 #[142] #[{ accessFlags := 18, nameIndex := 11, descriptorIndex := 12, attributes := #[] }, { accessFlags := 26, nameIndex := 144, descriptorIndex := 12, attributes := #[] }, { accessFlags := 26, nameIndex := 146, descriptorIndex := 12, attributes := #[] }, { accessFlags := 26, nameIndex := 38, descriptorIndex := 39, attributes := #[] }, { accessFlags := 26, nameIndex := 147, descriptorIndex := 148, attributes := #[] }])
  fields := #[{ name := "millis", type := .long, accessFlags := 18, slot := 0, constantValue := 0 }, { name := "FIRST_ISO", type := .long, accessFlags := 26, slot := 0, constantValue := 0 }, { name := "LAST_ISO", type := .long, accessFlags := 26, slot := 1, constantValue := 0 }, { name := "ISO_FORM", type := (.object "java/time/format/DateTimeFormatter"), accessFlags := 26, slot := 2, constantValue := 0 }, { name := "ISO_SHAPE", type := (.object "java/lang/String"), accessFlags := 26, slot := 3, constantValue := 0 }]
  methods := #[k4m0, k4m1]
  instanceTypes := #[.long]
  staticTypes := #[.long, .long, (.object "java/time/format/DateTimeFormatter"), (.object "java/lang/String")]
  resolved := Array.replicate 190 none
  statics := none }

def pool5 : Array CpInfo := pool [(1, u "java/lang/Cloneable"), (0, .class_ 1), (0, u "java/lang/Object"), (0, .class_ 3)] 3

/-- java/lang/Cloneable -/
def k5 : Class := { plain "java/lang/Cloneable" (some 0) with
  accessFlags := 1537
  interfaces := #[]
  cf := some (fileOf pool5 2 #[] #[] 1537 4 #[] #[])
  fields := #[]
  methods := #[]
  instanceTypes := #[]
  staticTypes := #[]
  resolved := Array.replicate 8 none
  statics := none }

def pool6 : Array CpInfo := pool [(1, u "java/io/Serializable"), (0, .class_ 1), (0, u "java/lang/Object"), (0, .class_ 3)] 3

/-- java/io/Serializable -/
def k6 : Class := { plain "java/io/Serializable" (some 0) with
  accessFlags := 1537
  interfaces := #[]
  cf := some (fileOf pool6 2 #[] #[] 1537 4 #[] #[])
  fields := #[]
  methods := #[]
  instanceTypes := #[]
  staticTypes := #[]
  resolved := Array.replicate 8 none
  statics := none }

/-- the primitive byte -/
def k7 : Class := { plain "byte" none with kind := .primitive 'B', accessFlags := 0x411 }
/-- [B -/
def k8 : Class := { plain "[B" (some 0) with kind := .array 7 .byte, interfaces := #[5, 6], accessFlags := 1041 }

/-- the primitive int -/
def k9 : Class := { plain "int" none with kind := .primitive 'I', accessFlags := 0x411 }
/-- [I -/
def k10 : Class := { plain "[I" (some 0) with kind := .array 9 .int, interfaces := #[5, 6], accessFlags := 1041 }

def heap : Heap := #[]
def classes : Array Class := #[k0, k1, k2, k3, k4, k5, k6, k7, k8, k9, k10]
def interned : List (Array UInt16 × Addr) := []
def slotsUsed : Nat := 0
def theMethod : MethodId := ⟨1, 2⟩
def args0 : Array Value := #[.long 5, .int 1, .int 7]
def aboutOver (below : List Frame) : State where
  vm := { classes := classes, interned := interned.toArray }
  heap := heap
  slotsUsed := slotsUsed
  threads := #[{ frames := .invoking theMethod args0 :: below }]
def below0 : List Frame := [.native { method := ⟨0, 0⟩, args := #[] }]
def about1 : State := aboutOver below0
def p0 : Program := .bare "" "" ""
def e0 : Env := launch0.env 0 0 0
theorem w_frames : about1.frames = Frame.invoking theMethod args0 :: below0 := rfl
set_option maxRecDepth 65536 in
theorem w_args : argsFit about1.vm theMethod args0 = true := by decide +kernel
set_option maxRecDepth 65536 in
theorem w_heap : heapFits about1 = true := by decide +kernel
set_option maxRecDepth 65536 in
theorem w_runnable : about1.curStatus? = some .runnable := by decide +kernel
set_option maxRecDepth 65536 in
theorem w_alone : about1.alone = true := by decide +kernel
set_option maxRecDepth 65536 in
theorem w_named : about1.methodNamed? x = some theMethod := by decide +kernel
set_option maxRecDepth 65536 in
theorem w_hears : about1.hears theMethod below0 = true := by decide +kernel
set_option maxRecDepth 65536 in
theorem w_ripe : about1.ripe theMethod args0 below0 = true := by decide +kernel
theorem w_running : about1.status = .running := rfl
set_option maxRecDepth 65536 in
theorem w_room : about1.hasRoom e0.platform room_1 = true :=
  launch0.hasRoom_least _ room_1 (by decide +kernel) (by decide +kernel) (by decide +kernel) (by decide +kernel) (by decide +kernel) (by decide +kernel)
theorem allAtoms_all (ts : List Jvm.Cond) (a : Array Jvm.Value) (st : Jvm.State) : (allAtoms ts).before a st = ts.all (fun c => c.before a st) := by
  induction ts with
  | nil => rfl
  | cons c t ih =>
    show (Jvm.Cond.and c (allAtoms t)).before a st = _
    rw [Jvm.Cond.before_and, ih, List.all_cons]
def words1 : List Jvm.Cond := Jvm.Cond.code x code maxLocals ret :: tables_1
/-- a 'code' word, met by the world's own term for the bytes: nothing is compared byte by byte -/
theorem code_word {y : MethodName} {bytes : ByteArray} {mx : Nat} {rt : Option FieldType} {a : Array Value} {s : State} {m : MethodId} {meth : Method} {c : Code} (h1 : s.methodNamed? y = some m) (h2 : s.vm.method? m = some meth) (h3 : meth.code = some c) (h4 : c.code = bytes)
    (h5 : (c.maxLocals == mx && c.exceptionTable.isEmpty && decide (c.maxStack ≤ mostOperands) && decide (meth.sig.returnType = rt) && !meth.locks && decide (parseMethodDescriptor y.desc = some meth.sig)) = true) : (Jvm.Cond.code y bytes mx rt).before a s = true := by
  simp only [Bool.and_eq_true, beq_iff_eq, Bool.not_eq_true', decide_eq_true_eq] at h5
  obtain ⟨⟨⟨⟨⟨g1, g2⟩, g3⟩, g4⟩, g5⟩, g6⟩ := h5
  simp [Cond.before, Cond.holds, Cond.value, h1, h2, h3, h4, g1, g2, g3, g4, g5, g6]
def isCode : Jvm.Cond → Bool
  | .code _ _ _ _ => true
  | _ => false
theorem all_split {L : List Jvm.Cond} {P : Jvm.Cond → Bool} (h1 : L.all (fun c => isCode c || P c) = true) (h2 : ∀ c ∈ L.filter isCode, P c = true) : L.all P = true := by
  refine List.all_eq_true.mpr fun c hc => ?_
  have h := List.all_eq_true.mp h1 c hc
  rcases Bool.eq_false_or_eq_true (isCode c) with hi | hi
  · exact h2 c (List.mem_filter.mpr ⟨hc, hi⟩)
  · simpa [hi] using h
set_option maxRecDepth 65536 in
theorem w_c0 : (Jvm.Cond.code x code maxLocals ret).before args0 about1 = true := code_word (m := ⟨1, 2⟩) (meth := k1m2) (c := k1c2) (by decide +kernel) rfl rfl rfl (by decide +kernel)
set_option maxRecDepth 65536 in
theorem w_c1 : (Jvm.Cond.code ({ cls := "com/example/tagwire/tagwire/value/TimestampValueHasIsoFormPinLaw", name := "daysBeforeYear", desc := "(J)J" } : Jvm.MethodName) method_2_code (4 : Nat) (Option.some Jvm.ClassFile.FieldType.long)).before args0 about1 = true := code_word (m := ⟨1, 1⟩) (meth := k1m1) (c := k1c1) (by decide +kernel) rfl rfl rfl (by decide +kernel)
set_option maxRecDepth 65536 in
theorem w_c2 : (Jvm.Cond.code ({ cls := "com/example/tagwire/tagwire/value/TimestampValue", name := "<init>", desc := "(J)V" } : Jvm.MethodName) prog_109_method_1_code (3 : Nat) (Option.none : Option Jvm.ClassFile.FieldType)).before args0 about1 = true := code_word (m := ⟨4, 0⟩) (meth := k4m0) (c := k4c0) (by decide +kernel) rfl rfl rfl (by decide +kernel)
set_option maxRecDepth 65536 in
theorem w_c3 : (Jvm.Cond.code ({ cls := "java/lang/Record", name := "<init>", desc := "()V" } : Jvm.MethodName) jdk_30_method_1_code (1 : Nat) (Option.none : Option Jvm.ClassFile.FieldType)).before args0 about1 = true := code_word (m := ⟨2, 0⟩) (meth := k2m0) (c := k2c0) (by decide +kernel) rfl rfl rfl (by decide +kernel)
set_option maxRecDepth 65536 in
theorem w_c4 : (Jvm.Cond.code ({ cls := "java/lang/Object", name := "<init>", desc := "()V" } : Jvm.MethodName) object_method_1_code (1 : Nat) (Option.none : Option Jvm.ClassFile.FieldType)).before args0 about1 = true := code_word (m := ⟨0, 0⟩) (meth := k0m0) (c := k0c0) (by decide +kernel) rfl rfl rfl (by decide +kernel)
set_option maxRecDepth 65536 in
theorem w_c5 : (Jvm.Cond.code ({ cls := "com/example/tagwire/tagwire/value/TimestampValue", name := "hasIsoForm", desc := "()Z" } : Jvm.MethodName) prog_109_method_3_code (1 : Nat) (Option.some Jvm.ClassFile.FieldType.boolean)).before args0 about1 = true := code_word (m := ⟨4, 1⟩) (meth := k4m1) (c := k4c1) (by decide +kernel) rfl rfl rfl (by decide +kernel)
def codes1 : List Jvm.Cond := [Jvm.Cond.code x code maxLocals ret, Jvm.Cond.code ({ cls := "com/example/tagwire/tagwire/value/TimestampValueHasIsoFormPinLaw", name := "daysBeforeYear", desc := "(J)J" } : Jvm.MethodName) method_2_code (4 : Nat) (Option.some Jvm.ClassFile.FieldType.long), Jvm.Cond.code ({ cls := "com/example/tagwire/tagwire/value/TimestampValue", name := "<init>", desc := "(J)V" } : Jvm.MethodName) prog_109_method_1_code (3 : Nat) (Option.none : Option Jvm.ClassFile.FieldType), Jvm.Cond.code ({ cls := "java/lang/Record", name := "<init>", desc := "()V" } : Jvm.MethodName) jdk_30_method_1_code (1 : Nat) (Option.none : Option Jvm.ClassFile.FieldType), Jvm.Cond.code ({ cls := "java/lang/Object", name := "<init>", desc := "()V" } : Jvm.MethodName) object_method_1_code (1 : Nat) (Option.none : Option Jvm.ClassFile.FieldType), Jvm.Cond.code ({ cls := "com/example/tagwire/tagwire/value/TimestampValue", name := "hasIsoForm", desc := "()Z" } : Jvm.MethodName) prog_109_method_3_code (1 : Nat) (Option.some Jvm.ClassFile.FieldType.boolean)]
set_option maxRecDepth 65536 in
theorem codes_eq : words1.filter isCode = codes1 := rfl
theorem w_codes : ∀ c ∈ words1.filter isCode, c.before args0 about1 = true := by
  rw [codes_eq]
  intro c hc
  simp only [codes1, List.mem_cons, List.not_mem_nil, or_false] at hc
  rcases hc with rfl | rfl | rfl | rfl | rfl | rfl
  · exact w_c0
  · exact w_c1
  · exact w_c2
  · exact w_c3
  · exact w_c4
  · exact w_c5
set_option maxRecDepth 65536 in
theorem w_t1 : (words1.take 24).all (fun c => isCode c || c.before args0 about1) = true := by decide +kernel
set_option maxRecDepth 65536 in
theorem w_t2 : (words1.drop 24).all (fun c => isCode c || c.before args0 about1) = true := by decide +kernel
theorem w_tables : (allAtoms (Jvm.Cond.code x code maxLocals ret :: tables_1)).before args0 about1 = true := by
  rw [allAtoms_all]
  show words1.all (fun c => c.before args0 about1) = true
  refine all_split ?_ w_codes
  rw [← List.take_append_drop 24 words1, List.all_append, w_t1, w_t2]
  rfl
set_option maxRecDepth 65536 in
theorem w_case : (Jvm.Cond.and given_1 narrow_1).before args0 about1 = true := by decide +kernel
theorem w_applies : (headSpec (Jvm.Cond.code x code maxLocals ret :: tables_1) room_1).applies x e0.platform about1 = true :=
  (Spec.applies_iff w_frames).mpr ⟨w_running, w_runnable, w_alone, w_named, w_hears, w_ripe, w_room, w_tables⟩
theorem atStart : AtStart classFile x code maxLocals ret World_1 tables_1 room_1 Calls_1 rest_1 Pre_1 launch0 p0 e0 about1 theMethod args0 below0 :=
  ⟨lists_1, trivial, launch0.admits_env _ _ _, launch0.least_env, fairChoices_fair.cas, fairChoices_fair.clock, w_frames, w_args, w_heap, w_applies, trivial, trivial, w_case⟩
end start1
theorem witness_1 : WitnessClaimed_1 := ⟨start1.p0, start1.e0, start1.about1, start1.theMethod, start1.args0, start1.below0, start1.atStart⟩
end Jvm.Pilot.@@N@@
