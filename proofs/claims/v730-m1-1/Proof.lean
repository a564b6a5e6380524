import JvmDerived
import JvmDerived.Pilot.@@N@@Statement
import JvmDerived.Pilot.@@N@@Code
set_option linter.unusedVariables false
set_option linter.unusedSimpArgs false
@@BLOCK:NumsL.lean.txt@@
namespace Jvm.Pilot.@@N@@
open Jvm Jvm.ClassFile Sem Op Lib Jvm.Free Jvm.Stand Jvm.LawKit Jvm.RoadKit Bundle Jvm.Pilot.@@N@@.Jvm.D
/-- what a body still owes at the state U: that it comes to a return with Q, within kc cells and ks slots -/
def Ow (p : Program) (e : Env) (below : List Frame) (s : State) (Q : Option Value → Heap → List Loc → Prop) (kc ks : Nat) (U : State) : Prop :=
  ∃ s₂ o, Steps p.tables e below U s₂ ∧ s₂.status = .running ∧ Ended s₂ below o ∧ ∃ v L, o = .returned v ∧ Q v s₂.heap L ∧ FrameEnd s o s₂ L kc ks
def lsr64 (x : Int64) (y : Int32) : Int64 := ((x.toUInt64 >>> (y &&& 0x3f).toInt64.toUInt64).toInt64)
def lsr32 (x y : Int32) : Int32 := ((x.toUInt32 >>> (y &&& 31).toUInt32).toInt32)
section W
variable {p : Program} {l : Launch} {e : Env} {R : Room} {s : State} {m : MethodId} {args : Array Value} {below : List Frame} {meth : Method} {c : Code} {T : State} {locs : List Loc} {cells slots : Nat} {Q : Option Value → Heap → List Loc → Prop} {kc ks : Nat} {pc pc' : Nat} {Ls Ls' : Array Slot} {st : List Value} {Z : State} {a0 : Array Value} {h : Heap}
theorem Ow.go {U U' : State} (k : Steps p.tables e below U U') (o : Ow p e below s Q kc ks U') : Ow p e below s Q kc ks U := by
  obtain ⟨s₂, o', h1, h2⟩ := o
  exact ⟨s₂, o', k.trans h1, h2⟩
theorem Ow.via {U U' : State} (k : ∀ t, Steps p.tables e below U' t → Steps p.tables e below U t) (o : Ow p e below s Q kc ks U') : Ow p e below s Q kc ks U := Ow.go (k _ (Steps.refl _)) o
theorem Ow.enter {n : Nat} (q : entryFrame m args n = mkF m 0 Ls []) (k : Ow p e below s Q kc ks (T.setTop (mkF m 0 Ls []))) :
    ∃ s₂ o, Steps p.tables e below (T.setTop (entryFrame m args n)) s₂ ∧ s₂.status = .running ∧ Ended s₂ below o ∧ ∃ v L, o = .returned v ∧ Q v s₂.heap L ∧ FrameEnd s o s₂ L kc ks := by
  rw [q]; exact k
theorem Ow.join {U : State} (T' : State) (g' : JFrame) (f : Ow p e below s Q kc ks (T'.setTop g') → Ow p e below s Q kc ks U) (k : Ow p e below s Q kc ks (T'.setTop g')) : Ow p e below s Q kc ks U := f k
theorem w_iloadN (X : Stand p l e R s m args below meth c T locs cells slots) (hx : p.tables.exec = Jvm.exec) {k : Fin 4} {v : Int32} (hd : decode c.code pc = .ok (.iload_n k, 1)) (hl : Ls[k.val]? = some (.val (.int v))) (hp : pc + 1 = pc') (k : Ow p e below s Q kc ks (T.setTop (mkF m pc' Ls (.int v :: st)))) : Ow p e below s Q kc ks (T.setTop (mkF m pc Ls st)) := by
  subst hp; exact Ow.go (XS.iloadN X.here hx rfl hd hl (Steps.refl _)) k
theorem w_iload (X : Stand p l e R s m args below meth c T locs cells slots) (hx : p.tables.exec = Jvm.exec) {k : Nat} {v : Int32} (hd : decode c.code pc = .ok (.iload k, 2)) (hl : Ls[k]? = some (.val (.int v))) (hp : pc + 2 = pc') (k : Ow p e below s Q kc ks (T.setTop (mkF m pc' Ls (.int v :: st)))) : Ow p e below s Q kc ks (T.setTop (mkF m pc Ls st)) := by
  subst hp; exact Ow.go (XS.iload X.here hx rfl hd hl (Steps.refl _)) k
theorem w_istoreN (X : Stand p l e R s m args below meth c T locs cells slots) (hx : p.tables.exec = Jvm.exec) {k : Fin 4} {v : Int32} (hd : decode c.code pc = .ok (.istore_n k, 1)) (Ls' : Array Slot) (hl : storeLocals Ls k.val (.int v) = some Ls') (hp : pc + 1 = pc') (k : Ow p e below s Q kc ks (T.setTop (mkF m pc' Ls' st))) : Ow p e below s Q kc ks (T.setTop (mkF m pc Ls (.int v :: st))) := by
  subst hp; exact Ow.go (XS.istoreN X.here hx rfl hd rfl hl (Steps.refl _)) k
theorem w_istore (X : Stand p l e R s m args below meth c T locs cells slots) (hx : p.tables.exec = Jvm.exec) {k : Nat} {v : Int32} (hd : decode c.code pc = .ok (.istore k, 2)) (Ls' : Array Slot) (hl : storeLocals Ls k (.int v) = some Ls') (hp : pc + 2 = pc') (k : Ow p e below s Q kc ks (T.setTop (mkF m pc' Ls' st))) : Ow p e below s Q kc ks (T.setTop (mkF m pc Ls (.int v :: st))) := by
  subst hp; exact Ow.go (XS.istore X.here hx rfl hd rfl hl (Steps.refl _)) k
theorem w_lload (X : Stand p l e R s m args below meth c T locs cells slots) (hx : p.tables.exec = Jvm.exec) {k : Nat} {v : Int64} (hd : decode c.code pc = .ok (.lload k, 2)) (hl : Ls[k]? = some (.val (.long v))) (hp : pc + 2 = pc') (k : Ow p e below s Q kc ks (T.setTop (mkF m pc' Ls (.long v :: st)))) : Ow p e below s Q kc ks (T.setTop (mkF m pc Ls st)) := by
  subst hp; exact Ow.go (XS.lload X.here hx rfl hd hl (Steps.refl _)) k
theorem w_lstore (X : Stand p l e R s m args below meth c T locs cells slots) (hx : p.tables.exec = Jvm.exec) {k : Nat} {v : Int64} (hd : decode c.code pc = .ok (.lstore k, 2)) (Ls' : Array Slot) (hl : storeLocals Ls k (.long v) = some Ls') (hp : pc + 2 = pc') (k : Ow p e below s Q kc ks (T.setTop (mkF m pc' Ls' st))) : Ow p e below s Q kc ks (T.setTop (mkF m pc Ls (.long v :: st))) := by
  subst hp; exact Ow.go (XS.lstore X.here hx rfl hd rfl hl (Steps.refl _)) k
theorem w_aloadN (X : Stand p l e R s m args below meth c T locs cells slots) (hx : p.tables.exec = Jvm.exec) {k : Fin 4} {v : Value} (hd : decode c.code pc = .ok (.aload_n k, 1)) (hl : Ls[k.val]? = some (.val v)) (hv : v.isRef = true) (hp : pc + 1 = pc') (k : Ow p e below s Q kc ks (T.setTop (mkF m pc' Ls (v :: st)))) : Ow p e below s Q kc ks (T.setTop (mkF m pc Ls st)) := by
  subst hp; exact Ow.go (XS.aloadN X.here hx rfl hd hl hv (Steps.refl _)) k
theorem w_aload (X : Stand p l e R s m args below meth c T locs cells slots) (hx : p.tables.exec = Jvm.exec) {k : Nat} {v : Value} (hd : decode c.code pc = .ok (.aload k, 2)) (hl : Ls[k]? = some (.val v)) (hv : v.isRef = true) (hp : pc + 2 = pc') (k : Ow p e below s Q kc ks (T.setTop (mkF m pc' Ls (v :: st)))) : Ow p e below s Q kc ks (T.setTop (mkF m pc Ls st)) := by
  subst hp; exact Ow.go (XS.aload X.here hx rfl hd hl hv (Steps.refl _)) k
theorem w_astore (X : Stand p l e R s m args below meth c T locs cells slots) (hx : p.tables.exec = Jvm.exec) {k : Nat} {v : Value} (hd : decode c.code pc = .ok (.astore k, 2)) (Ls' : Array Slot) (hl : storeLocals Ls k v = some Ls') (hv : v.isRef = true) (hp : pc + 2 = pc') (k : Ow p e below s Q kc ks (T.setTop (mkF m pc' Ls' st))) : Ow p e below s Q kc ks (T.setTop (mkF m pc Ls (v :: st))) := by
  subst hp; exact Ow.go (XS.astore X.here hx rfl hd rfl hv hl (Steps.refl _)) k
theorem w_iconst (X : Stand p l e R s m args below meth c T locs cells slots) (hx : p.tables.exec = Jvm.exec) {i : Int} (v : Int32) (hd : decode c.code pc = .ok (.iconst i, 1)) (hv : Int32.ofInt i = v) (hp : pc + 1 = pc') (k : Ow p e below s Q kc ks (T.setTop (mkF m pc' Ls (.int v :: st)))) : Ow p e below s Q kc ks (T.setTop (mkF m pc Ls st)) := by
  subst hp hv; exact Ow.go (XS.iconst X.here hx rfl hd (Steps.refl _)) k
theorem w_bipush (X : Stand p l e R s m args below meth c T locs cells slots) (hx : p.tables.exec = Jvm.exec) {i : Int} (v : Int32) (hd : decode c.code pc = .ok (.bipush i, 2)) (hv : (Int8.ofInt i).toInt32 = v) (hp : pc + 2 = pc') (k : Ow p e below s Q kc ks (T.setTop (mkF m pc' Ls (.int v :: st)))) : Ow p e below s Q kc ks (T.setTop (mkF m pc Ls st)) := by
  subst hp hv; exact Ow.go (XS.bipush X.here hx rfl hd (Steps.refl _)) k
theorem w_ldc2J (X : Stand p l e R s m args below meth c T locs cells slots) (hx : p.tables.exec = Jvm.exec) (hZ : Z.Warmed39 s.vm) {own : String} {index : Nat} {v : Int64} (hown : s.vm.findClass own = some m.cls) (w : (Cond.constantLong own index v).before a0 Z = true) (hd : decode c.code pc = .ok (.ldc2_w index, 3)) (hp : pc + 3 = pc') (k : Ow p e below s Q kc ks (T.setTop (mkF m pc' Ls (.long v :: st)))) : Ow p e below s Q kc ks (T.setTop (mkF m pc Ls st)) := by
  subst hp; exact Ow.via (X.ldc2Long hx hown (mvT hZ w) (g := mkF m pc Ls st) rfl hd) k
theorem w_iand (X : Stand p l e R s m args below meth c T locs cells slots) (hx : p.tables.exec = Jvm.exec) {x y : Int32} (hd : decode c.code pc = .ok (.iand, 1))  (hp : pc + 1 = pc') (k : Ow p e below s Q kc ks (T.setTop (mkF m pc' Ls (.int (x &&& y) :: st)))) : Ow p e below s Q kc ks (T.setTop (mkF m pc Ls (.int y :: .int x :: st))) := by
  subst hp; exact Ow.go (XS.iand X.here hx rfl hd rfl (Steps.refl _)) k
theorem w_iushr (X : Stand p l e R s m args below meth c T locs cells slots) (hx : p.tables.exec = Jvm.exec) {x y : Int32} (hd : decode c.code pc = .ok (.iushr, 1))  (hp : pc + 1 = pc') (k : Ow p e below s Q kc ks (T.setTop (mkF m pc' Ls (.int (lsr32 x y) :: st)))) : Ow p e below s Q kc ks (T.setTop (mkF m pc Ls (.int y :: .int x :: st))) := by
  subst hp; exact Ow.go (XS.iushr X.here hx rfl hd rfl (Steps.refl _)) k
theorem w_i2l (X : Stand p l e R s m args below meth c T locs cells slots) (hx : p.tables.exec = Jvm.exec) {x : Int32} (hd : decode c.code pc = .ok (.i2l, 1))  (hp : pc + 1 = pc') (k : Ow p e below s Q kc ks (T.setTop (mkF m pc' Ls (.long (x.toInt64) :: st)))) : Ow p e below s Q kc ks (T.setTop (mkF m pc Ls (.int x :: st))) := by
  subst hp; exact Ow.go (XS.i2l X.here hx rfl hd rfl (Steps.refl _)) k
theorem w_dup (X : Stand p l e R s m args below meth c T locs cells slots) (hx : p.tables.exec = Jvm.exec) {x : Value} (hd : decode c.code pc = .ok (.dup, 1)) (hc : x.category = 1) (hp : pc + 1 = pc') (k : Ow p e below s Q kc ks (T.setTop (mkF m pc' Ls (x :: x :: st)))) : Ow p e below s Q kc ks (T.setTop (mkF m pc Ls (x :: st))) := by
  subst hp; exact Ow.go (XS.dup X.here hx rfl hd rfl hc (Steps.refl _)) k
theorem w_goto (X : Stand p l e R s m args below meth c T locs cells slots) (hx : p.tables.exec = Jvm.exec) {o : Int} (hd : decode c.code pc = .ok (.goto o, 3)) (ho : 0 ≤ (pc : Int) + o) (hp : ((pc : Int) + o).toNat = pc') (k : Ow p e below s Q kc ks (T.setTop (mkF m pc' Ls st))) : Ow p e below s Q kc ks (T.setTop (mkF m pc Ls st)) := by
  exact Ow.go (XS.goto X.here hx rfl (pc0 := pc) rfl hd ho hp (Steps.refl _)) k
theorem w_if_eq (X : Stand p l e R s m args below meth c T locs cells slots) (hx : p.tables.exec = Jvm.exec) {x : Int32} {o : Int} {pcT pcF : Nat} (hd : decode c.code pc = .ok (.ifCond .eq o, 3)) (ho : 0 ≤ (pc : Int) + o) (ht : ((pc : Int) + o).toNat = pcT) (hp : pc + 3 = pcF) (k1 : x = (0 : Int32) → Ow p e below s Q kc ks (T.setTop (mkF m pcT Ls st))) (k2 : ¬ (x = (0 : Int32)) → Ow p e below s Q kc ks (T.setTop (mkF m pcF Ls st))) : Ow p e below s Q kc ks (T.setTop (mkF m pc Ls (.int x :: st))) := by
  subst hp
  by_cases q : x = (0 : Int32)
  · exact Ow.go (XS.ifYes X.here hx rfl (pc0 := pc) rfl hd rfl ((if0 _ _).trans (teq q).1) ho ht (Steps.refl _)) (k1 q)
  · exact Ow.go (XS.ifNo X.here hx rfl hd rfl ((if0 _ _).trans (feq q).1) (Steps.refl _)) (k2 q)
theorem w_icmp_ne (X : Stand p l e R s m args below meth c T locs cells slots) (hx : p.tables.exec = Jvm.exec) {x y : Int32} {o : Int} {pcT pcF : Nat} (hd : decode c.code pc = .ok (.if_icmp .ne o, 3)) (ho : 0 ≤ (pc : Int) + o) (ht : ((pc : Int) + o).toNat = pcT) (hp : pc + 3 = pcF) (k1 : ¬ (x = y) → Ow p e below s Q kc ks (T.setTop (mkF m pcT Ls st))) (k2 : x = y → Ow p e below s Q kc ks (T.setTop (mkF m pcF Ls st))) : Ow p e below s Q kc ks (T.setTop (mkF m pc Ls (.int y :: .int x :: st))) := by
  subst hp
  by_cases q : x = y
  · exact Ow.go (XS.icmpNo X.here hx rfl hd rfl (teq q).2 (Steps.refl _)) (k2 q)
  · exact Ow.go (XS.icmpYes X.here hx rfl (pc0 := pc) rfl hd rfl (feq q).2 ho ht (Steps.refl _)) (k1 q)
theorem w_if_ne (X : Stand p l e R s m args below meth c T locs cells slots) (hx : p.tables.exec = Jvm.exec) {x : Int32} {o : Int} {pcT pcF : Nat} (hd : decode c.code pc = .ok (.ifCond .ne o, 3)) (ho : 0 ≤ (pc : Int) + o) (ht : ((pc : Int) + o).toNat = pcT) (hp : pc + 3 = pcF) (k1 : ¬ (x = (0 : Int32)) → Ow p e below s Q kc ks (T.setTop (mkF m pcT Ls st))) (k2 : x = (0 : Int32) → Ow p e below s Q kc ks (T.setTop (mkF m pcF Ls st))) : Ow p e below s Q kc ks (T.setTop (mkF m pc Ls (.int x :: st))) := by
  subst hp
  by_cases q : x = (0 : Int32)
  · exact Ow.go (XS.ifNo X.here hx rfl hd rfl ((if0 _ _).trans (teq q).2) (Steps.refl _)) (k2 q)
  · exact Ow.go (XS.ifYes X.here hx rfl (pc0 := pc) rfl hd rfl ((if0 _ _).trans (feq q).2) ho ht (Steps.refl _)) (k1 q)
theorem w_lcmp_ne (X : Stand p l e R s m args below meth c T locs cells slots) (hx : p.tables.exec = Jvm.exec) {x y : Int64} {o : Int} {pc1 pcT pcF : Nat} (hd : decode c.code pc = .ok (.lcmp, 1)) (hd1 : decode c.code pc1 = .ok (.ifCond .ne o, 3)) (hp1 : pc + 1 = pc1) (ho : 0 ≤ (pc1 : Int) + o) (ht : ((pc1 : Int) + o).toNat = pcT) (hp : pc1 + 3 = pcF) (k1 : ¬ (x = y) → Ow p e below s Q kc ks (T.setTop (mkF m pcT Ls st))) (k2 : x = y → Ow p e below s Q kc ks (T.setTop (mkF m pcF Ls st))) : Ow p e below s Q kc ks (T.setTop (mkF m pc Ls (.long y :: .long x :: st))) := by
  subst hp1
  refine Ow.go (XS.lcmp X.here hx rfl hd rfl (Steps.refl _)) ?_
  exact w_if_ne X hx (x := lcmpW x y) hd1 ho ht hp (fun q => k1 (fun r => q ((lw_eq x y).mpr r))) (fun q => k2 ((lw_eq x y).mp q))
theorem w_if_lt (X : Stand p l e R s m args below meth c T locs cells slots) (hx : p.tables.exec = Jvm.exec) {x : Int32} {o : Int} {pcT pcF : Nat} (hd : decode c.code pc = .ok (.ifCond .lt o, 3)) (ho : 0 ≤ (pc : Int) + o) (ht : ((pc : Int) + o).toNat = pcT) (hp : pc + 3 = pcF) (k1 : x < (0 : Int32) → Ow p e below s Q kc ks (T.setTop (mkF m pcT Ls st))) (k2 : ¬ (x < (0 : Int32)) → Ow p e below s Q kc ks (T.setTop (mkF m pcF Ls st))) : Ow p e below s Q kc ks (T.setTop (mkF m pc Ls (.int x :: st))) := by
  subst hp
  by_cases q : x < (0 : Int32)
  · exact Ow.go (XS.ifYes X.here hx rfl (pc0 := pc) rfl hd rfl ((if0 _ _).trans (tlt q).1) ho ht (Steps.refl _)) (k1 q)
  · exact Ow.go (XS.ifNo X.here hx rfl hd rfl ((if0 _ _).trans (flt q).1) (Steps.refl _)) (k2 q)
theorem w_lcmp_lt (X : Stand p l e R s m args below meth c T locs cells slots) (hx : p.tables.exec = Jvm.exec) {x y : Int64} {o : Int} {pc1 pcT pcF : Nat} (hd : decode c.code pc = .ok (.lcmp, 1)) (hd1 : decode c.code pc1 = .ok (.ifCond .lt o, 3)) (hp1 : pc + 1 = pc1) (ho : 0 ≤ (pc1 : Int) + o) (ht : ((pc1 : Int) + o).toNat = pcT) (hp : pc1 + 3 = pcF) (k1 : x < y → Ow p e below s Q kc ks (T.setTop (mkF m pcT Ls st))) (k2 : ¬ (x < y) → Ow p e below s Q kc ks (T.setTop (mkF m pcF Ls st))) : Ow p e below s Q kc ks (T.setTop (mkF m pc Ls (.long y :: .long x :: st))) := by
  subst hp1
  refine Ow.go (XS.lcmp X.here hx rfl hd rfl (Steps.refl _)) ?_
  exact w_if_lt X hx (x := lcmpW x y) hd1 ho ht hp (fun q => k1 ((lw_lt x y).mp q)) (fun q => k2 (fun r => q ((lw_lt x y).mpr r)))
theorem w_if_gt (X : Stand p l e R s m args below meth c T locs cells slots) (hx : p.tables.exec = Jvm.exec) {x : Int32} {o : Int} {pcT pcF : Nat} (hd : decode c.code pc = .ok (.ifCond .gt o, 3)) (ho : 0 ≤ (pc : Int) + o) (ht : ((pc : Int) + o).toNat = pcT) (hp : pc + 3 = pcF) (k1 : (0 : Int32) < x → Ow p e below s Q kc ks (T.setTop (mkF m pcT Ls st))) (k2 : ¬ ((0 : Int32) < x) → Ow p e below s Q kc ks (T.setTop (mkF m pcF Ls st))) : Ow p e below s Q kc ks (T.setTop (mkF m pc Ls (.int x :: st))) := by
  subst hp
  by_cases q : (0 : Int32) < x
  · exact Ow.go (XS.ifYes X.here hx rfl (pc0 := pc) rfl hd rfl ((if0 _ _).trans (tlt q).2.2.1) ho ht (Steps.refl _)) (k1 q)
  · exact Ow.go (XS.ifNo X.here hx rfl hd rfl ((if0 _ _).trans (flt q).2.2.1) (Steps.refl _)) (k2 q)
theorem w_lcmp_gt (X : Stand p l e R s m args below meth c T locs cells slots) (hx : p.tables.exec = Jvm.exec) {x y : Int64} {o : Int} {pc1 pcT pcF : Nat} (hd : decode c.code pc = .ok (.lcmp, 1)) (hd1 : decode c.code pc1 = .ok (.ifCond .gt o, 3)) (hp1 : pc + 1 = pc1) (ho : 0 ≤ (pc1 : Int) + o) (ht : ((pc1 : Int) + o).toNat = pcT) (hp : pc1 + 3 = pcF) (k1 : y < x → Ow p e below s Q kc ks (T.setTop (mkF m pcT Ls st))) (k2 : ¬ (y < x) → Ow p e below s Q kc ks (T.setTop (mkF m pcF Ls st))) : Ow p e below s Q kc ks (T.setTop (mkF m pc Ls (.long y :: .long x :: st))) := by
  subst hp1
  refine Ow.go (XS.lcmp X.here hx rfl hd rfl (Steps.refl _)) ?_
  exact w_if_gt X hx (x := lcmpW x y) hd1 ho ht hp (fun q => k1 ((lw_gt x y).mp q)) (fun q => k2 (fun r => q ((lw_gt x y).mpr r)))
theorem w_lreturn (X : Stand p l e R s m args below meth c T locs cells slots) (hx : p.tables.exec = Jvm.exec) {z : Int64} (hret : meth.sig.returnType = some .long)  (hlk : meth.locks = false) (hc : cells ≤ kc) (hs : slots ≤ ks) (hd : decode c.code pc = .ok (.lreturn, 1)) (hq : Q (some (.long z)) T.heap locs) : Ow p e below s Q kc ks (T.setTop (mkF m pc Ls (.long z :: st))) := by
  obtain ⟨fs, hr, hrun, hended, hW, hsame⟩ := X.leave (v := some (.long z)) (fun h => by rw [hret] at h; cases h) hlk
  exact ⟨_, _, retOut X hx (t := .long) hret rfl (Or.inr (Or.inl ⟨rfl, rfl, _, rfl⟩)) hd hr, hrun, hended, _, _, rfl, hq, ⟨_, rfl⟩, hW, hsame.mono hc hs⟩
theorem w_zreturn (X : Stand p l e R s m args below meth c T locs cells slots) (hx : p.tables.exec = Jvm.exec) {z : Int32} (hret : meth.sig.returnType = some .boolean) (hz : z = 0 ∨ z = 1) (hlk : meth.locks = false) (hc : cells ≤ kc) (hs : slots ≤ ks) (hd : decode c.code pc = .ok (.ireturn, 1)) (hq : Q (some (.int z)) T.heap locs) : Ow p e below s Q kc ks (T.setTop (mkF m pc Ls (.int z :: st))) := by
  obtain ⟨fs, hr, hrun, hended, hW, hsame⟩ := X.leave (v := some (.int z)) (fun h => by rw [hret] at h; cases h) hlk
  exact ⟨_, _, retOut X hx (t := .boolean) hret (by rcases hz with rfl | rfl <;> rfl) (Or.inl ⟨rfl, Or.inr (Or.inl rfl), _, rfl⟩) hd hr, hrun, hended, _, _, rfl, hq, ⟨_, rfl⟩, hW, hsame.mono hc hs⟩
theorem w_dreturn (X : Stand p l e R s m args below meth c T locs cells slots) (hx : p.tables.exec = Jvm.exec) {z : UInt64} (hret : meth.sig.returnType = some .double)  (hlk : meth.locks = false) (hc : cells ≤ kc) (hs : slots ≤ ks) (hd : decode c.code pc = .ok (.dreturn, 1)) (hq : Q (some (.double z)) T.heap locs) : Ow p e below s Q kc ks (T.setTop (mkF m pc Ls (.double z :: st))) := by
  obtain ⟨fs, hr, hrun, hended, hW, hsame⟩ := X.leave (v := some (.double z)) (fun h => by rw [hret] at h; cases h) hlk
  exact ⟨_, _, retOut X hx (t := .double) hret rfl (Or.inr (Or.inr (Or.inl ⟨rfl, rfl, _, rfl⟩))) hd hr, hrun, hended, _, _, rfl, hq, ⟨_, rfl⟩, hW, hsame.mono hc hs⟩
theorem w_return (X : Stand p l e R s m args below meth c T locs cells slots) (hx : p.tables.exec = Jvm.exec) (hret : meth.sig.returnType = none) (hlk : meth.locks = false) (hc : cells ≤ kc) (hs : slots ≤ ks) (hd : decode c.code pc = .ok (.return_, 1)) (hq : Q none T.heap locs) : Ow p e below s Q kc ks (T.setTop (mkF m pc Ls [])) := by
  obtain ⟨fs, hr, hrun, hended, hW, hsame⟩ := X.leave (v := none) (fun _ => rfl) hlk
  exact ⟨_, _, X.returnOut hx hret hd hr, hrun, hended, _, _, rfl, hq, ⟨_, rfl⟩, hW, hsame.mono hc hs⟩
theorem w_dloadN (X : Stand p l e R s m args below meth c T locs cells slots) (hx : p.tables.exec = Jvm.exec) {k : Fin 4} {v : UInt64} (hd : decode c.code pc = .ok (.dload_n k, 1)) (hl : Ls[k.val]? = some (.val (.double v))) (hp : pc + 1 = pc') (k : Ow p e below s Q kc ks (T.setTop (mkF m pc' Ls (.double v :: st)))) : Ow p e below s Q kc ks (T.setTop (mkF m pc Ls st)) := by
  subst hp; exact Ow.go (XS.dloadN X.here hx rfl hd hl (Steps.refl _)) k
theorem w_dload (X : Stand p l e R s m args below meth c T locs cells slots) (hx : p.tables.exec = Jvm.exec) {k : Nat} {v : UInt64} (hd : decode c.code pc = .ok (.dload k, 2)) (hl : Ls[k]? = some (.val (.double v))) (hp : pc + 2 = pc') (k : Ow p e below s Q kc ks (T.setTop (mkF m pc' Ls (.double v :: st)))) : Ow p e below s Q kc ks (T.setTop (mkF m pc Ls st)) := by
  subst hp; exact Ow.go (XS.dload X.here hx rfl hd hl (Steps.refl _)) k
theorem w_i2d (X : Stand p l e R s m args below meth c T locs cells slots) (hx : p.tables.exec = Jvm.exec) {x : Int32} (hd : decode c.code pc = .ok (.i2d, 1))  (hp : pc + 1 = pc') (k : Ow p e below s Q kc ks (T.setTop (mkF m pc' Ls (.double (FP.i2d x) :: st)))) : Ow p e below s Q kc ks (T.setTop (mkF m pc Ls (.int x :: st))) := by
  subst hp; exact Ow.go (XS.i2dS X.here hx rfl hd rfl rfl (Steps.refl _)) k
theorem w_dcmp (X : Stand p l e R s m args below meth c T locs cells slots) (hx : p.tables.exec = Jvm.exec) {o : CmpOp} {x y : UInt64} (hd : decode c.code pc = .ok (.dcmp o, 1))  (hp : pc + 1 = pc') (k : Ow p e below s Q kc ks (T.setTop (mkF m pc' Ls (.int (cmpValue (FP.dcmp x y) o) :: st)))) : Ow p e below s Q kc ks (T.setTop (mkF m pc Ls (.double y :: .double x :: st))) := by
  subst hp; exact Ow.go (XS.dcmpS X.here hx rfl hd rfl rfl (Steps.refl _)) k
theorem w_ldc2D (X : Stand p l e R s m args below meth c T locs cells slots) (hx : p.tables.exec = Jvm.exec) (hZ : Z.Warmed39 s.vm) {own : String} {index : Nat} {v : UInt64} (hown : s.vm.findClass own = some m.cls) (w : (Cond.constantDouble own index v).before a0 Z = true) (hd : decode c.code pc = .ok (.ldc2_w index, 3)) (hp : pc + 3 = pc') (k : Ow p e below s Q kc ks (T.setTop (mkF m pc' Ls (.double v :: st)))) : Ow p e below s Q kc ks (T.setTop (mkF m pc Ls st)) := by
  subst hp; exact Ow.via (X.ldc2DoubleC hx hown (mvT hZ w) (g := mkF m pc Ls st) rfl hd) k
theorem w_getfield (X : Stand p l e R s m args below meth c T locs cells slots) (hx : p.tables.exec = Jvm.exec) (hZ : Z.Warmed39 s.vm) {own R0 O n d host : String} {index : Nat} (hown : s.vm.findClass own = some m.cls) (w : (Cond.fieldLink own index R0 n d).before a0 Z = true ∨ (Cond.fieldLinkNest own index R0 n d host).before a0 Z = true) (via : Via Z R0 O n d) (eT : T.heap = h) {a : Addr} {v : Value} (F : Fld Z h a O n d v) (hd : decode c.code pc = .ok (.getfield index, 3)) (hp : pc + 3 = pc') (k : ∀ T', Stand p l e R s m args below meth c T' locs cells slots → T'.heap = h → Ow p e below s Q kc ks (T'.setTop (mkF m pc' Ls (v :: st)))) : Ow p e below s Q kc ks (T.setTop (mkF m pc Ls (.ref a :: st))) := by
  subst hp
  obtain ⟨T', X', e', st'⟩ := getF X hx hZ hown w via eT F (g := mkF m pc Ls (.ref a :: st)) rfl rfl hd
  exact Ow.via st' (k T' X' e')
theorem w_putfield (X : Stand p l e R s m args below meth c T locs cells slots) (hx : p.tables.exec = Jvm.exec) (hZ : Z.Warmed39 s.vm) {own R0 O n d host C : String} {index kk : Nat} {ty : FieldType} (hown : s.vm.findClass own = some m.cls) (w : (Cond.fieldLink own index R0 n d).before a0 Z = true ∨ (Cond.fieldLinkNest own index R0 n d host).before a0 Z = true) (via : Via Z R0 O n d) (eT : T.heap = h) {a : Addr} {v old : Value} (F : Fld Z h a O n d old) (E : Exa Z h a C) (L : (Cond.lays C O n d).before a0 Z = true ∨ ((Cond.laysFinal C O n d).before a0 Z = true ∧ own = O ∧ meth.name = "<init>")) (wi : (Cond.instantiable C kk).before a0 Z = true) (hty : parseFieldDescriptor d = some ty) (hn : narrow ty v = v) (hf : fits ty v = true) (hd : decode c.code pc = .ok (.putfield index, 3)) (hp : pc + 3 = pc') (k : ∀ T' h', Stand p l e R s m args below meth c T' (locs ++ [⟨a, RoadKit.slotOf Z O n d⟩]) cells slots → T'.heap = h' → Wr h h' a (RoadKit.slotOf Z O n d) v → Ow p e below s Q kc ks (T'.setTop (mkF m pc' Ls st))) : Ow p e below s Q kc ks (T.setTop (mkF m pc Ls (v :: .ref a :: st))) := by
  subst hp
  obtain ⟨T', h', X', e', W', st'⟩ := putF X hx hZ hown w via eT F E L wi hty hn hf (g := mkF m pc Ls (v :: .ref a :: st)) rfl rfl hd
  exact Ow.via st' (k T' h' X' e' W')
theorem w_new (X : Stand p l e R s m args below meth c T locs cells slots) (hx : p.tables.exec = Jvm.exec) (hZ : Z.Warmed39 s.vm) {own C : String} {index n : Nat} (hown : s.vm.findClass own = some m.cls) (w : (Cond.classLink own index C).before a0 Z = true) (wi : (Cond.instantiable C n).before a0 Z = true) (wz : (Cond.initialized C).before a0 Z = true) (eT : T.heap = h) (hd : decode c.code pc = .ok (.new index, 3)) (hc : cells + 1 ≤ R.cells) (hl : slots + n ≤ R.slots) (hp : pc + 3 = pc') (k : ∀ T' h' a, a = h.size → Stand p l e R s m args below meth c T' locs (cells + 1) (slots + n) → T'.heap = h' → Ext h h' → Exa Z h' a C → (∀ {O nm d : String} {ty : FieldType}, Laid Z a0 C O nm d → parseFieldDescriptor d = some ty → Fld Z h' a O nm d (defaultValue ty)) → Ow p e below s Q kc ks (T'.setTop (mkF m pc' Ls (.ref a :: st)))) : Ow p e below s Q kc ks (T.setTop (mkF m pc Ls st)) := by
  subst hp
  obtain ⟨T', h', X', e', E', A', D', -, st'⟩ := newO X hx hZ hown w wi wz eT (g := mkF m pc Ls st) rfl hd hc hl
  exact Ow.via st' (k T' h' _ rfl X' e' E' A' D')
theorem w_objinit (X : Stand p l e R s m args below meth c T locs cells slots) (hx : p.tables.exec = Jvm.exec) (hZ : Z.Warmed39 s.vm) {own : String} {idx : Nat} (hown : s.vm.findClass own = some m.cls) (w1 : (Cond.methodLink own idx Lib.objectInit).before a0 Z = true) (w2 : (Cond.instanceMethod Lib.objectInit).before a0 Z = true) (w3 : (Cond.code Lib.objectInit ⟨#[0xb1]⟩ 1 none).before a0 Z = true) (eT : T.heap = h) {a : Addr} (hd : decode c.code pc = .ok (.invokespecial idx, 3)) (hsz : Ls.size = c.maxLocals) (hf : 1 ≤ R.frames) {W : Nat} (hW : (st.map fun v => v.category).sum ≤ W) (hl : W + 12 ≤ R.locals) (hp : pc + 3 = pc') (k : ∀ T', Stand p l e R s m args below meth c T' locs cells slots → T'.heap = h → Ow p e below s Q kc ks (T'.setTop (mkF m pc' Ls st))) : Ow p e below s Q kc ks (T.setTop (mkF m pc Ls (.ref a :: st))) := by
  subst hp
  obtain ⟨T', X', e', st'⟩ := initO X hx hZ hown w1 w2 w3 eT (g := mkF m pc Ls (.ref a :: st)) rfl hsz rfl hd hf (W := W) (by show 2 * 0 + _ ≤ _; omega) hl
  exact Ow.via st' (k T' X' e')
theorem w_callS (X : Stand p l e R s m args below meth c T locs cells slots) (hx : p.tables.exec = Jvm.exec) (hZ : Z.Warmed39 s.vm) {own : String} {index : Nat} {y : MethodName} {bytes : ByteArray} {maxL : Nat} {ret : Option FieldType} (hown : s.vm.findClass own = some m.cls) (w1 : (Cond.methodLink own index y).before a0 Z = true) (w2 : (Cond.static y).before a0 Z = true) (w3 : (Cond.initialized y.cls).before a0 Z = true) (w4 : (Cond.code y bytes maxL ret).before a0 Z = true) (hy : y.cls ≠ "java/lang/invoke/MethodHandle" ∧ y.cls ≠ "java/lang/invoke/VarHandle") {rm : Room} {as' : Array Value} {Qf : Option Value → Heap → List Loc → Prop} {W : Nat} (hM : MetFree l y (head1 [Cond.code y bytes maxL ret] rm) (fun a U => a = as' ∧ Z.Warmed39 U.vm ∧ U.heap = h) (fun _ _ _ _ _ => True) (fun _ U o U' => ∃ v L, o = .returned v ∧ Qf v U'.heap L ∧ FrameEnd U o U' L rm.cells rm.slots)) (eT : T.heap = h) (hf : rm.frames + 1 ≤ R.frames) (hlo : W + (maxL + 11) + rm.locals ≤ R.locals) (hc : cells + rm.cells ≤ R.cells) (hs : slots + rm.slots ≤ R.slots) (hd : decode c.code pc = .ok (.invokestatic index, 3)) (hsz : Ls.size = c.maxLocals) {argsL rest : List Value} {ps : List FieldType} {r : Option FieldType} (pd : parseMethodDescriptor y.desc = some ⟨ps, r⟩) (hlen : argsL.length = ps.length) (hst : st = argsL.reverse ++ rest) (has : argsL.toArray = as') (hW : (rest.map fun v => v.category).sum ≤ W) (hp : pc + 3 = pc') (k : ∀ v T' L, Stand p l e R s m args below meth c T' (locs ++ L) (cells + rm.cells) (slots + rm.slots) → Qf v T'.heap L → Ow p e below s Q kc ks (T'.setTop (mkF m pc' Ls (v.toList ++ rest)))) : Ow p e below s Q kc ks (T.setTop (mkF m pc Ls st)) := by
  subst hp
  obtain ⟨v, vm₁, ⟨T', L', k', n'⟩, -, X', ⟨L, hq, l1, y1, z1⟩, st'⟩ := Jvm.LawKit.callS X hx hown (mvT hZ w1) (mvT hZ w2) (mvT hZ w3) (mvT hZ w4) hy (backOf (W := W) hM hZ w4 w3 hf hlo) (g := mkF m pc Ls st) rfl hsz (argsL := argsL) (rest := rest) (lenOf pd hlen) hst (by show 2 * 0 + _ ≤ _; omega) hd (fun _ _ => ⟨has, eT, hc, hs⟩)
  dsimp only [Pt.U, Pt.locs, Pt.cells, Pt.slots] at X' l1 y1 z1 st' hq
  subst l1 y1 z1
  exact Ow.via st' (k v T' L X' hq)
theorem w_callN (X : Stand p l e R s m args below meth c T locs cells slots) (hx : p.tables.exec = Jvm.exec) (hZ : Z.Warmed39 s.vm) {own : String} {index : Nat} {y : MethodName} {bytes : ByteArray} {maxL : Nat} (hy1 : y.name = "<init>") (hown : s.vm.findClass own = some m.cls) (w1 : (Cond.methodLink own index y).before a0 Z = true) (w2 : (Cond.instanceMethod y).before a0 Z = true) (w3 : (Cond.initialized y.cls).before a0 Z = true) (w4 : (Cond.code y bytes maxL none).before a0 Z = true) (hy : y.cls ≠ "java/lang/invoke/MethodHandle" ∧ y.cls ≠ "java/lang/invoke/VarHandle") {rm : Room} {as' : Array Value} {Qf : Option Value → Heap → List Loc → Prop} {W : Nat} (hM : MetFree l y (head1 [Cond.code y bytes maxL none] rm) (fun a U => a = as' ∧ Z.Warmed39 U.vm ∧ U.heap = h) (fun _ _ _ _ _ => True) (fun _ U o U' => ∃ v L, o = .returned v ∧ Qf v U'.heap L ∧ FrameEnd U o U' L rm.cells rm.slots)) (eT : T.heap = h) (hf : rm.frames + 1 ≤ R.frames) (hlo : W + (maxL + 11) + rm.locals ≤ R.locals) (hc : cells + rm.cells ≤ R.cells) (hs : slots + rm.slots ≤ R.slots) (hd : decode c.code pc = .ok (.invokespecial index, 3)) (hsz : Ls.size = c.maxLocals) {a : Addr} {argsL rest : List Value} {ps : List FieldType} {r : Option FieldType} (pd : parseMethodDescriptor y.desc = some ⟨ps, r⟩) (hlen : argsL.length = ps.length) (hst : st = argsL.reverse ++ .ref a :: rest) (has : (Value.ref a :: argsL).toArray = as') (hW : (rest.map fun v => v.category).sum ≤ W) (hp : pc + 3 = pc') (k : ∀ v T' L, Stand p l e R s m args below meth c T' (locs ++ L) (cells + rm.cells) (slots + rm.slots) → Qf v T'.heap L → Ow p e below s Q kc ks (T'.setTop (mkF m pc' Ls (v.toList ++ rest)))) : Ow p e below s Q kc ks (T.setTop (mkF m pc Ls st)) := by
  subst hp
  obtain ⟨v, vm₁, ⟨T', L', k', n'⟩, -, X', ⟨L, hq, l1, y1, z1⟩, st'⟩ := X.specialBack hx hy1 hown (mvT hZ w1) (mvT hZ w2) (mvT hZ w4) hy (backOf (W := W) hM hZ w4 w3 hf hlo) (g := mkF m pc Ls st) rfl hsz (Steps.refl _) (a := a) (argsL := argsL) (rest := rest) (lenOf pd hlen) hst (by show 2 * 0 + _ ≤ _; omega) hd (fun _ _ => ⟨has, eT, hc, hs⟩)
  dsimp only [Pt.U, Pt.locs, Pt.cells, Pt.slots] at X' l1 y1 z1 st' hq
  subst l1 y1 z1
  exact Ow.go st' (k v T' L X' hq)
theorem w_callV (X : Stand p l e R s m args below meth c T locs cells slots) (hx : p.tables.exec = Jvm.exec) (hZ : Z.Warmed39 s.vm) {own C : String} {index : Nat} {y z : MethodName} {bytes : ByteArray} {maxL : Nat} {ret : Option FieldType} (hown : s.vm.findClass own = some m.cls) (w1 : (Cond.methodLink own index y).before a0 Z = true) (w2 : (Cond.declares y).before a0 Z = true) (nf : NotFace s y) (w5 : (Cond.selects C y z).before a0 Z = true) (w6 : (Cond.instanceMethod z).before a0 Z = true) (w3 : (Cond.initialized z.cls).before a0 Z = true) (w4 : (Cond.code z bytes maxL ret).before a0 Z = true) (hy : y.cls ≠ "java/lang/invoke/MethodHandle" ∧ y.cls ≠ "java/lang/invoke/VarHandle") {rm : Room} {as' : Array Value} {Qf : Option Value → Heap → List Loc → Prop} {W : Nat} (hM : MetFree l z (head1 [Cond.code z bytes maxL ret] rm) (fun a U => a = as' ∧ Z.Warmed39 U.vm ∧ U.heap = h) (fun _ _ _ _ _ => True) (fun _ U o U' => ∃ v L, o = .returned v ∧ Qf v U'.heap L ∧ FrameEnd U o U' L rm.cells rm.slots)) (eT : T.heap = h) (hf : rm.frames + 1 ≤ R.frames) (hlo : W + (maxL + 11) + rm.locals ≤ R.locals) (hc : cells + rm.cells ≤ R.cells) (hs : slots + rm.slots ≤ R.slots) {a : Addr} (E : Exa Z h a C) (hd : decode c.code pc = .ok (.invokevirtual index, 3)) (hsz : Ls.size = c.maxLocals) {argsL rest : List Value} {ps : List FieldType} {r : Option FieldType} (pd : parseMethodDescriptor y.desc = some ⟨ps, r⟩) (hlen : argsL.length = ps.length) (hst : st = argsL.reverse ++ .ref a :: rest) (has : (Value.ref a :: argsL).toArray = as') (hW : (rest.map fun v => v.category).sum ≤ W) (hp : pc + 3 = pc') (k : ∀ v T' L, Stand p l e R s m args below meth c T' (locs ++ L) (cells + rm.cells) (slots + rm.slots) → Qf v T'.heap L → Ow p e below s Q kc ks (T'.setTop (mkF m pc' Ls (v.toList ++ rest)))) : Ow p e below s Q kc ks (T.setTop (mkF m pc Ls st)) := by
  subst hp
  obtain ⟨cB, kB, qa, qb, qc⟩ := isOf hZ eT E
  obtain ⟨v, vm₁, ⟨T', L', k', n'⟩, -, X', ⟨L, hq, l1, y1, z1⟩, st'⟩ := X.virtualBack hx (y := y) (z := z) hown (mvT hZ w1) (mvT hZ w2) nf (mvT hZ w5) (mvT hZ w6) hy (backOf (W := W) hM hZ w4 w3 hf hlo) qa qc (g := mkF m pc Ls st) rfl hsz (Steps.refl _) (argsL := argsL) (rest := rest) (lenOf pd hlen) hst (by show 2 * 0 + _ ≤ _; omega) hd (fun _ _ => ⟨has, eT, hc, hs⟩)
  dsimp only [Pt.U, Pt.locs, Pt.cells, Pt.slots] at X' l1 y1 z1 st' hq
  subst l1 y1 z1
  exact Ow.go st' (k v T' L X' hq)
end W
theorem d1_0 : decode method_2_code 0 = .ok (.iload_n 0, 1) := by decide +kernel
theorem d1_1 : decode method_2_code 1 = .ok (.iconst 2, 1) := by decide +kernel
theorem d1_2 : decode method_2_code 2 = .ok (.if_icmp .ne 7, 3) := by decide +kernel
theorem d1_9 : decode method_2_code 9 = .ok (.iload_n 0, 1) := by decide +kernel
theorem d1_10 : decode method_2_code 10 = .ok (.iconst 3, 1) := by decide +kernel
theorem d1_11 : decode method_2_code 11 = .ok (.if_icmp .ne 7, 3) := by decide +kernel
theorem d1_18 : decode method_2_code 18 = .ok (.iload_n 1, 1) := by decide +kernel
theorem d1_19 : decode method_2_code 19 = .ok (.i2l, 1) := by decide +kernel
theorem d1_20 : decode method_2_code 20 = .ok (.lreturn, 1) := by decide +kernel
theorem d1_14 : decode method_2_code 14 = .ok (.ldc2_w 11, 3) := by decide +kernel
theorem d1_17 : decode method_2_code 17 = .ok (.lreturn, 1) := by decide +kernel
theorem d1_5 : decode method_2_code 5 = .ok (.ldc2_w 9, 3) := by decide +kernel
theorem d1_8 : decode method_2_code 8 = .ok (.lreturn, 1) := by decide +kernel
theorem ef_1 (m : MethodId) (p0 : Int32) (p1 : Int32) : entryFrame m #[(.int p0), (.int p1)] 2 = mkF m 0 #[.val (.int p0), .val (.int p1)] [] := by first | (simp [entryFrame, mkF, argsToLocals, Value.category]; done) | rfl
theorem pn_0 : plainName "com/example/metadata_for_discovery/metadatafordiscovery/search/IntervalHoldsPinLaw" = true := by first | (simp [plainName, overriddenIn]; done) | decide +kernel
theorem d2_0 : decode method_3_code 0 = .ok (.iload_n 0, 1) := by decide +kernel
theorem d2_1 : decode method_3_code 1 = .ok (.iconst 2, 1) := by decide +kernel
theorem d2_2 : decode method_3_code 2 = .ok (.if_icmp .ne 7, 3) := by decide +kernel
theorem d2_9 : decode method_3_code 9 = .ok (.iload_n 0, 1) := by decide +kernel
theorem d2_10 : decode method_3_code 10 = .ok (.iconst 3, 1) := by decide +kernel
theorem d2_11 : decode method_3_code 11 = .ok (.if_icmp .ne 7, 3) := by decide +kernel
theorem d2_18 : decode method_3_code 18 = .ok (.iload_n 1, 1) := by decide +kernel
theorem d2_19 : decode method_3_code 19 = .ok (.i2d, 1) := by decide +kernel
theorem d2_20 : decode method_3_code 20 = .ok (.dreturn, 1) := by decide +kernel
theorem d2_14 : decode method_3_code 14 = .ok (.ldc2_w 17, 3) := by decide +kernel
theorem d2_17 : decode method_3_code 17 = .ok (.dreturn, 1) := by decide +kernel
theorem d2_5 : decode method_3_code 5 = .ok (.ldc2_w 15, 3) := by decide +kernel
theorem d2_8 : decode method_3_code 8 = .ok (.dreturn, 1) := by decide +kernel
theorem ef_2 (m : MethodId) (p0 : Int32) (p1 : Int32) : entryFrame m #[(.int p0), (.int p1)] 2 = mkF m 0 #[.val (.int p0), .val (.int p1)] [] := by first | (simp [entryFrame, mkF, argsToLocals, Value.category]; done) | rfl
theorem d3_0 : decode prog_67_method_1_code 0 = .ok (.aload_n 0, 1) := by decide +kernel
theorem d3_1 : decode prog_67_method_1_code 1 = .ok (.invokespecial 1, 3) := by decide +kernel
theorem d3_4 : decode prog_67_method_1_code 4 = .ok (.aload_n 0, 1) := by decide +kernel
theorem d3_5 : decode prog_67_method_1_code 5 = .ok (.dload_n 1, 1) := by decide +kernel
theorem d3_6 : decode prog_67_method_1_code 6 = .ok (.putfield 7, 3) := by decide +kernel
theorem d3_9 : decode prog_67_method_1_code 9 = .ok (.aload_n 0, 1) := by decide +kernel
theorem d3_10 : decode prog_67_method_1_code 10 = .ok (.iload_n 3, 1) := by decide +kernel
theorem d3_11 : decode prog_67_method_1_code 11 = .ok (.putfield 13, 3) := by decide +kernel
theorem d3_14 : decode prog_67_method_1_code 14 = .ok (.aload_n 0, 1) := by decide +kernel
theorem d3_15 : decode prog_67_method_1_code 15 = .ok (.dload 4, 2) := by decide +kernel
theorem d3_17 : decode prog_67_method_1_code 17 = .ok (.putfield 17, 3) := by decide +kernel
theorem d3_20 : decode prog_67_method_1_code 20 = .ok (.aload_n 0, 1) := by decide +kernel
theorem d3_21 : decode prog_67_method_1_code 21 = .ok (.iload 6, 2) := by decide +kernel
theorem d3_23 : decode prog_67_method_1_code 23 = .ok (.putfield 20, 3) := by decide +kernel
theorem d3_26 : decode prog_67_method_1_code 26 = .ok (.return_, 1) := by decide +kernel
theorem ef_3 (m : MethodId) (a0 : Addr) (f1 : UInt64) (p2 : Int32) (f3 : UInt64) (p4 : Int32) : entryFrame m #[(.ref a0), (.double f1), (.int p2), (.double f3), (.int p4)] 7 = mkF m 0 #[.val (.ref a0), .val (.double f1), .second, .val (.int p2), .val (.double f3), .second, .val (.int p4)] [] := by first | (simp [entryFrame, mkF, argsToLocals, Value.category]; done) | rfl
theorem pn_1 : plainName "com/example/metadata_for_discovery/metadatafordiscovery/search/Interval" = true := by first | (simp [plainName, overriddenIn]; done) | decide +kernel
theorem d5_0 : decode prog_67_method_7_code 0 = .ok (.dload_n 1, 1) := by decide +kernel
theorem d5_1 : decode prog_67_method_7_code 1 = .ok (.aload_n 0, 1) := by decide +kernel
theorem d5_2 : decode prog_67_method_7_code 2 = .ok (.getfield 7, 3) := by decide +kernel
theorem d5_5 : decode prog_67_method_7_code 5 = .ok (.dcmp .l, 1) := by decide +kernel
theorem d5_6 : decode prog_67_method_7_code 6 = .ok (.ifCond .gt 19, 3) := by decide +kernel
theorem d5_25 : decode prog_67_method_7_code 25 = .ok (.iconst 1, 1) := by decide +kernel
theorem d5_26 : decode prog_67_method_7_code 26 = .ok (.goto 4, 3) := by decide +kernel
theorem d5_30 : decode prog_67_method_7_code 30 = .ok (.istore_n 3, 1) := by decide +kernel
theorem d5_31 : decode prog_67_method_7_code 31 = .ok (.dload_n 1, 1) := by decide +kernel
theorem d5_32 : decode prog_67_method_7_code 32 = .ok (.aload_n 0, 1) := by decide +kernel
theorem d5_33 : decode prog_67_method_7_code 33 = .ok (.getfield 17, 3) := by decide +kernel
theorem d5_36 : decode prog_67_method_7_code 36 = .ok (.dcmp .g, 1) := by decide +kernel
theorem d5_37 : decode prog_67_method_7_code 37 = .ok (.ifCond .lt 19, 3) := by decide +kernel
theorem d5_56 : decode prog_67_method_7_code 56 = .ok (.iconst 1, 1) := by decide +kernel
theorem d5_57 : decode prog_67_method_7_code 57 = .ok (.goto 4, 3) := by decide +kernel
theorem d5_61 : decode prog_67_method_7_code 61 = .ok (.istore 4, 2) := by decide +kernel
theorem d5_63 : decode prog_67_method_7_code 63 = .ok (.iload_n 3, 1) := by decide +kernel
theorem d5_64 : decode prog_67_method_7_code 64 = .ok (.ifCond .eq 12, 3) := by decide +kernel
theorem d5_67 : decode prog_67_method_7_code 67 = .ok (.iload 4, 2) := by decide +kernel
theorem d5_69 : decode prog_67_method_7_code 69 = .ok (.ifCond .eq 7, 3) := by decide +kernel
theorem d5_72 : decode prog_67_method_7_code 72 = .ok (.iconst 1, 1) := by decide +kernel
theorem d5_73 : decode prog_67_method_7_code 73 = .ok (.goto 4, 3) := by decide +kernel
theorem d5_77 : decode prog_67_method_7_code 77 = .ok (.ireturn, 1) := by decide +kernel
theorem d5_40 : decode prog_67_method_7_code 40 = .ok (.aload_n 0, 1) := by decide +kernel
theorem d5_41 : decode prog_67_method_7_code 41 = .ok (.getfield 20, 3) := by decide +kernel
theorem d5_44 : decode prog_67_method_7_code 44 = .ok (.ifCond .eq 16, 3) := by decide +kernel
theorem d5_60 : decode prog_67_method_7_code 60 = .ok (.iconst 0, 1) := by decide +kernel
theorem d5_76 : decode prog_67_method_7_code 76 = .ok (.iconst 0, 1) := by decide +kernel
theorem d5_47 : decode prog_67_method_7_code 47 = .ok (.dload_n 1, 1) := by decide +kernel
theorem d5_48 : decode prog_67_method_7_code 48 = .ok (.aload_n 0, 1) := by decide +kernel
theorem d5_49 : decode prog_67_method_7_code 49 = .ok (.getfield 17, 3) := by decide +kernel
theorem d5_52 : decode prog_67_method_7_code 52 = .ok (.dcmp .l, 1) := by decide +kernel
theorem d5_53 : decode prog_67_method_7_code 53 = .ok (.ifCond .ne 7, 3) := by decide +kernel
theorem d5_9 : decode prog_67_method_7_code 9 = .ok (.aload_n 0, 1) := by decide +kernel
theorem d5_10 : decode prog_67_method_7_code 10 = .ok (.getfield 13, 3) := by decide +kernel
theorem d5_13 : decode prog_67_method_7_code 13 = .ok (.ifCond .eq 16, 3) := by decide +kernel
theorem d5_29 : decode prog_67_method_7_code 29 = .ok (.iconst 0, 1) := by decide +kernel
theorem d5_16 : decode prog_67_method_7_code 16 = .ok (.dload_n 1, 1) := by decide +kernel
theorem d5_17 : decode prog_67_method_7_code 17 = .ok (.aload_n 0, 1) := by decide +kernel
theorem d5_18 : decode prog_67_method_7_code 18 = .ok (.getfield 7, 3) := by decide +kernel
theorem d5_21 : decode prog_67_method_7_code 21 = .ok (.dcmp .l, 1) := by decide +kernel
theorem d5_22 : decode prog_67_method_7_code 22 = .ok (.ifCond .ne 7, 3) := by decide +kernel
theorem ef_5 (m : MethodId) (a0 : Addr) (f1 : UInt64) : entryFrame m #[(.ref a0), (.double f1)] 5 = mkF m 0 #[.val (.ref a0), .val (.double f1), .second, .unset, .unset] [] := by first | (simp [entryFrame, mkF, argsToLocals, Value.category]; done) | rfl
/-- IntervalHoldsPinLaw.rank -/
def rnk (p0 : Int32) (p1 : Int32) : Int64 := (if p0 = (2 : Int32) then (-9223372036854775808 : Int64) else (if p0 = (3 : Int32) then (9223372036854775807 : Int64) else (p1.toInt64)))
def Q1 (p0 : Int32) (p1 : Int32) (h0 : Heap) (v : Option Value) (h : Heap) (L : List Loc) : Prop := v = some (.long (rnk p0 p1)) ∧ h = h0 ∧ L = []
set_option maxRecDepth 65536 in
set_option maxHeartbeats 40000000 in
theorem rm1 (l : Launch) (Z : State) (aw : Array Value) (hw : ∀ d ∈ tables_1, d.before aw Z = true) (ws : List Jvm.Cond) (p0 : Int32) (p1 : Int32) (h0 : Heap) :
    MetFree l (⟨"com/example/metadata_for_discovery/metadatafordiscovery/search/IntervalHoldsPinLaw", "rank", "(II)J"⟩ : MethodName) (head1 (Jvm.Cond.code (⟨"com/example/metadata_for_discovery/metadatafordiscovery/search/IntervalHoldsPinLaw", "rank", "(II)J"⟩ : MethodName) method_2_code 2 (some .long) :: ws) ({ frames := 0, cells := 0, slots := 0, locals := 0 } : Room)) (fun a U => a = #[(.int p0), (.int p1)] ∧ Z.Warmed39 U.vm ∧ U.heap = h0) (fun _ _ _ _ _ => True) (fun _ U o U' => ∃ v L, o = .returned v ∧ Q1 p0 p1 h0 v U'.heap L ∧ FrameEnd U o U' L ({ frames := 0, cells := 0, slots := 0, locals := 0 } : Room).cells ({ frames := 0, cells := 0, slots := 0, locals := 0 } : Room).slots) := by
  refine MetFree.of_bodySF (plainFor_of_name pn_0) hisR ?_
  intro p e s m args below meth c s₁ Bd hml0 hP _hKK
  obtain ⟨rfl, hZ, hh⟩ := hP
  have hx := Bd.exec
  have hby := Bd.bytes
  have hml : c.maxLocals = 2 := hml0
  have hown : s.vm.findClass "com/example/metadata_for_discovery/metadatafordiscovery/search/IntervalHoldsPinLaw" = some m.cls := findClass_of_methodNamed Bd.named
  have hnm := (name_of_methodNamed Bd.named Bd.method).1
  have X0 : Stand p l e ({ frames := 0, cells := 0, slots := 0, locals := 0 } : Room) s m #[(.int p0), (.int p1)] below meth c s₁ [] 0 0 := Stand.of_body Bd
  have e0 : s₁.heap = h0 := by rw [← hh, Bd.state]; rfl
  refine Ow.enter (Q := Q1 p0 p1 h0) (ef_1 m p0 p1) ?_
  show Ow p e below s _ _ _ (s₁.setTop (mkF m 0 #[.val (.int p0), .val (.int p1)] []))
  refine w_iloadN X0 hx (Jvm.hb hby d1_0) rfl (pc' := 1) rfl ?_
  refine w_iconst X0 hx (2 : Int32) (Jvm.hb hby d1_1) (by decide) (pc' := 2) rfl ?_
  refine w_icmp_ne X0 hx (Jvm.hb hby d1_2) (by decide) (pcT := 9) (by decide) (pcF := 5) rfl (fun hc2_0 => ?_) (fun hc2_0 => ?_)
  · refine w_iloadN X0 hx (Jvm.hb hby d1_9) rfl (pc' := 10) rfl ?_
    refine w_iconst X0 hx (3 : Int32) (Jvm.hb hby d1_10) (by decide) (pc' := 11) rfl ?_
    refine w_icmp_ne X0 hx (Jvm.hb hby d1_11) (by decide) (pcT := 18) (by decide) (pcF := 14) rfl (fun hc11_1 => ?_) (fun hc11_1 => ?_)
    · refine w_iloadN X0 hx (Jvm.hb hby d1_18) rfl (pc' := 19) rfl ?_
      refine w_i2l X0 hx (Jvm.hb hby d1_19) (pc' := 20) rfl ?_
      exact w_lreturn X0 hx Bd.returns (BodyLoose.notSynchronized Bd) (Nat.le_of_ble_eq_true rfl) (Nat.le_of_ble_eq_true rfl) (Jvm.hb hby d1_20) ⟨congrArg (fun z => some (Value.long z)) (show (p1.toInt64) = rnk p0 p1 from by unfold rnk; rw [if_neg hc2_0, if_neg hc11_1]), e0, rfl⟩
    · refine w_ldc2J X0 hx hZ hown (hw _ (List.mem_of_getElem? (i := 31) rfl)) (Jvm.hb hby d1_14) (pc' := 17) rfl ?_
      exact w_lreturn X0 hx Bd.returns (BodyLoose.notSynchronized Bd) (Nat.le_of_ble_eq_true rfl) (Nat.le_of_ble_eq_true rfl) (Jvm.hb hby d1_17) ⟨congrArg (fun z => some (Value.long z)) (show (9223372036854775807 : Int64) = rnk p0 p1 from by unfold rnk; rw [if_neg hc2_0, if_pos hc11_1]), e0, rfl⟩
  · refine w_ldc2J X0 hx hZ hown (hw _ (List.mem_of_getElem? (i := 29) rfl)) (Jvm.hb hby d1_5) (pc' := 8) rfl ?_
    exact w_lreturn X0 hx Bd.returns (BodyLoose.notSynchronized Bd) (Nat.le_of_ble_eq_true rfl) (Nat.le_of_ble_eq_true rfl) (Jvm.hb hby d1_8) ⟨congrArg (fun z => some (Value.long z)) (show (-9223372036854775808 : Int64) = rnk p0 p1 from by unfold rnk; rw [if_pos hc2_0]), e0, rfl⟩
/-- IntervalHoldsPinLaw.num -/
def num (p0 : Int32) (p1 : Int32) : UInt64 := (if p0 = (2 : Int32) then (18442240474082181120 : UInt64) else (if p0 = (3 : Int32) then (9218868437227405312 : UInt64) else (FP.i2d p1)))
def Q2 (p0 : Int32) (p1 : Int32) (h0 : Heap) (v : Option Value) (h : Heap) (L : List Loc) : Prop := v = some (.double (num p0 p1)) ∧ h = h0 ∧ L = []
set_option maxRecDepth 65536 in
set_option maxHeartbeats 40000000 in
theorem rm2 (l : Launch) (Z : State) (aw : Array Value) (hw : ∀ d ∈ tables_1, d.before aw Z = true) (ws : List Jvm.Cond) (p0 : Int32) (p1 : Int32) (h0 : Heap) :
    MetFree l (⟨"com/example/metadata_for_discovery/metadatafordiscovery/search/IntervalHoldsPinLaw", "num", "(II)D"⟩ : MethodName) (head1 (Jvm.Cond.code (⟨"com/example/metadata_for_discovery/metadatafordiscovery/search/IntervalHoldsPinLaw", "num", "(II)D"⟩ : MethodName) method_3_code 2 (some .double) :: ws) ({ frames := 0, cells := 0, slots := 0, locals := 0 } : Room)) (fun a U => a = #[(.int p0), (.int p1)] ∧ Z.Warmed39 U.vm ∧ U.heap = h0) (fun _ _ _ _ _ => True) (fun _ U o U' => ∃ v L, o = .returned v ∧ Q2 p0 p1 h0 v U'.heap L ∧ FrameEnd U o U' L ({ frames := 0, cells := 0, slots := 0, locals := 0 } : Room).cells ({ frames := 0, cells := 0, slots := 0, locals := 0 } : Room).slots) := by
  refine MetFree.of_bodySF (plainFor_of_name pn_0) hisR ?_
  intro p e s m args below meth c s₁ Bd hml0 hP _hKK
  obtain ⟨rfl, hZ, hh⟩ := hP
  have hx := Bd.exec
  have hby := Bd.bytes
  have hml : c.maxLocals = 2 := hml0
  have hown : s.vm.findClass "com/example/metadata_for_discovery/metadatafordiscovery/search/IntervalHoldsPinLaw" = some m.cls := findClass_of_methodNamed Bd.named
  have hnm := (name_of_methodNamed Bd.named Bd.method).1
  have X0 : Stand p l e ({ frames := 0, cells := 0, slots := 0, locals := 0 } : Room) s m #[(.int p0), (.int p1)] below meth c s₁ [] 0 0 := Stand.of_body Bd
  have e0 : s₁.heap = h0 := by rw [← hh, Bd.state]; rfl
  refine Ow.enter (Q := Q2 p0 p1 h0) (ef_2 m p0 p1) ?_
  show Ow p e below s _ _ _ (s₁.setTop (mkF m 0 #[.val (.int p0), .val (.int p1)] []))
  refine w_iloadN X0 hx (Jvm.hb hby d2_0) rfl (pc' := 1) rfl ?_
  refine w_iconst X0 hx (2 : Int32) (Jvm.hb hby d2_1) (by decide) (pc' := 2) rfl ?_
  refine w_icmp_ne X0 hx (Jvm.hb hby d2_2) (by decide) (pcT := 9) (by decide) (pcF := 5) rfl (fun hc2_0 => ?_) (fun hc2_0 => ?_)
  · refine w_iloadN X0 hx (Jvm.hb hby d2_9) rfl (pc' := 10) rfl ?_
    refine w_iconst X0 hx (3 : Int32) (Jvm.hb hby d2_10) (by decide) (pc' := 11) rfl ?_
    refine w_icmp_ne X0 hx (Jvm.hb hby d2_11) (by decide) (pcT := 18) (by decide) (pcF := 14) rfl (fun hc11_1 => ?_) (fun hc11_1 => ?_)
    · refine w_iloadN X0 hx (Jvm.hb hby d2_18) rfl (pc' := 19) rfl ?_
      refine w_i2d X0 hx (Jvm.hb hby d2_19) (pc' := 20) rfl ?_
      exact w_dreturn X0 hx Bd.returns (BodyLoose.notSynchronized Bd) (Nat.le_of_ble_eq_true rfl) (Nat.le_of_ble_eq_true rfl) (Jvm.hb hby d2_20) ⟨congrArg (fun z => some (Value.double z)) (show (FP.i2d p1) = num p0 p1 from by unfold num; rw [if_neg hc2_0, if_neg hc11_1]), e0, rfl⟩
    · refine w_ldc2D X0 hx hZ hown (hw _ (List.mem_of_getElem? (i := 32) rfl)) (Jvm.hb hby d2_14) (pc' := 17) rfl ?_
      exact w_dreturn X0 hx Bd.returns (BodyLoose.notSynchronized Bd) (Nat.le_of_ble_eq_true rfl) (Nat.le_of_ble_eq_true rfl) (Jvm.hb hby d2_17) ⟨congrArg (fun z => some (Value.double z)) (show (9218868437227405312 : UInt64) = num p0 p1 from by unfold num; rw [if_neg hc2_0, if_pos hc11_1]), e0, rfl⟩
  · refine w_ldc2D X0 hx hZ hown (hw _ (List.mem_of_getElem? (i := 30) rfl)) (Jvm.hb hby d2_5) (pc' := 8) rfl ?_
    exact w_dreturn X0 hx Bd.returns (BodyLoose.notSynchronized Bd) (Nat.le_of_ble_eq_true rfl) (Nat.le_of_ble_eq_true rfl) (Jvm.hb hby d2_8) ⟨congrArg (fun z => some (Value.double z)) (show (18442240474082181120 : UInt64) = num p0 p1 from by unfold num; rw [if_pos hc2_0]), e0, rfl⟩
def Q3 (Z : State) (a0 : Addr) (f1 : UInt64) (p2 : Int32) (f3 : UInt64) (p4 : Int32) (h0 : Heap) (n0 : Nat) (v : Option Value) (h : Heap) (L : List Loc) : Prop := v = none ∧ Fr n0 L ∧ Keep h0 h [a0] ∧ Fld Z h a0 "com/example/metadata_for_discovery/metadatafordiscovery/search/Interval" "low" "D" (.double f1) ∧ Fld Z h a0 "com/example/metadata_for_discovery/metadatafordiscovery/search/Interval" "lowHeld" "Z" (.int p2) ∧ Fld Z h a0 "com/example/metadata_for_discovery/metadatafordiscovery/search/Interval" "high" "D" (.double f3) ∧ Fld Z h a0 "com/example/metadata_for_discovery/metadatafordiscovery/search/Interval" "highHeld" "Z" (.int p4)
set_option maxRecDepth 65536 in
set_option maxHeartbeats 40000000 in
theorem rm3 (l : Launch) (Z : State) (aw : Array Value) (hw : ∀ d ∈ tables_1, d.before aw Z = true) (ws : List Jvm.Cond) (a0 : Addr) (f1 : UInt64) (p2 : Int32) (f3 : UInt64) (p4 : Int32) (h0 : Heap) (n0 : Nat) (F_low : Fld Z h0 a0 "com/example/metadata_for_discovery/metadatafordiscovery/search/Interval" "low" "D" (.double 0)) (F_lowHeld : Fld Z h0 a0 "com/example/metadata_for_discovery/metadatafordiscovery/search/Interval" "lowHeld" "Z" (.int (0 : Int32))) (F_high : Fld Z h0 a0 "com/example/metadata_for_discovery/metadatafordiscovery/search/Interval" "high" "D" (.double 0)) (F_highHeld : Fld Z h0 a0 "com/example/metadata_for_discovery/metadatafordiscovery/search/Interval" "highHeld" "Z" (.int (0 : Int32))) (E : Exa Z h0 a0 "com/example/metadata_for_discovery/metadatafordiscovery/search/Interval") (g : n0 ≤ a0) (hzp2 : p2 = 0 ∨ p2 = 1) (hzp4 : p4 = 0 ∨ p4 = 1) :
    MetFree l (⟨"com/example/metadata_for_discovery/metadatafordiscovery/search/Interval", "<init>", "(DZDZ)V"⟩ : MethodName) (head1 (Jvm.Cond.code (⟨"com/example/metadata_for_discovery/metadatafordiscovery/search/Interval", "<init>", "(DZDZ)V"⟩ : MethodName) prog_67_method_1_code 7 none :: ws) ({ frames := 1, cells := 0, slots := 0, locals := 12 } : Room)) (fun a U => a = #[(.ref a0), (.double f1), (.int p2), (.double f3), (.int p4)] ∧ Z.Warmed39 U.vm ∧ U.heap = h0) (fun _ _ _ _ _ => True) (fun _ U o U' => ∃ v L, o = .returned v ∧ Q3 Z a0 f1 p2 f3 p4 h0 n0 v U'.heap L ∧ FrameEnd U o U' L ({ frames := 1, cells := 0, slots := 0, locals := 12 } : Room).cells ({ frames := 1, cells := 0, slots := 0, locals := 12 } : Room).slots) := by
  refine MetFree.of_bodySF (plainFor_of_name pn_1) hisR ?_
  intro p e s m args below meth c s₁ Bd hml0 hP _hKK
  obtain ⟨rfl, hZ, hh⟩ := hP
  have hx := Bd.exec
  have hby := Bd.bytes
  have hml : c.maxLocals = 7 := hml0
  have hown : s.vm.findClass "com/example/metadata_for_discovery/metadatafordiscovery/search/Interval" = some m.cls := findClass_of_methodNamed Bd.named
  have hnm := (name_of_methodNamed Bd.named Bd.method).1
  have X0 : Stand p l e ({ frames := 1, cells := 0, slots := 0, locals := 12 } : Room) s m #[(.ref a0), (.double f1), (.int p2), (.double f3), (.int p4)] below meth c s₁ [] 0 0 := Stand.of_body Bd
  have e0 : s₁.heap = h0 := by rw [← hh, Bd.state]; rfl
  refine Ow.enter (Q := Q3 Z a0 f1 p2 f3 p4 h0 n0) (ef_3 m a0 f1 p2 f3 p4) ?_
  show Ow p e below s _ _ _ (s₁.setTop (mkF m 0 #[.val (.ref a0), .val (.double f1), .second, .val (.int p2), .val (.double f3), .second, .val (.int p4)] []))
  refine w_aloadN X0 hx (Jvm.hb hby d3_0) rfl rfl (pc' := 1) rfl ?_
  refine w_objinit X0 hx hZ hown (hw _ (List.mem_of_getElem? (i := 13) rfl)) (hw _ (List.mem_of_getElem? (i := 14) rfl)) (hw _ (List.mem_of_getElem? (i := 15) rfl)) e0 (Jvm.hb hby d3_1) (by rw [hml]; rfl) (by decide) (W := 0) (Nat.le_of_eq rfl) (by decide) (pc' := 4) rfl ?_
  intro T21 X21 e21
  refine w_aloadN X21 hx (Jvm.hb hby d3_4) rfl rfl (pc' := 5) rfl ?_
  refine w_dloadN X21 hx (Jvm.hb hby d3_5) rfl (pc' := 6) rfl ?_
  refine w_putfield X21 hx hZ hown (host := "") (Or.inl (hw _ (List.mem_of_getElem? (i := 16) rfl))) Via.refl e21 F_low E (Or.inr ⟨(hw _ (List.mem_of_getElem? (i := 17) rfl)), rfl, hnm⟩) (hw _ (List.mem_of_getElem? (i := 5) rfl)) (ty := .double) (by decide) rfl rfl (Jvm.hb hby d3_6) (pc' := 9) rfl ?_
  intro T22 h22 X22 e22 W22
  have F22_low := F_low.same W22
  have F22_lowHeld := F_lowHeld.other W22 (Or.inr (slot_ne (Or.inr (hw _ (List.mem_of_getElem? (i := 19) rfl))) (Or.inr (hw _ (List.mem_of_getElem? (i := 17) rfl))) (by decide) (t := .boolean) (t' := .double) (by decide) (by decide)))
  have F22_high := F_high.other W22 (Or.inr (slot_ne (Or.inr (hw _ (List.mem_of_getElem? (i := 21) rfl))) (Or.inr (hw _ (List.mem_of_getElem? (i := 17) rfl))) (by decide) (t := .double) (t' := .double) (by decide) (by decide)))
  have F22_highHeld := F_highHeld.other W22 (Or.inr (slot_ne (Or.inr (hw _ (List.mem_of_getElem? (i := 23) rfl))) (Or.inr (hw _ (List.mem_of_getElem? (i := 17) rfl))) (by decide) (t := .boolean) (t' := .double) (by decide) (by decide)))
  have E22 := E.wr W22
  have K22 : Keep h0 h22 [a0] := Keep.of_wr W22
  have N22 := Fr.snoc X22 (Fr.nil n0) g
  refine w_aloadN X22 hx (Jvm.hb hby d3_9) rfl rfl (pc' := 10) rfl ?_
  refine w_iloadN X22 hx (Jvm.hb hby d3_10) rfl (pc' := 11) rfl ?_
  refine w_putfield X22 hx hZ hown (host := "") (Or.inl (hw _ (List.mem_of_getElem? (i := 18) rfl))) Via.refl e22 F22_lowHeld E22 (Or.inr ⟨(hw _ (List.mem_of_getElem? (i := 19) rfl)), rfl, hnm⟩) (hw _ (List.mem_of_getElem? (i := 5) rfl)) (ty := .boolean) (by decide) (by rcases hzp2 with z | z <;> rw [z] <;> rfl) (by rcases hzp2 with z | z <;> rw [z] <;> rfl) (Jvm.hb hby d3_11) (pc' := 14) rfl ?_
  intro T23 h23 X23 e23 W23
  have F23_low := F22_low.other W23 (Or.inr (slot_ne (Or.inr (hw _ (List.mem_of_getElem? (i := 17) rfl))) (Or.inr (hw _ (List.mem_of_getElem? (i := 19) rfl))) (by decide) (t := .double) (t' := .boolean) (by decide) (by decide)))
  have F23_lowHeld := F22_lowHeld.same W23
  have F23_high := F22_high.other W23 (Or.inr (slot_ne (Or.inr (hw _ (List.mem_of_getElem? (i := 21) rfl))) (Or.inr (hw _ (List.mem_of_getElem? (i := 19) rfl))) (by decide) (t := .double) (t' := .boolean) (by decide) (by decide)))
  have F23_highHeld := F22_highHeld.other W23 (Or.inr (slot_ne (Or.inr (hw _ (List.mem_of_getElem? (i := 23) rfl))) (Or.inr (hw _ (List.mem_of_getElem? (i := 19) rfl))) (by decide) (t := .boolean) (t' := .boolean) (by decide) (by decide)))
  have E23 := E22.wr W23
  have K23 : Keep h0 h23 [a0] := K22.wr W23 (Or.inl (List.mem_of_getElem? (i := 0) rfl))
  have N23 := Fr.snoc X23 N22 g
  refine w_aloadN X23 hx (Jvm.hb hby d3_14) rfl rfl (pc' := 15) rfl ?_
  refine w_dload X23 hx (Jvm.hb hby d3_15) rfl (pc' := 17) rfl ?_
  refine w_putfield X23 hx hZ hown (host := "") (Or.inl (hw _ (List.mem_of_getElem? (i := 20) rfl))) Via.refl e23 F23_high E23 (Or.inr ⟨(hw _ (List.mem_of_getElem? (i := 21) rfl)), rfl, hnm⟩) (hw _ (List.mem_of_getElem? (i := 5) rfl)) (ty := .double) (by decide) rfl rfl (Jvm.hb hby d3_17) (pc' := 20) rfl ?_
  intro T24 h24 X24 e24 W24
  have F24_low := F23_low.other W24 (Or.inr (slot_ne (Or.inr (hw _ (List.mem_of_getElem? (i := 17) rfl))) (Or.inr (hw _ (List.mem_of_getElem? (i := 21) rfl))) (by decide) (t := .double) (t' := .double) (by decide) (by decide)))
  have F24_lowHeld := F23_lowHeld.other W24 (Or.inr (slot_ne (Or.inr (hw _ (List.mem_of_getElem? (i := 19) rfl))) (Or.inr (hw _ (List.mem_of_getElem? (i := 21) rfl))) (by decide) (t := .boolean) (t' := .double) (by decide) (by decide)))
  have F24_high := F23_high.same W24
  have F24_highHeld := F23_highHeld.other W24 (Or.inr (slot_ne (Or.inr (hw _ (List.mem_of_getElem? (i := 23) rfl))) (Or.inr (hw _ (List.mem_of_getElem? (i := 21) rfl))) (by decide) (t := .boolean) (t' := .double) (by decide) (by decide)))
  have E24 := E23.wr W24
  have K24 : Keep h0 h24 [a0] := K23.wr W24 (Or.inl (List.mem_of_getElem? (i := 0) rfl))
  have N24 := Fr.snoc X24 N23 g
  refine w_aloadN X24 hx (Jvm.hb hby d3_20) rfl rfl (pc' := 21) rfl ?_
  refine w_iload X24 hx (Jvm.hb hby d3_21) rfl (pc' := 23) rfl ?_
  refine w_putfield X24 hx hZ hown (host := "") (Or.inl (hw _ (List.mem_of_getElem? (i := 22) rfl))) Via.refl e24 F24_highHeld E24 (Or.inr ⟨(hw _ (List.mem_of_getElem? (i := 23) rfl)), rfl, hnm⟩) (hw _ (List.mem_of_getElem? (i := 5) rfl)) (ty := .boolean) (by decide) (by rcases hzp4 with z | z <;> rw [z] <;> rfl) (by rcases hzp4 with z | z <;> rw [z] <;> rfl) (Jvm.hb hby d3_23) (pc' := 26) rfl ?_
  intro T25 h25 X25 e25 W25
  have F25_low := F24_low.other W25 (Or.inr (slot_ne (Or.inr (hw _ (List.mem_of_getElem? (i := 17) rfl))) (Or.inr (hw _ (List.mem_of_getElem? (i := 23) rfl))) (by decide) (t := .double) (t' := .boolean) (by decide) (by decide)))
  have F25_lowHeld := F24_lowHeld.other W25 (Or.inr (slot_ne (Or.inr (hw _ (List.mem_of_getElem? (i := 19) rfl))) (Or.inr (hw _ (List.mem_of_getElem? (i := 23) rfl))) (by decide) (t := .boolean) (t' := .boolean) (by decide) (by decide)))
  have F25_high := F24_high.other W25 (Or.inr (slot_ne (Or.inr (hw _ (List.mem_of_getElem? (i := 21) rfl))) (Or.inr (hw _ (List.mem_of_getElem? (i := 23) rfl))) (by decide) (t := .double) (t' := .boolean) (by decide) (by decide)))
  have F25_highHeld := F24_highHeld.same W25
  have E25 := E24.wr W25
  have K25 : Keep h0 h25 [a0] := K24.wr W25 (Or.inl (List.mem_of_getElem? (i := 0) rfl))
  have N25 := Fr.snoc X25 N24 g
  exact w_return X25 hx Bd.returns (BodyLoose.notSynchronized Bd) (Nat.le_of_ble_eq_true rfl) (Nat.le_of_ble_eq_true rfl) (Jvm.hb hby d3_26) ⟨rfl, N25, by rw [e25]; exact ⟨K25, F25_low, F25_lowHeld, F25_high, F25_highHeld⟩⟩
/-- Interval.holds -/
def hold (f1 : UInt64) (lo : UInt64) (lh : Int32) (hi : UInt64) (hh' : Int32) : Int32 := (if (0 : Int32) < (cmpValue (FP.dcmp f1 lo) .l) then (if (cmpValue (FP.dcmp f1 hi) .g) < (0 : Int32) then (1 : Int32) else (if hh' = (0 : Int32) then (0 : Int32) else (if (cmpValue (FP.dcmp f1 hi) .l) = (0 : Int32) then (1 : Int32) else (0 : Int32)))) else (if lh = (0 : Int32) then (if (cmpValue (FP.dcmp f1 hi) .g) < (0 : Int32) then (0 : Int32) else (if hh' = (0 : Int32) then (0 : Int32) else (if (cmpValue (FP.dcmp f1 hi) .l) = (0 : Int32) then (0 : Int32) else (0 : Int32)))) else (if (cmpValue (FP.dcmp f1 lo) .l) = (0 : Int32) then (if (cmpValue (FP.dcmp f1 hi) .g) < (0 : Int32) then (1 : Int32) else (if hh' = (0 : Int32) then (0 : Int32) else (if (cmpValue (FP.dcmp f1 hi) .l) = (0 : Int32) then (1 : Int32) else (0 : Int32)))) else (if (cmpValue (FP.dcmp f1 hi) .g) < (0 : Int32) then (0 : Int32) else (if hh' = (0 : Int32) then (0 : Int32) else (if (cmpValue (FP.dcmp f1 hi) .l) = (0 : Int32) then (0 : Int32) else (0 : Int32)))))))
def Q5 (f1 : UInt64) (lo : UInt64) (lh : Int32) (hi : UInt64) (hh' : Int32) (h0 : Heap) (v : Option Value) (h : Heap) (L : List Loc) : Prop := v = some (.int (hold f1 lo lh hi hh')) ∧ h = h0 ∧ L = []
set_option maxRecDepth 65536 in
set_option maxHeartbeats 40000000 in
theorem rm5 (l : Launch) (Z : State) (aw : Array Value) (hw : ∀ d ∈ tables_1, d.before aw Z = true) (ws : List Jvm.Cond) (a0 : Addr) (f1 : UInt64) (lo : UInt64) (lh : Int32) (hi : UInt64) (hh' : Int32) (h0 : Heap) (F_low : Fld Z h0 a0 "com/example/metadata_for_discovery/metadatafordiscovery/search/Interval" "low" "D" (.double lo)) (F_lowHeld : Fld Z h0 a0 "com/example/metadata_for_discovery/metadatafordiscovery/search/Interval" "lowHeld" "Z" (.int lh)) (F_high : Fld Z h0 a0 "com/example/metadata_for_discovery/metadatafordiscovery/search/Interval" "high" "D" (.double hi)) (F_highHeld : Fld Z h0 a0 "com/example/metadata_for_discovery/metadatafordiscovery/search/Interval" "highHeld" "Z" (.int hh')) :
    MetFree l (⟨"com/example/metadata_for_discovery/metadatafordiscovery/search/Interval", "holds", "(D)Z"⟩ : MethodName) (head1 (Jvm.Cond.code (⟨"com/example/metadata_for_discovery/metadatafordiscovery/search/Interval", "holds", "(D)Z"⟩ : MethodName) prog_67_method_7_code 5 (some .boolean) :: ws) ({ frames := 0, cells := 0, slots := 0, locals := 0 } : Room)) (fun a U => a = #[(.ref a0), (.double f1)] ∧ Z.Warmed39 U.vm ∧ U.heap = h0) (fun _ _ _ _ _ => True) (fun _ U o U' => ∃ v L, o = .returned v ∧ Q5 f1 lo lh hi hh' h0 v U'.heap L ∧ FrameEnd U o U' L ({ frames := 0, cells := 0, slots := 0, locals := 0 } : Room).cells ({ frames := 0, cells := 0, slots := 0, locals := 0 } : Room).slots) := by
  refine MetFree.of_bodySF (plainFor_of_name pn_1) hisR ?_
  intro p e s m args below meth c s₁ Bd hml0 hP _hKK
  obtain ⟨rfl, hZ, hh⟩ := hP
  have hx := Bd.exec
  have hby := Bd.bytes
  have hml : c.maxLocals = 5 := hml0
  have hown : s.vm.findClass "com/example/metadata_for_discovery/metadatafordiscovery/search/Interval" = some m.cls := findClass_of_methodNamed Bd.named
  have hnm := (name_of_methodNamed Bd.named Bd.method).1
  have X0 : Stand p l e ({ frames := 0, cells := 0, slots := 0, locals := 0 } : Room) s m #[(.ref a0), (.double f1)] below meth c s₁ [] 0 0 := Stand.of_body Bd
  have e0 : s₁.heap = h0 := by rw [← hh, Bd.state]; rfl
  refine Ow.enter (Q := Q5 f1 lo lh hi hh' h0) (ef_5 m a0 f1) ?_
  show Ow p e below s _ _ _ (s₁.setTop (mkF m 0 #[.val (.ref a0), .val (.double f1), .second, .unset, .unset] []))
  refine w_dloadN X0 hx (Jvm.hb hby d5_0) rfl (pc' := 1) rfl ?_
  refine w_aloadN X0 hx (Jvm.hb hby d5_1) rfl rfl (pc' := 2) rfl ?_
  refine w_getfield X0 hx hZ hown (host := "") (Or.inl (hw _ (List.mem_of_getElem? (i := 16) rfl))) Via.refl e0 F_low (Jvm.hb hby d5_2) (pc' := 5) rfl ?_
  intro T26 X26 e26
  refine w_dcmp X26 hx (Jvm.hb hby d5_5) (pc' := 6) rfl ?_
  refine w_if_gt X26 hx (Jvm.hb hby d5_6) (by decide) (pcT := 25) (by decide) (pcF := 9) rfl (fun hc6_0 => ?_) (fun hc6_0 => ?_)
  · refine w_iconst X26 hx (1 : Int32) (Jvm.hb hby d5_25) (by decide) (pc' := 26) rfl ?_
    refine w_goto X26 hx (Jvm.hb hby d5_26) (by decide) (pc' := 30) (by decide) ?_
    refine w_istoreN X26 hx (Jvm.hb hby d5_30) #[.val (.ref a0), .val (.double f1), .second, .val (.int (1 : Int32)), .unset] rfl  (pc' := 31) rfl ?_
    refine w_dloadN X26 hx (Jvm.hb hby d5_31) rfl (pc' := 32) rfl ?_
    refine w_aloadN X26 hx (Jvm.hb hby d5_32) rfl rfl (pc' := 33) rfl ?_
    refine w_getfield X26 hx hZ hown (host := "") (Or.inl (hw _ (List.mem_of_getElem? (i := 20) rfl))) Via.refl e26 F_high (Jvm.hb hby d5_33) (pc' := 36) rfl ?_
    intro T27 X27 e27
    refine w_dcmp X27 hx (Jvm.hb hby d5_36) (pc' := 37) rfl ?_
    refine w_if_lt X27 hx (Jvm.hb hby d5_37) (by decide) (pcT := 56) (by decide) (pcF := 40) rfl (fun hc37_1 => ?_) (fun hc37_1 => ?_)
    · refine w_iconst X27 hx (1 : Int32) (Jvm.hb hby d5_56) (by decide) (pc' := 57) rfl ?_
      refine w_goto X27 hx (Jvm.hb hby d5_57) (by decide) (pc' := 61) (by decide) ?_
      refine w_istore X27 hx (Jvm.hb hby d5_61) #[.val (.ref a0), .val (.double f1), .second, .val (.int (1 : Int32)), .val (.int (1 : Int32))] rfl  (pc' := 63) rfl ?_
      refine w_iloadN X27 hx (Jvm.hb hby d5_63) rfl (pc' := 64) rfl ?_
      refine w_if_eq X27 hx (Jvm.hb hby d5_64) (by decide) (pcT := 76) (by decide) (pcF := 67) rfl (fun q => absurd q (show ¬ (1 : Int32) = (0 : Int32) from by decide)) (fun _ => ?_)
      refine w_iload X27 hx (Jvm.hb hby d5_67) rfl (pc' := 69) rfl ?_
      refine w_if_eq X27 hx (Jvm.hb hby d5_69) (by decide) (pcT := 76) (by decide) (pcF := 72) rfl (fun q => absurd q (show ¬ (1 : Int32) = (0 : Int32) from by decide)) (fun _ => ?_)
      refine w_iconst X27 hx (1 : Int32) (Jvm.hb hby d5_72) (by decide) (pc' := 73) rfl ?_
      refine w_goto X27 hx (Jvm.hb hby d5_73) (by decide) (pc' := 77) (by decide) ?_
      exact w_zreturn X27 hx Bd.returns (Or.inr rfl) (BodyLoose.notSynchronized Bd) (Nat.le_of_ble_eq_true rfl) (Nat.le_of_ble_eq_true rfl) (Jvm.hb hby d5_77) ⟨congrArg (fun z => some (Value.int z)) (show (1 : Int32) = hold f1 lo lh hi hh' from by unfold hold; rw [if_pos hc6_0, if_pos hc37_1]), e27, rfl⟩
    · refine w_aloadN X27 hx (Jvm.hb hby d5_40) rfl rfl (pc' := 41) rfl ?_
      refine w_getfield X27 hx hZ hown (host := "") (Or.inl (hw _ (List.mem_of_getElem? (i := 22) rfl))) Via.refl e27 F_highHeld (Jvm.hb hby d5_41) (pc' := 44) rfl ?_
      intro T28 X28 e28
      refine w_if_eq X28 hx (Jvm.hb hby d5_44) (by decide) (pcT := 60) (by decide) (pcF := 47) rfl (fun hc44_2 => ?_) (fun hc44_2 => ?_)
      · refine w_iconst X28 hx (0 : Int32) (Jvm.hb hby d5_60) (by decide) (pc' := 61) rfl ?_
        refine w_istore X28 hx (Jvm.hb hby d5_61) #[.val (.ref a0), .val (.double f1), .second, .val (.int (1 : Int32)), .val (.int (0 : Int32))] rfl  (pc' := 63) rfl ?_
        refine w_iloadN X28 hx (Jvm.hb hby d5_63) rfl (pc' := 64) rfl ?_
        refine w_if_eq X28 hx (Jvm.hb hby d5_64) (by decide) (pcT := 76) (by decide) (pcF := 67) rfl (fun q => absurd q (show ¬ (1 : Int32) = (0 : Int32) from by decide)) (fun _ => ?_)
        refine w_iload X28 hx (Jvm.hb hby d5_67) rfl (pc' := 69) rfl ?_
        refine w_if_eq X28 hx (Jvm.hb hby d5_69) (by decide) (pcT := 76) (by decide) (pcF := 72) rfl (fun _ => ?_) (fun q => absurd (show (0 : Int32) = (0 : Int32) from by decide) q)
        refine w_iconst X28 hx (0 : Int32) (Jvm.hb hby d5_76) (by decide) (pc' := 77) rfl ?_
        exact w_zreturn X28 hx Bd.returns (Or.inl rfl) (BodyLoose.notSynchronized Bd) (Nat.le_of_ble_eq_true rfl) (Nat.le_of_ble_eq_true rfl) (Jvm.hb hby d5_77) ⟨congrArg (fun z => some (Value.int z)) (show (0 : Int32) = hold f1 lo lh hi hh' from by unfold hold; rw [if_pos hc6_0, if_neg hc37_1, if_pos hc44_2]), e28, rfl⟩
      · refine w_dloadN X28 hx (Jvm.hb hby d5_47) rfl (pc' := 48) rfl ?_
        refine w_aloadN X28 hx (Jvm.hb hby d5_48) rfl rfl (pc' := 49) rfl ?_
        refine w_getfield X28 hx hZ hown (host := "") (Or.inl (hw _ (List.mem_of_getElem? (i := 20) rfl))) Via.refl e28 F_high (Jvm.hb hby d5_49) (pc' := 52) rfl ?_
        intro T29 X29 e29
        refine w_dcmp X29 hx (Jvm.hb hby d5_52) (pc' := 53) rfl ?_
        refine w_if_ne X29 hx (Jvm.hb hby d5_53) (by decide) (pcT := 60) (by decide) (pcF := 56) rfl (fun hc53_3 => ?_) (fun hc53_3 => ?_)
        · refine w_iconst X29 hx (0 : Int32) (Jvm.hb hby d5_60) (by decide) (pc' := 61) rfl ?_
          refine w_istore X29 hx (Jvm.hb hby d5_61) #[.val (.ref a0), .val (.double f1), .second, .val (.int (1 : Int32)), .val (.int (0 : Int32))] rfl  (pc' := 63) rfl ?_
          refine w_iloadN X29 hx (Jvm.hb hby d5_63) rfl (pc' := 64) rfl ?_
          refine w_if_eq X29 hx (Jvm.hb hby d5_64) (by decide) (pcT := 76) (by decide) (pcF := 67) rfl (fun q => absurd q (show ¬ (1 : Int32) = (0 : Int32) from by decide)) (fun _ => ?_)
          refine w_iload X29 hx (Jvm.hb hby d5_67) rfl (pc' := 69) rfl ?_
          refine w_if_eq X29 hx (Jvm.hb hby d5_69) (by decide) (pcT := 76) (by decide) (pcF := 72) rfl (fun _ => ?_) (fun q => absurd (show (0 : Int32) = (0 : Int32) from by decide) q)
          refine w_iconst X29 hx (0 : Int32) (Jvm.hb hby d5_76) (by decide) (pc' := 77) rfl ?_
          exact w_zreturn X29 hx Bd.returns (Or.inl rfl) (BodyLoose.notSynchronized Bd) (Nat.le_of_ble_eq_true rfl) (Nat.le_of_ble_eq_true rfl) (Jvm.hb hby d5_77) ⟨congrArg (fun z => some (Value.int z)) (show (0 : Int32) = hold f1 lo lh hi hh' from by unfold hold; rw [if_pos hc6_0, if_neg hc37_1, if_neg hc44_2, if_neg hc53_3]), e29, rfl⟩
        · refine w_iconst X29 hx (1 : Int32) (Jvm.hb hby d5_56) (by decide) (pc' := 57) rfl ?_
          refine w_goto X29 hx (Jvm.hb hby d5_57) (by decide) (pc' := 61) (by decide) ?_
          refine w_istore X29 hx (Jvm.hb hby d5_61) #[.val (.ref a0), .val (.double f1), .second, .val (.int (1 : Int32)), .val (.int (1 : Int32))] rfl  (pc' := 63) rfl ?_
          refine w_iloadN X29 hx (Jvm.hb hby d5_63) rfl (pc' := 64) rfl ?_
          refine w_if_eq X29 hx (Jvm.hb hby d5_64) (by decide) (pcT := 76) (by decide) (pcF := 67) rfl (fun q => absurd q (show ¬ (1 : Int32) = (0 : Int32) from by decide)) (fun _ => ?_)
          refine w_iload X29 hx (Jvm.hb hby d5_67) rfl (pc' := 69) rfl ?_
          refine w_if_eq X29 hx (Jvm.hb hby d5_69) (by decide) (pcT := 76) (by decide) (pcF := 72) rfl (fun q => absurd q (show ¬ (1 : Int32) = (0 : Int32) from by decide)) (fun _ => ?_)
          refine w_iconst X29 hx (1 : Int32) (Jvm.hb hby d5_72) (by decide) (pc' := 73) rfl ?_
          refine w_goto X29 hx (Jvm.hb hby d5_73) (by decide) (pc' := 77) (by decide) ?_
          exact w_zreturn X29 hx Bd.returns (Or.inr rfl) (BodyLoose.notSynchronized Bd) (Nat.le_of_ble_eq_true rfl) (Nat.le_of_ble_eq_true rfl) (Jvm.hb hby d5_77) ⟨congrArg (fun z => some (Value.int z)) (show (1 : Int32) = hold f1 lo lh hi hh' from by unfold hold; rw [if_pos hc6_0, if_neg hc37_1, if_neg hc44_2, if_pos hc53_3]), e29, rfl⟩
  · refine w_aloadN X26 hx (Jvm.hb hby d5_9) rfl rfl (pc' := 10) rfl ?_
    refine w_getfield X26 hx hZ hown (host := "") (Or.inl (hw _ (List.mem_of_getElem? (i := 18) rfl))) Via.refl e26 F_lowHeld (Jvm.hb hby d5_10) (pc' := 13) rfl ?_
    intro T30 X30 e30
    refine w_if_eq X30 hx (Jvm.hb hby d5_13) (by decide) (pcT := 29) (by decide) (pcF := 16) rfl (fun hc13_1 => ?_) (fun hc13_1 => ?_)
    · refine w_iconst X30 hx (0 : Int32) (Jvm.hb hby d5_29) (by decide) (pc' := 30) rfl ?_
      refine w_istoreN X30 hx (Jvm.hb hby d5_30) #[.val (.ref a0), .val (.double f1), .second, .val (.int (0 : Int32)), .unset] rfl  (pc' := 31) rfl ?_
      refine w_dloadN X30 hx (Jvm.hb hby d5_31) rfl (pc' := 32) rfl ?_
      refine w_aloadN X30 hx (Jvm.hb hby d5_32) rfl rfl (pc' := 33) rfl ?_
      refine w_getfield X30 hx hZ hown (host := "") (Or.inl (hw _ (List.mem_of_getElem? (i := 20) rfl))) Via.refl e30 F_high (Jvm.hb hby d5_33) (pc' := 36) rfl ?_
      intro T31 X31 e31
      refine w_dcmp X31 hx (Jvm.hb hby d5_36) (pc' := 37) rfl ?_
      refine w_if_lt X31 hx (Jvm.hb hby d5_37) (by decide) (pcT := 56) (by decide) (pcF := 40) rfl (fun hc37_2 => ?_) (fun hc37_2 => ?_)
      · refine w_iconst X31 hx (1 : Int32) (Jvm.hb hby d5_56) (by decide) (pc' := 57) rfl ?_
        refine w_goto X31 hx (Jvm.hb hby d5_57) (by decide) (pc' := 61) (by decide) ?_
        refine w_istore X31 hx (Jvm.hb hby d5_61) #[.val (.ref a0), .val (.double f1), .second, .val (.int (0 : Int32)), .val (.int (1 : Int32))] rfl  (pc' := 63) rfl ?_
        refine w_iloadN X31 hx (Jvm.hb hby d5_63) rfl (pc' := 64) rfl ?_
        refine w_if_eq X31 hx (Jvm.hb hby d5_64) (by decide) (pcT := 76) (by decide) (pcF := 67) rfl (fun _ => ?_) (fun q => absurd (show (0 : Int32) = (0 : Int32) from by decide) q)
        refine w_iconst X31 hx (0 : Int32) (Jvm.hb hby d5_76) (by decide) (pc' := 77) rfl ?_
        exact w_zreturn X31 hx Bd.returns (Or.inl rfl) (BodyLoose.notSynchronized Bd) (Nat.le_of_ble_eq_true rfl) (Nat.le_of_ble_eq_true rfl) (Jvm.hb hby d5_77) ⟨congrArg (fun z => some (Value.int z)) (show (0 : Int32) = hold f1 lo lh hi hh' from by unfold hold; rw [if_neg hc6_0, if_pos hc13_1, if_pos hc37_2]), e31, rfl⟩
      · refine w_aloadN X31 hx (Jvm.hb hby d5_40) rfl rfl (pc' := 41) rfl ?_
        refine w_getfield X31 hx hZ hown (host := "") (Or.inl (hw _ (List.mem_of_getElem? (i := 22) rfl))) Via.refl e31 F_highHeld (Jvm.hb hby d5_41) (pc' := 44) rfl ?_
        intro T32 X32 e32
        refine w_if_eq X32 hx (Jvm.hb hby d5_44) (by decide) (pcT := 60) (by decide) (pcF := 47) rfl (fun hc44_3 => ?_) (fun hc44_3 => ?_)
        · refine w_iconst X32 hx (0 : Int32) (Jvm.hb hby d5_60) (by decide) (pc' := 61) rfl ?_
          refine w_istore X32 hx (Jvm.hb hby d5_61) #[.val (.ref a0), .val (.double f1), .second, .val (.int (0 : Int32)), .val (.int (0 : Int32))] rfl  (pc' := 63) rfl ?_
          refine w_iloadN X32 hx (Jvm.hb hby d5_63) rfl (pc' := 64) rfl ?_
          refine w_if_eq X32 hx (Jvm.hb hby d5_64) (by decide) (pcT := 76) (by decide) (pcF := 67) rfl (fun _ => ?_) (fun q => absurd (show (0 : Int32) = (0 : Int32) from by decide) q)
          refine w_iconst X32 hx (0 : Int32) (Jvm.hb hby d5_76) (by decide) (pc' := 77) rfl ?_
          exact w_zreturn X32 hx Bd.returns (Or.inl rfl) (BodyLoose.notSynchronized Bd) (Nat.le_of_ble_eq_true rfl) (Nat.le_of_ble_eq_true rfl) (Jvm.hb hby d5_77) ⟨congrArg (fun z => some (Value.int z)) (show (0 : Int32) = hold f1 lo lh hi hh' from by unfold hold; rw [if_neg hc6_0, if_pos hc13_1, if_neg hc37_2, if_pos hc44_3]), e32, rfl⟩
        · refine w_dloadN X32 hx (Jvm.hb hby d5_47) rfl (pc' := 48) rfl ?_
          refine w_aloadN X32 hx (Jvm.hb hby d5_48) rfl rfl (pc' := 49) rfl ?_
          refine w_getfield X32 hx hZ hown (host := "") (Or.inl (hw _ (List.mem_of_getElem? (i := 20) rfl))) Via.refl e32 F_high (Jvm.hb hby d5_49) (pc' := 52) rfl ?_
          intro T33 X33 e33
          refine w_dcmp X33 hx (Jvm.hb hby d5_52) (pc' := 53) rfl ?_
          refine w_if_ne X33 hx (Jvm.hb hby d5_53) (by decide) (pcT := 60) (by decide) (pcF := 56) rfl (fun hc53_4 => ?_) (fun hc53_4 => ?_)
          · refine w_iconst X33 hx (0 : Int32) (Jvm.hb hby d5_60) (by decide) (pc' := 61) rfl ?_
            refine w_istore X33 hx (Jvm.hb hby d5_61) #[.val (.ref a0), .val (.double f1), .second, .val (.int (0 : Int32)), .val (.int (0 : Int32))] rfl  (pc' := 63) rfl ?_
            refine w_iloadN X33 hx (Jvm.hb hby d5_63) rfl (pc' := 64) rfl ?_
            refine w_if_eq X33 hx (Jvm.hb hby d5_64) (by decide) (pcT := 76) (by decide) (pcF := 67) rfl (fun _ => ?_) (fun q => absurd (show (0 : Int32) = (0 : Int32) from by decide) q)
            refine w_iconst X33 hx (0 : Int32) (Jvm.hb hby d5_76) (by decide) (pc' := 77) rfl ?_
            exact w_zreturn X33 hx Bd.returns (Or.inl rfl) (BodyLoose.notSynchronized Bd) (Nat.le_of_ble_eq_true rfl) (Nat.le_of_ble_eq_true rfl) (Jvm.hb hby d5_77) ⟨congrArg (fun z => some (Value.int z)) (show (0 : Int32) = hold f1 lo lh hi hh' from by unfold hold; rw [if_neg hc6_0, if_pos hc13_1, if_neg hc37_2, if_neg hc44_3, if_neg hc53_4]), e33, rfl⟩
          · refine w_iconst X33 hx (1 : Int32) (Jvm.hb hby d5_56) (by decide) (pc' := 57) rfl ?_
            refine w_goto X33 hx (Jvm.hb hby d5_57) (by decide) (pc' := 61) (by decide) ?_
            refine w_istore X33 hx (Jvm.hb hby d5_61) #[.val (.ref a0), .val (.double f1), .second, .val (.int (0 : Int32)), .val (.int (1 : Int32))] rfl  (pc' := 63) rfl ?_
            refine w_iloadN X33 hx (Jvm.hb hby d5_63) rfl (pc' := 64) rfl ?_
            refine w_if_eq X33 hx (Jvm.hb hby d5_64) (by decide) (pcT := 76) (by decide) (pcF := 67) rfl (fun _ => ?_) (fun q => absurd (show (0 : Int32) = (0 : Int32) from by decide) q)
            refine w_iconst X33 hx (0 : Int32) (Jvm.hb hby d5_76) (by decide) (pc' := 77) rfl ?_
            exact w_zreturn X33 hx Bd.returns (Or.inl rfl) (BodyLoose.notSynchronized Bd) (Nat.le_of_ble_eq_true rfl) (Nat.le_of_ble_eq_true rfl) (Jvm.hb hby d5_77) ⟨congrArg (fun z => some (Value.int z)) (show (0 : Int32) = hold f1 lo lh hi hh' from by unfold hold; rw [if_neg hc6_0, if_pos hc13_1, if_neg hc37_2, if_neg hc44_3, if_pos hc53_4]), e33, rfl⟩
    · refine w_dloadN X30 hx (Jvm.hb hby d5_16) rfl (pc' := 17) rfl ?_
      refine w_aloadN X30 hx (Jvm.hb hby d5_17) rfl rfl (pc' := 18) rfl ?_
      refine w_getfield X30 hx hZ hown (host := "") (Or.inl (hw _ (List.mem_of_getElem? (i := 16) rfl))) Via.refl e30 F_low (Jvm.hb hby d5_18) (pc' := 21) rfl ?_
      intro T34 X34 e34
      refine w_dcmp X34 hx (Jvm.hb hby d5_21) (pc' := 22) rfl ?_
      refine w_if_ne X34 hx (Jvm.hb hby d5_22) (by decide) (pcT := 29) (by decide) (pcF := 25) rfl (fun hc22_2 => ?_) (fun hc22_2 => ?_)
      · refine w_iconst X34 hx (0 : Int32) (Jvm.hb hby d5_29) (by decide) (pc' := 30) rfl ?_
        refine w_istoreN X34 hx (Jvm.hb hby d5_30) #[.val (.ref a0), .val (.double f1), .second, .val (.int (0 : Int32)), .unset] rfl  (pc' := 31) rfl ?_
        refine w_dloadN X34 hx (Jvm.hb hby d5_31) rfl (pc' := 32) rfl ?_
        refine w_aloadN X34 hx (Jvm.hb hby d5_32) rfl rfl (pc' := 33) rfl ?_
        refine w_getfield X34 hx hZ hown (host := "") (Or.inl (hw _ (List.mem_of_getElem? (i := 20) rfl))) Via.refl e34 F_high (Jvm.hb hby d5_33) (pc' := 36) rfl ?_
        intro T35 X35 e35
        refine w_dcmp X35 hx (Jvm.hb hby d5_36) (pc' := 37) rfl ?_
        refine w_if_lt X35 hx (Jvm.hb hby d5_37) (by decide) (pcT := 56) (by decide) (pcF := 40) rfl (fun hc37_3 => ?_) (fun hc37_3 => ?_)
        · refine w_iconst X35 hx (1 : Int32) (Jvm.hb hby d5_56) (by decide) (pc' := 57) rfl ?_
          refine w_goto X35 hx (Jvm.hb hby d5_57) (by decide) (pc' := 61) (by decide) ?_
          refine w_istore X35 hx (Jvm.hb hby d5_61) #[.val (.ref a0), .val (.double f1), .second, .val (.int (0 : Int32)), .val (.int (1 : Int32))] rfl  (pc' := 63) rfl ?_
          refine w_iloadN X35 hx (Jvm.hb hby d5_63) rfl (pc' := 64) rfl ?_
          refine w_if_eq X35 hx (Jvm.hb hby d5_64) (by decide) (pcT := 76) (by decide) (pcF := 67) rfl (fun _ => ?_) (fun q => absurd (show (0 : Int32) = (0 : Int32) from by decide) q)
          refine w_iconst X35 hx (0 : Int32) (Jvm.hb hby d5_76) (by decide) (pc' := 77) rfl ?_
          exact w_zreturn X35 hx Bd.returns (Or.inl rfl) (BodyLoose.notSynchronized Bd) (Nat.le_of_ble_eq_true rfl) (Nat.le_of_ble_eq_true rfl) (Jvm.hb hby d5_77) ⟨congrArg (fun z => some (Value.int z)) (show (0 : Int32) = hold f1 lo lh hi hh' from by unfold hold; rw [if_neg hc6_0, if_neg hc13_1, if_neg hc22_2, if_pos hc37_3]), e35, rfl⟩
        · refine w_aloadN X35 hx (Jvm.hb hby d5_40) rfl rfl (pc' := 41) rfl ?_
          refine w_getfield X35 hx hZ hown (host := "") (Or.inl (hw _ (List.mem_of_getElem? (i := 22) rfl))) Via.refl e35 F_highHeld (Jvm.hb hby d5_41) (pc' := 44) rfl ?_
          intro T36 X36 e36
          refine w_if_eq X36 hx (Jvm.hb hby d5_44) (by decide) (pcT := 60) (by decide) (pcF := 47) rfl (fun hc44_4 => ?_) (fun hc44_4 => ?_)
          · refine w_iconst X36 hx (0 : Int32) (Jvm.hb hby d5_60) (by decide) (pc' := 61) rfl ?_
            refine w_istore X36 hx (Jvm.hb hby d5_61) #[.val (.ref a0), .val (.double f1), .second, .val (.int (0 : Int32)), .val (.int (0 : Int32))] rfl  (pc' := 63) rfl ?_
            refine w_iloadN X36 hx (Jvm.hb hby d5_63) rfl (pc' := 64) rfl ?_
            refine w_if_eq X36 hx (Jvm.hb hby d5_64) (by decide) (pcT := 76) (by decide) (pcF := 67) rfl (fun _ => ?_) (fun q => absurd (show (0 : Int32) = (0 : Int32) from by decide) q)
            refine w_iconst X36 hx (0 : Int32) (Jvm.hb hby d5_76) (by decide) (pc' := 77) rfl ?_
            exact w_zreturn X36 hx Bd.returns (Or.inl rfl) (BodyLoose.notSynchronized Bd) (Nat.le_of_ble_eq_true rfl) (Nat.le_of_ble_eq_true rfl) (Jvm.hb hby d5_77) ⟨congrArg (fun z => some (Value.int z)) (show (0 : Int32) = hold f1 lo lh hi hh' from by unfold hold; rw [if_neg hc6_0, if_neg hc13_1, if_neg hc22_2, if_neg hc37_3, if_pos hc44_4]), e36, rfl⟩
          · refine w_dloadN X36 hx (Jvm.hb hby d5_47) rfl (pc' := 48) rfl ?_
            refine w_aloadN X36 hx (Jvm.hb hby d5_48) rfl rfl (pc' := 49) rfl ?_
            refine w_getfield X36 hx hZ hown (host := "") (Or.inl (hw _ (List.mem_of_getElem? (i := 20) rfl))) Via.refl e36 F_high (Jvm.hb hby d5_49) (pc' := 52) rfl ?_
            intro T37 X37 e37
            refine w_dcmp X37 hx (Jvm.hb hby d5_52) (pc' := 53) rfl ?_
            refine w_if_ne X37 hx (Jvm.hb hby d5_53) (by decide) (pcT := 60) (by decide) (pcF := 56) rfl (fun hc53_5 => ?_) (fun hc53_5 => ?_)
            · refine w_iconst X37 hx (0 : Int32) (Jvm.hb hby d5_60) (by decide) (pc' := 61) rfl ?_
              refine w_istore X37 hx (Jvm.hb hby d5_61) #[.val (.ref a0), .val (.double f1), .second, .val (.int (0 : Int32)), .val (.int (0 : Int32))] rfl  (pc' := 63) rfl ?_
              refine w_iloadN X37 hx (Jvm.hb hby d5_63) rfl (pc' := 64) rfl ?_
              refine w_if_eq X37 hx (Jvm.hb hby d5_64) (by decide) (pcT := 76) (by decide) (pcF := 67) rfl (fun _ => ?_) (fun q => absurd (show (0 : Int32) = (0 : Int32) from by decide) q)
              refine w_iconst X37 hx (0 : Int32) (Jvm.hb hby d5_76) (by decide) (pc' := 77) rfl ?_
              exact w_zreturn X37 hx Bd.returns (Or.inl rfl) (BodyLoose.notSynchronized Bd) (Nat.le_of_ble_eq_true rfl) (Nat.le_of_ble_eq_true rfl) (Jvm.hb hby d5_77) ⟨congrArg (fun z => some (Value.int z)) (show (0 : Int32) = hold f1 lo lh hi hh' from by unfold hold; rw [if_neg hc6_0, if_neg hc13_1, if_neg hc22_2, if_neg hc37_3, if_neg hc44_4, if_neg hc53_5]), e37, rfl⟩
            · refine w_iconst X37 hx (1 : Int32) (Jvm.hb hby d5_56) (by decide) (pc' := 57) rfl ?_
              refine w_goto X37 hx (Jvm.hb hby d5_57) (by decide) (pc' := 61) (by decide) ?_
              refine w_istore X37 hx (Jvm.hb hby d5_61) #[.val (.ref a0), .val (.double f1), .second, .val (.int (0 : Int32)), .val (.int (1 : Int32))] rfl  (pc' := 63) rfl ?_
              refine w_iloadN X37 hx (Jvm.hb hby d5_63) rfl (pc' := 64) rfl ?_
              refine w_if_eq X37 hx (Jvm.hb hby d5_64) (by decide) (pcT := 76) (by decide) (pcF := 67) rfl (fun _ => ?_) (fun q => absurd (show (0 : Int32) = (0 : Int32) from by decide) q)
              refine w_iconst X37 hx (0 : Int32) (Jvm.hb hby d5_76) (by decide) (pc' := 77) rfl ?_
              exact w_zreturn X37 hx Bd.returns (Or.inl rfl) (BodyLoose.notSynchronized Bd) (Nat.le_of_ble_eq_true rfl) (Nat.le_of_ble_eq_true rfl) (Jvm.hb hby d5_77) ⟨congrArg (fun z => some (Value.int z)) (show (0 : Int32) = hold f1 lo lh hi hh' from by unfold hold; rw [if_neg hc6_0, if_neg hc13_1, if_neg hc22_2, if_neg hc37_3, if_neg hc44_4, if_pos hc53_5]), e37, rfl⟩
      · refine w_iconst X34 hx (1 : Int32) (Jvm.hb hby d5_25) (by decide) (pc' := 26) rfl ?_
        refine w_goto X34 hx (Jvm.hb hby d5_26) (by decide) (pc' := 30) (by decide) ?_
        refine w_istoreN X34 hx (Jvm.hb hby d5_30) #[.val (.ref a0), .val (.double f1), .second, .val (.int (1 : Int32)), .unset] rfl  (pc' := 31) rfl ?_
        refine w_dloadN X34 hx (Jvm.hb hby d5_31) rfl (pc' := 32) rfl ?_
        refine w_aloadN X34 hx (Jvm.hb hby d5_32) rfl rfl (pc' := 33) rfl ?_
        refine w_getfield X34 hx hZ hown (host := "") (Or.inl (hw _ (List.mem_of_getElem? (i := 20) rfl))) Via.refl e34 F_high (Jvm.hb hby d5_33) (pc' := 36) rfl ?_
        intro T38 X38 e38
        refine w_dcmp X38 hx (Jvm.hb hby d5_36) (pc' := 37) rfl ?_
        refine w_if_lt X38 hx (Jvm.hb hby d5_37) (by decide) (pcT := 56) (by decide) (pcF := 40) rfl (fun hc37_3 => ?_) (fun hc37_3 => ?_)
        · refine w_iconst X38 hx (1 : Int32) (Jvm.hb hby d5_56) (by decide) (pc' := 57) rfl ?_
          refine w_goto X38 hx (Jvm.hb hby d5_57) (by decide) (pc' := 61) (by decide) ?_
          refine w_istore X38 hx (Jvm.hb hby d5_61) #[.val (.ref a0), .val (.double f1), .second, .val (.int (1 : Int32)), .val (.int (1 : Int32))] rfl  (pc' := 63) rfl ?_
          refine w_iloadN X38 hx (Jvm.hb hby d5_63) rfl (pc' := 64) rfl ?_
          refine w_if_eq X38 hx (Jvm.hb hby d5_64) (by decide) (pcT := 76) (by decide) (pcF := 67) rfl (fun q => absurd q (show ¬ (1 : Int32) = (0 : Int32) from by decide)) (fun _ => ?_)
          refine w_iload X38 hx (Jvm.hb hby d5_67) rfl (pc' := 69) rfl ?_
          refine w_if_eq X38 hx (Jvm.hb hby d5_69) (by decide) (pcT := 76) (by decide) (pcF := 72) rfl (fun q => absurd q (show ¬ (1 : Int32) = (0 : Int32) from by decide)) (fun _ => ?_)
          refine w_iconst X38 hx (1 : Int32) (Jvm.hb hby d5_72) (by decide) (pc' := 73) rfl ?_
          refine w_goto X38 hx (Jvm.hb hby d5_73) (by decide) (pc' := 77) (by decide) ?_
          exact w_zreturn X38 hx Bd.returns (Or.inr rfl) (BodyLoose.notSynchronized Bd) (Nat.le_of_ble_eq_true rfl) (Nat.le_of_ble_eq_true rfl) (Jvm.hb hby d5_77) ⟨congrArg (fun z => some (Value.int z)) (show (1 : Int32) = hold f1 lo lh hi hh' from by unfold hold; rw [if_neg hc6_0, if_neg hc13_1, if_pos hc22_2, if_pos hc37_3]), e38, rfl⟩
        · refine w_aloadN X38 hx (Jvm.hb hby d5_40) rfl rfl (pc' := 41) rfl ?_
          refine w_getfield X38 hx hZ hown (host := "") (Or.inl (hw _ (List.mem_of_getElem? (i := 22) rfl))) Via.refl e38 F_highHeld (Jvm.hb hby d5_41) (pc' := 44) rfl ?_
          intro T39 X39 e39
          refine w_if_eq X39 hx (Jvm.hb hby d5_44) (by decide) (pcT := 60) (by decide) (pcF := 47) rfl (fun hc44_4 => ?_) (fun hc44_4 => ?_)
          · refine w_iconst X39 hx (0 : Int32) (Jvm.hb hby d5_60) (by decide) (pc' := 61) rfl ?_
            refine w_istore X39 hx (Jvm.hb hby d5_61) #[.val (.ref a0), .val (.double f1), .second, .val (.int (1 : Int32)), .val (.int (0 : Int32))] rfl  (pc' := 63) rfl ?_
            refine w_iloadN X39 hx (Jvm.hb hby d5_63) rfl (pc' := 64) rfl ?_
            refine w_if_eq X39 hx (Jvm.hb hby d5_64) (by decide) (pcT := 76) (by decide) (pcF := 67) rfl (fun q => absurd q (show ¬ (1 : Int32) = (0 : Int32) from by decide)) (fun _ => ?_)
            refine w_iload X39 hx (Jvm.hb hby d5_67) rfl (pc' := 69) rfl ?_
            refine w_if_eq X39 hx (Jvm.hb hby d5_69) (by decide) (pcT := 76) (by decide) (pcF := 72) rfl (fun _ => ?_) (fun q => absurd (show (0 : Int32) = (0 : Int32) from by decide) q)
            refine w_iconst X39 hx (0 : Int32) (Jvm.hb hby d5_76) (by decide) (pc' := 77) rfl ?_
            exact w_zreturn X39 hx Bd.returns (Or.inl rfl) (BodyLoose.notSynchronized Bd) (Nat.le_of_ble_eq_true rfl) (Nat.le_of_ble_eq_true rfl) (Jvm.hb hby d5_77) ⟨congrArg (fun z => some (Value.int z)) (show (0 : Int32) = hold f1 lo lh hi hh' from by unfold hold; rw [if_neg hc6_0, if_neg hc13_1, if_pos hc22_2, if_neg hc37_3, if_pos hc44_4]), e39, rfl⟩
          · refine w_dloadN X39 hx (Jvm.hb hby d5_47) rfl (pc' := 48) rfl ?_
            refine w_aloadN X39 hx (Jvm.hb hby d5_48) rfl rfl (pc' := 49) rfl ?_
            refine w_getfield X39 hx hZ hown (host := "") (Or.inl (hw _ (List.mem_of_getElem? (i := 20) rfl))) Via.refl e39 F_high (Jvm.hb hby d5_49) (pc' := 52) rfl ?_
            intro T40 X40 e40
            refine w_dcmp X40 hx (Jvm.hb hby d5_52) (pc' := 53) rfl ?_
            refine w_if_ne X40 hx (Jvm.hb hby d5_53) (by decide) (pcT := 60) (by decide) (pcF := 56) rfl (fun hc53_5 => ?_) (fun hc53_5 => ?_)
            · refine w_iconst X40 hx (0 : Int32) (Jvm.hb hby d5_60) (by decide) (pc' := 61) rfl ?_
              refine w_istore X40 hx (Jvm.hb hby d5_61) #[.val (.ref a0), .val (.double f1), .second, .val (.int (1 : Int32)), .val (.int (0 : Int32))] rfl  (pc' := 63) rfl ?_
              refine w_iloadN X40 hx (Jvm.hb hby d5_63) rfl (pc' := 64) rfl ?_
              refine w_if_eq X40 hx (Jvm.hb hby d5_64) (by decide) (pcT := 76) (by decide) (pcF := 67) rfl (fun q => absurd q (show ¬ (1 : Int32) = (0 : Int32) from by decide)) (fun _ => ?_)
              refine w_iload X40 hx (Jvm.hb hby d5_67) rfl (pc' := 69) rfl ?_
              refine w_if_eq X40 hx (Jvm.hb hby d5_69) (by decide) (pcT := 76) (by decide) (pcF := 72) rfl (fun _ => ?_) (fun q => absurd (show (0 : Int32) = (0 : Int32) from by decide) q)
              refine w_iconst X40 hx (0 : Int32) (Jvm.hb hby d5_76) (by decide) (pc' := 77) rfl ?_
              exact w_zreturn X40 hx Bd.returns (Or.inl rfl) (BodyLoose.notSynchronized Bd) (Nat.le_of_ble_eq_true rfl) (Nat.le_of_ble_eq_true rfl) (Jvm.hb hby d5_77) ⟨congrArg (fun z => some (Value.int z)) (show (0 : Int32) = hold f1 lo lh hi hh' from by unfold hold; rw [if_neg hc6_0, if_neg hc13_1, if_pos hc22_2, if_neg hc37_3, if_neg hc44_4, if_neg hc53_5]), e40, rfl⟩
            · refine w_iconst X40 hx (1 : Int32) (Jvm.hb hby d5_56) (by decide) (pc' := 57) rfl ?_
              refine w_goto X40 hx (Jvm.hb hby d5_57) (by decide) (pc' := 61) (by decide) ?_
              refine w_istore X40 hx (Jvm.hb hby d5_61) #[.val (.ref a0), .val (.double f1), .second, .val (.int (1 : Int32)), .val (.int (1 : Int32))] rfl  (pc' := 63) rfl ?_
              refine w_iloadN X40 hx (Jvm.hb hby d5_63) rfl (pc' := 64) rfl ?_
              refine w_if_eq X40 hx (Jvm.hb hby d5_64) (by decide) (pcT := 76) (by decide) (pcF := 67) rfl (fun q => absurd q (show ¬ (1 : Int32) = (0 : Int32) from by decide)) (fun _ => ?_)
              refine w_iload X40 hx (Jvm.hb hby d5_67) rfl (pc' := 69) rfl ?_
              refine w_if_eq X40 hx (Jvm.hb hby d5_69) (by decide) (pcT := 76) (by decide) (pcF := 72) rfl (fun q => absurd q (show ¬ (1 : Int32) = (0 : Int32) from by decide)) (fun _ => ?_)
              refine w_iconst X40 hx (1 : Int32) (Jvm.hb hby d5_72) (by decide) (pc' := 73) rfl ?_
              refine w_goto X40 hx (Jvm.hb hby d5_73) (by decide) (pc' := 77) (by decide) ?_
              exact w_zreturn X40 hx Bd.returns (Or.inr rfl) (BodyLoose.notSynchronized Bd) (Nat.le_of_ble_eq_true rfl) (Nat.le_of_ble_eq_true rfl) (Jvm.hb hby d5_77) ⟨congrArg (fun z => some (Value.int z)) (show (1 : Int32) = hold f1 lo lh hi hh' from by unfold hold; rw [if_neg hc6_0, if_neg hc13_1, if_pos hc22_2, if_neg hc37_3, if_neg hc44_4, if_pos hc53_5]), e40, rfl⟩
theorem own_b {x : Int32} {P : Prop} [Decidable P] (h : x = (if P then (0 : Int32) else (1 : Int32))) : x = 0 ∨ x = 1 := by
  by_cases q : P
  · rw [if_pos q] at h; exact Or.inl h
  · rw [if_neg q] at h; exact Or.inr h
theorem own_53 (x : Int32) : B53 x.toInt64 := by
  have h1 := Int32.toInt_lt x
  have h2 := Int32.le_toInt x
  have e := Kit.i64_of_i32 x
  unfold B53; rw [e]; omega
theorem own_lcw {x y : Int64} : (x < y → lcmpW x y = -1) ∧ (y < x → lcmpW x y = 1) ∧ (x = y → lcmpW x y = 0) := by
  refine ⟨fun h => ?_, fun h => ?_, fun h => ?_⟩
  · show (if x > y then (1 : Int32) else if x = y then 0 else -1) = -1
    rw [if_neg (fun q => absurd (Int64.lt_trans h q) Int64.lt_irrefl), if_neg (fun q => absurd (q ▸ h) Int64.lt_irrefl)]
  · show (if x > y then (1 : Int32) else if x = y then 0 else -1) = 1
    rw [if_pos h]
  · show (if x > y then (1 : Int32) else if x = y then 0 else -1) = 0
    subst h; rw [if_neg Int64.lt_irrefl, if_pos rfl]
theorem own_min (x : Int32) : (-9223372036854775808 : Int64) < x.toInt64 := by
  have h2 := Int32.le_toInt x
  rw [Int64.lt_iff_toInt_lt, Kit.i64_of_i32, show (-9223372036854775808 : Int64).toInt = -9223372036854775808 from by decide]; omega
theorem own_max (x : Int32) : x.toInt64 < (9223372036854775807 : Int64) := by
  have h2 := Int32.toInt_lt x
  rw [Int64.lt_iff_toInt_lt, Kit.i64_of_i32, show (9223372036854775807 : Int64).toInt = 9223372036854775807 from by decide]; omega
theorem own_cmp (k1 x1 k2 x2 : Int32) (o : CmpOp) : cmpValue (FP.dcmp (num k1 x1) (num k2 x2)) o = lcmpW (rnk k1 x1) (rnk k2 x2) := by
  have f1 : Jvm.Free.Fl.Fin64 (FP.i2d x1) := by rw [i2d_w]; exact Jvm.Free.Fl.l2d_fin _
  have f2 : Jvm.Free.Fl.Fin64 (FP.i2d x2) := by rw [i2d_w]; exact Jvm.Free.Fl.l2d_fin _
  unfold num rnk
  by_cases a2 : k1 = 2
  · rw [if_pos a2, if_pos a2]
    by_cases b2 : k2 = 2
    · rw [if_pos b2, if_pos b2]; cases o <;> decide +kernel
    · rw [if_neg b2, if_neg b2]
      by_cases b3 : k2 = 3
      · rw [if_pos b3, if_pos b3]; cases o <;> decide +kernel
      · rw [if_neg b3, if_neg b3, dcmp_ninf' f2, own_lcw.1 (own_min x2)]
  · rw [if_neg a2, if_neg a2]
    by_cases a3 : k1 = 3
    · rw [if_pos a3, if_pos a3]
      by_cases b2 : k2 = 2
      · rw [if_pos b2, if_pos b2]; cases o <;> decide +kernel
      · rw [if_neg b2, if_neg b2]
        by_cases b3 : k2 = 3
        · rw [if_pos b3, if_pos b3]; cases o <;> decide +kernel
        · rw [if_neg b3, if_neg b3, dcmp_pinf' f2, own_lcw.2.1 (own_max x2)]
    · rw [if_neg a3, if_neg a3]
      by_cases b2 : k2 = 2
      · rw [if_pos b2, if_pos b2, dcmp_ninf f1, own_lcw.2.1 (own_min x1)]
      · rw [if_neg b2, if_neg b2]
        by_cases b3 : k2 = 3
        · rw [if_pos b3, if_pos b3, dcmp_pinf f1, own_lcw.1 (own_max x1)]
        · rw [if_neg b3, if_neg b3, i2d_w, i2d_w, dcmpV_w (own_53 x1) (own_53 x2)]
theorem own_hold (lk hk vk p0 p1 vx lh hh ab be : Int32) (hab : ab = (if (rnk lk p0) < (rnk vk vx) then (1 : Int32) else (if (rnk vk vx) = (rnk lk p0) then (if lh = (0 : Int32) then (0 : Int32) else (1 : Int32)) else (0 : Int32))))
    (hbe : be = (if (rnk vk vx) < (rnk hk p1) then (1 : Int32) else (if (rnk vk vx) = (rnk hk p1) then (if hh = (0 : Int32) then (0 : Int32) else (1 : Int32)) else (0 : Int32)))) :
    hold (num vk vx) (num lk p0) lh (num hk p1) hh = if ab = 0 then 0 else be := by
  unfold hold
  simp only [own_cmp, lw_gt, lw_lt, lw_eq]
  have hB : (if rnk vk vx < rnk hk p1 then (1 : Int32) else if hh = 0 then 0 else if rnk vk vx = rnk hk p1 then 1 else 0) = be := by
    rw [hbe]
    by_cases q : rnk vk vx < rnk hk p1
    · rw [if_pos q, if_pos q]
    · rw [if_neg q, if_neg q]
      by_cases r : hh = 0
      · rw [if_pos r, if_pos r]; by_cases t : rnk vk vx = rnk hk p1
        · rw [if_pos t]
        · rw [if_neg t]
      · rw [if_neg r, if_neg r]
  have hZ : (if rnk vk vx < rnk hk p1 then (0 : Int32) else if hh = 0 then 0 else if rnk vk vx = rnk hk p1 then 0 else 0) = 0 := by
    by_cases q : rnk vk vx < rnk hk p1
    · rw [if_pos q]
    · rw [if_neg q]
      by_cases r : hh = 0
      · rw [if_pos r]
      · rw [if_neg r]; by_cases t : rnk vk vx = rnk hk p1
        · rw [if_pos t]
        · rw [if_neg t]
  rw [hB, hZ, hab]
  by_cases q : rnk lk p0 < rnk vk vx
  · rw [if_pos q, if_pos q, if_neg (by decide)]
  · rw [if_neg q, if_neg q]
    by_cases r : lh = 0
    · rw [if_pos r, if_pos r]
      by_cases t : rnk vk vx = rnk lk p0
      · rw [if_pos t, if_pos rfl]
      · rw [if_neg t, if_pos rfl]
    · rw [if_neg r, if_neg r]
      by_cases t : rnk vk vx = rnk lk p0
      · rw [if_pos t, if_pos t, if_neg (by decide)]
      · rw [if_neg t, if_neg t, if_pos rfl]
theorem own_f0 (lk hk vk p0 p1 vx lh hh ab be : Int32) (hab : ab = (if (rnk lk p0) < (rnk vk vx) then (1 : Int32) else (if (rnk vk vx) = (rnk lk p0) then (if lh = (0 : Int32) then (0 : Int32) else (1 : Int32)) else (0 : Int32))))
    (hbe : be = (if (rnk vk vx) < (rnk hk p1) then (1 : Int32) else (if (rnk vk vx) = (rnk hk p1) then (if hh = (0 : Int32) then (0 : Int32) else (1 : Int32)) else (0 : Int32)))) (h : ab = (0 : Int32)) : hold (num vk vx) (num lk p0) lh (num hk p1) hh = (0 : Int32) := by
  rw [own_hold lk hk vk p0 p1 vx lh hh ab be hab hbe, if_pos h]
theorem own_f1 (lk hk vk p0 p1 vx lh hh ab be : Int32) (hab : ab = (if (rnk lk p0) < (rnk vk vx) then (1 : Int32) else (if (rnk vk vx) = (rnk lk p0) then (if lh = (0 : Int32) then (0 : Int32) else (1 : Int32)) else (0 : Int32))))
    (hbe : be = (if (rnk vk vx) < (rnk hk p1) then (1 : Int32) else (if (rnk vk vx) = (rnk hk p1) then (if hh = (0 : Int32) then (0 : Int32) else (1 : Int32)) else (0 : Int32)))) (h : be = (0 : Int32)) : hold (num vk vx) (num lk p0) lh (num hk p1) hh = (0 : Int32) := by
  rw [own_hold lk hk vk p0 p1 vx lh hh ab be hab hbe, h]
  by_cases q : ab = 0
  · rw [if_pos q]
  · rw [if_neg q]
theorem own_f2 (lk hk vk p0 p1 vx lh hh ab be : Int32) (hab : ab = (if (rnk lk p0) < (rnk vk vx) then (1 : Int32) else (if (rnk vk vx) = (rnk lk p0) then (if lh = (0 : Int32) then (0 : Int32) else (1 : Int32)) else (0 : Int32))))
    (hbe : be = (if (rnk vk vx) < (rnk hk p1) then (1 : Int32) else (if (rnk vk vx) = (rnk hk p1) then (if hh = (0 : Int32) then (0 : Int32) else (1 : Int32)) else (0 : Int32)))) (h0 : ¬ ab = (0 : Int32)) (h : ¬ be = (0 : Int32)) : hold (num vk vx) (num lk p0) lh (num hk p1) hh = (1 : Int32) := by
  rw [own_hold lk hk vk p0 p1 vx lh hh ab be hab hbe, if_neg h0]
  by_cases q : rnk vk vx < rnk hk p1
  · rw [hbe, if_pos q]
  · rw [if_neg q] at hbe
    by_cases t : rnk vk vx = rnk hk p1
    · rw [if_pos t] at hbe
      by_cases r : hh = 0
      · rw [if_pos r] at hbe; exact absurd hbe h
      · rw [if_neg r] at hbe; exact hbe
    · rw [if_neg t] at hbe; exact absurd hbe h
theorem pd_0 : parseMethodDescriptor "(II)J" = some ⟨[.int, .int], some .long⟩ := by decide +kernel
theorem pd_1 : parseMethodDescriptor "(II)D" = some ⟨[.int, .int], some .double⟩ := by decide +kernel
theorem pd_2 : parseMethodDescriptor "(DZDZ)V" = some ⟨[.double, .boolean, .double, .boolean], none⟩ := by decide +kernel
theorem pd_3 : parseMethodDescriptor "(D)Z" = some ⟨[.double], some .boolean⟩ := by decide +kernel
theorem ef_0 (m : MethodId) (p0 : Int32) (p1 : Int32) (p2 : Int32) (p3 : Int32) : entryFrame m #[(.int p0), (.int p1), (.int p2), (.int p3)] maxLocals = mkF m 0 #[.val (.int p0), .val (.int p1), .val (.int p2), .val (.int p3), .unset, .unset, .unset, .unset, .unset, .unset, .unset, .unset, .unset, .unset, .unset, .unset, .unset, .unset, .unset, .unset, .unset] [] := by first | (simp [entryFrame, mkF, argsToLocals, Value.category, maxLocals]; done) | rfl
def Q0 (n0 : Nat) (v : Option Value) (h : Heap) (L : List Loc) : Prop := v = some (.int 1) ∧ Fr n0 L
set_option maxRecDepth 65536 in
set_option maxHeartbeats 40000000 in
theorem rm0 (l : Launch) (Z : State) (aw : Array Value) (hw : ∀ d ∈ tables_1, d.before aw Z = true) (ws : List Jvm.Cond) (p0 : Int32) (p1 : Int32) (p2 : Int32) (p3 : Int32) (h0 : Heap) (n0 : Nat) (Z0 : n0 ≤ h0.size) :
    MetFree l x (head1 (Jvm.Cond.code x code maxLocals ret :: ws) room_1) (fun a U => a = #[(.int p0), (.int p1), (.int p2), (.int p3)] ∧ Z.Warmed39 U.vm ∧ U.heap = h0) (fun _ _ _ _ _ => True) (fun _ U o U' => ∃ v L, o = .returned v ∧ Q0 n0 v U'.heap L ∧ FrameEnd U o U' L 16 128) := by
  refine MetFree.of_bodySF (plainFor_of_name pn_0) hisR ?_
  intro p e s m args below meth c s₁ Bd hml0 hP _hKK
  obtain ⟨rfl, hZ, hh⟩ := hP
  have hx := Bd.exec
  have hby := Bd.bytes
  have hml : c.maxLocals = 21 := hml0
  have hown : s.vm.findClass "com/example/metadata_for_discovery/metadatafordiscovery/search/IntervalHoldsPinLaw" = some m.cls := findClass_of_methodNamed Bd.named
  have hnm := (name_of_methodNamed Bd.named Bd.method).1
  have X0 : Stand p l e room_1 s m #[(.int p0), (.int p1), (.int p2), (.int p3)] below meth c s₁ [] 0 0 := Stand.of_body Bd
  have e0 : s₁.heap = h0 := by rw [← hh, Bd.state]; rfl
  refine Ow.enter (Q := Q0 n0) (ef_0 m p0 p1 p2 p3) ?_
  show Ow p e below s _ _ _ (s₁.setTop (mkF m 0 #[.val (.int p0), .val (.int p1), .val (.int p2), .val (.int p3), .unset, .unset, .unset, .unset, .unset, .unset, .unset, .unset, .unset, .unset, .unset, .unset, .unset, .unset, .unset, .unset, .unset] []))
  obtain ⟨lh, hlh⟩ : ∃ v : Int32, v = (if (p3 &&& (1 : Int32)) = (0 : Int32) then (0 : Int32) else (1 : Int32)) := ⟨_, rfl⟩
  refine Ow.join s₁ (mkF m 13 #[.val (.int p0), .val (.int p1), .val (.int p2), .val (.int p3), .val (.int lh), .unset, .unset, .unset, .unset, .unset, .unset, .unset, .unset, .unset, .unset, .unset, .unset, .unset, .unset, .unset, .unset] []) (fun K => ?_) ?_
  · refine w_iloadN X0 hx (Jvm.hb hby at_0) rfl (pc' := 1) rfl ?_
    refine w_iconst X0 hx (1 : Int32) (Jvm.hb hby at_1) (by decide) (pc' := 2) rfl ?_
    refine w_iand X0 hx (Jvm.hb hby at_2) (pc' := 3) rfl ?_
    refine w_if_eq X0 hx (Jvm.hb hby at_3) (by decide) (pcT := 10) (by decide) (pcF := 6) rfl (fun hj3_0 => ?_) (fun hj3_0 => ?_)
    · refine w_iconst X0 hx (0 : Int32) (Jvm.hb hby at_10) (by decide) (pc' := 11) rfl ?_
      refine w_istore X0 hx (Jvm.hb hby at_11) #[.val (.int p0), .val (.int p1), .val (.int p2), .val (.int p3), .val (.int (0 : Int32)), .unset, .unset, .unset, .unset, .unset, .unset, .unset, .unset, .unset, .unset, .unset, .unset, .unset, .unset, .unset, .unset] rfl  (pc' := 13) rfl ?_
      rw [hlh, if_pos hj3_0] at K; exact K
    · refine w_iconst X0 hx (1 : Int32) (Jvm.hb hby at_6) (by decide) (pc' := 7) rfl ?_
      refine w_goto X0 hx (Jvm.hb hby at_7) (by decide) (pc' := 11) (by decide) ?_
      refine w_istore X0 hx (Jvm.hb hby at_11) #[.val (.int p0), .val (.int p1), .val (.int p2), .val (.int p3), .val (.int (1 : Int32)), .unset, .unset, .unset, .unset, .unset, .unset, .unset, .unset, .unset, .unset, .unset, .unset, .unset, .unset, .unset, .unset] rfl  (pc' := 13) rfl ?_
      rw [hlh, if_neg hj3_0] at K; exact K
  obtain ⟨hh', hhh'⟩ : ∃ v : Int32, v = (if (p3 &&& (2 : Int32)) = (0 : Int32) then (0 : Int32) else (1 : Int32)) := ⟨_, rfl⟩
  refine Ow.join s₁ (mkF m 26 #[.val (.int p0), .val (.int p1), .val (.int p2), .val (.int p3), .val (.int lh), .val (.int hh'), .unset, .unset, .unset, .unset, .unset, .unset, .unset, .unset, .unset, .unset, .unset, .unset, .unset, .unset, .unset] []) (fun K => ?_) ?_
  · refine w_iloadN X0 hx (Jvm.hb hby at_13) rfl (pc' := 14) rfl ?_
    refine w_iconst X0 hx (2 : Int32) (Jvm.hb hby at_14) (by decide) (pc' := 15) rfl ?_
    refine w_iand X0 hx (Jvm.hb hby at_15) (pc' := 16) rfl ?_
    refine w_if_eq X0 hx (Jvm.hb hby at_16) (by decide) (pcT := 23) (by decide) (pcF := 19) rfl (fun hj16_0 => ?_) (fun hj16_0 => ?_)
    · refine w_iconst X0 hx (0 : Int32) (Jvm.hb hby at_23) (by decide) (pc' := 24) rfl ?_
      refine w_istore X0 hx (Jvm.hb hby at_24) #[.val (.int p0), .val (.int p1), .val (.int p2), .val (.int p3), .val (.int lh), .val (.int (0 : Int32)), .unset, .unset, .unset, .unset, .unset, .unset, .unset, .unset, .unset, .unset, .unset, .unset, .unset, .unset, .unset] rfl  (pc' := 26) rfl ?_
      rw [hhh', if_pos hj16_0] at K; exact K
    · refine w_iconst X0 hx (1 : Int32) (Jvm.hb hby at_19) (by decide) (pc' := 20) rfl ?_
      refine w_goto X0 hx (Jvm.hb hby at_20) (by decide) (pc' := 24) (by decide) ?_
      refine w_istore X0 hx (Jvm.hb hby at_24) #[.val (.int p0), .val (.int p1), .val (.int p2), .val (.int p3), .val (.int lh), .val (.int (1 : Int32)), .unset, .unset, .unset, .unset, .unset, .unset, .unset, .unset, .unset, .unset, .unset, .unset, .unset, .unset, .unset] rfl  (pc' := 26) rfl ?_
      rw [hhh', if_neg hj16_0] at K; exact K
  refine w_iloadN X0 hx (Jvm.hb hby at_26) rfl (pc' := 27) rfl ?_
  refine w_iconst X0 hx (2 : Int32) (Jvm.hb hby at_27) (by decide) (pc' := 28) rfl ?_
  refine w_iushr X0 hx (Jvm.hb hby at_28) (pc' := 29) rfl ?_
  refine w_iconst X0 hx (3 : Int32) (Jvm.hb hby at_29) (by decide) (pc' := 30) rfl ?_
  refine w_iand X0 hx (Jvm.hb hby at_30) (pc' := 31) rfl ?_
  refine w_istore X0 hx (Jvm.hb hby at_31) #[.val (.int p0), .val (.int p1), .val (.int p2), .val (.int p3), .val (.int lh), .val (.int hh'), .val (.int ((lsr32 p3 (2 : Int32)) &&& (3 : Int32))), .unset, .unset, .unset, .unset, .unset, .unset, .unset, .unset, .unset, .unset, .unset, .unset, .unset, .unset] rfl  (pc' := 33) rfl ?_
  refine w_iloadN X0 hx (Jvm.hb hby at_33) rfl (pc' := 34) rfl ?_
  refine w_iconst X0 hx (4 : Int32) (Jvm.hb hby at_34) (by decide) (pc' := 35) rfl ?_
  refine w_iushr X0 hx (Jvm.hb hby at_35) (pc' := 36) rfl ?_
  refine w_iconst X0 hx (3 : Int32) (Jvm.hb hby at_36) (by decide) (pc' := 37) rfl ?_
  refine w_iand X0 hx (Jvm.hb hby at_37) (pc' := 38) rfl ?_
  refine w_istore X0 hx (Jvm.hb hby at_38) #[.val (.int p0), .val (.int p1), .val (.int p2), .val (.int p3), .val (.int lh), .val (.int hh'), .val (.int ((lsr32 p3 (2 : Int32)) &&& (3 : Int32))), .val (.int ((lsr32 p3 (4 : Int32)) &&& (3 : Int32))), .unset, .unset, .unset, .unset, .unset, .unset, .unset, .unset, .unset, .unset, .unset, .unset, .unset] rfl  (pc' := 40) rfl ?_
  refine w_iloadN X0 hx (Jvm.hb hby at_40) rfl (pc' := 41) rfl ?_
  refine w_bipush X0 hx (6 : Int32) (Jvm.hb hby at_41) (by decide) (pc' := 43) rfl ?_
  refine w_iushr X0 hx (Jvm.hb hby at_43) (pc' := 44) rfl ?_
  refine w_iconst X0 hx (3 : Int32) (Jvm.hb hby at_44) (by decide) (pc' := 45) rfl ?_
  refine w_iand X0 hx (Jvm.hb hby at_45) (pc' := 46) rfl ?_
  refine w_istore X0 hx (Jvm.hb hby at_46) #[.val (.int p0), .val (.int p1), .val (.int p2), .val (.int p3), .val (.int lh), .val (.int hh'), .val (.int ((lsr32 p3 (2 : Int32)) &&& (3 : Int32))), .val (.int ((lsr32 p3 (4 : Int32)) &&& (3 : Int32))), .val (.int ((lsr32 p3 (6 : Int32)) &&& (3 : Int32))), .unset, .unset, .unset, .unset, .unset, .unset, .unset, .unset, .unset, .unset, .unset, .unset] rfl  (pc' := 48) rfl ?_
  refine w_iloadN X0 hx (Jvm.hb hby at_48) rfl (pc' := 49) rfl ?_
  refine w_bipush X0 hx (8 : Int32) (Jvm.hb hby at_49) (by decide) (pc' := 51) rfl ?_
  refine w_iushr X0 hx (Jvm.hb hby at_51) (pc' := 52) rfl ?_
  refine w_iconst X0 hx (3 : Int32) (Jvm.hb hby at_52) (by decide) (pc' := 53) rfl ?_
  refine w_iand X0 hx (Jvm.hb hby at_53) (pc' := 54) rfl ?_
  refine w_istore X0 hx (Jvm.hb hby at_54) #[.val (.int p0), .val (.int p1), .val (.int p2), .val (.int p3), .val (.int lh), .val (.int hh'), .val (.int ((lsr32 p3 (2 : Int32)) &&& (3 : Int32))), .val (.int ((lsr32 p3 (4 : Int32)) &&& (3 : Int32))), .val (.int ((lsr32 p3 (6 : Int32)) &&& (3 : Int32))), .val (.int ((lsr32 p3 (8 : Int32)) &&& (3 : Int32))), .unset, .unset, .unset, .unset, .unset, .unset, .unset, .unset, .unset, .unset, .unset] rfl  (pc' := 56) rfl ?_
  refine w_iloadN X0 hx (Jvm.hb hby at_56) rfl (pc' := 57) rfl ?_
  refine w_istore X0 hx (Jvm.hb hby at_57) #[.val (.int p0), .val (.int p1), .val (.int p2), .val (.int p3), .val (.int lh), .val (.int hh'), .val (.int ((lsr32 p3 (2 : Int32)) &&& (3 : Int32))), .val (.int ((lsr32 p3 (4 : Int32)) &&& (3 : Int32))), .val (.int ((lsr32 p3 (6 : Int32)) &&& (3 : Int32))), .val (.int ((lsr32 p3 (8 : Int32)) &&& (3 : Int32))), .val (.int p2), .unset, .unset, .unset, .unset, .unset, .unset, .unset, .unset, .unset, .unset] rfl  (pc' := 59) rfl ?_
  generalize hlk : ((lsr32 p3 (2 : Int32)) &&& (3 : Int32)) = lk
  generalize hhk' : ((lsr32 p3 (4 : Int32)) &&& (3 : Int32)) = hk'
  generalize hvk : ((lsr32 p3 (6 : Int32)) &&& (3 : Int32)) = vk
  generalize hpk : ((lsr32 p3 (8 : Int32)) &&& (3 : Int32)) = pk
  show Ow p e below s _ _ _ (s₁.setTop (mkF m 59 #[.val (.int p0), .val (.int p1), .val (.int p2), .val (.int p3), .val (.int lh), .val (.int hh'), .val (.int lk), .val (.int hk'), .val (.int vk), .val (.int pk), .val (.int p2), .unset, .unset, .unset, .unset, .unset, .unset, .unset, .unset, .unset, .unset] []))
  obtain ⟨vx, hvx⟩ : ∃ v : Int32, v = (if pk = (1 : Int32) then p0 else (if pk = (2 : Int32) then p1 else p2)) := ⟨_, rfl⟩
  refine Ow.join s₁ (mkF m 80 #[.val (.int p0), .val (.int p1), .val (.int p2), .val (.int p3), .val (.int lh), .val (.int hh'), .val (.int lk), .val (.int hk'), .val (.int vk), .val (.int pk), .val (.int vx), .unset, .unset, .unset, .unset, .unset, .unset, .unset, .unset, .unset, .unset] []) (fun K => ?_) ?_
  · refine w_iload X0 hx (Jvm.hb hby at_59) rfl (pc' := 61) rfl ?_
    refine w_iconst X0 hx (1 : Int32) (Jvm.hb hby at_61) (by decide) (pc' := 62) rfl ?_
    refine w_icmp_ne X0 hx (Jvm.hb hby at_62) (by decide) (pcT := 71) (by decide) (pcF := 65) rfl (fun hj62_0 => ?_) (fun hj62_0 => ?_)
    · refine w_iload X0 hx (Jvm.hb hby at_71) rfl (pc' := 73) rfl ?_
      refine w_iconst X0 hx (2 : Int32) (Jvm.hb hby at_73) (by decide) (pc' := 74) rfl ?_
      refine w_icmp_ne X0 hx (Jvm.hb hby at_74) (by decide) (pcT := 80) (by decide) (pcF := 77) rfl (fun hj74_1 => ?_) (fun hj74_1 => ?_)
      · rw [hvx, if_neg hj62_0, if_neg hj74_1] at K; exact K
      · refine w_iloadN X0 hx (Jvm.hb hby at_77) rfl (pc' := 78) rfl ?_
        refine w_istore X0 hx (Jvm.hb hby at_78) #[.val (.int p0), .val (.int p1), .val (.int p2), .val (.int p3), .val (.int lh), .val (.int hh'), .val (.int lk), .val (.int hk'), .val (.int vk), .val (.int pk), .val (.int p1), .unset, .unset, .unset, .unset, .unset, .unset, .unset, .unset, .unset, .unset] rfl  (pc' := 80) rfl ?_
        rw [hvx, if_neg hj62_0, if_pos hj74_1] at K; exact K
    · refine w_iloadN X0 hx (Jvm.hb hby at_65) rfl (pc' := 66) rfl ?_
      refine w_istore X0 hx (Jvm.hb hby at_66) #[.val (.int p0), .val (.int p1), .val (.int p2), .val (.int p3), .val (.int lh), .val (.int hh'), .val (.int lk), .val (.int hk'), .val (.int vk), .val (.int pk), .val (.int p0), .unset, .unset, .unset, .unset, .unset, .unset, .unset, .unset, .unset, .unset] rfl  (pc' := 68) rfl ?_
      refine w_goto X0 hx (Jvm.hb hby at_68) (by decide) (pc' := 80) (by decide) ?_
      rw [hvx, if_pos hj62_0] at K; exact K
  refine w_iload X0 hx (Jvm.hb hby at_80) rfl (pc' := 82) rfl ?_
  refine w_iloadN X0 hx (Jvm.hb hby at_82) rfl (pc' := 83) rfl ?_
  refine w_callS X0 hx hZ hown (hw _ (List.mem_of_getElem? (i := 0) rfl)) (hw _ (List.mem_of_getElem? (i := 1) rfl)) (hw _ (List.mem_of_getElem? (i := 2) rfl)) (hw _ (List.mem_of_getElem? (i := 3) rfl)) (by decide) (W := 0) (rm1 l Z aw hw [] lk p0 h0) e0 (by decide) (by decide) (by decide) (by decide) (Jvm.hb hby at_83) (by rw [hml]; rfl) (argsL := [(.int lk), (.int p0)]) (rest := []) pd_0 rfl rfl rfl (Nat.le_of_eq rfl) (pc' := 86) rfl ?_
  rintro _ T41 L41 X41 ⟨rfl, e41, rfl⟩
  show Ow p e below s _ _ _ (T41.setTop (mkF m 86 #[.val (.int p0), .val (.int p1), .val (.int p2), .val (.int p3), .val (.int lh), .val (.int hh'), .val (.int lk), .val (.int hk'), .val (.int vk), .val (.int pk), .val (.int vx), .unset, .unset, .unset, .unset, .unset, .unset, .unset, .unset, .unset, .unset] [(.long (rnk lk p0))]))
  refine w_lstore X41 hx (Jvm.hb hby at_86) #[.val (.int p0), .val (.int p1), .val (.int p2), .val (.int p3), .val (.int lh), .val (.int hh'), .val (.int lk), .val (.int hk'), .val (.int vk), .val (.int pk), .val (.int vx), .val (.long (rnk lk p0)), .second, .unset, .unset, .unset, .unset, .unset, .unset, .unset, .unset] rfl  (pc' := 88) rfl ?_
  refine w_iload X41 hx (Jvm.hb hby at_88) rfl (pc' := 90) rfl ?_
  refine w_iloadN X41 hx (Jvm.hb hby at_90) rfl (pc' := 91) rfl ?_
  refine w_callS X41 hx hZ hown (hw _ (List.mem_of_getElem? (i := 0) rfl)) (hw _ (List.mem_of_getElem? (i := 1) rfl)) (hw _ (List.mem_of_getElem? (i := 2) rfl)) (hw _ (List.mem_of_getElem? (i := 3) rfl)) (by decide) (W := 0) (rm1 l Z aw hw [] hk' p1 h0) e41 (by decide) (by decide) (by decide) (by decide) (Jvm.hb hby at_91) (by rw [hml]; rfl) (argsL := [(.int hk'), (.int p1)]) (rest := []) pd_0 rfl rfl rfl (Nat.le_of_eq rfl) (pc' := 94) rfl ?_
  rintro _ T42 L42 X42 ⟨rfl, e42, rfl⟩
  show Ow p e below s _ _ _ (T42.setTop (mkF m 94 #[.val (.int p0), .val (.int p1), .val (.int p2), .val (.int p3), .val (.int lh), .val (.int hh'), .val (.int lk), .val (.int hk'), .val (.int vk), .val (.int pk), .val (.int vx), .val (.long (rnk lk p0)), .second, .unset, .unset, .unset, .unset, .unset, .unset, .unset, .unset] [(.long (rnk hk' p1))]))
  refine w_lstore X42 hx (Jvm.hb hby at_94) #[.val (.int p0), .val (.int p1), .val (.int p2), .val (.int p3), .val (.int lh), .val (.int hh'), .val (.int lk), .val (.int hk'), .val (.int vk), .val (.int pk), .val (.int vx), .val (.long (rnk lk p0)), .second, .val (.long (rnk hk' p1)), .second, .unset, .unset, .unset, .unset, .unset, .unset] rfl  (pc' := 96) rfl ?_
  refine w_iload X42 hx (Jvm.hb hby at_96) rfl (pc' := 98) rfl ?_
  refine w_iload X42 hx (Jvm.hb hby at_98) rfl (pc' := 100) rfl ?_
  refine w_callS X42 hx hZ hown (hw _ (List.mem_of_getElem? (i := 0) rfl)) (hw _ (List.mem_of_getElem? (i := 1) rfl)) (hw _ (List.mem_of_getElem? (i := 2) rfl)) (hw _ (List.mem_of_getElem? (i := 3) rfl)) (by decide) (W := 0) (rm1 l Z aw hw [] vk vx h0) e42 (by decide) (by decide) (by decide) (by decide) (Jvm.hb hby at_100) (by rw [hml]; rfl) (argsL := [(.int vk), (.int vx)]) (rest := []) pd_0 rfl rfl rfl (Nat.le_of_eq rfl) (pc' := 103) rfl ?_
  rintro _ T43 L43 X43 ⟨rfl, e43, rfl⟩
  show Ow p e below s _ _ _ (T43.setTop (mkF m 103 #[.val (.int p0), .val (.int p1), .val (.int p2), .val (.int p3), .val (.int lh), .val (.int hh'), .val (.int lk), .val (.int hk'), .val (.int vk), .val (.int pk), .val (.int vx), .val (.long (rnk lk p0)), .second, .val (.long (rnk hk' p1)), .second, .unset, .unset, .unset, .unset, .unset, .unset] [(.long (rnk vk vx))]))
  refine w_lstore X43 hx (Jvm.hb hby at_103) #[.val (.int p0), .val (.int p1), .val (.int p2), .val (.int p3), .val (.int lh), .val (.int hh'), .val (.int lk), .val (.int hk'), .val (.int vk), .val (.int pk), .val (.int vx), .val (.long (rnk lk p0)), .second, .val (.long (rnk hk' p1)), .second, .val (.long (rnk vk vx)), .second, .unset, .unset, .unset, .unset] rfl  (pc' := 105) rfl ?_
  refine w_new X43 hx hZ hown (hw _ (List.mem_of_getElem? (i := 4) rfl)) (hw _ (List.mem_of_getElem? (i := 5) rfl)) (hw _ (List.mem_of_getElem? (i := 6) rfl)) e43 (Jvm.hb hby at_105) (by decide) (by decide) (pc' := 108) rfl ?_
  intro T44 h44 a44 g44 X44 e44 E44 A44 D44
  have F0_low : Fld Z h44 a44 "com/example/metadata_for_discovery/metadatafordiscovery/search/Interval" "low" "D" (.double 0) := D44 (Or.inr (hw _ (List.mem_of_getElem? (i := 17) rfl))) (ty := .double) (by decide)
  have F0_lowHeld : Fld Z h44 a44 "com/example/metadata_for_discovery/metadatafordiscovery/search/Interval" "lowHeld" "Z" (.int (0 : Int32)) := D44 (Or.inr (hw _ (List.mem_of_getElem? (i := 19) rfl))) (ty := .boolean) (by decide)
  have F0_high : Fld Z h44 a44 "com/example/metadata_for_discovery/metadatafordiscovery/search/Interval" "high" "D" (.double 0) := D44 (Or.inr (hw _ (List.mem_of_getElem? (i := 21) rfl))) (ty := .double) (by decide)
  have F0_highHeld : Fld Z h44 a44 "com/example/metadata_for_discovery/metadatafordiscovery/search/Interval" "highHeld" "Z" (.int (0 : Int32)) := D44 (Or.inr (hw _ (List.mem_of_getElem? (i := 23) rfl))) (ty := .boolean) (by decide)
  have G : n0 ≤ a44 := Nat.le_trans Z0 (Nat.le_of_eq g44.symm)
  refine w_dup X44 hx (Jvm.hb hby at_108) rfl (pc' := 109) rfl ?_
  refine w_iload X44 hx (Jvm.hb hby at_109) rfl (pc' := 111) rfl ?_
  refine w_iloadN X44 hx (Jvm.hb hby at_111) rfl (pc' := 112) rfl ?_
  refine w_callS X44 hx hZ hown (hw _ (List.mem_of_getElem? (i := 7) rfl)) (hw _ (List.mem_of_getElem? (i := 8) rfl)) (hw _ (List.mem_of_getElem? (i := 2) rfl)) (hw _ (List.mem_of_getElem? (i := 9) rfl)) (by decide) (W := 2) (rm2 l Z aw hw [] lk p0 h44) e44 (by decide) (by decide) (by decide) (by decide) (Jvm.hb hby at_112) (by rw [hml]; rfl) (argsL := [(.int lk), (.int p0)]) (rest := [(.ref a44), (.ref a44)]) pd_1 rfl rfl rfl (Nat.le_of_eq rfl) (pc' := 115) rfl ?_
  rintro _ T45 L45 X45 ⟨rfl, e45, rfl⟩
  show Ow p e below s _ _ _ (T45.setTop (mkF m 115 #[.val (.int p0), .val (.int p1), .val (.int p2), .val (.int p3), .val (.int lh), .val (.int hh'), .val (.int lk), .val (.int hk'), .val (.int vk), .val (.int pk), .val (.int vx), .val (.long (rnk lk p0)), .second, .val (.long (rnk hk' p1)), .second, .val (.long (rnk vk vx)), .second, .unset, .unset, .unset, .unset] [(.double (num lk p0)), (.ref a44), (.ref a44)]))
  refine w_iload X45 hx (Jvm.hb hby at_115) rfl (pc' := 117) rfl ?_
  refine w_iload X45 hx (Jvm.hb hby at_117) rfl (pc' := 119) rfl ?_
  refine w_iloadN X45 hx (Jvm.hb hby at_119) rfl (pc' := 120) rfl ?_
  refine w_callS X45 hx hZ hown (hw _ (List.mem_of_getElem? (i := 7) rfl)) (hw _ (List.mem_of_getElem? (i := 8) rfl)) (hw _ (List.mem_of_getElem? (i := 2) rfl)) (hw _ (List.mem_of_getElem? (i := 9) rfl)) (by decide) (W := 5) (rm2 l Z aw hw [] hk' p1 h44) e45 (by decide) (by decide) (by decide) (by decide) (Jvm.hb hby at_120) (by rw [hml]; rfl) (argsL := [(.int hk'), (.int p1)]) (rest := [(.int lh), (.double (num lk p0)), (.ref a44), (.ref a44)]) pd_1 rfl rfl rfl (Nat.le_of_eq rfl) (pc' := 123) rfl ?_
  rintro _ T46 L46 X46 ⟨rfl, e46, rfl⟩
  show Ow p e below s _ _ _ (T46.setTop (mkF m 123 #[.val (.int p0), .val (.int p1), .val (.int p2), .val (.int p3), .val (.int lh), .val (.int hh'), .val (.int lk), .val (.int hk'), .val (.int vk), .val (.int pk), .val (.int vx), .val (.long (rnk lk p0)), .second, .val (.long (rnk hk' p1)), .second, .val (.long (rnk vk vx)), .second, .unset, .unset, .unset, .unset] [(.double (num hk' p1)), (.int lh), (.double (num lk p0)), (.ref a44), (.ref a44)]))
  refine w_iload X46 hx (Jvm.hb hby at_123) rfl (pc' := 125) rfl ?_
  refine w_callN X46 hx hZ rfl hown (hw _ (List.mem_of_getElem? (i := 10) rfl)) (hw _ (List.mem_of_getElem? (i := 11) rfl)) (hw _ (List.mem_of_getElem? (i := 6) rfl)) (hw _ (List.mem_of_getElem? (i := 12) rfl)) (by decide) (W := 1) (rm3 l Z aw hw [] a44 (num lk p0) lh (num hk' p1) hh' h44 n0 F0_low F0_lowHeld F0_high F0_highHeld A44 G (own_b hlh) (own_b hhh')) e46 (by decide) (by decide) (by decide) (by decide) (Jvm.hb hby at_125) (by rw [hml]; rfl) (a := a44) (argsL := [(.double (num lk p0)), (.int lh), (.double (num hk' p1)), (.int hh')]) (rest := [(.ref a44)]) pd_2 rfl rfl rfl (Nat.le_of_eq rfl) (pc' := 128) rfl ?_
  rintro _ T47 L47 X47 ⟨rfl, N47, K47, R47_low, R47_lowHeld, R47_high, R47_highHeld⟩
  show Ow p e below s _ _ _ (T47.setTop (mkF m 128 #[.val (.int p0), .val (.int p1), .val (.int p2), .val (.int p3), .val (.int lh), .val (.int hh'), .val (.int lk), .val (.int hk'), .val (.int vk), .val (.int pk), .val (.int vx), .val (.long (rnk lk p0)), .second, .val (.long (rnk hk' p1)), .second, .val (.long (rnk vk vx)), .second, .unset, .unset, .unset, .unset] [(.ref a44)]))
  have E47 := A44.keep K47
  refine w_astore X47 hx (Jvm.hb hby at_128) #[.val (.int p0), .val (.int p1), .val (.int p2), .val (.int p3), .val (.int lh), .val (.int hh'), .val (.int lk), .val (.int hk'), .val (.int vk), .val (.int pk), .val (.int vx), .val (.long (rnk lk p0)), .second, .val (.long (rnk hk' p1)), .second, .val (.long (rnk vk vx)), .second, .val (.ref a44), .unset, .unset, .unset] rfl rfl (pc' := 130) rfl ?_
  refine w_aload X47 hx (Jvm.hb hby at_130) rfl rfl (pc' := 132) rfl ?_
  refine w_iload X47 hx (Jvm.hb hby at_132) rfl (pc' := 134) rfl ?_
  refine w_iload X47 hx (Jvm.hb hby at_134) rfl (pc' := 136) rfl ?_
  refine w_callS X47 hx hZ hown (hw _ (List.mem_of_getElem? (i := 7) rfl)) (hw _ (List.mem_of_getElem? (i := 8) rfl)) (hw _ (List.mem_of_getElem? (i := 2) rfl)) (hw _ (List.mem_of_getElem? (i := 9) rfl)) (by decide) (W := 1) (rm2 l Z aw hw [] vk vx T47.heap) rfl (by decide) (by decide) (by decide) (by decide) (Jvm.hb hby at_136) (by rw [hml]; rfl) (argsL := [(.int vk), (.int vx)]) (rest := [(.ref a44)]) pd_1 rfl rfl rfl (Nat.le_of_eq rfl) (pc' := 139) rfl ?_
  rintro _ T48 L48 X48 ⟨rfl, e48, rfl⟩
  show Ow p e below s _ _ _ (T48.setTop (mkF m 139 #[.val (.int p0), .val (.int p1), .val (.int p2), .val (.int p3), .val (.int lh), .val (.int hh'), .val (.int lk), .val (.int hk'), .val (.int vk), .val (.int pk), .val (.int vx), .val (.long (rnk lk p0)), .second, .val (.long (rnk hk' p1)), .second, .val (.long (rnk vk vx)), .second, .val (.ref a44), .unset, .unset, .unset] [(.double (num vk vx)), (.ref a44)]))
  refine w_callV X48 hx hZ hown (hw _ (List.mem_of_getElem? (i := 24) rfl)) (hw _ (List.mem_of_getElem? (i := 25) rfl)) (notFace_of_selects (args := #[]) (mvT hZ (hw _ (List.mem_of_getElem? (i := 27) rfl)))) (hw _ (List.mem_of_getElem? (i := 27) rfl)) (hw _ (List.mem_of_getElem? (i := 26) rfl)) (hw _ (List.mem_of_getElem? (i := 6) rfl)) (hw _ (List.mem_of_getElem? (i := 28) rfl)) (by decide) (W := 0) (rm5 l Z aw hw [] a44 (num vk vx) (num lk p0) lh (num hk' p1) hh' T47.heap R47_low R47_lowHeld R47_high R47_highHeld) e48 (by decide) (by decide) (by decide) (by decide) E47 (Jvm.hb hby at_139) (by rw [hml]; rfl) (argsL := [(.double (num vk vx))]) (rest := []) pd_3 rfl rfl rfl (Nat.le_of_eq rfl) (pc' := 142) rfl ?_
  rintro _ T49 L49 X49 ⟨rfl, e49, rfl⟩
  show Ow p e below s _ _ _ (T49.setTop (mkF m 142 #[.val (.int p0), .val (.int p1), .val (.int p2), .val (.int p3), .val (.int lh), .val (.int hh'), .val (.int lk), .val (.int hk'), .val (.int vk), .val (.int pk), .val (.int vx), .val (.long (rnk lk p0)), .second, .val (.long (rnk hk' p1)), .second, .val (.long (rnk vk vx)), .second, .val (.ref a44), .unset, .unset, .unset] [(.int (hold (num vk vx) (num lk p0) lh (num hk' p1) hh'))]))
  refine w_istore X49 hx (Jvm.hb hby at_142) #[.val (.int p0), .val (.int p1), .val (.int p2), .val (.int p3), .val (.int lh), .val (.int hh'), .val (.int lk), .val (.int hk'), .val (.int vk), .val (.int pk), .val (.int vx), .val (.long (rnk lk p0)), .second, .val (.long (rnk hk' p1)), .second, .val (.long (rnk vk vx)), .second, .val (.ref a44), .val (.int (hold (num vk vx) (num lk p0) lh (num hk' p1) hh')), .unset, .unset] rfl  (pc' := 144) rfl ?_
  obtain ⟨ab, hab⟩ : ∃ v : Int32, v = (if (rnk lk p0) < (rnk vk vx) then (1 : Int32) else (if (rnk vk vx) = (rnk lk p0) then (if lh = (0 : Int32) then (0 : Int32) else (1 : Int32)) else (0 : Int32))) := ⟨_, rfl⟩
  refine Ow.join T49 (mkF m 172 #[.val (.int p0), .val (.int p1), .val (.int p2), .val (.int p3), .val (.int lh), .val (.int hh'), .val (.int lk), .val (.int hk'), .val (.int vk), .val (.int pk), .val (.int vx), .val (.long (rnk lk p0)), .second, .val (.long (rnk hk' p1)), .second, .val (.long (rnk vk vx)), .second, .val (.ref a44), .val (.int (hold (num vk vx) (num lk p0) lh (num hk' p1) hh')), .val (.int ab), .unset] []) (fun K => ?_) ?_
  · refine w_lload X49 hx (Jvm.hb hby at_144) rfl (pc' := 146) rfl ?_
    refine w_lload X49 hx (Jvm.hb hby at_146) rfl (pc' := 148) rfl ?_
    refine w_lcmp_gt X49 hx (Jvm.hb hby at_148) (Jvm.hb hby at_149) rfl (by decide) (pcT := 165) (by decide) (pcF := 152) rfl (fun hj148_0 => ?_) (fun hj148_0 => ?_)
    · refine w_iconst X49 hx (1 : Int32) (Jvm.hb hby at_165) (by decide) (pc' := 166) rfl ?_
      refine w_goto X49 hx (Jvm.hb hby at_166) (by decide) (pc' := 170) (by decide) ?_
      refine w_istore X49 hx (Jvm.hb hby at_170) #[.val (.int p0), .val (.int p1), .val (.int p2), .val (.int p3), .val (.int lh), .val (.int hh'), .val (.int lk), .val (.int hk'), .val (.int vk), .val (.int pk), .val (.int vx), .val (.long (rnk lk p0)), .second, .val (.long (rnk hk' p1)), .second, .val (.long (rnk vk vx)), .second, .val (.ref a44), .val (.int (hold (num vk vx) (num lk p0) lh (num hk' p1) hh')), .val (.int (1 : Int32)), .unset] rfl  (pc' := 172) rfl ?_
      rw [hab, if_pos hj148_0] at K; exact K
    · refine w_lload X49 hx (Jvm.hb hby at_152) rfl (pc' := 154) rfl ?_
      refine w_lload X49 hx (Jvm.hb hby at_154) rfl (pc' := 156) rfl ?_
      refine w_lcmp_ne X49 hx (Jvm.hb hby at_156) (Jvm.hb hby at_157) rfl (by decide) (pcT := 169) (by decide) (pcF := 160) rfl (fun hj156_1 => ?_) (fun hj156_1 => ?_)
      · refine w_iconst X49 hx (0 : Int32) (Jvm.hb hby at_169) (by decide) (pc' := 170) rfl ?_
        refine w_istore X49 hx (Jvm.hb hby at_170) #[.val (.int p0), .val (.int p1), .val (.int p2), .val (.int p3), .val (.int lh), .val (.int hh'), .val (.int lk), .val (.int hk'), .val (.int vk), .val (.int pk), .val (.int vx), .val (.long (rnk lk p0)), .second, .val (.long (rnk hk' p1)), .second, .val (.long (rnk vk vx)), .second, .val (.ref a44), .val (.int (hold (num vk vx) (num lk p0) lh (num hk' p1) hh')), .val (.int (0 : Int32)), .unset] rfl  (pc' := 172) rfl ?_
        rw [hab, if_neg hj148_0, if_neg hj156_1] at K; exact K
      · refine w_iload X49 hx (Jvm.hb hby at_160) rfl (pc' := 162) rfl ?_
        refine w_if_eq X49 hx (Jvm.hb hby at_162) (by decide) (pcT := 169) (by decide) (pcF := 165) rfl (fun hj162_2 => ?_) (fun hj162_2 => ?_)
        · refine w_iconst X49 hx (0 : Int32) (Jvm.hb hby at_169) (by decide) (pc' := 170) rfl ?_
          refine w_istore X49 hx (Jvm.hb hby at_170) #[.val (.int p0), .val (.int p1), .val (.int p2), .val (.int p3), .val (.int lh), .val (.int hh'), .val (.int lk), .val (.int hk'), .val (.int vk), .val (.int pk), .val (.int vx), .val (.long (rnk lk p0)), .second, .val (.long (rnk hk' p1)), .second, .val (.long (rnk vk vx)), .second, .val (.ref a44), .val (.int (hold (num vk vx) (num lk p0) lh (num hk' p1) hh')), .val (.int (0 : Int32)), .unset] rfl  (pc' := 172) rfl ?_
          rw [hab, if_neg hj148_0, if_pos hj156_1, if_pos hj162_2] at K; exact K
        · refine w_iconst X49 hx (1 : Int32) (Jvm.hb hby at_165) (by decide) (pc' := 166) rfl ?_
          refine w_goto X49 hx (Jvm.hb hby at_166) (by decide) (pc' := 170) (by decide) ?_
          refine w_istore X49 hx (Jvm.hb hby at_170) #[.val (.int p0), .val (.int p1), .val (.int p2), .val (.int p3), .val (.int lh), .val (.int hh'), .val (.int lk), .val (.int hk'), .val (.int vk), .val (.int pk), .val (.int vx), .val (.long (rnk lk p0)), .second, .val (.long (rnk hk' p1)), .second, .val (.long (rnk vk vx)), .second, .val (.ref a44), .val (.int (hold (num vk vx) (num lk p0) lh (num hk' p1) hh')), .val (.int (1 : Int32)), .unset] rfl  (pc' := 172) rfl ?_
          rw [hab, if_neg hj148_0, if_pos hj156_1, if_neg hj162_2] at K; exact K
  obtain ⟨be, hbe⟩ : ∃ v : Int32, v = (if (rnk vk vx) < (rnk hk' p1) then (1 : Int32) else (if (rnk vk vx) = (rnk hk' p1) then (if hh' = (0 : Int32) then (0 : Int32) else (1 : Int32)) else (0 : Int32))) := ⟨_, rfl⟩
  refine Ow.join T49 (mkF m 200 #[.val (.int p0), .val (.int p1), .val (.int p2), .val (.int p3), .val (.int lh), .val (.int hh'), .val (.int lk), .val (.int hk'), .val (.int vk), .val (.int pk), .val (.int vx), .val (.long (rnk lk p0)), .second, .val (.long (rnk hk' p1)), .second, .val (.long (rnk vk vx)), .second, .val (.ref a44), .val (.int (hold (num vk vx) (num lk p0) lh (num hk' p1) hh')), .val (.int ab), .val (.int be)] []) (fun K => ?_) ?_
  · refine w_lload X49 hx (Jvm.hb hby at_172) rfl (pc' := 174) rfl ?_
    refine w_lload X49 hx (Jvm.hb hby at_174) rfl (pc' := 176) rfl ?_
    refine w_lcmp_lt X49 hx (Jvm.hb hby at_176) (Jvm.hb hby at_177) rfl (by decide) (pcT := 193) (by decide) (pcF := 180) rfl (fun hj176_0 => ?_) (fun hj176_0 => ?_)
    · refine w_iconst X49 hx (1 : Int32) (Jvm.hb hby at_193) (by decide) (pc' := 194) rfl ?_
      refine w_goto X49 hx (Jvm.hb hby at_194) (by decide) (pc' := 198) (by decide) ?_
      refine w_istore X49 hx (Jvm.hb hby at_198) #[.val (.int p0), .val (.int p1), .val (.int p2), .val (.int p3), .val (.int lh), .val (.int hh'), .val (.int lk), .val (.int hk'), .val (.int vk), .val (.int pk), .val (.int vx), .val (.long (rnk lk p0)), .second, .val (.long (rnk hk' p1)), .second, .val (.long (rnk vk vx)), .second, .val (.ref a44), .val (.int (hold (num vk vx) (num lk p0) lh (num hk' p1) hh')), .val (.int ab), .val (.int (1 : Int32))] rfl  (pc' := 200) rfl ?_
      rw [hbe, if_pos hj176_0] at K; exact K
    · refine w_lload X49 hx (Jvm.hb hby at_180) rfl (pc' := 182) rfl ?_
      refine w_lload X49 hx (Jvm.hb hby at_182) rfl (pc' := 184) rfl ?_
      refine w_lcmp_ne X49 hx (Jvm.hb hby at_184) (Jvm.hb hby at_185) rfl (by decide) (pcT := 197) (by decide) (pcF := 188) rfl (fun hj184_1 => ?_) (fun hj184_1 => ?_)
      · refine w_iconst X49 hx (0 : Int32) (Jvm.hb hby at_197) (by decide) (pc' := 198) rfl ?_
        refine w_istore X49 hx (Jvm.hb hby at_198) #[.val (.int p0), .val (.int p1), .val (.int p2), .val (.int p3), .val (.int lh), .val (.int hh'), .val (.int lk), .val (.int hk'), .val (.int vk), .val (.int pk), .val (.int vx), .val (.long (rnk lk p0)), .second, .val (.long (rnk hk' p1)), .second, .val (.long (rnk vk vx)), .second, .val (.ref a44), .val (.int (hold (num vk vx) (num lk p0) lh (num hk' p1) hh')), .val (.int ab), .val (.int (0 : Int32))] rfl  (pc' := 200) rfl ?_
        rw [hbe, if_neg hj176_0, if_neg hj184_1] at K; exact K
      · refine w_iload X49 hx (Jvm.hb hby at_188) rfl (pc' := 190) rfl ?_
        refine w_if_eq X49 hx (Jvm.hb hby at_190) (by decide) (pcT := 197) (by decide) (pcF := 193) rfl (fun hj190_2 => ?_) (fun hj190_2 => ?_)
        · refine w_iconst X49 hx (0 : Int32) (Jvm.hb hby at_197) (by decide) (pc' := 198) rfl ?_
          refine w_istore X49 hx (Jvm.hb hby at_198) #[.val (.int p0), .val (.int p1), .val (.int p2), .val (.int p3), .val (.int lh), .val (.int hh'), .val (.int lk), .val (.int hk'), .val (.int vk), .val (.int pk), .val (.int vx), .val (.long (rnk lk p0)), .second, .val (.long (rnk hk' p1)), .second, .val (.long (rnk vk vx)), .second, .val (.ref a44), .val (.int (hold (num vk vx) (num lk p0) lh (num hk' p1) hh')), .val (.int ab), .val (.int (0 : Int32))] rfl  (pc' := 200) rfl ?_
          rw [hbe, if_neg hj176_0, if_pos hj184_1, if_pos hj190_2] at K; exact K
        · refine w_iconst X49 hx (1 : Int32) (Jvm.hb hby at_193) (by decide) (pc' := 194) rfl ?_
          refine w_goto X49 hx (Jvm.hb hby at_194) (by decide) (pc' := 198) (by decide) ?_
          refine w_istore X49 hx (Jvm.hb hby at_198) #[.val (.int p0), .val (.int p1), .val (.int p2), .val (.int p3), .val (.int lh), .val (.int hh'), .val (.int lk), .val (.int hk'), .val (.int vk), .val (.int pk), .val (.int vx), .val (.long (rnk lk p0)), .second, .val (.long (rnk hk' p1)), .second, .val (.long (rnk vk vx)), .second, .val (.ref a44), .val (.int (hold (num vk vx) (num lk p0) lh (num hk' p1) hh')), .val (.int ab), .val (.int (1 : Int32))] rfl  (pc' := 200) rfl ?_
          rw [hbe, if_neg hj176_0, if_pos hj184_1, if_neg hj190_2] at K; exact K
  refine w_iload X49 hx (Jvm.hb hby at_200) rfl (pc' := 202) rfl ?_
  refine w_iload X49 hx (Jvm.hb hby at_202) rfl (pc' := 204) rfl ?_
  refine w_if_eq X49 hx (Jvm.hb hby at_204) (by decide) (pcT := 216) (by decide) (pcF := 207) rfl (fun a0' => ?_) (fun a0' => ?_)
  · refine w_iconst X49 hx (0 : Int32) (Jvm.hb hby at_216) (by decide) (pc' := 217) rfl ?_
    refine w_icmp_ne X49 hx (Jvm.hb hby at_217) (by decide) (pcT := 224) (by decide) (pcF := 220) rfl (fun q => absurd (own_f0 lk hk' vk p0 p1 vx lh hh' ab be hab hbe a0') q) (fun _ => ?_)
    refine w_iconst X49 hx (1 : Int32) (Jvm.hb hby at_220) (by decide) (pc' := 221) rfl ?_
    refine w_goto X49 hx (Jvm.hb hby at_221) (by decide) (pc' := 225) (by decide) ?_
    exact w_zreturn X49 hx Bd.returns (Or.inr rfl) (BodyLoose.notSynchronized Bd) (Nat.le_of_ble_eq_true rfl) (Nat.le_of_ble_eq_true rfl) (Jvm.hb hby at_225) ⟨rfl, by simpa using N47⟩
  · refine w_iload X49 hx (Jvm.hb hby at_207) rfl (pc' := 209) rfl ?_
    refine w_if_eq X49 hx (Jvm.hb hby at_209) (by decide) (pcT := 216) (by decide) (pcF := 212) rfl (fun b0 => ?_) (fun b0 => ?_)
    · refine w_iconst X49 hx (0 : Int32) (Jvm.hb hby at_216) (by decide) (pc' := 217) rfl ?_
      refine w_icmp_ne X49 hx (Jvm.hb hby at_217) (by decide) (pcT := 224) (by decide) (pcF := 220) rfl (fun q => absurd (own_f1 lk hk' vk p0 p1 vx lh hh' ab be hab hbe b0) q) (fun _ => ?_)
      refine w_iconst X49 hx (1 : Int32) (Jvm.hb hby at_220) (by decide) (pc' := 221) rfl ?_
      refine w_goto X49 hx (Jvm.hb hby at_221) (by decide) (pc' := 225) (by decide) ?_
      exact w_zreturn X49 hx Bd.returns (Or.inr rfl) (BodyLoose.notSynchronized Bd) (Nat.le_of_ble_eq_true rfl) (Nat.le_of_ble_eq_true rfl) (Jvm.hb hby at_225) ⟨rfl, by simpa using N47⟩
    · refine w_iconst X49 hx (1 : Int32) (Jvm.hb hby at_212) (by decide) (pc' := 213) rfl ?_
      refine w_goto X49 hx (Jvm.hb hby at_213) (by decide) (pc' := 217) (by decide) ?_
      refine w_icmp_ne X49 hx (Jvm.hb hby at_217) (by decide) (pcT := 224) (by decide) (pcF := 220) rfl (fun q => absurd (own_f2 lk hk' vk p0 p1 vx lh hh' ab be hab hbe a0' b0) q) (fun _ => ?_)
      refine w_iconst X49 hx (1 : Int32) (Jvm.hb hby at_220) (by decide) (pc' := 221) rfl ?_
      refine w_goto X49 hx (Jvm.hb hby at_221) (by decide) (pc' := 225) (by decide) ?_
      exact w_zreturn X49 hx Bd.returns (Or.inr rfl) (BodyLoose.notSynchronized Bd) (Nat.le_of_ble_eq_true rfl) (Nat.le_of_ble_eq_true rfl) (Jvm.hb hby at_225) ⟨rfl, by simpa using N47⟩
set_option maxRecDepth 65536 in
set_option maxHeartbeats 40000000 in
theorem comes_1 {Post : Tables → Env → Array Value → State → Outcome → State → Prop} (hpost : ∀ tb e args s v u, (limb_1_1.after args s (.returned v) u = true ∧ limb_1_2.after args s (.returned v) u = true ∧ True) → FrameEnd s (.returned v) u (Jvm.fieldLocs frame_1_writes args s ++ Jvm.arrayLocs frame_1_arrays args s ++ Jvm.staticLocs frame_1_statics s) 16 128 → Post tb e args s (.returned v) u) :
    ArmFor flags0 classFile x code maxLocals ret World_1 tables_1 room_1 Calls_1 rest_1 Pre_1 Post := by
  intro l hfl _ _ p e ha hc hk s m args below hf hA hF happ hP
  obtain ⟨hcalls, hrest, hpre⟩ := hP
  obtain ⟨-, -, -, hnamed, -, -, -, hat⟩ := (Spec.applies_iff hf).mp happ
  obtain ⟨hg, hn⟩ := and_e (Cond.before_iff.mp (show (Jvm.Cond.and given_1 narrow_1).before args s = true from hpre))
  obtain ⟨g1, g2⟩ := and_e hg
  obtain ⟨g3, g4⟩ := and_e g2
  obtain ⟨g5, g6⟩ := and_e g4
  obtain ⟨g7, g8⟩ := and_e g6
  obtain ⟨w0, w1, w2, w3, rfl⟩ : ∃ w0 w1 w2 w3 : Value, args = #[w0, w1, w2, w3] := by
    have hs : args.size = 4 := by simpa [Cond.value, given_1] using g1
    obtain ⟨L⟩ := args
    match L, hs with
    | [w0, w1, w2, w3], _ => exact ⟨w0, w1, w2, w3, rfl⟩
  have hw := fun d (hd : d ∈ tables_1) => atoms_spec (ws := Jvm.Cond.code x code maxLocals ret :: tables_1) hat d (List.mem_cons_of_mem _ hd)
  obtain ⟨i0, ei0⟩ := is_v g3
  obtain rfl : w0 = (.int i0) := Option.some.inj ei0
  obtain ⟨i1, ei1⟩ := is_v g5
  obtain rfl : w1 = (.int i1) := Option.some.inj ei1
  obtain ⟨i2, ei2⟩ := is_v g7
  obtain rfl : w2 = (.int i2) := Option.some.inj ei2
  obtain ⟨i3, ei3⟩ := is_v g8
  obtain rfl : w3 = (.int i3) := Option.some.inj ei3
  obtain ⟨n, o, h1, h2, h3, _, L, rfl, ⟨rfl, N⟩, hq⟩ := rm0 l s _ hw tables_1 i0 i1 i2 i3 s.heap s.heap.size (Nat.le_refl _) p e ha hc hk s m _ below hf ((Spec.applies_iff_loose hf).mp happ).1 ⟨rfl, State.Warmed39.refl s, rfl⟩ trivial
  refine ⟨n, _, h1, h2, h3, hpost _ _ _ _ _ _ ⟨Cond.after_iff.mpr rfl, Cond.after_iff.mpr (eq_i res_at (Term.int_eval (1)) rfl), trivial⟩ ⟨hq.1, hq.2.1, (hq.2.2.sift fun y hy => Or.inr (N y hy)).mono (by decide) (by decide)⟩⟩
theorem main_1_1 : Claimed_1_1 := comes_1 fun _ _ _ _ _ _ h hF => ⟨h.1, hF⟩
theorem main_1_2 : Claimed_1_2 := comes_1 fun _ _ _ _ _ _ h hF => ⟨h.2.1, hF⟩
end Jvm.Pilot.@@N@@
namespace Jvm.Pilot.@@N@@
open Jvm Jvm.ClassFile Sem Op Lib Jvm.Free Jvm.Stand Jvm.Pilot.@@N@@.Jvm.D
/-! MADE BY PROGRAM (witnessworld.py) out of the Statement's table words and the real class files: 9 classes; the members and pool entries that the words name. The judged class is class 1, her method 3. -/
namespace start1
open Jvm.ClassFile
def u (s : String) : CpInfo := .utf8 (stringToUtf16 s)
/-- a pool by its gaps: so many unusable entries, then the entry; so many at the end -/
def gap : Nat → List CpInfo → List CpInfo
  | 0, r => r
  | n + 1, r => .unusable :: gap n r
def poolList (es : List (Nat × CpInfo)) (last : Nat) : List CpInfo := es.foldr (fun e r => gap e.1 (e.2 :: r)) (gap last [])
def pool (es : List (Nat × CpInfo)) (last : Nat) : Array CpInfo := ⟨poolList es last⟩
def fileOf (pool : Array CpInfo) (this : Nat) (attrs : Array Attribute := #[]) (ms : Array MethodInfo := #[]) (fl : Nat := 33) (sup : Nat := 0) (ifs : Array Nat := #[]) (fds : Array FieldInfo := #[]) : ClassFile where
  minorVersion := 0
  majorVersion := 65
  constantPool := pool
  accessFlags := fl
  thisClass := this
  superClass := sup
  interfaces := ifs
  fields := fds
  methods := ms
  attributes := attrs
def plain (name : String) (sup : Option ClassId) : Class where
  name := name
  kind := .ordinary
  loader := none
  accessFlags := 33
  super := sup
  interfaces := #[]
  cf := none
  fields := #[]
  methods := #[]
  instanceTypes := #[]
  staticTypes := #[]
  resolved := #[]
  callSites := []
  init := .initialized
  statics := none
  mirror := none

def pool0 : Array CpInfo := pool [(5, u "<init>"), (0, u "()V"), (1, .class_ 10), (1, u "java/lang/Object")] 113

def k0c0 : Code := { maxStack := 0, maxLocals := 1, code := object_method_1_code, exceptionTable := #[], attributes := #[] }
def k0m0 : Method := { name := "<init>", desc := "()V", sig := { parameters := [], returnType := none }, accessFlags := 1, code := some k0c0 }
/-- java/lang/Object -/
def k0 : Class := { plain "java/lang/Object" none with
  accessFlags := 33
  interfaces := #[]
  cf := some (fileOf pool0 8 #[] #[{ accessFlags := 1, nameIndex := 5, descriptorIndex := 6, attributes := #[] }] 33 0 #[] #[])
  fields := #[]
  methods := #[k0m0]
  instanceTypes := #[]
  staticTypes := #[]
  resolved := Array.replicate 124 none
  statics := none }

def pool1 : Array CpInfo := pool [(2, .class_ 4), (1, u "java/lang/Object"), (0, u "<init>"), (0, u "()V"), (2, .long 9223372036854775808), (1, .long 9223372036854775807), (3, .double 18442240474082181120), (1, .double 9218868437227405312), (1, .methodref 20 21), (0, .class_ 22), (0, .nameAndType 23 24), (0, u "com/example/metadata_for_discovery/metadatafordiscovery/search/IntervalHoldsPinLaw"), (0, u "rank"), (0, u "(II)J"), (0, .class_ 26), (0, u "com/example/metadata_for_discovery/metadatafordiscovery/search/Interval"), (0, .methodref 20 28), (0, .nameAndType 29 30), (0, u "num"), (0, u "(II)D"), (0, .methodref 25 32), (0, .nameAndType 5 33), (0, u "(DZDZ)V"), (0, .methodref 25 35), (0, .nameAndType 36 37), (0, u "holds"), (0, u "(D)Z"), (3, u "law"), (0, u "(IIII)Z")] 2

def k1m0 : Method := { name := "<init>", desc := "()V", sig := { parameters := [], returnType := none }, accessFlags := 1, code := none }
def k1c1 : Code := { maxStack := 2, maxLocals := 2, code := method_2_code, exceptionTable := #[], attributes := #[] }
def k1m1 : Method := { name := "rank", desc := "(II)J", sig := { parameters := [.int, .int], returnType := some .long }, accessFlags := 10, code := some k1c1 }
def k1c2 : Code := { maxStack := 2, maxLocals := 2, code := method_3_code, exceptionTable := #[], attributes := #[] }
def k1m2 : Method := { name := "num", desc := "(II)D", sig := { parameters := [.int, .int], returnType := some .double }, accessFlags := 10, code := some k1c2 }
def k1c3 : Code := { maxStack := 8, maxLocals := 21, code := code, exceptionTable := #[], attributes := #[] }
def k1m3 : Method := { name := "law", desc := "(IIII)Z", sig := { parameters := [.int, .int, .int, .int], returnType := some .boolean }, accessFlags := 9, code := some k1c3 }
/-- com/example/metadata_for_discovery/metadatafordiscovery/search/IntervalHoldsPinLaw -/
def k1 : Class := { plain "com/example/metadata_for_discovery/metadatafordiscovery/search/IntervalHoldsPinLaw" (some 0) with
  accessFlags := 49
  interfaces := #[]
  cf := some (fileOf pool1 20 #[] #[{ accessFlags := 1, nameIndex := 5, descriptorIndex := 6, attributes := #[] }, { accessFlags := 10, nameIndex := 23, descriptorIndex := 24, attributes := #[] }, { accessFlags := 10, nameIndex := 29, descriptorIndex := 30, attributes := #[] }, { accessFlags := 9, nameIndex := 41, descriptorIndex := 42, attributes := #[] }] 49 2 #[] #[])
  fields := #[]
  methods := #[k1m0, k1m1, k1m2, k1m3]
  instanceTypes := #[]
  staticTypes := #[]
  resolved := Array.replicate 45 none
  statics := none }

def pool2 : Array CpInfo := pool [(1, .methodref 2 3), (0, .class_ 4), (0, .nameAndType 5 6), (0, u "java/lang/Object"), (0, u "<init>"), (0, u "()V"), (0, .fieldref 8 9), (0, .class_ 10), (0, .nameAndType 11 12), (0, u "com/example/metadata_for_discovery/metadatafordiscovery/search/Interval"), (0, u "low"), (0, u "D"), (0, .fieldref 8 14), (0, .nameAndType 15 16), (0, u "lowHeld"), (0, u "Z"), (0, .fieldref 8 18), (0, .nameAndType 19 12), (0, u "high"), (0, .fieldref 8 21), (0, .nameAndType 22 16), (0, u "highHeld"), (2, u "(DZDZ)V"), (11, u "holds"), (0, u "(D)Z")] 16

def k2c0 : Code := { maxStack := 3, maxLocals := 7, code := prog_67_method_1_code, exceptionTable := #[], attributes := #[] }
def k2m0 : Method := { name := "<init>", desc := "(DZDZ)V", sig := { parameters := [.double, .boolean, .double, .boolean], returnType := none }, accessFlags := 0, code := some k2c0 }
def k2c1 : Code := { maxStack := 4, maxLocals := 5, code := prog_67_method_7_code, exceptionTable := #[], attributes := #[] }
def k2m1 : Method := { name := "holds", desc := "(D)Z", sig := { parameters := [.double], returnType := some .boolean }, accessFlags := 0, code := some k2c1 }
/-- com/example/metadata_for_discovery/metadatafordiscovery/search/Interval -/
def k2 : Class := { plain "com/example/metadata_for_discovery/metadatafordiscovery/search/Interval" (some 0) with
  accessFlags := 48
  interfaces := #[]
  cf := some (fileOf pool2 8 #[] #[{ accessFlags := 0, nameIndex := 5, descriptorIndex := 25, attributes := #[] }, { accessFlags := 0, nameIndex := 37, descriptorIndex := 38, attributes := #[] }] 48 2 #[] #[{ accessFlags := 18, nameIndex := 11, descriptorIndex := 12, attributes := #[] }, { accessFlags := 18, nameIndex := 15, descriptorIndex := 16, attributes := #[] }, { accessFlags := 18, nameIndex := 19, descriptorIndex := 12, attributes := #[] }, { accessFlags := 18, nameIndex := 22, descriptorIndex := 16, attributes := #[] }])
  fields := #[{ name := "low", type := .double, accessFlags := 18, slot := 0, constantValue := 0 }, { name := "lowHeld", type := .boolean, accessFlags := 18, slot := 1, constantValue := 0 }, { name := "high", type := .double, accessFlags := 18, slot := 2, constantValue := 0 }, { name := "highHeld", type := .boolean, accessFlags := 18, slot := 3, constantValue := 0 }]
  methods := #[k2m0, k2m1]
  instanceTypes := #[.double, .boolean, .double, .boolean]
  staticTypes := #[]
  resolved := Array.replicate 55 none
  statics := none }

def pool3 : Array CpInfo := pool [(1, u "java/lang/Cloneable"), (0, .class_ 1), (0, u "java/lang/Object"), (0, .class_ 3)] 3

/-- java/lang/Cloneable -/
def k3 : Class := { plain "java/lang/Cloneable" (some 0) with
  accessFlags := 1537
  interfaces := #[]
  cf := some (fileOf pool3 2 #[] #[] 1537 4 #[] #[])
  fields := #[]
  methods := #[]
  instanceTypes := #[]
  staticTypes := #[]
  resolved := Array.replicate 8 none
  statics := none }

def pool4 : Array CpInfo := pool [(1, u "java/io/Serializable"), (0, .class_ 1), (0, u "java/lang/Object"), (0, .class_ 3)] 3

/-- java/io/Serializable -/
def k4 : Class := { plain "java/io/Serializable" (some 0) with
  accessFlags := 1537
  interfaces := #[]
  cf := some (fileOf pool4 2 #[] #[] 1537 4 #[] #[])
  fields := #[]
  methods := #[]
  instanceTypes := #[]
  staticTypes := #[]
  resolved := Array.replicate 8 none
  statics := none }

/-- the primitive byte -/
def k5 : Class := { plain "byte" none with kind := .primitive 'B', accessFlags := 0x411 }
/-- [B -/
def k6 : Class := { plain "[B" (some 0) with kind := .array 5 .byte, interfaces := #[3, 4], accessFlags := 1041 }

/-- the primitive int -/
def k7 : Class := { plain "int" none with kind := .primitive 'I', accessFlags := 0x411 }
/-- [I -/
def k8 : Class := { plain "[I" (some 0) with kind := .array 7 .int, interfaces := #[3, 4], accessFlags := 1041 }

def heap : Heap := #[]
def classes : Array Class := #[k0, k1, k2, k3, k4, k5, k6, k7, k8]
def interned : List (Array UInt16 × Addr) := []
def slotsUsed : Nat := 0
def theMethod : MethodId := ⟨1, 3⟩
def args0 : Array Value := #[.int 5, .int 6, .int 700, .int 8]
def aboutOver (below : List Frame) : State where
  vm := { classes := classes, interned := interned.toArray }
  heap := heap
  slotsUsed := slotsUsed
  threads := #[{ frames := .invoking theMethod args0 :: below }]
def below0 : List Frame := [.native { method := ⟨0, 0⟩, args := #[] }]
def about1 : State := aboutOver below0
def p0 : Program := .bare "" "" ""
def e0 : Env := launch0.env 0 0 0
theorem w_frames : about1.frames = Frame.invoking theMethod args0 :: below0 := rfl
set_option maxRecDepth 65536 in
theorem w_args : argsFit about1.vm theMethod args0 = true := by decide +kernel
set_option maxRecDepth 65536 in
theorem w_heap : heapFits about1 = true := by decide +kernel
set_option maxRecDepth 65536 in
theorem w_runnable : about1.curStatus? = some .runnable := by decide +kernel
set_option maxRecDepth 65536 in
theorem w_alone : about1.alone = true := by decide +kernel
set_option maxRecDepth 65536 in
theorem w_named : about1.methodNamed? x = some theMethod := by decide +kernel
set_option maxRecDepth 65536 in
theorem w_hears : about1.hears theMethod below0 = true := by decide +kernel
set_option maxRecDepth 65536 in
theorem w_ripe : about1.ripe theMethod args0 below0 = true := by decide +kernel
theorem w_running : about1.status = .running := rfl
set_option maxRecDepth 65536 in
theorem w_room : about1.hasRoom e0.platform room_1 = true :=
  launch0.hasRoom_least _ room_1 (by decide +kernel) (by decide +kernel) (by decide +kernel) (by decide +kernel) (by decide +kernel) (by decide +kernel)
theorem allAtoms_all (ts : List Jvm.Cond) (a : Array Jvm.Value) (st : Jvm.State) : (allAtoms ts).before a st = ts.all (fun c => c.before a st) := by
  induction ts with
  | nil => rfl
  | cons c t ih =>
    show (Jvm.Cond.and c (allAtoms t)).before a st = _
    rw [Jvm.Cond.before_and, ih, List.all_cons]
def words1 : List Jvm.Cond := Jvm.Cond.code x code maxLocals ret :: tables_1
/-- a 'code' word, met by the world's own term for the bytes: nothing is compared byte by byte -/
theorem code_word {y : MethodName} {bytes : ByteArray} {mx : Nat} {rt : Option FieldType} {a : Array Value} {s : State} {m : MethodId} {meth : Method} {c : Code} (h1 : s.methodNamed? y = some m) (h2 : s.vm.method? m = some meth) (h3 : meth.code = some c) (h4 : c.code = bytes)
    (h5 : (c.maxLocals == mx && c.exceptionTable.isEmpty && decide (c.maxStack ≤ mostOperands) && decide (meth.sig.returnType = rt) && !meth.locks && decide (parseMethodDescriptor y.desc = some meth.sig)) = true) : (Jvm.Cond.code y bytes mx rt).before a s = true := by
  simp only [Bool.and_eq_true, beq_iff_eq, Bool.not_eq_true', decide_eq_true_eq] at h5
  obtain ⟨⟨⟨⟨⟨g1, g2⟩, g3⟩, g4⟩, g5⟩, g6⟩ := h5
  simp [Cond.before, Cond.holds, Cond.value, h1, h2, h3, h4, g1, g2, g3, g4, g5, g6]
def isCode : Jvm.Cond → Bool
  | .code _ _ _ _ => true
  | _ => false
theorem all_split {L : List Jvm.Cond} {P : Jvm.Cond → Bool} (h1 : L.all (fun c => isCode c || P c) = true) (h2 : ∀ c ∈ L.filter isCode, P c = true) : L.all P = true := by
  refine List.all_eq_true.mpr fun c hc => ?_
  have h := List.all_eq_true.mp h1 c hc
  rcases Bool.eq_false_or_eq_true (isCode c) with hi | hi
  · exact h2 c (List.mem_filter.mpr ⟨hc, hi⟩)
  · simpa [hi] using h
set_option maxRecDepth 65536 in
theorem w_c0 : (Jvm.Cond.code x code maxLocals ret).before args0 about1 = true := code_word (m := ⟨1, 3⟩) (meth := k1m3) (c := k1c3) (by decide +kernel) rfl rfl rfl (by decide +kernel)
set_option maxRecDepth 65536 in
theorem w_c1 : (Jvm.Cond.code ({ cls := "com/example/metadata_for_discovery/metadatafordiscovery/search/IntervalHoldsPinLaw", name := "rank", desc := "(II)J" } : Jvm.MethodName) method_2_code (2 : Nat) (Option.some Jvm.ClassFile.FieldType.long)).before args0 about1 = true := code_word (m := ⟨1, 1⟩) (meth := k1m1) (c := k1c1) (by decide +kernel) rfl rfl rfl (by decide +kernel)
set_option maxRecDepth 65536 in
theorem w_c2 : (Jvm.Cond.code ({ cls := "com/example/metadata_for_discovery/metadatafordiscovery/search/IntervalHoldsPinLaw", name := "num", desc := "(II)D" } : Jvm.MethodName) method_3_code (2 : Nat) (Option.some Jvm.ClassFile.FieldType.double)).before args0 about1 = true := code_word (m := ⟨1, 2⟩) (meth := k1m2) (c := k1c2) (by decide +kernel) rfl rfl rfl (by decide +kernel)
set_option maxRecDepth 65536 in
theorem w_c3 : (Jvm.Cond.code ({ cls := "com/example/metadata_for_discovery/metadatafordiscovery/search/Interval", name := "<init>", desc := "(DZDZ)V" } : Jvm.MethodName) prog_67_method_1_code (7 : Nat) (Option.none : Option Jvm.ClassFile.FieldType)).before args0 about1 = true := code_word (m := ⟨2, 0⟩) (meth := k2m0) (c := k2c0) (by decide +kernel) rfl rfl rfl (by decide +kernel)
set_option maxRecDepth 65536 in
theorem w_c4 : (Jvm.Cond.code ({ cls := "java/lang/Object", name := "<init>", desc := "()V" } : Jvm.MethodName) object_method_1_code (1 : Nat) (Option.none : Option Jvm.ClassFile.FieldType)).before args0 about1 = true := code_word (m := ⟨0, 0⟩) (meth := k0m0) (c := k0c0) (by decide +kernel) rfl rfl rfl (by decide +kernel)
set_option maxRecDepth 65536 in
theorem w_c5 : (Jvm.Cond.code ({ cls := "com/example/metadata_for_discovery/metadatafordiscovery/search/Interval", name := "holds", desc := "(D)Z" } : Jvm.MethodName) prog_67_method_7_code (5 : Nat) (Option.some Jvm.ClassFile.FieldType.boolean)).before args0 about1 = true := code_word (m := ⟨2, 1⟩) (meth := k2m1) (c := k2c1) (by decide +kernel) rfl rfl rfl (by decide +kernel)
def codes1 : List Jvm.Cond := [Jvm.Cond.code x code maxLocals ret, Jvm.Cond.code ({ cls := "com/example/metadata_for_discovery/metadatafordiscovery/search/IntervalHoldsPinLaw", name := "rank", desc := "(II)J" } : Jvm.MethodName) method_2_code (2 : Nat) (Option.some Jvm.ClassFile.FieldType.long), Jvm.Cond.code ({ cls := "com/example/metadata_for_discovery/metadatafordiscovery/search/IntervalHoldsPinLaw", name := "num", desc := "(II)D" } : Jvm.MethodName) method_3_code (2 : Nat) (Option.some Jvm.ClassFile.FieldType.double), Jvm.Cond.code ({ cls := "com/example/metadata_for_discovery/metadatafordiscovery/search/Interval", name := "<init>", desc := "(DZDZ)V" } : Jvm.MethodName) prog_67_method_1_code (7 : Nat) (Option.none : Option Jvm.ClassFile.FieldType), Jvm.Cond.code ({ cls := "java/lang/Object", name := "<init>", desc := "()V" } : Jvm.MethodName) object_method_1_code (1 : Nat) (Option.none : Option Jvm.ClassFile.FieldType), Jvm.Cond.code ({ cls := "com/example/metadata_for_discovery/metadatafordiscovery/search/Interval", name := "holds", desc := "(D)Z" } : Jvm.MethodName) prog_67_method_7_code (5 : Nat) (Option.some Jvm.ClassFile.FieldType.boolean)]
set_option maxRecDepth 65536 in
theorem codes_eq : words1.filter isCode = codes1 := rfl
theorem w_codes : ∀ c ∈ words1.filter isCode, c.before args0 about1 = true := by
  rw [codes_eq]
  intro c hc
  simp only [codes1, List.mem_cons, List.not_mem_nil, or_false] at hc
  rcases hc with rfl | rfl | rfl | rfl | rfl | rfl
  · exact w_c0
  · exact w_c1
  · exact w_c2
  · exact w_c3
  · exact w_c4
  · exact w_c5
set_option maxRecDepth 65536 in
theorem w_t1 : (words1.take 24).all (fun c => isCode c || c.before args0 about1) = true := by decide +kernel
set_option maxRecDepth 65536 in
theorem w_t2 : (words1.drop 24).all (fun c => isCode c || c.before args0 about1) = true := by decide +kernel
theorem w_tables : (allAtoms (Jvm.Cond.code x code maxLocals ret :: tables_1)).before args0 about1 = true := by
  rw [allAtoms_all]
  show words1.all (fun c => c.before args0 about1) = true
  refine all_split ?_ w_codes
  rw [← List.take_append_drop 24 words1, List.all_append, w_t1, w_t2]
  rfl
set_option maxRecDepth 65536 in
theorem w_case : (Jvm.Cond.and given_1 narrow_1).before args0 about1 = true := by decide +kernel
theorem w_applies : (headSpec (Jvm.Cond.code x code maxLocals ret :: tables_1) room_1).applies x e0.platform about1 = true :=
  (Spec.applies_iff w_frames).mpr ⟨w_running, w_runnable, w_alone, w_named, w_hears, w_ripe, w_room, w_tables⟩
theorem atStart : AtStart classFile x code maxLocals ret World_1 tables_1 room_1 Calls_1 rest_1 Pre_1 launch0 p0 e0 about1 theMethod args0 below0 :=
  ⟨lists_1, trivial, launch0.admits_env _ _ _, launch0.least_env, fairChoices_fair.cas, fairChoices_fair.clock, w_frames, w_args, w_heap, w_applies, trivial, trivial, w_case⟩
end start1
theorem witness_1 : WitnessClaimed_1 := ⟨start1.p0, start1.e0, start1.about1, start1.theMethod, start1.args0, start1.below0, start1.atStart⟩
end Jvm.Pilot.@@N@@
