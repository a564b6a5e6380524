import JvmDerived
import JvmDerived.Pilot.@@N@@Statement
import JvmDerived.Pilot.@@N@@Code
set_option linter.unusedVariables false
set_option linter.unusedSimpArgs false
namespace Jvm.Pilot.@@N@@
open Jvm Jvm.ClassFile Sem Op Lib Jvm.Free Jvm.Stand Jvm.LawKit Jvm.RoadKit Bundle Jvm.Pilot.@@N@@.Jvm.D
/-- what a body still owes at the state U: that it comes to a return with Q, within kc cells and ks slots -/
def Ow (p : Program) (e : Env) (below : List Frame) (s : State) (Q : Option Value → Heap → List Loc → Prop) (kc ks : Nat) (U : State) : Prop :=
  ∃ s₂ o, Steps p.tables e below U s₂ ∧ s₂.status = .running ∧ Ended s₂ below o ∧ ∃ v L, o = .returned v ∧ Q v s₂.heap L ∧ FrameEnd s o s₂ L kc ks
def lsr64 (x : Int64) (y : Int32) : Int64 := ((x.toUInt64 >>> (y &&& 0x3f).toInt64.toUInt64).toInt64)
def lsr32 (x y : Int32) : Int32 := ((x.toUInt32 >>> (y &&& 31).toUInt32).toInt32)
section W
variable {p : Program} {l : Launch} {e : Env} {R : Room} {s : State} {m : MethodId} {args : Array Value} {below : List Frame} {meth : Method} {c : Code} {T : State} {locs : List Loc} {cells slots : Nat} {Q : Option Value → Heap → List Loc → Prop} {kc ks : Nat} {pc pc' : Nat} {Ls Ls' : Array Slot} {st : List Value} {Z : State} {a0 : Array Value} {h : Heap}
theorem Ow.go {U U' : State} (k : Steps p.tables e below U U') (o : Ow p e below s Q kc ks U') : Ow p e below s Q kc ks U := by
  obtain ⟨s₂, o', h1, h2⟩ := o
  exact ⟨s₂, o', k.trans h1, h2⟩
theorem Ow.via {U U' : State} (k : ∀ t, Steps p.tables e below U' t → Steps p.tables e below U t) (o : Ow p e below s Q kc ks U') : Ow p e below s Q kc ks U := Ow.go (k _ (Steps.refl _)) o
theorem Ow.enter {n : Nat} (q : entryFrame m args n = mkF m 0 Ls []) (k : Ow p e below s Q kc ks (T.setTop (mkF m 0 Ls []))) :
    ∃ s₂ o, Steps p.tables e below (T.setTop (entryFrame m args n)) s₂ ∧ s₂.status = .running ∧ Ended s₂ below o ∧ ∃ v L, o = .returned v ∧ Q v s₂.heap L ∧ FrameEnd s o s₂ L kc ks := by
  rw [q]; exact k
theorem Ow.join {U : State} (T' : State) (g' : JFrame) (f : Ow p e below s Q kc ks (T'.setTop g') → Ow p e below s Q kc ks U) (k : Ow p e below s Q kc ks (T'.setTop g')) : Ow p e below s Q kc ks U := f k
theorem w_iload (X : Stand p l e R s m args below meth c T locs cells slots) (hx : p.tables.exec = Jvm.exec) {k : Nat} {v : Int32} (hd : decode c.code pc = .ok (.iload k, 2)) (hl : Ls[k]? = some (.val (.int v))) (hp : pc + 2 = pc') (k : Ow p e below s Q kc ks (T.setTop (mkF m pc' Ls (.int v :: st)))) : Ow p e below s Q kc ks (T.setTop (mkF m pc Ls st)) := by
  subst hp; exact Ow.go (XS.iload X.here hx rfl hd hl (Steps.refl _)) k
theorem w_istore (X : Stand p l e R s m args below meth c T locs cells slots) (hx : p.tables.exec = Jvm.exec) {k : Nat} {v : Int32} (hd : decode c.code pc = .ok (.istore k, 2)) (Ls' : Array Slot) (hl : storeLocals Ls k (.int v) = some Ls') (hp : pc + 2 = pc') (k : Ow p e below s Q kc ks (T.setTop (mkF m pc' Ls' st))) : Ow p e below s Q kc ks (T.setTop (mkF m pc Ls (.int v :: st))) := by
  subst hp; exact Ow.go (XS.istore X.here hx rfl hd rfl hl (Steps.refl _)) k
theorem w_lloadN (X : Stand p l e R s m args below meth c T locs cells slots) (hx : p.tables.exec = Jvm.exec) {k : Fin 4} {v : Int64} (hd : decode c.code pc = .ok (.lload_n k, 1)) (hl : Ls[k.val]? = some (.val (.long v))) (hp : pc + 1 = pc') (k : Ow p e below s Q kc ks (T.setTop (mkF m pc' Ls (.long v :: st)))) : Ow p e below s Q kc ks (T.setTop (mkF m pc Ls st)) := by
  subst hp; exact Ow.go (XS.lloadN X.here hx rfl hd hl (Steps.refl _)) k
theorem w_lload (X : Stand p l e R s m args below meth c T locs cells slots) (hx : p.tables.exec = Jvm.exec) {k : Nat} {v : Int64} (hd : decode c.code pc = .ok (.lload k, 2)) (hl : Ls[k]? = some (.val (.long v))) (hp : pc + 2 = pc') (k : Ow p e below s Q kc ks (T.setTop (mkF m pc' Ls (.long v :: st)))) : Ow p e below s Q kc ks (T.setTop (mkF m pc Ls st)) := by
  subst hp; exact Ow.go (XS.lload X.here hx rfl hd hl (Steps.refl _)) k
theorem w_lstoreN (X : Stand p l e R s m args below meth c T locs cells slots) (hx : p.tables.exec = Jvm.exec) {k : Fin 4} {v : Int64} (hd : decode c.code pc = .ok (.lstore_n k, 1)) (Ls' : Array Slot) (hl : storeLocals Ls k.val (.long v) = some Ls') (hp : pc + 1 = pc') (k : Ow p e below s Q kc ks (T.setTop (mkF m pc' Ls' st))) : Ow p e below s Q kc ks (T.setTop (mkF m pc Ls (.long v :: st))) := by
  subst hp; exact Ow.go (XS.lstoreN X.here hx rfl hd rfl hl (Steps.refl _)) k
theorem w_lstore (X : Stand p l e R s m args below meth c T locs cells slots) (hx : p.tables.exec = Jvm.exec) {k : Nat} {v : Int64} (hd : decode c.code pc = .ok (.lstore k, 2)) (Ls' : Array Slot) (hl : storeLocals Ls k (.long v) = some Ls') (hp : pc + 2 = pc') (k : Ow p e below s Q kc ks (T.setTop (mkF m pc' Ls' st))) : Ow p e below s Q kc ks (T.setTop (mkF m pc Ls (.long v :: st))) := by
  subst hp; exact Ow.go (XS.lstore X.here hx rfl hd rfl hl (Steps.refl _)) k
theorem w_aloadN (X : Stand p l e R s m args below meth c T locs cells slots) (hx : p.tables.exec = Jvm.exec) {k : Fin 4} {v : Value} (hd : decode c.code pc = .ok (.aload_n k, 1)) (hl : Ls[k.val]? = some (.val v)) (hv : v.isRef = true) (hp : pc + 1 = pc') (k : Ow p e below s Q kc ks (T.setTop (mkF m pc' Ls (v :: st)))) : Ow p e below s Q kc ks (T.setTop (mkF m pc Ls st)) := by
  subst hp; exact Ow.go (XS.aloadN X.here hx rfl hd hl hv (Steps.refl _)) k
theorem w_astoreN (X : Stand p l e R s m args below meth c T locs cells slots) (hx : p.tables.exec = Jvm.exec) {k : Fin 4} {v : Value} (hd : decode c.code pc = .ok (.astore_n k, 1)) (Ls' : Array Slot) (hl : storeLocals Ls k.val v = some Ls') (hv : v.isRef = true) (hp : pc + 1 = pc') (k : Ow p e below s Q kc ks (T.setTop (mkF m pc' Ls' st))) : Ow p e below s Q kc ks (T.setTop (mkF m pc Ls (v :: st))) := by
  subst hp; exact Ow.go (XS.astoreN X.here hx rfl hd rfl hv hl (Steps.refl _)) k
theorem w_iconst (X : Stand p l e R s m args below meth c T locs cells slots) (hx : p.tables.exec = Jvm.exec) {i : Int} (v : Int32) (hd : decode c.code pc = .ok (.iconst i, 1)) (hv : Int32.ofInt i = v) (hp : pc + 1 = pc') (k : Ow p e below s Q kc ks (T.setTop (mkF m pc' Ls (.int v :: st)))) : Ow p e below s Q kc ks (T.setTop (mkF m pc Ls st)) := by
  subst hp hv; exact Ow.go (XS.iconst X.here hx rfl hd (Steps.refl _)) k
theorem w_bipush (X : Stand p l e R s m args below meth c T locs cells slots) (hx : p.tables.exec = Jvm.exec) {i : Int} (v : Int32) (hd : decode c.code pc = .ok (.bipush i, 2)) (hv : (Int8.ofInt i).toInt32 = v) (hp : pc + 2 = pc') (k : Ow p e below s Q kc ks (T.setTop (mkF m pc' Ls (.int v :: st)))) : Ow p e below s Q kc ks (T.setTop (mkF m pc Ls st)) := by
  subst hp hv; exact Ow.go (XS.bipush X.here hx rfl hd (Steps.refl _)) k
theorem w_ldc2J (X : Stand p l e R s m args below meth c T locs cells slots) (hx : p.tables.exec = Jvm.exec) (hZ : Z.Warmed39 s.vm) {own : String} {index : Nat} {v : Int64} (hown : s.vm.findClass own = some m.cls) (w : (Cond.constantLong own index v).before a0 Z = true) (hd : decode c.code pc = .ok (.ldc2_w index, 3)) (hp : pc + 3 = pc') (k : Ow p e below s Q kc ks (T.setTop (mkF m pc' Ls (.long v :: st)))) : Ow p e below s Q kc ks (T.setTop (mkF m pc Ls st)) := by
  subst hp; exact Ow.via (X.ldc2Long hx hown (mvT hZ w) (g := mkF m pc Ls st) rfl hd) k
theorem w_ladd (X : Stand p l e R s m args below meth c T locs cells slots) (hx : p.tables.exec = Jvm.exec) {x y : Int64} (hd : decode c.code pc = .ok (.ladd, 1))  (hp : pc + 1 = pc') (k : Ow p e below s Q kc ks (T.setTop (mkF m pc' Ls (.long (x + y) :: st)))) : Ow p e below s Q kc ks (T.setTop (mkF m pc Ls (.long y :: .long x :: st))) := by
  subst hp; exact Ow.go (XS.ladd X.here hx rfl hd rfl (Steps.refl _)) k
theorem w_lmul (X : Stand p l e R s m args below meth c T locs cells slots) (hx : p.tables.exec = Jvm.exec) {x y : Int64} (hd : decode c.code pc = .ok (.lmul, 1))  (hp : pc + 1 = pc') (k : Ow p e below s Q kc ks (T.setTop (mkF m pc' Ls (.long (x * y) :: st)))) : Ow p e below s Q kc ks (T.setTop (mkF m pc Ls (.long y :: .long x :: st))) := by
  subst hp; exact Ow.go (XS.lmul X.here hx rfl hd rfl (Steps.refl _)) k
theorem w_lxor (X : Stand p l e R s m args below meth c T locs cells slots) (hx : p.tables.exec = Jvm.exec) {x y : Int64} (hd : decode c.code pc = .ok (.lxor, 1))  (hp : pc + 1 = pc') (k : Ow p e below s Q kc ks (T.setTop (mkF m pc' Ls (.long (x ^^^ y) :: st)))) : Ow p e below s Q kc ks (T.setTop (mkF m pc Ls (.long y :: .long x :: st))) := by
  subst hp; exact Ow.go (XS.lxor X.here hx rfl hd rfl (Steps.refl _)) k
theorem w_lushr (X : Stand p l e R s m args below meth c T locs cells slots) (hx : p.tables.exec = Jvm.exec) {x : Int64} {y : Int32} (hd : decode c.code pc = .ok (.lushr, 1))  (hp : pc + 1 = pc') (k : Ow p e below s Q kc ks (T.setTop (mkF m pc' Ls (.long (lsr64 x y) :: st)))) : Ow p e below s Q kc ks (T.setTop (mkF m pc Ls (.int y :: .long x :: st))) := by
  subst hp; exact Ow.go (XS.lushr X.here hx rfl hd rfl (Steps.refl _)) k
theorem w_dup (X : Stand p l e R s m args below meth c T locs cells slots) (hx : p.tables.exec = Jvm.exec) {x : Value} (hd : decode c.code pc = .ok (.dup, 1)) (hc : x.category = 1) (hp : pc + 1 = pc') (k : Ow p e below s Q kc ks (T.setTop (mkF m pc' Ls (x :: x :: st)))) : Ow p e below s Q kc ks (T.setTop (mkF m pc Ls (x :: st))) := by
  subst hp; exact Ow.go (XS.dup X.here hx rfl hd rfl hc (Steps.refl _)) k
theorem w_goto (X : Stand p l e R s m args below meth c T locs cells slots) (hx : p.tables.exec = Jvm.exec) {o : Int} (hd : decode c.code pc = .ok (.goto o, 3)) (ho : 0 ≤ (pc : Int) + o) (hp : ((pc : Int) + o).toNat = pc') (k : Ow p e below s Q kc ks (T.setTop (mkF m pc' Ls st))) : Ow p e below s Q kc ks (T.setTop (mkF m pc Ls st)) := by
  exact Ow.go (XS.goto X.here hx rfl (pc0 := pc) rfl hd ho hp (Steps.refl _)) k
theorem w_if_eq (X : Stand p l e R s m args below meth c T locs cells slots) (hx : p.tables.exec = Jvm.exec) {x : Int32} {o : Int} {pcT pcF : Nat} (hd : decode c.code pc = .ok (.ifCond .eq o, 3)) (ho : 0 ≤ (pc : Int) + o) (ht : ((pc : Int) + o).toNat = pcT) (hp : pc + 3 = pcF) (k1 : x = (0 : Int32) → Ow p e below s Q kc ks (T.setTop (mkF m pcT Ls st))) (k2 : ¬ (x = (0 : Int32)) → Ow p e below s Q kc ks (T.setTop (mkF m pcF Ls st))) : Ow p e below s Q kc ks (T.setTop (mkF m pc Ls (.int x :: st))) := by
  subst hp
  by_cases q : x = (0 : Int32)
  · exact Ow.go (XS.ifYes X.here hx rfl (pc0 := pc) rfl hd rfl ((if0 _ _).trans (teq q).1) ho ht (Steps.refl _)) (k1 q)
  · exact Ow.go (XS.ifNo X.here hx rfl hd rfl ((if0 _ _).trans (feq q).1) (Steps.refl _)) (k2 q)
theorem w_if_ne (X : Stand p l e R s m args below meth c T locs cells slots) (hx : p.tables.exec = Jvm.exec) {x : Int32} {o : Int} {pcT pcF : Nat} (hd : decode c.code pc = .ok (.ifCond .ne o, 3)) (ho : 0 ≤ (pc : Int) + o) (ht : ((pc : Int) + o).toNat = pcT) (hp : pc + 3 = pcF) (k1 : ¬ (x = (0 : Int32)) → Ow p e below s Q kc ks (T.setTop (mkF m pcT Ls st))) (k2 : x = (0 : Int32) → Ow p e below s Q kc ks (T.setTop (mkF m pcF Ls st))) : Ow p e below s Q kc ks (T.setTop (mkF m pc Ls (.int x :: st))) := by
  subst hp
  by_cases q : x = (0 : Int32)
  · exact Ow.go (XS.ifNo X.here hx rfl hd rfl ((if0 _ _).trans (teq q).2) (Steps.refl _)) (k2 q)
  · exact Ow.go (XS.ifYes X.here hx rfl (pc0 := pc) rfl hd rfl ((if0 _ _).trans (feq q).2) ho ht (Steps.refl _)) (k1 q)
theorem w_lcmp_ne (X : Stand p l e R s m args below meth c T locs cells slots) (hx : p.tables.exec = Jvm.exec) {x y : Int64} {o : Int} {pc1 pcT pcF : Nat} (hd : decode c.code pc = .ok (.lcmp, 1)) (hd1 : decode c.code pc1 = .ok (.ifCond .ne o, 3)) (hp1 : pc + 1 = pc1) (ho : 0 ≤ (pc1 : Int) + o) (ht : ((pc1 : Int) + o).toNat = pcT) (hp : pc1 + 3 = pcF) (k1 : ¬ (x = y) → Ow p e below s Q kc ks (T.setTop (mkF m pcT Ls st))) (k2 : x = y → Ow p e below s Q kc ks (T.setTop (mkF m pcF Ls st))) : Ow p e below s Q kc ks (T.setTop (mkF m pc Ls (.long y :: .long x :: st))) := by
  subst hp1
  refine Ow.go (XS.lcmp X.here hx rfl hd rfl (Steps.refl _)) ?_
  exact w_if_ne X hx (x := lcmpW x y) hd1 ho ht hp (fun q => k1 (fun r => q ((lw_eq x y).mpr r))) (fun q => k2 ((lw_eq x y).mp q))
theorem w_if_ge (X : Stand p l e R s m args below meth c T locs cells slots) (hx : p.tables.exec = Jvm.exec) {x : Int32} {o : Int} {pcT pcF : Nat} (hd : decode c.code pc = .ok (.ifCond .ge o, 3)) (ho : 0 ≤ (pc : Int) + o) (ht : ((pc : Int) + o).toNat = pcT) (hp : pc + 3 = pcF) (k1 : ¬ (x < (0 : Int32)) → Ow p e below s Q kc ks (T.setTop (mkF m pcT Ls st))) (k2 : x < (0 : Int32) → Ow p e below s Q kc ks (T.setTop (mkF m pcF Ls st))) : Ow p e below s Q kc ks (T.setTop (mkF m pc Ls (.int x :: st))) := by
  subst hp
  by_cases q : x < (0 : Int32)
  · exact Ow.go (XS.ifNo X.here hx rfl hd rfl ((if0 _ _).trans (tlt q).2.1) (Steps.refl _)) (k2 q)
  · exact Ow.go (XS.ifYes X.here hx rfl (pc0 := pc) rfl hd rfl ((if0 _ _).trans (flt q).2.1) ho ht (Steps.refl _)) (k1 q)
theorem w_if_gt (X : Stand p l e R s m args below meth c T locs cells slots) (hx : p.tables.exec = Jvm.exec) {x : Int32} {o : Int} {pcT pcF : Nat} (hd : decode c.code pc = .ok (.ifCond .gt o, 3)) (ho : 0 ≤ (pc : Int) + o) (ht : ((pc : Int) + o).toNat = pcT) (hp : pc + 3 = pcF) (k1 : (0 : Int32) < x → Ow p e below s Q kc ks (T.setTop (mkF m pcT Ls st))) (k2 : ¬ ((0 : Int32) < x) → Ow p e below s Q kc ks (T.setTop (mkF m pcF Ls st))) : Ow p e below s Q kc ks (T.setTop (mkF m pc Ls (.int x :: st))) := by
  subst hp
  by_cases q : (0 : Int32) < x
  · exact Ow.go (XS.ifYes X.here hx rfl (pc0 := pc) rfl hd rfl ((if0 _ _).trans (tlt q).2.2.1) ho ht (Steps.refl _)) (k1 q)
  · exact Ow.go (XS.ifNo X.here hx rfl hd rfl ((if0 _ _).trans (flt q).2.2.1) (Steps.refl _)) (k2 q)
theorem w_lreturn (X : Stand p l e R s m args below meth c T locs cells slots) (hx : p.tables.exec = Jvm.exec) {z : Int64} (hret : meth.sig.returnType = some .long)  (hlk : meth.locks = false) (hc : cells ≤ kc) (hs : slots ≤ ks) (hd : decode c.code pc = .ok (.lreturn, 1)) (hq : Q (some (.long z)) T.heap locs) : Ow p e below s Q kc ks (T.setTop (mkF m pc Ls (.long z :: st))) := by
  obtain ⟨fs, hr, hrun, hended, hW, hsame⟩ := X.leave (v := some (.long z)) (fun h => by rw [hret] at h; cases h) hlk
  exact ⟨_, _, retOut X hx (t := .long) hret rfl (Or.inr (Or.inl ⟨rfl, rfl, _, rfl⟩)) hd hr, hrun, hended, _, _, rfl, hq, ⟨_, rfl⟩, hW, hsame.mono hc hs⟩
theorem w_zreturn (X : Stand p l e R s m args below meth c T locs cells slots) (hx : p.tables.exec = Jvm.exec) {z : Int32} (hret : meth.sig.returnType = some .boolean) (hz : z = 0 ∨ z = 1) (hlk : meth.locks = false) (hc : cells ≤ kc) (hs : slots ≤ ks) (hd : decode c.code pc = .ok (.ireturn, 1)) (hq : Q (some (.int z)) T.heap locs) : Ow p e below s Q kc ks (T.setTop (mkF m pc Ls (.int z :: st))) := by
  obtain ⟨fs, hr, hrun, hended, hW, hsame⟩ := X.leave (v := some (.int z)) (fun h => by rw [hret] at h; cases h) hlk
  exact ⟨_, _, retOut X hx (t := .boolean) hret (by rcases hz with rfl | rfl <;> rfl) (Or.inl ⟨rfl, Or.inr (Or.inl rfl), _, rfl⟩) hd hr, hrun, hended, _, _, rfl, hq, ⟨_, rfl⟩, hW, hsame.mono hc hs⟩
theorem w_dreturn (X : Stand p l e R s m args below meth c T locs cells slots) (hx : p.tables.exec = Jvm.exec) {z : UInt64} (hret : meth.sig.returnType = some .double)  (hlk : meth.locks = false) (hc : cells ≤ kc) (hs : slots ≤ ks) (hd : decode c.code pc = .ok (.dreturn, 1)) (hq : Q (some (.double z)) T.heap locs) : Ow p e below s Q kc ks (T.setTop (mkF m pc Ls (.double z :: st))) := by
  obtain ⟨fs, hr, hrun, hended, hW, hsame⟩ := X.leave (v := some (.double z)) (fun h => by rw [hret] at h; cases h) hlk
  exact ⟨_, _, retOut X hx (t := .double) hret rfl (Or.inr (Or.inr (Or.inl ⟨rfl, rfl, _, rfl⟩))) hd hr, hrun, hended, _, _, rfl, hq, ⟨_, rfl⟩, hW, hsame.mono hc hs⟩
theorem w_return (X : Stand p l e R s m args below meth c T locs cells slots) (hx : p.tables.exec = Jvm.exec) (hret : meth.sig.returnType = none) (hlk : meth.locks = false) (hc : cells ≤ kc) (hs : slots ≤ ks) (hd : decode c.code pc = .ok (.return_, 1)) (hq : Q none T.heap locs) : Ow p e below s Q kc ks (T.setTop (mkF m pc Ls [])) := by
  obtain ⟨fs, hr, hrun, hended, hW, hsame⟩ := X.leave (v := none) (fun _ => rfl) hlk
  exact ⟨_, _, X.returnOut hx hret hd hr, hrun, hended, _, _, rfl, hq, ⟨_, rfl⟩, hW, hsame.mono hc hs⟩
theorem w_dload (X : Stand p l e R s m args below meth c T locs cells slots) (hx : p.tables.exec = Jvm.exec) {k : Nat} {v : UInt64} (hd : decode c.code pc = .ok (.dload k, 2)) (hl : Ls[k]? = some (.val (.double v))) (hp : pc + 2 = pc') (k : Ow p e below s Q kc ks (T.setTop (mkF m pc' Ls (.double v :: st)))) : Ow p e below s Q kc ks (T.setTop (mkF m pc Ls st)) := by
  subst hp; exact Ow.go (XS.dload X.here hx rfl hd hl (Steps.refl _)) k
theorem w_dstore (X : Stand p l e R s m args below meth c T locs cells slots) (hx : p.tables.exec = Jvm.exec) {k : Nat} {v : UInt64} (hd : decode c.code pc = .ok (.dstore k, 2)) (Ls' : Array Slot) (hl : storeLocals Ls k (.double v) = some Ls') (hp : pc + 2 = pc') (k : Ow p e below s Q kc ks (T.setTop (mkF m pc' Ls' st))) : Ow p e below s Q kc ks (T.setTop (mkF m pc Ls (.double v :: st))) := by
  subst hp; exact Ow.go (XS.dstore X.here hx rfl hd rfl hl (Steps.refl _)) k
theorem w_l2d (X : Stand p l e R s m args below meth c T locs cells slots) (hx : p.tables.exec = Jvm.exec) {x : Int64} (hd : decode c.code pc = .ok (.l2d, 1))  (hp : pc + 1 = pc') (k : Ow p e below s Q kc ks (T.setTop (mkF m pc' Ls (.double (FP.l2d x) :: st)))) : Ow p e below s Q kc ks (T.setTop (mkF m pc Ls (.long x :: st))) := by
  subst hp; exact Ow.go (XS.l2dS X.here hx rfl hd rfl rfl (Steps.refl _)) k
theorem w_d2l (X : Stand p l e R s m args below meth c T locs cells slots) (hx : p.tables.exec = Jvm.exec) {x : UInt64} (hd : decode c.code pc = .ok (.d2l, 1))  (hp : pc + 1 = pc') (k : Ow p e below s Q kc ks (T.setTop (mkF m pc' Ls (.long (FP.d2l x) :: st)))) : Ow p e below s Q kc ks (T.setTop (mkF m pc Ls (.double x :: st))) := by
  subst hp; exact Ow.go (XS.d2lS X.here hx rfl hd rfl rfl (Steps.refl _)) k
theorem w_dcmp (X : Stand p l e R s m args below meth c T locs cells slots) (hx : p.tables.exec = Jvm.exec) {o : CmpOp} {x y : UInt64} (hd : decode c.code pc = .ok (.dcmp o, 1))  (hp : pc + 1 = pc') (k : Ow p e below s Q kc ks (T.setTop (mkF m pc' Ls (.int (cmpValue (FP.dcmp x y) o) :: st)))) : Ow p e below s Q kc ks (T.setTop (mkF m pc Ls (.double y :: .double x :: st))) := by
  subst hp; exact Ow.go (XS.dcmpS X.here hx rfl hd rfl rfl (Steps.refl _)) k
theorem w_dmul (X : Stand p l e R s m args below meth c T locs cells slots) (hx : p.tables.exec = Jvm.exec) {x y : UInt64} (hd : decode c.code pc = .ok (.dmul, 1)) (hn : Jvm.Free.Fl.NoNaN64 (FP.dmul x y)) (hp : pc + 1 = pc') (k : Ow p e below s Q kc ks (T.setTop (mkF m pc' Ls (.double (FP.dmul x y) :: st)))) : Ow p e below s Q kc ks (T.setTop (mkF m pc Ls (.double y :: .double x :: st))) := by
  subst hp; exact Ow.go (XS.dmulS X.here hx rfl hd rfl hn rfl (Steps.refl _)) k
theorem w_dconst0 (X : Stand p l e R s m args below meth c T locs cells slots) (hx : p.tables.exec = Jvm.exec) {v : UInt64} (hd : decode c.code pc = .ok (.dconst 0, 1)) (hv : FP.dconst0 = v) (hp : pc + 1 = pc') (k : Ow p e below s Q kc ks (T.setTop (mkF m pc' Ls (.double v :: st)))) : Ow p e below s Q kc ks (T.setTop (mkF m pc Ls st)) := by
  subst hp; exact Ow.go (XS.dconst0 X.here hx rfl hd hv (Steps.refl _)) k
theorem w_dconst1 (X : Stand p l e R s m args below meth c T locs cells slots) (hx : p.tables.exec = Jvm.exec) {v : UInt64} (hd : decode c.code pc = .ok (.dconst 1, 1)) (hv : FP.dconst1 = v) (hp : pc + 1 = pc') (k : Ow p e below s Q kc ks (T.setTop (mkF m pc' Ls (.double v :: st)))) : Ow p e below s Q kc ks (T.setTop (mkF m pc Ls st)) := by
  subst hp; exact Ow.go (XS.dconst1 X.here hx rfl hd hv (Steps.refl _)) k
theorem w_ldc2D (X : Stand p l e R s m args below meth c T locs cells slots) (hx : p.tables.exec = Jvm.exec) (hZ : Z.Warmed39 s.vm) {own : String} {index : Nat} {v : UInt64} (hown : s.vm.findClass own = some m.cls) (w : (Cond.constantDouble own index v).before a0 Z = true) (hd : decode c.code pc = .ok (.ldc2_w index, 3)) (hp : pc + 3 = pc') (k : Ow p e below s Q kc ks (T.setTop (mkF m pc' Ls (.double v :: st)))) : Ow p e below s Q kc ks (T.setTop (mkF m pc Ls st)) := by
  subst hp; exact Ow.via (X.ldc2DoubleC hx hown (mvT hZ w) (g := mkF m pc Ls st) rfl hd) k
theorem w_getfield (X : Stand p l e R s m args below meth c T locs cells slots) (hx : p.tables.exec = Jvm.exec) (hZ : Z.Warmed39 s.vm) {own R0 O n d host : String} {index : Nat} (hown : s.vm.findClass own = some m.cls) (w : (Cond.fieldLink own index R0 n d).before a0 Z = true ∨ (Cond.fieldLinkNest own index R0 n d host).before a0 Z = true) (via : Via Z R0 O n d) (eT : T.heap = h) {a : Addr} {v : Value} (F : Fld Z h a O n d v) (hd : decode c.code pc = .ok (.getfield index, 3)) (hp : pc + 3 = pc') (k : ∀ T', Stand p l e R s m args below meth c T' locs cells slots → T'.heap = h → Ow p e below s Q kc ks (T'.setTop (mkF m pc' Ls (v :: st)))) : Ow p e below s Q kc ks (T.setTop (mkF m pc Ls (.ref a :: st))) := by
  subst hp
  obtain ⟨T', X', e', st'⟩ := getF X hx hZ hown w via eT F (g := mkF m pc Ls (.ref a :: st)) rfl rfl hd
  exact Ow.via st' (k T' X' e')
theorem w_putfield (X : Stand p l e R s m args below meth c T locs cells slots) (hx : p.tables.exec = Jvm.exec) (hZ : Z.Warmed39 s.vm) {own R0 O n d host C : String} {index kk : Nat} {ty : FieldType} (hown : s.vm.findClass own = some m.cls) (w : (Cond.fieldLink own index R0 n d).before a0 Z = true ∨ (Cond.fieldLinkNest own index R0 n d host).before a0 Z = true) (via : Via Z R0 O n d) (eT : T.heap = h) {a : Addr} {v old : Value} (F : Fld Z h a O n d old) (E : Exa Z h a C) (L : (Cond.lays C O n d).before a0 Z = true ∨ ((Cond.laysFinal C O n d).before a0 Z = true ∧ own = O ∧ meth.name = "<init>")) (wi : (Cond.instantiable C kk).before a0 Z = true) (hty : parseFieldDescriptor d = some ty) (hn : narrow ty v = v) (hf : fits ty v = true) (hd : decode c.code pc = .ok (.putfield index, 3)) (hp : pc + 3 = pc') (k : ∀ T' h', Stand p l e R s m args below meth c T' (locs ++ [⟨a, RoadKit.slotOf Z O n d⟩]) cells slots → T'.heap = h' → Wr h h' a (RoadKit.slotOf Z O n d) v → Ow p e below s Q kc ks (T'.setTop (mkF m pc' Ls st))) : Ow p e below s Q kc ks (T.setTop (mkF m pc Ls (v :: .ref a :: st))) := by
  subst hp
  obtain ⟨T', h', X', e', W', st'⟩ := putF X hx hZ hown w via eT F E L wi hty hn hf (g := mkF m pc Ls (v :: .ref a :: st)) rfl rfl hd
  exact Ow.via st' (k T' h' X' e' W')
theorem w_new (X : Stand p l e R s m args below meth c T locs cells slots) (hx : p.tables.exec = Jvm.exec) (hZ : Z.Warmed39 s.vm) {own C : String} {index n : Nat} (hown : s.vm.findClass own = some m.cls) (w : (Cond.classLink own index C).before a0 Z = true) (wi : (Cond.instantiable C n).before a0 Z = true) (wz : (Cond.initialized C).before a0 Z = true) (eT : T.heap = h) (hd : decode c.code pc = .ok (.new index, 3)) (hc : cells + 1 ≤ R.cells) (hl : slots + n ≤ R.slots) (hp : pc + 3 = pc') (k : ∀ T' h' a, a = h.size → Stand p l e R s m args below meth c T' locs (cells + 1) (slots + n) → T'.heap = h' → Ext h h' → Exa Z h' a C → (∀ {O nm d : String} {ty : FieldType}, Laid Z a0 C O nm d → parseFieldDescriptor d = some ty → Fld Z h' a O nm d (defaultValue ty)) → Ow p e below s Q kc ks (T'.setTop (mkF m pc' Ls (.ref a :: st)))) : Ow p e below s Q kc ks (T.setTop (mkF m pc Ls st)) := by
  subst hp
  obtain ⟨T', h', X', e', E', A', D', -, st'⟩ := newO X hx hZ hown w wi wz eT (g := mkF m pc Ls st) rfl hd hc hl
  exact Ow.via st' (k T' h' _ rfl X' e' E' A' D')
theorem w_objinit (X : Stand p l e R s m args below meth c T locs cells slots) (hx : p.tables.exec = Jvm.exec) (hZ : Z.Warmed39 s.vm) {own : String} {idx : Nat} (hown : s.vm.findClass own = some m.cls) (w1 : (Cond.methodLink own idx Lib.objectInit).before a0 Z = true) (w2 : (Cond.instanceMethod Lib.objectInit).before a0 Z = true) (w3 : (Cond.code Lib.objectInit ⟨#[0xb1]⟩ 1 none).before a0 Z = true) (eT : T.heap = h) {a : Addr} (hd : decode c.code pc = .ok (.invokespecial idx, 3)) (hsz : Ls.size = c.maxLocals) (hf : 1 ≤ R.frames) {W : Nat} (hW : (st.map fun v => v.category).sum ≤ W) (hl : W + 12 ≤ R.locals) (hp : pc + 3 = pc') (k : ∀ T', Stand p l e R s m args below meth c T' locs cells slots → T'.heap = h → Ow p e below s Q kc ks (T'.setTop (mkF m pc' Ls st))) : Ow p e below s Q kc ks (T.setTop (mkF m pc Ls (.ref a :: st))) := by
  subst hp
  obtain ⟨T', X', e', st'⟩ := initO X hx hZ hown w1 w2 w3 eT (g := mkF m pc Ls (.ref a :: st)) rfl hsz rfl hd hf (W := W) (by show 2 * 0 + _ ≤ _; omega) hl
  exact Ow.via st' (k T' X' e')
theorem w_callN (X : Stand p l e R s m args below meth c T locs cells slots) (hx : p.tables.exec = Jvm.exec) (hZ : Z.Warmed39 s.vm) {own : String} {index : Nat} {y : MethodName} {bytes : ByteArray} {maxL : Nat} (hy1 : y.name = "<init>") (hown : s.vm.findClass own = some m.cls) (w1 : (Cond.methodLink own index y).before a0 Z = true) (w2 : (Cond.instanceMethod y).before a0 Z = true) (w3 : (Cond.initialized y.cls).before a0 Z = true) (w4 : (Cond.code y bytes maxL none).before a0 Z = true) (hy : y.cls ≠ "java/lang/invoke/MethodHandle" ∧ y.cls ≠ "java/lang/invoke/VarHandle") {rm : Room} {as' : Array Value} {Qf : Option Value → Heap → List Loc → Prop} {W : Nat} (hM : MetFree l y (head1 [Cond.code y bytes maxL none] rm) (fun a U => a = as' ∧ Z.Warmed39 U.vm ∧ U.heap = h) (fun _ _ _ _ _ => True) (fun _ U o U' => ∃ v L, o = .returned v ∧ Qf v U'.heap L ∧ FrameEnd U o U' L rm.cells rm.slots)) (eT : T.heap = h) (hf : rm.frames + 1 ≤ R.frames) (hlo : W + (maxL + 11) + rm.locals ≤ R.locals) (hc : cells + rm.cells ≤ R.cells) (hs : slots + rm.slots ≤ R.slots) (hd : decode c.code pc = .ok (.invokespecial index, 3)) (hsz : Ls.size = c.maxLocals) {a : Addr} {argsL rest : List Value} {ps : List FieldType} {r : Option FieldType} (pd : parseMethodDescriptor y.desc = some ⟨ps, r⟩) (hlen : argsL.length = ps.length) (hst : st = argsL.reverse ++ .ref a :: rest) (has : (Value.ref a :: argsL).toArray = as') (hW : (rest.map fun v => v.category).sum ≤ W) (hp : pc + 3 = pc') (k : ∀ v T' L, Stand p l e R s m args below meth c T' (locs ++ L) (cells + rm.cells) (slots + rm.slots) → Qf v T'.heap L → Ow p e below s Q kc ks (T'.setTop (mkF m pc' Ls (v.toList ++ rest)))) : Ow p e below s Q kc ks (T.setTop (mkF m pc Ls st)) := by
  subst hp
  obtain ⟨v, vm₁, ⟨T', L', k', n'⟩, -, X', ⟨L, hq, l1, y1, z1⟩, st'⟩ := X.specialBack hx hy1 hown (mvT hZ w1) (mvT hZ w2) (mvT hZ w4) hy (backOf (W := W) hM hZ w4 w3 hf hlo) (g := mkF m pc Ls st) rfl hsz (Steps.refl _) (a := a) (argsL := argsL) (rest := rest) (lenOf pd hlen) hst (by show 2 * 0 + _ ≤ _; omega) hd (fun _ _ => ⟨has, eT, hc, hs⟩)
  dsimp only [Pt.U, Pt.locs, Pt.cells, Pt.slots] at X' l1 y1 z1 st' hq
  subst l1 y1 z1
  exact Ow.go st' (k v T' L X' hq)
theorem w_callV (X : Stand p l e R s m args below meth c T locs cells slots) (hx : p.tables.exec = Jvm.exec) (hZ : Z.Warmed39 s.vm) {own C : String} {index : Nat} {y z : MethodName} {bytes : ByteArray} {maxL : Nat} {ret : Option FieldType} (hown : s.vm.findClass own = some m.cls) (w1 : (Cond.methodLink own index y).before a0 Z = true) (w2 : (Cond.declares y).before a0 Z = true) (nf : NotFace s y) (w5 : (Cond.selects C y z).before a0 Z = true) (w6 : (Cond.instanceMethod z).before a0 Z = true) (w3 : (Cond.initialized z.cls).before a0 Z = true) (w4 : (Cond.code z bytes maxL ret).before a0 Z = true) (hy : y.cls ≠ "java/lang/invoke/MethodHandle" ∧ y.cls ≠ "java/lang/invoke/VarHandle") {rm : Room} {as' : Array Value} {Qf : Option Value → Heap → List Loc → Prop} {W : Nat} (hM : MetFree l z (head1 [Cond.code z bytes maxL ret] rm) (fun a U => a = as' ∧ Z.Warmed39 U.vm ∧ U.heap = h) (fun _ _ _ _ _ => True) (fun _ U o U' => ∃ v L, o = .returned v ∧ Qf v U'.heap L ∧ FrameEnd U o U' L rm.cells rm.slots)) (eT : T.heap = h) (hf : rm.frames + 1 ≤ R.frames) (hlo : W + (maxL + 11) + rm.locals ≤ R.locals) (hc : cells + rm.cells ≤ R.cells) (hs : slots + rm.slots ≤ R.slots) {a : Addr} (E : Exa Z h a C) (hd : decode c.code pc = .ok (.invokevirtual index, 3)) (hsz : Ls.size = c.maxLocals) {argsL rest : List Value} {ps : List FieldType} {r : Option FieldType} (pd : parseMethodDescriptor y.desc = some ⟨ps, r⟩) (hlen : argsL.length = ps.length) (hst : st = argsL.reverse ++ .ref a :: rest) (has : (Value.ref a :: argsL).toArray = as') (hW : (rest.map fun v => v.category).sum ≤ W) (hp : pc + 3 = pc') (k : ∀ v T' L, Stand p l e R s m args below meth c T' (locs ++ L) (cells + rm.cells) (slots + rm.slots) → Qf v T'.heap L → Ow p e below s Q kc ks (T'.setTop (mkF m pc' Ls (v.toList ++ rest)))) : Ow p e below s Q kc ks (T.setTop (mkF m pc Ls st)) := by
  subst hp
  obtain ⟨cB, kB, qa, qb, qc⟩ := isOf hZ eT E
  obtain ⟨v, vm₁, ⟨T', L', k', n'⟩, -, X', ⟨L, hq, l1, y1, z1⟩, st'⟩ := X.virtualBack hx (y := y) (z := z) hown (mvT hZ w1) (mvT hZ w2) nf (mvT hZ w5) (mvT hZ w6) hy (backOf (W := W) hM hZ w4 w3 hf hlo) qa qc (g := mkF m pc Ls st) rfl hsz (Steps.refl _) (argsL := argsL) (rest := rest) (lenOf pd hlen) hst (by show 2 * 0 + _ ≤ _; omega) hd (fun _ _ => ⟨has, eT, hc, hs⟩)
  dsimp only [Pt.U, Pt.locs, Pt.cells, Pt.slots] at X' l1 y1 z1 st' hq
  subst l1 y1 z1
  exact Ow.go st' (k v T' L X' hq)
end W
theorem d1_0 : decode prog_34_method_1_code 0 = .ok (.aload_n 0, 1) := by decide +kernel
theorem d1_1 : decode prog_34_method_1_code 1 = .ok (.invokespecial 1, 3) := by decide +kernel
theorem d1_4 : decode prog_34_method_1_code 4 = .ok (.aload_n 0, 1) := by decide +kernel
theorem d1_5 : decode prog_34_method_1_code 5 = .ok (.lload_n 1, 1) := by decide +kernel
theorem d1_6 : decode prog_34_method_1_code 6 = .ok (.putfield 7, 3) := by decide +kernel
theorem d1_9 : decode prog_34_method_1_code 9 = .ok (.return_, 1) := by decide +kernel
theorem ef_1 (m : MethodId) (a0 : Addr) (q1 : Int64) : entryFrame m #[(.ref a0), (.long q1)] 3 = mkF m 0 #[.val (.ref a0), .val (.long q1), .second] [] := by first | (simp [entryFrame, mkF, argsToLocals, Value.category]; done) | rfl
theorem pn_0 : plainName "com/example/vagabond/vagabond/SplitMix64" = true := by first | (simp [plainName, overriddenIn]; done) | decide +kernel
theorem d4_0 : decode prog_34_method_2_code 0 = .ok (.aload_n 0, 1) := by decide +kernel
theorem d4_1 : decode prog_34_method_2_code 1 = .ok (.dup, 1) := by decide +kernel
theorem d4_2 : decode prog_34_method_2_code 2 = .ok (.getfield 7, 3) := by decide +kernel
theorem d4_5 : decode prog_34_method_2_code 5 = .ok (.ldc2_w 13, 3) := by decide +kernel
theorem d4_8 : decode prog_34_method_2_code 8 = .ok (.ladd, 1) := by decide +kernel
theorem d4_9 : decode prog_34_method_2_code 9 = .ok (.putfield 7, 3) := by decide +kernel
theorem d4_12 : decode prog_34_method_2_code 12 = .ok (.aload_n 0, 1) := by decide +kernel
theorem d4_13 : decode prog_34_method_2_code 13 = .ok (.getfield 7, 3) := by decide +kernel
theorem d4_16 : decode prog_34_method_2_code 16 = .ok (.lstore_n 1, 1) := by decide +kernel
theorem d4_17 : decode prog_34_method_2_code 17 = .ok (.lload_n 1, 1) := by decide +kernel
theorem d4_18 : decode prog_34_method_2_code 18 = .ok (.lload_n 1, 1) := by decide +kernel
theorem d4_19 : decode prog_34_method_2_code 19 = .ok (.bipush 30, 2) := by decide +kernel
theorem d4_21 : decode prog_34_method_2_code 21 = .ok (.lushr, 1) := by decide +kernel
theorem d4_22 : decode prog_34_method_2_code 22 = .ok (.lxor, 1) := by decide +kernel
theorem d4_23 : decode prog_34_method_2_code 23 = .ok (.ldc2_w 15, 3) := by decide +kernel
theorem d4_26 : decode prog_34_method_2_code 26 = .ok (.lmul, 1) := by decide +kernel
theorem d4_27 : decode prog_34_method_2_code 27 = .ok (.lstore_n 1, 1) := by decide +kernel
theorem d4_28 : decode prog_34_method_2_code 28 = .ok (.lload_n 1, 1) := by decide +kernel
theorem d4_29 : decode prog_34_method_2_code 29 = .ok (.lload_n 1, 1) := by decide +kernel
theorem d4_30 : decode prog_34_method_2_code 30 = .ok (.bipush 27, 2) := by decide +kernel
theorem d4_32 : decode prog_34_method_2_code 32 = .ok (.lushr, 1) := by decide +kernel
theorem d4_33 : decode prog_34_method_2_code 33 = .ok (.lxor, 1) := by decide +kernel
theorem d4_34 : decode prog_34_method_2_code 34 = .ok (.ldc2_w 17, 3) := by decide +kernel
theorem d4_37 : decode prog_34_method_2_code 37 = .ok (.lmul, 1) := by decide +kernel
theorem d4_38 : decode prog_34_method_2_code 38 = .ok (.lstore_n 1, 1) := by decide +kernel
theorem d4_39 : decode prog_34_method_2_code 39 = .ok (.lload_n 1, 1) := by decide +kernel
theorem d4_40 : decode prog_34_method_2_code 40 = .ok (.lload_n 1, 1) := by decide +kernel
theorem d4_41 : decode prog_34_method_2_code 41 = .ok (.bipush 31, 2) := by decide +kernel
theorem d4_43 : decode prog_34_method_2_code 43 = .ok (.lushr, 1) := by decide +kernel
theorem d4_44 : decode prog_34_method_2_code 44 = .ok (.lxor, 1) := by decide +kernel
theorem d4_45 : decode prog_34_method_2_code 45 = .ok (.lreturn, 1) := by decide +kernel
theorem ef_4 (m : MethodId) (a0 : Addr) : entryFrame m #[(.ref a0)] 3 = mkF m 0 #[.val (.ref a0), .unset, .unset] [] := by first | (simp [entryFrame, mkF, argsToLocals, Value.category]; done) | rfl
theorem d3_0 : decode prog_34_method_3_code 0 = .ok (.aload_n 0, 1) := by decide +kernel
theorem d3_1 : decode prog_34_method_3_code 1 = .ok (.invokevirtual 19, 3) := by decide +kernel
theorem pd_0 : parseMethodDescriptor "()J" = some ⟨[], some .long⟩ := by decide +kernel
theorem d3_4 : decode prog_34_method_3_code 4 = .ok (.bipush 11, 2) := by decide +kernel
theorem d3_6 : decode prog_34_method_3_code 6 = .ok (.lushr, 1) := by decide +kernel
theorem d3_7 : decode prog_34_method_3_code 7 = .ok (.l2d, 1) := by decide +kernel
theorem d3_8 : decode prog_34_method_3_code 8 = .ok (.ldc2_w 23, 3) := by decide +kernel
theorem d3_11 : decode prog_34_method_3_code 11 = .ok (.dmul, 1) := by decide +kernel
theorem d3_12 : decode prog_34_method_3_code 12 = .ok (.dreturn, 1) := by decide +kernel
theorem ef_3 (m : MethodId) (a0 : Addr) : entryFrame m #[(.ref a0)] 1 = mkF m 0 #[.val (.ref a0)] [] := by first | (simp [entryFrame, mkF, argsToLocals, Value.category]; done) | rfl
def Q1 (Z : State) (a0 : Addr) (q1 : Int64) (h0 : Heap) (n0 : Nat) (v : Option Value) (h : Heap) (L : List Loc) : Prop := v = none ∧ Fr n0 L ∧ Keep h0 h [a0] ∧ Fld Z h a0 "com/example/vagabond/vagabond/SplitMix64" "state" "J" (.long q1)
set_option maxRecDepth 65536 in
set_option maxHeartbeats 40000000 in
theorem rm1 (l : Launch) (Z : State) (aw : Array Value) (hw : ∀ d ∈ tables_1, d.before aw Z = true) (ws : List Jvm.Cond) (a0 : Addr) (q1 : Int64) (h0 : Heap) (n0 : Nat) (F : Fld Z h0 a0 "com/example/vagabond/vagabond/SplitMix64" "state" "J" (.long (0 : Int64))) (E : Exa Z h0 a0 "com/example/vagabond/vagabond/SplitMix64") (g : n0 ≤ a0) :
    MetFree l (⟨"com/example/vagabond/vagabond/SplitMix64", "<init>", "(J)V"⟩ : MethodName) (head1 (Jvm.Cond.code (⟨"com/example/vagabond/vagabond/SplitMix64", "<init>", "(J)V"⟩ : MethodName) prog_34_method_1_code 3 none :: ws) ({ frames := 1, cells := 0, slots := 0, locals := 12 } : Room)) (fun a U => a = #[(.ref a0), (.long q1)] ∧ Z.Warmed39 U.vm ∧ U.heap = h0) (fun _ _ _ _ _ => True) (fun _ U o U' => ∃ v L, o = .returned v ∧ Q1 Z a0 q1 h0 n0 v U'.heap L ∧ FrameEnd U o U' L ({ frames := 1, cells := 0, slots := 0, locals := 12 } : Room).cells ({ frames := 1, cells := 0, slots := 0, locals := 12 } : Room).slots) := by
  refine MetFree.of_bodySF (plainFor_of_name pn_0) hisR ?_
  intro p e s m args below meth c s₁ Bd hml0 hP _hKK
  obtain ⟨rfl, hZ, hh⟩ := hP
  have hx := Bd.exec
  have hby := Bd.bytes
  have hml : c.maxLocals = 3 := hml0
  have hown : s.vm.findClass "com/example/vagabond/vagabond/SplitMix64" = some m.cls := findClass_of_methodNamed Bd.named
  have hnm := (name_of_methodNamed Bd.named Bd.method).1
  have X0 : Stand p l e ({ frames := 1, cells := 0, slots := 0, locals := 12 } : Room) s m #[(.ref a0), (.long q1)] below meth c s₁ [] 0 0 := Stand.of_body Bd
  have e0 : s₁.heap = h0 := by rw [← hh, Bd.state]; rfl
  refine Ow.enter (Q := Q1 Z a0 q1 h0 n0) (ef_1 m a0 q1) ?_
  show Ow p e below s _ _ _ (s₁.setTop (mkF m 0 #[.val (.ref a0), .val (.long q1), .second] []))
  refine w_aloadN X0 hx (Jvm.hb hby d1_0) rfl rfl (pc' := 1) rfl ?_
  refine w_objinit X0 hx hZ hown (hw _ (List.mem_of_getElem? (i := 6) rfl)) (hw _ (List.mem_of_getElem? (i := 7) rfl)) (hw _ (List.mem_of_getElem? (i := 8) rfl)) e0 (Jvm.hb hby d1_1) (by rw [hml]; rfl) (by decide) (W := 0) (Nat.le_of_eq rfl) (by decide) (pc' := 4) rfl ?_
  intro T21 X21 e21
  refine w_aloadN X21 hx (Jvm.hb hby d1_4) rfl rfl (pc' := 5) rfl ?_
  refine w_lloadN X21 hx (Jvm.hb hby d1_5) rfl (pc' := 6) rfl ?_
  refine w_putfield X21 hx hZ hown (host := "") (Or.inl (hw _ (List.mem_of_getElem? (i := 9) rfl))) Via.refl e21 F E (Or.inl (hw _ (List.mem_of_getElem? (i := 10) rfl))) (hw _ (List.mem_of_getElem? (i := 1) rfl)) (ty := .long) (by decide) rfl rfl (Jvm.hb hby d1_6) (pc' := 9) rfl ?_
  intro T22 h22 X22 e22 W22
  have N1 := Fr.snoc X22 (Fr.nil n0) g
  exact w_return X22 hx Bd.returns (BodyLoose.notSynchronized Bd) (Nat.le_of_ble_eq_true rfl) (Nat.le_of_ble_eq_true rfl) (Jvm.hb hby d1_9) ⟨rfl, N1, by rw [e22]; exact Keep.of_wr W22, by rw [e22]; exact F.same W22⟩
def mix_t0 (y : Int64) : Int64 := ((y ^^^ (lsr64 y (30 : Int32))) * (-4658895280553007687 : Int64))
def mix_t1 (y : Int64) : Int64 := (((mix_t0 y) ^^^ (lsr64 (mix_t0 y) (27 : Int32))) * (-7723592293110705685 : Int64))
def mix (y : Int64) : Int64 := ((mix_t1 y) ^^^ (lsr64 (mix_t1 y) (31 : Int32)))
def Q4 (Z : State) (a0 : Addr) (x0 : Int64) (h0 : Heap) (n0 : Nat) (v : Option Value) (h : Heap) (L : List Loc) : Prop := v = some (.long (mix (x0 + (-7046029254386353131 : Int64)))) ∧ Fr n0 L ∧ Keep h0 h [a0] ∧ Fld Z h a0 "com/example/vagabond/vagabond/SplitMix64" "state" "J" (.long (x0 + (-7046029254386353131 : Int64)))
set_option maxRecDepth 65536 in
set_option maxHeartbeats 40000000 in
theorem rm4 (l : Launch) (Z : State) (aw : Array Value) (hw : ∀ d ∈ tables_1, d.before aw Z = true) (ws : List Jvm.Cond) (a0 : Addr) (x0 : Int64) (h0 : Heap) (n0 : Nat) (F : Fld Z h0 a0 "com/example/vagabond/vagabond/SplitMix64" "state" "J" (.long x0)) (E : Exa Z h0 a0 "com/example/vagabond/vagabond/SplitMix64") (g : n0 ≤ a0) :
    MetFree l (⟨"com/example/vagabond/vagabond/SplitMix64", "nextLong", "()J"⟩ : MethodName) (head1 (Jvm.Cond.code (⟨"com/example/vagabond/vagabond/SplitMix64", "nextLong", "()J"⟩ : MethodName) prog_34_method_2_code 3 (some .long) :: ws) ({ frames := 0, cells := 0, slots := 0, locals := 0 } : Room)) (fun a U => a = #[(.ref a0)] ∧ Z.Warmed39 U.vm ∧ U.heap = h0) (fun _ _ _ _ _ => True) (fun _ U o U' => ∃ v L, o = .returned v ∧ Q4 Z a0 x0 h0 n0 v U'.heap L ∧ FrameEnd U o U' L ({ frames := 0, cells := 0, slots := 0, locals := 0 } : Room).cells ({ frames := 0, cells := 0, slots := 0, locals := 0 } : Room).slots) := by
  refine MetFree.of_bodySF (plainFor_of_name pn_0) hisR ?_
  intro p e s m args below meth c s₁ Bd hml0 hP _hKK
  obtain ⟨rfl, hZ, hh⟩ := hP
  have hx := Bd.exec
  have hby := Bd.bytes
  have hml : c.maxLocals = 3 := hml0
  have hown : s.vm.findClass "com/example/vagabond/vagabond/SplitMix64" = some m.cls := findClass_of_methodNamed Bd.named
  have hnm := (name_of_methodNamed Bd.named Bd.method).1
  have X0 : Stand p l e ({ frames := 0, cells := 0, slots := 0, locals := 0 } : Room) s m #[(.ref a0)] below meth c s₁ [] 0 0 := Stand.of_body Bd
  have e0 : s₁.heap = h0 := by rw [← hh, Bd.state]; rfl
  refine Ow.enter (Q := Q4 Z a0 x0 h0 n0) (ef_4 m a0) ?_
  show Ow p e below s _ _ _ (s₁.setTop (mkF m 0 #[.val (.ref a0), .unset, .unset] []))
  refine w_aloadN X0 hx (Jvm.hb hby d4_0) rfl rfl (pc' := 1) rfl ?_
  refine w_dup X0 hx (Jvm.hb hby d4_1) rfl (pc' := 2) rfl ?_
  refine w_getfield X0 hx hZ hown (host := "") (Or.inl (hw _ (List.mem_of_getElem? (i := 9) rfl))) Via.refl e0 F (Jvm.hb hby d4_2) (pc' := 5) rfl ?_
  intro T23 X23 e23
  refine w_ldc2J X23 hx hZ hown (hw _ (List.mem_of_getElem? (i := 21) rfl)) (Jvm.hb hby d4_5) (pc' := 8) rfl ?_
  refine w_ladd X23 hx (Jvm.hb hby d4_8) (pc' := 9) rfl ?_
  refine w_putfield X23 hx hZ hown (host := "") (Or.inl (hw _ (List.mem_of_getElem? (i := 9) rfl))) Via.refl e23 F E (Or.inl (hw _ (List.mem_of_getElem? (i := 10) rfl))) (hw _ (List.mem_of_getElem? (i := 1) rfl)) (ty := .long) (by decide) rfl rfl (Jvm.hb hby d4_9) (pc' := 12) rfl ?_
  intro T24 h24 X24 e24 W24
  have F1 := F.same W24
  refine w_aloadN X24 hx (Jvm.hb hby d4_12) rfl rfl (pc' := 13) rfl ?_
  refine w_getfield X24 hx hZ hown (host := "") (Or.inl (hw _ (List.mem_of_getElem? (i := 9) rfl))) Via.refl e24 F1 (Jvm.hb hby d4_13) (pc' := 16) rfl ?_
  intro T25 X25 e25
  refine w_lstoreN X25 hx (Jvm.hb hby d4_16) #[.val (.ref a0), .val (.long (x0 + (-7046029254386353131 : Int64))), .second] rfl  (pc' := 17) rfl ?_
  refine w_lloadN X25 hx (Jvm.hb hby d4_17) rfl (pc' := 18) rfl ?_
  refine w_lloadN X25 hx (Jvm.hb hby d4_18) rfl (pc' := 19) rfl ?_
  refine w_bipush X25 hx (30 : Int32) (Jvm.hb hby d4_19) (by decide) (pc' := 21) rfl ?_
  refine w_lushr X25 hx (Jvm.hb hby d4_21) (pc' := 22) rfl ?_
  refine w_lxor X25 hx (Jvm.hb hby d4_22) (pc' := 23) rfl ?_
  refine w_ldc2J X25 hx hZ hown (hw _ (List.mem_of_getElem? (i := 22) rfl)) (Jvm.hb hby d4_23) (pc' := 26) rfl ?_
  refine w_lmul X25 hx (Jvm.hb hby d4_26) (pc' := 27) rfl ?_
  refine w_lstoreN X25 hx (Jvm.hb hby d4_27) #[.val (.ref a0), .val (.long (mix_t0 (x0 + (-7046029254386353131 : Int64)))), .second] rfl  (pc' := 28) rfl ?_
  refine w_lloadN X25 hx (Jvm.hb hby d4_28) rfl (pc' := 29) rfl ?_
  refine w_lloadN X25 hx (Jvm.hb hby d4_29) rfl (pc' := 30) rfl ?_
  refine w_bipush X25 hx (27 : Int32) (Jvm.hb hby d4_30) (by decide) (pc' := 32) rfl ?_
  refine w_lushr X25 hx (Jvm.hb hby d4_32) (pc' := 33) rfl ?_
  refine w_lxor X25 hx (Jvm.hb hby d4_33) (pc' := 34) rfl ?_
  refine w_ldc2J X25 hx hZ hown (hw _ (List.mem_of_getElem? (i := 23) rfl)) (Jvm.hb hby d4_34) (pc' := 37) rfl ?_
  refine w_lmul X25 hx (Jvm.hb hby d4_37) (pc' := 38) rfl ?_
  refine w_lstoreN X25 hx (Jvm.hb hby d4_38) #[.val (.ref a0), .val (.long (mix_t1 (x0 + (-7046029254386353131 : Int64)))), .second] rfl  (pc' := 39) rfl ?_
  refine w_lloadN X25 hx (Jvm.hb hby d4_39) rfl (pc' := 40) rfl ?_
  refine w_lloadN X25 hx (Jvm.hb hby d4_40) rfl (pc' := 41) rfl ?_
  refine w_bipush X25 hx (31 : Int32) (Jvm.hb hby d4_41) (by decide) (pc' := 43) rfl ?_
  refine w_lushr X25 hx (Jvm.hb hby d4_43) (pc' := 44) rfl ?_
  refine w_lxor X25 hx (Jvm.hb hby d4_44) (pc' := 45) rfl ?_
  have N1 := Fr.snoc X24 (Fr.nil n0) g
  exact w_lreturn X25 hx Bd.returns (BodyLoose.notSynchronized Bd) (Nat.le_of_ble_eq_true rfl) (Nat.le_of_ble_eq_true rfl) (Jvm.hb hby d4_45) ⟨rfl, N1, by rw [e25]; exact Keep.of_wr W24, by rw [e25]; exact F1⟩
def dbl (y : Int64) : UInt64 := FP.dmul (FP.l2d (lsr64 (mix y) (11 : Int32))) (4368491638549381120 : UInt64)
def bit (y : Int64) : Int64 := lsr64 (mix y) (11 : Int32)
theorem own_sh (x : Int64) (k : Int32) (n : Nat) (hk : ((k &&& 0x3f).toInt64.toUInt64.toBitVec % 64#64).toNat = n) : (lsr64 x k).toBitVec = x.toBitVec >>> n := by
  subst hk; rfl
theorem own_bit (y : Int64) : ∃ N : Nat, N < 2 ^ 53 ∧ (bit y).toInt = (N : Int) := by
  refine ⟨(mix y).toBitVec.toNat / 2 ^ 11, by have := (mix y).toBitVec.isLt; omega, ?_⟩
  show (lsr64 (mix y) 11).toBitVec.toInt = _
  rw [own_sh _ 11 11 (by decide), BitVec.toInt_eq_toNat_cond, BitVec.toNat_ushiftRight, Nat.shiftRight_eq_div_pow]
  have := (mix y).toBitVec.isLt
  rw [if_pos (by omega)]
theorem own_scale {c N a b x y : Nat} (h : c * 2 ^ a = N * 2 ^ b) (hxy : a + y = b + x) : c * 2 ^ x = N * 2 ^ y := by
  apply Nat.eq_of_mul_eq_mul_right (Nat.two_pow_pos a)
  rw [Nat.mul_right_comm, h, Nat.mul_right_comm N, Nat.mul_assoc, Nat.mul_assoc, ← Nat.pow_add, ← Nat.pow_add, Nat.add_comm y a, hxy, Nat.add_comm b x, Nat.add_comm x b]
open Jvm.FP.Core in
theorem own_qmin : b64.qmin = -1074 := by decide
open Jvm.FP.Core in
theorem own_round {c N : Nat} {q k t : Int} (hq : -1074 ≤ q) (hk : -1074 ≤ k) (h : inUnits c q b64.qmin = inUnits N k b64.qmin) : Jvm.FP.Core.round b64 (.fin false (c * 2 ^ 52) (q + t)) = Jvm.FP.Core.round b64 (.fin false N (k + 52 + t)) := by
  rw [own_qmin] at h
  unfold inUnits at h
  show roundRatio b64 false (c * 2 ^ 52) 1 (q + t) = roundRatio b64 false N 1 (k + 52 + t)
  refine roundRatio_congr (by decide) (by decide) ?_
  rw [Nat.mul_one, Nat.mul_one, Nat.mul_assoc, ← Nat.pow_add]
  exact own_scale h (by omega)
open Jvm.FP.Core in
theorem own_val (y : Int64) : ∃ (N c q : _) (c1 : Nat) (q1 : Int), N < 2 ^ 53 ∧ val64 (FP.l2d (bit y)) = .fin false c q ∧ val64 (dbl y) = .fin false c1 q1 ∧ -1074 ≤ q1 ∧ inUnits c1 q1 b64.qmin = inUnits N (-53) b64.qmin ∧ FP.dmul (dbl y) 4845873199050653696 = FP.l2d (bit y) := by
  obtain ⟨N, hN, hb⟩ := own_bit y
  have hv : val64 (FP.l2d (bit y)) = Jvm.FP.Core.round b64 (.fin false N 0) := by
    rw [show FP.l2d (bit y) = Jvm.FP.Core.l2d (bit y) from rfl, val64_l2d, hb]
    show Jvm.FP.Core.round b64 (.fin (decide ((N : Int) < 0)) (N : Int).natAbs 0) = _
    rw [decide_eq_false (by omega), Int.natAbs_natCast]
  obtain ⟨c, q, h1, h2⟩ := round_exact good_b64 false (c := N) (q := 0) hN (by rw [own_qmin]; decide) (by decide)
  obtain ⟨c1, q1, k1, k2⟩ := round_exact good_b64 false (c := N) (q := -53) hN (by rw [own_qmin]; decide) (by decide)
  have hq : -1074 ≤ q := by
    have := val64_fits (FP.l2d (bit y)); rw [hv, h1] at this; have h3 := this.2.1; rw [own_qmin] at h3; exact h3
  have hD : val64 (dbl y) = .fin false c1 q1 := by
    rw [← k1]
    show val64 (Jvm.FP.Core.dmul (FP.l2d (bit y)) 4368491638549381120) = _
    rw [val64_dmul, hv, h1, show val64 4368491638549381120 = .fin false (2 ^ 52) (-105) from by decide +kernel]
    have h9 := own_round (c := c) (N := N) (q := q) (k := 0) (t := -105) hq (by decide) h2
    have h8 : (0 : Int) + 52 + -105 = -53 := by decide
    rw [h8] at h9
    exact h9
  have hq1 : -1074 ≤ q1 := by
    have := val64_fits (dbl y); rw [hD] at this; have h3 := this.2.1; rw [own_qmin] at h3; exact h3
  refine ⟨N, c, q, c1, q1, hN, hv.trans h1, hD, hq1, k2, ?_⟩
  refine (val64_inj (by rw [hv, h1]; intro z; cases z) ?_).symm
  show _ = val64 (Jvm.FP.Core.dmul (dbl y) 4845873199050653696)
  rw [val64_dmul, hD, show val64 4845873199050653696 = .fin false (2 ^ 52) 1 from by decide +kernel, hv]
  have h9 := own_round (c := c1) (N := N) (q := q1) (k := -53) (t := 1) hq1 (by decide) k2
  have h8 : (-53 : Int) + 52 + 1 = 0 := by decide
  rw [h8] at h9
  exact h9.symm
theorem own_back (y : Int64) : (FP.dmul (dbl y) (4845873199050653696 : UInt64)) = FP.l2d (bit y) := by
  obtain ⟨N, c, q, c1, q1, -, -, -, -, -, h⟩ := own_val y; exact h
theorem own_nn2 (y : Int64) : Jvm.Free.Fl.NoNaN64 (FP.dmul (dbl y) (4845873199050653696 : UInt64)) := by rw [own_back]; exact nn_w rfl
open Jvm.FP.Core in
theorem own_nn1 (y : Int64) : Jvm.Free.Fl.NoNaN64 (FP.dmul (FP.l2d (lsr64 (mix y) (11 : Int32))) (4368491638549381120 : UInt64)) := by
  obtain ⟨N, c, q, c1, q1, -, -, h, -, -, -⟩ := own_val y
  exact Jvm.Free.Fl.Fin64.noNaN (Jvm.Free.Fl.fin64_core.mpr ⟨false, c1, q1, h⟩)
open Jvm.FP.Core in
theorem own_ge0 (y : Int64) : ¬ (0 : Int32) < (cmpValue (FP.dcmp (0 : UInt64) (dbl y)) .g) := by
  obtain ⟨N, c, q, c1, q1, -, -, h, -, -, -⟩ := own_val y
  have e : FP.dcmp (0 : UInt64) (dbl y) = order (val64 dconst0) (val64 (dbl y)) := rfl
  rw [e, h, val64_dconst0]
  show ¬ (0 : Int32) < cmpValue (some (compare (signed false (inUnits 0 b64.qmin (min b64.qmin q1))) (signed false (inUnits c1 q1 (min b64.qmin q1))))) .g
  have z : signed false (inUnits 0 b64.qmin (min b64.qmin q1)) = 0 := by unfold signed inUnits; simp
  rw [z]
  have p : (0 : Int) ≤ signed false (inUnits c1 q1 (min b64.qmin q1)) := by unfold signed; simp
  generalize signed false (inUnits c1 q1 (min b64.qmin q1)) = w at p
  cases hc : compare (0 : Int) w with
  | lt => decide
  | eq => decide
  | gt => exact absurd (Int.compare_eq_gt.mp hc) (by omega)
theorem own_pw {c N a b m : Nat} (h : c * 2 ^ (a + m) = N * 2 ^ b) (hN : N < 2 ^ 53) {k : Nat} (hk : 53 + b = 52 + k + m) : c * 2 ^ a < 2 ^ 52 * 2 ^ k := by
  apply Nat.lt_of_mul_lt_mul_right (a := 2 ^ m)
  rw [Nat.mul_assoc, ← Nat.pow_add, h, ← Nat.pow_add, ← Nat.pow_add, ← hk, Nat.pow_add]
  exact Nat.mul_lt_mul_of_pos_right hN (Nat.two_pow_pos b)
open Jvm.FP.Core in
theorem own_lt1 (y : Int64) : (cmpValue (FP.dcmp (dbl y) (4607182418800017408 : UInt64)) .g) < (0 : Int32) := by
  obtain ⟨N, c, q, c1, q1, hN, -, h, hq1, hu, -⟩ := own_val y
  have e : FP.dcmp (dbl y) (4607182418800017408 : UInt64) = order (val64 (dbl y)) (val64 dconst1) := rfl
  rw [e, h, val64_dconst1]
  show cmpValue (some (compare (signed false (inUnits c1 q1 (min q1 (-52)))) (signed false (inUnits (2 ^ 52) (-52) (min q1 (-52)))))) .g < (0 : Int32)
  have lt : inUnits c1 q1 (min q1 (-52)) < inUnits (2 ^ 52) (-52) (min q1 (-52)) := by
    rw [own_qmin] at hu
    unfold inUnits at hu ⊢
    refine own_pw (m := (min q1 (-52) - -1074).toNat) (b := (-53 - -1074 : Int).toNat) ?_ hN ?_
    · rw [← hu]; congr 2; omega
    · omega
  have lt2 : signed false (inUnits c1 q1 (min q1 (-52))) < signed false (inUnits (2 ^ 52) (-52) (min q1 (-52))) := by
    show ((inUnits c1 q1 (min q1 (-52)) : Nat) : Int) < ((inUnits (2 ^ 52) (-52) (min q1 (-52)) : Nat) : Int)
    exact Int.ofNat_lt.mpr lt
  rw [Int.compare_eq_lt.mpr lt2]; decide
theorem own_d2l (y : Int64) : (FP.d2l (FP.l2d (bit y))) = (bit y) := by
  obtain ⟨N, hN, hb⟩ := own_bit y
  exact d2l_w (by unfold B53; omega)
theorem own_dd (y : Int64) : (cmpValue (FP.dcmp (FP.l2d (bit y)) (FP.l2d (bit y))) .l) = (0 : Int32) := dcmpV_self (nn_w rfl) _

def Q3 (Z : State) (a0 : Addr) (x0 : Int64) (h0 : Heap) (n0 : Nat) (v : Option Value) (h : Heap) (L : List Loc) : Prop := v = some (.double (dbl (x0 + (-7046029254386353131 : Int64)))) ∧ Fr n0 L ∧ Keep h0 h [a0] ∧ Fld Z h a0 "com/example/vagabond/vagabond/SplitMix64" "state" "J" (.long (x0 + (-7046029254386353131 : Int64)))
set_option maxRecDepth 65536 in
set_option maxHeartbeats 40000000 in
theorem rm3 (l : Launch) (Z : State) (aw : Array Value) (hw : ∀ d ∈ tables_1, d.before aw Z = true) (ws : List Jvm.Cond) (a0 : Addr) (x0 : Int64) (h0 : Heap) (n0 : Nat) (F : Fld Z h0 a0 "com/example/vagabond/vagabond/SplitMix64" "state" "J" (.long x0)) (E : Exa Z h0 a0 "com/example/vagabond/vagabond/SplitMix64") (g : n0 ≤ a0) :
    MetFree l (⟨"com/example/vagabond/vagabond/SplitMix64", "nextDouble", "()D"⟩ : MethodName) (head1 (Jvm.Cond.code (⟨"com/example/vagabond/vagabond/SplitMix64", "nextDouble", "()D"⟩ : MethodName) prog_34_method_3_code 1 (some .double) :: ws) ({ frames := 1, cells := 0, slots := 0, locals := 14 } : Room)) (fun a U => a = #[(.ref a0)] ∧ Z.Warmed39 U.vm ∧ U.heap = h0) (fun _ _ _ _ _ => True) (fun _ U o U' => ∃ v L, o = .returned v ∧ Q3 Z a0 x0 h0 n0 v U'.heap L ∧ FrameEnd U o U' L ({ frames := 1, cells := 0, slots := 0, locals := 14 } : Room).cells ({ frames := 1, cells := 0, slots := 0, locals := 14 } : Room).slots) := by
  refine MetFree.of_bodySF (plainFor_of_name pn_0) hisR ?_
  intro p e s m args below meth c s₁ Bd hml0 hP _hKK
  obtain ⟨rfl, hZ, hh⟩ := hP
  have hx := Bd.exec
  have hby := Bd.bytes
  have hml : c.maxLocals = 1 := hml0
  have hown : s.vm.findClass "com/example/vagabond/vagabond/SplitMix64" = some m.cls := findClass_of_methodNamed Bd.named
  have hnm := (name_of_methodNamed Bd.named Bd.method).1
  have X0 : Stand p l e ({ frames := 1, cells := 0, slots := 0, locals := 14 } : Room) s m #[(.ref a0)] below meth c s₁ [] 0 0 := Stand.of_body Bd
  have e0 : s₁.heap = h0 := by rw [← hh, Bd.state]; rfl
  refine Ow.enter (Q := Q3 Z a0 x0 h0 n0) (ef_3 m a0) ?_
  show Ow p e below s _ _ _ (s₁.setTop (mkF m 0 #[.val (.ref a0)] []))
  refine w_aloadN X0 hx (Jvm.hb hby d3_0) rfl rfl (pc' := 1) rfl ?_
  refine w_callV X0 hx hZ hown (hw _ (List.mem_of_getElem? (i := 16) rfl)) (hw _ (List.mem_of_getElem? (i := 17) rfl)) (notFace_of_selects (args := #[]) (mvT hZ (hw _ (List.mem_of_getElem? (i := 19) rfl)))) (hw _ (List.mem_of_getElem? (i := 19) rfl)) (hw _ (List.mem_of_getElem? (i := 18) rfl)) (hw _ (List.mem_of_getElem? (i := 2) rfl)) (hw _ (List.mem_of_getElem? (i := 20) rfl)) (by decide) (W := 0) (rm4 l Z aw hw [] a0 x0 h0 n0 F E g) e0 (by decide) (by decide) (by decide) (by decide) E (Jvm.hb hby d3_1) (by rw [hml]; rfl) (argsL := []) (rest := []) pd_0 rfl rfl rfl (Nat.le_of_eq rfl) (pc' := 4) rfl ?_
  rintro _ T26 L26 X26 ⟨rfl, N26, K26, F26⟩
  show Ow p e below s _ _ _ (T26.setTop (mkF m 4 #[.val (.ref a0)] [(.long (mix (x0 + (-7046029254386353131 : Int64))))]))
  refine w_bipush X26 hx (11 : Int32) (Jvm.hb hby d3_4) (by decide) (pc' := 6) rfl ?_
  refine w_lushr X26 hx (Jvm.hb hby d3_6) (pc' := 7) rfl ?_
  refine w_l2d X26 hx (Jvm.hb hby d3_7) (pc' := 8) rfl ?_
  refine w_ldc2D X26 hx hZ hown (hw _ (List.mem_of_getElem? (i := 24) rfl)) (Jvm.hb hby d3_8) (pc' := 11) rfl ?_
  refine w_dmul X26 hx (Jvm.hb hby d3_11) (own_nn1 _) (pc' := 12) rfl ?_
  exact w_dreturn X26 hx Bd.returns (BodyLoose.notSynchronized Bd) (Nat.le_of_ble_eq_true rfl) (Nat.le_of_ble_eq_true rfl) (Jvm.hb hby d3_12) ⟨rfl, by simpa using N26, K26, F26⟩
theorem pd_1 : parseMethodDescriptor "(J)V" = some ⟨[.long], none⟩ := by decide +kernel
theorem pd_2 : parseMethodDescriptor "()D" = some ⟨[], some .double⟩ := by decide +kernel
theorem ef_0 (m : MethodId) (q0 : Int64) : entryFrame m #[(.long q0)] maxLocals = mkF m 0 #[.val (.long q0), .second, .unset, .unset, .unset, .unset, .unset, .unset, .unset, .unset, .unset, .unset, .unset, .unset, .unset] [] := by first | (simp [entryFrame, mkF, argsToLocals, Value.category, maxLocals]; done) | rfl
theorem pn_1 : plainName "com/example/vagabond/vagabond/SplitMix64NextDoublePinLaw" = true := by first | (simp [plainName, overriddenIn]; done) | decide +kernel
def Q0 (n0 : Nat) (v : Option Value) (h : Heap) (L : List Loc) : Prop := v = some (.int 1) ∧ Fr n0 L
set_option maxRecDepth 65536 in
set_option maxHeartbeats 40000000 in
theorem rm0 (l : Launch) (Z : State) (aw : Array Value) (hw : ∀ d ∈ tables_1, d.before aw Z = true) (ws : List Jvm.Cond) (q0 : Int64) (h0 : Heap) (n0 : Nat) (Z0 : n0 ≤ h0.size) :
    MetFree l x (head1 (Jvm.Cond.code x code maxLocals ret :: ws) room_1) (fun a U => a = #[(.long q0)] ∧ Z.Warmed39 U.vm ∧ U.heap = h0) (fun _ _ _ _ _ => True) (fun _ U o U' => ∃ v L, o = .returned v ∧ Q0 n0 v U'.heap L ∧ FrameEnd U o U' L 16 128) := by
  refine MetFree.of_bodySF (plainFor_of_name pn_1) hisR ?_
  intro p e s m args below meth c s₁ Bd hml0 hP _hKK
  obtain ⟨rfl, hZ, hh⟩ := hP
  have hx := Bd.exec
  have hby := Bd.bytes
  have hml : c.maxLocals = 15 := hml0
  have hown : s.vm.findClass "com/example/vagabond/vagabond/SplitMix64NextDoublePinLaw" = some m.cls := findClass_of_methodNamed Bd.named
  have hnm := (name_of_methodNamed Bd.named Bd.method).1
  have X0 : Stand p l e room_1 s m #[(.long q0)] below meth c s₁ [] 0 0 := Stand.of_body Bd
  have e0 : s₁.heap = h0 := by rw [← hh, Bd.state]; rfl
  refine Ow.enter (Q := Q0 n0) (ef_0 m q0) ?_
  show Ow p e below s _ _ _ (s₁.setTop (mkF m 0 #[.val (.long q0), .second, .unset, .unset, .unset, .unset, .unset, .unset, .unset, .unset, .unset, .unset, .unset, .unset, .unset] []))
  refine w_new X0 hx hZ hown (hw _ (List.mem_of_getElem? (i := 0) rfl)) (hw _ (List.mem_of_getElem? (i := 1) rfl)) (hw _ (List.mem_of_getElem? (i := 2) rfl)) e0 (Jvm.hb hby at_0) (by decide) (by decide) (pc' := 3) rfl ?_
  intro T27 h27 a27 g27 X27 e27 E27 A27 D27
  have F27 : Fld Z h27 a27 "com/example/vagabond/vagabond/SplitMix64" "state" "J" (.long (0 : Int64)) := D27 (Or.inl (hw _ (List.mem_of_getElem? (i := 10) rfl))) (ty := .long) (by decide)
  have G27 : n0 ≤ a27 := Nat.le_trans Z0 (Nat.le_of_eq g27.symm)
  have S27 : n0 ≤ h27.size := Nat.le_trans Z0 E27.1
  refine w_dup X27 hx (Jvm.hb hby at_3) rfl (pc' := 4) rfl ?_
  refine w_lloadN X27 hx (Jvm.hb hby at_4) rfl (pc' := 5) rfl ?_
  refine w_callN X27 hx hZ rfl hown (hw _ (List.mem_of_getElem? (i := 3) rfl)) (hw _ (List.mem_of_getElem? (i := 4) rfl)) (hw _ (List.mem_of_getElem? (i := 2) rfl)) (hw _ (List.mem_of_getElem? (i := 5) rfl)) (by decide) (W := 1) (rm1 l Z aw hw [] a27 q0 h27 n0 F27 A27 G27) e27 (by decide) (by decide) (by decide) (by decide) (Jvm.hb hby at_5) (by rw [hml]; rfl) (a := a27) (argsL := [(.long q0)]) (rest := [(.ref a27)]) pd_1 rfl rfl rfl (Nat.le_of_eq rfl) (pc' := 8) rfl ?_
  rintro _ T28 L28 X28 ⟨rfl, N28, K28, B28⟩
  show Ow p e below s _ _ _ (T28.setTop (mkF m 8 #[.val (.long q0), .second, .unset, .unset, .unset, .unset, .unset, .unset, .unset, .unset, .unset, .unset, .unset, .unset, .unset] [(.ref a27)]))
  have M28 := Fr.app (Fr.nil n0) N28
  have S28 : n0 ≤ T28.heap.size := Nat.le_trans S27 K28.1
  have E28 := A27.keep K28
  refine w_astoreN X28 hx (Jvm.hb hby at_8) #[.val (.long q0), .second, .val (.ref a27), .unset, .unset, .unset, .unset, .unset, .unset, .unset, .unset, .unset, .unset, .unset, .unset] rfl rfl (pc' := 9) rfl ?_
  refine w_new X28 hx hZ hown (hw _ (List.mem_of_getElem? (i := 0) rfl)) (hw _ (List.mem_of_getElem? (i := 1) rfl)) (hw _ (List.mem_of_getElem? (i := 2) rfl)) rfl (Jvm.hb hby at_9) (by decide) (by decide) (pc' := 12) rfl ?_
  intro T29 h29 a29 g29 X29 e29 E29 A29 D29
  have F29 : Fld Z h29 a29 "com/example/vagabond/vagabond/SplitMix64" "state" "J" (.long (0 : Int64)) := D29 (Or.inl (hw _ (List.mem_of_getElem? (i := 10) rfl))) (ty := .long) (by decide)
  have G29 : n0 ≤ a29 := Nat.le_trans S28 (Nat.le_of_eq g29.symm)
  have S29 : n0 ≤ h29.size := Nat.le_trans S28 E29.1
  have ne : a27 ≠ a29 := by rw [g29]; exact Nat.ne_of_lt B28.lt
  have P29 := B28.ext E29
  have PE29 := E28.ext E29
  refine w_dup X29 hx (Jvm.hb hby at_12) rfl (pc' := 13) rfl ?_
  refine w_lloadN X29 hx (Jvm.hb hby at_13) rfl (pc' := 14) rfl ?_
  refine w_callN X29 hx hZ rfl hown (hw _ (List.mem_of_getElem? (i := 3) rfl)) (hw _ (List.mem_of_getElem? (i := 4) rfl)) (hw _ (List.mem_of_getElem? (i := 2) rfl)) (hw _ (List.mem_of_getElem? (i := 5) rfl)) (by decide) (W := 1) (rm1 l Z aw hw [] a29 q0 h29 n0 F29 A29 G29) e29 (by decide) (by decide) (by decide) (by decide) (Jvm.hb hby at_14) (by rw [hml]; rfl) (a := a29) (argsL := [(.long q0)]) (rest := [(.ref a29)]) pd_1 rfl rfl rfl (Nat.le_of_eq rfl) (pc' := 17) rfl ?_
  rintro _ T30 L30 X30 ⟨rfl, N30, K30, B30⟩
  show Ow p e below s _ _ _ (T30.setTop (mkF m 17 #[.val (.long q0), .second, .val (.ref a27), .unset, .unset, .unset, .unset, .unset, .unset, .unset, .unset, .unset, .unset, .unset, .unset] [(.ref a29)]))
  have M30 := Fr.app M28 N30
  have S30 : n0 ≤ T30.heap.size := Nat.le_trans S29 K30.1
  have R30 := P29.keep K30 (ninS ne nin0)
  have RE30 := PE29.keep K30
  have E30 := A29.keep K30
  refine w_astoreN X30 hx (Jvm.hb hby at_17) #[.val (.long q0), .second, .val (.ref a27), .val (.ref a29), .unset, .unset, .unset, .unset, .unset, .unset, .unset, .unset, .unset, .unset, .unset] rfl rfl (pc' := 18) rfl ?_
  refine w_aloadN X30 hx (Jvm.hb hby at_18) rfl rfl (pc' := 19) rfl ?_
  refine w_callV X30 hx hZ hown (hw _ (List.mem_of_getElem? (i := 11) rfl)) (hw _ (List.mem_of_getElem? (i := 12) rfl)) (notFace_of_selects (args := #[]) (mvT hZ (hw _ (List.mem_of_getElem? (i := 14) rfl)))) (hw _ (List.mem_of_getElem? (i := 14) rfl)) (hw _ (List.mem_of_getElem? (i := 13) rfl)) (hw _ (List.mem_of_getElem? (i := 2) rfl)) (hw _ (List.mem_of_getElem? (i := 15) rfl)) (by decide) (W := 0) (rm3 l Z aw hw [] a27 q0 T30.heap n0 R30 RE30 G27) rfl (by decide) (by decide) (by decide) (by decide) RE30 (Jvm.hb hby at_19) (by rw [hml]; rfl) (argsL := []) (rest := []) pd_2 rfl rfl rfl (Nat.le_of_eq rfl) (pc' := 22) rfl ?_
  rintro _ T31 L31 X31 ⟨rfl, N31, K31, B31⟩
  show Ow p e below s _ _ _ (T31.setTop (mkF m 22 #[.val (.long q0), .second, .val (.ref a27), .val (.ref a29), .unset, .unset, .unset, .unset, .unset, .unset, .unset, .unset, .unset, .unset, .unset] [(.double (dbl (q0 + (-7046029254386353131 : Int64))))]))
  have M31 := Fr.app M30 N31
  have R31 := B30.keep K31 (ninS (Ne.symm ne) nin0)
  have RE31 := E30.keep K31
  have QE31 := RE30.keep K31
  refine w_dstore X31 hx (Jvm.hb hby at_22) #[.val (.long q0), .second, .val (.ref a27), .val (.ref a29), .val (.double (dbl (q0 + (-7046029254386353131 : Int64)))), .second, .unset, .unset, .unset, .unset, .unset, .unset, .unset, .unset, .unset] rfl  (pc' := 24) rfl ?_
  refine w_aloadN X31 hx (Jvm.hb hby at_24) rfl rfl (pc' := 25) rfl ?_
  refine w_callV X31 hx hZ hown (hw _ (List.mem_of_getElem? (i := 25) rfl)) (hw _ (List.mem_of_getElem? (i := 17) rfl)) (notFace_of_selects (args := #[]) (mvT hZ (hw _ (List.mem_of_getElem? (i := 19) rfl)))) (hw _ (List.mem_of_getElem? (i := 19) rfl)) (hw _ (List.mem_of_getElem? (i := 18) rfl)) (hw _ (List.mem_of_getElem? (i := 2) rfl)) (hw _ (List.mem_of_getElem? (i := 20) rfl)) (by decide) (W := 0) (rm4 l Z aw hw [] a29 q0 T31.heap n0 R31 RE31 G29) rfl (by decide) (by decide) (by decide) (by decide) RE31 (Jvm.hb hby at_25) (by rw [hml]; rfl) (argsL := []) (rest := []) pd_0 rfl rfl rfl (Nat.le_of_eq rfl) (pc' := 28) rfl ?_
  rintro _ T32 L32 X32 ⟨rfl, N32, K32, B32⟩
  show Ow p e below s _ _ _ (T32.setTop (mkF m 28 #[.val (.long q0), .second, .val (.ref a27), .val (.ref a29), .val (.double (dbl (q0 + (-7046029254386353131 : Int64)))), .second, .unset, .unset, .unset, .unset, .unset, .unset, .unset, .unset, .unset] [(.long (mix (q0 + (-7046029254386353131 : Int64))))]))
  have M32 := Fr.app M31 N32
  have R32 := B31.keep K32 (ninS ne nin0)
  have RE32 := QE31.keep K32
  have QE32 := RE31.keep K32
  refine w_bipush X32 hx (11 : Int32) (Jvm.hb hby at_28) (by decide) (pc' := 30) rfl ?_
  refine w_lushr X32 hx (Jvm.hb hby at_30) (pc' := 31) rfl ?_
  refine w_lstore X32 hx (Jvm.hb hby at_31) #[.val (.long q0), .second, .val (.ref a27), .val (.ref a29), .val (.double (dbl (q0 + (-7046029254386353131 : Int64)))), .second, .val (.long (bit (q0 + (-7046029254386353131 : Int64)))), .second, .unset, .unset, .unset, .unset, .unset, .unset, .unset] rfl  (pc' := 33) rfl ?_
  refine w_dconst0 X32 hx (Jvm.hb hby at_33) (v := (0 : UInt64)) rfl (pc' := 34) rfl ?_
  refine w_dload X32 hx (Jvm.hb hby at_34) rfl (pc' := 36) rfl ?_
  refine w_dcmp X32 hx (Jvm.hb hby at_36) (pc' := 37) rfl ?_
  refine w_if_gt X32 hx (Jvm.hb hby at_37) (by decide) (pcT := 51) (by decide) (pcF := 40) rfl (fun q => absurd q (own_ge0 (q0 + (-7046029254386353131 : Int64)))) (fun _ => ?_)
  refine w_dload X32 hx (Jvm.hb hby at_40) rfl (pc' := 42) rfl ?_
  refine w_dconst1 X32 hx (Jvm.hb hby at_42) (v := (4607182418800017408 : UInt64)) rfl (pc' := 43) rfl ?_
  refine w_dcmp X32 hx (Jvm.hb hby at_43) (pc' := 44) rfl ?_
  refine w_if_ge X32 hx (Jvm.hb hby at_44) (by decide) (pcT := 51) (by decide) (pcF := 47) rfl (fun q => absurd (own_lt1 (q0 + (-7046029254386353131 : Int64))) q) (fun _ => ?_)
  refine w_iconst X32 hx (1 : Int32) (Jvm.hb hby at_47) (by decide) (pc' := 48) rfl ?_
  refine w_goto X32 hx (Jvm.hb hby at_48) (by decide) (pc' := 52) (by decide) ?_
  refine w_istore X32 hx (Jvm.hb hby at_52) #[.val (.long q0), .second, .val (.ref a27), .val (.ref a29), .val (.double (dbl (q0 + (-7046029254386353131 : Int64)))), .second, .val (.long (bit (q0 + (-7046029254386353131 : Int64)))), .second, .val (.int (1 : Int32)), .unset, .unset, .unset, .unset, .unset, .unset] rfl  (pc' := 54) rfl ?_
  refine w_dload X32 hx (Jvm.hb hby at_54) rfl (pc' := 56) rfl ?_
  refine w_ldc2D X32 hx hZ hown (hw _ (List.mem_of_getElem? (i := 26) rfl)) (Jvm.hb hby at_56) (pc' := 59) rfl ?_
  refine w_dmul X32 hx (Jvm.hb hby at_59) (own_nn2 _) (pc' := 60) rfl ?_
  rw [own_back (q0 + (-7046029254386353131 : Int64))]
  show Ow p e below s _ _ _ (T32.setTop (mkF m 60 #[.val (.long q0), .second, .val (.ref a27), .val (.ref a29), .val (.double (dbl (q0 + (-7046029254386353131 : Int64)))), .second, .val (.long (bit (q0 + (-7046029254386353131 : Int64)))), .second, .val (.int (1 : Int32)), .unset, .unset, .unset, .unset, .unset, .unset] [(.double (FP.l2d (bit (q0 + (-7046029254386353131 : Int64)))))]))
  refine w_dstore X32 hx (Jvm.hb hby at_60) #[.val (.long q0), .second, .val (.ref a27), .val (.ref a29), .val (.double (dbl (q0 + (-7046029254386353131 : Int64)))), .second, .val (.long (bit (q0 + (-7046029254386353131 : Int64)))), .second, .val (.int (1 : Int32)), .val (.double (FP.l2d (bit (q0 + (-7046029254386353131 : Int64))))), .second, .unset, .unset, .unset, .unset] rfl  (pc' := 62) rfl ?_
  refine w_dload X32 hx (Jvm.hb hby at_62) rfl (pc' := 64) rfl ?_
  refine w_d2l X32 hx (Jvm.hb hby at_64) (pc' := 65) rfl ?_
  refine w_lstore X32 hx (Jvm.hb hby at_65) #[.val (.long q0), .second, .val (.ref a27), .val (.ref a29), .val (.double (dbl (q0 + (-7046029254386353131 : Int64)))), .second, .val (.long (bit (q0 + (-7046029254386353131 : Int64)))), .second, .val (.int (1 : Int32)), .val (.double (FP.l2d (bit (q0 + (-7046029254386353131 : Int64))))), .second, .val (.long (FP.d2l (FP.l2d (bit (q0 + (-7046029254386353131 : Int64)))))), .second, .unset, .unset] rfl  (pc' := 67) rfl ?_
  refine w_lload X32 hx (Jvm.hb hby at_67) rfl (pc' := 69) rfl ?_
  refine w_lload X32 hx (Jvm.hb hby at_69) rfl (pc' := 71) rfl ?_
  refine w_lcmp_ne X32 hx (Jvm.hb hby at_71) (Jvm.hb hby at_72) rfl (by decide) (pcT := 88) (by decide) (pcF := 75) rfl (fun q => absurd (own_d2l (q0 + (-7046029254386353131 : Int64))) q) (fun _ => ?_)
  refine w_dload X32 hx (Jvm.hb hby at_75) rfl (pc' := 77) rfl ?_
  refine w_lload X32 hx (Jvm.hb hby at_77) rfl (pc' := 79) rfl ?_
  refine w_l2d X32 hx (Jvm.hb hby at_79) (pc' := 80) rfl ?_
  refine w_dcmp X32 hx (Jvm.hb hby at_80) (pc' := 81) rfl ?_
  refine w_if_ne X32 hx (Jvm.hb hby at_81) (by decide) (pcT := 88) (by decide) (pcF := 84) rfl (fun q => absurd (own_dd (q0 + (-7046029254386353131 : Int64))) q) (fun _ => ?_)
  refine w_iconst X32 hx (1 : Int32) (Jvm.hb hby at_84) (by decide) (pc' := 85) rfl ?_
  refine w_goto X32 hx (Jvm.hb hby at_85) (by decide) (pc' := 89) (by decide) ?_
  refine w_istore X32 hx (Jvm.hb hby at_89) #[.val (.long q0), .second, .val (.ref a27), .val (.ref a29), .val (.double (dbl (q0 + (-7046029254386353131 : Int64)))), .second, .val (.long (bit (q0 + (-7046029254386353131 : Int64)))), .second, .val (.int (1 : Int32)), .val (.double (FP.l2d (bit (q0 + (-7046029254386353131 : Int64))))), .second, .val (.long (FP.d2l (FP.l2d (bit (q0 + (-7046029254386353131 : Int64)))))), .second, .val (.int (1 : Int32)), .unset] rfl  (pc' := 91) rfl ?_
  refine w_aloadN X32 hx (Jvm.hb hby at_91) rfl rfl (pc' := 92) rfl ?_
  refine w_callV X32 hx hZ hown (hw _ (List.mem_of_getElem? (i := 25) rfl)) (hw _ (List.mem_of_getElem? (i := 17) rfl)) (notFace_of_selects (args := #[]) (mvT hZ (hw _ (List.mem_of_getElem? (i := 19) rfl)))) (hw _ (List.mem_of_getElem? (i := 19) rfl)) (hw _ (List.mem_of_getElem? (i := 18) rfl)) (hw _ (List.mem_of_getElem? (i := 2) rfl)) (hw _ (List.mem_of_getElem? (i := 20) rfl)) (by decide) (W := 0) (rm4 l Z aw hw [] a27 (q0 + (-7046029254386353131 : Int64)) T32.heap n0 R32 RE32 G27) rfl (by decide) (by decide) (by decide) (by decide) RE32 (Jvm.hb hby at_92) (by rw [hml]; rfl) (argsL := []) (rest := []) pd_0 rfl rfl rfl (Nat.le_of_eq rfl) (pc' := 95) rfl ?_
  rintro _ T33 L33 X33 ⟨rfl, N33, K33, B33⟩
  show Ow p e below s _ _ _ (T33.setTop (mkF m 95 #[.val (.long q0), .second, .val (.ref a27), .val (.ref a29), .val (.double (dbl (q0 + (-7046029254386353131 : Int64)))), .second, .val (.long (bit (q0 + (-7046029254386353131 : Int64)))), .second, .val (.int (1 : Int32)), .val (.double (FP.l2d (bit (q0 + (-7046029254386353131 : Int64))))), .second, .val (.long (FP.d2l (FP.l2d (bit (q0 + (-7046029254386353131 : Int64)))))), .second, .val (.int (1 : Int32)), .unset] [(.long (mix ((q0 + (-7046029254386353131 : Int64)) + (-7046029254386353131 : Int64))))]))
  have M33 := Fr.app M32 N33
  have R33 := B32.keep K33 (ninS (Ne.symm ne) nin0)
  have RE33 := QE32.keep K33
  have QE33 := RE32.keep K33
  refine w_aloadN X33 hx (Jvm.hb hby at_95) rfl rfl (pc' := 96) rfl ?_
  refine w_callV X33 hx hZ hown (hw _ (List.mem_of_getElem? (i := 25) rfl)) (hw _ (List.mem_of_getElem? (i := 17) rfl)) (notFace_of_selects (args := #[]) (mvT hZ (hw _ (List.mem_of_getElem? (i := 19) rfl)))) (hw _ (List.mem_of_getElem? (i := 19) rfl)) (hw _ (List.mem_of_getElem? (i := 18) rfl)) (hw _ (List.mem_of_getElem? (i := 2) rfl)) (hw _ (List.mem_of_getElem? (i := 20) rfl)) (by decide) (W := 2) (rm4 l Z aw hw [] a29 (q0 + (-7046029254386353131 : Int64)) T33.heap n0 R33 RE33 G29) rfl (by decide) (by decide) (by decide) (by decide) RE33 (Jvm.hb hby at_96) (by rw [hml]; rfl) (argsL := []) (rest := [(.long (mix ((q0 + (-7046029254386353131 : Int64)) + (-7046029254386353131 : Int64))))]) pd_0 rfl rfl rfl (Nat.le_of_eq rfl) (pc' := 99) rfl ?_
  rintro _ T34 L34 X34 ⟨rfl, N34, K34, B34⟩
  show Ow p e below s _ _ _ (T34.setTop (mkF m 99 #[.val (.long q0), .second, .val (.ref a27), .val (.ref a29), .val (.double (dbl (q0 + (-7046029254386353131 : Int64)))), .second, .val (.long (bit (q0 + (-7046029254386353131 : Int64)))), .second, .val (.int (1 : Int32)), .val (.double (FP.l2d (bit (q0 + (-7046029254386353131 : Int64))))), .second, .val (.long (FP.d2l (FP.l2d (bit (q0 + (-7046029254386353131 : Int64)))))), .second, .val (.int (1 : Int32)), .unset] [(.long (mix ((q0 + (-7046029254386353131 : Int64)) + (-7046029254386353131 : Int64)))), (.long (mix ((q0 + (-7046029254386353131 : Int64)) + (-7046029254386353131 : Int64))))]))
  have M34 := Fr.app M33 N34
  have R34 := B33.keep K34 (ninS ne nin0)
  have RE34 := QE33.keep K34
  have QE34 := RE33.keep K34
  refine w_lcmp_ne X34 hx (Jvm.hb hby at_99) (Jvm.hb hby at_100) rfl (by decide) (pcT := 107) (by decide) (pcF := 103) rfl (fun q => absurd rfl q) (fun _ => ?_)
  refine w_iconst X34 hx (1 : Int32) (Jvm.hb hby at_103) (by decide) (pc' := 104) rfl ?_
  refine w_goto X34 hx (Jvm.hb hby at_104) (by decide) (pc' := 108) (by decide) ?_
  refine w_istore X34 hx (Jvm.hb hby at_108) #[.val (.long q0), .second, .val (.ref a27), .val (.ref a29), .val (.double (dbl (q0 + (-7046029254386353131 : Int64)))), .second, .val (.long (bit (q0 + (-7046029254386353131 : Int64)))), .second, .val (.int (1 : Int32)), .val (.double (FP.l2d (bit (q0 + (-7046029254386353131 : Int64))))), .second, .val (.long (FP.d2l (FP.l2d (bit (q0 + (-7046029254386353131 : Int64)))))), .second, .val (.int (1 : Int32)), .val (.int (1 : Int32))] rfl  (pc' := 110) rfl ?_
  refine w_iload X34 hx (Jvm.hb hby at_110) rfl (pc' := 112) rfl ?_
  refine w_if_eq X34 hx (Jvm.hb hby at_112) (by decide) (pcT := 129) (by decide) (pcF := 115) rfl (fun q => absurd q (show ¬ (1 : Int32) = (0 : Int32) from by decide)) (fun _ => ?_)
  refine w_iload X34 hx (Jvm.hb hby at_115) rfl (pc' := 117) rfl ?_
  refine w_if_eq X34 hx (Jvm.hb hby at_117) (by decide) (pcT := 129) (by decide) (pcF := 120) rfl (fun q => absurd q (show ¬ (1 : Int32) = (0 : Int32) from by decide)) (fun _ => ?_)
  refine w_iload X34 hx (Jvm.hb hby at_120) rfl (pc' := 122) rfl ?_
  refine w_if_eq X34 hx (Jvm.hb hby at_122) (by decide) (pcT := 129) (by decide) (pcF := 125) rfl (fun q => absurd q (show ¬ (1 : Int32) = (0 : Int32) from by decide)) (fun _ => ?_)
  refine w_iconst X34 hx (1 : Int32) (Jvm.hb hby at_125) (by decide) (pc' := 126) rfl ?_
  refine w_goto X34 hx (Jvm.hb hby at_126) (by decide) (pc' := 130) (by decide) ?_
  exact w_zreturn X34 hx Bd.returns (Or.inr rfl) (BodyLoose.notSynchronized Bd) (Nat.le_of_ble_eq_true rfl) (Nat.le_of_ble_eq_true rfl) (Jvm.hb hby at_130) ⟨rfl, by simpa using M34⟩
set_option maxRecDepth 65536 in
set_option maxHeartbeats 40000000 in
theorem comes_1 {Post : Tables → Env → Array Value → State → Outcome → State → Prop} (hpost : ∀ tb e args s v u, (limb_1_1.after args s (.returned v) u = true ∧ limb_1_2.after args s (.returned v) u = true ∧ True) → FrameEnd s (.returned v) u (Jvm.fieldLocs frame_1_writes args s ++ Jvm.arrayLocs frame_1_arrays args s ++ Jvm.staticLocs frame_1_statics s) 16 128 → Post tb e args s (.returned v) u) :
    ArmFor flags0 classFile x code maxLocals ret World_1 tables_1 room_1 Calls_1 rest_1 Pre_1 Post := by
  intro l hfl _ _ p e ha hc hk s m args below hf hA hF happ hP
  obtain ⟨hcalls, hrest, hpre⟩ := hP
  obtain ⟨-, -, -, hnamed, -, -, -, hat⟩ := (Spec.applies_iff hf).mp happ
  obtain ⟨hg, hn⟩ := and_e (Cond.before_iff.mp (show (Jvm.Cond.and given_1 narrow_1).before args s = true from hpre))
  obtain ⟨g1, g2⟩ := and_e hg
  obtain ⟨w0, rfl⟩ : ∃ w0 : Value, args = #[w0] := by
    have hs : args.size = 1 := by simpa [Cond.value, given_1] using g1
    obtain ⟨L⟩ := args
    match L, hs with
    | [w0], _ => exact ⟨w0, rfl⟩
  have hw := fun d (hd : d ∈ tables_1) => atoms_spec (ws := Jvm.Cond.code x code maxLocals ret :: tables_1) hat d (List.mem_cons_of_mem _ hd)
  obtain ⟨i0, ei0⟩ := isL_v g2
  obtain rfl : w0 = (.long i0) := Option.some.inj ei0
  obtain ⟨n, o, h1, h2, h3, _, L, rfl, ⟨rfl, N⟩, hq⟩ := rm0 l s _ hw tables_1 i0 s.heap s.heap.size (Nat.le_refl _) p e ha hc hk s m _ below hf ((Spec.applies_iff_loose hf).mp happ).1 ⟨rfl, State.Warmed39.refl s, rfl⟩ trivial
  refine ⟨n, _, h1, h2, h3, hpost _ _ _ _ _ _ ⟨Cond.after_iff.mpr rfl, Cond.after_iff.mpr (eq_i res_at (Term.int_eval (1)) rfl), trivial⟩ ⟨hq.1, hq.2.1, (hq.2.2.sift fun y hy => Or.inr (N y hy)).mono (by decide) (by decide)⟩⟩
theorem main_1_1 : Claimed_1_1 := comes_1 fun _ _ _ _ _ _ h hF => ⟨h.1, hF⟩
theorem main_1_2 : Claimed_1_2 := comes_1 fun _ _ _ _ _ _ h hF => ⟨h.2.1, hF⟩
end Jvm.Pilot.@@N@@
namespace Jvm.Pilot.@@N@@
open Jvm Jvm.ClassFile Sem Op Lib Jvm.Free Jvm.Stand Jvm.Pilot.@@N@@.Jvm.D
/-! MADE BY PROGRAM (witnessworld.py) out of the Statement's table words and the real class files: 9 classes; the members and pool entries that the words name. The judged class is class 1, her method 1. -/
namespace start1
open Jvm.ClassFile
def u (s : String) : CpInfo := .utf8 (stringToUtf16 s)
/-- a pool by its gaps: so many unusable entries, then the entry; so many at the end -/
def gap : Nat → List CpInfo → List CpInfo
  | 0, r => r
  | n + 1, r => .unusable :: gap n r
def poolList (es : List (Nat × CpInfo)) (last : Nat) : List CpInfo := es.foldr (fun e r => gap e.1 (e.2 :: r)) (gap last [])
def pool (es : List (Nat × CpInfo)) (last : Nat) : Array CpInfo := ⟨poolList es last⟩
def fileOf (pool : Array CpInfo) (this : Nat) (attrs : Array Attribute := #[]) (ms : Array MethodInfo := #[]) (fl : Nat := 33) (sup : Nat := 0) (ifs : Array Nat := #[]) (fds : Array FieldInfo := #[]) : ClassFile where
  minorVersion := 0
  majorVersion := 65
  constantPool := pool
  accessFlags := fl
  thisClass := this
  superClass := sup
  interfaces := ifs
  fields := fds
  methods := ms
  attributes := attrs
def plain (name : String) (sup : Option ClassId) : Class where
  name := name
  kind := .ordinary
  loader := none
  accessFlags := 33
  super := sup
  interfaces := #[]
  cf := none
  fields := #[]
  methods := #[]
  instanceTypes := #[]
  staticTypes := #[]
  resolved := #[]
  callSites := []
  init := .initialized
  statics := none
  mirror := none

def pool0 : Array CpInfo := pool [(5, u "<init>"), (0, u "()V"), (1, .class_ 10), (1, u "java/lang/Object")] 113

def k0c0 : Code := { maxStack := 0, maxLocals := 1, code := object_method_1_code, exceptionTable := #[], attributes := #[] }
def k0m0 : Method := { name := "<init>", desc := "()V", sig := { parameters := [], returnType := none }, accessFlags := 1, code := some k0c0 }
/-- java/lang/Object -/
def k0 : Class := { plain "java/lang/Object" none with
  accessFlags := 33
  interfaces := #[]
  cf := some (fileOf pool0 8 #[] #[{ accessFlags := 1, nameIndex := 5, descriptorIndex := 6, attributes := #[] }] 33 0 #[] #[])
  fields := #[]
  methods := #[k0m0]
  instanceTypes := #[]
  staticTypes := #[]
  resolved := Array.replicate 124 none
  statics := none }

def pool1 : Array CpInfo := pool [(2, .class_ 4), (1, u "java/lang/Object"), (0, u "<init>"), (0, u "()V"), (0, .class_ 8), (0, u "com/example/vagabond/vagabond/SplitMix64"), (0, .methodref 7 10), (0, .nameAndType 5 11), (0, u "(J)V"), (0, .methodref 7 13), (0, .nameAndType 14 15), (0, u "nextDouble"), (0, u "()D"), (0, .methodref 7 17), (0, .nameAndType 18 19), (0, u "nextLong"), (0, u "()J"), (0, .double 4845873199050653696), (1, .class_ 23), (0, u "com/example/vagabond/vagabond/SplitMix64NextDoublePinLaw"), (2, u "law"), (0, u "(J)Z")] 3

def k1m0 : Method := { name := "<init>", desc := "()V", sig := { parameters := [], returnType := none }, accessFlags := 1, code := none }
def k1c1 : Code := { maxStack := 4, maxLocals := 15, code := code, exceptionTable := #[], attributes := #[] }
def k1m1 : Method := { name := "law", desc := "(J)Z", sig := { parameters := [.long], returnType := some .boolean }, accessFlags := 9, code := some k1c1 }
/-- com/example/vagabond/vagabond/SplitMix64NextDoublePinLaw -/
def k1 : Class := { plain "com/example/vagabond/vagabond/SplitMix64NextDoublePinLaw" (some 0) with
  accessFlags := 49
  interfaces := #[]
  cf := some (fileOf pool1 22 #[] #[{ accessFlags := 1, nameIndex := 5, descriptorIndex := 6, attributes := #[] }, { accessFlags := 9, nameIndex := 26, descriptorIndex := 27, attributes := #[] }] 49 2 #[] #[])
  fields := #[]
  methods := #[k1m0, k1m1]
  instanceTypes := #[]
  staticTypes := #[]
  resolved := Array.replicate 31 none
  statics := none }

def pool2 : Array CpInfo := pool [(1, .methodref 2 3), (0, .class_ 4), (0, .nameAndType 5 6), (0, u "java/lang/Object"), (0, u "<init>"), (0, u "()V"), (0, .fieldref 8 9), (0, .class_ 10), (0, .nameAndType 11 12), (0, u "com/example/vagabond/vagabond/SplitMix64"), (0, u "state"), (0, u "J"), (0, .long 11400714819323198485), (1, .long 13787848793156543929), (1, .long 10723151780598845931), (1, .methodref 8 20), (0, .nameAndType 21 22), (0, u "nextLong"), (0, u "()J"), (0, .double 4368491638549381120), (5, u "STEP"), (1, u "UNIT"), (0, u "D"), (0, u "(J)V"), (2, u "nextDouble"), (0, u "()D")] 5

def k2c0 : Code := { maxStack := 3, maxLocals := 3, code := prog_34_method_1_code, exceptionTable := #[], attributes := #[] }
def k2m0 : Method := { name := "<init>", desc := "(J)V", sig := { parameters := [.long], returnType := none }, accessFlags := 0, code := some k2c0 }
def k2c1 : Code := { maxStack := 5, maxLocals := 3, code := prog_34_method_2_code, exceptionTable := #[], attributes := #[] }
def k2m1 : Method := { name := "nextLong", desc := "()J", sig := { parameters := [], returnType := some .long }, accessFlags := 0, code := some k2c1 }
def k2c2 : Code := { maxStack := 4, maxLocals := 1, code := prog_34_method_3_code, exceptionTable := #[], attributes := #[] }
def k2m2 : Method := { name := "nextDouble", desc := "()D", sig := { parameters := [], returnType := some .double }, accessFlags := 0, code := some k2c2 }
/-- com/example/vagabond/vagabond/SplitMix64 -/
def k2 : Class := { plain "com/example/vagabond/vagabond/SplitMix64" (some 0) with
  accessFlags := 48
  interfaces := #[]
  cf := some (fileOf pool2 8 #[] #[{ accessFlags := 0, nameIndex := 5, descriptorIndex := 33, attributes := #[] }, { accessFlags := 0, nameIndex := 21, descriptorIndex := 22, attributes := #[] }, { accessFlags := 0, nameIndex := 36, descriptorIndex := 37, attributes := #[] }] 48 2 #[] #[{ accessFlags := 26, nameIndex := 29, descriptorIndex := 12, attributes := #[] }, { accessFlags := 26, nameIndex := 31, descriptorIndex := 32, attributes := #[] }, { accessFlags := 2, nameIndex := 11, descriptorIndex := 12, attributes := #[] }])
  fields := #[{ name := "STEP", type := .long, accessFlags := 26, slot := 0, constantValue := 0 }, { name := "UNIT", type := .double, accessFlags := 26, slot := 1, constantValue := 0 }, { name := "state", type := .long, accessFlags := 2, slot := 0, constantValue := 0 }]
  methods := #[k2m0, k2m1, k2m2]
  instanceTypes := #[.long]
  staticTypes := #[.long, .double]
  resolved := Array.replicate 43 none
  statics := none }

def pool3 : Array CpInfo := pool [(1, u "java/lang/Cloneable"), (0, .class_ 1), (0, u "java/lang/Object"), (0, .class_ 3)] 3

/-- java/lang/Cloneable -/
def k3 : Class := { plain "java/lang/Cloneable" (some 0) with
  accessFlags := 1537
  interfaces := #[]
  cf := some (fileOf pool3 2 #[] #[] 1537 4 #[] #[])
  fields := #[]
  methods := #[]
  instanceTypes := #[]
  staticTypes := #[]
  resolved := Array.replicate 8 none
  statics := none }

def pool4 : Array CpInfo := pool [(1, u "java/io/Serializable"), (0, .class_ 1), (0, u "java/lang/Object"), (0, .class_ 3)] 3

/-- java/io/Serializable -/
def k4 : Class := { plain "java/io/Serializable" (some 0) with
  accessFlags := 1537
  interfaces := #[]
  cf := some (fileOf pool4 2 #[] #[] 1537 4 #[] #[])
  fields := #[]
  methods := #[]
  instanceTypes := #[]
  staticTypes := #[]
  resolved := Array.replicate 8 none
  statics := none }

/-- the primitive byte -/
def k5 : Class := { plain "byte" none with kind := .primitive 'B', accessFlags := 0x411 }
/-- [B -/
def k6 : Class := { plain "[B" (some 0) with kind := .array 5 .byte, interfaces := #[3, 4], accessFlags := 1041 }

/-- the primitive int -/
def k7 : Class := { plain "int" none with kind := .primitive 'I', accessFlags := 0x411 }
/-- [I -/
def k8 : Class := { plain "[I" (some 0) with kind := .array 7 .int, interfaces := #[3, 4], accessFlags := 1041 }

def heap : Heap := #[]
def classes : Array Class := #[k0, k1, k2, k3, k4, k5, k6, k7, k8]
def interned : List (Array UInt16 × Addr) := []
def slotsUsed : Nat := 0
def theMethod : MethodId := ⟨1, 1⟩
def args0 : Array Value := #[.long 5]
def aboutOver (below : List Frame) : State where
  vm := { classes := classes, interned := interned.toArray }
  heap := heap
  slotsUsed := slotsUsed
  threads := #[{ frames := .invoking theMethod args0 :: below }]
def below0 : List Frame := [.native { method := ⟨0, 0⟩, args := #[] }]
def about1 : State := aboutOver below0
def p0 : Program := .bare "" "" ""
def e0 : Env := launch0.env 0 0 0
theorem w_frames : about1.frames = Frame.invoking theMethod args0 :: below0 := rfl
set_option maxRecDepth 65536 in
theorem w_args : argsFit about1.vm theMethod args0 = true := by decide +kernel
set_option maxRecDepth 65536 in
theorem w_heap : heapFits about1 = true := by decide +kernel
set_option maxRecDepth 65536 in
theorem w_runnable : about1.curStatus? = some .runnable := by decide +kernel
set_option maxRecDepth 65536 in
theorem w_alone : about1.alone = true := by decide +kernel
set_option maxRecDepth 65536 in
theorem w_named : about1.methodNamed? x = some theMethod := by decide +kernel
set_option maxRecDepth 65536 in
theorem w_hears : about1.hears theMethod below0 = true := by decide +kernel
set_option maxRecDepth 65536 in
theorem w_ripe : about1.ripe theMethod args0 below0 = true := by decide +kernel
theorem w_running : about1.status = .running := rfl
set_option maxRecDepth 65536 in
theorem w_room : about1.hasRoom e0.platform room_1 = true :=
  launch0.hasRoom_least _ room_1 (by decide +kernel) (by decide +kernel) (by decide +kernel) (by decide +kernel) (by decide +kernel) (by decide +kernel)
theorem allAtoms_all (ts : List Jvm.Cond) (a : Array Jvm.Value) (st : Jvm.State) : (allAtoms ts).before a st = ts.all (fun c => c.before a st) := by
  induction ts with
  | nil => rfl
  | cons c t ih =>
    show (Jvm.Cond.and c (allAtoms t)).before a st = _
    rw [Jvm.Cond.before_and, ih, List.all_cons]
def words1 : List Jvm.Cond := Jvm.Cond.code x code maxLocals ret :: tables_1
/-- a 'code' word, met by the world's own term for the bytes: nothing is compared byte by byte -/
theorem code_word {y : MethodName} {bytes : ByteArray} {mx : Nat} {rt : Option FieldType} {a : Array Value} {s : State} {m : MethodId} {meth : Method} {c : Code} (h1 : s.methodNamed? y = some m) (h2 : s.vm.method? m = some meth) (h3 : meth.code = some c) (h4 : c.code = bytes)
    (h5 : (c.maxLocals == mx && c.exceptionTable.isEmpty && decide (c.maxStack ≤ mostOperands) && decide (meth.sig.returnType = rt) && !meth.locks && decide (parseMethodDescriptor y.desc = some meth.sig)) = true) : (Jvm.Cond.code y bytes mx rt).before a s = true := by
  simp only [Bool.and_eq_true, beq_iff_eq, Bool.not_eq_true', decide_eq_true_eq] at h5
  obtain ⟨⟨⟨⟨⟨g1, g2⟩, g3⟩, g4⟩, g5⟩, g6⟩ := h5
  simp [Cond.before, Cond.holds, Cond.value, h1, h2, h3, h4, g1, g2, g3, g4, g5, g6]
def isCode : Jvm.Cond → Bool
  | .code _ _ _ _ => true
  | _ => false
theorem all_split {L : List Jvm.Cond} {P : Jvm.Cond → Bool} (h1 : L.all (fun c => isCode c || P c) = true) (h2 : ∀ c ∈ L.filter isCode, P c = true) : L.all P = true := by
  refine List.all_eq_true.mpr fun c hc => ?_
  have h := List.all_eq_true.mp h1 c hc
  rcases Bool.eq_false_or_eq_true (isCode c) with hi | hi
  · exact h2 c (List.mem_filter.mpr ⟨hc, hi⟩)
  · simpa [hi] using h
set_option maxRecDepth 65536 in
theorem w_c0 : (Jvm.Cond.code x code maxLocals ret).before args0 about1 = true := code_word (m := ⟨1, 1⟩) (meth := k1m1) (c := k1c1) (by decide +kernel) rfl rfl rfl (by decide +kernel)
set_option maxRecDepth 65536 in
theorem w_c1 : (Jvm.Cond.code ({ cls := "com/example/vagabond/vagabond/SplitMix64", name := "<init>", desc := "(J)V" } : Jvm.MethodName) prog_34_method_1_code (3 : Nat) (Option.none : Option Jvm.ClassFile.FieldType)).before args0 about1 = true := code_word (m := ⟨2, 0⟩) (meth := k2m0) (c := k2c0) (by decide +kernel) rfl rfl rfl (by decide +kernel)
set_option maxRecDepth 65536 in
theorem w_c2 : (Jvm.Cond.code ({ cls := "java/lang/Object", name := "<init>", desc := "()V" } : Jvm.MethodName) object_method_1_code (1 : Nat) (Option.none : Option Jvm.ClassFile.FieldType)).before args0 about1 = true := code_word (m := ⟨0, 0⟩) (meth := k0m0) (c := k0c0) (by decide +kernel) rfl rfl rfl (by decide +kernel)
set_option maxRecDepth 65536 in
theorem w_c3 : (Jvm.Cond.code ({ cls := "com/example/vagabond/vagabond/SplitMix64", name := "nextDouble", desc := "()D" } : Jvm.MethodName) prog_34_method_3_code (1 : Nat) (Option.some Jvm.ClassFile.FieldType.double)).before args0 about1 = true := code_word (m := ⟨2, 2⟩) (meth := k2m2) (c := k2c2) (by decide +kernel) rfl rfl rfl (by decide +kernel)
set_option maxRecDepth 65536 in
theorem w_c4 : (Jvm.Cond.code ({ cls := "com/example/vagabond/vagabond/SplitMix64", name := "nextLong", desc := "()J" } : Jvm.MethodName) prog_34_method_2_code (3 : Nat) (Option.some Jvm.ClassFile.FieldType.long)).before args0 about1 = true := code_word (m := ⟨2, 1⟩) (meth := k2m1) (c := k2c1) (by decide +kernel) rfl rfl rfl (by decide +kernel)
def codes1 : List Jvm.Cond := [Jvm.Cond.code x code maxLocals ret, Jvm.Cond.code ({ cls := "com/example/vagabond/vagabond/SplitMix64", name := "<init>", desc := "(J)V" } : Jvm.MethodName) prog_34_method_1_code (3 : Nat) (Option.none : Option Jvm.ClassFile.FieldType), Jvm.Cond.code ({ cls := "java/lang/Object", name := "<init>", desc := "()V" } : Jvm.MethodName) object_method_1_code (1 : Nat) (Option.none : Option Jvm.ClassFile.FieldType), Jvm.Cond.code ({ cls := "com/example/vagabond/vagabond/SplitMix64", name := "nextDouble", desc := "()D" } : Jvm.MethodName) prog_34_method_3_code (1 : Nat) (Option.some Jvm.ClassFile.FieldType.double), Jvm.Cond.code ({ cls := "com/example/vagabond/vagabond/SplitMix64", name := "nextLong", desc := "()J" } : Jvm.MethodName) prog_34_method_2_code (3 : Nat) (Option.some Jvm.ClassFile.FieldType.long)]
set_option maxRecDepth 65536 in
theorem codes_eq : words1.filter isCode = codes1 := rfl
theorem w_codes : ∀ c ∈ words1.filter isCode, c.before args0 about1 = true := by
  rw [codes_eq]
  intro c hc
  simp only [codes1, List.mem_cons, List.not_mem_nil, or_false] at hc
  rcases hc with rfl | rfl | rfl | rfl | rfl
  · exact w_c0
  · exact w_c1
  · exact w_c2
  · exact w_c3
  · exact w_c4
set_option maxRecDepth 65536 in
theorem w_t1 : (words1.take 24).all (fun c => isCode c || c.before args0 about1) = true := by decide +kernel
set_option maxRecDepth 65536 in
theorem w_t2 : (words1.drop 24).all (fun c => isCode c || c.before args0 about1) = true := by decide +kernel
theorem w_tables : (allAtoms (Jvm.Cond.code x code maxLocals ret :: tables_1)).before args0 about1 = true := by
  rw [allAtoms_all]
  show words1.all (fun c => c.before args0 about1) = true
  refine all_split ?_ w_codes
  rw [← List.take_append_drop 24 words1, List.all_append, w_t1, w_t2]
  rfl
set_option maxRecDepth 65536 in
theorem w_case : (Jvm.Cond.and given_1 narrow_1).before args0 about1 = true := by decide +kernel
theorem w_applies : (headSpec (Jvm.Cond.code x code maxLocals ret :: tables_1) room_1).applies x e0.platform about1 = true :=
  (Spec.applies_iff w_frames).mpr ⟨w_running, w_runnable, w_alone, w_named, w_hears, w_ripe, w_room, w_tables⟩
theorem atStart : AtStart classFile x code maxLocals ret World_1 tables_1 room_1 Calls_1 rest_1 Pre_1 launch0 p0 e0 about1 theMethod args0 below0 :=
  ⟨lists_1, trivial, launch0.admits_env _ _ _, launch0.least_env, fairChoices_fair.cas, fairChoices_fair.clock, w_frames, w_args, w_heap, w_applies, trivial, trivial, w_case⟩
end start1
theorem witness_1 : WitnessClaimed_1 := ⟨start1.p0, start1.e0, start1.about1, start1.theMethod, start1.args0, start1.below0, start1.atStart⟩
end Jvm.Pilot.@@N@@
