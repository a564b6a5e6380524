import JvmDerived
import JvmDerived.Pilot.@@N@@Statement
import JvmDerived.Pilot.@@N@@Code
set_option linter.unusedVariables false
set_option linter.unusedSimpArgs false
@@BLOCK:NumsL.lean.txt@@
namespace Jvm.Pilot.@@N@@
open Jvm Jvm.ClassFile Sem Op Lib Jvm.Free Jvm.Stand Jvm.LawKit Jvm.RoadKit Bundle Jvm.Pilot.@@N@@.Jvm.D
/-- what a body still owes at the state U: that it comes to a return with Q, within kc cells and ks slots -/
def Ow (p : Program) (e : Env) (below : List Frame) (s : State) (Q : Option Value → Heap → List Loc → Prop) (kc ks : Nat) (U : State) : Prop :=
  ∃ s₂ o, Steps p.tables e below U s₂ ∧ s₂.status = .running ∧ Ended s₂ below o ∧ ∃ v L, o = .returned v ∧ Q v s₂.heap L ∧ FrameEnd s o s₂ L kc ks
def lsr64 (x : Int64) (y : Int32) : Int64 := ((x.toUInt64 >>> (y &&& 0x3f).toInt64.toUInt64).toInt64)
def lsr32 (x y : Int32) : Int32 := ((x.toUInt32 >>> (y &&& 31).toUInt32).toInt32)
section W
variable {p : Program} {l : Launch} {e : Env} {R : Room} {s : State} {m : MethodId} {args : Array Value} {below : List Frame} {meth : Method} {c : Code} {T : State} {locs : List Loc} {cells slots : Nat} {Q : Option Value → Heap → List Loc → Prop} {kc ks : Nat} {pc pc' : Nat} {Ls Ls' : Array Slot} {st : List Value} {Z : State} {a0 : Array Value} {h : Heap}
theorem Ow.go {U U' : State} (k : Steps p.tables e below U U') (o : Ow p e below s Q kc ks U') : Ow p e below s Q kc ks U := by
  obtain ⟨s₂, o', h1, h2⟩ := o
  exact ⟨s₂, o', k.trans h1, h2⟩
theorem Ow.via {U U' : State} (k : ∀ t, Steps p.tables e below U' t → Steps p.tables e below U t) (o : Ow p e below s Q kc ks U') : Ow p e below s Q kc ks U := Ow.go (k _ (Steps.refl _)) o
theorem Ow.enter {n : Nat} (q : entryFrame m args n = mkF m 0 Ls []) (k : Ow p e below s Q kc ks (T.setTop (mkF m 0 Ls []))) :
    ∃ s₂ o, Steps p.tables e below (T.setTop (entryFrame m args n)) s₂ ∧ s₂.status = .running ∧ Ended s₂ below o ∧ ∃ v L, o = .returned v ∧ Q v s₂.heap L ∧ FrameEnd s o s₂ L kc ks := by
  rw [q]; exact k
theorem Ow.join {U : State} (T' : State) (g' : JFrame) (f : Ow p e below s Q kc ks (T'.setTop g') → Ow p e below s Q kc ks U) (k : Ow p e below s Q kc ks (T'.setTop g')) : Ow p e below s Q kc ks U := f k
theorem w_iloadN (X : Stand p l e R s m args below meth c T locs cells slots) (hx : p.tables.exec = Jvm.exec) {k : Fin 4} {v : Int32} (hd : decode c.code pc = .ok (.iload_n k, 1)) (hl : Ls[k.val]? = some (.val (.int v))) (hp : pc + 1 = pc') (k : Ow p e below s Q kc ks (T.setTop (mkF m pc' Ls (.int v :: st)))) : Ow p e below s Q kc ks (T.setTop (mkF m pc Ls st)) := by
  subst hp; exact Ow.go (XS.iloadN X.here hx rfl hd hl (Steps.refl _)) k
theorem w_iload (X : Stand p l e R s m args below meth c T locs cells slots) (hx : p.tables.exec = Jvm.exec) {k : Nat} {v : Int32} (hd : decode c.code pc = .ok (.iload k, 2)) (hl : Ls[k]? = some (.val (.int v))) (hp : pc + 2 = pc') (k : Ow p e below s Q kc ks (T.setTop (mkF m pc' Ls (.int v :: st)))) : Ow p e below s Q kc ks (T.setTop (mkF m pc Ls st)) := by
  subst hp; exact Ow.go (XS.iload X.here hx rfl hd hl (Steps.refl _)) k
theorem w_istoreN (X : Stand p l e R s m args below meth c T locs cells slots) (hx : p.tables.exec = Jvm.exec) {k : Fin 4} {v : Int32} (hd : decode c.code pc = .ok (.istore_n k, 1)) (Ls' : Array Slot) (hl : storeLocals Ls k.val (.int v) = some Ls') (hp : pc + 1 = pc') (k : Ow p e below s Q kc ks (T.setTop (mkF m pc' Ls' st))) : Ow p e below s Q kc ks (T.setTop (mkF m pc Ls (.int v :: st))) := by
  subst hp; exact Ow.go (XS.istoreN X.here hx rfl hd rfl hl (Steps.refl _)) k
theorem w_istore (X : Stand p l e R s m args below meth c T locs cells slots) (hx : p.tables.exec = Jvm.exec) {k : Nat} {v : Int32} (hd : decode c.code pc = .ok (.istore k, 2)) (Ls' : Array Slot) (hl : storeLocals Ls k (.int v) = some Ls') (hp : pc + 2 = pc') (k : Ow p e below s Q kc ks (T.setTop (mkF m pc' Ls' st))) : Ow p e below s Q kc ks (T.setTop (mkF m pc Ls (.int v :: st))) := by
  subst hp; exact Ow.go (XS.istore X.here hx rfl hd rfl hl (Steps.refl _)) k
theorem w_aloadN (X : Stand p l e R s m args below meth c T locs cells slots) (hx : p.tables.exec = Jvm.exec) {k : Fin 4} {v : Value} (hd : decode c.code pc = .ok (.aload_n k, 1)) (hl : Ls[k.val]? = some (.val v)) (hv : v.isRef = true) (hp : pc + 1 = pc') (k : Ow p e below s Q kc ks (T.setTop (mkF m pc' Ls (v :: st)))) : Ow p e below s Q kc ks (T.setTop (mkF m pc Ls st)) := by
  subst hp; exact Ow.go (XS.aloadN X.here hx rfl hd hl hv (Steps.refl _)) k
theorem w_aload (X : Stand p l e R s m args below meth c T locs cells slots) (hx : p.tables.exec = Jvm.exec) {k : Nat} {v : Value} (hd : decode c.code pc = .ok (.aload k, 2)) (hl : Ls[k]? = some (.val v)) (hv : v.isRef = true) (hp : pc + 2 = pc') (k : Ow p e below s Q kc ks (T.setTop (mkF m pc' Ls (v :: st)))) : Ow p e below s Q kc ks (T.setTop (mkF m pc Ls st)) := by
  subst hp; exact Ow.go (XS.aload X.here hx rfl hd hl hv (Steps.refl _)) k
theorem w_astoreN (X : Stand p l e R s m args below meth c T locs cells slots) (hx : p.tables.exec = Jvm.exec) {k : Fin 4} {v : Value} (hd : decode c.code pc = .ok (.astore_n k, 1)) (Ls' : Array Slot) (hl : storeLocals Ls k.val v = some Ls') (hv : v.isRef = true) (hp : pc + 1 = pc') (k : Ow p e below s Q kc ks (T.setTop (mkF m pc' Ls' st))) : Ow p e below s Q kc ks (T.setTop (mkF m pc Ls (v :: st))) := by
  subst hp; exact Ow.go (XS.astoreN X.here hx rfl hd rfl hv hl (Steps.refl _)) k
theorem w_astore (X : Stand p l e R s m args below meth c T locs cells slots) (hx : p.tables.exec = Jvm.exec) {k : Nat} {v : Value} (hd : decode c.code pc = .ok (.astore k, 2)) (Ls' : Array Slot) (hl : storeLocals Ls k v = some Ls') (hv : v.isRef = true) (hp : pc + 2 = pc') (k : Ow p e below s Q kc ks (T.setTop (mkF m pc' Ls' st))) : Ow p e below s Q kc ks (T.setTop (mkF m pc Ls (v :: st))) := by
  subst hp; exact Ow.go (XS.astore X.here hx rfl hd rfl hv hl (Steps.refl _)) k
theorem w_iconst (X : Stand p l e R s m args below meth c T locs cells slots) (hx : p.tables.exec = Jvm.exec) {i : Int} (v : Int32) (hd : decode c.code pc = .ok (.iconst i, 1)) (hv : Int32.ofInt i = v) (hp : pc + 1 = pc') (k : Ow p e below s Q kc ks (T.setTop (mkF m pc' Ls (.int v :: st)))) : Ow p e below s Q kc ks (T.setTop (mkF m pc Ls st)) := by
  subst hp hv; exact Ow.go (XS.iconst X.here hx rfl hd (Steps.refl _)) k
theorem w_bipush (X : Stand p l e R s m args below meth c T locs cells slots) (hx : p.tables.exec = Jvm.exec) {i : Int} (v : Int32) (hd : decode c.code pc = .ok (.bipush i, 2)) (hv : (Int8.ofInt i).toInt32 = v) (hp : pc + 2 = pc') (k : Ow p e below s Q kc ks (T.setTop (mkF m pc' Ls (.int v :: st)))) : Ow p e below s Q kc ks (T.setTop (mkF m pc Ls st)) := by
  subst hp hv; exact Ow.go (XS.bipush X.here hx rfl hd (Steps.refl _)) k
theorem w_ldcI (X : Stand p l e R s m args below meth c T locs cells slots) (hx : p.tables.exec = Jvm.exec) (hZ : Z.Warmed39 s.vm) {own : String} {index : Nat} {v : Int32} (hown : s.vm.findClass own = some m.cls) (w : (Cond.constant own index v).before a0 Z = true) (hd : decode c.code pc = .ok (.ldc index, 2)) (hp : pc + 2 = pc') (k : Ow p e below s Q kc ks (T.setTop (mkF m pc' Ls (.int v :: st)))) : Ow p e below s Q kc ks (T.setTop (mkF m pc Ls st)) := by
  subst hp; exact Ow.via (X.ldcInt hx hown (mvT hZ w) (g := mkF m pc Ls st) rfl hd) k
theorem w_iadd (X : Stand p l e R s m args below meth c T locs cells slots) (hx : p.tables.exec = Jvm.exec) {x y : Int32} (hd : decode c.code pc = .ok (.iadd, 1))  (hp : pc + 1 = pc') (k : Ow p e below s Q kc ks (T.setTop (mkF m pc' Ls (.int (x + y) :: st)))) : Ow p e below s Q kc ks (T.setTop (mkF m pc Ls (.int y :: .int x :: st))) := by
  subst hp; exact Ow.go (XS.iadd X.here hx rfl hd rfl (Steps.refl _)) k
theorem w_isub (X : Stand p l e R s m args below meth c T locs cells slots) (hx : p.tables.exec = Jvm.exec) {x y : Int32} (hd : decode c.code pc = .ok (.isub, 1))  (hp : pc + 1 = pc') (k : Ow p e below s Q kc ks (T.setTop (mkF m pc' Ls (.int (x - y) :: st)))) : Ow p e below s Q kc ks (T.setTop (mkF m pc Ls (.int y :: .int x :: st))) := by
  subst hp; exact Ow.go (XS.isub X.here hx rfl hd rfl (Steps.refl _)) k
theorem w_imul (X : Stand p l e R s m args below meth c T locs cells slots) (hx : p.tables.exec = Jvm.exec) {x y : Int32} (hd : decode c.code pc = .ok (.imul, 1))  (hp : pc + 1 = pc') (k : Ow p e below s Q kc ks (T.setTop (mkF m pc' Ls (.int (x * y) :: st)))) : Ow p e below s Q kc ks (T.setTop (mkF m pc Ls (.int y :: .int x :: st))) := by
  subst hp; exact Ow.go (XS.imul X.here hx rfl hd rfl (Steps.refl _)) k
theorem w_iand (X : Stand p l e R s m args below meth c T locs cells slots) (hx : p.tables.exec = Jvm.exec) {x y : Int32} (hd : decode c.code pc = .ok (.iand, 1))  (hp : pc + 1 = pc') (k : Ow p e below s Q kc ks (T.setTop (mkF m pc' Ls (.int (x &&& y) :: st)))) : Ow p e below s Q kc ks (T.setTop (mkF m pc Ls (.int y :: .int x :: st))) := by
  subst hp; exact Ow.go (XS.iand X.here hx rfl hd rfl (Steps.refl _)) k
theorem w_ixor (X : Stand p l e R s m args below meth c T locs cells slots) (hx : p.tables.exec = Jvm.exec) {x y : Int32} (hd : decode c.code pc = .ok (.ixor, 1))  (hp : pc + 1 = pc') (k : Ow p e below s Q kc ks (T.setTop (mkF m pc' Ls (.int (x ^^^ y) :: st)))) : Ow p e below s Q kc ks (T.setTop (mkF m pc Ls (.int y :: .int x :: st))) := by
  subst hp; exact Ow.go (XS.ixor X.here hx rfl hd rfl (Steps.refl _)) k
theorem w_iushr (X : Stand p l e R s m args below meth c T locs cells slots) (hx : p.tables.exec = Jvm.exec) {x y : Int32} (hd : decode c.code pc = .ok (.iushr, 1))  (hp : pc + 1 = pc') (k : Ow p e below s Q kc ks (T.setTop (mkF m pc' Ls (.int (lsr32 x y) :: st)))) : Ow p e below s Q kc ks (T.setTop (mkF m pc Ls (.int y :: .int x :: st))) := by
  subst hp; exact Ow.go (XS.iushr X.here hx rfl hd rfl (Steps.refl _)) k
theorem w_irem (X : Stand p l e R s m args below meth c T locs cells slots) (hx : p.tables.exec = Jvm.exec) {x y : Int32} (hd : decode c.code pc = .ok (.irem, 1)) (hy : ¬ y = 0) (hp : pc + 1 = pc') (k : Ow p e below s Q kc ks (T.setTop (mkF m pc' Ls (.int (x % y) :: st)))) : Ow p e below s Q kc ks (T.setTop (mkF m pc Ls (.int y :: .int x :: st))) := by
  subst hp; exact Ow.go (iremM X hx (g := mkF m pc Ls (.int y :: .int x :: st)) rfl hd rfl hy (Steps.refl _)) k
theorem w_iinc (X : Stand p l e R s m args below meth c T locs cells slots) (hx : p.tables.exec = Jvm.exec) {k : Nat} {i : Int} {x : Int32} (hd : decode c.code pc = .ok (.iinc k i, 3)) (hl : Ls[k]? = some (.val (.int x))) (Ls' : Array Slot) (hl' : storeLocals Ls k (.int (x + Int32.ofInt i)) = some Ls') (hp : pc + 3 = pc') (k : Ow p e below s Q kc ks (T.setTop (mkF m pc' Ls' st))) : Ow p e below s Q kc ks (T.setTop (mkF m pc Ls st)) := by
  subst hp; exact Ow.go (XS.iinc X.here hx rfl hd hl hl' (Steps.refl _)) k
theorem w_dup (X : Stand p l e R s m args below meth c T locs cells slots) (hx : p.tables.exec = Jvm.exec) {x : Value} (hd : decode c.code pc = .ok (.dup, 1)) (hc : x.category = 1) (hp : pc + 1 = pc') (k : Ow p e below s Q kc ks (T.setTop (mkF m pc' Ls (x :: x :: st)))) : Ow p e below s Q kc ks (T.setTop (mkF m pc Ls (x :: st))) := by
  subst hp; exact Ow.go (XS.dup X.here hx rfl hd rfl hc (Steps.refl _)) k
theorem w_goto (X : Stand p l e R s m args below meth c T locs cells slots) (hx : p.tables.exec = Jvm.exec) {o : Int} (hd : decode c.code pc = .ok (.goto o, 3)) (ho : 0 ≤ (pc : Int) + o) (hp : ((pc : Int) + o).toNat = pc') (k : Ow p e below s Q kc ks (T.setTop (mkF m pc' Ls st))) : Ow p e below s Q kc ks (T.setTop (mkF m pc Ls st)) := by
  exact Ow.go (XS.goto X.here hx rfl (pc0 := pc) rfl hd ho hp (Steps.refl _)) k
theorem w_icmp_eq (X : Stand p l e R s m args below meth c T locs cells slots) (hx : p.tables.exec = Jvm.exec) {x y : Int32} {o : Int} {pcT pcF : Nat} (hd : decode c.code pc = .ok (.if_icmp .eq o, 3)) (ho : 0 ≤ (pc : Int) + o) (ht : ((pc : Int) + o).toNat = pcT) (hp : pc + 3 = pcF) (k1 : x = y → Ow p e below s Q kc ks (T.setTop (mkF m pcT Ls st))) (k2 : ¬ (x = y) → Ow p e below s Q kc ks (T.setTop (mkF m pcF Ls st))) : Ow p e below s Q kc ks (T.setTop (mkF m pc Ls (.int y :: .int x :: st))) := by
  subst hp
  by_cases q : x = y
  · exact Ow.go (XS.icmpYes X.here hx rfl (pc0 := pc) rfl hd rfl (teq q).1 ho ht (Steps.refl _)) (k1 q)
  · exact Ow.go (XS.icmpNo X.here hx rfl hd rfl (feq q).1 (Steps.refl _)) (k2 q)
theorem w_icmp_ne (X : Stand p l e R s m args below meth c T locs cells slots) (hx : p.tables.exec = Jvm.exec) {x y : Int32} {o : Int} {pcT pcF : Nat} (hd : decode c.code pc = .ok (.if_icmp .ne o, 3)) (ho : 0 ≤ (pc : Int) + o) (ht : ((pc : Int) + o).toNat = pcT) (hp : pc + 3 = pcF) (k1 : ¬ (x = y) → Ow p e below s Q kc ks (T.setTop (mkF m pcT Ls st))) (k2 : x = y → Ow p e below s Q kc ks (T.setTop (mkF m pcF Ls st))) : Ow p e below s Q kc ks (T.setTop (mkF m pc Ls (.int y :: .int x :: st))) := by
  subst hp
  by_cases q : x = y
  · exact Ow.go (XS.icmpNo X.here hx rfl hd rfl (teq q).2 (Steps.refl _)) (k2 q)
  · exact Ow.go (XS.icmpYes X.here hx rfl (pc0 := pc) rfl hd rfl (feq q).2 ho ht (Steps.refl _)) (k1 q)
theorem w_if_ne (X : Stand p l e R s m args below meth c T locs cells slots) (hx : p.tables.exec = Jvm.exec) {x : Int32} {o : Int} {pcT pcF : Nat} (hd : decode c.code pc = .ok (.ifCond .ne o, 3)) (ho : 0 ≤ (pc : Int) + o) (ht : ((pc : Int) + o).toNat = pcT) (hp : pc + 3 = pcF) (k1 : ¬ (x = (0 : Int32)) → Ow p e below s Q kc ks (T.setTop (mkF m pcT Ls st))) (k2 : x = (0 : Int32) → Ow p e below s Q kc ks (T.setTop (mkF m pcF Ls st))) : Ow p e below s Q kc ks (T.setTop (mkF m pc Ls (.int x :: st))) := by
  subst hp
  by_cases q : x = (0 : Int32)
  · exact Ow.go (XS.ifNo X.here hx rfl hd rfl ((if0 _ _).trans (teq q).2) (Steps.refl _)) (k2 q)
  · exact Ow.go (XS.ifYes X.here hx rfl (pc0 := pc) rfl hd rfl ((if0 _ _).trans (feq q).2) ho ht (Steps.refl _)) (k1 q)
theorem w_icmp_lt (X : Stand p l e R s m args below meth c T locs cells slots) (hx : p.tables.exec = Jvm.exec) {x y : Int32} {o : Int} {pcT pcF : Nat} (hd : decode c.code pc = .ok (.if_icmp .lt o, 3)) (ho : 0 ≤ (pc : Int) + o) (ht : ((pc : Int) + o).toNat = pcT) (hp : pc + 3 = pcF) (k1 : x < y → Ow p e below s Q kc ks (T.setTop (mkF m pcT Ls st))) (k2 : ¬ (x < y) → Ow p e below s Q kc ks (T.setTop (mkF m pcF Ls st))) : Ow p e below s Q kc ks (T.setTop (mkF m pc Ls (.int y :: .int x :: st))) := by
  subst hp
  by_cases q : x < y
  · exact Ow.go (XS.icmpYes X.here hx rfl (pc0 := pc) rfl hd rfl (tlt q).1 ho ht (Steps.refl _)) (k1 q)
  · exact Ow.go (XS.icmpNo X.here hx rfl hd rfl (flt q).1 (Steps.refl _)) (k2 q)
theorem w_icmp_ge (X : Stand p l e R s m args below meth c T locs cells slots) (hx : p.tables.exec = Jvm.exec) {x y : Int32} {o : Int} {pcT pcF : Nat} (hd : decode c.code pc = .ok (.if_icmp .ge o, 3)) (ho : 0 ≤ (pc : Int) + o) (ht : ((pc : Int) + o).toNat = pcT) (hp : pc + 3 = pcF) (k1 : ¬ (x < y) → Ow p e below s Q kc ks (T.setTop (mkF m pcT Ls st))) (k2 : x < y → Ow p e below s Q kc ks (T.setTop (mkF m pcF Ls st))) : Ow p e below s Q kc ks (T.setTop (mkF m pc Ls (.int y :: .int x :: st))) := by
  subst hp
  by_cases q : x < y
  · exact Ow.go (XS.icmpNo X.here hx rfl hd rfl (tlt q).2.1 (Steps.refl _)) (k2 q)
  · exact Ow.go (XS.icmpYes X.here hx rfl (pc0 := pc) rfl hd rfl (flt q).2.1 ho ht (Steps.refl _)) (k1 q)
theorem w_icmp_le (X : Stand p l e R s m args below meth c T locs cells slots) (hx : p.tables.exec = Jvm.exec) {x y : Int32} {o : Int} {pcT pcF : Nat} (hd : decode c.code pc = .ok (.if_icmp .le o, 3)) (ho : 0 ≤ (pc : Int) + o) (ht : ((pc : Int) + o).toNat = pcT) (hp : pc + 3 = pcF) (k1 : ¬ (y < x) → Ow p e below s Q kc ks (T.setTop (mkF m pcT Ls st))) (k2 : y < x → Ow p e below s Q kc ks (T.setTop (mkF m pcF Ls st))) : Ow p e below s Q kc ks (T.setTop (mkF m pc Ls (.int y :: .int x :: st))) := by
  subst hp
  by_cases q : y < x
  · exact Ow.go (XS.icmpNo X.here hx rfl hd rfl (tlt q).2.2.2 (Steps.refl _)) (k2 q)
  · exact Ow.go (XS.icmpYes X.here hx rfl (pc0 := pc) rfl hd rfl (flt q).2.2.2 ho ht (Steps.refl _)) (k1 q)
theorem w_ireturn (X : Stand p l e R s m args below meth c T locs cells slots) (hx : p.tables.exec = Jvm.exec) {z : Int32} (hret : meth.sig.returnType = some .int)  (hlk : meth.locks = false) (hc : cells ≤ kc) (hs : slots ≤ ks) (hd : decode c.code pc = .ok (.ireturn, 1)) (hq : Q (some (.int z)) T.heap locs) : Ow p e below s Q kc ks (T.setTop (mkF m pc Ls (.int z :: st))) := by
  obtain ⟨fs, hr, hrun, hended, hW, hsame⟩ := X.leave (v := some (.int z)) (fun h => by rw [hret] at h; cases h) hlk
  exact ⟨_, _, retOut X hx (t := .int) hret rfl (Or.inl ⟨rfl, Or.inl rfl, _, rfl⟩) hd hr, hrun, hended, _, _, rfl, hq, ⟨_, rfl⟩, hW, hsame.mono hc hs⟩
theorem w_zreturn (X : Stand p l e R s m args below meth c T locs cells slots) (hx : p.tables.exec = Jvm.exec) {z : Int32} (hret : meth.sig.returnType = some .boolean) (hz : z = 0 ∨ z = 1) (hlk : meth.locks = false) (hc : cells ≤ kc) (hs : slots ≤ ks) (hd : decode c.code pc = .ok (.ireturn, 1)) (hq : Q (some (.int z)) T.heap locs) : Ow p e below s Q kc ks (T.setTop (mkF m pc Ls (.int z :: st))) := by
  obtain ⟨fs, hr, hrun, hended, hW, hsame⟩ := X.leave (v := some (.int z)) (fun h => by rw [hret] at h; cases h) hlk
  exact ⟨_, _, retOut X hx (t := .boolean) hret (by rcases hz with rfl | rfl <;> rfl) (Or.inl ⟨rfl, Or.inr (Or.inl rfl), _, rfl⟩) hd hr, hrun, hended, _, _, rfl, hq, ⟨_, rfl⟩, hW, hsame.mono hc hs⟩
theorem w_areturn (X : Stand p l e R s m args below meth c T locs cells slots) (hx : p.tables.exec = Jvm.exec) {a : Addr} {t : FieldType} (hret : meth.sig.returnType = some t) (ht : t.isReference = true) (hn : narrow t (.ref a) = .ref a) (hlk : meth.locks = false) (hc : cells ≤ kc) (hs : slots ≤ ks) (hd : decode c.code pc = .ok (.areturn, 1)) (hq : Q (some (.ref a)) T.heap locs) : Ow p e below s Q kc ks (T.setTop (mkF m pc Ls (.ref a :: st))) := by
  obtain ⟨fs, hr, hrun, hended, hW, hsame⟩ := X.leave (v := some (.ref a)) (fun h => by rw [hret] at h; cases h) hlk
  exact ⟨_, _, retOut X hx (t := t) hret hn (Or.inr (Or.inr (Or.inr (Or.inr ⟨rfl, ht, rfl⟩)))) hd hr, hrun, hended, _, _, rfl, hq, ⟨_, rfl⟩, hW, hsame.mono hc hs⟩
theorem w_return (X : Stand p l e R s m args below meth c T locs cells slots) (hx : p.tables.exec = Jvm.exec) (hret : meth.sig.returnType = none) (hlk : meth.locks = false) (hc : cells ≤ kc) (hs : slots ≤ ks) (hd : decode c.code pc = .ok (.return_, 1)) (hq : Q none T.heap locs) : Ow p e below s Q kc ks (T.setTop (mkF m pc Ls [])) := by
  obtain ⟨fs, hr, hrun, hended, hW, hsame⟩ := X.leave (v := none) (fun _ => rfl) hlk
  exact ⟨_, _, X.returnOut hx hret hd hr, hrun, hended, _, _, rfl, hq, ⟨_, rfl⟩, hW, hsame.mono hc hs⟩
theorem w_getfield (X : Stand p l e R s m args below meth c T locs cells slots) (hx : p.tables.exec = Jvm.exec) (hZ : Z.Warmed39 s.vm) {own R0 O n d host : String} {index : Nat} (hown : s.vm.findClass own = some m.cls) (w : (Cond.fieldLink own index R0 n d).before a0 Z = true ∨ (Cond.fieldLinkNest own index R0 n d host).before a0 Z = true) (via : Via Z R0 O n d) (eT : T.heap = h) {a : Addr} {v : Value} (F : Fld Z h a O n d v) (hd : decode c.code pc = .ok (.getfield index, 3)) (hp : pc + 3 = pc') (k : ∀ T', Stand p l e R s m args below meth c T' locs cells slots → T'.heap = h → Ow p e below s Q kc ks (T'.setTop (mkF m pc' Ls (v :: st)))) : Ow p e below s Q kc ks (T.setTop (mkF m pc Ls (.ref a :: st))) := by
  subst hp
  obtain ⟨T', X', e', st'⟩ := getF X hx hZ hown w via eT F (g := mkF m pc Ls (.ref a :: st)) rfl rfl hd
  exact Ow.via st' (k T' X' e')
theorem w_putfield (X : Stand p l e R s m args below meth c T locs cells slots) (hx : p.tables.exec = Jvm.exec) (hZ : Z.Warmed39 s.vm) {own R0 O n d host C : String} {index kk : Nat} {ty : FieldType} (hown : s.vm.findClass own = some m.cls) (w : (Cond.fieldLink own index R0 n d).before a0 Z = true ∨ (Cond.fieldLinkNest own index R0 n d host).before a0 Z = true) (via : Via Z R0 O n d) (eT : T.heap = h) {a : Addr} {v old : Value} (F : Fld Z h a O n d old) (E : Exa Z h a C) (L : (Cond.lays C O n d).before a0 Z = true ∨ ((Cond.laysFinal C O n d).before a0 Z = true ∧ own = O ∧ meth.name = "<init>")) (wi : (Cond.instantiable C kk).before a0 Z = true) (hty : parseFieldDescriptor d = some ty) (hn : narrow ty v = v) (hf : fits ty v = true) (hd : decode c.code pc = .ok (.putfield index, 3)) (hp : pc + 3 = pc') (k : ∀ T' h', Stand p l e R s m args below meth c T' (locs ++ [⟨a, RoadKit.slotOf Z O n d⟩]) cells slots → T'.heap = h' → Wr h h' a (RoadKit.slotOf Z O n d) v → Ow p e below s Q kc ks (T'.setTop (mkF m pc' Ls st))) : Ow p e below s Q kc ks (T.setTop (mkF m pc Ls (v :: .ref a :: st))) := by
  subst hp
  obtain ⟨T', h', X', e', W', st'⟩ := putF X hx hZ hown w via eT F E L wi hty hn hf (g := mkF m pc Ls (v :: .ref a :: st)) rfl rfl hd
  exact Ow.via st' (k T' h' X' e' W')
theorem w_new (X : Stand p l e R s m args below meth c T locs cells slots) (hx : p.tables.exec = Jvm.exec) (hZ : Z.Warmed39 s.vm) {own C : String} {index n : Nat} (hown : s.vm.findClass own = some m.cls) (w : (Cond.classLink own index C).before a0 Z = true) (wi : (Cond.instantiable C n).before a0 Z = true) (wz : (Cond.initialized C).before a0 Z = true) (eT : T.heap = h) (hd : decode c.code pc = .ok (.new index, 3)) (hc : cells + 1 ≤ R.cells) (hl : slots + n ≤ R.slots) (hp : pc + 3 = pc') (k : ∀ T' h' a, a = h.size → Stand p l e R s m args below meth c T' locs (cells + 1) (slots + n) → T'.heap = h' → Ext h h' → Exa Z h' a C → (∀ {O nm d : String} {ty : FieldType}, Laid Z a0 C O nm d → parseFieldDescriptor d = some ty → Fld Z h' a O nm d (defaultValue ty)) → Ow p e below s Q kc ks (T'.setTop (mkF m pc' Ls (.ref a :: st)))) : Ow p e below s Q kc ks (T.setTop (mkF m pc Ls st)) := by
  subst hp
  obtain ⟨T', h', X', e', E', A', D', -, st'⟩ := newO X hx hZ hown w wi wz eT (g := mkF m pc Ls st) rfl hd hc hl
  exact Ow.via st' (k T' h' _ rfl X' e' E' A' D')
theorem w_objinit (X : Stand p l e R s m args below meth c T locs cells slots) (hx : p.tables.exec = Jvm.exec) (hZ : Z.Warmed39 s.vm) {own : String} {idx : Nat} (hown : s.vm.findClass own = some m.cls) (w1 : (Cond.methodLink own idx Lib.objectInit).before a0 Z = true) (w2 : (Cond.instanceMethod Lib.objectInit).before a0 Z = true) (w3 : (Cond.code Lib.objectInit ⟨#[0xb1]⟩ 1 none).before a0 Z = true) (eT : T.heap = h) {a : Addr} (hd : decode c.code pc = .ok (.invokespecial idx, 3)) (hsz : Ls.size = c.maxLocals) (hf : 1 ≤ R.frames) {W : Nat} (hW : (st.map fun v => v.category).sum ≤ W) (hl : W + 12 ≤ R.locals) (hp : pc + 3 = pc') (k : ∀ T', Stand p l e R s m args below meth c T' locs cells slots → T'.heap = h → Ow p e below s Q kc ks (T'.setTop (mkF m pc' Ls st))) : Ow p e below s Q kc ks (T.setTop (mkF m pc Ls (.ref a :: st))) := by
  subst hp
  obtain ⟨T', X', e', st'⟩ := initO X hx hZ hown w1 w2 w3 eT (g := mkF m pc Ls (.ref a :: st)) rfl hsz rfl hd hf (W := W) (by show 2 * 0 + _ ≤ _; omega) hl
  exact Ow.via st' (k T' X' e')
theorem w_callS (X : Stand p l e R s m args below meth c T locs cells slots) (hx : p.tables.exec = Jvm.exec) (hZ : Z.Warmed39 s.vm) {own : String} {index : Nat} {y : MethodName} {bytes : ByteArray} {maxL : Nat} {ret : Option FieldType} (hown : s.vm.findClass own = some m.cls) (w1 : (Cond.methodLink own index y).before a0 Z = true) (w2 : (Cond.static y).before a0 Z = true) (w3 : (Cond.initialized y.cls).before a0 Z = true) (w4 : (Cond.code y bytes maxL ret).before a0 Z = true) (hy : y.cls ≠ "java/lang/invoke/MethodHandle" ∧ y.cls ≠ "java/lang/invoke/VarHandle") {rm : Room} {as' : Array Value} {Qf : Option Value → Heap → List Loc → Prop} {W : Nat} (hM : MetFree l y (head1 [Cond.code y bytes maxL ret] rm) (fun a U => a = as' ∧ Z.Warmed39 U.vm ∧ U.heap = h) (fun _ _ _ _ _ => True) (fun _ U o U' => ∃ v L, o = .returned v ∧ Qf v U'.heap L ∧ FrameEnd U o U' L rm.cells rm.slots)) (eT : T.heap = h) (hf : rm.frames + 1 ≤ R.frames) (hlo : W + (maxL + 11) + rm.locals ≤ R.locals) (hc : cells + rm.cells ≤ R.cells) (hs : slots + rm.slots ≤ R.slots) (hd : decode c.code pc = .ok (.invokestatic index, 3)) (hsz : Ls.size = c.maxLocals) {argsL rest : List Value} {ps : List FieldType} {r : Option FieldType} (pd : parseMethodDescriptor y.desc = some ⟨ps, r⟩) (hlen : argsL.length = ps.length) (hst : st = argsL.reverse ++ rest) (has : argsL.toArray = as') (hW : (rest.map fun v => v.category).sum ≤ W) (hp : pc + 3 = pc') (k : ∀ v T' L, Stand p l e R s m args below meth c T' (locs ++ L) (cells + rm.cells) (slots + rm.slots) → Qf v T'.heap L → Ow p e below s Q kc ks (T'.setTop (mkF m pc' Ls (v.toList ++ rest)))) : Ow p e below s Q kc ks (T.setTop (mkF m pc Ls st)) := by
  subst hp
  obtain ⟨v, vm₁, ⟨T', L', k', n'⟩, -, X', ⟨L, hq, l1, y1, z1⟩, st'⟩ := Jvm.LawKit.callS X hx hown (mvT hZ w1) (mvT hZ w2) (mvT hZ w3) (mvT hZ w4) hy (backOf (W := W) hM hZ w4 w3 hf hlo) (g := mkF m pc Ls st) rfl hsz (argsL := argsL) (rest := rest) (lenOf pd hlen) hst (by show 2 * 0 + _ ≤ _; omega) hd (fun _ _ => ⟨has, eT, hc, hs⟩)
  dsimp only [Pt.U, Pt.locs, Pt.cells, Pt.slots] at X' l1 y1 z1 st' hq
  subst l1 y1 z1
  exact Ow.via st' (k v T' L X' hq)
theorem w_callN (X : Stand p l e R s m args below meth c T locs cells slots) (hx : p.tables.exec = Jvm.exec) (hZ : Z.Warmed39 s.vm) {own : String} {index : Nat} {y : MethodName} {bytes : ByteArray} {maxL : Nat} (hy1 : y.name = "<init>") (hown : s.vm.findClass own = some m.cls) (w1 : (Cond.methodLink own index y).before a0 Z = true) (w2 : (Cond.instanceMethod y).before a0 Z = true) (w3 : (Cond.initialized y.cls).before a0 Z = true) (w4 : (Cond.code y bytes maxL none).before a0 Z = true) (hy : y.cls ≠ "java/lang/invoke/MethodHandle" ∧ y.cls ≠ "java/lang/invoke/VarHandle") {rm : Room} {as' : Array Value} {Qf : Option Value → Heap → List Loc → Prop} {W : Nat} (hM : MetFree l y (head1 [Cond.code y bytes maxL none] rm) (fun a U => a = as' ∧ Z.Warmed39 U.vm ∧ U.heap = h) (fun _ _ _ _ _ => True) (fun _ U o U' => ∃ v L, o = .returned v ∧ Qf v U'.heap L ∧ FrameEnd U o U' L rm.cells rm.slots)) (eT : T.heap = h) (hf : rm.frames + 1 ≤ R.frames) (hlo : W + (maxL + 11) + rm.locals ≤ R.locals) (hc : cells + rm.cells ≤ R.cells) (hs : slots + rm.slots ≤ R.slots) (hd : decode c.code pc = .ok (.invokespecial index, 3)) (hsz : Ls.size = c.maxLocals) {a : Addr} {argsL rest : List Value} {ps : List FieldType} {r : Option FieldType} (pd : parseMethodDescriptor y.desc = some ⟨ps, r⟩) (hlen : argsL.length = ps.length) (hst : st = argsL.reverse ++ .ref a :: rest) (has : (Value.ref a :: argsL).toArray = as') (hW : (rest.map fun v => v.category).sum ≤ W) (hp : pc + 3 = pc') (k : ∀ v T' L, Stand p l e R s m args below meth c T' (locs ++ L) (cells + rm.cells) (slots + rm.slots) → Qf v T'.heap L → Ow p e below s Q kc ks (T'.setTop (mkF m pc' Ls (v.toList ++ rest)))) : Ow p e below s Q kc ks (T.setTop (mkF m pc Ls st)) := by
  subst hp
  obtain ⟨v, vm₁, ⟨T', L', k', n'⟩, -, X', ⟨L, hq, l1, y1, z1⟩, st'⟩ := X.specialBack hx hy1 hown (mvT hZ w1) (mvT hZ w2) (mvT hZ w4) hy (backOf (W := W) hM hZ w4 w3 hf hlo) (g := mkF m pc Ls st) rfl hsz (Steps.refl _) (a := a) (argsL := argsL) (rest := rest) (lenOf pd hlen) hst (by show 2 * 0 + _ ≤ _; omega) hd (fun _ _ => ⟨has, eT, hc, hs⟩)
  dsimp only [Pt.U, Pt.locs, Pt.cells, Pt.slots] at X' l1 y1 z1 st' hq
  subst l1 y1 z1
  exact Ow.go st' (k v T' L X' hq)
theorem w_callV (X : Stand p l e R s m args below meth c T locs cells slots) (hx : p.tables.exec = Jvm.exec) (hZ : Z.Warmed39 s.vm) {own C : String} {index : Nat} {y z : MethodName} {bytes : ByteArray} {maxL : Nat} {ret : Option FieldType} (hown : s.vm.findClass own = some m.cls) (w1 : (Cond.methodLink own index y).before a0 Z = true) (w2 : (Cond.declares y).before a0 Z = true) (nf : NotFace s y) (w5 : (Cond.selects C y z).before a0 Z = true) (w6 : (Cond.instanceMethod z).before a0 Z = true) (w3 : (Cond.initialized z.cls).before a0 Z = true) (w4 : (Cond.code z bytes maxL ret).before a0 Z = true) (hy : y.cls ≠ "java/lang/invoke/MethodHandle" ∧ y.cls ≠ "java/lang/invoke/VarHandle") {rm : Room} {as' : Array Value} {Qf : Option Value → Heap → List Loc → Prop} {W : Nat} (hM : MetFree l z (head1 [Cond.code z bytes maxL ret] rm) (fun a U => a = as' ∧ Z.Warmed39 U.vm ∧ U.heap = h) (fun _ _ _ _ _ => True) (fun _ U o U' => ∃ v L, o = .returned v ∧ Qf v U'.heap L ∧ FrameEnd U o U' L rm.cells rm.slots)) (eT : T.heap = h) (hf : rm.frames + 1 ≤ R.frames) (hlo : W + (maxL + 11) + rm.locals ≤ R.locals) (hc : cells + rm.cells ≤ R.cells) (hs : slots + rm.slots ≤ R.slots) {a : Addr} (E : Exa Z h a C) (hd : decode c.code pc = .ok (.invokevirtual index, 3)) (hsz : Ls.size = c.maxLocals) {argsL rest : List Value} {ps : List FieldType} {r : Option FieldType} (pd : parseMethodDescriptor y.desc = some ⟨ps, r⟩) (hlen : argsL.length = ps.length) (hst : st = argsL.reverse ++ .ref a :: rest) (has : (Value.ref a :: argsL).toArray = as') (hW : (rest.map fun v => v.category).sum ≤ W) (hp : pc + 3 = pc') (k : ∀ v T' L, Stand p l e R s m args below meth c T' (locs ++ L) (cells + rm.cells) (slots + rm.slots) → Qf v T'.heap L → Ow p e below s Q kc ks (T'.setTop (mkF m pc' Ls (v.toList ++ rest)))) : Ow p e below s Q kc ks (T.setTop (mkF m pc Ls st)) := by
  subst hp
  obtain ⟨cB, kB, qa, qb, qc⟩ := isOf hZ eT E
  obtain ⟨v, vm₁, ⟨T', L', k', n'⟩, -, X', ⟨L, hq, l1, y1, z1⟩, st'⟩ := X.virtualBack hx (y := y) (z := z) hown (mvT hZ w1) (mvT hZ w2) nf (mvT hZ w5) (mvT hZ w6) hy (backOf (W := W) hM hZ w4 w3 hf hlo) qa qc (g := mkF m pc Ls st) rfl hsz (Steps.refl _) (argsL := argsL) (rest := rest) (lenOf pd hlen) hst (by show 2 * 0 + _ ≤ _; omega) hd (fun _ _ => ⟨has, eT, hc, hs⟩)
  dsimp only [Pt.U, Pt.locs, Pt.cells, Pt.slots] at X' l1 y1 z1 st' hq
  subst l1 y1 z1
  exact Ow.go st' (k v T' L X' hq)
theorem w_newarray (X : Stand p l e R s m args below meth c T locs cells slots) (hx : p.tables.exec = Jvm.exec) (hZ : Z.Warmed39 s.vm) {aty : ArrayType} (w : (Cond.arrayClass (newarray.typeOf aty)).before a0 Z = true) (eT : T.heap = h) {n : Int32} (hd : decode c.code pc = .ok (.newarray aty, 2)) (hn : ¬ n < 0) {cap : Nat} (hcap : n.toNatClampNeg ≤ cap) (hb : cap * 8 ≤ 536870912) (hc : cells + 1 ≤ R.cells) (hl : slots + cap ≤ R.slots) {ad : String} (had : "[" ++ (newarray.typeOf aty).toString = ad) (hp : pc + 2 = pc') (k : ∀ T' h' a cA, a = h.size → Stand p l e R s m args below meth c T' locs (cells + 1) (slots + cap) → T'.heap = h' → Ext h h' → Arr Z h' a (newA cA (newarray.typeOf aty) n) (newarray.typeOf aty) → Exa Z h' a ad → Ow p e below s Q kc ks (T'.setTop (mkF m pc' Ls (.ref a :: st)))) : Ow p e below s Q kc ks (T.setTop (mkF m pc Ls (.int n :: st))) := by
  subst hp
  obtain ⟨T', h', cA, X', e', E', A', B', st'⟩ := newPE X hx hZ w eT (g := mkF m pc Ls (.int n :: st)) rfl hd rfl hn hcap hb hc hl had
  exact Ow.via st' (k T' h' _ cA rfl X' e' E' A' B')
theorem w_iastore (X : Stand p l e R s m args below meth c T locs cells slots) (hx : p.tables.exec = Jvm.exec) (hZ : Z.Warmed39 s.vm) (eT : T.heap = h) {a : Addr} {cl : Cell} (A : Arr Z h a cl .int) {j x : Int32} (hj : ¬ (j < 0 ∨ cl.slots.size ≤ j.toNatClampNeg)) (hd : decode c.code pc = .ok (.iastore, 1)) (hp : pc + 1 = pc') (k : ∀ T' h', Stand p l e R s m args below meth c T' (locs ++ [⟨a, j.toNatClampNeg⟩]) cells slots → T'.heap = h' → Wr h h' a j.toNatClampNeg (.int x) → Ow p e below s Q kc ks (T'.setTop (mkF m pc' Ls st))) : Ow p e below s Q kc ks (T.setTop (mkF m pc Ls (.int x :: .int j :: .ref a :: st))) := by
  subst hp
  obtain ⟨T', h', X', e', W', st'⟩ := stI X hx hZ eT A hj (g := mkF m pc Ls (.int x :: .int j :: .ref a :: st)) rfl rfl hd
  exact Ow.via st' (k T' h' X' e' W')
theorem w_bastore (X : Stand p l e R s m args below meth c T locs cells slots) (hx : p.tables.exec = Jvm.exec) (hZ : Z.Warmed39 s.vm) (eT : T.heap = h) {a : Addr} {cl : Cell} (A : Arr Z h a cl .byte) {j x : Int32} (hj : ¬ (j < 0 ∨ cl.slots.size ≤ j.toNatClampNeg)) (hd : decode c.code pc = .ok (.bastore, 1)) (hp : pc + 1 = pc') (k : ∀ T' h', Stand p l e R s m args below meth c T' (locs ++ [⟨a, j.toNatClampNeg⟩]) cells slots → T'.heap = h' → Wr h h' a j.toNatClampNeg (.int (nar .byte x)) → Ow p e below s Q kc ks (T'.setTop (mkF m pc' Ls st))) : Ow p e below s Q kc ks (T.setTop (mkF m pc Ls (.int x :: .int j :: .ref a :: st))) := by
  subst hp
  obtain ⟨T', h', X', e', W', st'⟩ := stB X hx hZ eT A hj (g := mkF m pc Ls (.int x :: .int j :: .ref a :: st)) rfl rfl hd
  exact Ow.via st' (k T' h' X' e' W')
theorem w_iaload (X : Stand p l e R s m args below meth c T locs cells slots) (hx : p.tables.exec = Jvm.exec) (hZ : Z.Warmed39 s.vm) (eT : T.heap = h) {a : Addr} {cl : Cell} (A : Arr Z h a cl .int) {j x : Int32} (hj : ¬ (j < 0 ∨ cl.slots.size ≤ j.toNatClampNeg)) (hv : cl.slots[j.toNatClampNeg]? = some (.int x)) (hd : decode c.code pc = .ok (.iaload, 1)) (hp : pc + 1 = pc') (k : Ow p e below s Q kc ks (T.setTop (mkF m pc' Ls (.int x :: st)))) : Ow p e below s Q kc ks (T.setTop (mkF m pc Ls (.int j :: .ref a :: st))) := by
  subst hp
  exact Ow.via (X.iaload hx (j := j) (v := .int x) (by rw [eT]; exact A.1) (State.isArrayOf_alike hZ.alike A.2.1) A.2.2 hj hv (g := mkF m pc Ls (.int j :: .ref a :: st)) rfl rfl hd) k
theorem w_baload (X : Stand p l e R s m args below meth c T locs cells slots) (hx : p.tables.exec = Jvm.exec) (hZ : Z.Warmed39 s.vm) (eT : T.heap = h) {a : Addr} {cl : Cell} (A : Arr Z h a cl .byte) {j x : Int32} (hj : ¬ (j < 0 ∨ cl.slots.size ≤ j.toNatClampNeg)) (hv : cl.slots[j.toNatClampNeg]? = some (.int x)) (hd : decode c.code pc = .ok (.baload, 1)) (hp : pc + 1 = pc') (k : Ow p e below s Q kc ks (T.setTop (mkF m pc' Ls (.int x :: st)))) : Ow p e below s Q kc ks (T.setTop (mkF m pc Ls (.int j :: .ref a :: st))) := by
  subst hp
  exact Ow.via (X.baloadBytes hx (j := j) (v := .int x) (by rw [eT]; exact A.1) (State.isArrayOf_alike hZ.alike A.2.1) A.2.2 hj hv (g := mkF m pc Ls (.int j :: .ref a :: st)) rfl rfl hd) k
theorem w_arraylength (X : Stand p l e R s m args below meth c T locs cells slots) (hx : p.tables.exec = Jvm.exec) (hZ : Z.Warmed39 s.vm) (eT : T.heap = h) {a : Addr} {cl : Cell} {ty : FieldType} (A : Arr Z h a cl ty) {n : Int32} (hn : cl.slots.size.toInt32 = n) (hd : decode c.code pc = .ok (.arraylength, 1)) (hp : pc + 1 = pc') (k : Ow p e below s Q kc ks (T.setTop (mkF m pc' Ls (.int n :: st)))) : Ow p e below s Q kc ks (T.setTop (mkF m pc Ls (.ref a :: st))) := by
  subst hp hn
  exact Ow.via (X.arraylength hx (by rw [eT]; exact A.1) (State.isArrayOf_alike hZ.alike A.2.1) (g := mkF m pc Ls (.ref a :: st)) rfl rfl hd) k
end W
section IA
/-- an array of ints or of bytes: its length, and what lies at each place -/
def IAr (Z : State) (h : Heap) (a : Addr) (ty : FieldType) (n : Nat) (f : Nat → Int32) : Prop := ∃ cl : Cell, Arr Z h a cl ty ∧ cl.slots.size = n ∧ n < 2 ^ 31 ∧ ∀ i, i < n → cl.slots[i]? = some (.int (f i))
variable {Z : State} {h h' : Heap} {a b : Addr} {ty : FieldType} {n i sl : Nat} {f f' : Nat → Int32} {x : Int32} {v : Value} {ws : List Addr}
theorem own_clamp {j : Int32} {i : Nat} (hj : j.toInt = (i : Int)) : j.toNatClampNeg = i := by
  show j.toInt.toNat = i
  rw [hj]; exact Int.toNat_natCast i
theorem own_zero : (0 : Int32).toInt = 0 := by decide
theorem own_inb {j : Int32} {cl : Cell} (hj : j.toInt = (i : Int)) (hs : cl.slots.size = n) (hi : i < n) : ¬ (j < 0 ∨ cl.slots.size ≤ j.toNatClampNeg) := by
  rw [own_clamp hj, hs]
  rintro (q | q)
  · rw [Int32.lt_iff_toInt_lt, hj, own_zero] at q; omega
  · omega
theorem IAr.lt (A : IAr Z h a ty n f) : a < h.size := by obtain ⟨cl, A, -⟩ := A; exact A.lt
theorem IAr.ext (A : IAr Z h a ty n f) (E : Ext h h') : IAr Z h' a ty n f := by obtain ⟨cl, A, r⟩ := A; exact ⟨cl, A.ext E, r⟩
theorem IAr.keep (A : IAr Z h a ty n f) (K : Keep h h' ws) (q : a ∉ ws) : IAr Z h' a ty n f := by obtain ⟨cl, A, r⟩ := A; exact ⟨cl, ⟨K.2.1 a cl A.1 q, A.2⟩, r⟩
theorem IAr.other (A : IAr Z h b ty n f) (W : Wr h h' a sl v) (q : b ≠ a) : IAr Z h' b ty n f := by obtain ⟨cl, A, r⟩ := A; exact ⟨cl, A.other W q, r⟩
theorem IAr.congr (A : IAr Z h a ty n f) (q : ∀ i, i < n → f i = f' i) : IAr Z h a ty n f' := by obtain ⟨cl, A, r1, r2, r3⟩ := A; exact ⟨cl, A, r1, r2, fun i hi => by rw [← q i hi]; exact r3 i hi⟩
theorem own_slot_hit {cl : Cell} {k : Nat} {v : Value} (hk : k < cl.slots.size) : (cl.setSlot k v).slots[k]? = some v := by
  show (cl.slots.setIfInBounds k v)[k]? = some v
  rw [Array.getElem?_setIfInBounds_self_of_lt hk]
theorem own_slot_miss {cl : Cell} {k i : Nat} {v : Value} (q : i ≠ k) : (cl.setSlot i v).slots[k]? = cl.slots[k]? := by
  show (cl.slots.setIfInBounds i v)[k]? = cl.slots[k]?
  rw [Array.getElem?_setIfInBounds_ne q]
theorem IAr.set (A : IAr Z h a ty n f) (W : Wr h h' a i (.int x)) (hi : i < n) : IAr Z h' a ty n (upd f i x) := by
  obtain ⟨cl, A, hs, hn, H⟩ := A
  refine ⟨_, A.same W, by rw [sz_set]; exact hs, hn, fun k hk => ?_⟩
  by_cases q : k = i
  · subst q; rw [own_slot_hit (by omega)]; show _ = some (Value.int (if k = k then x else f k)); rw [if_pos rfl]
  · rw [own_slot_miss (fun z => q z.symm), H k hk]; show _ = some (Value.int (if k = i then x else f k)); rw [if_neg q]
theorem IAr.new {cA : ClassId} {z : Int32} (A : Arr Z h a (newA cA ty z) ty) (hd : defaultValue ty = .int 0) (hz : z.toInt = (n : Int)) : IAr Z h a ty n (fun _ => 0) := by
  have hn : n < 2 ^ 31 := by have := Int32.toInt_lt z; omega
  refine ⟨_, A, by rw [sz_new, own_clamp hz], hn, fun i hi => ?_⟩
  show (Array.replicate z.toNatClampNeg (defaultValue ty))[i]? = _
  rw [own_clamp hz, hd, Array.getElem?_replicate, if_pos hi]
theorem IAr.len (A : IAr Z h a ty n f) : n < 2 ^ 31 := by obtain ⟨cl, -, -, hn, -⟩ := A; exact hn
end IA
section WA
variable {p : Program} {l : Launch} {e : Env} {R : Room} {s : State} {m : MethodId} {args : Array Value} {below : List Frame} {meth : Method} {c : Code} {T : State} {locs : List Loc} {cells slots : Nat} {Q : Option Value → Heap → List Loc → Prop} {kc ks : Nat} {pc pc' : Nat} {Ls Ls' : Array Slot} {st : List Value} {Z : State} {a0 : Array Value} {h : Heap} {a : Addr} {n i : Nat} {f : Nat → Int32} {j x : Int32}
theorem w_ialoadA (X : Stand p l e R s m args below meth c T locs cells slots) (hx : p.tables.exec = Jvm.exec) (hZ : Z.Warmed39 s.vm) (eT : T.heap = h) (A : IAr Z h a .int n f) (i : Nat) (hj : j.toInt = (i : Int)) (hi : i < n) (hd : decode c.code pc = .ok (.iaload, 1)) (hp : pc + 1 = pc') (k : Ow p e below s Q kc ks (T.setTop (mkF m pc' Ls (.int (f i) :: st)))) : Ow p e below s Q kc ks (T.setTop (mkF m pc Ls (.int j :: .ref a :: st))) := by
  obtain ⟨cl, A, hs, hn, H⟩ := A
  exact w_iaload X hx hZ eT A (own_inb hj hs hi) (by rw [own_clamp hj]; exact H i hi) hd hp k
theorem w_baloadA (X : Stand p l e R s m args below meth c T locs cells slots) (hx : p.tables.exec = Jvm.exec) (hZ : Z.Warmed39 s.vm) (eT : T.heap = h) (A : IAr Z h a .byte n f) (i : Nat) (hj : j.toInt = (i : Int)) (hi : i < n) (hd : decode c.code pc = .ok (.baload, 1)) (hp : pc + 1 = pc') (k : Ow p e below s Q kc ks (T.setTop (mkF m pc' Ls (.int (f i) :: st)))) : Ow p e below s Q kc ks (T.setTop (mkF m pc Ls (.int j :: .ref a :: st))) := by
  obtain ⟨cl, A, hs, hn, H⟩ := A
  exact w_baload X hx hZ eT A (own_inb hj hs hi) (by rw [own_clamp hj]; exact H i hi) hd hp k
theorem w_iastoreA (X : Stand p l e R s m args below meth c T locs cells slots) (hx : p.tables.exec = Jvm.exec) (hZ : Z.Warmed39 s.vm) (eT : T.heap = h) (A : IAr Z h a .int n f) (i : Nat) (hj : j.toInt = (i : Int)) (hi : i < n) (hd : decode c.code pc = .ok (.iastore, 1)) (hp : pc + 1 = pc') (k : ∀ T' h', Stand p l e R s m args below meth c T' (locs ++ [⟨a, i⟩]) cells slots → T'.heap = h' → Wr h h' a i (.int x) → IAr Z h' a .int n (upd f i x) → Ow p e below s Q kc ks (T'.setTop (mkF m pc' Ls st))) : Ow p e below s Q kc ks (T.setTop (mkF m pc Ls (.int x :: .int j :: .ref a :: st))) := by
  have A0 := A
  obtain ⟨cl, A, hs, hn, H⟩ := A
  refine w_iastore X hx hZ eT A (own_inb hj hs hi) hd hp ?_
  intro T' h' X' e' W'
  rw [own_clamp hj] at X' W'
  exact k T' h' X' e' W' (A0.set W' hi)
theorem w_bastoreA (X : Stand p l e R s m args below meth c T locs cells slots) (hx : p.tables.exec = Jvm.exec) (hZ : Z.Warmed39 s.vm) (eT : T.heap = h) (A : IAr Z h a .byte n f) (i : Nat) (hj : j.toInt = (i : Int)) (hi : i < n) (hd : decode c.code pc = .ok (.bastore, 1)) (hp : pc + 1 = pc') (k : ∀ T' h', Stand p l e R s m args below meth c T' (locs ++ [⟨a, i⟩]) cells slots → T'.heap = h' → Wr h h' a i (.int (nar .byte x)) → IAr Z h' a .byte n (upd f i (nar .byte x)) → Ow p e below s Q kc ks (T'.setTop (mkF m pc' Ls st))) : Ow p e below s Q kc ks (T.setTop (mkF m pc Ls (.int x :: .int j :: .ref a :: st))) := by
  have A0 := A
  obtain ⟨cl, A, hs, hn, H⟩ := A
  refine w_bastore X hx hZ eT A (own_inb hj hs hi) hd hp ?_
  intro T' h' X' e' W'
  rw [own_clamp hj] at X' W'
  exact k T' h' X' e' W' (A0.set W' hi)
theorem w_lengthA (X : Stand p l e R s m args below meth c T locs cells slots) (hx : p.tables.exec = Jvm.exec) (hZ : Z.Warmed39 s.vm) (eT : T.heap = h) {ty : FieldType} (A : IAr Z h a ty n f) (z : Int32) (hz : z.toInt = (n : Int)) (hd : decode c.code pc = .ok (.arraylength, 1)) (hp : pc + 1 = pc') (k : Ow p e below s Q kc ks (T.setTop (mkF m pc' Ls (.int z :: st)))) : Ow p e below s Q kc ks (T.setTop (mkF m pc Ls (.ref a :: st))) := by
  obtain ⟨cl, A, hs, hn, H⟩ := A
  refine w_arraylength X hx hZ eT A ?_ hd hp k
  rw [hs]; exact Int32.toInt_inj.mp ((len_toInt hn).trans hz.symm)
end WA
theorem d4_0 : decode jdk_65_method_103_code 0 = .ok (.iconst 0, 1) := by decide +kernel
theorem d4_1 : decode jdk_65_method_103_code 1 = .ok (.istore_n 2, 1) := by decide +kernel
theorem d4_2 : decode jdk_65_method_103_code 2 = .ok (.aload_n 0, 1) := by decide +kernel
theorem d4_3 : decode jdk_65_method_103_code 3 = .ok (.arraylength, 1) := by decide +kernel
theorem d4_4 : decode jdk_65_method_103_code 4 = .ok (.istore_n 3, 1) := by decide +kernel
theorem d4_5 : decode jdk_65_method_103_code 5 = .ok (.iload_n 2, 1) := by decide +kernel
theorem d4_6 : decode jdk_65_method_103_code 6 = .ok (.iload_n 3, 1) := by decide +kernel
theorem d4_7 : decode jdk_65_method_103_code 7 = .ok (.if_icmp .ge 13, 3) := by decide +kernel
theorem d4_20 : decode jdk_65_method_103_code 20 = .ok (.return_, 1) := by decide +kernel
theorem d4_10 : decode jdk_65_method_103_code 10 = .ok (.aload_n 0, 1) := by decide +kernel
theorem d4_11 : decode jdk_65_method_103_code 11 = .ok (.iload_n 2, 1) := by decide +kernel
theorem d4_12 : decode jdk_65_method_103_code 12 = .ok (.iload_n 1, 1) := by decide +kernel
theorem d4_13 : decode jdk_65_method_103_code 13 = .ok (.iastore, 1) := by decide +kernel
theorem d4_14 : decode jdk_65_method_103_code 14 = .ok (.iinc 2 1, 3) := by decide +kernel
theorem d4_17 : decode jdk_65_method_103_code 17 = .ok (.goto (-12), 3) := by decide +kernel
theorem ef_4 (m : MethodId) (a0 : Addr) (p1 : Int32) : entryFrame m #[(.ref a0), (.int p1)] 4 = mkF m 0 #[.val (.ref a0), .val (.int p1), .unset, .unset] [] := by first | (simp [entryFrame, mkF, argsToLocals, Value.category]; done) | rfl
theorem pn_0 : plainName "java/util/Arrays" = true := by first | (simp [plainName, overriddenIn]; done) | decide +kernel
theorem d3_0 : decode prog_37_method_4_code 0 = .ok (.iload_n 0, 1) := by decide +kernel
theorem d3_1 : decode prog_37_method_4_code 1 = .ok (.newarray .int, 2) := by decide +kernel
theorem d3_3 : decode prog_37_method_4_code 3 = .ok (.astore_n 1, 1) := by decide +kernel
theorem d3_4 : decode prog_37_method_4_code 4 = .ok (.aload_n 1, 1) := by decide +kernel
theorem d3_5 : decode prog_37_method_4_code 5 = .ok (.iconst (-1), 1) := by decide +kernel
theorem d3_6 : decode prog_37_method_4_code 6 = .ok (.invokestatic 26, 3) := by decide +kernel
theorem pd_0 : parseMethodDescriptor "([II)V" = some ⟨[(.array .int), .int], none⟩ := by decide +kernel
theorem d3_9 : decode prog_37_method_4_code 9 = .ok (.aload_n 1, 1) := by decide +kernel
theorem d3_10 : decode prog_37_method_4_code 10 = .ok (.areturn, 1) := by decide +kernel
theorem ef_3 (m : MethodId) (p0 : Int32) : entryFrame m #[(.int p0)] 2 = mkF m 0 #[.val (.int p0), .unset] [] := by first | (simp [entryFrame, mkF, argsToLocals, Value.category]; done) | rfl
theorem pn_1 : plainName "com/example/sarutahiko/sarutahiko/simulation/CellSet" = true := by first | (simp [plainName, overriddenIn]; done) | decide +kernel
theorem d1_0 : decode prog_37_method_1_code 0 = .ok (.aload_n 0, 1) := by decide +kernel
theorem d1_1 : decode prog_37_method_1_code 1 = .ok (.invokespecial 1, 3) := by decide +kernel
theorem d1_4 : decode prog_37_method_1_code 4 = .ok (.aload_n 0, 1) := by decide +kernel
theorem d1_5 : decode prog_37_method_1_code 5 = .ok (.bipush 16, 2) := by decide +kernel
theorem d1_7 : decode prog_37_method_1_code 7 = .ok (.invokestatic 7, 3) := by decide +kernel
theorem pd_1 : parseMethodDescriptor "(I)[I" = some ⟨[.int], some (.array .int)⟩ := by decide +kernel
theorem d1_10 : decode prog_37_method_1_code 10 = .ok (.putfield 13, 3) := by decide +kernel
theorem d1_13 : decode prog_37_method_1_code 13 = .ok (.return_, 1) := by decide +kernel
theorem ef_1 (m : MethodId) (a0 : Addr) : entryFrame m #[(.ref a0)] 1 = mkF m 0 #[.val (.ref a0)] [] := by first | (simp [entryFrame, mkF, argsToLocals, Value.category]; done) | rfl
theorem d6_0 : decode prog_37_method_3_code 0 = .ok (.aload_n 0, 1) := by decide +kernel
theorem d6_1 : decode prog_37_method_3_code 1 = .ok (.arraylength, 1) := by decide +kernel
theorem d6_2 : decode prog_37_method_3_code 2 = .ok (.iconst 1, 1) := by decide +kernel
theorem d6_3 : decode prog_37_method_3_code 3 = .ok (.isub, 1) := by decide +kernel
theorem d6_4 : decode prog_37_method_3_code 4 = .ok (.istore_n 2, 1) := by decide +kernel
theorem d6_5 : decode prog_37_method_3_code 5 = .ok (.iload_n 1, 1) := by decide +kernel
theorem d6_6 : decode prog_37_method_3_code 6 = .ok (.ldc 25, 2) := by decide +kernel
theorem d6_8 : decode prog_37_method_3_code 8 = .ok (.imul, 1) := by decide +kernel
theorem d6_9 : decode prog_37_method_3_code 9 = .ok (.istore_n 3, 1) := by decide +kernel
theorem d6_10 : decode prog_37_method_3_code 10 = .ok (.iload_n 3, 1) := by decide +kernel
theorem d6_11 : decode prog_37_method_3_code 11 = .ok (.iload_n 3, 1) := by decide +kernel
theorem d6_12 : decode prog_37_method_3_code 12 = .ok (.bipush 16, 2) := by decide +kernel
theorem d6_14 : decode prog_37_method_3_code 14 = .ok (.iushr, 1) := by decide +kernel
theorem d6_15 : decode prog_37_method_3_code 15 = .ok (.ixor, 1) := by decide +kernel
theorem d6_16 : decode prog_37_method_3_code 16 = .ok (.iload_n 2, 1) := by decide +kernel
theorem d6_17 : decode prog_37_method_3_code 17 = .ok (.iand, 1) := by decide +kernel
theorem d6_18 : decode prog_37_method_3_code 18 = .ok (.istore 4, 2) := by decide +kernel
theorem d6_20 : decode prog_37_method_3_code 20 = .ok (.aload_n 0, 1) := by decide +kernel
theorem d6_21 : decode prog_37_method_3_code 21 = .ok (.iload 4, 2) := by decide +kernel
theorem d6_23 : decode prog_37_method_3_code 23 = .ok (.iaload, 1) := by decide +kernel
theorem d6_24 : decode prog_37_method_3_code 24 = .ok (.iconst (-1), 1) := by decide +kernel
theorem d6_25 : decode prog_37_method_3_code 25 = .ok (.if_icmp .eq 22, 3) := by decide +kernel
theorem d6_47 : decode prog_37_method_3_code 47 = .ok (.iload 4, 2) := by decide +kernel
theorem d6_49 : decode prog_37_method_3_code 49 = .ok (.ireturn, 1) := by decide +kernel
theorem d6_28 : decode prog_37_method_3_code 28 = .ok (.aload_n 0, 1) := by decide +kernel
theorem d6_29 : decode prog_37_method_3_code 29 = .ok (.iload 4, 2) := by decide +kernel
theorem d6_31 : decode prog_37_method_3_code 31 = .ok (.iaload, 1) := by decide +kernel
theorem d6_32 : decode prog_37_method_3_code 32 = .ok (.iload_n 1, 1) := by decide +kernel
theorem d6_33 : decode prog_37_method_3_code 33 = .ok (.if_icmp .eq 14, 3) := by decide +kernel
theorem d6_36 : decode prog_37_method_3_code 36 = .ok (.iload 4, 2) := by decide +kernel
theorem d6_38 : decode prog_37_method_3_code 38 = .ok (.iconst 1, 1) := by decide +kernel
theorem d6_39 : decode prog_37_method_3_code 39 = .ok (.iadd, 1) := by decide +kernel
theorem d6_40 : decode prog_37_method_3_code 40 = .ok (.iload_n 2, 1) := by decide +kernel
theorem d6_41 : decode prog_37_method_3_code 41 = .ok (.iand, 1) := by decide +kernel
theorem d6_42 : decode prog_37_method_3_code 42 = .ok (.istore 4, 2) := by decide +kernel
theorem d6_44 : decode prog_37_method_3_code 44 = .ok (.goto (-24), 3) := by decide +kernel
theorem ef_6 (m : MethodId) (a0 : Addr) (p1 : Int32) : entryFrame m #[(.ref a0), (.int p1)] 5 = mkF m 0 #[.val (.ref a0), .val (.int p1), .unset, .unset, .unset] [] := by first | (simp [entryFrame, mkF, argsToLocals, Value.category]; done) | rfl
theorem d5_0 : decode prog_37_method_2_code 0 = .ok (.aload_n 0, 1) := by decide +kernel
theorem d5_1 : decode prog_37_method_2_code 1 = .ok (.getfield 13, 3) := by decide +kernel
theorem d5_4 : decode prog_37_method_2_code 4 = .ok (.iload_n 1, 1) := by decide +kernel
theorem d5_5 : decode prog_37_method_2_code 5 = .ok (.invokestatic 17, 3) := by decide +kernel
theorem pd_2 : parseMethodDescriptor "([II)I" = some ⟨[(.array .int), .int], some .int⟩ := by decide +kernel
theorem d5_8 : decode prog_37_method_2_code 8 = .ok (.istore_n 2, 1) := by decide +kernel
theorem d5_9 : decode prog_37_method_2_code 9 = .ok (.aload_n 0, 1) := by decide +kernel
theorem d5_10 : decode prog_37_method_2_code 10 = .ok (.getfield 13, 3) := by decide +kernel
theorem d5_13 : decode prog_37_method_2_code 13 = .ok (.iload_n 2, 1) := by decide +kernel
theorem d5_14 : decode prog_37_method_2_code 14 = .ok (.iaload, 1) := by decide +kernel
theorem d5_15 : decode prog_37_method_2_code 15 = .ok (.iload_n 1, 1) := by decide +kernel
theorem d5_16 : decode prog_37_method_2_code 16 = .ok (.if_icmp .ne 5, 3) := by decide +kernel
theorem d5_19 : decode prog_37_method_2_code 19 = .ok (.iconst 0, 1) := by decide +kernel
theorem d5_20 : decode prog_37_method_2_code 20 = .ok (.ireturn, 1) := by decide +kernel
theorem ef_5 (m : MethodId) (a0 : Addr) (p1 : Int32) : entryFrame m #[(.ref a0), (.int p1)] 8 = mkF m 0 #[.val (.ref a0), .val (.int p1), .unset, .unset, .unset, .unset, .unset, .unset] [] := by first | (simp [entryFrame, mkF, argsToLocals, Value.category]; done) | rfl
theorem d5_21 : decode prog_37_method_2_code 21 = .ok (.aload_n 0, 1) := by decide +kernel
theorem d5_22 : decode prog_37_method_2_code 22 = .ok (.getfield 13, 3) := by decide +kernel
theorem d5_25 : decode prog_37_method_2_code 25 = .ok (.iload_n 2, 1) := by decide +kernel
theorem d5_26 : decode prog_37_method_2_code 26 = .ok (.iload_n 1, 1) := by decide +kernel
theorem d5_27 : decode prog_37_method_2_code 27 = .ok (.iastore, 1) := by decide +kernel
theorem d5_28 : decode prog_37_method_2_code 28 = .ok (.aload_n 0, 1) := by decide +kernel
theorem d5_29 : decode prog_37_method_2_code 29 = .ok (.dup, 1) := by decide +kernel
theorem d5_30 : decode prog_37_method_2_code 30 = .ok (.getfield 21, 3) := by decide +kernel
theorem d5_33 : decode prog_37_method_2_code 33 = .ok (.iconst 1, 1) := by decide +kernel
theorem d5_34 : decode prog_37_method_2_code 34 = .ok (.iadd, 1) := by decide +kernel
theorem d5_35 : decode prog_37_method_2_code 35 = .ok (.putfield 21, 3) := by decide +kernel
theorem d5_38 : decode prog_37_method_2_code 38 = .ok (.iconst 2, 1) := by decide +kernel
theorem d5_39 : decode prog_37_method_2_code 39 = .ok (.aload_n 0, 1) := by decide +kernel
theorem d5_40 : decode prog_37_method_2_code 40 = .ok (.getfield 21, 3) := by decide +kernel
theorem d5_43 : decode prog_37_method_2_code 43 = .ok (.imul, 1) := by decide +kernel
theorem d5_44 : decode prog_37_method_2_code 44 = .ok (.aload_n 0, 1) := by decide +kernel
theorem d5_45 : decode prog_37_method_2_code 45 = .ok (.getfield 13, 3) := by decide +kernel
theorem d5_48 : decode prog_37_method_2_code 48 = .ok (.arraylength, 1) := by decide +kernel
theorem d5_49 : decode prog_37_method_2_code 49 = .ok (.if_icmp .le 69, 3) := by decide +kernel
theorem d5_118 : decode prog_37_method_2_code 118 = .ok (.iconst 1, 1) := by decide +kernel
theorem d5_119 : decode prog_37_method_2_code 119 = .ok (.ireturn, 1) := by decide +kernel
theorem d5_52 : decode prog_37_method_2_code 52 = .ok (.iconst 2, 1) := by decide +kernel
theorem d5_53 : decode prog_37_method_2_code 53 = .ok (.aload_n 0, 1) := by decide +kernel
theorem d5_54 : decode prog_37_method_2_code 54 = .ok (.getfield 13, 3) := by decide +kernel
theorem d5_57 : decode prog_37_method_2_code 57 = .ok (.arraylength, 1) := by decide +kernel
theorem d5_58 : decode prog_37_method_2_code 58 = .ok (.imul, 1) := by decide +kernel
theorem d5_59 : decode prog_37_method_2_code 59 = .ok (.invokestatic 7, 3) := by decide +kernel
theorem d5_62 : decode prog_37_method_2_code 62 = .ok (.astore_n 3, 1) := by decide +kernel
theorem d5_63 : decode prog_37_method_2_code 63 = .ok (.aload_n 0, 1) := by decide +kernel
theorem d5_64 : decode prog_37_method_2_code 64 = .ok (.getfield 13, 3) := by decide +kernel
theorem d5_67 : decode prog_37_method_2_code 67 = .ok (.astore 4, 2) := by decide +kernel
theorem d5_69 : decode prog_37_method_2_code 69 = .ok (.aload 4, 2) := by decide +kernel
theorem d5_71 : decode prog_37_method_2_code 71 = .ok (.arraylength, 1) := by decide +kernel
theorem d5_72 : decode prog_37_method_2_code 72 = .ok (.istore 5, 2) := by decide +kernel
theorem d5_74 : decode prog_37_method_2_code 74 = .ok (.iconst 0, 1) := by decide +kernel
theorem d5_75 : decode prog_37_method_2_code 75 = .ok (.istore 6, 2) := by decide +kernel
theorem d5_77 : decode prog_37_method_2_code 77 = .ok (.iload 6, 2) := by decide +kernel
theorem d5_79 : decode prog_37_method_2_code 79 = .ok (.iload 5, 2) := by decide +kernel
theorem d5_81 : decode prog_37_method_2_code 81 = .ok (.if_icmp .ge 32, 3) := by decide +kernel
theorem d5_113 : decode prog_37_method_2_code 113 = .ok (.aload_n 0, 1) := by decide +kernel
theorem d5_114 : decode prog_37_method_2_code 114 = .ok (.aload_n 3, 1) := by decide +kernel
theorem d5_115 : decode prog_37_method_2_code 115 = .ok (.putfield 13, 3) := by decide +kernel
theorem d5_84 : decode prog_37_method_2_code 84 = .ok (.aload 4, 2) := by decide +kernel
theorem d5_86 : decode prog_37_method_2_code 86 = .ok (.iload 6, 2) := by decide +kernel
theorem d5_88 : decode prog_37_method_2_code 88 = .ok (.iaload, 1) := by decide +kernel
theorem d5_89 : decode prog_37_method_2_code 89 = .ok (.istore 7, 2) := by decide +kernel
theorem d5_91 : decode prog_37_method_2_code 91 = .ok (.iload 7, 2) := by decide +kernel
theorem d5_93 : decode prog_37_method_2_code 93 = .ok (.iconst (-1), 1) := by decide +kernel
theorem d5_94 : decode prog_37_method_2_code 94 = .ok (.if_icmp .eq 13, 3) := by decide +kernel
theorem d5_107 : decode prog_37_method_2_code 107 = .ok (.iinc 6 1, 3) := by decide +kernel
theorem d5_110 : decode prog_37_method_2_code 110 = .ok (.goto (-33), 3) := by decide +kernel
theorem d5_97 : decode prog_37_method_2_code 97 = .ok (.aload_n 3, 1) := by decide +kernel
theorem d5_98 : decode prog_37_method_2_code 98 = .ok (.aload_n 3, 1) := by decide +kernel
theorem d5_99 : decode prog_37_method_2_code 99 = .ok (.iload 7, 2) := by decide +kernel
theorem d5_101 : decode prog_37_method_2_code 101 = .ok (.invokestatic 17, 3) := by decide +kernel
theorem d5_104 : decode prog_37_method_2_code 104 = .ok (.iload 7, 2) := by decide +kernel
theorem d5_106 : decode prog_37_method_2_code 106 = .ok (.iastore, 1) := by decide +kernel
theorem d7_0 : decode method_3_code 0 = .ok (.aload_n 0, 1) := by decide +kernel
theorem d7_1 : decode method_3_code 1 = .ok (.iload_n 1, 1) := by decide +kernel
theorem d7_2 : decode method_3_code 2 = .ok (.iaload, 1) := by decide +kernel
theorem d7_3 : decode method_3_code 3 = .ok (.istore_n 2, 1) := by decide +kernel
theorem d7_4 : decode method_3_code 4 = .ok (.iload_n 1, 1) := by decide +kernel
theorem d7_5 : decode method_3_code 5 = .ok (.iconst 1, 1) := by decide +kernel
theorem d7_6 : decode method_3_code 6 = .ok (.if_icmp .lt 10, 3) := by decide +kernel
theorem d7_16 : decode method_3_code 16 = .ok (.iload_n 1, 1) := by decide +kernel
theorem d7_17 : decode method_3_code 17 = .ok (.iconst 2, 1) := by decide +kernel
theorem d7_18 : decode method_3_code 18 = .ok (.if_icmp .lt 10, 3) := by decide +kernel
theorem d7_28 : decode method_3_code 28 = .ok (.iload_n 1, 1) := by decide +kernel
theorem d7_29 : decode method_3_code 29 = .ok (.iconst 3, 1) := by decide +kernel
theorem d7_30 : decode method_3_code 30 = .ok (.if_icmp .lt 10, 3) := by decide +kernel
theorem d7_40 : decode method_3_code 40 = .ok (.iload_n 1, 1) := by decide +kernel
theorem d7_41 : decode method_3_code 41 = .ok (.iconst 4, 1) := by decide +kernel
theorem d7_42 : decode method_3_code 42 = .ok (.if_icmp .lt 10, 3) := by decide +kernel
theorem d7_52 : decode method_3_code 52 = .ok (.iload_n 1, 1) := by decide +kernel
theorem d7_53 : decode method_3_code 53 = .ok (.iconst 5, 1) := by decide +kernel
theorem d7_54 : decode method_3_code 54 = .ok (.if_icmp .lt 10, 3) := by decide +kernel
theorem d7_64 : decode method_3_code 64 = .ok (.iload_n 1, 1) := by decide +kernel
theorem d7_65 : decode method_3_code 65 = .ok (.bipush 6, 2) := by decide +kernel
theorem d7_67 : decode method_3_code 67 = .ok (.if_icmp .lt 10, 3) := by decide +kernel
theorem d7_77 : decode method_3_code 77 = .ok (.iload_n 1, 1) := by decide +kernel
theorem d7_78 : decode method_3_code 78 = .ok (.bipush 7, 2) := by decide +kernel
theorem d7_80 : decode method_3_code 80 = .ok (.if_icmp .lt 11, 3) := by decide +kernel
theorem d7_91 : decode method_3_code 91 = .ok (.iload_n 1, 1) := by decide +kernel
theorem d7_92 : decode method_3_code 92 = .ok (.bipush 8, 2) := by decide +kernel
theorem d7_94 : decode method_3_code 94 = .ok (.if_icmp .lt 11, 3) := by decide +kernel
theorem d7_105 : decode method_3_code 105 = .ok (.iconst 1, 1) := by decide +kernel
theorem d7_106 : decode method_3_code 106 = .ok (.goto 4, 3) := by decide +kernel
theorem d7_110 : decode method_3_code 110 = .ok (.ireturn, 1) := by decide +kernel
theorem ef_7_0 (m : MethodId) (a0 : Addr) : entryFrame m #[(.ref a0), (.int (0 : Int32))] 3 = mkF m 0 #[.val (.ref a0), .val (.int (0 : Int32)), .unset] [] := by first | (simp [entryFrame, mkF, argsToLocals, Value.category]; done) | rfl
theorem pn_2 : plainName "com/example/sarutahiko/sarutahiko/simulation/CellSetAddPinLaw" = true := by first | (simp [plainName, overriddenIn]; done) | decide +kernel
theorem d7_9 : decode method_3_code 9 = .ok (.iload_n 2, 1) := by decide +kernel
theorem d7_10 : decode method_3_code 10 = .ok (.aload_n 0, 1) := by decide +kernel
theorem d7_11 : decode method_3_code 11 = .ok (.iconst 0, 1) := by decide +kernel
theorem d7_12 : decode method_3_code 12 = .ok (.iaload, 1) := by decide +kernel
theorem d7_13 : decode method_3_code 13 = .ok (.if_icmp .eq 96, 3) := by decide +kernel
theorem d7_109 : decode method_3_code 109 = .ok (.iconst 0, 1) := by decide +kernel
theorem ef_7_1 (m : MethodId) (a0 : Addr) : entryFrame m #[(.ref a0), (.int (1 : Int32))] 3 = mkF m 0 #[.val (.ref a0), .val (.int (1 : Int32)), .unset] [] := by first | (simp [entryFrame, mkF, argsToLocals, Value.category]; done) | rfl
theorem d7_21 : decode method_3_code 21 = .ok (.iload_n 2, 1) := by decide +kernel
theorem d7_22 : decode method_3_code 22 = .ok (.aload_n 0, 1) := by decide +kernel
theorem d7_23 : decode method_3_code 23 = .ok (.iconst 1, 1) := by decide +kernel
theorem d7_24 : decode method_3_code 24 = .ok (.iaload, 1) := by decide +kernel
theorem d7_25 : decode method_3_code 25 = .ok (.if_icmp .eq 84, 3) := by decide +kernel
theorem ef_7_2 (m : MethodId) (a0 : Addr) : entryFrame m #[(.ref a0), (.int (2 : Int32))] 3 = mkF m 0 #[.val (.ref a0), .val (.int (2 : Int32)), .unset] [] := by first | (simp [entryFrame, mkF, argsToLocals, Value.category]; done) | rfl
theorem d7_33 : decode method_3_code 33 = .ok (.iload_n 2, 1) := by decide +kernel
theorem d7_34 : decode method_3_code 34 = .ok (.aload_n 0, 1) := by decide +kernel
theorem d7_35 : decode method_3_code 35 = .ok (.iconst 2, 1) := by decide +kernel
theorem d7_36 : decode method_3_code 36 = .ok (.iaload, 1) := by decide +kernel
theorem d7_37 : decode method_3_code 37 = .ok (.if_icmp .eq 72, 3) := by decide +kernel
theorem ef_7_3 (m : MethodId) (a0 : Addr) : entryFrame m #[(.ref a0), (.int (3 : Int32))] 3 = mkF m 0 #[.val (.ref a0), .val (.int (3 : Int32)), .unset] [] := by first | (simp [entryFrame, mkF, argsToLocals, Value.category]; done) | rfl
theorem d7_45 : decode method_3_code 45 = .ok (.iload_n 2, 1) := by decide +kernel
theorem d7_46 : decode method_3_code 46 = .ok (.aload_n 0, 1) := by decide +kernel
theorem d7_47 : decode method_3_code 47 = .ok (.iconst 3, 1) := by decide +kernel
theorem d7_48 : decode method_3_code 48 = .ok (.iaload, 1) := by decide +kernel
theorem d7_49 : decode method_3_code 49 = .ok (.if_icmp .eq 60, 3) := by decide +kernel
theorem ef_7_4 (m : MethodId) (a0 : Addr) : entryFrame m #[(.ref a0), (.int (4 : Int32))] 3 = mkF m 0 #[.val (.ref a0), .val (.int (4 : Int32)), .unset] [] := by first | (simp [entryFrame, mkF, argsToLocals, Value.category]; done) | rfl
theorem d7_57 : decode method_3_code 57 = .ok (.iload_n 2, 1) := by decide +kernel
theorem d7_58 : decode method_3_code 58 = .ok (.aload_n 0, 1) := by decide +kernel
theorem d7_59 : decode method_3_code 59 = .ok (.iconst 4, 1) := by decide +kernel
theorem d7_60 : decode method_3_code 60 = .ok (.iaload, 1) := by decide +kernel
theorem d7_61 : decode method_3_code 61 = .ok (.if_icmp .eq 48, 3) := by decide +kernel
theorem ef_7_5 (m : MethodId) (a0 : Addr) : entryFrame m #[(.ref a0), (.int (5 : Int32))] 3 = mkF m 0 #[.val (.ref a0), .val (.int (5 : Int32)), .unset] [] := by first | (simp [entryFrame, mkF, argsToLocals, Value.category]; done) | rfl
theorem d7_70 : decode method_3_code 70 = .ok (.iload_n 2, 1) := by decide +kernel
theorem d7_71 : decode method_3_code 71 = .ok (.aload_n 0, 1) := by decide +kernel
theorem d7_72 : decode method_3_code 72 = .ok (.iconst 5, 1) := by decide +kernel
theorem d7_73 : decode method_3_code 73 = .ok (.iaload, 1) := by decide +kernel
theorem d7_74 : decode method_3_code 74 = .ok (.if_icmp .eq 35, 3) := by decide +kernel
theorem ef_7_6 (m : MethodId) (a0 : Addr) : entryFrame m #[(.ref a0), (.int (6 : Int32))] 3 = mkF m 0 #[.val (.ref a0), .val (.int (6 : Int32)), .unset] [] := by first | (simp [entryFrame, mkF, argsToLocals, Value.category]; done) | rfl
theorem d7_83 : decode method_3_code 83 = .ok (.iload_n 2, 1) := by decide +kernel
theorem d7_84 : decode method_3_code 84 = .ok (.aload_n 0, 1) := by decide +kernel
theorem d7_85 : decode method_3_code 85 = .ok (.bipush 6, 2) := by decide +kernel
theorem d7_87 : decode method_3_code 87 = .ok (.iaload, 1) := by decide +kernel
theorem d7_88 : decode method_3_code 88 = .ok (.if_icmp .eq 21, 3) := by decide +kernel
theorem ef_7_7 (m : MethodId) (a0 : Addr) : entryFrame m #[(.ref a0), (.int (7 : Int32))] 3 = mkF m 0 #[.val (.ref a0), .val (.int (7 : Int32)), .unset] [] := by first | (simp [entryFrame, mkF, argsToLocals, Value.category]; done) | rfl
theorem d7_97 : decode method_3_code 97 = .ok (.iload_n 2, 1) := by decide +kernel
theorem d7_98 : decode method_3_code 98 = .ok (.aload_n 0, 1) := by decide +kernel
theorem d7_99 : decode method_3_code 99 = .ok (.bipush 7, 2) := by decide +kernel
theorem d7_101 : decode method_3_code 101 = .ok (.iaload, 1) := by decide +kernel
theorem d7_102 : decode method_3_code 102 = .ok (.if_icmp .eq 7, 3) := by decide +kernel
theorem ef_7_8 (m : MethodId) (a0 : Addr) : entryFrame m #[(.ref a0), (.int (8 : Int32))] 3 = mkF m 0 #[.val (.ref a0), .val (.int (8 : Int32)), .unset] [] := by first | (simp [entryFrame, mkF, argsToLocals, Value.category]; done) | rfl
theorem own_nz {n : Nat} (h : n < 2 ^ 31) : ∃ z : Int32, z.toInt = (n : Int) := ⟨Int32.ofNat n, Int32.toInt_ofNat_of_lt h⟩
def hsN (x : Int32) : Int32 := ((x * (-1640531527 : Int32)) ^^^ (lsr32 (x * (-1640531527 : Int32)) (16 : Int32)))
def stt (n : Nat) (x : Int32) : Nat := ((hsN x).toInt % (n : Int)).toNat
def pos (n : Nat) (x : Int32) (d : Nat) : Nat := (stt n x + d) % n
def Hit (f : Nat → Int32) (n : Nat) (x : Int32) (d : Nat) : Prop := (f (pos n x d) = (-1 : Int32) ∨ f (pos n x d) = x) ∧ ∀ e, e < d → ¬ f (pos n x e) = (-1 : Int32) ∧ ¬ f (pos n x e) = x
def Tab (f : Nat → Int32) (n : Nat) (S : Int32 → Prop) (m : Nat) : Prop :=
  (∀ i, i < n → ¬ f i = (-1 : Int32) → S (f i)) ∧ (∀ x, S x → ∃ d, f (pos n x d) = x ∧ ∀ e, e < d → ¬ f (pos n x e) = (-1 : Int32)) ∧ (∀ x, S x → ¬ x = (-1 : Int32)) ∧ ∃ P : List Nat, P.length ≤ m ∧ ∀ i, i < n → ¬ f i = (-1 : Int32) → i ∈ P
theorem own_mask (n : Nat) (hn : n = 16 ∨ n = 32) (nz : Int32) (h : nz.toInt = (n : Int)) (x : Int32) : (x &&& (nz - (1 : Int32))).toInt = x.toInt % (n : Int) := by
  rcases hn with rfl | rfl
  · obtain rfl : nz = 16 := Int32.toInt_inj.mp (by rw [h]; decide)
    exact Kit.i32_mask x (16 - 1) (k := 4) (by decide) (by decide)
  · obtain rfl : nz = 32 := Int32.toInt_inj.mp (by rw [h]; decide)
    exact Kit.i32_mask x (32 - 1) (k := 5) (by decide) (by decide)
theorem own_pos_lt (n : Nat) (hn : n = 16 ∨ n = 32) (x : Int32) (d : Nat) : pos n x d < n := Nat.mod_lt _ (by omega)
theorem own_at0 (n : Nat) (hn : n = 16 ∨ n = 32) (nz : Int32) (h : nz.toInt = (n : Int)) (x : Int32) : (hsN x &&& (nz - (1 : Int32))).toInt = ((pos n x 0 : Nat) : Int) := by
  rw [own_mask n hn nz h]
  unfold pos stt
  rcases hn with rfl | rfl <;> omega
theorem own_at1 (n : Nat) (hn : n = 16 ∨ n = 32) (nz : Int32) (h : nz.toInt = (n : Int)) (x z : Int32) (d : Nat) (hz : z.toInt = ((pos n x d : Nat) : Int)) : ((z + (1 : Int32)) &&& (nz - (1 : Int32))).toInt = ((pos n x (d + 1) : Nat) : Int) := by
  have hl := own_pos_lt n hn x d
  have k1 : (1 : Int32).toInt = 1 := by decide
  have ha : (z + (1 : Int32)).toInt = ((pos n x d : Nat) : Int) + 1 := by rw [Kit.i32_add (by rw [hz, k1]; omega) (by rw [hz, k1]; omega), hz, k1]
  rw [own_mask n hn nz h, ha]
  unfold pos
  rcases hn with rfl | rfl <;> omega
theorem own_pig : ∀ (n : Nat) (P : List Nat), P.length < n → ∃ i, i < n ∧ i ∉ P
  | 0, _, h => absurd h (Nat.not_lt_zero _)
  | n + 1, P, h => by
    by_cases q : n ∈ P
    · obtain ⟨i, h1, h2⟩ := own_pig n (P.erase n) (by rw [List.length_erase_of_mem q]; have := List.length_pos_of_mem q; omega)
      exact ⟨i, by omega, fun r => h2 ((List.mem_erase_of_ne (by omega)).mpr r)⟩
    · exact ⟨n, by omega, q⟩
theorem own_least {P : Nat → Prop} (hdec : ∀ n, P n ∨ ¬ P n) : ∀ n, P n → ∃ m, P m ∧ ∀ j, j < m → ¬ P j := by
  intro n
  induction n using Nat.strongRecOn with
  | ind n ih =>
    intro h
    by_cases q : ∃ j, j < n ∧ P j
    · obtain ⟨j, h1, h2⟩ := q; exact ih j h1 h2
    · exact ⟨n, h, fun j h1 h2 => q ⟨j, h1, h2⟩⟩
theorem own_hit {f : Nat → Int32} {n m : Nat} {S : Int32 → Prop} (hn : n = 16 ∨ n = 32) (T : Tab f n S m) (hm : m < n) (x : Int32) : ∃ d, Hit f n x d := by
  obtain ⟨-, -, -, P, hP, hO⟩ := T
  obtain ⟨i, hi, hiP⟩ := own_pig n P (by omega)
  have hf : f i = -1 := Decidable.byContradiction fun q => hiP (hO i hi q)
  have hp : pos n x (i + n - stt n x) = i := by
    have hs : stt n x < n := by unfold stt; rcases hn with rfl | rfl <;> omega
    unfold pos; rw [show stt n x + (i + n - stt n x) = i + n by omega, Nat.add_mod_right, Nat.mod_eq_of_lt hi]
  obtain ⟨d, h1, h2⟩ := own_least (P := fun d => f (pos n x d) = -1 ∨ f (pos n x d) = x) (fun _ => Decidable.em _) (i + n - stt n x) (Or.inl (by rw [hp]; exact hf))
  exact ⟨d, h1, fun e he => not_or.mp (h2 e he)⟩
theorem own_in {f : Nat → Int32} {n m d : Nat} {S : Int32 → Prop} {x : Int32} (T : Tab f n S m) (H : Hit f n x d) (h : S x) : f (pos n x d) = x := by
  obtain ⟨d0, h1, h2⟩ := T.2.1 x h
  rcases H.1 with q | q
  · rcases Nat.lt_trichotomy d d0 with r | r | r
    · exact absurd q (h2 d r)
    · subst r; exact h1
    · exact absurd h1 (H.2 d0 r).2
  · exact q
theorem own_of {f : Nat → Int32} {n m d : Nat} {S : Int32 → Prop} {x : Int32} (hn : n = 16 ∨ n = 32) (T : Tab f n S m) (hx : ¬ x = (-1 : Int32)) (h : f (pos n x d) = x) : S x := by
  have := T.1 (pos n x d) (own_pos_lt n hn x d) (by rw [h]; exact hx)
  rw [h] at this; exact this
theorem own_ins {f : Nat → Int32} {n m d : Nat} {S : Int32 → Prop} {x : Int32} (hn : n = 16 ∨ n = 32) (T : Tab f n S m) (hx : ¬ x = (-1 : Int32)) (H : Hit f n x d) : Tab (upd f (pos n x d) x) n (fun y => S y ∨ y = x) (m + 1) := by
  obtain ⟨t1, t2, t3, P, hP, hO⟩ := T
  have hu : ∀ i, upd f (pos n x d) x i = if i = pos n x d then x else f i := fun _ => rfl
  refine ⟨fun i hi q => ?_, fun y hy => ?_, fun y hy => ?_, pos n x d :: P, by simp only [List.length_cons]; omega, fun i hi q => ?_⟩
  · rw [hu] at q ⊢
    by_cases r : i = pos n x d
    · rw [if_pos r]; exact Or.inr rfl
    · rw [if_neg r] at q ⊢; exact Or.inl (t1 i hi q)
  · have key : ∀ e, e < d → ¬ pos n x e = pos n x d := fun e he r => by
      have h1 := H.2 e he
      rw [r] at h1
      rcases H.1 with q | q
      · exact h1.1 q
      · exact h1.2 q
    by_cases r : y = x
    · subst r
      refine ⟨d, by rw [hu, if_pos rfl], fun e he => ?_⟩
      rw [hu, if_neg (key e he)]; exact (H.2 e he).1
    · rcases hy with hy | hy
      · obtain ⟨d0, h1, h2⟩ := t2 y hy
        have ne0 : ¬ pos n y d0 = pos n x d := fun z => by
          rw [z] at h1
          rcases H.1 with q | q
          · exact t3 y hy (h1.symm.trans q)
          · exact r (h1.symm.trans q)
        refine ⟨d0, by rw [hu, if_neg ne0]; exact h1, fun e he => ?_⟩
        rw [hu]
        by_cases z : pos n y e = pos n x d
        · rw [if_pos z]; exact hx
        · rw [if_neg z]; exact h2 e he
      · exact absurd hy r
  · rcases hy with hy | hy
    · exact t3 y hy
    · rw [hy]; exact hx
  · rw [hu] at q
    by_cases r : i = pos n x d
    · rw [r]; exact List.mem_cons_self
    · rw [if_neg r] at q; exact List.mem_cons_of_mem _ (hO i hi q)
theorem Tab.congr {f : Nat → Int32} {n m m' : Nat} {S S' : Int32 → Prop} (T : Tab f n S m) (h : ∀ y, S y ↔ S' y) (hm : m ≤ m') : Tab f n S' m' := by
  obtain ⟨t1, t2, t3, P, hP, hO⟩ := T
  exact ⟨fun i hi q => (h _).mp (t1 i hi q), fun y hy => t2 y ((h y).mpr hy), fun y hy => t3 y ((h y).mpr hy), P, by omega, hO⟩
theorem own_empty (n : Nat) : Tab (fun _ => (-1 : Int32)) n (fun _ => False) 0 := ⟨fun i _ q => q rfl, fun _ h => h.elim, fun _ h => h.elim, [], Nat.le_refl _, fun i _ q => absurd rfl q⟩
theorem own_same {f : Nat → Int32} {n m : Nat} {S : Int32 → Prop} {x : Int32} (T : Tab f n S m) (h : S x) : Tab f n (fun y => S y ∨ y = x) (m + 1) := T.congr (fun y => ⟨Or.inl, fun q => q.elim id fun z => z ▸ h⟩) (by omega)
theorem own_whole {f g : Nat → Int32} {S : Int32 → Prop} {m : Nat} (T : Tab f 16 S m) (G : Tab g 32 (fun y => ∃ j, j < 16 ∧ y = f j ∧ ¬ y = (-1 : Int32)) 16) : Tab g 32 S 16 :=
  G.congr (fun y => ⟨fun ⟨j, hj, hy, hn⟩ => by rw [hy] at hn ⊢; exact T.1 j hj hn, fun hy => by
    obtain ⟨d, h1, -⟩ := T.2.1 y hy
    exact ⟨pos 16 y d, own_pos_lt 16 (Or.inl rfl) y d, h1.symm, T.2.2.1 y hy⟩⟩) (Nat.le_refl _)
theorem own_len2 {nz kz : Int32} {n k : Nat} (hn : nz.toInt = (n : Int)) (hk : kz.toInt = (k : Int)) (hk2 : k ≤ 1000) (hc : 2 * (k + 1) ≤ n) : ¬ nz < (2 : Int32) * (kz + (1 : Int32)) := fun q => by
  have k1 : (1 : Int32).toInt = 1 := by decide
  have k2 : (2 : Int32).toInt = 2 := by decide
  have ha : (kz + (1 : Int32)).toInt = (k : Int) + 1 := by rw [Kit.i32_add (by rw [hk, k1]; omega) (by rw [hk, k1]; omega), hk, k1]
  rw [Int32.lt_iff_toInt_lt, Kit.i32_mul (by rw [ha, k2]; omega) (by rw [ha, k2]; omega), ha, k2, hn] at q; omega
theorem own_k1 {kz : Int32} {k : Nat} (hk : kz.toInt = (k : Int)) (hk2 : k ≤ 1000) : (kz + (1 : Int32)).toInt = ((k + 1 : Nat) : Int) := by
  have k1 : (1 : Int32).toInt = 1 := by decide
  rw [Kit.i32_add (by rw [hk, k1]; omega) (by rw [hk, k1]; omega), hk, k1]; omega
def own_S (cf : Nat → Int32) (t : Nat) : Int32 → Prop := fun y => ∃ j, j < t ∧ y = cf j
theorem own_S0 (cf : Nat → Int32) : ∀ y, False ↔ own_S cf 0 y := fun y => ⟨fun h => h.elim, fun ⟨j, hj, _⟩ => absurd hj (Nat.not_lt_zero _)⟩
theorem own_Ss (cf : Nat → Int32) (t : Nat) : ∀ y, (own_S cf t y ∨ y = cf t) ↔ own_S cf (t + 1) y := fun y => by
  constructor
  · rintro (⟨j, hj, e⟩ | e)
    · exact ⟨j, by omega, e⟩
    · exact ⟨t, by omega, e⟩
  · rintro ⟨j, hj, e⟩
    by_cases q : j = t
    · subst q; exact Or.inr e
    · exact Or.inl ⟨j, by omega, e⟩
theorem own_eqv {cf : Nat → Int32} {t : Nat} {va vf : Int32} (h1 : (va = 1 ∧ ¬ own_S cf t (cf t)) ∨ (va = 0 ∧ own_S cf t (cf t))) (h2 : (vf = 1 ∧ ∀ j, j < t → ¬ cf t = cf j) ∨ (vf = 0 ∧ ∃ j, j < t ∧ cf t = cf j)) : va = vf := by
  rcases h1 with ⟨a1, a2⟩ | ⟨a1, a2⟩ <;> rcases h2 with ⟨b1, b2⟩ | ⟨b1, b2⟩
  · rw [a1, b1]
  · obtain ⟨j, hj, e⟩ := b2; exact absurd ⟨j, hj, e⟩ a2
  · obtain ⟨j, hj, e⟩ := a2; exact absurd e (b2 j hj)
  · rw [a1, b1]
theorem own_step1 {f1 : Nat → Int32} {i : Nat} (r1 : f1 i = (-1 : Int32)) (y : Int32) : (∃ j, j < i ∧ y = f1 j ∧ ¬ y = (-1 : Int32)) ↔ (∃ j, j < i + 1 ∧ y = f1 j ∧ ¬ y = (-1 : Int32)) := by
  constructor
  · rintro ⟨j, hj, e, n⟩; exact ⟨j, by omega, e, n⟩
  · rintro ⟨j, hj, e, n⟩
    by_cases q : j = i
    · subst q; exact absurd (e.trans r1) n
    · exact ⟨j, by omega, e, n⟩
theorem own_step2 {f1 : Nat → Int32} {i : Nat} (r1 : ¬ f1 i = (-1 : Int32)) (y : Int32) : ((∃ j, j < i ∧ y = f1 j ∧ ¬ y = (-1 : Int32)) ∨ y = f1 i) ↔ (∃ j, j < i + 1 ∧ y = f1 j ∧ ¬ y = (-1 : Int32)) := by
  constructor
  · rintro (⟨j, hj, e, n⟩ | e)
    · exact ⟨j, by omega, e, n⟩
    · exact ⟨i, by omega, e, by rw [e]; exact r1⟩
  · rintro ⟨j, hj, e, n⟩
    by_cases q : j = i
    · subst q; exact Or.inr e
    · exact Or.inl ⟨j, by omega, e, n⟩
theorem own_msk (x : Int32) : ¬ (x &&& (2147483647 : Int32)) = (-1 : Int32) := fun q => by
  have h : (x &&& (2147483647 : Int32)).toInt = x.toInt % 2 ^ 31 := Kit.i32_mask x 2147483647 (k := 31) (by decide) (by decide)
  rw [q, show (-1 : Int32).toInt = -1 from by decide] at h; omega
theorem own_pos9 (p0 p1 p2 p3 p4 p5 : Int32) : ∀ i, i < 9 → ¬ (upd (upd (upd (upd (upd (upd (upd (upd (upd (fun _ => 0) 0 (p0 &&& (2147483647 : Int32))) 1 (p1 &&& (2147483647 : Int32))) 2 (p2 &&& (2147483647 : Int32))) 3 (p3 &&& (2147483647 : Int32))) 4 (p4 &&& (2147483647 : Int32))) 5 ((p0 ^^^ p5) &&& (2147483647 : Int32))) 6 ((p1 ^^^ p5) &&& (2147483647 : Int32))) 7 ((p2 ^^^ p5) &&& (2147483647 : Int32))) 8 ((p3 ^^^ p5) &&& (2147483647 : Int32))) i = (-1 : Int32) := by
  intro i hi
  have h : i = 0 ∨ i = 1 ∨ i = 2 ∨ i = 3 ∨ i = 4 ∨ i = 5 ∨ i = 6 ∨ i = 7 ∨ i = 8 := by omega
  rcases h with rfl | rfl | rfl | rfl | rfl | rfl | rfl | rfl | rfl
  · exact own_msk _
  · exact own_msk _
  · exact own_msk _
  · exact own_msk _
  · exact own_msk _
  · exact own_msk _
  · exact own_msk _
  · exact own_msk _
  · exact own_msk _
theorem own_jx (p5 : Int32) : ∃ j : Nat, (((lsr32 p5 (4 : Int32)) &&& (65535 : Int32)) % (9 : Int32)).toInt = (j : Int) ∧ j < 9 := by
  have h : ((lsr32 p5 (4 : Int32)) &&& (65535 : Int32)).toInt = (lsr32 p5 (4 : Int32)).toInt % 2 ^ 16 := Kit.i32_mask _ 65535 (k := 16) (by decide) (by decide)
  have hr : (((lsr32 p5 (4 : Int32)) &&& (65535 : Int32)) % (9 : Int32)).toInt = ((lsr32 p5 (4 : Int32)).toInt % 2 ^ 16) % 9 := by rw [Kit.i32_rem_nonneg (by omega), h]; rfl
  exact ⟨(((lsr32 p5 (4 : Int32)).toInt % 2 ^ 16) % 9).toNat, by rw [hr]; omega, by omega⟩

def Q4 (Z : State) (a0 : Addr) (p1 : Int32) (n : Nat) (h0 : Heap) (n0 : Nat) (v : Option Value) (h : Heap) (L : List Loc) : Prop := v = none ∧ Fr n0 L ∧ Keep h0 h [a0] ∧ IAr Z h a0 .int n (fun _ => p1)
set_option maxRecDepth 65536 in
set_option maxHeartbeats 40000000 in
theorem rm4 (l : Launch) (Z : State) (aw : Array Value) (hw : ∀ d ∈ tables_1, d.before aw Z = true) (ws : List Jvm.Cond) (a0 : Addr) (p1 : Int32) (n : Nat) (f0 : Nat → Int32) (h0 : Heap) (n0 : Nat) (A : IAr Z h0 a0 .int n f0) (g : n0 ≤ a0) :
    MetFree l (⟨"java/util/Arrays", "fill", "([II)V"⟩ : MethodName) (head1 (Jvm.Cond.code (⟨"java/util/Arrays", "fill", "([II)V"⟩ : MethodName) jdk_65_method_103_code 4 none :: ws) ({ frames := 0, cells := 0, slots := 0, locals := 0 } : Room)) (fun a U => a = #[(.ref a0), (.int p1)] ∧ Z.Warmed39 U.vm ∧ U.heap = h0) (fun _ _ _ _ _ => True) (fun _ U o U' => ∃ v L, o = .returned v ∧ Q4 Z a0 p1 n h0 n0 v U'.heap L ∧ FrameEnd U o U' L ({ frames := 0, cells := 0, slots := 0, locals := 0 } : Room).cells ({ frames := 0, cells := 0, slots := 0, locals := 0 } : Room).slots) := by
  refine MetFree.of_bodySF (plainFor_of_name pn_0) hisR ?_
  intro p e s m args below meth c s₁ Bd hml0 hP _hKK
  obtain ⟨rfl, hZ, hh⟩ := hP
  have hx := Bd.exec
  have hby := Bd.bytes
  have hml : c.maxLocals = 4 := hml0
  have hown : s.vm.findClass "java/util/Arrays" = some m.cls := findClass_of_methodNamed Bd.named
  have hnm := (name_of_methodNamed Bd.named Bd.method).1
  have X0 : Stand p l e ({ frames := 0, cells := 0, slots := 0, locals := 0 } : Room) s m #[(.ref a0), (.int p1)] below meth c s₁ [] 0 0 := Stand.of_body Bd
  have e0 : s₁.heap = h0 := by rw [← hh, Bd.state]; rfl
  refine Ow.enter (Q := Q4 Z a0 p1 n h0 n0) (ef_4 m a0 p1) ?_
  show Ow p e below s _ _ _ (s₁.setTop (mkF m 0 #[.val (.ref a0), .val (.int p1), .unset, .unset] []))
  obtain ⟨nz, hnz⟩ := own_nz (n := n) A.len
  refine w_iconst X0 hx (0 : Int32) (Jvm.hb hby d4_0) (by decide) (pc' := 1) rfl ?_
  refine w_istoreN X0 hx (Jvm.hb hby d4_1) #[.val (.ref a0), .val (.int p1), .val (.int (0 : Int32)), .unset] rfl  (pc' := 2) rfl ?_
  refine w_aloadN X0 hx (Jvm.hb hby d4_2) rfl rfl (pc' := 3) rfl ?_
  refine w_lengthA X0 hx hZ e0 A nz hnz (Jvm.hb hby d4_3) (pc' := 4) rfl ?_
  refine w_istoreN X0 hx (Jvm.hb hby d4_4) #[.val (.ref a0), .val (.int p1), .val (.int (0 : Int32)), .val (.int nz)] rfl  (pc' := 5) rfl ?_
  have loop : ∀ (k i : Nat) (z : Int32) (T : State) (L : List Loc) (f : Nat → Int32), z.toInt = (i : Int) → i + k = n → Stand p l e ({ frames := 0, cells := 0, slots := 0, locals := 0 } : Room) s m #[(.ref a0), (.int p1)] below meth c T L 0 0 → Fr n0 L → Keep h0 T.heap [a0] → IAr Z T.heap a0 .int n f → (∀ j, j < i → f j = p1) → Ow p e below s (Q4 Z a0 p1 n h0 n0) 0 0 (T.setTop (mkF m 5 #[.val (.ref a0), .val (.int p1), .val (.int z), .val (.int nz)] [])) := by
    intro k
    induction k with
    | zero =>
      intro i z T L f hi hk X N K V hf
      refine w_iloadN X hx (Jvm.hb hby d4_5) rfl (pc' := 6) rfl ?_
      refine w_iloadN X hx (Jvm.hb hby d4_6) rfl (pc' := 7) rfl ?_
      refine w_icmp_ge X hx (Jvm.hb hby d4_7) (by decide) (pcT := 20) (by decide) (pcF := 10) rfl (fun _ => ?_) (fun q => absurd q (show ¬ z < nz from fun q => by rw [Int32.lt_iff_toInt_lt, hi, hnz] at q; omega))
      exact w_return X hx Bd.returns (BodyLoose.notSynchronized Bd) (Nat.le_of_ble_eq_true rfl) (Nat.le_of_ble_eq_true rfl) (Jvm.hb hby d4_20) ⟨rfl, N, K, V.congr (fun j hj => hf j (by omega))⟩
    | succ k ih =>
      intro i z T L f hi hk X N K V hf
      have hz1 : (z + (1 : Int32)).toInt = ((i + 1 : Nat) : Int) := by have h9 := V.len; have h8 : (1 : Int32).toInt = 1 := (by decide); rw [Kit.i32_add (by rw [hi, h8]; omega) (by rw [hi, h8]; omega), hi, h8]; omega
      refine w_iloadN X hx (Jvm.hb hby d4_5) rfl (pc' := 6) rfl ?_
      refine w_iloadN X hx (Jvm.hb hby d4_6) rfl (pc' := 7) rfl ?_
      refine w_icmp_ge X hx (Jvm.hb hby d4_7) (by decide) (pcT := 20) (by decide) (pcF := 10) rfl (fun q => absurd (show z < nz from by rw [Int32.lt_iff_toInt_lt, hi, hnz]; omega) q) (fun _ => ?_)
      refine w_aloadN X hx (Jvm.hb hby d4_10) rfl rfl (pc' := 11) rfl ?_
      refine w_iloadN X hx (Jvm.hb hby d4_11) rfl (pc' := 12) rfl ?_
      refine w_iloadN X hx (Jvm.hb hby d4_12) rfl (pc' := 13) rfl ?_
      refine w_iastoreA X hx hZ rfl V i hi (by omega) (Jvm.hb hby d4_13) (pc' := 14) rfl ?_
      intro T21 h21 X21 e21 W21 V21
      refine w_iinc X21 hx (Jvm.hb hby d4_14) rfl #[.val (.ref a0), .val (.int p1), .val (.int (z + (1 : Int32))), .val (.int nz)] rfl (pc' := 17) rfl ?_
      refine w_goto X21 hx (Jvm.hb hby d4_17) (by decide) (pc' := 5) (by decide) ?_
      have N21 := Fr.snoc X21 N g
      have KK := K.wr W21 (Or.inl (List.mem_of_getElem? (i := 0) rfl))
      rw [← e21] at KK V21
      exact ih (i + 1) _ T21 _ _ hz1 (by omega) X21 N21 KK V21 (fun t ht => show (if t = i then p1 else f t) = p1 from if q : t = i then by rw [if_pos q] else by rw [if_neg q]; exact hf t (by omega))
  exact loop n 0 (0 : Int32) s₁ [] f0 (by decide) (by omega) X0 (Fr.nil n0) (by rw [e0]; exact Keep.refl h0 [a0]) (by rw [e0]; exact A) (fun j hj => absurd hj (Nat.not_lt_zero _))
def Q3 (Z : State) (n : Nat) (h0 : Heap) (n0 : Nat) (v : Option Value) (h : Heap) (L : List Loc) : Prop := ∃ b, v = some (.ref b) ∧ Fr n0 L ∧ h0.size ≤ b ∧ Keep h0 h [] ∧ IAr Z h b .int n (fun _ => (-1 : Int32))
set_option maxRecDepth 65536 in
set_option maxHeartbeats 40000000 in
theorem rm3 (l : Launch) (Z : State) (aw : Array Value) (hw : ∀ d ∈ tables_1, d.before aw Z = true) (ws : List Jvm.Cond) (p0 : Int32) (n : Nat) (h0 : Heap) (n0 : Nat) (Z0 : n0 ≤ h0.size) (hn : p0.toInt = (n : Int)) (hn2 : n ≤ 32) :
    MetFree l (⟨"com/example/sarutahiko/sarutahiko/simulation/CellSet", "newSlots", "(I)[I"⟩ : MethodName) (head1 (Jvm.Cond.code (⟨"com/example/sarutahiko/sarutahiko/simulation/CellSet", "newSlots", "(I)[I"⟩ : MethodName) prog_37_method_4_code 2 (some (.array .int)) :: ws) ({ frames := 1, cells := 1, slots := 32, locals := 15 } : Room)) (fun a U => a = #[(.int p0)] ∧ Z.Warmed39 U.vm ∧ U.heap = h0) (fun _ _ _ _ _ => True) (fun _ U o U' => ∃ v L, o = .returned v ∧ Q3 Z n h0 n0 v U'.heap L ∧ FrameEnd U o U' L ({ frames := 1, cells := 1, slots := 32, locals := 15 } : Room).cells ({ frames := 1, cells := 1, slots := 32, locals := 15 } : Room).slots) := by
  refine MetFree.of_bodySF (plainFor_of_name pn_1) hisR ?_
  intro p e s m args below meth c s₁ Bd hml0 hP _hKK
  obtain ⟨rfl, hZ, hh⟩ := hP
  have hx := Bd.exec
  have hby := Bd.bytes
  have hml : c.maxLocals = 2 := hml0
  have hown : s.vm.findClass "com/example/sarutahiko/sarutahiko/simulation/CellSet" = some m.cls := findClass_of_methodNamed Bd.named
  have hnm := (name_of_methodNamed Bd.named Bd.method).1
  have X0 : Stand p l e ({ frames := 1, cells := 1, slots := 32, locals := 15 } : Room) s m #[(.int p0)] below meth c s₁ [] 0 0 := Stand.of_body Bd
  have e0 : s₁.heap = h0 := by rw [← hh, Bd.state]; rfl
  refine Ow.enter (Q := Q3 Z n h0 n0) (ef_3 m p0) ?_
  show Ow p e below s _ _ _ (s₁.setTop (mkF m 0 #[.val (.int p0), .unset] []))
  refine w_iloadN X0 hx (Jvm.hb hby d3_0) rfl (pc' := 1) rfl ?_
  refine w_newarray X0 hx hZ (hw _ (List.mem_of_getElem? (i := 0) rfl)) e0 (Jvm.hb hby d3_1) (fun z => by rw [Int32.lt_iff_toInt_lt, hn, own_zero] at z; omega) (cap := 32) (by rw [own_clamp hn]; exact hn2) (by decide) (by decide) (by decide) (ad := "[I") (by decide) (pc' := 3) rfl ?_
  intro T22 h22 a22 c22 g22 X22 e22 E22 A22 B22
  have V22 : IAr Z h22 a22 .int n (fun _ => 0) := IAr.new A22 rfl hn
  have G : n0 ≤ a22 := Nat.le_trans Z0 (Nat.le_of_eq g22.symm)
  refine w_astoreN X22 hx (Jvm.hb hby d3_3) #[.val (.int p0), .val (.ref a22)] rfl rfl (pc' := 4) rfl ?_
  refine w_aloadN X22 hx (Jvm.hb hby d3_4) rfl rfl (pc' := 5) rfl ?_
  refine w_iconst X22 hx (-1 : Int32) (Jvm.hb hby d3_5) (by decide) (pc' := 6) rfl ?_
  refine w_callS X22 hx hZ hown (hw _ (List.mem_of_getElem? (i := 15) rfl)) (hw _ (List.mem_of_getElem? (i := 16) rfl)) (hw _ (List.mem_of_getElem? (i := 17) rfl)) (hw _ (List.mem_of_getElem? (i := 18) rfl)) (by decide) (W := 0) (rm4 l Z aw hw [] a22 (-1 : Int32) n (fun _ => 0) h22 n0 V22 G) e22 (by decide) (by decide) (by decide) (by decide) (Jvm.hb hby d3_6) (by rw [hml]; rfl) (argsL := [(.ref a22), (.int (-1 : Int32))]) (rest := []) pd_0 rfl rfl rfl (Nat.le_of_eq rfl) (pc' := 9) rfl ?_
  rintro _ T23 L23 X23 ⟨rfl, N23, K23, V23⟩
  show Ow p e below s _ _ _ (T23.setTop (mkF m 9 #[.val (.int p0), .val (.ref a22)] []))
  refine w_aloadN X23 hx (Jvm.hb hby d3_9) rfl rfl (pc' := 10) rfl ?_
  exact w_areturn X23 hx Bd.returns rfl rfl (BodyLoose.notSynchronized Bd) (Nat.le_of_ble_eq_true rfl) (Nat.le_of_ble_eq_true rfl) (Jvm.hb hby d3_10) ⟨a22, rfl, by simpa using N23, Nat.le_of_eq g22.symm, ((Keep.refl h0 []).ext E22).trans K23 (allS (Or.inr (Nat.le_of_eq g22.symm)) all0), V23⟩
def Q1 (Z : State) (a0 : Addr) (h0 : Heap) (n0 : Nat) (v : Option Value) (h : Heap) (L : List Loc) : Prop := ∃ b, v = none ∧ Fr n0 L ∧ n0 ≤ b ∧ h0.size ≤ b ∧ a0 ≠ b ∧ Keep h0 h [a0] ∧ Fld Z h a0 "com/example/sarutahiko/sarutahiko/simulation/CellSet" "slots" "[I" (.ref b) ∧ Fld Z h a0 "com/example/sarutahiko/sarutahiko/simulation/CellSet" "size" "I" (.int (0 : Int32)) ∧ IAr Z h b .int 16 (fun _ => (-1 : Int32))
set_option maxRecDepth 65536 in
set_option maxHeartbeats 40000000 in
theorem rm1 (l : Launch) (Z : State) (aw : Array Value) (hw : ∀ d ∈ tables_1, d.before aw Z = true) (ws : List Jvm.Cond) (a0 : Addr) (h0 : Heap) (n0 : Nat) (Z0 : n0 ≤ h0.size) (F : Fld Z h0 a0 "com/example/sarutahiko/sarutahiko/simulation/CellSet" "slots" "[I" .null) (F' : Fld Z h0 a0 "com/example/sarutahiko/sarutahiko/simulation/CellSet" "size" "I" (.int (0 : Int32))) (E : Exa Z h0 a0 "com/example/sarutahiko/sarutahiko/simulation/CellSet") (g : n0 ≤ a0) :
    MetFree l (⟨"com/example/sarutahiko/sarutahiko/simulation/CellSet", "<init>", "()V"⟩ : MethodName) (head1 (Jvm.Cond.code (⟨"com/example/sarutahiko/sarutahiko/simulation/CellSet", "<init>", "()V"⟩ : MethodName) prog_37_method_1_code 1 none :: ws) ({ frames := 2, cells := 1, slots := 32, locals := 29 } : Room)) (fun a U => a = #[(.ref a0)] ∧ Z.Warmed39 U.vm ∧ U.heap = h0) (fun _ _ _ _ _ => True) (fun _ U o U' => ∃ v L, o = .returned v ∧ Q1 Z a0 h0 n0 v U'.heap L ∧ FrameEnd U o U' L ({ frames := 2, cells := 1, slots := 32, locals := 29 } : Room).cells ({ frames := 2, cells := 1, slots := 32, locals := 29 } : Room).slots) := by
  refine MetFree.of_bodySF (plainFor_of_name pn_1) hisR ?_
  intro p e s m args below meth c s₁ Bd hml0 hP _hKK
  obtain ⟨rfl, hZ, hh⟩ := hP
  have hx := Bd.exec
  have hby := Bd.bytes
  have hml : c.maxLocals = 1 := hml0
  have hown : s.vm.findClass "com/example/sarutahiko/sarutahiko/simulation/CellSet" = some m.cls := findClass_of_methodNamed Bd.named
  have hnm := (name_of_methodNamed Bd.named Bd.method).1
  have X0 : Stand p l e ({ frames := 2, cells := 1, slots := 32, locals := 29 } : Room) s m #[(.ref a0)] below meth c s₁ [] 0 0 := Stand.of_body Bd
  have e0 : s₁.heap = h0 := by rw [← hh, Bd.state]; rfl
  refine Ow.enter (Q := Q1 Z a0 h0 n0) (ef_1 m a0) ?_
  show Ow p e below s _ _ _ (s₁.setTop (mkF m 0 #[.val (.ref a0)] []))
  refine w_aloadN X0 hx (Jvm.hb hby d1_0) rfl rfl (pc' := 1) rfl ?_
  refine w_objinit X0 hx hZ hown (hw _ (List.mem_of_getElem? (i := 9) rfl)) (hw _ (List.mem_of_getElem? (i := 10) rfl)) (hw _ (List.mem_of_getElem? (i := 11) rfl)) e0 (Jvm.hb hby d1_1) (by rw [hml]; rfl) (by decide) (W := 0) (Nat.le_of_eq rfl) (by decide) (pc' := 4) rfl ?_
  intro T24 X24 e24
  refine w_aloadN X24 hx (Jvm.hb hby d1_4) rfl rfl (pc' := 5) rfl ?_
  refine w_bipush X24 hx (16 : Int32) (Jvm.hb hby d1_5) (by decide) (pc' := 7) rfl ?_
  refine w_callS X24 hx hZ hown (hw _ (List.mem_of_getElem? (i := 12) rfl)) (hw _ (List.mem_of_getElem? (i := 13) rfl)) (hw _ (List.mem_of_getElem? (i := 5) rfl)) (hw _ (List.mem_of_getElem? (i := 14) rfl)) (by decide) (W := 1) (rm3 l Z aw hw [] (16 : Int32) 16 h0 n0 Z0 (by decide) (by decide)) e24 (by decide) (by decide) (by decide) (by decide) (Jvm.hb hby d1_7) (by rw [hml]; rfl) (argsL := [(.int (16 : Int32))]) (rest := [(.ref a0)]) pd_1 rfl rfl rfl (Nat.le_of_eq rfl) (pc' := 10) rfl ?_
  rintro _ T25 L25 X25 ⟨b, rfl, N25, hb, K25, V25⟩
  show Ow p e below s _ _ _ (T25.setTop (mkF m 10 #[.val (.ref a0)] [(.ref b), (.ref a0)]))
  have ne : a0 ≠ b := Nat.ne_of_lt (Nat.lt_of_lt_of_le F.lt hb)
  have F1 := F.keep K25 nin0
  have F2 := F'.keep K25 nin0
  have E1 := E.keep K25
  refine w_putfield X25 hx hZ hown (host := "") (Or.inl (hw _ (List.mem_of_getElem? (i := 19) rfl))) Via.refl rfl F1 E1 (Or.inl (hw _ (List.mem_of_getElem? (i := 20) rfl))) (hw _ (List.mem_of_getElem? (i := 4) rfl)) (ty := (.array .int)) (by decide) rfl rfl (Jvm.hb hby d1_10) (pc' := 13) rfl ?_
  intro T26 h26 X26 e26 W26
  have NN := Fr.snoc X26 (Fr.app (Fr.nil n0) N25) g
  exact w_return X26 hx Bd.returns (BodyLoose.notSynchronized Bd) (Nat.le_of_ble_eq_true rfl) (Nat.le_of_ble_eq_true rfl) (Jvm.hb hby d1_13) ⟨b, rfl, NN, Nat.le_trans Z0 hb, hb, ne, by rw [e26]; exact ⟨((Keep.refl h0 [a0]).trans K25 all0).wr W26 (Or.inl (List.mem_of_getElem? (i := 0) rfl)), F1.same W26, F2.other W26 (Or.inr (slot_ne (Or.inl (hw _ (List.mem_of_getElem? (i := 31) rfl))) (Or.inl (hw _ (List.mem_of_getElem? (i := 20) rfl))) (by decide) (t := .int) (t' := (.array .int)) (by decide) (by decide))), V25.other W26 (Ne.symm ne)⟩⟩
def Q6 (n : Nat) (p1 : Int32) (d : Nat) (h0 : Heap) (v : Option Value) (h : Heap) (L : List Loc) : Prop := ∃ z : Int32, v = some (.int z) ∧ z.toInt = ((pos n p1 d : Nat) : Int) ∧ h = h0 ∧ L = []
set_option maxRecDepth 65536 in
set_option maxHeartbeats 40000000 in
theorem rm6 (l : Launch) (Z : State) (aw : Array Value) (hw : ∀ d ∈ tables_1, d.before aw Z = true) (ws : List Jvm.Cond) (a0 : Addr) (p1 : Int32) (n : Nat) (f : Nat → Int32) (d : Nat) (h0 : Heap) (A : IAr Z h0 a0 .int n f) (hn : n = 16 ∨ n = 32) (hH : Hit f n p1 d) :
    MetFree l (⟨"com/example/sarutahiko/sarutahiko/simulation/CellSet", "find", "([II)I"⟩ : MethodName) (head1 (Jvm.Cond.code (⟨"com/example/sarutahiko/sarutahiko/simulation/CellSet", "find", "([II)I"⟩ : MethodName) prog_37_method_3_code 5 (some .int) :: ws) ({ frames := 0, cells := 0, slots := 0, locals := 0 } : Room)) (fun a U => a = #[(.ref a0), (.int p1)] ∧ Z.Warmed39 U.vm ∧ U.heap = h0) (fun _ _ _ _ _ => True) (fun _ U o U' => ∃ v L, o = .returned v ∧ Q6 n p1 d h0 v U'.heap L ∧ FrameEnd U o U' L ({ frames := 0, cells := 0, slots := 0, locals := 0 } : Room).cells ({ frames := 0, cells := 0, slots := 0, locals := 0 } : Room).slots) := by
  refine MetFree.of_bodySF (plainFor_of_name pn_1) hisR ?_
  intro p e s m args below meth c s₁ Bd hml0 hP _hKK
  obtain ⟨rfl, hZ, hh⟩ := hP
  have hx := Bd.exec
  have hby := Bd.bytes
  have hml : c.maxLocals = 5 := hml0
  have hown : s.vm.findClass "com/example/sarutahiko/sarutahiko/simulation/CellSet" = some m.cls := findClass_of_methodNamed Bd.named
  have hnm := (name_of_methodNamed Bd.named Bd.method).1
  have X0 : Stand p l e ({ frames := 0, cells := 0, slots := 0, locals := 0 } : Room) s m #[(.ref a0), (.int p1)] below meth c s₁ [] 0 0 := Stand.of_body Bd
  have e0 : s₁.heap = h0 := by rw [← hh, Bd.state]; rfl
  refine Ow.enter (Q := Q6 n p1 d h0) (ef_6 m a0 p1) ?_
  show Ow p e below s _ _ _ (s₁.setTop (mkF m 0 #[.val (.ref a0), .val (.int p1), .unset, .unset, .unset] []))
  obtain ⟨nz, hnz⟩ := own_nz (n := n) A.len
  refine w_aloadN X0 hx (Jvm.hb hby d6_0) rfl rfl (pc' := 1) rfl ?_
  refine w_lengthA X0 hx hZ e0 A nz hnz (Jvm.hb hby d6_1) (pc' := 2) rfl ?_
  refine w_iconst X0 hx (1 : Int32) (Jvm.hb hby d6_2) (by decide) (pc' := 3) rfl ?_
  refine w_isub X0 hx (Jvm.hb hby d6_3) (pc' := 4) rfl ?_
  refine w_istoreN X0 hx (Jvm.hb hby d6_4) #[.val (.ref a0), .val (.int p1), .val (.int (nz - (1 : Int32))), .unset, .unset] rfl  (pc' := 5) rfl ?_
  refine w_iloadN X0 hx (Jvm.hb hby d6_5) rfl (pc' := 6) rfl ?_
  refine w_ldcI X0 hx hZ hown (hw _ (List.mem_of_getElem? (i := 29) rfl)) (Jvm.hb hby d6_6) (pc' := 8) rfl ?_
  refine w_imul X0 hx (Jvm.hb hby d6_8) (pc' := 9) rfl ?_
  refine w_istoreN X0 hx (Jvm.hb hby d6_9) #[.val (.ref a0), .val (.int p1), .val (.int (nz - (1 : Int32))), .val (.int (p1 * (-1640531527 : Int32))), .unset] rfl  (pc' := 10) rfl ?_
  refine w_iloadN X0 hx (Jvm.hb hby d6_10) rfl (pc' := 11) rfl ?_
  refine w_iloadN X0 hx (Jvm.hb hby d6_11) rfl (pc' := 12) rfl ?_
  refine w_bipush X0 hx (16 : Int32) (Jvm.hb hby d6_12) (by decide) (pc' := 14) rfl ?_
  refine w_iushr X0 hx (Jvm.hb hby d6_14) (pc' := 15) rfl ?_
  refine w_ixor X0 hx (Jvm.hb hby d6_15) (pc' := 16) rfl ?_
  show Ow p e below s _ _ _ (s₁.setTop (mkF m 16 #[.val (.ref a0), .val (.int p1), .val (.int (nz - (1 : Int32))), .val (.int (p1 * (-1640531527 : Int32))), .unset] [(.int (hsN p1))]))
  refine w_iloadN X0 hx (Jvm.hb hby d6_16) rfl (pc' := 17) rfl ?_
  refine w_iand X0 hx (Jvm.hb hby d6_17) (pc' := 18) rfl ?_
  refine w_istore X0 hx (Jvm.hb hby d6_18) #[.val (.ref a0), .val (.int p1), .val (.int (nz - (1 : Int32))), .val (.int (p1 * (-1640531527 : Int32))), .val (.int ((hsN p1) &&& (nz - (1 : Int32))))] rfl  (pc' := 20) rfl ?_
  have loop : ∀ (k e' : Nat) (z : Int32), z.toInt = ((pos n p1 e' : Nat) : Int) → e' + k = d → Ow p e below s (Q6 n p1 d h0) 0 0 (s₁.setTop (mkF m 20 #[.val (.ref a0), .val (.int p1), .val (.int (nz - (1 : Int32))), .val (.int (p1 * (-1640531527 : Int32))), .val (.int z)] [])) := by
    intro k
    induction k with
    | zero =>
      intro e' z hz hk
      obtain rfl : e' = d := by omega
      refine w_aloadN X0 hx (Jvm.hb hby d6_20) rfl rfl (pc' := 21) rfl ?_
      refine w_iload X0 hx (Jvm.hb hby d6_21) rfl (pc' := 23) rfl ?_
      refine w_ialoadA X0 hx hZ e0 A (pos n p1 e') hz (own_pos_lt n hn _ _) (Jvm.hb hby d6_23) (pc' := 24) rfl ?_
      refine w_iconst X0 hx (-1 : Int32) (Jvm.hb hby d6_24) (by decide) (pc' := 25) rfl ?_
      refine w_icmp_eq X0 hx (Jvm.hb hby d6_25) (by decide) (pcT := 47) (by decide) (pcF := 28) rfl (fun q1 => ?_) (fun q1 => ?_)
      · refine w_iload X0 hx (Jvm.hb hby d6_47) rfl (pc' := 49) rfl ?_
        exact w_ireturn X0 hx Bd.returns (BodyLoose.notSynchronized Bd) (Nat.le_of_ble_eq_true rfl) (Nat.le_of_ble_eq_true rfl) (Jvm.hb hby d6_49) ⟨z, rfl, hz, e0, rfl⟩
      · refine w_aloadN X0 hx (Jvm.hb hby d6_28) rfl rfl (pc' := 29) rfl ?_
        refine w_iload X0 hx (Jvm.hb hby d6_29) rfl (pc' := 31) rfl ?_
        refine w_ialoadA X0 hx hZ e0 A (pos n p1 e') hz (own_pos_lt n hn _ _) (Jvm.hb hby d6_31) (pc' := 32) rfl ?_
        refine w_iloadN X0 hx (Jvm.hb hby d6_32) rfl (pc' := 33) rfl ?_
        refine w_icmp_eq X0 hx (Jvm.hb hby d6_33) (by decide) (pcT := 47) (by decide) (pcF := 36) rfl (fun _ => ?_) (fun q => absurd (hH.1.elim (fun r => absurd r q1) id) q)
        refine w_iload X0 hx (Jvm.hb hby d6_47) rfl (pc' := 49) rfl ?_
        exact w_ireturn X0 hx Bd.returns (BodyLoose.notSynchronized Bd) (Nat.le_of_ble_eq_true rfl) (Nat.le_of_ble_eq_true rfl) (Jvm.hb hby d6_49) ⟨z, rfl, hz, e0, rfl⟩
    | succ k ih =>
      intro e' z hz hk
      have hne := hH.2 e' (by omega)
      refine w_aloadN X0 hx (Jvm.hb hby d6_20) rfl rfl (pc' := 21) rfl ?_
      refine w_iload X0 hx (Jvm.hb hby d6_21) rfl (pc' := 23) rfl ?_
      refine w_ialoadA X0 hx hZ e0 A (pos n p1 e') hz (own_pos_lt n hn _ _) (Jvm.hb hby d6_23) (pc' := 24) rfl ?_
      refine w_iconst X0 hx (-1 : Int32) (Jvm.hb hby d6_24) (by decide) (pc' := 25) rfl ?_
      refine w_icmp_eq X0 hx (Jvm.hb hby d6_25) (by decide) (pcT := 47) (by decide) (pcF := 28) rfl (fun q => absurd q hne.1) (fun _ => ?_)
      refine w_aloadN X0 hx (Jvm.hb hby d6_28) rfl rfl (pc' := 29) rfl ?_
      refine w_iload X0 hx (Jvm.hb hby d6_29) rfl (pc' := 31) rfl ?_
      refine w_ialoadA X0 hx hZ e0 A (pos n p1 e') hz (own_pos_lt n hn _ _) (Jvm.hb hby d6_31) (pc' := 32) rfl ?_
      refine w_iloadN X0 hx (Jvm.hb hby d6_32) rfl (pc' := 33) rfl ?_
      refine w_icmp_eq X0 hx (Jvm.hb hby d6_33) (by decide) (pcT := 47) (by decide) (pcF := 36) rfl (fun q => absurd q hne.2) (fun _ => ?_)
      refine w_iload X0 hx (Jvm.hb hby d6_36) rfl (pc' := 38) rfl ?_
      refine w_iconst X0 hx (1 : Int32) (Jvm.hb hby d6_38) (by decide) (pc' := 39) rfl ?_
      refine w_iadd X0 hx (Jvm.hb hby d6_39) (pc' := 40) rfl ?_
      refine w_iloadN X0 hx (Jvm.hb hby d6_40) rfl (pc' := 41) rfl ?_
      refine w_iand X0 hx (Jvm.hb hby d6_41) (pc' := 42) rfl ?_
      refine w_istore X0 hx (Jvm.hb hby d6_42) #[.val (.ref a0), .val (.int p1), .val (.int (nz - (1 : Int32))), .val (.int (p1 * (-1640531527 : Int32))), .val (.int ((z + (1 : Int32)) &&& (nz - (1 : Int32))))] rfl  (pc' := 44) rfl ?_
      refine w_goto X0 hx (Jvm.hb hby d6_44) (by decide) (pc' := 20) (by decide) ?_
      exact ih (e' + 1) _ (own_at1 n hn nz hnz p1 z e' hz) (by omega)
  exact loop d 0 _ (own_at0 n hn nz hnz p1) (by omega)
def Q5d (n0 : Nat) (v : Option Value) (h : Heap) (L : List Loc) : Prop := v = some (.int (0 : Int32)) ∧ Fr n0 L
set_option maxRecDepth 65536 in
set_option maxHeartbeats 40000000 in
theorem rm5d (l : Launch) (Z : State) (aw : Array Value) (hw : ∀ d ∈ tables_1, d.before aw Z = true) (ws : List Jvm.Cond) (a0 : Addr) (p1 : Int32) (b : Addr) (n : Nat) (f : Nat → Int32) (kz : Int32) (k : Nat) (S : Int32 → Prop) (m' d : Nat) (h0 : Heap) (n0 : Nat) (Z0 : n0 ≤ h0.size) (F : Fld Z h0 a0 "com/example/sarutahiko/sarutahiko/simulation/CellSet" "slots" "[I" (.ref b)) (Fs : Fld Z h0 a0 "com/example/sarutahiko/sarutahiko/simulation/CellSet" "size" "I" (.int kz)) (E : Exa Z h0 a0 "com/example/sarutahiko/sarutahiko/simulation/CellSet") (A : IAr Z h0 b .int n f) (ne : a0 ≠ b) (g : n0 ≤ a0) (gb : n0 ≤ b) (hn : n = 16 ∨ n = 32) (hk : kz.toInt = (k : Int)) (hx1 : ¬ p1 = (-1 : Int32)) (T : Tab f n S m') (hH : Hit f n p1 d) (hS : S p1) :
    MetFree l (⟨"com/example/sarutahiko/sarutahiko/simulation/CellSet", "add", "(I)Z"⟩ : MethodName) (head1 (Jvm.Cond.code (⟨"com/example/sarutahiko/sarutahiko/simulation/CellSet", "add", "(I)Z"⟩ : MethodName) prog_37_method_2_code 8 (some .boolean) :: ws) ({ frames := 1, cells := 0, slots := 0, locals := 30 } : Room)) (fun a U => a = #[(.ref a0), (.int p1)] ∧ Z.Warmed39 U.vm ∧ U.heap = h0) (fun _ _ _ _ _ => True) (fun _ U o U' => ∃ v L, o = .returned v ∧ Q5d n0 v U'.heap L ∧ FrameEnd U o U' L ({ frames := 1, cells := 0, slots := 0, locals := 30 } : Room).cells ({ frames := 1, cells := 0, slots := 0, locals := 30 } : Room).slots) := by
  refine MetFree.of_bodySF (plainFor_of_name pn_1) hisR ?_
  intro p e s m args below meth c s₁ Bd hml0 hP _hKK
  obtain ⟨rfl, hZ, hh⟩ := hP
  have hx := Bd.exec
  have hby := Bd.bytes
  have hml : c.maxLocals = 8 := hml0
  have hown : s.vm.findClass "com/example/sarutahiko/sarutahiko/simulation/CellSet" = some m.cls := findClass_of_methodNamed Bd.named
  have hnm := (name_of_methodNamed Bd.named Bd.method).1
  have X0 : Stand p l e ({ frames := 1, cells := 0, slots := 0, locals := 30 } : Room) s m #[(.ref a0), (.int p1)] below meth c s₁ [] 0 0 := Stand.of_body Bd
  have e0 : s₁.heap = h0 := by rw [← hh, Bd.state]; rfl
  refine Ow.enter (Q := Q5d n0) (ef_5 m a0 p1) ?_
  show Ow p e below s _ _ _ (s₁.setTop (mkF m 0 #[.val (.ref a0), .val (.int p1), .unset, .unset, .unset, .unset, .unset, .unset] []))
  have hlt := own_pos_lt n hn p1 d
  refine w_aloadN X0 hx (Jvm.hb hby d5_0) rfl rfl (pc' := 1) rfl ?_
  refine w_getfield X0 hx hZ hown (host := "") (Or.inl (hw _ (List.mem_of_getElem? (i := 19) rfl))) Via.refl e0 F (Jvm.hb hby d5_1) (pc' := 4) rfl ?_
  intro T27 X27 e27
  refine w_iloadN X27 hx (Jvm.hb hby d5_4) rfl (pc' := 5) rfl ?_
  refine w_callS X27 hx hZ hown (hw _ (List.mem_of_getElem? (i := 26) rfl)) (hw _ (List.mem_of_getElem? (i := 27) rfl)) (hw _ (List.mem_of_getElem? (i := 5) rfl)) (hw _ (List.mem_of_getElem? (i := 28) rfl)) (by decide) (W := 0) (rm6 l Z aw hw [] b p1 n f d h0 A hn hH) e27 (by decide) (by decide) (by decide) (by decide) (Jvm.hb hby d5_5) (by rw [hml]; rfl) (argsL := [(.ref b), (.int p1)]) (rest := []) pd_2 rfl rfl rfl (Nat.le_of_eq rfl) (pc' := 8) rfl ?_
  rintro _ T28 L28 X28 ⟨z, rfl, hz, e28, rfl⟩
  show Ow p e below s _ _ _ (T28.setTop (mkF m 8 #[.val (.ref a0), .val (.int p1), .unset, .unset, .unset, .unset, .unset, .unset] [(.int z)]))
  refine w_istoreN X28 hx (Jvm.hb hby d5_8) #[.val (.ref a0), .val (.int p1), .val (.int z), .unset, .unset, .unset, .unset, .unset] rfl  (pc' := 9) rfl ?_
  refine w_aloadN X28 hx (Jvm.hb hby d5_9) rfl rfl (pc' := 10) rfl ?_
  refine w_getfield X28 hx hZ hown (host := "") (Or.inl (hw _ (List.mem_of_getElem? (i := 19) rfl))) Via.refl e28 F (Jvm.hb hby d5_10) (pc' := 13) rfl ?_
  intro T29 X29 e29
  refine w_iloadN X29 hx (Jvm.hb hby d5_13) rfl (pc' := 14) rfl ?_
  refine w_ialoadA X29 hx hZ e29 A (pos n p1 d) hz hlt (Jvm.hb hby d5_14) (pc' := 15) rfl ?_
  refine w_iloadN X29 hx (Jvm.hb hby d5_15) rfl (pc' := 16) rfl ?_
  refine w_icmp_ne X29 hx (Jvm.hb hby d5_16) (by decide) (pcT := 21) (by decide) (pcF := 19) rfl (fun q => absurd (own_in T hH hS) q) (fun _ => ?_)
  refine w_iconst X29 hx (0 : Int32) (Jvm.hb hby d5_19) (by decide) (pc' := 20) rfl ?_
  exact w_zreturn X29 hx Bd.returns (Or.inl rfl) (BodyLoose.notSynchronized Bd) (Nat.le_of_ble_eq_true rfl) (Nat.le_of_ble_eq_true rfl) (Jvm.hb hby d5_20) ⟨rfl, by simpa using Fr.nil n0⟩
def Q5a (Z : State) (a0 : Addr) (p1 : Int32) (b : Addr) (S : Int32 → Prop) (n k m' : Nat) (h0 : Heap) (n0 : Nat) (v : Option Value) (h : Heap) (L : List Loc) : Prop := ∃ (vb kz' : Int32) (f' : Nat → Int32) (k' : Nat), v = some (.int vb) ∧ Fr n0 L ∧ ((vb = 1 ∧ ¬ S p1) ∨ (vb = 0 ∧ S p1)) ∧ Keep h0 h [a0, b] ∧ Fld Z h a0 "com/example/sarutahiko/sarutahiko/simulation/CellSet" "slots" "[I" (.ref b) ∧ Fld Z h a0 "com/example/sarutahiko/sarutahiko/simulation/CellSet" "size" "I" (.int kz') ∧ kz'.toInt = (k' : Int) ∧ k' ≤ k + 1 ∧ IAr Z h b .int n f' ∧ Tab f' n (fun y => S y ∨ y = p1) (m' + 1)
set_option maxRecDepth 65536 in
set_option maxHeartbeats 40000000 in
theorem rm5a (l : Launch) (Z : State) (aw : Array Value) (hw : ∀ d ∈ tables_1, d.before aw Z = true) (ws : List Jvm.Cond) (a0 : Addr) (p1 : Int32) (b : Addr) (n : Nat) (f : Nat → Int32) (kz : Int32) (k : Nat) (S : Int32 → Prop) (m' d : Nat) (h0 : Heap) (n0 : Nat) (Z0 : n0 ≤ h0.size) (F : Fld Z h0 a0 "com/example/sarutahiko/sarutahiko/simulation/CellSet" "slots" "[I" (.ref b)) (Fs : Fld Z h0 a0 "com/example/sarutahiko/sarutahiko/simulation/CellSet" "size" "I" (.int kz)) (E : Exa Z h0 a0 "com/example/sarutahiko/sarutahiko/simulation/CellSet") (A : IAr Z h0 b .int n f) (ne : a0 ≠ b) (g : n0 ≤ a0) (gb : n0 ≤ b) (hn : n = 16 ∨ n = 32) (hk : kz.toInt = (k : Int)) (hk2 : k ≤ 1000) (hx1 : ¬ p1 = (-1 : Int32)) (T : Tab f n S m') (hH : Hit f n p1 d) (hcond : S p1 ∨ 2 * (k + 1) ≤ n) :
    MetFree l (⟨"com/example/sarutahiko/sarutahiko/simulation/CellSet", "add", "(I)Z"⟩ : MethodName) (head1 (Jvm.Cond.code (⟨"com/example/sarutahiko/sarutahiko/simulation/CellSet", "add", "(I)Z"⟩ : MethodName) prog_37_method_2_code 8 (some .boolean) :: ws) ({ frames := 1, cells := 0, slots := 0, locals := 30 } : Room)) (fun a U => a = #[(.ref a0), (.int p1)] ∧ Z.Warmed39 U.vm ∧ U.heap = h0) (fun _ _ _ _ _ => True) (fun _ U o U' => ∃ v L, o = .returned v ∧ Q5a Z a0 p1 b S n k m' h0 n0 v U'.heap L ∧ FrameEnd U o U' L ({ frames := 1, cells := 0, slots := 0, locals := 30 } : Room).cells ({ frames := 1, cells := 0, slots := 0, locals := 30 } : Room).slots) := by
  refine MetFree.of_bodySF (plainFor_of_name pn_1) hisR ?_
  intro p e s m args below meth c s₁ Bd hml0 hP _hKK
  obtain ⟨rfl, hZ, hh⟩ := hP
  have hx := Bd.exec
  have hby := Bd.bytes
  have hml : c.maxLocals = 8 := hml0
  have hown : s.vm.findClass "com/example/sarutahiko/sarutahiko/simulation/CellSet" = some m.cls := findClass_of_methodNamed Bd.named
  have hnm := (name_of_methodNamed Bd.named Bd.method).1
  have X0 : Stand p l e ({ frames := 1, cells := 0, slots := 0, locals := 30 } : Room) s m #[(.ref a0), (.int p1)] below meth c s₁ [] 0 0 := Stand.of_body Bd
  have e0 : s₁.heap = h0 := by rw [← hh, Bd.state]; rfl
  refine Ow.enter (Q := Q5a Z a0 p1 b S n k m' h0 n0) (ef_5 m a0 p1) ?_
  show Ow p e below s _ _ _ (s₁.setTop (mkF m 0 #[.val (.ref a0), .val (.int p1), .unset, .unset, .unset, .unset, .unset, .unset] []))
  obtain ⟨nz, hnz⟩ := own_nz (n := n) A.len
  have hlt := own_pos_lt n hn p1 d
  refine w_aloadN X0 hx (Jvm.hb hby d5_0) rfl rfl (pc' := 1) rfl ?_
  refine w_getfield X0 hx hZ hown (host := "") (Or.inl (hw _ (List.mem_of_getElem? (i := 19) rfl))) Via.refl e0 F (Jvm.hb hby d5_1) (pc' := 4) rfl ?_
  intro T30 X30 e30
  refine w_iloadN X30 hx (Jvm.hb hby d5_4) rfl (pc' := 5) rfl ?_
  refine w_callS X30 hx hZ hown (hw _ (List.mem_of_getElem? (i := 26) rfl)) (hw _ (List.mem_of_getElem? (i := 27) rfl)) (hw _ (List.mem_of_getElem? (i := 5) rfl)) (hw _ (List.mem_of_getElem? (i := 28) rfl)) (by decide) (W := 0) (rm6 l Z aw hw [] b p1 n f d h0 A hn hH) e30 (by decide) (by decide) (by decide) (by decide) (Jvm.hb hby d5_5) (by rw [hml]; rfl) (argsL := [(.ref b), (.int p1)]) (rest := []) pd_2 rfl rfl rfl (Nat.le_of_eq rfl) (pc' := 8) rfl ?_
  rintro _ T31 L31 X31 ⟨z, rfl, hz, e31, rfl⟩
  show Ow p e below s _ _ _ (T31.setTop (mkF m 8 #[.val (.ref a0), .val (.int p1), .unset, .unset, .unset, .unset, .unset, .unset] [(.int z)]))
  refine w_istoreN X31 hx (Jvm.hb hby d5_8) #[.val (.ref a0), .val (.int p1), .val (.int z), .unset, .unset, .unset, .unset, .unset] rfl  (pc' := 9) rfl ?_
  refine w_aloadN X31 hx (Jvm.hb hby d5_9) rfl rfl (pc' := 10) rfl ?_
  refine w_getfield X31 hx hZ hown (host := "") (Or.inl (hw _ (List.mem_of_getElem? (i := 19) rfl))) Via.refl e31 F (Jvm.hb hby d5_10) (pc' := 13) rfl ?_
  intro T32 X32 e32
  refine w_iloadN X32 hx (Jvm.hb hby d5_13) rfl (pc' := 14) rfl ?_
  refine w_ialoadA X32 hx hZ e32 A (pos n p1 d) hz hlt (Jvm.hb hby d5_14) (pc' := 15) rfl ?_
  refine w_iloadN X32 hx (Jvm.hb hby d5_15) rfl (pc' := 16) rfl ?_
  refine w_icmp_ne X32 hx (Jvm.hb hby d5_16) (by decide) (pcT := 21) (by decide) (pcF := 19) rfl (fun q1 => ?_) (fun q1 => ?_)
  · have hS : ¬ S p1 := fun r => q1 (own_in T hH r)
    refine w_aloadN X32 hx (Jvm.hb hby d5_21) rfl rfl (pc' := 22) rfl ?_
    refine w_getfield X32 hx hZ hown (host := "") (Or.inl (hw _ (List.mem_of_getElem? (i := 19) rfl))) Via.refl e32 F (Jvm.hb hby d5_22) (pc' := 25) rfl ?_
    intro T33 X33 e33
    refine w_iloadN X33 hx (Jvm.hb hby d5_25) rfl (pc' := 26) rfl ?_
    refine w_iloadN X33 hx (Jvm.hb hby d5_26) rfl (pc' := 27) rfl ?_
    refine w_iastoreA X33 hx hZ e33 A (pos n p1 d) hz hlt (Jvm.hb hby d5_27) (pc' := 28) rfl ?_
    intro T34 h34 X34 e34 W34 V34
    have N34 := Fr.snoc X34 (Fr.nil n0) gb
    have F34 := F.other W34 (Or.inl ne)
    have Fs34 := Fs.other W34 (Or.inl ne)
    have E34 := E.wr W34
    have K34 : Keep h0 h34 [a0, b] := (Keep.refl h0 [a0, b]).wr W34 (Or.inl (List.mem_of_getElem? (i := 1) rfl))
    have TT := own_ins hn T hx1 hH
    refine w_aloadN X34 hx (Jvm.hb hby d5_28) rfl rfl (pc' := 29) rfl ?_
    refine w_dup X34 hx (Jvm.hb hby d5_29) rfl (pc' := 30) rfl ?_
    refine w_getfield X34 hx hZ hown (host := "") (Or.inl (hw _ (List.mem_of_getElem? (i := 30) rfl))) Via.refl e34 Fs34 (Jvm.hb hby d5_30) (pc' := 33) rfl ?_
    intro T35 X35 e35
    refine w_iconst X35 hx (1 : Int32) (Jvm.hb hby d5_33) (by decide) (pc' := 34) rfl ?_
    refine w_iadd X35 hx (Jvm.hb hby d5_34) (pc' := 35) rfl ?_
    refine w_putfield X35 hx hZ hown (host := "") (Or.inl (hw _ (List.mem_of_getElem? (i := 30) rfl))) Via.refl e35 Fs34 E34 (Or.inl (hw _ (List.mem_of_getElem? (i := 31) rfl))) (hw _ (List.mem_of_getElem? (i := 4) rfl)) (ty := .int) (by decide) rfl rfl (Jvm.hb hby d5_35) (pc' := 38) rfl ?_
    intro T36 h36 X36 e36 W36
    have N36 := Fr.snoc X36 N34 g
    have Fs36 := Fs34.same W36
    have F36 := F34.other W36 (Or.inr (slot_ne (Or.inl (hw _ (List.mem_of_getElem? (i := 20) rfl))) (Or.inl (hw _ (List.mem_of_getElem? (i := 31) rfl))) (by decide) (t := (.array .int)) (t' := .int) (by decide) (by decide)))
    have E36 := E34.wr W36
    have V36 := V34.other W36 (Ne.symm ne)
    have K36 := K34.wr W36 (Or.inl (List.mem_of_getElem? (i := 0) rfl))
    refine w_iconst X36 hx (2 : Int32) (Jvm.hb hby d5_38) (by decide) (pc' := 39) rfl ?_
    refine w_aloadN X36 hx (Jvm.hb hby d5_39) rfl rfl (pc' := 40) rfl ?_
    refine w_getfield X36 hx hZ hown (host := "") (Or.inl (hw _ (List.mem_of_getElem? (i := 30) rfl))) Via.refl e36 Fs36 (Jvm.hb hby d5_40) (pc' := 43) rfl ?_
    intro T37 X37 e37
    refine w_imul X37 hx (Jvm.hb hby d5_43) (pc' := 44) rfl ?_
    refine w_aloadN X37 hx (Jvm.hb hby d5_44) rfl rfl (pc' := 45) rfl ?_
    refine w_getfield X37 hx hZ hown (host := "") (Or.inl (hw _ (List.mem_of_getElem? (i := 19) rfl))) Via.refl e37 F36 (Jvm.hb hby d5_45) (pc' := 48) rfl ?_
    intro T38 X38 e38
    refine w_lengthA X38 hx hZ e38 V36 nz hnz (Jvm.hb hby d5_48) (pc' := 49) rfl ?_
    refine w_icmp_le X38 hx (Jvm.hb hby d5_49) (by decide) (pcT := 118) (by decide) (pcF := 52) rfl (fun _ => ?_) (fun q => absurd q (own_len2 hnz hk hk2 (hcond.resolve_left hS)))
    refine w_iconst X38 hx (1 : Int32) (Jvm.hb hby d5_118) (by decide) (pc' := 119) rfl ?_
    exact w_zreturn X38 hx Bd.returns (Or.inr rfl) (BodyLoose.notSynchronized Bd) (Nat.le_of_ble_eq_true rfl) (Nat.le_of_ble_eq_true rfl) (Jvm.hb hby d5_119) ⟨(1 : Int32), _, _, k + 1, rfl, N36, Or.inl ⟨rfl, hS⟩, by rw [e38]; exact ⟨K36, F36, Fs36, own_k1 hk hk2, Nat.le_refl _, V36, TT⟩⟩
  · refine w_iconst X32 hx (0 : Int32) (Jvm.hb hby d5_19) (by decide) (pc' := 20) rfl ?_
    have hS : S p1 := own_of hn T hx1 q1
    exact w_zreturn X32 hx Bd.returns (Or.inl rfl) (BodyLoose.notSynchronized Bd) (Nat.le_of_ble_eq_true rfl) (Nat.le_of_ble_eq_true rfl) (Jvm.hb hby d5_20) ⟨(0 : Int32), kz, f, k, rfl, by simpa using Fr.nil n0, Or.inr ⟨rfl, hS⟩, by rw [e32]; exact ⟨Keep.refl h0 [a0, b], F, Fs, hk, Nat.le_succ _, A, own_same T hS⟩⟩
def Q5b (Z : State) (a0 : Addr) (p1 : Int32) (b : Addr) (S : Int32 → Prop) (n k m' : Nat) (h0 : Heap) (n0 : Nat) (v : Option Value) (h : Heap) (L : List Loc) : Prop := ∃ (vb kz' : Int32) (b' : Addr) (n' : Nat) (f' : Nat → Int32) (k' m2 : Nat), v = some (.int vb) ∧ Fr n0 L ∧ ((vb = 1 ∧ ¬ S p1) ∨ (vb = 0 ∧ S p1)) ∧ n0 ≤ b' ∧ a0 ≠ b' ∧ (n' = 16 ∨ n' = 32) ∧ m2 < n' ∧ Keep h0 h [a0, b] ∧ Fld Z h a0 "com/example/sarutahiko/sarutahiko/simulation/CellSet" "slots" "[I" (.ref b') ∧ Fld Z h a0 "com/example/sarutahiko/sarutahiko/simulation/CellSet" "size" "I" (.int kz') ∧ kz'.toInt = (k' : Int) ∧ IAr Z h b' .int n' f' ∧ Tab f' n' (fun y => S y ∨ y = p1) m2
set_option maxRecDepth 65536 in
set_option maxHeartbeats 40000000 in
theorem rm5b (l : Launch) (Z : State) (aw : Array Value) (hw : ∀ d ∈ tables_1, d.before aw Z = true) (ws : List Jvm.Cond) (a0 : Addr) (p1 : Int32) (b : Addr) (n : Nat) (f : Nat → Int32) (kz : Int32) (k : Nat) (S : Int32 → Prop) (m' d : Nat) (h0 : Heap) (n0 : Nat) (Z0 : n0 ≤ h0.size) (F : Fld Z h0 a0 "com/example/sarutahiko/sarutahiko/simulation/CellSet" "slots" "[I" (.ref b)) (Fs : Fld Z h0 a0 "com/example/sarutahiko/sarutahiko/simulation/CellSet" "size" "I" (.int kz)) (E : Exa Z h0 a0 "com/example/sarutahiko/sarutahiko/simulation/CellSet") (A : IAr Z h0 b .int n f) (ne : a0 ≠ b) (g : n0 ≤ a0) (gb : n0 ≤ b) (hn : n = 16 ∨ n = 32) (hk : kz.toInt = (k : Int)) (hk2 : k ≤ 1000) (hx1 : ¬ p1 = (-1 : Int32)) (T : Tab f n S m') (hH : Hit f n p1 d) (hn16 : n = 16) (hk8 : k ≤ 8) (hm8 : m' ≤ 8) :
    MetFree l (⟨"com/example/sarutahiko/sarutahiko/simulation/CellSet", "add", "(I)Z"⟩ : MethodName) (head1 (Jvm.Cond.code (⟨"com/example/sarutahiko/sarutahiko/simulation/CellSet", "add", "(I)Z"⟩ : MethodName) prog_37_method_2_code 8 (some .boolean) :: ws) ({ frames := 2, cells := 1, slots := 32, locals := 40 } : Room)) (fun a U => a = #[(.ref a0), (.int p1)] ∧ Z.Warmed39 U.vm ∧ U.heap = h0) (fun _ _ _ _ _ => True) (fun _ U o U' => ∃ v L, o = .returned v ∧ Q5b Z a0 p1 b S n k m' h0 n0 v U'.heap L ∧ FrameEnd U o U' L ({ frames := 2, cells := 1, slots := 32, locals := 40 } : Room).cells ({ frames := 2, cells := 1, slots := 32, locals := 40 } : Room).slots) := by
  refine MetFree.of_bodySF (plainFor_of_name pn_1) hisR ?_
  intro p e s m args below meth c s₁ Bd hml0 hP _hKK
  obtain ⟨rfl, hZ, hh⟩ := hP
  have hx := Bd.exec
  have hby := Bd.bytes
  have hml : c.maxLocals = 8 := hml0
  have hown : s.vm.findClass "com/example/sarutahiko/sarutahiko/simulation/CellSet" = some m.cls := findClass_of_methodNamed Bd.named
  have hnm := (name_of_methodNamed Bd.named Bd.method).1
  have X0 : Stand p l e ({ frames := 2, cells := 1, slots := 32, locals := 40 } : Room) s m #[(.ref a0), (.int p1)] below meth c s₁ [] 0 0 := Stand.of_body Bd
  have e0 : s₁.heap = h0 := by rw [← hh, Bd.state]; rfl
  refine Ow.enter (Q := Q5b Z a0 p1 b S n k m' h0 n0) (ef_5 m a0 p1) ?_
  show Ow p e below s _ _ _ (s₁.setTop (mkF m 0 #[.val (.ref a0), .val (.int p1), .unset, .unset, .unset, .unset, .unset, .unset] []))
  obtain ⟨nz, hnz⟩ := own_nz (n := n) A.len
  have hlt := own_pos_lt n hn p1 d
  refine w_aloadN X0 hx (Jvm.hb hby d5_0) rfl rfl (pc' := 1) rfl ?_
  refine w_getfield X0 hx hZ hown (host := "") (Or.inl (hw _ (List.mem_of_getElem? (i := 19) rfl))) Via.refl e0 F (Jvm.hb hby d5_1) (pc' := 4) rfl ?_
  intro T39 X39 e39
  refine w_iloadN X39 hx (Jvm.hb hby d5_4) rfl (pc' := 5) rfl ?_
  refine w_callS X39 hx hZ hown (hw _ (List.mem_of_getElem? (i := 26) rfl)) (hw _ (List.mem_of_getElem? (i := 27) rfl)) (hw _ (List.mem_of_getElem? (i := 5) rfl)) (hw _ (List.mem_of_getElem? (i := 28) rfl)) (by decide) (W := 0) (rm6 l Z aw hw [] b p1 n f d h0 A hn hH) e39 (by decide) (by decide) (by decide) (by decide) (Jvm.hb hby d5_5) (by rw [hml]; rfl) (argsL := [(.ref b), (.int p1)]) (rest := []) pd_2 rfl rfl rfl (Nat.le_of_eq rfl) (pc' := 8) rfl ?_
  rintro _ T40 L40 X40 ⟨z, rfl, hz, e40, rfl⟩
  show Ow p e below s _ _ _ (T40.setTop (mkF m 8 #[.val (.ref a0), .val (.int p1), .unset, .unset, .unset, .unset, .unset, .unset] [(.int z)]))
  refine w_istoreN X40 hx (Jvm.hb hby d5_8) #[.val (.ref a0), .val (.int p1), .val (.int z), .unset, .unset, .unset, .unset, .unset] rfl  (pc' := 9) rfl ?_
  refine w_aloadN X40 hx (Jvm.hb hby d5_9) rfl rfl (pc' := 10) rfl ?_
  refine w_getfield X40 hx hZ hown (host := "") (Or.inl (hw _ (List.mem_of_getElem? (i := 19) rfl))) Via.refl e40 F (Jvm.hb hby d5_10) (pc' := 13) rfl ?_
  intro T41 X41 e41
  refine w_iloadN X41 hx (Jvm.hb hby d5_13) rfl (pc' := 14) rfl ?_
  refine w_ialoadA X41 hx hZ e41 A (pos n p1 d) hz hlt (Jvm.hb hby d5_14) (pc' := 15) rfl ?_
  refine w_iloadN X41 hx (Jvm.hb hby d5_15) rfl (pc' := 16) rfl ?_
  refine w_icmp_ne X41 hx (Jvm.hb hby d5_16) (by decide) (pcT := 21) (by decide) (pcF := 19) rfl (fun q1 => ?_) (fun q1 => ?_)
  · have hS : ¬ S p1 := fun r => q1 (own_in T hH r)
    refine w_aloadN X41 hx (Jvm.hb hby d5_21) rfl rfl (pc' := 22) rfl ?_
    refine w_getfield X41 hx hZ hown (host := "") (Or.inl (hw _ (List.mem_of_getElem? (i := 19) rfl))) Via.refl e41 F (Jvm.hb hby d5_22) (pc' := 25) rfl ?_
    intro T42 X42 e42
    refine w_iloadN X42 hx (Jvm.hb hby d5_25) rfl (pc' := 26) rfl ?_
    refine w_iloadN X42 hx (Jvm.hb hby d5_26) rfl (pc' := 27) rfl ?_
    refine w_iastoreA X42 hx hZ e42 A (pos n p1 d) hz hlt (Jvm.hb hby d5_27) (pc' := 28) rfl ?_
    intro T43 h43 X43 e43 W43 V43
    have N43 := Fr.snoc X43 (Fr.nil n0) gb
    have F43 := F.other W43 (Or.inl ne)
    have Fs43 := Fs.other W43 (Or.inl ne)
    have E43 := E.wr W43
    have K43 : Keep h0 h43 [a0, b] := (Keep.refl h0 [a0, b]).wr W43 (Or.inl (List.mem_of_getElem? (i := 1) rfl))
    have TT := own_ins hn T hx1 hH
    refine w_aloadN X43 hx (Jvm.hb hby d5_28) rfl rfl (pc' := 29) rfl ?_
    refine w_dup X43 hx (Jvm.hb hby d5_29) rfl (pc' := 30) rfl ?_
    refine w_getfield X43 hx hZ hown (host := "") (Or.inl (hw _ (List.mem_of_getElem? (i := 30) rfl))) Via.refl e43 Fs43 (Jvm.hb hby d5_30) (pc' := 33) rfl ?_
    intro T44 X44 e44
    refine w_iconst X44 hx (1 : Int32) (Jvm.hb hby d5_33) (by decide) (pc' := 34) rfl ?_
    refine w_iadd X44 hx (Jvm.hb hby d5_34) (pc' := 35) rfl ?_
    refine w_putfield X44 hx hZ hown (host := "") (Or.inl (hw _ (List.mem_of_getElem? (i := 30) rfl))) Via.refl e44 Fs43 E43 (Or.inl (hw _ (List.mem_of_getElem? (i := 31) rfl))) (hw _ (List.mem_of_getElem? (i := 4) rfl)) (ty := .int) (by decide) rfl rfl (Jvm.hb hby d5_35) (pc' := 38) rfl ?_
    intro T45 h45 X45 e45 W45
    have N45 := Fr.snoc X45 N43 g
    have Fs45 := Fs43.same W45
    have F45 := F43.other W45 (Or.inr (slot_ne (Or.inl (hw _ (List.mem_of_getElem? (i := 20) rfl))) (Or.inl (hw _ (List.mem_of_getElem? (i := 31) rfl))) (by decide) (t := (.array .int)) (t' := .int) (by decide) (by decide)))
    have E45 := E43.wr W45
    have V45 := V43.other W45 (Ne.symm ne)
    have K45 := K43.wr W45 (Or.inl (List.mem_of_getElem? (i := 0) rfl))
    refine w_iconst X45 hx (2 : Int32) (Jvm.hb hby d5_38) (by decide) (pc' := 39) rfl ?_
    refine w_aloadN X45 hx (Jvm.hb hby d5_39) rfl rfl (pc' := 40) rfl ?_
    refine w_getfield X45 hx hZ hown (host := "") (Or.inl (hw _ (List.mem_of_getElem? (i := 30) rfl))) Via.refl e45 Fs45 (Jvm.hb hby d5_40) (pc' := 43) rfl ?_
    intro T46 X46 e46
    refine w_imul X46 hx (Jvm.hb hby d5_43) (pc' := 44) rfl ?_
    refine w_aloadN X46 hx (Jvm.hb hby d5_44) rfl rfl (pc' := 45) rfl ?_
    refine w_getfield X46 hx hZ hown (host := "") (Or.inl (hw _ (List.mem_of_getElem? (i := 19) rfl))) Via.refl e46 F45 (Jvm.hb hby d5_45) (pc' := 48) rfl ?_
    intro T47 X47 e47
    refine w_lengthA X47 hx hZ e47 V45 nz hnz (Jvm.hb hby d5_48) (pc' := 49) rfl ?_
    refine w_icmp_le X47 hx (Jvm.hb hby d5_49) (by decide) (pcT := 118) (by decide) (pcF := 52) rfl (fun hgr => ?_) (fun hgr => ?_)
    · refine w_iconst X47 hx (1 : Int32) (Jvm.hb hby d5_118) (by decide) (pc' := 119) rfl ?_
      exact w_zreturn X47 hx Bd.returns (Or.inr rfl) (BodyLoose.notSynchronized Bd) (Nat.le_of_ble_eq_true rfl) (Nat.le_of_ble_eq_true rfl) (Jvm.hb hby d5_119) ⟨(1 : Int32), _, b, n, _, k + 1, m' + 1, rfl, N45, Or.inl ⟨rfl, hS⟩, gb, ne, hn, by omega, by rw [e47]; exact ⟨K45, F45, Fs45, own_k1 hk hk2, V45, TT⟩⟩
    · refine w_iconst X47 hx (2 : Int32) (Jvm.hb hby d5_52) (by decide) (pc' := 53) rfl ?_
      refine w_aloadN X47 hx (Jvm.hb hby d5_53) rfl rfl (pc' := 54) rfl ?_
      refine w_getfield X47 hx hZ hown (host := "") (Or.inl (hw _ (List.mem_of_getElem? (i := 19) rfl))) Via.refl e47 F45 (Jvm.hb hby d5_54) (pc' := 57) rfl ?_
      intro T48 X48 e48
      refine w_lengthA X48 hx hZ e48 V45 nz hnz (Jvm.hb hby d5_57) (pc' := 58) rfl ?_
      refine w_imul X48 hx (Jvm.hb hby d5_58) (pc' := 59) rfl ?_
      obtain rfl : nz = (16 : Int32) := Int32.toInt_inj.mp (by rw [hnz, hn16]; decide)
      have hS0 : n0 ≤ h45.size := Nat.le_trans Z0 K45.1
      refine w_callS X48 hx hZ hown (hw _ (List.mem_of_getElem? (i := 12) rfl)) (hw _ (List.mem_of_getElem? (i := 13) rfl)) (hw _ (List.mem_of_getElem? (i := 5) rfl)) (hw _ (List.mem_of_getElem? (i := 14) rfl)) (by decide) (W := 0) (rm3 l Z aw hw [] ((2 : Int32) * (16 : Int32)) 32 h45 n0 hS0 (by decide) (by decide)) e48 (by decide) (by decide) (by decide) (by decide) (Jvm.hb hby d5_59) (by rw [hml]; rfl) (argsL := [(.int ((2 : Int32) * (16 : Int32)))]) (rest := []) pd_1 rfl rfl rfl (Nat.le_of_eq rfl) (pc' := 62) rfl ?_
      rintro _ T49 L49 X49 ⟨gb', rfl, N49, hgb, K49, V49⟩
      show Ow p e below s _ _ _ (T49.setTop (mkF m 62 #[.val (.ref a0), .val (.int p1), .val (.int z), .unset, .unset, .unset, .unset, .unset] [(.ref gb')]))
      have neg1 : b ≠ gb' := Nat.ne_of_lt (Nat.lt_of_lt_of_le V45.lt hgb)
      have neg2 : a0 ≠ gb' := Nat.ne_of_lt (Nat.lt_of_lt_of_le F45.lt hgb)
      have ggb : n0 ≤ gb' := Nat.le_trans hS0 hgb
      have F49' := F45.keep K49 nin0
      have Fs49' := Fs45.keep K49 nin0
      have V49' := V45.keep K49 nin0
      have E49' := E45.keep K49
      have K0 : Keep h0 T49.heap [a0, b] := K45.trans K49 all0
      have NN := Fr.app N45 N49
      refine w_astoreN X49 hx (Jvm.hb hby d5_62) #[.val (.ref a0), .val (.int p1), .val (.int z), .val (.ref gb'), .unset, .unset, .unset, .unset] rfl rfl (pc' := 63) rfl ?_
      refine w_aloadN X49 hx (Jvm.hb hby d5_63) rfl rfl (pc' := 64) rfl ?_
      refine w_getfield X49 hx hZ hown (host := "") (Or.inl (hw _ (List.mem_of_getElem? (i := 19) rfl))) Via.refl rfl F49' (Jvm.hb hby d5_64) (pc' := 67) rfl ?_
      intro T50 X50 e50
      refine w_astore X50 hx (Jvm.hb hby d5_67) #[.val (.ref a0), .val (.int p1), .val (.int z), .val (.ref gb'), .val (.ref b), .unset, .unset, .unset] rfl rfl (pc' := 69) rfl ?_
      refine w_aload X50 hx (Jvm.hb hby d5_69) rfl rfl (pc' := 71) rfl ?_
      refine w_lengthA X50 hx hZ e50 V49' (16 : Int32) (by rw [hn16]; decide) (Jvm.hb hby d5_71) (pc' := 72) rfl ?_
      refine w_istore X50 hx (Jvm.hb hby d5_72) #[.val (.ref a0), .val (.int p1), .val (.int z), .val (.ref gb'), .val (.ref b), .val (.int (16 : Int32)), .unset, .unset] rfl  (pc' := 74) rfl ?_
      refine w_iconst X50 hx (0 : Int32) (Jvm.hb hby d5_74) (by decide) (pc' := 75) rfl ?_
      refine w_istore X50 hx (Jvm.hb hby d5_75) #[.val (.ref a0), .val (.int p1), .val (.int z), .val (.ref gb'), .val (.ref b), .val (.int (16 : Int32)), .val (.int (0 : Int32)), .unset] rfl  (pc' := 77) rfl ?_
      obtain ⟨f1, hf1⟩ : ∃ f1, f1 = upd f (pos n p1 d) p1 := ⟨_, rfl⟩
      rw [← hf1] at TT V49'
      have loop : ∀ (kk i : Nat) (y : Int32) (q7 : Slot) (T : State) (L : List Loc) (g' : Nat → Int32), y.toInt = (i : Int) → i + kk = 16 → (q7 = .unset ∨ ∃ w' : Int32, q7 = .val (.int w')) → Stand p l e ({ frames := 2, cells := 1, slots := 32, locals := 40 } : Room) s m #[(.ref a0), (.int p1)] below meth c T L 1 32 → Fr n0 L → Keep T49.heap T.heap [gb'] → IAr Z T.heap gb' .int 32 g' → Tab g' 32 (fun y => ∃ j, j < i ∧ y = f1 j ∧ ¬ y = (-1 : Int32)) i → Ow p e below s (Q5b Z a0 p1 b S n k m' h0 n0) 1 32 (T.setTop (mkF m 77 #[.val (.ref a0), .val (.int p1), .val (.int z), .val (.ref gb'), .val (.ref b), .val (.int (16 : Int32)), .val (.int y), q7] [])) := by
        intro kk
        induction kk with
        | zero =>
          intro i y q7 T L g' hi hk' h7 X N K V GT
          obtain rfl : i = 16 := by omega
          refine w_iload X hx (Jvm.hb hby d5_77) rfl (pc' := 79) rfl ?_
          refine w_iload X hx (Jvm.hb hby d5_79) rfl (pc' := 81) rfl ?_
          refine w_icmp_ge X hx (Jvm.hb hby d5_81) (by decide) (pcT := 113) (by decide) (pcF := 84) rfl (fun _ => ?_) (fun q => absurd q (show ¬ y < (16 : Int32) from fun r => by rw [Int32.lt_iff_toInt_lt, hi] at r; exact absurd r (by decide)))
          refine w_aloadN X hx (Jvm.hb hby d5_113) rfl rfl (pc' := 114) rfl ?_
          refine w_aloadN X hx (Jvm.hb hby d5_114) rfl rfl (pc' := 115) rfl ?_
          have Fx := F49'.keep K (ninS neg2 nin0)
          have Fsx := Fs49'.keep K (ninS neg2 nin0)
          have Ex := E49'.keep K
          refine w_putfield X hx hZ hown (host := "") (Or.inl (hw _ (List.mem_of_getElem? (i := 19) rfl))) Via.refl rfl Fx Ex (Or.inl (hw _ (List.mem_of_getElem? (i := 20) rfl))) (hw _ (List.mem_of_getElem? (i := 4) rfl)) (ty := (.array .int)) (by decide) rfl rfl (Jvm.hb hby d5_115) (pc' := 118) rfl ?_
          intro T51 h51 X51 e51 W51
          have Nx := Fr.snoc X51 N g
          refine w_iconst X51 hx (1 : Int32) (Jvm.hb hby d5_118) (by decide) (pc' := 119) rfl ?_
          subst hn16
          exact w_zreturn X51 hx Bd.returns (Or.inr rfl) (BodyLoose.notSynchronized Bd) (Nat.le_of_ble_eq_true rfl) (Nat.le_of_ble_eq_true rfl) (Jvm.hb hby d5_119) ⟨(1 : Int32), _, gb', 32, g', k + 1, 16, rfl, Nx, Or.inl ⟨rfl, hS⟩, ggb, neg2, Or.inr rfl, by omega, by rw [e51]; exact ⟨(K0.trans K (allS (Or.inr (Nat.le_trans K45.1 hgb)) all0)).wr W51 (Or.inl (List.mem_of_getElem? (i := 0) rfl)), Fx.same W51, Fsx.other W51 (Or.inr (slot_ne (Or.inl (hw _ (List.mem_of_getElem? (i := 31) rfl))) (Or.inl (hw _ (List.mem_of_getElem? (i := 20) rfl))) (by decide) (t := .int) (t' := (.array .int)) (by decide) (by decide))), own_k1 hk hk2, V.other W51 (Ne.symm neg2), own_whole TT GT⟩⟩
        | succ kk ih =>
          intro i y q7 T L g' hi hk' h7 X N K V GT
          have Vb := V49'.keep K (ninS neg1 nin0)
          rw [hn16] at Vb
          have hy1 : (y + (1 : Int32)).toInt = ((i + 1 : Nat) : Int) := by have h8 : (1 : Int32).toInt = 1 := (by decide); rw [Kit.i32_add (by rw [hi, h8]; omega) (by rw [hi, h8]; omega), hi, h8]; omega
          refine w_iload X hx (Jvm.hb hby d5_77) rfl (pc' := 79) rfl ?_
          refine w_iload X hx (Jvm.hb hby d5_79) rfl (pc' := 81) rfl ?_
          refine w_icmp_ge X hx (Jvm.hb hby d5_81) (by decide) (pcT := 113) (by decide) (pcF := 84) rfl (fun q => absurd (show y < (16 : Int32) from by rw [Int32.lt_iff_toInt_lt, hi, show (16 : Int32).toInt = 16 from by decide]; omega) q) (fun _ => ?_)
          refine w_aload X hx (Jvm.hb hby d5_84) rfl rfl (pc' := 86) rfl ?_
          refine w_iload X hx (Jvm.hb hby d5_86) rfl (pc' := 88) rfl ?_
          refine w_ialoadA X hx hZ rfl Vb i hi (by omega) (Jvm.hb hby d5_88) (pc' := 89) rfl ?_
          refine w_istore X hx (Jvm.hb hby d5_89) #[.val (.ref a0), .val (.int p1), .val (.int z), .val (.ref gb'), .val (.ref b), .val (.int (16 : Int32)), .val (.int y), .val (.int (f1 i))] (by rcases h7 with r | ⟨w', r⟩ <;> rw [r] <;> rfl)  (pc' := 91) rfl ?_
          refine w_iload X hx (Jvm.hb hby d5_91) rfl (pc' := 93) rfl ?_
          refine w_iconst X hx (-1 : Int32) (Jvm.hb hby d5_93) (by decide) (pc' := 94) rfl ?_
          refine w_icmp_eq X hx (Jvm.hb hby d5_94) (by decide) (pcT := 107) (by decide) (pcF := 97) rfl (fun r1 => ?_) (fun r1 => ?_)
          · refine w_iinc X hx (Jvm.hb hby d5_107) rfl #[.val (.ref a0), .val (.int p1), .val (.int z), .val (.ref gb'), .val (.ref b), .val (.int (16 : Int32)), .val (.int (y + (1 : Int32))), .val (.int (f1 i))] rfl (pc' := 110) rfl ?_
            refine w_goto X hx (Jvm.hb hby d5_110) (by decide) (pc' := 77) (by decide) ?_
            exact ih (i + 1) _ _ T L g' hy1 (by omega) (Or.inr ⟨_, rfl⟩) X N K V (GT.congr (fun y => own_step1 r1 y) (by omega))
          · obtain ⟨dd, hdd⟩ := own_hit (Or.inr rfl) GT (by omega) (f1 i)
            refine w_aloadN X hx (Jvm.hb hby d5_97) rfl rfl (pc' := 98) rfl ?_
            refine w_aloadN X hx (Jvm.hb hby d5_98) rfl rfl (pc' := 99) rfl ?_
            refine w_iload X hx (Jvm.hb hby d5_99) rfl (pc' := 101) rfl ?_
            refine w_callS X hx hZ hown (hw _ (List.mem_of_getElem? (i := 26) rfl)) (hw _ (List.mem_of_getElem? (i := 27) rfl)) (hw _ (List.mem_of_getElem? (i := 5) rfl)) (hw _ (List.mem_of_getElem? (i := 28) rfl)) (by decide) (W := 1) (rm6 l Z aw hw [] gb' (f1 i) 32 g' dd T.heap V (Or.inr rfl) hdd) rfl (by decide) (by decide) (by decide) (by decide) (Jvm.hb hby d5_101) (by rw [hml]; rfl) (argsL := [(.ref gb'), (.int (f1 i))]) (rest := [(.ref gb')]) pd_2 rfl rfl rfl (Nat.le_of_eq rfl) (pc' := 104) rfl ?_
            rintro _ T52 L52 X52 ⟨zz, rfl, hzz, e52, rfl⟩
            show Ow p e below s _ _ _ (T52.setTop (mkF m 104 #[.val (.ref a0), .val (.int p1), .val (.int z), .val (.ref gb'), .val (.ref b), .val (.int (16 : Int32)), .val (.int y), .val (.int (f1 i))] [(.int zz), (.ref gb')]))
            refine w_iload X52 hx (Jvm.hb hby d5_104) rfl (pc' := 106) rfl ?_
            refine w_iastoreA X52 hx hZ e52 V (pos 32 (f1 i) dd) hzz (own_pos_lt 32 (Or.inr rfl) _ _) (Jvm.hb hby d5_106) (pc' := 107) rfl ?_
            intro T53 h53 X53 e53 W53 V53
            refine w_iinc X53 hx (Jvm.hb hby d5_107) rfl #[.val (.ref a0), .val (.int p1), .val (.int z), .val (.ref gb'), .val (.ref b), .val (.int (16 : Int32)), .val (.int (y + (1 : Int32))), .val (.int (f1 i))] rfl (pc' := 110) rfl ?_
            refine w_goto X53 hx (Jvm.hb hby d5_110) (by decide) (pc' := 77) (by decide) ?_
            have Nn := Fr.snoc X53 (Fr.app N (Fr.nil n0)) ggb
            have Kn := K.wr W53 (Or.inl (List.mem_of_getElem? (i := 0) rfl))
            rw [← e53] at Kn V53
            exact ih (i + 1) _ _ T53 _ _ hy1 (by omega) (Or.inr ⟨_, rfl⟩) X53 Nn Kn V53 ((own_ins (Or.inr rfl) GT r1 hdd).congr (fun y => own_step2 r1 y) (Nat.le_refl _))
      exact loop 16 0 (0 : Int32) _ T50 _ _ (by decide) (by omega) (Or.inl rfl) X50 (by simpa using NN) (by rw [e50]; exact Keep.refl _ _) (by rw [e50]; exact V49) ((own_empty 32).congr (fun y => ⟨fun r => r.elim, fun ⟨j, hj, _⟩ => absurd hj (Nat.not_lt_zero _)⟩) (Nat.le_refl _))
  · refine w_iconst X41 hx (0 : Int32) (Jvm.hb hby d5_19) (by decide) (pc' := 20) rfl ?_
    have hS : S p1 := own_of hn T hx1 q1
    exact w_zreturn X41 hx Bd.returns (Or.inl rfl) (BodyLoose.notSynchronized Bd) (Nat.le_of_ble_eq_true rfl) (Nat.le_of_ble_eq_true rfl) (Jvm.hb hby d5_20) ⟨(0 : Int32), kz, b, n, f, k, m' + 1, rfl, by simpa using Fr.nil n0, Or.inr ⟨rfl, hS⟩, gb, ne, hn, by omega, by rw [e41]; exact ⟨Keep.refl h0 [a0, b], F, Fs, hk, A, own_same T hS⟩⟩
def Q7 (f : Nat → Int32) (i : Nat) (h0 : Heap) (v : Option Value) (h : Heap) (L : List Loc) : Prop := ∃ vb : Int32, v = some (.int vb) ∧ ((vb = 1 ∧ ∀ j, j < i → ¬ f i = f j) ∨ (vb = 0 ∧ ∃ j, j < i ∧ f i = f j)) ∧ h = h0 ∧ L = []
set_option maxRecDepth 65536 in
set_option maxHeartbeats 40000000 in
theorem rm7_0 (l : Launch) (Z : State) (aw : Array Value) (hw : ∀ d ∈ tables_1, d.before aw Z = true) (ws : List Jvm.Cond) (a0 : Addr) (f : Nat → Int32) (h0 : Heap) (A : IAr Z h0 a0 .int 9 f) :
    MetFree l (⟨"com/example/sarutahiko/sarutahiko/simulation/CellSetAddPinLaw", "fresh", "([II)Z"⟩ : MethodName) (head1 (Jvm.Cond.code (⟨"com/example/sarutahiko/sarutahiko/simulation/CellSetAddPinLaw", "fresh", "([II)Z"⟩ : MethodName) method_3_code 3 (some .boolean) :: ws) ({ frames := 0, cells := 0, slots := 0, locals := 0 } : Room)) (fun a U => a = #[(.ref a0), (.int (0 : Int32))] ∧ Z.Warmed39 U.vm ∧ U.heap = h0) (fun _ _ _ _ _ => True) (fun _ U o U' => ∃ v L, o = .returned v ∧ Q7 f 0 h0 v U'.heap L ∧ FrameEnd U o U' L ({ frames := 0, cells := 0, slots := 0, locals := 0 } : Room).cells ({ frames := 0, cells := 0, slots := 0, locals := 0 } : Room).slots) := by
  refine MetFree.of_bodySF (plainFor_of_name pn_2) hisR ?_
  intro p e s m args below meth c s₁ Bd hml0 hP _hKK
  obtain ⟨rfl, hZ, hh⟩ := hP
  have hx := Bd.exec
  have hby := Bd.bytes
  have hml : c.maxLocals = 3 := hml0
  have hown : s.vm.findClass "com/example/sarutahiko/sarutahiko/simulation/CellSetAddPinLaw" = some m.cls := findClass_of_methodNamed Bd.named
  have hnm := (name_of_methodNamed Bd.named Bd.method).1
  have X0 : Stand p l e ({ frames := 0, cells := 0, slots := 0, locals := 0 } : Room) s m #[(.ref a0), (.int (0 : Int32))] below meth c s₁ [] 0 0 := Stand.of_body Bd
  have e0 : s₁.heap = h0 := by rw [← hh, Bd.state]; rfl
  refine Ow.enter (Q := Q7 f 0 h0) (ef_7_0 m a0) ?_
  show Ow p e below s _ _ _ (s₁.setTop (mkF m 0 #[.val (.ref a0), .val (.int (0 : Int32)), .unset] []))
  refine w_aloadN X0 hx (Jvm.hb hby d7_0) rfl rfl (pc' := 1) rfl ?_
  refine w_iloadN X0 hx (Jvm.hb hby d7_1) rfl (pc' := 2) rfl ?_
  refine w_ialoadA X0 hx hZ e0 A 0 (by decide) (by decide) (Jvm.hb hby d7_2) (pc' := 3) rfl ?_
  refine w_istoreN X0 hx (Jvm.hb hby d7_3) #[.val (.ref a0), .val (.int (0 : Int32)), .val (.int (f 0))] rfl  (pc' := 4) rfl ?_
  refine w_iloadN X0 hx (Jvm.hb hby d7_4) rfl (pc' := 5) rfl ?_
  refine w_iconst X0 hx (1 : Int32) (Jvm.hb hby d7_5) (by decide) (pc' := 6) rfl ?_
  refine w_icmp_lt X0 hx (Jvm.hb hby d7_6) (by decide) (pcT := 16) (by decide) (pcF := 9) rfl (fun _ => ?_) (fun q => absurd (show (0 : Int32) < (1 : Int32) from by decide) q)
  refine w_iloadN X0 hx (Jvm.hb hby d7_16) rfl (pc' := 17) rfl ?_
  refine w_iconst X0 hx (2 : Int32) (Jvm.hb hby d7_17) (by decide) (pc' := 18) rfl ?_
  refine w_icmp_lt X0 hx (Jvm.hb hby d7_18) (by decide) (pcT := 28) (by decide) (pcF := 21) rfl (fun _ => ?_) (fun q => absurd (show (0 : Int32) < (2 : Int32) from by decide) q)
  refine w_iloadN X0 hx (Jvm.hb hby d7_28) rfl (pc' := 29) rfl ?_
  refine w_iconst X0 hx (3 : Int32) (Jvm.hb hby d7_29) (by decide) (pc' := 30) rfl ?_
  refine w_icmp_lt X0 hx (Jvm.hb hby d7_30) (by decide) (pcT := 40) (by decide) (pcF := 33) rfl (fun _ => ?_) (fun q => absurd (show (0 : Int32) < (3 : Int32) from by decide) q)
  refine w_iloadN X0 hx (Jvm.hb hby d7_40) rfl (pc' := 41) rfl ?_
  refine w_iconst X0 hx (4 : Int32) (Jvm.hb hby d7_41) (by decide) (pc' := 42) rfl ?_
  refine w_icmp_lt X0 hx (Jvm.hb hby d7_42) (by decide) (pcT := 52) (by decide) (pcF := 45) rfl (fun _ => ?_) (fun q => absurd (show (0 : Int32) < (4 : Int32) from by decide) q)
  refine w_iloadN X0 hx (Jvm.hb hby d7_52) rfl (pc' := 53) rfl ?_
  refine w_iconst X0 hx (5 : Int32) (Jvm.hb hby d7_53) (by decide) (pc' := 54) rfl ?_
  refine w_icmp_lt X0 hx (Jvm.hb hby d7_54) (by decide) (pcT := 64) (by decide) (pcF := 57) rfl (fun _ => ?_) (fun q => absurd (show (0 : Int32) < (5 : Int32) from by decide) q)
  refine w_iloadN X0 hx (Jvm.hb hby d7_64) rfl (pc' := 65) rfl ?_
  refine w_bipush X0 hx (6 : Int32) (Jvm.hb hby d7_65) (by decide) (pc' := 67) rfl ?_
  refine w_icmp_lt X0 hx (Jvm.hb hby d7_67) (by decide) (pcT := 77) (by decide) (pcF := 70) rfl (fun _ => ?_) (fun q => absurd (show (0 : Int32) < (6 : Int32) from by decide) q)
  refine w_iloadN X0 hx (Jvm.hb hby d7_77) rfl (pc' := 78) rfl ?_
  refine w_bipush X0 hx (7 : Int32) (Jvm.hb hby d7_78) (by decide) (pc' := 80) rfl ?_
  refine w_icmp_lt X0 hx (Jvm.hb hby d7_80) (by decide) (pcT := 91) (by decide) (pcF := 83) rfl (fun _ => ?_) (fun q => absurd (show (0 : Int32) < (7 : Int32) from by decide) q)
  refine w_iloadN X0 hx (Jvm.hb hby d7_91) rfl (pc' := 92) rfl ?_
  refine w_bipush X0 hx (8 : Int32) (Jvm.hb hby d7_92) (by decide) (pc' := 94) rfl ?_
  refine w_icmp_lt X0 hx (Jvm.hb hby d7_94) (by decide) (pcT := 105) (by decide) (pcF := 97) rfl (fun _ => ?_) (fun q => absurd (show (0 : Int32) < (8 : Int32) from by decide) q)
  refine w_iconst X0 hx (1 : Int32) (Jvm.hb hby d7_105) (by decide) (pc' := 106) rfl ?_
  refine w_goto X0 hx (Jvm.hb hby d7_106) (by decide) (pc' := 110) (by decide) ?_
  exact w_zreturn X0 hx Bd.returns (Or.inr rfl) (BodyLoose.notSynchronized Bd) (Nat.le_of_ble_eq_true rfl) (Nat.le_of_ble_eq_true rfl) (Jvm.hb hby d7_110) ⟨(1 : Int32), rfl, Or.inl ⟨rfl, fun j hj => absurd hj (Nat.not_lt_zero _)⟩, e0, rfl⟩
set_option maxRecDepth 65536 in
set_option maxHeartbeats 40000000 in
theorem rm7_1 (l : Launch) (Z : State) (aw : Array Value) (hw : ∀ d ∈ tables_1, d.before aw Z = true) (ws : List Jvm.Cond) (a0 : Addr) (f : Nat → Int32) (h0 : Heap) (A : IAr Z h0 a0 .int 9 f) :
    MetFree l (⟨"com/example/sarutahiko/sarutahiko/simulation/CellSetAddPinLaw", "fresh", "([II)Z"⟩ : MethodName) (head1 (Jvm.Cond.code (⟨"com/example/sarutahiko/sarutahiko/simulation/CellSetAddPinLaw", "fresh", "([II)Z"⟩ : MethodName) method_3_code 3 (some .boolean) :: ws) ({ frames := 0, cells := 0, slots := 0, locals := 0 } : Room)) (fun a U => a = #[(.ref a0), (.int (1 : Int32))] ∧ Z.Warmed39 U.vm ∧ U.heap = h0) (fun _ _ _ _ _ => True) (fun _ U o U' => ∃ v L, o = .returned v ∧ Q7 f 1 h0 v U'.heap L ∧ FrameEnd U o U' L ({ frames := 0, cells := 0, slots := 0, locals := 0 } : Room).cells ({ frames := 0, cells := 0, slots := 0, locals := 0 } : Room).slots) := by
  refine MetFree.of_bodySF (plainFor_of_name pn_2) hisR ?_
  intro p e s m args below meth c s₁ Bd hml0 hP _hKK
  obtain ⟨rfl, hZ, hh⟩ := hP
  have hx := Bd.exec
  have hby := Bd.bytes
  have hml : c.maxLocals = 3 := hml0
  have hown : s.vm.findClass "com/example/sarutahiko/sarutahiko/simulation/CellSetAddPinLaw" = some m.cls := findClass_of_methodNamed Bd.named
  have hnm := (name_of_methodNamed Bd.named Bd.method).1
  have X0 : Stand p l e ({ frames := 0, cells := 0, slots := 0, locals := 0 } : Room) s m #[(.ref a0), (.int (1 : Int32))] below meth c s₁ [] 0 0 := Stand.of_body Bd
  have e0 : s₁.heap = h0 := by rw [← hh, Bd.state]; rfl
  refine Ow.enter (Q := Q7 f 1 h0) (ef_7_1 m a0) ?_
  show Ow p e below s _ _ _ (s₁.setTop (mkF m 0 #[.val (.ref a0), .val (.int (1 : Int32)), .unset] []))
  refine w_aloadN X0 hx (Jvm.hb hby d7_0) rfl rfl (pc' := 1) rfl ?_
  refine w_iloadN X0 hx (Jvm.hb hby d7_1) rfl (pc' := 2) rfl ?_
  refine w_ialoadA X0 hx hZ e0 A 1 (by decide) (by decide) (Jvm.hb hby d7_2) (pc' := 3) rfl ?_
  refine w_istoreN X0 hx (Jvm.hb hby d7_3) #[.val (.ref a0), .val (.int (1 : Int32)), .val (.int (f 1))] rfl  (pc' := 4) rfl ?_
  refine w_iloadN X0 hx (Jvm.hb hby d7_4) rfl (pc' := 5) rfl ?_
  refine w_iconst X0 hx (1 : Int32) (Jvm.hb hby d7_5) (by decide) (pc' := 6) rfl ?_
  refine w_icmp_lt X0 hx (Jvm.hb hby d7_6) (by decide) (pcT := 16) (by decide) (pcF := 9) rfl (fun q => absurd q (show ¬ (1 : Int32) < (1 : Int32) from by decide)) (fun _ => ?_)
  refine w_iloadN X0 hx (Jvm.hb hby d7_9) rfl (pc' := 10) rfl ?_
  refine w_aloadN X0 hx (Jvm.hb hby d7_10) rfl rfl (pc' := 11) rfl ?_
  refine w_iconst X0 hx (0 : Int32) (Jvm.hb hby d7_11) (by decide) (pc' := 12) rfl ?_
  refine w_ialoadA X0 hx hZ e0 A 0 (by decide) (by decide) (Jvm.hb hby d7_12) (pc' := 13) rfl ?_
  refine w_icmp_eq X0 hx (Jvm.hb hby d7_13) (by decide) (pcT := 109) (by decide) (pcF := 16) rfl (fun c0 => ?_) (fun c0 => ?_)
  · refine w_iconst X0 hx (0 : Int32) (Jvm.hb hby d7_109) (by decide) (pc' := 110) rfl ?_
    exact w_zreturn X0 hx Bd.returns (Or.inl rfl) (BodyLoose.notSynchronized Bd) (Nat.le_of_ble_eq_true rfl) (Nat.le_of_ble_eq_true rfl) (Jvm.hb hby d7_110) ⟨(0 : Int32), rfl, Or.inr ⟨rfl, 0, by decide, c0⟩, e0, rfl⟩
  · refine w_iloadN X0 hx (Jvm.hb hby d7_16) rfl (pc' := 17) rfl ?_
    refine w_iconst X0 hx (2 : Int32) (Jvm.hb hby d7_17) (by decide) (pc' := 18) rfl ?_
    refine w_icmp_lt X0 hx (Jvm.hb hby d7_18) (by decide) (pcT := 28) (by decide) (pcF := 21) rfl (fun _ => ?_) (fun q => absurd (show (1 : Int32) < (2 : Int32) from by decide) q)
    refine w_iloadN X0 hx (Jvm.hb hby d7_28) rfl (pc' := 29) rfl ?_
    refine w_iconst X0 hx (3 : Int32) (Jvm.hb hby d7_29) (by decide) (pc' := 30) rfl ?_
    refine w_icmp_lt X0 hx (Jvm.hb hby d7_30) (by decide) (pcT := 40) (by decide) (pcF := 33) rfl (fun _ => ?_) (fun q => absurd (show (1 : Int32) < (3 : Int32) from by decide) q)
    refine w_iloadN X0 hx (Jvm.hb hby d7_40) rfl (pc' := 41) rfl ?_
    refine w_iconst X0 hx (4 : Int32) (Jvm.hb hby d7_41) (by decide) (pc' := 42) rfl ?_
    refine w_icmp_lt X0 hx (Jvm.hb hby d7_42) (by decide) (pcT := 52) (by decide) (pcF := 45) rfl (fun _ => ?_) (fun q => absurd (show (1 : Int32) < (4 : Int32) from by decide) q)
    refine w_iloadN X0 hx (Jvm.hb hby d7_52) rfl (pc' := 53) rfl ?_
    refine w_iconst X0 hx (5 : Int32) (Jvm.hb hby d7_53) (by decide) (pc' := 54) rfl ?_
    refine w_icmp_lt X0 hx (Jvm.hb hby d7_54) (by decide) (pcT := 64) (by decide) (pcF := 57) rfl (fun _ => ?_) (fun q => absurd (show (1 : Int32) < (5 : Int32) from by decide) q)
    refine w_iloadN X0 hx (Jvm.hb hby d7_64) rfl (pc' := 65) rfl ?_
    refine w_bipush X0 hx (6 : Int32) (Jvm.hb hby d7_65) (by decide) (pc' := 67) rfl ?_
    refine w_icmp_lt X0 hx (Jvm.hb hby d7_67) (by decide) (pcT := 77) (by decide) (pcF := 70) rfl (fun _ => ?_) (fun q => absurd (show (1 : Int32) < (6 : Int32) from by decide) q)
    refine w_iloadN X0 hx (Jvm.hb hby d7_77) rfl (pc' := 78) rfl ?_
    refine w_bipush X0 hx (7 : Int32) (Jvm.hb hby d7_78) (by decide) (pc' := 80) rfl ?_
    refine w_icmp_lt X0 hx (Jvm.hb hby d7_80) (by decide) (pcT := 91) (by decide) (pcF := 83) rfl (fun _ => ?_) (fun q => absurd (show (1 : Int32) < (7 : Int32) from by decide) q)
    refine w_iloadN X0 hx (Jvm.hb hby d7_91) rfl (pc' := 92) rfl ?_
    refine w_bipush X0 hx (8 : Int32) (Jvm.hb hby d7_92) (by decide) (pc' := 94) rfl ?_
    refine w_icmp_lt X0 hx (Jvm.hb hby d7_94) (by decide) (pcT := 105) (by decide) (pcF := 97) rfl (fun _ => ?_) (fun q => absurd (show (1 : Int32) < (8 : Int32) from by decide) q)
    refine w_iconst X0 hx (1 : Int32) (Jvm.hb hby d7_105) (by decide) (pc' := 106) rfl ?_
    refine w_goto X0 hx (Jvm.hb hby d7_106) (by decide) (pc' := 110) (by decide) ?_
    exact w_zreturn X0 hx Bd.returns (Or.inr rfl) (BodyLoose.notSynchronized Bd) (Nat.le_of_ble_eq_true rfl) (Nat.le_of_ble_eq_true rfl) (Jvm.hb hby d7_110) ⟨(1 : Int32), rfl, Or.inl ⟨rfl, fun j hj => by have h8 : j = 0 := (by omega); rcases h8 with rfl <;> assumption⟩, e0, rfl⟩
set_option maxRecDepth 65536 in
set_option maxHeartbeats 40000000 in
theorem rm7_2 (l : Launch) (Z : State) (aw : Array Value) (hw : ∀ d ∈ tables_1, d.before aw Z = true) (ws : List Jvm.Cond) (a0 : Addr) (f : Nat → Int32) (h0 : Heap) (A : IAr Z h0 a0 .int 9 f) :
    MetFree l (⟨"com/example/sarutahiko/sarutahiko/simulation/CellSetAddPinLaw", "fresh", "([II)Z"⟩ : MethodName) (head1 (Jvm.Cond.code (⟨"com/example/sarutahiko/sarutahiko/simulation/CellSetAddPinLaw", "fresh", "([II)Z"⟩ : MethodName) method_3_code 3 (some .boolean) :: ws) ({ frames := 0, cells := 0, slots := 0, locals := 0 } : Room)) (fun a U => a = #[(.ref a0), (.int (2 : Int32))] ∧ Z.Warmed39 U.vm ∧ U.heap = h0) (fun _ _ _ _ _ => True) (fun _ U o U' => ∃ v L, o = .returned v ∧ Q7 f 2 h0 v U'.heap L ∧ FrameEnd U o U' L ({ frames := 0, cells := 0, slots := 0, locals := 0 } : Room).cells ({ frames := 0, cells := 0, slots := 0, locals := 0 } : Room).slots) := by
  refine MetFree.of_bodySF (plainFor_of_name pn_2) hisR ?_
  intro p e s m args below meth c s₁ Bd hml0 hP _hKK
  obtain ⟨rfl, hZ, hh⟩ := hP
  have hx := Bd.exec
  have hby := Bd.bytes
  have hml : c.maxLocals = 3 := hml0
  have hown : s.vm.findClass "com/example/sarutahiko/sarutahiko/simulation/CellSetAddPinLaw" = some m.cls := findClass_of_methodNamed Bd.named
  have hnm := (name_of_methodNamed Bd.named Bd.method).1
  have X0 : Stand p l e ({ frames := 0, cells := 0, slots := 0, locals := 0 } : Room) s m #[(.ref a0), (.int (2 : Int32))] below meth c s₁ [] 0 0 := Stand.of_body Bd
  have e0 : s₁.heap = h0 := by rw [← hh, Bd.state]; rfl
  refine Ow.enter (Q := Q7 f 2 h0) (ef_7_2 m a0) ?_
  show Ow p e below s _ _ _ (s₁.setTop (mkF m 0 #[.val (.ref a0), .val (.int (2 : Int32)), .unset] []))
  refine w_aloadN X0 hx (Jvm.hb hby d7_0) rfl rfl (pc' := 1) rfl ?_
  refine w_iloadN X0 hx (Jvm.hb hby d7_1) rfl (pc' := 2) rfl ?_
  refine w_ialoadA X0 hx hZ e0 A 2 (by decide) (by decide) (Jvm.hb hby d7_2) (pc' := 3) rfl ?_
  refine w_istoreN X0 hx (Jvm.hb hby d7_3) #[.val (.ref a0), .val (.int (2 : Int32)), .val (.int (f 2))] rfl  (pc' := 4) rfl ?_
  refine w_iloadN X0 hx (Jvm.hb hby d7_4) rfl (pc' := 5) rfl ?_
  refine w_iconst X0 hx (1 : Int32) (Jvm.hb hby d7_5) (by decide) (pc' := 6) rfl ?_
  refine w_icmp_lt X0 hx (Jvm.hb hby d7_6) (by decide) (pcT := 16) (by decide) (pcF := 9) rfl (fun q => absurd q (show ¬ (2 : Int32) < (1 : Int32) from by decide)) (fun _ => ?_)
  refine w_iloadN X0 hx (Jvm.hb hby d7_9) rfl (pc' := 10) rfl ?_
  refine w_aloadN X0 hx (Jvm.hb hby d7_10) rfl rfl (pc' := 11) rfl ?_
  refine w_iconst X0 hx (0 : Int32) (Jvm.hb hby d7_11) (by decide) (pc' := 12) rfl ?_
  refine w_ialoadA X0 hx hZ e0 A 0 (by decide) (by decide) (Jvm.hb hby d7_12) (pc' := 13) rfl ?_
  refine w_icmp_eq X0 hx (Jvm.hb hby d7_13) (by decide) (pcT := 109) (by decide) (pcF := 16) rfl (fun c0 => ?_) (fun c0 => ?_)
  · refine w_iconst X0 hx (0 : Int32) (Jvm.hb hby d7_109) (by decide) (pc' := 110) rfl ?_
    exact w_zreturn X0 hx Bd.returns (Or.inl rfl) (BodyLoose.notSynchronized Bd) (Nat.le_of_ble_eq_true rfl) (Nat.le_of_ble_eq_true rfl) (Jvm.hb hby d7_110) ⟨(0 : Int32), rfl, Or.inr ⟨rfl, 0, by decide, c0⟩, e0, rfl⟩
  · refine w_iloadN X0 hx (Jvm.hb hby d7_16) rfl (pc' := 17) rfl ?_
    refine w_iconst X0 hx (2 : Int32) (Jvm.hb hby d7_17) (by decide) (pc' := 18) rfl ?_
    refine w_icmp_lt X0 hx (Jvm.hb hby d7_18) (by decide) (pcT := 28) (by decide) (pcF := 21) rfl (fun q => absurd q (show ¬ (2 : Int32) < (2 : Int32) from by decide)) (fun _ => ?_)
    refine w_iloadN X0 hx (Jvm.hb hby d7_21) rfl (pc' := 22) rfl ?_
    refine w_aloadN X0 hx (Jvm.hb hby d7_22) rfl rfl (pc' := 23) rfl ?_
    refine w_iconst X0 hx (1 : Int32) (Jvm.hb hby d7_23) (by decide) (pc' := 24) rfl ?_
    refine w_ialoadA X0 hx hZ e0 A 1 (by decide) (by decide) (Jvm.hb hby d7_24) (pc' := 25) rfl ?_
    refine w_icmp_eq X0 hx (Jvm.hb hby d7_25) (by decide) (pcT := 109) (by decide) (pcF := 28) rfl (fun c1 => ?_) (fun c1 => ?_)
    · refine w_iconst X0 hx (0 : Int32) (Jvm.hb hby d7_109) (by decide) (pc' := 110) rfl ?_
      exact w_zreturn X0 hx Bd.returns (Or.inl rfl) (BodyLoose.notSynchronized Bd) (Nat.le_of_ble_eq_true rfl) (Nat.le_of_ble_eq_true rfl) (Jvm.hb hby d7_110) ⟨(0 : Int32), rfl, Or.inr ⟨rfl, 1, by decide, c1⟩, e0, rfl⟩
    · refine w_iloadN X0 hx (Jvm.hb hby d7_28) rfl (pc' := 29) rfl ?_
      refine w_iconst X0 hx (3 : Int32) (Jvm.hb hby d7_29) (by decide) (pc' := 30) rfl ?_
      refine w_icmp_lt X0 hx (Jvm.hb hby d7_30) (by decide) (pcT := 40) (by decide) (pcF := 33) rfl (fun _ => ?_) (fun q => absurd (show (2 : Int32) < (3 : Int32) from by decide) q)
      refine w_iloadN X0 hx (Jvm.hb hby d7_40) rfl (pc' := 41) rfl ?_
      refine w_iconst X0 hx (4 : Int32) (Jvm.hb hby d7_41) (by decide) (pc' := 42) rfl ?_
      refine w_icmp_lt X0 hx (Jvm.hb hby d7_42) (by decide) (pcT := 52) (by decide) (pcF := 45) rfl (fun _ => ?_) (fun q => absurd (show (2 : Int32) < (4 : Int32) from by decide) q)
      refine w_iloadN X0 hx (Jvm.hb hby d7_52) rfl (pc' := 53) rfl ?_
      refine w_iconst X0 hx (5 : Int32) (Jvm.hb hby d7_53) (by decide) (pc' := 54) rfl ?_
      refine w_icmp_lt X0 hx (Jvm.hb hby d7_54) (by decide) (pcT := 64) (by decide) (pcF := 57) rfl (fun _ => ?_) (fun q => absurd (show (2 : Int32) < (5 : Int32) from by decide) q)
      refine w_iloadN X0 hx (Jvm.hb hby d7_64) rfl (pc' := 65) rfl ?_
      refine w_bipush X0 hx (6 : Int32) (Jvm.hb hby d7_65) (by decide) (pc' := 67) rfl ?_
      refine w_icmp_lt X0 hx (Jvm.hb hby d7_67) (by decide) (pcT := 77) (by decide) (pcF := 70) rfl (fun _ => ?_) (fun q => absurd (show (2 : Int32) < (6 : Int32) from by decide) q)
      refine w_iloadN X0 hx (Jvm.hb hby d7_77) rfl (pc' := 78) rfl ?_
      refine w_bipush X0 hx (7 : Int32) (Jvm.hb hby d7_78) (by decide) (pc' := 80) rfl ?_
      refine w_icmp_lt X0 hx (Jvm.hb hby d7_80) (by decide) (pcT := 91) (by decide) (pcF := 83) rfl (fun _ => ?_) (fun q => absurd (show (2 : Int32) < (7 : Int32) from by decide) q)
      refine w_iloadN X0 hx (Jvm.hb hby d7_91) rfl (pc' := 92) rfl ?_
      refine w_bipush X0 hx (8 : Int32) (Jvm.hb hby d7_92) (by decide) (pc' := 94) rfl ?_
      refine w_icmp_lt X0 hx (Jvm.hb hby d7_94) (by decide) (pcT := 105) (by decide) (pcF := 97) rfl (fun _ => ?_) (fun q => absurd (show (2 : Int32) < (8 : Int32) from by decide) q)
      refine w_iconst X0 hx (1 : Int32) (Jvm.hb hby d7_105) (by decide) (pc' := 106) rfl ?_
      refine w_goto X0 hx (Jvm.hb hby d7_106) (by decide) (pc' := 110) (by decide) ?_
      exact w_zreturn X0 hx Bd.returns (Or.inr rfl) (BodyLoose.notSynchronized Bd) (Nat.le_of_ble_eq_true rfl) (Nat.le_of_ble_eq_true rfl) (Jvm.hb hby d7_110) ⟨(1 : Int32), rfl, Or.inl ⟨rfl, fun j hj => by have h8 : j = 0 ∨ j = 1 := (by omega); rcases h8 with rfl | rfl <;> assumption⟩, e0, rfl⟩
set_option maxRecDepth 65536 in
set_option maxHeartbeats 40000000 in
theorem rm7_3 (l : Launch) (Z : State) (aw : Array Value) (hw : ∀ d ∈ tables_1, d.before aw Z = true) (ws : List Jvm.Cond) (a0 : Addr) (f : Nat → Int32) (h0 : Heap) (A : IAr Z h0 a0 .int 9 f) :
    MetFree l (⟨"com/example/sarutahiko/sarutahiko/simulation/CellSetAddPinLaw", "fresh", "([II)Z"⟩ : MethodName) (head1 (Jvm.Cond.code (⟨"com/example/sarutahiko/sarutahiko/simulation/CellSetAddPinLaw", "fresh", "([II)Z"⟩ : MethodName) method_3_code 3 (some .boolean) :: ws) ({ frames := 0, cells := 0, slots := 0, locals := 0 } : Room)) (fun a U => a = #[(.ref a0), (.int (3 : Int32))] ∧ Z.Warmed39 U.vm ∧ U.heap = h0) (fun _ _ _ _ _ => True) (fun _ U o U' => ∃ v L, o = .returned v ∧ Q7 f 3 h0 v U'.heap L ∧ FrameEnd U o U' L ({ frames := 0, cells := 0, slots := 0, locals := 0 } : Room).cells ({ frames := 0, cells := 0, slots := 0, locals := 0 } : Room).slots) := by
  refine MetFree.of_bodySF (plainFor_of_name pn_2) hisR ?_
  intro p e s m args below meth c s₁ Bd hml0 hP _hKK
  obtain ⟨rfl, hZ, hh⟩ := hP
  have hx := Bd.exec
  have hby := Bd.bytes
  have hml : c.maxLocals = 3 := hml0
  have hown : s.vm.findClass "com/example/sarutahiko/sarutahiko/simulation/CellSetAddPinLaw" = some m.cls := findClass_of_methodNamed Bd.named
  have hnm := (name_of_methodNamed Bd.named Bd.method).1
  have X0 : Stand p l e ({ frames := 0, cells := 0, slots := 0, locals := 0 } : Room) s m #[(.ref a0), (.int (3 : Int32))] below meth c s₁ [] 0 0 := Stand.of_body Bd
  have e0 : s₁.heap = h0 := by rw [← hh, Bd.state]; rfl
  refine Ow.enter (Q := Q7 f 3 h0) (ef_7_3 m a0) ?_
  show Ow p e below s _ _ _ (s₁.setTop (mkF m 0 #[.val (.ref a0), .val (.int (3 : Int32)), .unset] []))
  refine w_aloadN X0 hx (Jvm.hb hby d7_0) rfl rfl (pc' := 1) rfl ?_
  refine w_iloadN X0 hx (Jvm.hb hby d7_1) rfl (pc' := 2) rfl ?_
  refine w_ialoadA X0 hx hZ e0 A 3 (by decide) (by decide) (Jvm.hb hby d7_2) (pc' := 3) rfl ?_
  refine w_istoreN X0 hx (Jvm.hb hby d7_3) #[.val (.ref a0), .val (.int (3 : Int32)), .val (.int (f 3))] rfl  (pc' := 4) rfl ?_
  refine w_iloadN X0 hx (Jvm.hb hby d7_4) rfl (pc' := 5) rfl ?_
  refine w_iconst X0 hx (1 : Int32) (Jvm.hb hby d7_5) (by decide) (pc' := 6) rfl ?_
  refine w_icmp_lt X0 hx (Jvm.hb hby d7_6) (by decide) (pcT := 16) (by decide) (pcF := 9) rfl (fun q => absurd q (show ¬ (3 : Int32) < (1 : Int32) from by decide)) (fun _ => ?_)
  refine w_iloadN X0 hx (Jvm.hb hby d7_9) rfl (pc' := 10) rfl ?_
  refine w_aloadN X0 hx (Jvm.hb hby d7_10) rfl rfl (pc' := 11) rfl ?_
  refine w_iconst X0 hx (0 : Int32) (Jvm.hb hby d7_11) (by decide) (pc' := 12) rfl ?_
  refine w_ialoadA X0 hx hZ e0 A 0 (by decide) (by decide) (Jvm.hb hby d7_12) (pc' := 13) rfl ?_
  refine w_icmp_eq X0 hx (Jvm.hb hby d7_13) (by decide) (pcT := 109) (by decide) (pcF := 16) rfl (fun c0 => ?_) (fun c0 => ?_)
  · refine w_iconst X0 hx (0 : Int32) (Jvm.hb hby d7_109) (by decide) (pc' := 110) rfl ?_
    exact w_zreturn X0 hx Bd.returns (Or.inl rfl) (BodyLoose.notSynchronized Bd) (Nat.le_of_ble_eq_true rfl) (Nat.le_of_ble_eq_true rfl) (Jvm.hb hby d7_110) ⟨(0 : Int32), rfl, Or.inr ⟨rfl, 0, by decide, c0⟩, e0, rfl⟩
  · refine w_iloadN X0 hx (Jvm.hb hby d7_16) rfl (pc' := 17) rfl ?_
    refine w_iconst X0 hx (2 : Int32) (Jvm.hb hby d7_17) (by decide) (pc' := 18) rfl ?_
    refine w_icmp_lt X0 hx (Jvm.hb hby d7_18) (by decide) (pcT := 28) (by decide) (pcF := 21) rfl (fun q => absurd q (show ¬ (3 : Int32) < (2 : Int32) from by decide)) (fun _ => ?_)
    refine w_iloadN X0 hx (Jvm.hb hby d7_21) rfl (pc' := 22) rfl ?_
    refine w_aloadN X0 hx (Jvm.hb hby d7_22) rfl rfl (pc' := 23) rfl ?_
    refine w_iconst X0 hx (1 : Int32) (Jvm.hb hby d7_23) (by decide) (pc' := 24) rfl ?_
    refine w_ialoadA X0 hx hZ e0 A 1 (by decide) (by decide) (Jvm.hb hby d7_24) (pc' := 25) rfl ?_
    refine w_icmp_eq X0 hx (Jvm.hb hby d7_25) (by decide) (pcT := 109) (by decide) (pcF := 28) rfl (fun c1 => ?_) (fun c1 => ?_)
    · refine w_iconst X0 hx (0 : Int32) (Jvm.hb hby d7_109) (by decide) (pc' := 110) rfl ?_
      exact w_zreturn X0 hx Bd.returns (Or.inl rfl) (BodyLoose.notSynchronized Bd) (Nat.le_of_ble_eq_true rfl) (Nat.le_of_ble_eq_true rfl) (Jvm.hb hby d7_110) ⟨(0 : Int32), rfl, Or.inr ⟨rfl, 1, by decide, c1⟩, e0, rfl⟩
    · refine w_iloadN X0 hx (Jvm.hb hby d7_28) rfl (pc' := 29) rfl ?_
      refine w_iconst X0 hx (3 : Int32) (Jvm.hb hby d7_29) (by decide) (pc' := 30) rfl ?_
      refine w_icmp_lt X0 hx (Jvm.hb hby d7_30) (by decide) (pcT := 40) (by decide) (pcF := 33) rfl (fun q => absurd q (show ¬ (3 : Int32) < (3 : Int32) from by decide)) (fun _ => ?_)
      refine w_iloadN X0 hx (Jvm.hb hby d7_33) rfl (pc' := 34) rfl ?_
      refine w_aloadN X0 hx (Jvm.hb hby d7_34) rfl rfl (pc' := 35) rfl ?_
      refine w_iconst X0 hx (2 : Int32) (Jvm.hb hby d7_35) (by decide) (pc' := 36) rfl ?_
      refine w_ialoadA X0 hx hZ e0 A 2 (by decide) (by decide) (Jvm.hb hby d7_36) (pc' := 37) rfl ?_
      refine w_icmp_eq X0 hx (Jvm.hb hby d7_37) (by decide) (pcT := 109) (by decide) (pcF := 40) rfl (fun c2 => ?_) (fun c2 => ?_)
      · refine w_iconst X0 hx (0 : Int32) (Jvm.hb hby d7_109) (by decide) (pc' := 110) rfl ?_
        exact w_zreturn X0 hx Bd.returns (Or.inl rfl) (BodyLoose.notSynchronized Bd) (Nat.le_of_ble_eq_true rfl) (Nat.le_of_ble_eq_true rfl) (Jvm.hb hby d7_110) ⟨(0 : Int32), rfl, Or.inr ⟨rfl, 2, by decide, c2⟩, e0, rfl⟩
      · refine w_iloadN X0 hx (Jvm.hb hby d7_40) rfl (pc' := 41) rfl ?_
        refine w_iconst X0 hx (4 : Int32) (Jvm.hb hby d7_41) (by decide) (pc' := 42) rfl ?_
        refine w_icmp_lt X0 hx (Jvm.hb hby d7_42) (by decide) (pcT := 52) (by decide) (pcF := 45) rfl (fun _ => ?_) (fun q => absurd (show (3 : Int32) < (4 : Int32) from by decide) q)
        refine w_iloadN X0 hx (Jvm.hb hby d7_52) rfl (pc' := 53) rfl ?_
        refine w_iconst X0 hx (5 : Int32) (Jvm.hb hby d7_53) (by decide) (pc' := 54) rfl ?_
        refine w_icmp_lt X0 hx (Jvm.hb hby d7_54) (by decide) (pcT := 64) (by decide) (pcF := 57) rfl (fun _ => ?_) (fun q => absurd (show (3 : Int32) < (5 : Int32) from by decide) q)
        refine w_iloadN X0 hx (Jvm.hb hby d7_64) rfl (pc' := 65) rfl ?_
        refine w_bipush X0 hx (6 : Int32) (Jvm.hb hby d7_65) (by decide) (pc' := 67) rfl ?_
        refine w_icmp_lt X0 hx (Jvm.hb hby d7_67) (by decide) (pcT := 77) (by decide) (pcF := 70) rfl (fun _ => ?_) (fun q => absurd (show (3 : Int32) < (6 : Int32) from by decide) q)
        refine w_iloadN X0 hx (Jvm.hb hby d7_77) rfl (pc' := 78) rfl ?_
        refine w_bipush X0 hx (7 : Int32) (Jvm.hb hby d7_78) (by decide) (pc' := 80) rfl ?_
        refine w_icmp_lt X0 hx (Jvm.hb hby d7_80) (by decide) (pcT := 91) (by decide) (pcF := 83) rfl (fun _ => ?_) (fun q => absurd (show (3 : Int32) < (7 : Int32) from by decide) q)
        refine w_iloadN X0 hx (Jvm.hb hby d7_91) rfl (pc' := 92) rfl ?_
        refine w_bipush X0 hx (8 : Int32) (Jvm.hb hby d7_92) (by decide) (pc' := 94) rfl ?_
        refine w_icmp_lt X0 hx (Jvm.hb hby d7_94) (by decide) (pcT := 105) (by decide) (pcF := 97) rfl (fun _ => ?_) (fun q => absurd (show (3 : Int32) < (8 : Int32) from by decide) q)
        refine w_iconst X0 hx (1 : Int32) (Jvm.hb hby d7_105) (by decide) (pc' := 106) rfl ?_
        refine w_goto X0 hx (Jvm.hb hby d7_106) (by decide) (pc' := 110) (by decide) ?_
        exact w_zreturn X0 hx Bd.returns (Or.inr rfl) (BodyLoose.notSynchronized Bd) (Nat.le_of_ble_eq_true rfl) (Nat.le_of_ble_eq_true rfl) (Jvm.hb hby d7_110) ⟨(1 : Int32), rfl, Or.inl ⟨rfl, fun j hj => by have h8 : j = 0 ∨ j = 1 ∨ j = 2 := (by omega); rcases h8 with rfl | rfl | rfl <;> assumption⟩, e0, rfl⟩
set_option maxRecDepth 65536 in
set_option maxHeartbeats 40000000 in
theorem rm7_4 (l : Launch) (Z : State) (aw : Array Value) (hw : ∀ d ∈ tables_1, d.before aw Z = true) (ws : List Jvm.Cond) (a0 : Addr) (f : Nat → Int32) (h0 : Heap) (A : IAr Z h0 a0 .int 9 f) :
    MetFree l (⟨"com/example/sarutahiko/sarutahiko/simulation/CellSetAddPinLaw", "fresh", "([II)Z"⟩ : MethodName) (head1 (Jvm.Cond.code (⟨"com/example/sarutahiko/sarutahiko/simulation/CellSetAddPinLaw", "fresh", "([II)Z"⟩ : MethodName) method_3_code 3 (some .boolean) :: ws) ({ frames := 0, cells := 0, slots := 0, locals := 0 } : Room)) (fun a U => a = #[(.ref a0), (.int (4 : Int32))] ∧ Z.Warmed39 U.vm ∧ U.heap = h0) (fun _ _ _ _ _ => True) (fun _ U o U' => ∃ v L, o = .returned v ∧ Q7 f 4 h0 v U'.heap L ∧ FrameEnd U o U' L ({ frames := 0, cells := 0, slots := 0, locals := 0 } : Room).cells ({ frames := 0, cells := 0, slots := 0, locals := 0 } : Room).slots) := by
  refine MetFree.of_bodySF (plainFor_of_name pn_2) hisR ?_
  intro p e s m args below meth c s₁ Bd hml0 hP _hKK
  obtain ⟨rfl, hZ, hh⟩ := hP
  have hx := Bd.exec
  have hby := Bd.bytes
  have hml : c.maxLocals = 3 := hml0
  have hown : s.vm.findClass "com/example/sarutahiko/sarutahiko/simulation/CellSetAddPinLaw" = some m.cls := findClass_of_methodNamed Bd.named
  have hnm := (name_of_methodNamed Bd.named Bd.method).1
  have X0 : Stand p l e ({ frames := 0, cells := 0, slots := 0, locals := 0 } : Room) s m #[(.ref a0), (.int (4 : Int32))] below meth c s₁ [] 0 0 := Stand.of_body Bd
  have e0 : s₁.heap = h0 := by rw [← hh, Bd.state]; rfl
  refine Ow.enter (Q := Q7 f 4 h0) (ef_7_4 m a0) ?_
  show Ow p e below s _ _ _ (s₁.setTop (mkF m 0 #[.val (.ref a0), .val (.int (4 : Int32)), .unset] []))
  refine w_aloadN X0 hx (Jvm.hb hby d7_0) rfl rfl (pc' := 1) rfl ?_
  refine w_iloadN X0 hx (Jvm.hb hby d7_1) rfl (pc' := 2) rfl ?_
  refine w_ialoadA X0 hx hZ e0 A 4 (by decide) (by decide) (Jvm.hb hby d7_2) (pc' := 3) rfl ?_
  refine w_istoreN X0 hx (Jvm.hb hby d7_3) #[.val (.ref a0), .val (.int (4 : Int32)), .val (.int (f 4))] rfl  (pc' := 4) rfl ?_
  refine w_iloadN X0 hx (Jvm.hb hby d7_4) rfl (pc' := 5) rfl ?_
  refine w_iconst X0 hx (1 : Int32) (Jvm.hb hby d7_5) (by decide) (pc' := 6) rfl ?_
  refine w_icmp_lt X0 hx (Jvm.hb hby d7_6) (by decide) (pcT := 16) (by decide) (pcF := 9) rfl (fun q => absurd q (show ¬ (4 : Int32) < (1 : Int32) from by decide)) (fun _ => ?_)
  refine w_iloadN X0 hx (Jvm.hb hby d7_9) rfl (pc' := 10) rfl ?_
  refine w_aloadN X0 hx (Jvm.hb hby d7_10) rfl rfl (pc' := 11) rfl ?_
  refine w_iconst X0 hx (0 : Int32) (Jvm.hb hby d7_11) (by decide) (pc' := 12) rfl ?_
  refine w_ialoadA X0 hx hZ e0 A 0 (by decide) (by decide) (Jvm.hb hby d7_12) (pc' := 13) rfl ?_
  refine w_icmp_eq X0 hx (Jvm.hb hby d7_13) (by decide) (pcT := 109) (by decide) (pcF := 16) rfl (fun c0 => ?_) (fun c0 => ?_)
  · refine w_iconst X0 hx (0 : Int32) (Jvm.hb hby d7_109) (by decide) (pc' := 110) rfl ?_
    exact w_zreturn X0 hx Bd.returns (Or.inl rfl) (BodyLoose.notSynchronized Bd) (Nat.le_of_ble_eq_true rfl) (Nat.le_of_ble_eq_true rfl) (Jvm.hb hby d7_110) ⟨(0 : Int32), rfl, Or.inr ⟨rfl, 0, by decide, c0⟩, e0, rfl⟩
  · refine w_iloadN X0 hx (Jvm.hb hby d7_16) rfl (pc' := 17) rfl ?_
    refine w_iconst X0 hx (2 : Int32) (Jvm.hb hby d7_17) (by decide) (pc' := 18) rfl ?_
    refine w_icmp_lt X0 hx (Jvm.hb hby d7_18) (by decide) (pcT := 28) (by decide) (pcF := 21) rfl (fun q => absurd q (show ¬ (4 : Int32) < (2 : Int32) from by decide)) (fun _ => ?_)
    refine w_iloadN X0 hx (Jvm.hb hby d7_21) rfl (pc' := 22) rfl ?_
    refine w_aloadN X0 hx (Jvm.hb hby d7_22) rfl rfl (pc' := 23) rfl ?_
    refine w_iconst X0 hx (1 : Int32) (Jvm.hb hby d7_23) (by decide) (pc' := 24) rfl ?_
    refine w_ialoadA X0 hx hZ e0 A 1 (by decide) (by decide) (Jvm.hb hby d7_24) (pc' := 25) rfl ?_
    refine w_icmp_eq X0 hx (Jvm.hb hby d7_25) (by decide) (pcT := 109) (by decide) (pcF := 28) rfl (fun c1 => ?_) (fun c1 => ?_)
    · refine w_iconst X0 hx (0 : Int32) (Jvm.hb hby d7_109) (by decide) (pc' := 110) rfl ?_
      exact w_zreturn X0 hx Bd.returns (Or.inl rfl) (BodyLoose.notSynchronized Bd) (Nat.le_of_ble_eq_true rfl) (Nat.le_of_ble_eq_true rfl) (Jvm.hb hby d7_110) ⟨(0 : Int32), rfl, Or.inr ⟨rfl, 1, by decide, c1⟩, e0, rfl⟩
    · refine w_iloadN X0 hx (Jvm.hb hby d7_28) rfl (pc' := 29) rfl ?_
      refine w_iconst X0 hx (3 : Int32) (Jvm.hb hby d7_29) (by decide) (pc' := 30) rfl ?_
      refine w_icmp_lt X0 hx (Jvm.hb hby d7_30) (by decide) (pcT := 40) (by decide) (pcF := 33) rfl (fun q => absurd q (show ¬ (4 : Int32) < (3 : Int32) from by decide)) (fun _ => ?_)
      refine w_iloadN X0 hx (Jvm.hb hby d7_33) rfl (pc' := 34) rfl ?_
      refine w_aloadN X0 hx (Jvm.hb hby d7_34) rfl rfl (pc' := 35) rfl ?_
      refine w_iconst X0 hx (2 : Int32) (Jvm.hb hby d7_35) (by decide) (pc' := 36) rfl ?_
      refine w_ialoadA X0 hx hZ e0 A 2 (by decide) (by decide) (Jvm.hb hby d7_36) (pc' := 37) rfl ?_
      refine w_icmp_eq X0 hx (Jvm.hb hby d7_37) (by decide) (pcT := 109) (by decide) (pcF := 40) rfl (fun c2 => ?_) (fun c2 => ?_)
      · refine w_iconst X0 hx (0 : Int32) (Jvm.hb hby d7_109) (by decide) (pc' := 110) rfl ?_
        exact w_zreturn X0 hx Bd.returns (Or.inl rfl) (BodyLoose.notSynchronized Bd) (Nat.le_of_ble_eq_true rfl) (Nat.le_of_ble_eq_true rfl) (Jvm.hb hby d7_110) ⟨(0 : Int32), rfl, Or.inr ⟨rfl, 2, by decide, c2⟩, e0, rfl⟩
      · refine w_iloadN X0 hx (Jvm.hb hby d7_40) rfl (pc' := 41) rfl ?_
        refine w_iconst X0 hx (4 : Int32) (Jvm.hb hby d7_41) (by decide) (pc' := 42) rfl ?_
        refine w_icmp_lt X0 hx (Jvm.hb hby d7_42) (by decide) (pcT := 52) (by decide) (pcF := 45) rfl (fun q => absurd q (show ¬ (4 : Int32) < (4 : Int32) from by decide)) (fun _ => ?_)
        refine w_iloadN X0 hx (Jvm.hb hby d7_45) rfl (pc' := 46) rfl ?_
        refine w_aloadN X0 hx (Jvm.hb hby d7_46) rfl rfl (pc' := 47) rfl ?_
        refine w_iconst X0 hx (3 : Int32) (Jvm.hb hby d7_47) (by decide) (pc' := 48) rfl ?_
        refine w_ialoadA X0 hx hZ e0 A 3 (by decide) (by decide) (Jvm.hb hby d7_48) (pc' := 49) rfl ?_
        refine w_icmp_eq X0 hx (Jvm.hb hby d7_49) (by decide) (pcT := 109) (by decide) (pcF := 52) rfl (fun c3 => ?_) (fun c3 => ?_)
        · refine w_iconst X0 hx (0 : Int32) (Jvm.hb hby d7_109) (by decide) (pc' := 110) rfl ?_
          exact w_zreturn X0 hx Bd.returns (Or.inl rfl) (BodyLoose.notSynchronized Bd) (Nat.le_of_ble_eq_true rfl) (Nat.le_of_ble_eq_true rfl) (Jvm.hb hby d7_110) ⟨(0 : Int32), rfl, Or.inr ⟨rfl, 3, by decide, c3⟩, e0, rfl⟩
        · refine w_iloadN X0 hx (Jvm.hb hby d7_52) rfl (pc' := 53) rfl ?_
          refine w_iconst X0 hx (5 : Int32) (Jvm.hb hby d7_53) (by decide) (pc' := 54) rfl ?_
          refine w_icmp_lt X0 hx (Jvm.hb hby d7_54) (by decide) (pcT := 64) (by decide) (pcF := 57) rfl (fun _ => ?_) (fun q => absurd (show (4 : Int32) < (5 : Int32) from by decide) q)
          refine w_iloadN X0 hx (Jvm.hb hby d7_64) rfl (pc' := 65) rfl ?_
          refine w_bipush X0 hx (6 : Int32) (Jvm.hb hby d7_65) (by decide) (pc' := 67) rfl ?_
          refine w_icmp_lt X0 hx (Jvm.hb hby d7_67) (by decide) (pcT := 77) (by decide) (pcF := 70) rfl (fun _ => ?_) (fun q => absurd (show (4 : Int32) < (6 : Int32) from by decide) q)
          refine w_iloadN X0 hx (Jvm.hb hby d7_77) rfl (pc' := 78) rfl ?_
          refine w_bipush X0 hx (7 : Int32) (Jvm.hb hby d7_78) (by decide) (pc' := 80) rfl ?_
          refine w_icmp_lt X0 hx (Jvm.hb hby d7_80) (by decide) (pcT := 91) (by decide) (pcF := 83) rfl (fun _ => ?_) (fun q => absurd (show (4 : Int32) < (7 : Int32) from by decide) q)
          refine w_iloadN X0 hx (Jvm.hb hby d7_91) rfl (pc' := 92) rfl ?_
          refine w_bipush X0 hx (8 : Int32) (Jvm.hb hby d7_92) (by decide) (pc' := 94) rfl ?_
          refine w_icmp_lt X0 hx (Jvm.hb hby d7_94) (by decide) (pcT := 105) (by decide) (pcF := 97) rfl (fun _ => ?_) (fun q => absurd (show (4 : Int32) < (8 : Int32) from by decide) q)
          refine w_iconst X0 hx (1 : Int32) (Jvm.hb hby d7_105) (by decide) (pc' := 106) rfl ?_
          refine w_goto X0 hx (Jvm.hb hby d7_106) (by decide) (pc' := 110) (by decide) ?_
          exact w_zreturn X0 hx Bd.returns (Or.inr rfl) (BodyLoose.notSynchronized Bd) (Nat.le_of_ble_eq_true rfl) (Nat.le_of_ble_eq_true rfl) (Jvm.hb hby d7_110) ⟨(1 : Int32), rfl, Or.inl ⟨rfl, fun j hj => by have h8 : j = 0 ∨ j = 1 ∨ j = 2 ∨ j = 3 := (by omega); rcases h8 with rfl | rfl | rfl | rfl <;> assumption⟩, e0, rfl⟩
set_option maxRecDepth 65536 in
set_option maxHeartbeats 40000000 in
theorem rm7_5 (l : Launch) (Z : State) (aw : Array Value) (hw : ∀ d ∈ tables_1, d.before aw Z = true) (ws : List Jvm.Cond) (a0 : Addr) (f : Nat → Int32) (h0 : Heap) (A : IAr Z h0 a0 .int 9 f) :
    MetFree l (⟨"com/example/sarutahiko/sarutahiko/simulation/CellSetAddPinLaw", "fresh", "([II)Z"⟩ : MethodName) (head1 (Jvm.Cond.code (⟨"com/example/sarutahiko/sarutahiko/simulation/CellSetAddPinLaw", "fresh", "([II)Z"⟩ : MethodName) method_3_code 3 (some .boolean) :: ws) ({ frames := 0, cells := 0, slots := 0, locals := 0 } : Room)) (fun a U => a = #[(.ref a0), (.int (5 : Int32))] ∧ Z.Warmed39 U.vm ∧ U.heap = h0) (fun _ _ _ _ _ => True) (fun _ U o U' => ∃ v L, o = .returned v ∧ Q7 f 5 h0 v U'.heap L ∧ FrameEnd U o U' L ({ frames := 0, cells := 0, slots := 0, locals := 0 } : Room).cells ({ frames := 0, cells := 0, slots := 0, locals := 0 } : Room).slots) := by
  refine MetFree.of_bodySF (plainFor_of_name pn_2) hisR ?_
  intro p e s m args below meth c s₁ Bd hml0 hP _hKK
  obtain ⟨rfl, hZ, hh⟩ := hP
  have hx := Bd.exec
  have hby := Bd.bytes
  have hml : c.maxLocals = 3 := hml0
  have hown : s.vm.findClass "com/example/sarutahiko/sarutahiko/simulation/CellSetAddPinLaw" = some m.cls := findClass_of_methodNamed Bd.named
  have hnm := (name_of_methodNamed Bd.named Bd.method).1
  have X0 : Stand p l e ({ frames := 0, cells := 0, slots := 0, locals := 0 } : Room) s m #[(.ref a0), (.int (5 : Int32))] below meth c s₁ [] 0 0 := Stand.of_body Bd
  have e0 : s₁.heap = h0 := by rw [← hh, Bd.state]; rfl
  refine Ow.enter (Q := Q7 f 5 h0) (ef_7_5 m a0) ?_
  show Ow p e below s _ _ _ (s₁.setTop (mkF m 0 #[.val (.ref a0), .val (.int (5 : Int32)), .unset] []))
  refine w_aloadN X0 hx (Jvm.hb hby d7_0) rfl rfl (pc' := 1) rfl ?_
  refine w_iloadN X0 hx (Jvm.hb hby d7_1) rfl (pc' := 2) rfl ?_
  refine w_ialoadA X0 hx hZ e0 A 5 (by decide) (by decide) (Jvm.hb hby d7_2) (pc' := 3) rfl ?_
  refine w_istoreN X0 hx (Jvm.hb hby d7_3) #[.val (.ref a0), .val (.int (5 : Int32)), .val (.int (f 5))] rfl  (pc' := 4) rfl ?_
  refine w_iloadN X0 hx (Jvm.hb hby d7_4) rfl (pc' := 5) rfl ?_
  refine w_iconst X0 hx (1 : Int32) (Jvm.hb hby d7_5) (by decide) (pc' := 6) rfl ?_
  refine w_icmp_lt X0 hx (Jvm.hb hby d7_6) (by decide) (pcT := 16) (by decide) (pcF := 9) rfl (fun q => absurd q (show ¬ (5 : Int32) < (1 : Int32) from by decide)) (fun _ => ?_)
  refine w_iloadN X0 hx (Jvm.hb hby d7_9) rfl (pc' := 10) rfl ?_
  refine w_aloadN X0 hx (Jvm.hb hby d7_10) rfl rfl (pc' := 11) rfl ?_
  refine w_iconst X0 hx (0 : Int32) (Jvm.hb hby d7_11) (by decide) (pc' := 12) rfl ?_
  refine w_ialoadA X0 hx hZ e0 A 0 (by decide) (by decide) (Jvm.hb hby d7_12) (pc' := 13) rfl ?_
  refine w_icmp_eq X0 hx (Jvm.hb hby d7_13) (by decide) (pcT := 109) (by decide) (pcF := 16) rfl (fun c0 => ?_) (fun c0 => ?_)
  · refine w_iconst X0 hx (0 : Int32) (Jvm.hb hby d7_109) (by decide) (pc' := 110) rfl ?_
    exact w_zreturn X0 hx Bd.returns (Or.inl rfl) (BodyLoose.notSynchronized Bd) (Nat.le_of_ble_eq_true rfl) (Nat.le_of_ble_eq_true rfl) (Jvm.hb hby d7_110) ⟨(0 : Int32), rfl, Or.inr ⟨rfl, 0, by decide, c0⟩, e0, rfl⟩
  · refine w_iloadN X0 hx (Jvm.hb hby d7_16) rfl (pc' := 17) rfl ?_
    refine w_iconst X0 hx (2 : Int32) (Jvm.hb hby d7_17) (by decide) (pc' := 18) rfl ?_
    refine w_icmp_lt X0 hx (Jvm.hb hby d7_18) (by decide) (pcT := 28) (by decide) (pcF := 21) rfl (fun q => absurd q (show ¬ (5 : Int32) < (2 : Int32) from by decide)) (fun _ => ?_)
    refine w_iloadN X0 hx (Jvm.hb hby d7_21) rfl (pc' := 22) rfl ?_
    refine w_aloadN X0 hx (Jvm.hb hby d7_22) rfl rfl (pc' := 23) rfl ?_
    refine w_iconst X0 hx (1 : Int32) (Jvm.hb hby d7_23) (by decide) (pc' := 24) rfl ?_
    refine w_ialoadA X0 hx hZ e0 A 1 (by decide) (by decide) (Jvm.hb hby d7_24) (pc' := 25) rfl ?_
    refine w_icmp_eq X0 hx (Jvm.hb hby d7_25) (by decide) (pcT := 109) (by decide) (pcF := 28) rfl (fun c1 => ?_) (fun c1 => ?_)
    · refine w_iconst X0 hx (0 : Int32) (Jvm.hb hby d7_109) (by decide) (pc' := 110) rfl ?_
      exact w_zreturn X0 hx Bd.returns (Or.inl rfl) (BodyLoose.notSynchronized Bd) (Nat.le_of_ble_eq_true rfl) (Nat.le_of_ble_eq_true rfl) (Jvm.hb hby d7_110) ⟨(0 : Int32), rfl, Or.inr ⟨rfl, 1, by decide, c1⟩, e0, rfl⟩
    · refine w_iloadN X0 hx (Jvm.hb hby d7_28) rfl (pc' := 29) rfl ?_
      refine w_iconst X0 hx (3 : Int32) (Jvm.hb hby d7_29) (by decide) (pc' := 30) rfl ?_
      refine w_icmp_lt X0 hx (Jvm.hb hby d7_30) (by decide) (pcT := 40) (by decide) (pcF := 33) rfl (fun q => absurd q (show ¬ (5 : Int32) < (3 : Int32) from by decide)) (fun _ => ?_)
      refine w_iloadN X0 hx (Jvm.hb hby d7_33) rfl (pc' := 34) rfl ?_
      refine w_aloadN X0 hx (Jvm.hb hby d7_34) rfl rfl (pc' := 35) rfl ?_
      refine w_iconst X0 hx (2 : Int32) (Jvm.hb hby d7_35) (by decide) (pc' := 36) rfl ?_
      refine w_ialoadA X0 hx hZ e0 A 2 (by decide) (by decide) (Jvm.hb hby d7_36) (pc' := 37) rfl ?_
      refine w_icmp_eq X0 hx (Jvm.hb hby d7_37) (by decide) (pcT := 109) (by decide) (pcF := 40) rfl (fun c2 => ?_) (fun c2 => ?_)
      · refine w_iconst X0 hx (0 : Int32) (Jvm.hb hby d7_109) (by decide) (pc' := 110) rfl ?_
        exact w_zreturn X0 hx Bd.returns (Or.inl rfl) (BodyLoose.notSynchronized Bd) (Nat.le_of_ble_eq_true rfl) (Nat.le_of_ble_eq_true rfl) (Jvm.hb hby d7_110) ⟨(0 : Int32), rfl, Or.inr ⟨rfl, 2, by decide, c2⟩, e0, rfl⟩
      · refine w_iloadN X0 hx (Jvm.hb hby d7_40) rfl (pc' := 41) rfl ?_
        refine w_iconst X0 hx (4 : Int32) (Jvm.hb hby d7_41) (by decide) (pc' := 42) rfl ?_
        refine w_icmp_lt X0 hx (Jvm.hb hby d7_42) (by decide) (pcT := 52) (by decide) (pcF := 45) rfl (fun q => absurd q (show ¬ (5 : Int32) < (4 : Int32) from by decide)) (fun _ => ?_)
        refine w_iloadN X0 hx (Jvm.hb hby d7_45) rfl (pc' := 46) rfl ?_
        refine w_aloadN X0 hx (Jvm.hb hby d7_46) rfl rfl (pc' := 47) rfl ?_
        refine w_iconst X0 hx (3 : Int32) (Jvm.hb hby d7_47) (by decide) (pc' := 48) rfl ?_
        refine w_ialoadA X0 hx hZ e0 A 3 (by decide) (by decide) (Jvm.hb hby d7_48) (pc' := 49) rfl ?_
        refine w_icmp_eq X0 hx (Jvm.hb hby d7_49) (by decide) (pcT := 109) (by decide) (pcF := 52) rfl (fun c3 => ?_) (fun c3 => ?_)
        · refine w_iconst X0 hx (0 : Int32) (Jvm.hb hby d7_109) (by decide) (pc' := 110) rfl ?_
          exact w_zreturn X0 hx Bd.returns (Or.inl rfl) (BodyLoose.notSynchronized Bd) (Nat.le_of_ble_eq_true rfl) (Nat.le_of_ble_eq_true rfl) (Jvm.hb hby d7_110) ⟨(0 : Int32), rfl, Or.inr ⟨rfl, 3, by decide, c3⟩, e0, rfl⟩
        · refine w_iloadN X0 hx (Jvm.hb hby d7_52) rfl (pc' := 53) rfl ?_
          refine w_iconst X0 hx (5 : Int32) (Jvm.hb hby d7_53) (by decide) (pc' := 54) rfl ?_
          refine w_icmp_lt X0 hx (Jvm.hb hby d7_54) (by decide) (pcT := 64) (by decide) (pcF := 57) rfl (fun q => absurd q (show ¬ (5 : Int32) < (5 : Int32) from by decide)) (fun _ => ?_)
          refine w_iloadN X0 hx (Jvm.hb hby d7_57) rfl (pc' := 58) rfl ?_
          refine w_aloadN X0 hx (Jvm.hb hby d7_58) rfl rfl (pc' := 59) rfl ?_
          refine w_iconst X0 hx (4 : Int32) (Jvm.hb hby d7_59) (by decide) (pc' := 60) rfl ?_
          refine w_ialoadA X0 hx hZ e0 A 4 (by decide) (by decide) (Jvm.hb hby d7_60) (pc' := 61) rfl ?_
          refine w_icmp_eq X0 hx (Jvm.hb hby d7_61) (by decide) (pcT := 109) (by decide) (pcF := 64) rfl (fun c4 => ?_) (fun c4 => ?_)
          · refine w_iconst X0 hx (0 : Int32) (Jvm.hb hby d7_109) (by decide) (pc' := 110) rfl ?_
            exact w_zreturn X0 hx Bd.returns (Or.inl rfl) (BodyLoose.notSynchronized Bd) (Nat.le_of_ble_eq_true rfl) (Nat.le_of_ble_eq_true rfl) (Jvm.hb hby d7_110) ⟨(0 : Int32), rfl, Or.inr ⟨rfl, 4, by decide, c4⟩, e0, rfl⟩
          · refine w_iloadN X0 hx (Jvm.hb hby d7_64) rfl (pc' := 65) rfl ?_
            refine w_bipush X0 hx (6 : Int32) (Jvm.hb hby d7_65) (by decide) (pc' := 67) rfl ?_
            refine w_icmp_lt X0 hx (Jvm.hb hby d7_67) (by decide) (pcT := 77) (by decide) (pcF := 70) rfl (fun _ => ?_) (fun q => absurd (show (5 : Int32) < (6 : Int32) from by decide) q)
            refine w_iloadN X0 hx (Jvm.hb hby d7_77) rfl (pc' := 78) rfl ?_
            refine w_bipush X0 hx (7 : Int32) (Jvm.hb hby d7_78) (by decide) (pc' := 80) rfl ?_
            refine w_icmp_lt X0 hx (Jvm.hb hby d7_80) (by decide) (pcT := 91) (by decide) (pcF := 83) rfl (fun _ => ?_) (fun q => absurd (show (5 : Int32) < (7 : Int32) from by decide) q)
            refine w_iloadN X0 hx (Jvm.hb hby d7_91) rfl (pc' := 92) rfl ?_
            refine w_bipush X0 hx (8 : Int32) (Jvm.hb hby d7_92) (by decide) (pc' := 94) rfl ?_
            refine w_icmp_lt X0 hx (Jvm.hb hby d7_94) (by decide) (pcT := 105) (by decide) (pcF := 97) rfl (fun _ => ?_) (fun q => absurd (show (5 : Int32) < (8 : Int32) from by decide) q)
            refine w_iconst X0 hx (1 : Int32) (Jvm.hb hby d7_105) (by decide) (pc' := 106) rfl ?_
            refine w_goto X0 hx (Jvm.hb hby d7_106) (by decide) (pc' := 110) (by decide) ?_
            exact w_zreturn X0 hx Bd.returns (Or.inr rfl) (BodyLoose.notSynchronized Bd) (Nat.le_of_ble_eq_true rfl) (Nat.le_of_ble_eq_true rfl) (Jvm.hb hby d7_110) ⟨(1 : Int32), rfl, Or.inl ⟨rfl, fun j hj => by have h8 : j = 0 ∨ j = 1 ∨ j = 2 ∨ j = 3 ∨ j = 4 := (by omega); rcases h8 with rfl | rfl | rfl | rfl | rfl <;> assumption⟩, e0, rfl⟩
set_option maxRecDepth 65536 in
set_option maxHeartbeats 40000000 in
theorem rm7_6 (l : Launch) (Z : State) (aw : Array Value) (hw : ∀ d ∈ tables_1, d.before aw Z = true) (ws : List Jvm.Cond) (a0 : Addr) (f : Nat → Int32) (h0 : Heap) (A : IAr Z h0 a0 .int 9 f) :
    MetFree l (⟨"com/example/sarutahiko/sarutahiko/simulation/CellSetAddPinLaw", "fresh", "([II)Z"⟩ : MethodName) (head1 (Jvm.Cond.code (⟨"com/example/sarutahiko/sarutahiko/simulation/CellSetAddPinLaw", "fresh", "([II)Z"⟩ : MethodName) method_3_code 3 (some .boolean) :: ws) ({ frames := 0, cells := 0, slots := 0, locals := 0 } : Room)) (fun a U => a = #[(.ref a0), (.int (6 : Int32))] ∧ Z.Warmed39 U.vm ∧ U.heap = h0) (fun _ _ _ _ _ => True) (fun _ U o U' => ∃ v L, o = .returned v ∧ Q7 f 6 h0 v U'.heap L ∧ FrameEnd U o U' L ({ frames := 0, cells := 0, slots := 0, locals := 0 } : Room).cells ({ frames := 0, cells := 0, slots := 0, locals := 0 } : Room).slots) := by
  refine MetFree.of_bodySF (plainFor_of_name pn_2) hisR ?_
  intro p e s m args below meth c s₁ Bd hml0 hP _hKK
  obtain ⟨rfl, hZ, hh⟩ := hP
  have hx := Bd.exec
  have hby := Bd.bytes
  have hml : c.maxLocals = 3 := hml0
  have hown : s.vm.findClass "com/example/sarutahiko/sarutahiko/simulation/CellSetAddPinLaw" = some m.cls := findClass_of_methodNamed Bd.named
  have hnm := (name_of_methodNamed Bd.named Bd.method).1
  have X0 : Stand p l e ({ frames := 0, cells := 0, slots := 0, locals := 0 } : Room) s m #[(.ref a0), (.int (6 : Int32))] below meth c s₁ [] 0 0 := Stand.of_body Bd
  have e0 : s₁.heap = h0 := by rw [← hh, Bd.state]; rfl
  refine Ow.enter (Q := Q7 f 6 h0) (ef_7_6 m a0) ?_
  show Ow p e below s _ _ _ (s₁.setTop (mkF m 0 #[.val (.ref a0), .val (.int (6 : Int32)), .unset] []))
  refine w_aloadN X0 hx (Jvm.hb hby d7_0) rfl rfl (pc' := 1) rfl ?_
  refine w_iloadN X0 hx (Jvm.hb hby d7_1) rfl (pc' := 2) rfl ?_
  refine w_ialoadA X0 hx hZ e0 A 6 (by decide) (by decide) (Jvm.hb hby d7_2) (pc' := 3) rfl ?_
  refine w_istoreN X0 hx (Jvm.hb hby d7_3) #[.val (.ref a0), .val (.int (6 : Int32)), .val (.int (f 6))] rfl  (pc' := 4) rfl ?_
  refine w_iloadN X0 hx (Jvm.hb hby d7_4) rfl (pc' := 5) rfl ?_
  refine w_iconst X0 hx (1 : Int32) (Jvm.hb hby d7_5) (by decide) (pc' := 6) rfl ?_
  refine w_icmp_lt X0 hx (Jvm.hb hby d7_6) (by decide) (pcT := 16) (by decide) (pcF := 9) rfl (fun q => absurd q (show ¬ (6 : Int32) < (1 : Int32) from by decide)) (fun _ => ?_)
  refine w_iloadN X0 hx (Jvm.hb hby d7_9) rfl (pc' := 10) rfl ?_
  refine w_aloadN X0 hx (Jvm.hb hby d7_10) rfl rfl (pc' := 11) rfl ?_
  refine w_iconst X0 hx (0 : Int32) (Jvm.hb hby d7_11) (by decide) (pc' := 12) rfl ?_
  refine w_ialoadA X0 hx hZ e0 A 0 (by decide) (by decide) (Jvm.hb hby d7_12) (pc' := 13) rfl ?_
  refine w_icmp_eq X0 hx (Jvm.hb hby d7_13) (by decide) (pcT := 109) (by decide) (pcF := 16) rfl (fun c0 => ?_) (fun c0 => ?_)
  · refine w_iconst X0 hx (0 : Int32) (Jvm.hb hby d7_109) (by decide) (pc' := 110) rfl ?_
    exact w_zreturn X0 hx Bd.returns (Or.inl rfl) (BodyLoose.notSynchronized Bd) (Nat.le_of_ble_eq_true rfl) (Nat.le_of_ble_eq_true rfl) (Jvm.hb hby d7_110) ⟨(0 : Int32), rfl, Or.inr ⟨rfl, 0, by decide, c0⟩, e0, rfl⟩
  · refine w_iloadN X0 hx (Jvm.hb hby d7_16) rfl (pc' := 17) rfl ?_
    refine w_iconst X0 hx (2 : Int32) (Jvm.hb hby d7_17) (by decide) (pc' := 18) rfl ?_
    refine w_icmp_lt X0 hx (Jvm.hb hby d7_18) (by decide) (pcT := 28) (by decide) (pcF := 21) rfl (fun q => absurd q (show ¬ (6 : Int32) < (2 : Int32) from by decide)) (fun _ => ?_)
    refine w_iloadN X0 hx (Jvm.hb hby d7_21) rfl (pc' := 22) rfl ?_
    refine w_aloadN X0 hx (Jvm.hb hby d7_22) rfl rfl (pc' := 23) rfl ?_
    refine w_iconst X0 hx (1 : Int32) (Jvm.hb hby d7_23) (by decide) (pc' := 24) rfl ?_
    refine w_ialoadA X0 hx hZ e0 A 1 (by decide) (by decide) (Jvm.hb hby d7_24) (pc' := 25) rfl ?_
    refine w_icmp_eq X0 hx (Jvm.hb hby d7_25) (by decide) (pcT := 109) (by decide) (pcF := 28) rfl (fun c1 => ?_) (fun c1 => ?_)
    · refine w_iconst X0 hx (0 : Int32) (Jvm.hb hby d7_109) (by decide) (pc' := 110) rfl ?_
      exact w_zreturn X0 hx Bd.returns (Or.inl rfl) (BodyLoose.notSynchronized Bd) (Nat.le_of_ble_eq_true rfl) (Nat.le_of_ble_eq_true rfl) (Jvm.hb hby d7_110) ⟨(0 : Int32), rfl, Or.inr ⟨rfl, 1, by decide, c1⟩, e0, rfl⟩
    · refine w_iloadN X0 hx (Jvm.hb hby d7_28) rfl (pc' := 29) rfl ?_
      refine w_iconst X0 hx (3 : Int32) (Jvm.hb hby d7_29) (by decide) (pc' := 30) rfl ?_
      refine w_icmp_lt X0 hx (Jvm.hb hby d7_30) (by decide) (pcT := 40) (by decide) (pcF := 33) rfl (fun q => absurd q (show ¬ (6 : Int32) < (3 : Int32) from by decide)) (fun _ => ?_)
      refine w_iloadN X0 hx (Jvm.hb hby d7_33) rfl (pc' := 34) rfl ?_
      refine w_aloadN X0 hx (Jvm.hb hby d7_34) rfl rfl (pc' := 35) rfl ?_
      refine w_iconst X0 hx (2 : Int32) (Jvm.hb hby d7_35) (by decide) (pc' := 36) rfl ?_
      refine w_ialoadA X0 hx hZ e0 A 2 (by decide) (by decide) (Jvm.hb hby d7_36) (pc' := 37) rfl ?_
      refine w_icmp_eq X0 hx (Jvm.hb hby d7_37) (by decide) (pcT := 109) (by decide) (pcF := 40) rfl (fun c2 => ?_) (fun c2 => ?_)
      · refine w_iconst X0 hx (0 : Int32) (Jvm.hb hby d7_109) (by decide) (pc' := 110) rfl ?_
        exact w_zreturn X0 hx Bd.returns (Or.inl rfl) (BodyLoose.notSynchronized Bd) (Nat.le_of_ble_eq_true rfl) (Nat.le_of_ble_eq_true rfl) (Jvm.hb hby d7_110) ⟨(0 : Int32), rfl, Or.inr ⟨rfl, 2, by decide, c2⟩, e0, rfl⟩
      · refine w_iloadN X0 hx (Jvm.hb hby d7_40) rfl (pc' := 41) rfl ?_
        refine w_iconst X0 hx (4 : Int32) (Jvm.hb hby d7_41) (by decide) (pc' := 42) rfl ?_
        refine w_icmp_lt X0 hx (Jvm.hb hby d7_42) (by decide) (pcT := 52) (by decide) (pcF := 45) rfl (fun q => absurd q (show ¬ (6 : Int32) < (4 : Int32) from by decide)) (fun _ => ?_)
        refine w_iloadN X0 hx (Jvm.hb hby d7_45) rfl (pc' := 46) rfl ?_
        refine w_aloadN X0 hx (Jvm.hb hby d7_46) rfl rfl (pc' := 47) rfl ?_
        refine w_iconst X0 hx (3 : Int32) (Jvm.hb hby d7_47) (by decide) (pc' := 48) rfl ?_
        refine w_ialoadA X0 hx hZ e0 A 3 (by decide) (by decide) (Jvm.hb hby d7_48) (pc' := 49) rfl ?_
        refine w_icmp_eq X0 hx (Jvm.hb hby d7_49) (by decide) (pcT := 109) (by decide) (pcF := 52) rfl (fun c3 => ?_) (fun c3 => ?_)
        · refine w_iconst X0 hx (0 : Int32) (Jvm.hb hby d7_109) (by decide) (pc' := 110) rfl ?_
          exact w_zreturn X0 hx Bd.returns (Or.inl rfl) (BodyLoose.notSynchronized Bd) (Nat.le_of_ble_eq_true rfl) (Nat.le_of_ble_eq_true rfl) (Jvm.hb hby d7_110) ⟨(0 : Int32), rfl, Or.inr ⟨rfl, 3, by decide, c3⟩, e0, rfl⟩
        · refine w_iloadN X0 hx (Jvm.hb hby d7_52) rfl (pc' := 53) rfl ?_
          refine w_iconst X0 hx (5 : Int32) (Jvm.hb hby d7_53) (by decide) (pc' := 54) rfl ?_
          refine w_icmp_lt X0 hx (Jvm.hb hby d7_54) (by decide) (pcT := 64) (by decide) (pcF := 57) rfl (fun q => absurd q (show ¬ (6 : Int32) < (5 : Int32) from by decide)) (fun _ => ?_)
          refine w_iloadN X0 hx (Jvm.hb hby d7_57) rfl (pc' := 58) rfl ?_
          refine w_aloadN X0 hx (Jvm.hb hby d7_58) rfl rfl (pc' := 59) rfl ?_
          refine w_iconst X0 hx (4 : Int32) (Jvm.hb hby d7_59) (by decide) (pc' := 60) rfl ?_
          refine w_ialoadA X0 hx hZ e0 A 4 (by decide) (by decide) (Jvm.hb hby d7_60) (pc' := 61) rfl ?_
          refine w_icmp_eq X0 hx (Jvm.hb hby d7_61) (by decide) (pcT := 109) (by decide) (pcF := 64) rfl (fun c4 => ?_) (fun c4 => ?_)
          · refine w_iconst X0 hx (0 : Int32) (Jvm.hb hby d7_109) (by decide) (pc' := 110) rfl ?_
            exact w_zreturn X0 hx Bd.returns (Or.inl rfl) (BodyLoose.notSynchronized Bd) (Nat.le_of_ble_eq_true rfl) (Nat.le_of_ble_eq_true rfl) (Jvm.hb hby d7_110) ⟨(0 : Int32), rfl, Or.inr ⟨rfl, 4, by decide, c4⟩, e0, rfl⟩
          · refine w_iloadN X0 hx (Jvm.hb hby d7_64) rfl (pc' := 65) rfl ?_
            refine w_bipush X0 hx (6 : Int32) (Jvm.hb hby d7_65) (by decide) (pc' := 67) rfl ?_
            refine w_icmp_lt X0 hx (Jvm.hb hby d7_67) (by decide) (pcT := 77) (by decide) (pcF := 70) rfl (fun q => absurd q (show ¬ (6 : Int32) < (6 : Int32) from by decide)) (fun _ => ?_)
            refine w_iloadN X0 hx (Jvm.hb hby d7_70) rfl (pc' := 71) rfl ?_
            refine w_aloadN X0 hx (Jvm.hb hby d7_71) rfl rfl (pc' := 72) rfl ?_
            refine w_iconst X0 hx (5 : Int32) (Jvm.hb hby d7_72) (by decide) (pc' := 73) rfl ?_
            refine w_ialoadA X0 hx hZ e0 A 5 (by decide) (by decide) (Jvm.hb hby d7_73) (pc' := 74) rfl ?_
            refine w_icmp_eq X0 hx (Jvm.hb hby d7_74) (by decide) (pcT := 109) (by decide) (pcF := 77) rfl (fun c5 => ?_) (fun c5 => ?_)
            · refine w_iconst X0 hx (0 : Int32) (Jvm.hb hby d7_109) (by decide) (pc' := 110) rfl ?_
              exact w_zreturn X0 hx Bd.returns (Or.inl rfl) (BodyLoose.notSynchronized Bd) (Nat.le_of_ble_eq_true rfl) (Nat.le_of_ble_eq_true rfl) (Jvm.hb hby d7_110) ⟨(0 : Int32), rfl, Or.inr ⟨rfl, 5, by decide, c5⟩, e0, rfl⟩
            · refine w_iloadN X0 hx (Jvm.hb hby d7_77) rfl (pc' := 78) rfl ?_
              refine w_bipush X0 hx (7 : Int32) (Jvm.hb hby d7_78) (by decide) (pc' := 80) rfl ?_
              refine w_icmp_lt X0 hx (Jvm.hb hby d7_80) (by decide) (pcT := 91) (by decide) (pcF := 83) rfl (fun _ => ?_) (fun q => absurd (show (6 : Int32) < (7 : Int32) from by decide) q)
              refine w_iloadN X0 hx (Jvm.hb hby d7_91) rfl (pc' := 92) rfl ?_
              refine w_bipush X0 hx (8 : Int32) (Jvm.hb hby d7_92) (by decide) (pc' := 94) rfl ?_
              refine w_icmp_lt X0 hx (Jvm.hb hby d7_94) (by decide) (pcT := 105) (by decide) (pcF := 97) rfl (fun _ => ?_) (fun q => absurd (show (6 : Int32) < (8 : Int32) from by decide) q)
              refine w_iconst X0 hx (1 : Int32) (Jvm.hb hby d7_105) (by decide) (pc' := 106) rfl ?_
              refine w_goto X0 hx (Jvm.hb hby d7_106) (by decide) (pc' := 110) (by decide) ?_
              exact w_zreturn X0 hx Bd.returns (Or.inr rfl) (BodyLoose.notSynchronized Bd) (Nat.le_of_ble_eq_true rfl) (Nat.le_of_ble_eq_true rfl) (Jvm.hb hby d7_110) ⟨(1 : Int32), rfl, Or.inl ⟨rfl, fun j hj => by have h8 : j = 0 ∨ j = 1 ∨ j = 2 ∨ j = 3 ∨ j = 4 ∨ j = 5 := (by omega); rcases h8 with rfl | rfl | rfl | rfl | rfl | rfl <;> assumption⟩, e0, rfl⟩
set_option maxRecDepth 65536 in
set_option maxHeartbeats 40000000 in
theorem rm7_7 (l : Launch) (Z : State) (aw : Array Value) (hw : ∀ d ∈ tables_1, d.before aw Z = true) (ws : List Jvm.Cond) (a0 : Addr) (f : Nat → Int32) (h0 : Heap) (A : IAr Z h0 a0 .int 9 f) :
    MetFree l (⟨"com/example/sarutahiko/sarutahiko/simulation/CellSetAddPinLaw", "fresh", "([II)Z"⟩ : MethodName) (head1 (Jvm.Cond.code (⟨"com/example/sarutahiko/sarutahiko/simulation/CellSetAddPinLaw", "fresh", "([II)Z"⟩ : MethodName) method_3_code 3 (some .boolean) :: ws) ({ frames := 0, cells := 0, slots := 0, locals := 0 } : Room)) (fun a U => a = #[(.ref a0), (.int (7 : Int32))] ∧ Z.Warmed39 U.vm ∧ U.heap = h0) (fun _ _ _ _ _ => True) (fun _ U o U' => ∃ v L, o = .returned v ∧ Q7 f 7 h0 v U'.heap L ∧ FrameEnd U o U' L ({ frames := 0, cells := 0, slots := 0, locals := 0 } : Room).cells ({ frames := 0, cells := 0, slots := 0, locals := 0 } : Room).slots) := by
  refine MetFree.of_bodySF (plainFor_of_name pn_2) hisR ?_
  intro p e s m args below meth c s₁ Bd hml0 hP _hKK
  obtain ⟨rfl, hZ, hh⟩ := hP
  have hx := Bd.exec
  have hby := Bd.bytes
  have hml : c.maxLocals = 3 := hml0
  have hown : s.vm.findClass "com/example/sarutahiko/sarutahiko/simulation/CellSetAddPinLaw" = some m.cls := findClass_of_methodNamed Bd.named
  have hnm := (name_of_methodNamed Bd.named Bd.method).1
  have X0 : Stand p l e ({ frames := 0, cells := 0, slots := 0, locals := 0 } : Room) s m #[(.ref a0), (.int (7 : Int32))] below meth c s₁ [] 0 0 := Stand.of_body Bd
  have e0 : s₁.heap = h0 := by rw [← hh, Bd.state]; rfl
  refine Ow.enter (Q := Q7 f 7 h0) (ef_7_7 m a0) ?_
  show Ow p e below s _ _ _ (s₁.setTop (mkF m 0 #[.val (.ref a0), .val (.int (7 : Int32)), .unset] []))
  refine w_aloadN X0 hx (Jvm.hb hby d7_0) rfl rfl (pc' := 1) rfl ?_
  refine w_iloadN X0 hx (Jvm.hb hby d7_1) rfl (pc' := 2) rfl ?_
  refine w_ialoadA X0 hx hZ e0 A 7 (by decide) (by decide) (Jvm.hb hby d7_2) (pc' := 3) rfl ?_
  refine w_istoreN X0 hx (Jvm.hb hby d7_3) #[.val (.ref a0), .val (.int (7 : Int32)), .val (.int (f 7))] rfl  (pc' := 4) rfl ?_
  refine w_iloadN X0 hx (Jvm.hb hby d7_4) rfl (pc' := 5) rfl ?_
  refine w_iconst X0 hx (1 : Int32) (Jvm.hb hby d7_5) (by decide) (pc' := 6) rfl ?_
  refine w_icmp_lt X0 hx (Jvm.hb hby d7_6) (by decide) (pcT := 16) (by decide) (pcF := 9) rfl (fun q => absurd q (show ¬ (7 : Int32) < (1 : Int32) from by decide)) (fun _ => ?_)
  refine w_iloadN X0 hx (Jvm.hb hby d7_9) rfl (pc' := 10) rfl ?_
  refine w_aloadN X0 hx (Jvm.hb hby d7_10) rfl rfl (pc' := 11) rfl ?_
  refine w_iconst X0 hx (0 : Int32) (Jvm.hb hby d7_11) (by decide) (pc' := 12) rfl ?_
  refine w_ialoadA X0 hx hZ e0 A 0 (by decide) (by decide) (Jvm.hb hby d7_12) (pc' := 13) rfl ?_
  refine w_icmp_eq X0 hx (Jvm.hb hby d7_13) (by decide) (pcT := 109) (by decide) (pcF := 16) rfl (fun c0 => ?_) (fun c0 => ?_)
  · refine w_iconst X0 hx (0 : Int32) (Jvm.hb hby d7_109) (by decide) (pc' := 110) rfl ?_
    exact w_zreturn X0 hx Bd.returns (Or.inl rfl) (BodyLoose.notSynchronized Bd) (Nat.le_of_ble_eq_true rfl) (Nat.le_of_ble_eq_true rfl) (Jvm.hb hby d7_110) ⟨(0 : Int32), rfl, Or.inr ⟨rfl, 0, by decide, c0⟩, e0, rfl⟩
  · refine w_iloadN X0 hx (Jvm.hb hby d7_16) rfl (pc' := 17) rfl ?_
    refine w_iconst X0 hx (2 : Int32) (Jvm.hb hby d7_17) (by decide) (pc' := 18) rfl ?_
    refine w_icmp_lt X0 hx (Jvm.hb hby d7_18) (by decide) (pcT := 28) (by decide) (pcF := 21) rfl (fun q => absurd q (show ¬ (7 : Int32) < (2 : Int32) from by decide)) (fun _ => ?_)
    refine w_iloadN X0 hx (Jvm.hb hby d7_21) rfl (pc' := 22) rfl ?_
    refine w_aloadN X0 hx (Jvm.hb hby d7_22) rfl rfl (pc' := 23) rfl ?_
    refine w_iconst X0 hx (1 : Int32) (Jvm.hb hby d7_23) (by decide) (pc' := 24) rfl ?_
    refine w_ialoadA X0 hx hZ e0 A 1 (by decide) (by decide) (Jvm.hb hby d7_24) (pc' := 25) rfl ?_
    refine w_icmp_eq X0 hx (Jvm.hb hby d7_25) (by decide) (pcT := 109) (by decide) (pcF := 28) rfl (fun c1 => ?_) (fun c1 => ?_)
    · refine w_iconst X0 hx (0 : Int32) (Jvm.hb hby d7_109) (by decide) (pc' := 110) rfl ?_
      exact w_zreturn X0 hx Bd.returns (Or.inl rfl) (BodyLoose.notSynchronized Bd) (Nat.le_of_ble_eq_true rfl) (Nat.le_of_ble_eq_true rfl) (Jvm.hb hby d7_110) ⟨(0 : Int32), rfl, Or.inr ⟨rfl, 1, by decide, c1⟩, e0, rfl⟩
    · refine w_iloadN X0 hx (Jvm.hb hby d7_28) rfl (pc' := 29) rfl ?_
      refine w_iconst X0 hx (3 : Int32) (Jvm.hb hby d7_29) (by decide) (pc' := 30) rfl ?_
      refine w_icmp_lt X0 hx (Jvm.hb hby d7_30) (by decide) (pcT := 40) (by decide) (pcF := 33) rfl (fun q => absurd q (show ¬ (7 : Int32) < (3 : Int32) from by decide)) (fun _ => ?_)
      refine w_iloadN X0 hx (Jvm.hb hby d7_33) rfl (pc' := 34) rfl ?_
      refine w_aloadN X0 hx (Jvm.hb hby d7_34) rfl rfl (pc' := 35) rfl ?_
      refine w_iconst X0 hx (2 : Int32) (Jvm.hb hby d7_35) (by decide) (pc' := 36) rfl ?_
      refine w_ialoadA X0 hx hZ e0 A 2 (by decide) (by decide) (Jvm.hb hby d7_36) (pc' := 37) rfl ?_
      refine w_icmp_eq X0 hx (Jvm.hb hby d7_37) (by decide) (pcT := 109) (by decide) (pcF := 40) rfl (fun c2 => ?_) (fun c2 => ?_)
      · refine w_iconst X0 hx (0 : Int32) (Jvm.hb hby d7_109) (by decide) (pc' := 110) rfl ?_
        exact w_zreturn X0 hx Bd.returns (Or.inl rfl) (BodyLoose.notSynchronized Bd) (Nat.le_of_ble_eq_true rfl) (Nat.le_of_ble_eq_true rfl) (Jvm.hb hby d7_110) ⟨(0 : Int32), rfl, Or.inr ⟨rfl, 2, by decide, c2⟩, e0, rfl⟩
      · refine w_iloadN X0 hx (Jvm.hb hby d7_40) rfl (pc' := 41) rfl ?_
        refine w_iconst X0 hx (4 : Int32) (Jvm.hb hby d7_41) (by decide) (pc' := 42) rfl ?_
        refine w_icmp_lt X0 hx (Jvm.hb hby d7_42) (by decide) (pcT := 52) (by decide) (pcF := 45) rfl (fun q => absurd q (show ¬ (7 : Int32) < (4 : Int32) from by decide)) (fun _ => ?_)
        refine w_iloadN X0 hx (Jvm.hb hby d7_45) rfl (pc' := 46) rfl ?_
        refine w_aloadN X0 hx (Jvm.hb hby d7_46) rfl rfl (pc' := 47) rfl ?_
        refine w_iconst X0 hx (3 : Int32) (Jvm.hb hby d7_47) (by decide) (pc' := 48) rfl ?_
        refine w_ialoadA X0 hx hZ e0 A 3 (by decide) (by decide) (Jvm.hb hby d7_48) (pc' := 49) rfl ?_
        refine w_icmp_eq X0 hx (Jvm.hb hby d7_49) (by decide) (pcT := 109) (by decide) (pcF := 52) rfl (fun c3 => ?_) (fun c3 => ?_)
        · refine w_iconst X0 hx (0 : Int32) (Jvm.hb hby d7_109) (by decide) (pc' := 110) rfl ?_
          exact w_zreturn X0 hx Bd.returns (Or.inl rfl) (BodyLoose.notSynchronized Bd) (Nat.le_of_ble_eq_true rfl) (Nat.le_of_ble_eq_true rfl) (Jvm.hb hby d7_110) ⟨(0 : Int32), rfl, Or.inr ⟨rfl, 3, by decide, c3⟩, e0, rfl⟩
        · refine w_iloadN X0 hx (Jvm.hb hby d7_52) rfl (pc' := 53) rfl ?_
          refine w_iconst X0 hx (5 : Int32) (Jvm.hb hby d7_53) (by decide) (pc' := 54) rfl ?_
          refine w_icmp_lt X0 hx (Jvm.hb hby d7_54) (by decide) (pcT := 64) (by decide) (pcF := 57) rfl (fun q => absurd q (show ¬ (7 : Int32) < (5 : Int32) from by decide)) (fun _ => ?_)
          refine w_iloadN X0 hx (Jvm.hb hby d7_57) rfl (pc' := 58) rfl ?_
          refine w_aloadN X0 hx (Jvm.hb hby d7_58) rfl rfl (pc' := 59) rfl ?_
          refine w_iconst X0 hx (4 : Int32) (Jvm.hb hby d7_59) (by decide) (pc' := 60) rfl ?_
          refine w_ialoadA X0 hx hZ e0 A 4 (by decide) (by decide) (Jvm.hb hby d7_60) (pc' := 61) rfl ?_
          refine w_icmp_eq X0 hx (Jvm.hb hby d7_61) (by decide) (pcT := 109) (by decide) (pcF := 64) rfl (fun c4 => ?_) (fun c4 => ?_)
          · refine w_iconst X0 hx (0 : Int32) (Jvm.hb hby d7_109) (by decide) (pc' := 110) rfl ?_
            exact w_zreturn X0 hx Bd.returns (Or.inl rfl) (BodyLoose.notSynchronized Bd) (Nat.le_of_ble_eq_true rfl) (Nat.le_of_ble_eq_true rfl) (Jvm.hb hby d7_110) ⟨(0 : Int32), rfl, Or.inr ⟨rfl, 4, by decide, c4⟩, e0, rfl⟩
          · refine w_iloadN X0 hx (Jvm.hb hby d7_64) rfl (pc' := 65) rfl ?_
            refine w_bipush X0 hx (6 : Int32) (Jvm.hb hby d7_65) (by decide) (pc' := 67) rfl ?_
            refine w_icmp_lt X0 hx (Jvm.hb hby d7_67) (by decide) (pcT := 77) (by decide) (pcF := 70) rfl (fun q => absurd q (show ¬ (7 : Int32) < (6 : Int32) from by decide)) (fun _ => ?_)
            refine w_iloadN X0 hx (Jvm.hb hby d7_70) rfl (pc' := 71) rfl ?_
            refine w_aloadN X0 hx (Jvm.hb hby d7_71) rfl rfl (pc' := 72) rfl ?_
            refine w_iconst X0 hx (5 : Int32) (Jvm.hb hby d7_72) (by decide) (pc' := 73) rfl ?_
            refine w_ialoadA X0 hx hZ e0 A 5 (by decide) (by decide) (Jvm.hb hby d7_73) (pc' := 74) rfl ?_
            refine w_icmp_eq X0 hx (Jvm.hb hby d7_74) (by decide) (pcT := 109) (by decide) (pcF := 77) rfl (fun c5 => ?_) (fun c5 => ?_)
            · refine w_iconst X0 hx (0 : Int32) (Jvm.hb hby d7_109) (by decide) (pc' := 110) rfl ?_
              exact w_zreturn X0 hx Bd.returns (Or.inl rfl) (BodyLoose.notSynchronized Bd) (Nat.le_of_ble_eq_true rfl) (Nat.le_of_ble_eq_true rfl) (Jvm.hb hby d7_110) ⟨(0 : Int32), rfl, Or.inr ⟨rfl, 5, by decide, c5⟩, e0, rfl⟩
            · refine w_iloadN X0 hx (Jvm.hb hby d7_77) rfl (pc' := 78) rfl ?_
              refine w_bipush X0 hx (7 : Int32) (Jvm.hb hby d7_78) (by decide) (pc' := 80) rfl ?_
              refine w_icmp_lt X0 hx (Jvm.hb hby d7_80) (by decide) (pcT := 91) (by decide) (pcF := 83) rfl (fun q => absurd q (show ¬ (7 : Int32) < (7 : Int32) from by decide)) (fun _ => ?_)
              refine w_iloadN X0 hx (Jvm.hb hby d7_83) rfl (pc' := 84) rfl ?_
              refine w_aloadN X0 hx (Jvm.hb hby d7_84) rfl rfl (pc' := 85) rfl ?_
              refine w_bipush X0 hx (6 : Int32) (Jvm.hb hby d7_85) (by decide) (pc' := 87) rfl ?_
              refine w_ialoadA X0 hx hZ e0 A 6 (by decide) (by decide) (Jvm.hb hby d7_87) (pc' := 88) rfl ?_
              refine w_icmp_eq X0 hx (Jvm.hb hby d7_88) (by decide) (pcT := 109) (by decide) (pcF := 91) rfl (fun c6 => ?_) (fun c6 => ?_)
              · refine w_iconst X0 hx (0 : Int32) (Jvm.hb hby d7_109) (by decide) (pc' := 110) rfl ?_
                exact w_zreturn X0 hx Bd.returns (Or.inl rfl) (BodyLoose.notSynchronized Bd) (Nat.le_of_ble_eq_true rfl) (Nat.le_of_ble_eq_true rfl) (Jvm.hb hby d7_110) ⟨(0 : Int32), rfl, Or.inr ⟨rfl, 6, by decide, c6⟩, e0, rfl⟩
              · refine w_iloadN X0 hx (Jvm.hb hby d7_91) rfl (pc' := 92) rfl ?_
                refine w_bipush X0 hx (8 : Int32) (Jvm.hb hby d7_92) (by decide) (pc' := 94) rfl ?_
                refine w_icmp_lt X0 hx (Jvm.hb hby d7_94) (by decide) (pcT := 105) (by decide) (pcF := 97) rfl (fun _ => ?_) (fun q => absurd (show (7 : Int32) < (8 : Int32) from by decide) q)
                refine w_iconst X0 hx (1 : Int32) (Jvm.hb hby d7_105) (by decide) (pc' := 106) rfl ?_
                refine w_goto X0 hx (Jvm.hb hby d7_106) (by decide) (pc' := 110) (by decide) ?_
                exact w_zreturn X0 hx Bd.returns (Or.inr rfl) (BodyLoose.notSynchronized Bd) (Nat.le_of_ble_eq_true rfl) (Nat.le_of_ble_eq_true rfl) (Jvm.hb hby d7_110) ⟨(1 : Int32), rfl, Or.inl ⟨rfl, fun j hj => by have h8 : j = 0 ∨ j = 1 ∨ j = 2 ∨ j = 3 ∨ j = 4 ∨ j = 5 ∨ j = 6 := (by omega); rcases h8 with rfl | rfl | rfl | rfl | rfl | rfl | rfl <;> assumption⟩, e0, rfl⟩
set_option maxRecDepth 65536 in
set_option maxHeartbeats 40000000 in
theorem rm7_8 (l : Launch) (Z : State) (aw : Array Value) (hw : ∀ d ∈ tables_1, d.before aw Z = true) (ws : List Jvm.Cond) (a0 : Addr) (f : Nat → Int32) (h0 : Heap) (A : IAr Z h0 a0 .int 9 f) :
    MetFree l (⟨"com/example/sarutahiko/sarutahiko/simulation/CellSetAddPinLaw", "fresh", "([II)Z"⟩ : MethodName) (head1 (Jvm.Cond.code (⟨"com/example/sarutahiko/sarutahiko/simulation/CellSetAddPinLaw", "fresh", "([II)Z"⟩ : MethodName) method_3_code 3 (some .boolean) :: ws) ({ frames := 0, cells := 0, slots := 0, locals := 0 } : Room)) (fun a U => a = #[(.ref a0), (.int (8 : Int32))] ∧ Z.Warmed39 U.vm ∧ U.heap = h0) (fun _ _ _ _ _ => True) (fun _ U o U' => ∃ v L, o = .returned v ∧ Q7 f 8 h0 v U'.heap L ∧ FrameEnd U o U' L ({ frames := 0, cells := 0, slots := 0, locals := 0 } : Room).cells ({ frames := 0, cells := 0, slots := 0, locals := 0 } : Room).slots) := by
  refine MetFree.of_bodySF (plainFor_of_name pn_2) hisR ?_
  intro p e s m args below meth c s₁ Bd hml0 hP _hKK
  obtain ⟨rfl, hZ, hh⟩ := hP
  have hx := Bd.exec
  have hby := Bd.bytes
  have hml : c.maxLocals = 3 := hml0
  have hown : s.vm.findClass "com/example/sarutahiko/sarutahiko/simulation/CellSetAddPinLaw" = some m.cls := findClass_of_methodNamed Bd.named
  have hnm := (name_of_methodNamed Bd.named Bd.method).1
  have X0 : Stand p l e ({ frames := 0, cells := 0, slots := 0, locals := 0 } : Room) s m #[(.ref a0), (.int (8 : Int32))] below meth c s₁ [] 0 0 := Stand.of_body Bd
  have e0 : s₁.heap = h0 := by rw [← hh, Bd.state]; rfl
  refine Ow.enter (Q := Q7 f 8 h0) (ef_7_8 m a0) ?_
  show Ow p e below s _ _ _ (s₁.setTop (mkF m 0 #[.val (.ref a0), .val (.int (8 : Int32)), .unset] []))
  refine w_aloadN X0 hx (Jvm.hb hby d7_0) rfl rfl (pc' := 1) rfl ?_
  refine w_iloadN X0 hx (Jvm.hb hby d7_1) rfl (pc' := 2) rfl ?_
  refine w_ialoadA X0 hx hZ e0 A 8 (by decide) (by decide) (Jvm.hb hby d7_2) (pc' := 3) rfl ?_
  refine w_istoreN X0 hx (Jvm.hb hby d7_3) #[.val (.ref a0), .val (.int (8 : Int32)), .val (.int (f 8))] rfl  (pc' := 4) rfl ?_
  refine w_iloadN X0 hx (Jvm.hb hby d7_4) rfl (pc' := 5) rfl ?_
  refine w_iconst X0 hx (1 : Int32) (Jvm.hb hby d7_5) (by decide) (pc' := 6) rfl ?_
  refine w_icmp_lt X0 hx (Jvm.hb hby d7_6) (by decide) (pcT := 16) (by decide) (pcF := 9) rfl (fun q => absurd q (show ¬ (8 : Int32) < (1 : Int32) from by decide)) (fun _ => ?_)
  refine w_iloadN X0 hx (Jvm.hb hby d7_9) rfl (pc' := 10) rfl ?_
  refine w_aloadN X0 hx (Jvm.hb hby d7_10) rfl rfl (pc' := 11) rfl ?_
  refine w_iconst X0 hx (0 : Int32) (Jvm.hb hby d7_11) (by decide) (pc' := 12) rfl ?_
  refine w_ialoadA X0 hx hZ e0 A 0 (by decide) (by decide) (Jvm.hb hby d7_12) (pc' := 13) rfl ?_
  refine w_icmp_eq X0 hx (Jvm.hb hby d7_13) (by decide) (pcT := 109) (by decide) (pcF := 16) rfl (fun c0 => ?_) (fun c0 => ?_)
  · refine w_iconst X0 hx (0 : Int32) (Jvm.hb hby d7_109) (by decide) (pc' := 110) rfl ?_
    exact w_zreturn X0 hx Bd.returns (Or.inl rfl) (BodyLoose.notSynchronized Bd) (Nat.le_of_ble_eq_true rfl) (Nat.le_of_ble_eq_true rfl) (Jvm.hb hby d7_110) ⟨(0 : Int32), rfl, Or.inr ⟨rfl, 0, by decide, c0⟩, e0, rfl⟩
  · refine w_iloadN X0 hx (Jvm.hb hby d7_16) rfl (pc' := 17) rfl ?_
    refine w_iconst X0 hx (2 : Int32) (Jvm.hb hby d7_17) (by decide) (pc' := 18) rfl ?_
    refine w_icmp_lt X0 hx (Jvm.hb hby d7_18) (by decide) (pcT := 28) (by decide) (pcF := 21) rfl (fun q => absurd q (show ¬ (8 : Int32) < (2 : Int32) from by decide)) (fun _ => ?_)
    refine w_iloadN X0 hx (Jvm.hb hby d7_21) rfl (pc' := 22) rfl ?_
    refine w_aloadN X0 hx (Jvm.hb hby d7_22) rfl rfl (pc' := 23) rfl ?_
    refine w_iconst X0 hx (1 : Int32) (Jvm.hb hby d7_23) (by decide) (pc' := 24) rfl ?_
    refine w_ialoadA X0 hx hZ e0 A 1 (by decide) (by decide) (Jvm.hb hby d7_24) (pc' := 25) rfl ?_
    refine w_icmp_eq X0 hx (Jvm.hb hby d7_25) (by decide) (pcT := 109) (by decide) (pcF := 28) rfl (fun c1 => ?_) (fun c1 => ?_)
    · refine w_iconst X0 hx (0 : Int32) (Jvm.hb hby d7_109) (by decide) (pc' := 110) rfl ?_
      exact w_zreturn X0 hx Bd.returns (Or.inl rfl) (BodyLoose.notSynchronized Bd) (Nat.le_of_ble_eq_true rfl) (Nat.le_of_ble_eq_true rfl) (Jvm.hb hby d7_110) ⟨(0 : Int32), rfl, Or.inr ⟨rfl, 1, by decide, c1⟩, e0, rfl⟩
    · refine w_iloadN X0 hx (Jvm.hb hby d7_28) rfl (pc' := 29) rfl ?_
      refine w_iconst X0 hx (3 : Int32) (Jvm.hb hby d7_29) (by decide) (pc' := 30) rfl ?_
      refine w_icmp_lt X0 hx (Jvm.hb hby d7_30) (by decide) (pcT := 40) (by decide) (pcF := 33) rfl (fun q => absurd q (show ¬ (8 : Int32) < (3 : Int32) from by decide)) (fun _ => ?_)
      refine w_iloadN X0 hx (Jvm.hb hby d7_33) rfl (pc' := 34) rfl ?_
      refine w_aloadN X0 hx (Jvm.hb hby d7_34) rfl rfl (pc' := 35) rfl ?_
      refine w_iconst X0 hx (2 : Int32) (Jvm.hb hby d7_35) (by decide) (pc' := 36) rfl ?_
      refine w_ialoadA X0 hx hZ e0 A 2 (by decide) (by decide) (Jvm.hb hby d7_36) (pc' := 37) rfl ?_
      refine w_icmp_eq X0 hx (Jvm.hb hby d7_37) (by decide) (pcT := 109) (by decide) (pcF := 40) rfl (fun c2 => ?_) (fun c2 => ?_)
      · refine w_iconst X0 hx (0 : Int32) (Jvm.hb hby d7_109) (by decide) (pc' := 110) rfl ?_
        exact w_zreturn X0 hx Bd.returns (Or.inl rfl) (BodyLoose.notSynchronized Bd) (Nat.le_of_ble_eq_true rfl) (Nat.le_of_ble_eq_true rfl) (Jvm.hb hby d7_110) ⟨(0 : Int32), rfl, Or.inr ⟨rfl, 2, by decide, c2⟩, e0, rfl⟩
      · refine w_iloadN X0 hx (Jvm.hb hby d7_40) rfl (pc' := 41) rfl ?_
        refine w_iconst X0 hx (4 : Int32) (Jvm.hb hby d7_41) (by decide) (pc' := 42) rfl ?_
        refine w_icmp_lt X0 hx (Jvm.hb hby d7_42) (by decide) (pcT := 52) (by decide) (pcF := 45) rfl (fun q => absurd q (show ¬ (8 : Int32) < (4 : Int32) from by decide)) (fun _ => ?_)
        refine w_iloadN X0 hx (Jvm.hb hby d7_45) rfl (pc' := 46) rfl ?_
        refine w_aloadN X0 hx (Jvm.hb hby d7_46) rfl rfl (pc' := 47) rfl ?_
        refine w_iconst X0 hx (3 : Int32) (Jvm.hb hby d7_47) (by decide) (pc' := 48) rfl ?_
        refine w_ialoadA X0 hx hZ e0 A 3 (by decide) (by decide) (Jvm.hb hby d7_48) (pc' := 49) rfl ?_
        refine w_icmp_eq X0 hx (Jvm.hb hby d7_49) (by decide) (pcT := 109) (by decide) (pcF := 52) rfl (fun c3 => ?_) (fun c3 => ?_)
        · refine w_iconst X0 hx (0 : Int32) (Jvm.hb hby d7_109) (by decide) (pc' := 110) rfl ?_
          exact w_zreturn X0 hx Bd.returns (Or.inl rfl) (BodyLoose.notSynchronized Bd) (Nat.le_of_ble_eq_true rfl) (Nat.le_of_ble_eq_true rfl) (Jvm.hb hby d7_110) ⟨(0 : Int32), rfl, Or.inr ⟨rfl, 3, by decide, c3⟩, e0, rfl⟩
        · refine w_iloadN X0 hx (Jvm.hb hby d7_52) rfl (pc' := 53) rfl ?_
          refine w_iconst X0 hx (5 : Int32) (Jvm.hb hby d7_53) (by decide) (pc' := 54) rfl ?_
          refine w_icmp_lt X0 hx (Jvm.hb hby d7_54) (by decide) (pcT := 64) (by decide) (pcF := 57) rfl (fun q => absurd q (show ¬ (8 : Int32) < (5 : Int32) from by decide)) (fun _ => ?_)
          refine w_iloadN X0 hx (Jvm.hb hby d7_57) rfl (pc' := 58) rfl ?_
          refine w_aloadN X0 hx (Jvm.hb hby d7_58) rfl rfl (pc' := 59) rfl ?_
          refine w_iconst X0 hx (4 : Int32) (Jvm.hb hby d7_59) (by decide) (pc' := 60) rfl ?_
          refine w_ialoadA X0 hx hZ e0 A 4 (by decide) (by decide) (Jvm.hb hby d7_60) (pc' := 61) rfl ?_
          refine w_icmp_eq X0 hx (Jvm.hb hby d7_61) (by decide) (pcT := 109) (by decide) (pcF := 64) rfl (fun c4 => ?_) (fun c4 => ?_)
          · refine w_iconst X0 hx (0 : Int32) (Jvm.hb hby d7_109) (by decide) (pc' := 110) rfl ?_
            exact w_zreturn X0 hx Bd.returns (Or.inl rfl) (BodyLoose.notSynchronized Bd) (Nat.le_of_ble_eq_true rfl) (Nat.le_of_ble_eq_true rfl) (Jvm.hb hby d7_110) ⟨(0 : Int32), rfl, Or.inr ⟨rfl, 4, by decide, c4⟩, e0, rfl⟩
          · refine w_iloadN X0 hx (Jvm.hb hby d7_64) rfl (pc' := 65) rfl ?_
            refine w_bipush X0 hx (6 : Int32) (Jvm.hb hby d7_65) (by decide) (pc' := 67) rfl ?_
            refine w_icmp_lt X0 hx (Jvm.hb hby d7_67) (by decide) (pcT := 77) (by decide) (pcF := 70) rfl (fun q => absurd q (show ¬ (8 : Int32) < (6 : Int32) from by decide)) (fun _ => ?_)
            refine w_iloadN X0 hx (Jvm.hb hby d7_70) rfl (pc' := 71) rfl ?_
            refine w_aloadN X0 hx (Jvm.hb hby d7_71) rfl rfl (pc' := 72) rfl ?_
            refine w_iconst X0 hx (5 : Int32) (Jvm.hb hby d7_72) (by decide) (pc' := 73) rfl ?_
            refine w_ialoadA X0 hx hZ e0 A 5 (by decide) (by decide) (Jvm.hb hby d7_73) (pc' := 74) rfl ?_
            refine w_icmp_eq X0 hx (Jvm.hb hby d7_74) (by decide) (pcT := 109) (by decide) (pcF := 77) rfl (fun c5 => ?_) (fun c5 => ?_)
            · refine w_iconst X0 hx (0 : Int32) (Jvm.hb hby d7_109) (by decide) (pc' := 110) rfl ?_
              exact w_zreturn X0 hx Bd.returns (Or.inl rfl) (BodyLoose.notSynchronized Bd) (Nat.le_of_ble_eq_true rfl) (Nat.le_of_ble_eq_true rfl) (Jvm.hb hby d7_110) ⟨(0 : Int32), rfl, Or.inr ⟨rfl, 5, by decide, c5⟩, e0, rfl⟩
            · refine w_iloadN X0 hx (Jvm.hb hby d7_77) rfl (pc' := 78) rfl ?_
              refine w_bipush X0 hx (7 : Int32) (Jvm.hb hby d7_78) (by decide) (pc' := 80) rfl ?_
              refine w_icmp_lt X0 hx (Jvm.hb hby d7_80) (by decide) (pcT := 91) (by decide) (pcF := 83) rfl (fun q => absurd q (show ¬ (8 : Int32) < (7 : Int32) from by decide)) (fun _ => ?_)
              refine w_iloadN X0 hx (Jvm.hb hby d7_83) rfl (pc' := 84) rfl ?_
              refine w_aloadN X0 hx (Jvm.hb hby d7_84) rfl rfl (pc' := 85) rfl ?_
              refine w_bipush X0 hx (6 : Int32) (Jvm.hb hby d7_85) (by decide) (pc' := 87) rfl ?_
              refine w_ialoadA X0 hx hZ e0 A 6 (by decide) (by decide) (Jvm.hb hby d7_87) (pc' := 88) rfl ?_
              refine w_icmp_eq X0 hx (Jvm.hb hby d7_88) (by decide) (pcT := 109) (by decide) (pcF := 91) rfl (fun c6 => ?_) (fun c6 => ?_)
              · refine w_iconst X0 hx (0 : Int32) (Jvm.hb hby d7_109) (by decide) (pc' := 110) rfl ?_
                exact w_zreturn X0 hx Bd.returns (Or.inl rfl) (BodyLoose.notSynchronized Bd) (Nat.le_of_ble_eq_true rfl) (Nat.le_of_ble_eq_true rfl) (Jvm.hb hby d7_110) ⟨(0 : Int32), rfl, Or.inr ⟨rfl, 6, by decide, c6⟩, e0, rfl⟩
              · refine w_iloadN X0 hx (Jvm.hb hby d7_91) rfl (pc' := 92) rfl ?_
                refine w_bipush X0 hx (8 : Int32) (Jvm.hb hby d7_92) (by decide) (pc' := 94) rfl ?_
                refine w_icmp_lt X0 hx (Jvm.hb hby d7_94) (by decide) (pcT := 105) (by decide) (pcF := 97) rfl (fun q => absurd q (show ¬ (8 : Int32) < (8 : Int32) from by decide)) (fun _ => ?_)
                refine w_iloadN X0 hx (Jvm.hb hby d7_97) rfl (pc' := 98) rfl ?_
                refine w_aloadN X0 hx (Jvm.hb hby d7_98) rfl rfl (pc' := 99) rfl ?_
                refine w_bipush X0 hx (7 : Int32) (Jvm.hb hby d7_99) (by decide) (pc' := 101) rfl ?_
                refine w_ialoadA X0 hx hZ e0 A 7 (by decide) (by decide) (Jvm.hb hby d7_101) (pc' := 102) rfl ?_
                refine w_icmp_eq X0 hx (Jvm.hb hby d7_102) (by decide) (pcT := 109) (by decide) (pcF := 105) rfl (fun c7 => ?_) (fun c7 => ?_)
                · refine w_iconst X0 hx (0 : Int32) (Jvm.hb hby d7_109) (by decide) (pc' := 110) rfl ?_
                  exact w_zreturn X0 hx Bd.returns (Or.inl rfl) (BodyLoose.notSynchronized Bd) (Nat.le_of_ble_eq_true rfl) (Nat.le_of_ble_eq_true rfl) (Jvm.hb hby d7_110) ⟨(0 : Int32), rfl, Or.inr ⟨rfl, 7, by decide, c7⟩, e0, rfl⟩
                · refine w_iconst X0 hx (1 : Int32) (Jvm.hb hby d7_105) (by decide) (pc' := 106) rfl ?_
                  refine w_goto X0 hx (Jvm.hb hby d7_106) (by decide) (pc' := 110) (by decide) ?_
                  exact w_zreturn X0 hx Bd.returns (Or.inr rfl) (BodyLoose.notSynchronized Bd) (Nat.le_of_ble_eq_true rfl) (Nat.le_of_ble_eq_true rfl) (Jvm.hb hby d7_110) ⟨(1 : Int32), rfl, Or.inl ⟨rfl, fun j hj => by have h8 : j = 0 ∨ j = 1 ∨ j = 2 ∨ j = 3 ∨ j = 4 ∨ j = 5 ∨ j = 6 ∨ j = 7 := (by omega); rcases h8 with rfl | rfl | rfl | rfl | rfl | rfl | rfl | rfl <;> assumption⟩, e0, rfl⟩
theorem pd_3 : parseMethodDescriptor "()V" = some ⟨[], none⟩ := by decide +kernel
theorem pd_4 : parseMethodDescriptor "(I)Z" = some ⟨[.int], some .boolean⟩ := by decide +kernel
theorem pd_5 : parseMethodDescriptor "([II)Z" = some ⟨[(.array .int), .int], some .boolean⟩ := by decide +kernel
theorem ef_0 (m : MethodId) (p0 : Int32) (p1 : Int32) (p2 : Int32) (p3 : Int32) (p4 : Int32) (p5 : Int32) : entryFrame m #[(.int p0), (.int p1), (.int p2), (.int p3), (.int p4), (.int p5)] maxLocals = mkF m 0 #[.val (.int p0), .val (.int p1), .val (.int p2), .val (.int p3), .val (.int p4), .val (.int p5), .unset, .unset, .unset, .unset] [] := by first | (simp [entryFrame, mkF, argsToLocals, Value.category, maxLocals]; done) | rfl
def Q0 (n0 : Nat) (v : Option Value) (h : Heap) (L : List Loc) : Prop := v = some (.int 1) ∧ Fr n0 L
set_option maxRecDepth 65536 in
set_option maxHeartbeats 40000000 in
theorem rm0 (l : Launch) (Z : State) (aw : Array Value) (hw : ∀ d ∈ tables_1, d.before aw Z = true) (ws : List Jvm.Cond) (p0 : Int32) (p1 : Int32) (p2 : Int32) (p3 : Int32) (p4 : Int32) (p5 : Int32) (h0 : Heap) (n0 : Nat) (Z0 : n0 ≤ h0.size) :
    MetFree l x (head1 (Jvm.Cond.code x code maxLocals ret :: ws) room_1) (fun a U => a = #[(.int p0), (.int p1), (.int p2), (.int p3), (.int p4), (.int p5)] ∧ Z.Warmed39 U.vm ∧ U.heap = h0) (fun _ _ _ _ _ => True) (fun _ U o U' => ∃ v L, o = .returned v ∧ Q0 n0 v U'.heap L ∧ FrameEnd U o U' L 16 192) := by
  refine MetFree.of_bodySF (plainFor_of_name pn_2) hisR ?_
  intro p e s m args below meth c s₁ Bd hml0 hP _hKK
  obtain ⟨rfl, hZ, hh⟩ := hP
  have hx := Bd.exec
  have hby := Bd.bytes
  have hml : c.maxLocals = 10 := hml0
  have hown : s.vm.findClass "com/example/sarutahiko/sarutahiko/simulation/CellSetAddPinLaw" = some m.cls := findClass_of_methodNamed Bd.named
  have hnm := (name_of_methodNamed Bd.named Bd.method).1
  have X0 : Stand p l e room_1 s m #[(.int p0), (.int p1), (.int p2), (.int p3), (.int p4), (.int p5)] below meth c s₁ [] 0 0 := Stand.of_body Bd
  have e0 : s₁.heap = h0 := by rw [← hh, Bd.state]; rfl
  refine Ow.enter (Q := Q0 n0) (ef_0 m p0 p1 p2 p3 p4 p5) ?_
  show Ow p e below s _ _ _ (s₁.setTop (mkF m 0 #[.val (.int p0), .val (.int p1), .val (.int p2), .val (.int p3), .val (.int p4), .val (.int p5), .unset, .unset, .unset, .unset] []))
  refine w_bipush X0 hx (9 : Int32) (Jvm.hb hby at_0) (by decide) (pc' := 2) rfl ?_
  refine w_newarray X0 hx hZ (hw _ (List.mem_of_getElem? (i := 0) rfl)) e0 (Jvm.hb hby at_2) (by decide) (cap := 9) (by decide) (by decide) (by decide) (by decide) (ad := "[I") (by decide) (pc' := 4) rfl ?_
  intro T54 h54 a54 c54 g54 X54 e54 E54 A54 B54
  have V54 : IAr Z h54 a54 .int 9 (fun _ => 0) := IAr.new A54 rfl (by decide)
  have GC : n0 ≤ a54 := Nat.le_trans Z0 (Nat.le_of_eq g54.symm)
  refine w_astore X54 hx (Jvm.hb hby at_4) #[.val (.int p0), .val (.int p1), .val (.int p2), .val (.int p3), .val (.int p4), .val (.int p5), .val (.ref a54), .unset, .unset, .unset] rfl rfl (pc' := 6) rfl ?_
  refine w_aload X54 hx (Jvm.hb hby at_6) rfl rfl (pc' := 8) rfl ?_
  refine w_iconst X54 hx (0 : Int32) (Jvm.hb hby at_8) (by decide) (pc' := 9) rfl ?_
  refine w_iloadN X54 hx (Jvm.hb hby at_9) rfl (pc' := 10) rfl ?_
  refine w_ldcI X54 hx hZ hown (hw _ (List.mem_of_getElem? (i := 1) rfl)) (Jvm.hb hby at_10) (pc' := 12) rfl ?_
  refine w_iand X54 hx (Jvm.hb hby at_12) (pc' := 13) rfl ?_
  refine w_iastoreA X54 hx hZ e54 V54 0 (by decide) (by decide) (Jvm.hb hby at_13) (pc' := 14) rfl ?_
  intro T55 h55 X55 e55 W55 V55
  have N55 := Fr.snoc X55 (Fr.nil n0) GC
  refine w_aload X55 hx (Jvm.hb hby at_14) rfl rfl (pc' := 16) rfl ?_
  refine w_iconst X55 hx (1 : Int32) (Jvm.hb hby at_16) (by decide) (pc' := 17) rfl ?_
  refine w_iloadN X55 hx (Jvm.hb hby at_17) rfl (pc' := 18) rfl ?_
  refine w_ldcI X55 hx hZ hown (hw _ (List.mem_of_getElem? (i := 1) rfl)) (Jvm.hb hby at_18) (pc' := 20) rfl ?_
  refine w_iand X55 hx (Jvm.hb hby at_20) (pc' := 21) rfl ?_
  refine w_iastoreA X55 hx hZ e55 V55 1 (by decide) (by decide) (Jvm.hb hby at_21) (pc' := 22) rfl ?_
  intro T56 h56 X56 e56 W56 V56
  have N56 := Fr.snoc X56 N55 GC
  refine w_aload X56 hx (Jvm.hb hby at_22) rfl rfl (pc' := 24) rfl ?_
  refine w_iconst X56 hx (2 : Int32) (Jvm.hb hby at_24) (by decide) (pc' := 25) rfl ?_
  refine w_iloadN X56 hx (Jvm.hb hby at_25) rfl (pc' := 26) rfl ?_
  refine w_ldcI X56 hx hZ hown (hw _ (List.mem_of_getElem? (i := 1) rfl)) (Jvm.hb hby at_26) (pc' := 28) rfl ?_
  refine w_iand X56 hx (Jvm.hb hby at_28) (pc' := 29) rfl ?_
  refine w_iastoreA X56 hx hZ e56 V56 2 (by decide) (by decide) (Jvm.hb hby at_29) (pc' := 30) rfl ?_
  intro T57 h57 X57 e57 W57 V57
  have N57 := Fr.snoc X57 N56 GC
  refine w_aload X57 hx (Jvm.hb hby at_30) rfl rfl (pc' := 32) rfl ?_
  refine w_iconst X57 hx (3 : Int32) (Jvm.hb hby at_32) (by decide) (pc' := 33) rfl ?_
  refine w_iloadN X57 hx (Jvm.hb hby at_33) rfl (pc' := 34) rfl ?_
  refine w_ldcI X57 hx hZ hown (hw _ (List.mem_of_getElem? (i := 1) rfl)) (Jvm.hb hby at_34) (pc' := 36) rfl ?_
  refine w_iand X57 hx (Jvm.hb hby at_36) (pc' := 37) rfl ?_
  refine w_iastoreA X57 hx hZ e57 V57 3 (by decide) (by decide) (Jvm.hb hby at_37) (pc' := 38) rfl ?_
  intro T58 h58 X58 e58 W58 V58
  have N58 := Fr.snoc X58 N57 GC
  refine w_aload X58 hx (Jvm.hb hby at_38) rfl rfl (pc' := 40) rfl ?_
  refine w_iconst X58 hx (4 : Int32) (Jvm.hb hby at_40) (by decide) (pc' := 41) rfl ?_
  refine w_iload X58 hx (Jvm.hb hby at_41) rfl (pc' := 43) rfl ?_
  refine w_ldcI X58 hx hZ hown (hw _ (List.mem_of_getElem? (i := 1) rfl)) (Jvm.hb hby at_43) (pc' := 45) rfl ?_
  refine w_iand X58 hx (Jvm.hb hby at_45) (pc' := 46) rfl ?_
  refine w_iastoreA X58 hx hZ e58 V58 4 (by decide) (by decide) (Jvm.hb hby at_46) (pc' := 47) rfl ?_
  intro T59 h59 X59 e59 W59 V59
  have N59 := Fr.snoc X59 N58 GC
  refine w_aload X59 hx (Jvm.hb hby at_47) rfl rfl (pc' := 49) rfl ?_
  refine w_iconst X59 hx (5 : Int32) (Jvm.hb hby at_49) (by decide) (pc' := 50) rfl ?_
  refine w_iloadN X59 hx (Jvm.hb hby at_50) rfl (pc' := 51) rfl ?_
  refine w_iload X59 hx (Jvm.hb hby at_51) rfl (pc' := 53) rfl ?_
  refine w_ixor X59 hx (Jvm.hb hby at_53) (pc' := 54) rfl ?_
  refine w_ldcI X59 hx hZ hown (hw _ (List.mem_of_getElem? (i := 1) rfl)) (Jvm.hb hby at_54) (pc' := 56) rfl ?_
  refine w_iand X59 hx (Jvm.hb hby at_56) (pc' := 57) rfl ?_
  refine w_iastoreA X59 hx hZ e59 V59 5 (by decide) (by decide) (Jvm.hb hby at_57) (pc' := 58) rfl ?_
  intro T60 h60 X60 e60 W60 V60
  have N60 := Fr.snoc X60 N59 GC
  refine w_aload X60 hx (Jvm.hb hby at_58) rfl rfl (pc' := 60) rfl ?_
  refine w_bipush X60 hx (6 : Int32) (Jvm.hb hby at_60) (by decide) (pc' := 62) rfl ?_
  refine w_iloadN X60 hx (Jvm.hb hby at_62) rfl (pc' := 63) rfl ?_
  refine w_iload X60 hx (Jvm.hb hby at_63) rfl (pc' := 65) rfl ?_
  refine w_ixor X60 hx (Jvm.hb hby at_65) (pc' := 66) rfl ?_
  refine w_ldcI X60 hx hZ hown (hw _ (List.mem_of_getElem? (i := 1) rfl)) (Jvm.hb hby at_66) (pc' := 68) rfl ?_
  refine w_iand X60 hx (Jvm.hb hby at_68) (pc' := 69) rfl ?_
  refine w_iastoreA X60 hx hZ e60 V60 6 (by decide) (by decide) (Jvm.hb hby at_69) (pc' := 70) rfl ?_
  intro T61 h61 X61 e61 W61 V61
  have N61 := Fr.snoc X61 N60 GC
  refine w_aload X61 hx (Jvm.hb hby at_70) rfl rfl (pc' := 72) rfl ?_
  refine w_bipush X61 hx (7 : Int32) (Jvm.hb hby at_72) (by decide) (pc' := 74) rfl ?_
  refine w_iloadN X61 hx (Jvm.hb hby at_74) rfl (pc' := 75) rfl ?_
  refine w_iload X61 hx (Jvm.hb hby at_75) rfl (pc' := 77) rfl ?_
  refine w_ixor X61 hx (Jvm.hb hby at_77) (pc' := 78) rfl ?_
  refine w_ldcI X61 hx hZ hown (hw _ (List.mem_of_getElem? (i := 1) rfl)) (Jvm.hb hby at_78) (pc' := 80) rfl ?_
  refine w_iand X61 hx (Jvm.hb hby at_80) (pc' := 81) rfl ?_
  refine w_iastoreA X61 hx hZ e61 V61 7 (by decide) (by decide) (Jvm.hb hby at_81) (pc' := 82) rfl ?_
  intro T62 h62 X62 e62 W62 V62
  have N62 := Fr.snoc X62 N61 GC
  refine w_aload X62 hx (Jvm.hb hby at_82) rfl rfl (pc' := 84) rfl ?_
  refine w_bipush X62 hx (8 : Int32) (Jvm.hb hby at_84) (by decide) (pc' := 86) rfl ?_
  refine w_iloadN X62 hx (Jvm.hb hby at_86) rfl (pc' := 87) rfl ?_
  refine w_iload X62 hx (Jvm.hb hby at_87) rfl (pc' := 89) rfl ?_
  refine w_ixor X62 hx (Jvm.hb hby at_89) (pc' := 90) rfl ?_
  refine w_ldcI X62 hx hZ hown (hw _ (List.mem_of_getElem? (i := 1) rfl)) (Jvm.hb hby at_90) (pc' := 92) rfl ?_
  refine w_iand X62 hx (Jvm.hb hby at_92) (pc' := 93) rfl ?_
  refine w_iastoreA X62 hx hZ e62 V62 8 (by decide) (by decide) (Jvm.hb hby at_93) (pc' := 94) rfl ?_
  intro T63 h63 X63 e63 W63 V63
  have N63 := Fr.snoc X63 N62 GC
  obtain ⟨cf, VC, hcf⟩ : ∃ f, IAr Z h63 a54 .int 9 f ∧ ∀ i, i < 9 → ¬ f i = (-1 : Int32) := ⟨_, V63, own_pos9 p0 p1 p2 p3 p4 p5⟩
  have S0 : n0 ≤ h63.size := Nat.le_trans GC (Nat.le_of_lt VC.lt)
  refine w_iload X63 hx (Jvm.hb hby at_94) rfl (pc' := 96) rfl ?_
  refine w_iconst X63 hx (4 : Int32) (Jvm.hb hby at_96) (by decide) (pc' := 97) rfl ?_
  refine w_iushr X63 hx (Jvm.hb hby at_97) (pc' := 98) rfl ?_
  refine w_ldcI X63 hx hZ hown (hw _ (List.mem_of_getElem? (i := 2) rfl)) (Jvm.hb hby at_98) (pc' := 100) rfl ?_
  refine w_iand X63 hx (Jvm.hb hby at_100) (pc' := 101) rfl ?_
  refine w_bipush X63 hx (9 : Int32) (Jvm.hb hby at_101) (by decide) (pc' := 103) rfl ?_
  refine w_irem X63 hx (Jvm.hb hby at_103) (by decide) (pc' := 104) rfl ?_
  refine w_istore X63 hx (Jvm.hb hby at_104) #[.val (.int p0), .val (.int p1), .val (.int p2), .val (.int p3), .val (.int p4), .val (.int p5), .val (.ref a54), .val (.int (((lsr32 p5 (4 : Int32)) &&& (65535 : Int32)) % (9 : Int32))), .unset, .unset] rfl  (pc' := 106) rfl ?_
  obtain ⟨jx, hjx, hj9⟩ := own_jx p5
  generalize hjv : (((lsr32 p5 (4 : Int32)) &&& (65535 : Int32)) % (9 : Int32)) = jv at hjx ⊢
  show Ow p e below s _ _ _ (T63.setTop (mkF m 106 #[.val (.int p0), .val (.int p1), .val (.int p2), .val (.int p3), .val (.int p4), .val (.int p5), .val (.ref a54), .val (.int jv), .unset, .unset] []))
  refine w_new X63 hx hZ hown (hw _ (List.mem_of_getElem? (i := 3) rfl)) (hw _ (List.mem_of_getElem? (i := 4) rfl)) (hw _ (List.mem_of_getElem? (i := 5) rfl)) e63 (Jvm.hb hby at_106) (by decide) (by decide) (pc' := 109) rfl ?_
  intro T64 h64 a64 g64 X64 e64 E64 A64 D64
  have F0 : Fld Z h64 a64 "com/example/sarutahiko/sarutahiko/simulation/CellSet" "slots" "[I" .null := D64 (Or.inl (hw _ (List.mem_of_getElem? (i := 20) rfl))) (ty := .array .int) (by decide)
  have F0s : Fld Z h64 a64 "com/example/sarutahiko/sarutahiko/simulation/CellSet" "size" "I" (.int (0 : Int32)) := D64 (Or.inl (hw _ (List.mem_of_getElem? (i := 31) rfl))) (ty := .int) (by decide)
  have G : n0 ≤ a64 := Nat.le_trans S0 (Nat.le_of_eq g64.symm)
  have S1 : n0 ≤ h64.size := Nat.le_trans S0 E64.1
  have nec : a54 ≠ a64 := by rw [g64]; exact Nat.ne_of_lt VC.lt
  have VC1 := VC.ext E64
  refine w_dup X64 hx (Jvm.hb hby at_109) rfl (pc' := 110) rfl ?_
  refine w_callN X64 hx hZ rfl hown (hw _ (List.mem_of_getElem? (i := 6) rfl)) (hw _ (List.mem_of_getElem? (i := 7) rfl)) (hw _ (List.mem_of_getElem? (i := 5) rfl)) (hw _ (List.mem_of_getElem? (i := 8) rfl)) (by decide) (W := 1) (rm1 l Z aw hw [] a64 h64 n0 S1 F0 F0s A64 G) e64 (by decide) (by decide) (by decide) (by decide) (Jvm.hb hby at_110) (by rw [hml]; rfl) (a := a64) (argsL := []) (rest := [(.ref a64)]) pd_3 rfl rfl rfl (Nat.le_of_eq rfl) (pc' := 113) rfl ?_
  rintro _ T65 L65 X65 ⟨b65, rfl, N65, gb65, hb65, ne65, K65, F65, Fs65, V65⟩
  show Ow p e below s _ _ _ (T65.setTop (mkF m 113 #[.val (.int p0), .val (.int p1), .val (.int p2), .val (.int p3), .val (.int p4), .val (.int p5), .val (.ref a54), .val (.int jv), .unset, .unset] [(.ref a64)]))
  have E65 := A64.keep K65
  have VC2 := VC1.keep K65 (ninS nec nin0)
  have S65' : n0 ≤ T65.heap.size := Nat.le_trans S1 K65.1
  have M65 := Fr.app N63 N65
  have neb65 : a54 ≠ b65 := Nat.ne_of_lt (Nat.lt_of_lt_of_le VC1.lt hb65)
  have TT0 : Tab (fun _ => (-1 : Int32)) 16 (own_S cf 0) 0 := (own_empty 16).congr (own_S0 cf) (Nat.le_refl _)
  refine w_astore X65 hx (Jvm.hb hby at_113) #[.val (.int p0), .val (.int p1), .val (.int p2), .val (.int p3), .val (.int p4), .val (.int p5), .val (.ref a54), .val (.int jv), .val (.ref a64), .unset] rfl rfl (pc' := 115) rfl ?_
  refine w_iconst X65 hx (1 : Int32) (Jvm.hb hby at_115) (by decide) (pc' := 116) rfl ?_
  refine w_istore X65 hx (Jvm.hb hby at_116) #[.val (.int p0), .val (.int p1), .val (.int p2), .val (.int p3), .val (.int p4), .val (.int p5), .val (.ref a54), .val (.int jv), .val (.ref a64), .val (.int (1 : Int32))] rfl  (pc' := 118) rfl ?_
  refine w_iload X65 hx (Jvm.hb hby at_118) rfl (pc' := 120) rfl ?_
  refine w_aload X65 hx (Jvm.hb hby at_120) rfl rfl (pc' := 122) rfl ?_
  refine w_aload X65 hx (Jvm.hb hby at_122) rfl rfl (pc' := 124) rfl ?_
  refine w_iconst X65 hx (0 : Int32) (Jvm.hb hby at_124) (by decide) (pc' := 125) rfl ?_
  refine w_ialoadA X65 hx hZ rfl VC2 0 (by decide) (by decide) (Jvm.hb hby at_125) (pc' := 126) rfl ?_
  obtain ⟨d0, hd0⟩ := own_hit (Or.inl rfl) TT0 (by decide) (cf 0)
  refine w_callV X65 hx hZ hown (hw _ (List.mem_of_getElem? (i := 21) rfl)) (hw _ (List.mem_of_getElem? (i := 22) rfl)) (notFace_of_selects (args := #[]) (mvT hZ (hw _ (List.mem_of_getElem? (i := 24) rfl)))) (hw _ (List.mem_of_getElem? (i := 24) rfl)) (hw _ (List.mem_of_getElem? (i := 23) rfl)) (hw _ (List.mem_of_getElem? (i := 5) rfl)) (hw _ (List.mem_of_getElem? (i := 25) rfl)) (by decide) (W := 1) (rm5a l Z aw hw [] a64 (cf 0) b65 16 (fun _ => (-1 : Int32)) (0 : Int32) 0 (own_S cf 0) 0 d0 T65.heap n0 S65' F65 Fs65 E65 V65 ne65 G gb65 (Or.inl rfl) (by decide) (Nat.le_trans (Nat.le_refl 0) (by decide)) (hcf 0 (by decide)) TT0 hd0 (Or.inr (by have := (Nat.le_refl 0); omega))) rfl (by decide) (by decide) (by decide) (by decide) E65 (Jvm.hb hby at_126) (by rw [hml]; rfl) (argsL := [(.int (cf 0))]) (rest := [(.int (1 : Int32))]) pd_4 rfl rfl rfl (Nat.le_of_eq rfl) (pc' := 129) rfl ?_
  rintro _ T66 L66 X66 ⟨vb66, kz66, f66, k66, rfl, N66, hv66, K66, F66, Fs66, hk66, kl66, V66, TA66⟩
  show Ow p e below s _ _ _ (T66.setTop (mkF m 129 #[.val (.int p0), .val (.int p1), .val (.int p2), .val (.int p3), .val (.int p4), .val (.int p5), .val (.ref a54), .val (.int jv), .val (.ref a64), .val (.int (1 : Int32))] [(.int vb66), (.int (1 : Int32))]))
  have kle66 : k66 ≤ 1 := Nat.le_trans kl66 (Nat.succ_le_succ (Nat.le_refl 0))
  have E66' := E65.keep K66
  have VC66 := VC2.keep K66 (ninS nec (ninS neb65 nin0))
  have S66' : n0 ≤ T66.heap.size := Nat.le_trans S65' K66.1
  have M66 := Fr.app M65 N66
  have TT1 : Tab f66 16 (own_S cf 1) 1 := TA66.congr (own_Ss cf 0) (Nat.le_refl _)
  refine w_aload X66 hx (Jvm.hb hby at_129) rfl rfl (pc' := 131) rfl ?_
  refine w_iconst X66 hx (0 : Int32) (Jvm.hb hby at_131) (by decide) (pc' := 132) rfl ?_
  refine w_callS X66 hx hZ hown (hw _ (List.mem_of_getElem? (i := 32) rfl)) (hw _ (List.mem_of_getElem? (i := 33) rfl)) (hw _ (List.mem_of_getElem? (i := 34) rfl)) (hw _ (List.mem_of_getElem? (i := 35) rfl)) (by decide) (W := 2) (rm7_0 l Z aw hw [] a54 cf T66.heap VC66) rfl (by decide) (by decide) (by decide) (by decide) (Jvm.hb hby at_132) (by rw [hml]; rfl) (argsL := [(.ref a54), (.int (0 : Int32))]) (rest := [(.int vb66), (.int (1 : Int32))]) pd_5 rfl rfl rfl (Nat.le_of_eq rfl) (pc' := 135) rfl ?_
  rintro _ T67 L67 X67 ⟨vf67, rfl, hf67, e67, rfl⟩
  show Ow p e below s _ _ _ (T67.setTop (mkF m 135 #[.val (.int p0), .val (.int p1), .val (.int p2), .val (.int p3), .val (.int p4), .val (.int p5), .val (.ref a54), .val (.int jv), .val (.ref a64), .val (.int (1 : Int32))] [(.int vf67), (.int vb66), (.int (1 : Int32))]))
  refine w_icmp_ne X67 hx (Jvm.hb hby at_135) (by decide) (pcT := 142) (by decide) (pcF := 138) rfl (fun q => absurd (own_eqv hv66 hf67) q) (fun _ => ?_)
  refine w_iconst X67 hx (1 : Int32) (Jvm.hb hby at_138) (by decide) (pc' := 139) rfl ?_
  refine w_goto X67 hx (Jvm.hb hby at_139) (by decide) (pc' := 143) (by decide) ?_
  refine w_iand X67 hx (Jvm.hb hby at_143) (pc' := 144) rfl ?_
  rw [show ((1 : Int32) &&& (1 : Int32)) = 1 from by decide]
  show Ow p e below s _ _ _ (T67.setTop (mkF m 144 #[.val (.int p0), .val (.int p1), .val (.int p2), .val (.int p3), .val (.int p4), .val (.int p5), .val (.ref a54), .val (.int jv), .val (.ref a64), .val (.int (1 : Int32))] [(.int (1 : Int32))]))
  refine w_istore X67 hx (Jvm.hb hby at_144) #[.val (.int p0), .val (.int p1), .val (.int p2), .val (.int p3), .val (.int p4), .val (.int p5), .val (.ref a54), .val (.int jv), .val (.ref a64), .val (.int (1 : Int32))] rfl  (pc' := 146) rfl ?_
  refine w_iload X67 hx (Jvm.hb hby at_146) rfl (pc' := 148) rfl ?_
  refine w_aload X67 hx (Jvm.hb hby at_148) rfl rfl (pc' := 150) rfl ?_
  refine w_aload X67 hx (Jvm.hb hby at_150) rfl rfl (pc' := 152) rfl ?_
  refine w_iconst X67 hx (1 : Int32) (Jvm.hb hby at_152) (by decide) (pc' := 153) rfl ?_
  refine w_ialoadA X67 hx hZ e67 VC66 1 (by decide) (by decide) (Jvm.hb hby at_153) (pc' := 154) rfl ?_
  obtain ⟨d1, hd1⟩ := own_hit (Or.inl rfl) TT1 (by decide) (cf 1)
  refine w_callV X67 hx hZ hown (hw _ (List.mem_of_getElem? (i := 21) rfl)) (hw _ (List.mem_of_getElem? (i := 22) rfl)) (notFace_of_selects (args := #[]) (mvT hZ (hw _ (List.mem_of_getElem? (i := 24) rfl)))) (hw _ (List.mem_of_getElem? (i := 24) rfl)) (hw _ (List.mem_of_getElem? (i := 23) rfl)) (hw _ (List.mem_of_getElem? (i := 5) rfl)) (hw _ (List.mem_of_getElem? (i := 25) rfl)) (by decide) (W := 1) (rm5a l Z aw hw [] a64 (cf 1) b65 16 f66 kz66 k66 (own_S cf 1) 1 d1 T66.heap n0 S66' F66 Fs66 E66' V66 ne65 G gb65 (Or.inl rfl) hk66 (Nat.le_trans kle66 (by decide)) (hcf 1 (by decide)) TT1 hd1 (Or.inr (by have := kle66; omega))) e67 (by decide) (by decide) (by decide) (by decide) E66' (Jvm.hb hby at_154) (by rw [hml]; rfl) (argsL := [(.int (cf 1))]) (rest := [(.int (1 : Int32))]) pd_4 rfl rfl rfl (Nat.le_of_eq rfl) (pc' := 157) rfl ?_
  rintro _ T68 L68 X68 ⟨vb68, kz68, f68, k68, rfl, N68, hv68, K68, F68, Fs68, hk68, kl68, V68, TA68⟩
  show Ow p e below s _ _ _ (T68.setTop (mkF m 157 #[.val (.int p0), .val (.int p1), .val (.int p2), .val (.int p3), .val (.int p4), .val (.int p5), .val (.ref a54), .val (.int jv), .val (.ref a64), .val (.int (1 : Int32))] [(.int vb68), (.int (1 : Int32))]))
  have kle68 : k68 ≤ 2 := Nat.le_trans kl68 (Nat.succ_le_succ kle66)
  have E68' := E66'.keep K68
  have VC68 := VC66.keep K68 (ninS nec (ninS neb65 nin0))
  have S68' : n0 ≤ T68.heap.size := Nat.le_trans S66' K68.1
  have M68 := Fr.app M66 N68
  have TT2 : Tab f68 16 (own_S cf 2) 2 := TA68.congr (own_Ss cf 1) (Nat.le_refl _)
  refine w_aload X68 hx (Jvm.hb hby at_157) rfl rfl (pc' := 159) rfl ?_
  refine w_iconst X68 hx (1 : Int32) (Jvm.hb hby at_159) (by decide) (pc' := 160) rfl ?_
  refine w_callS X68 hx hZ hown (hw _ (List.mem_of_getElem? (i := 32) rfl)) (hw _ (List.mem_of_getElem? (i := 33) rfl)) (hw _ (List.mem_of_getElem? (i := 34) rfl)) (hw _ (List.mem_of_getElem? (i := 35) rfl)) (by decide) (W := 2) (rm7_1 l Z aw hw [] a54 cf T68.heap VC68) rfl (by decide) (by decide) (by decide) (by decide) (Jvm.hb hby at_160) (by rw [hml]; rfl) (argsL := [(.ref a54), (.int (1 : Int32))]) (rest := [(.int vb68), (.int (1 : Int32))]) pd_5 rfl rfl rfl (Nat.le_of_eq rfl) (pc' := 163) rfl ?_
  rintro _ T69 L69 X69 ⟨vf69, rfl, hf69, e69, rfl⟩
  show Ow p e below s _ _ _ (T69.setTop (mkF m 163 #[.val (.int p0), .val (.int p1), .val (.int p2), .val (.int p3), .val (.int p4), .val (.int p5), .val (.ref a54), .val (.int jv), .val (.ref a64), .val (.int (1 : Int32))] [(.int vf69), (.int vb68), (.int (1 : Int32))]))
  refine w_icmp_ne X69 hx (Jvm.hb hby at_163) (by decide) (pcT := 170) (by decide) (pcF := 166) rfl (fun q => absurd (own_eqv hv68 hf69) q) (fun _ => ?_)
  refine w_iconst X69 hx (1 : Int32) (Jvm.hb hby at_166) (by decide) (pc' := 167) rfl ?_
  refine w_goto X69 hx (Jvm.hb hby at_167) (by decide) (pc' := 171) (by decide) ?_
  refine w_iand X69 hx (Jvm.hb hby at_171) (pc' := 172) rfl ?_
  rw [show ((1 : Int32) &&& (1 : Int32)) = 1 from by decide]
  show Ow p e below s _ _ _ (T69.setTop (mkF m 172 #[.val (.int p0), .val (.int p1), .val (.int p2), .val (.int p3), .val (.int p4), .val (.int p5), .val (.ref a54), .val (.int jv), .val (.ref a64), .val (.int (1 : Int32))] [(.int (1 : Int32))]))
  refine w_istore X69 hx (Jvm.hb hby at_172) #[.val (.int p0), .val (.int p1), .val (.int p2), .val (.int p3), .val (.int p4), .val (.int p5), .val (.ref a54), .val (.int jv), .val (.ref a64), .val (.int (1 : Int32))] rfl  (pc' := 174) rfl ?_
  refine w_iload X69 hx (Jvm.hb hby at_174) rfl (pc' := 176) rfl ?_
  refine w_aload X69 hx (Jvm.hb hby at_176) rfl rfl (pc' := 178) rfl ?_
  refine w_aload X69 hx (Jvm.hb hby at_178) rfl rfl (pc' := 180) rfl ?_
  refine w_iconst X69 hx (2 : Int32) (Jvm.hb hby at_180) (by decide) (pc' := 181) rfl ?_
  refine w_ialoadA X69 hx hZ e69 VC68 2 (by decide) (by decide) (Jvm.hb hby at_181) (pc' := 182) rfl ?_
  obtain ⟨d2, hd2⟩ := own_hit (Or.inl rfl) TT2 (by decide) (cf 2)
  refine w_callV X69 hx hZ hown (hw _ (List.mem_of_getElem? (i := 21) rfl)) (hw _ (List.mem_of_getElem? (i := 22) rfl)) (notFace_of_selects (args := #[]) (mvT hZ (hw _ (List.mem_of_getElem? (i := 24) rfl)))) (hw _ (List.mem_of_getElem? (i := 24) rfl)) (hw _ (List.mem_of_getElem? (i := 23) rfl)) (hw _ (List.mem_of_getElem? (i := 5) rfl)) (hw _ (List.mem_of_getElem? (i := 25) rfl)) (by decide) (W := 1) (rm5a l Z aw hw [] a64 (cf 2) b65 16 f68 kz68 k68 (own_S cf 2) 2 d2 T68.heap n0 S68' F68 Fs68 E68' V68 ne65 G gb65 (Or.inl rfl) hk68 (Nat.le_trans kle68 (by decide)) (hcf 2 (by decide)) TT2 hd2 (Or.inr (by have := kle68; omega))) e69 (by decide) (by decide) (by decide) (by decide) E68' (Jvm.hb hby at_182) (by rw [hml]; rfl) (argsL := [(.int (cf 2))]) (rest := [(.int (1 : Int32))]) pd_4 rfl rfl rfl (Nat.le_of_eq rfl) (pc' := 185) rfl ?_
  rintro _ T70 L70 X70 ⟨vb70, kz70, f70, k70, rfl, N70, hv70, K70, F70, Fs70, hk70, kl70, V70, TA70⟩
  show Ow p e below s _ _ _ (T70.setTop (mkF m 185 #[.val (.int p0), .val (.int p1), .val (.int p2), .val (.int p3), .val (.int p4), .val (.int p5), .val (.ref a54), .val (.int jv), .val (.ref a64), .val (.int (1 : Int32))] [(.int vb70), (.int (1 : Int32))]))
  have kle70 : k70 ≤ 3 := Nat.le_trans kl70 (Nat.succ_le_succ kle68)
  have E70' := E68'.keep K70
  have VC70 := VC68.keep K70 (ninS nec (ninS neb65 nin0))
  have S70' : n0 ≤ T70.heap.size := Nat.le_trans S68' K70.1
  have M70 := Fr.app M68 N70
  have TT3 : Tab f70 16 (own_S cf 3) 3 := TA70.congr (own_Ss cf 2) (Nat.le_refl _)
  refine w_aload X70 hx (Jvm.hb hby at_185) rfl rfl (pc' := 187) rfl ?_
  refine w_iconst X70 hx (2 : Int32) (Jvm.hb hby at_187) (by decide) (pc' := 188) rfl ?_
  refine w_callS X70 hx hZ hown (hw _ (List.mem_of_getElem? (i := 32) rfl)) (hw _ (List.mem_of_getElem? (i := 33) rfl)) (hw _ (List.mem_of_getElem? (i := 34) rfl)) (hw _ (List.mem_of_getElem? (i := 35) rfl)) (by decide) (W := 2) (rm7_2 l Z aw hw [] a54 cf T70.heap VC70) rfl (by decide) (by decide) (by decide) (by decide) (Jvm.hb hby at_188) (by rw [hml]; rfl) (argsL := [(.ref a54), (.int (2 : Int32))]) (rest := [(.int vb70), (.int (1 : Int32))]) pd_5 rfl rfl rfl (Nat.le_of_eq rfl) (pc' := 191) rfl ?_
  rintro _ T71 L71 X71 ⟨vf71, rfl, hf71, e71, rfl⟩
  show Ow p e below s _ _ _ (T71.setTop (mkF m 191 #[.val (.int p0), .val (.int p1), .val (.int p2), .val (.int p3), .val (.int p4), .val (.int p5), .val (.ref a54), .val (.int jv), .val (.ref a64), .val (.int (1 : Int32))] [(.int vf71), (.int vb70), (.int (1 : Int32))]))
  refine w_icmp_ne X71 hx (Jvm.hb hby at_191) (by decide) (pcT := 198) (by decide) (pcF := 194) rfl (fun q => absurd (own_eqv hv70 hf71) q) (fun _ => ?_)
  refine w_iconst X71 hx (1 : Int32) (Jvm.hb hby at_194) (by decide) (pc' := 195) rfl ?_
  refine w_goto X71 hx (Jvm.hb hby at_195) (by decide) (pc' := 199) (by decide) ?_
  refine w_iand X71 hx (Jvm.hb hby at_199) (pc' := 200) rfl ?_
  rw [show ((1 : Int32) &&& (1 : Int32)) = 1 from by decide]
  show Ow p e below s _ _ _ (T71.setTop (mkF m 200 #[.val (.int p0), .val (.int p1), .val (.int p2), .val (.int p3), .val (.int p4), .val (.int p5), .val (.ref a54), .val (.int jv), .val (.ref a64), .val (.int (1 : Int32))] [(.int (1 : Int32))]))
  refine w_istore X71 hx (Jvm.hb hby at_200) #[.val (.int p0), .val (.int p1), .val (.int p2), .val (.int p3), .val (.int p4), .val (.int p5), .val (.ref a54), .val (.int jv), .val (.ref a64), .val (.int (1 : Int32))] rfl  (pc' := 202) rfl ?_
  refine w_iload X71 hx (Jvm.hb hby at_202) rfl (pc' := 204) rfl ?_
  refine w_aload X71 hx (Jvm.hb hby at_204) rfl rfl (pc' := 206) rfl ?_
  refine w_aload X71 hx (Jvm.hb hby at_206) rfl rfl (pc' := 208) rfl ?_
  refine w_iconst X71 hx (3 : Int32) (Jvm.hb hby at_208) (by decide) (pc' := 209) rfl ?_
  refine w_ialoadA X71 hx hZ e71 VC70 3 (by decide) (by decide) (Jvm.hb hby at_209) (pc' := 210) rfl ?_
  obtain ⟨d3, hd3⟩ := own_hit (Or.inl rfl) TT3 (by decide) (cf 3)
  refine w_callV X71 hx hZ hown (hw _ (List.mem_of_getElem? (i := 21) rfl)) (hw _ (List.mem_of_getElem? (i := 22) rfl)) (notFace_of_selects (args := #[]) (mvT hZ (hw _ (List.mem_of_getElem? (i := 24) rfl)))) (hw _ (List.mem_of_getElem? (i := 24) rfl)) (hw _ (List.mem_of_getElem? (i := 23) rfl)) (hw _ (List.mem_of_getElem? (i := 5) rfl)) (hw _ (List.mem_of_getElem? (i := 25) rfl)) (by decide) (W := 1) (rm5a l Z aw hw [] a64 (cf 3) b65 16 f70 kz70 k70 (own_S cf 3) 3 d3 T70.heap n0 S70' F70 Fs70 E70' V70 ne65 G gb65 (Or.inl rfl) hk70 (Nat.le_trans kle70 (by decide)) (hcf 3 (by decide)) TT3 hd3 (Or.inr (by have := kle70; omega))) e71 (by decide) (by decide) (by decide) (by decide) E70' (Jvm.hb hby at_210) (by rw [hml]; rfl) (argsL := [(.int (cf 3))]) (rest := [(.int (1 : Int32))]) pd_4 rfl rfl rfl (Nat.le_of_eq rfl) (pc' := 213) rfl ?_
  rintro _ T72 L72 X72 ⟨vb72, kz72, f72, k72, rfl, N72, hv72, K72, F72, Fs72, hk72, kl72, V72, TA72⟩
  show Ow p e below s _ _ _ (T72.setTop (mkF m 213 #[.val (.int p0), .val (.int p1), .val (.int p2), .val (.int p3), .val (.int p4), .val (.int p5), .val (.ref a54), .val (.int jv), .val (.ref a64), .val (.int (1 : Int32))] [(.int vb72), (.int (1 : Int32))]))
  have kle72 : k72 ≤ 4 := Nat.le_trans kl72 (Nat.succ_le_succ kle70)
  have E72' := E70'.keep K72
  have VC72 := VC70.keep K72 (ninS nec (ninS neb65 nin0))
  have S72' : n0 ≤ T72.heap.size := Nat.le_trans S70' K72.1
  have M72 := Fr.app M70 N72
  have TT4 : Tab f72 16 (own_S cf 4) 4 := TA72.congr (own_Ss cf 3) (Nat.le_refl _)
  refine w_aload X72 hx (Jvm.hb hby at_213) rfl rfl (pc' := 215) rfl ?_
  refine w_iconst X72 hx (3 : Int32) (Jvm.hb hby at_215) (by decide) (pc' := 216) rfl ?_
  refine w_callS X72 hx hZ hown (hw _ (List.mem_of_getElem? (i := 32) rfl)) (hw _ (List.mem_of_getElem? (i := 33) rfl)) (hw _ (List.mem_of_getElem? (i := 34) rfl)) (hw _ (List.mem_of_getElem? (i := 35) rfl)) (by decide) (W := 2) (rm7_3 l Z aw hw [] a54 cf T72.heap VC72) rfl (by decide) (by decide) (by decide) (by decide) (Jvm.hb hby at_216) (by rw [hml]; rfl) (argsL := [(.ref a54), (.int (3 : Int32))]) (rest := [(.int vb72), (.int (1 : Int32))]) pd_5 rfl rfl rfl (Nat.le_of_eq rfl) (pc' := 219) rfl ?_
  rintro _ T73 L73 X73 ⟨vf73, rfl, hf73, e73, rfl⟩
  show Ow p e below s _ _ _ (T73.setTop (mkF m 219 #[.val (.int p0), .val (.int p1), .val (.int p2), .val (.int p3), .val (.int p4), .val (.int p5), .val (.ref a54), .val (.int jv), .val (.ref a64), .val (.int (1 : Int32))] [(.int vf73), (.int vb72), (.int (1 : Int32))]))
  refine w_icmp_ne X73 hx (Jvm.hb hby at_219) (by decide) (pcT := 226) (by decide) (pcF := 222) rfl (fun q => absurd (own_eqv hv72 hf73) q) (fun _ => ?_)
  refine w_iconst X73 hx (1 : Int32) (Jvm.hb hby at_222) (by decide) (pc' := 223) rfl ?_
  refine w_goto X73 hx (Jvm.hb hby at_223) (by decide) (pc' := 227) (by decide) ?_
  refine w_iand X73 hx (Jvm.hb hby at_227) (pc' := 228) rfl ?_
  rw [show ((1 : Int32) &&& (1 : Int32)) = 1 from by decide]
  show Ow p e below s _ _ _ (T73.setTop (mkF m 228 #[.val (.int p0), .val (.int p1), .val (.int p2), .val (.int p3), .val (.int p4), .val (.int p5), .val (.ref a54), .val (.int jv), .val (.ref a64), .val (.int (1 : Int32))] [(.int (1 : Int32))]))
  refine w_istore X73 hx (Jvm.hb hby at_228) #[.val (.int p0), .val (.int p1), .val (.int p2), .val (.int p3), .val (.int p4), .val (.int p5), .val (.ref a54), .val (.int jv), .val (.ref a64), .val (.int (1 : Int32))] rfl  (pc' := 230) rfl ?_
  refine w_iload X73 hx (Jvm.hb hby at_230) rfl (pc' := 232) rfl ?_
  refine w_aload X73 hx (Jvm.hb hby at_232) rfl rfl (pc' := 234) rfl ?_
  refine w_aload X73 hx (Jvm.hb hby at_234) rfl rfl (pc' := 236) rfl ?_
  refine w_iconst X73 hx (4 : Int32) (Jvm.hb hby at_236) (by decide) (pc' := 237) rfl ?_
  refine w_ialoadA X73 hx hZ e73 VC72 4 (by decide) (by decide) (Jvm.hb hby at_237) (pc' := 238) rfl ?_
  obtain ⟨d4, hd4⟩ := own_hit (Or.inl rfl) TT4 (by decide) (cf 4)
  refine w_callV X73 hx hZ hown (hw _ (List.mem_of_getElem? (i := 21) rfl)) (hw _ (List.mem_of_getElem? (i := 22) rfl)) (notFace_of_selects (args := #[]) (mvT hZ (hw _ (List.mem_of_getElem? (i := 24) rfl)))) (hw _ (List.mem_of_getElem? (i := 24) rfl)) (hw _ (List.mem_of_getElem? (i := 23) rfl)) (hw _ (List.mem_of_getElem? (i := 5) rfl)) (hw _ (List.mem_of_getElem? (i := 25) rfl)) (by decide) (W := 1) (rm5a l Z aw hw [] a64 (cf 4) b65 16 f72 kz72 k72 (own_S cf 4) 4 d4 T72.heap n0 S72' F72 Fs72 E72' V72 ne65 G gb65 (Or.inl rfl) hk72 (Nat.le_trans kle72 (by decide)) (hcf 4 (by decide)) TT4 hd4 (Or.inr (by have := kle72; omega))) e73 (by decide) (by decide) (by decide) (by decide) E72' (Jvm.hb hby at_238) (by rw [hml]; rfl) (argsL := [(.int (cf 4))]) (rest := [(.int (1 : Int32))]) pd_4 rfl rfl rfl (Nat.le_of_eq rfl) (pc' := 241) rfl ?_
  rintro _ T74 L74 X74 ⟨vb74, kz74, f74, k74, rfl, N74, hv74, K74, F74, Fs74, hk74, kl74, V74, TA74⟩
  show Ow p e below s _ _ _ (T74.setTop (mkF m 241 #[.val (.int p0), .val (.int p1), .val (.int p2), .val (.int p3), .val (.int p4), .val (.int p5), .val (.ref a54), .val (.int jv), .val (.ref a64), .val (.int (1 : Int32))] [(.int vb74), (.int (1 : Int32))]))
  have kle74 : k74 ≤ 5 := Nat.le_trans kl74 (Nat.succ_le_succ kle72)
  have E74' := E72'.keep K74
  have VC74 := VC72.keep K74 (ninS nec (ninS neb65 nin0))
  have S74' : n0 ≤ T74.heap.size := Nat.le_trans S72' K74.1
  have M74 := Fr.app M72 N74
  have TT5 : Tab f74 16 (own_S cf 5) 5 := TA74.congr (own_Ss cf 4) (Nat.le_refl _)
  refine w_aload X74 hx (Jvm.hb hby at_241) rfl rfl (pc' := 243) rfl ?_
  refine w_iconst X74 hx (4 : Int32) (Jvm.hb hby at_243) (by decide) (pc' := 244) rfl ?_
  refine w_callS X74 hx hZ hown (hw _ (List.mem_of_getElem? (i := 32) rfl)) (hw _ (List.mem_of_getElem? (i := 33) rfl)) (hw _ (List.mem_of_getElem? (i := 34) rfl)) (hw _ (List.mem_of_getElem? (i := 35) rfl)) (by decide) (W := 2) (rm7_4 l Z aw hw [] a54 cf T74.heap VC74) rfl (by decide) (by decide) (by decide) (by decide) (Jvm.hb hby at_244) (by rw [hml]; rfl) (argsL := [(.ref a54), (.int (4 : Int32))]) (rest := [(.int vb74), (.int (1 : Int32))]) pd_5 rfl rfl rfl (Nat.le_of_eq rfl) (pc' := 247) rfl ?_
  rintro _ T75 L75 X75 ⟨vf75, rfl, hf75, e75, rfl⟩
  show Ow p e below s _ _ _ (T75.setTop (mkF m 247 #[.val (.int p0), .val (.int p1), .val (.int p2), .val (.int p3), .val (.int p4), .val (.int p5), .val (.ref a54), .val (.int jv), .val (.ref a64), .val (.int (1 : Int32))] [(.int vf75), (.int vb74), (.int (1 : Int32))]))
  refine w_icmp_ne X75 hx (Jvm.hb hby at_247) (by decide) (pcT := 254) (by decide) (pcF := 250) rfl (fun q => absurd (own_eqv hv74 hf75) q) (fun _ => ?_)
  refine w_iconst X75 hx (1 : Int32) (Jvm.hb hby at_250) (by decide) (pc' := 251) rfl ?_
  refine w_goto X75 hx (Jvm.hb hby at_251) (by decide) (pc' := 255) (by decide) ?_
  refine w_iand X75 hx (Jvm.hb hby at_255) (pc' := 256) rfl ?_
  rw [show ((1 : Int32) &&& (1 : Int32)) = 1 from by decide]
  show Ow p e below s _ _ _ (T75.setTop (mkF m 256 #[.val (.int p0), .val (.int p1), .val (.int p2), .val (.int p3), .val (.int p4), .val (.int p5), .val (.ref a54), .val (.int jv), .val (.ref a64), .val (.int (1 : Int32))] [(.int (1 : Int32))]))
  refine w_istore X75 hx (Jvm.hb hby at_256) #[.val (.int p0), .val (.int p1), .val (.int p2), .val (.int p3), .val (.int p4), .val (.int p5), .val (.ref a54), .val (.int jv), .val (.ref a64), .val (.int (1 : Int32))] rfl  (pc' := 258) rfl ?_
  refine w_iload X75 hx (Jvm.hb hby at_258) rfl (pc' := 260) rfl ?_
  refine w_aload X75 hx (Jvm.hb hby at_260) rfl rfl (pc' := 262) rfl ?_
  refine w_aload X75 hx (Jvm.hb hby at_262) rfl rfl (pc' := 264) rfl ?_
  refine w_iconst X75 hx (5 : Int32) (Jvm.hb hby at_264) (by decide) (pc' := 265) rfl ?_
  refine w_ialoadA X75 hx hZ e75 VC74 5 (by decide) (by decide) (Jvm.hb hby at_265) (pc' := 266) rfl ?_
  obtain ⟨d5, hd5⟩ := own_hit (Or.inl rfl) TT5 (by decide) (cf 5)
  refine w_callV X75 hx hZ hown (hw _ (List.mem_of_getElem? (i := 21) rfl)) (hw _ (List.mem_of_getElem? (i := 22) rfl)) (notFace_of_selects (args := #[]) (mvT hZ (hw _ (List.mem_of_getElem? (i := 24) rfl)))) (hw _ (List.mem_of_getElem? (i := 24) rfl)) (hw _ (List.mem_of_getElem? (i := 23) rfl)) (hw _ (List.mem_of_getElem? (i := 5) rfl)) (hw _ (List.mem_of_getElem? (i := 25) rfl)) (by decide) (W := 1) (rm5a l Z aw hw [] a64 (cf 5) b65 16 f74 kz74 k74 (own_S cf 5) 5 d5 T74.heap n0 S74' F74 Fs74 E74' V74 ne65 G gb65 (Or.inl rfl) hk74 (Nat.le_trans kle74 (by decide)) (hcf 5 (by decide)) TT5 hd5 (Or.inr (by have := kle74; omega))) e75 (by decide) (by decide) (by decide) (by decide) E74' (Jvm.hb hby at_266) (by rw [hml]; rfl) (argsL := [(.int (cf 5))]) (rest := [(.int (1 : Int32))]) pd_4 rfl rfl rfl (Nat.le_of_eq rfl) (pc' := 269) rfl ?_
  rintro _ T76 L76 X76 ⟨vb76, kz76, f76, k76, rfl, N76, hv76, K76, F76, Fs76, hk76, kl76, V76, TA76⟩
  show Ow p e below s _ _ _ (T76.setTop (mkF m 269 #[.val (.int p0), .val (.int p1), .val (.int p2), .val (.int p3), .val (.int p4), .val (.int p5), .val (.ref a54), .val (.int jv), .val (.ref a64), .val (.int (1 : Int32))] [(.int vb76), (.int (1 : Int32))]))
  have kle76 : k76 ≤ 6 := Nat.le_trans kl76 (Nat.succ_le_succ kle74)
  have E76' := E74'.keep K76
  have VC76 := VC74.keep K76 (ninS nec (ninS neb65 nin0))
  have S76' : n0 ≤ T76.heap.size := Nat.le_trans S74' K76.1
  have M76 := Fr.app M74 N76
  have TT6 : Tab f76 16 (own_S cf 6) 6 := TA76.congr (own_Ss cf 5) (Nat.le_refl _)
  refine w_aload X76 hx (Jvm.hb hby at_269) rfl rfl (pc' := 271) rfl ?_
  refine w_iconst X76 hx (5 : Int32) (Jvm.hb hby at_271) (by decide) (pc' := 272) rfl ?_
  refine w_callS X76 hx hZ hown (hw _ (List.mem_of_getElem? (i := 32) rfl)) (hw _ (List.mem_of_getElem? (i := 33) rfl)) (hw _ (List.mem_of_getElem? (i := 34) rfl)) (hw _ (List.mem_of_getElem? (i := 35) rfl)) (by decide) (W := 2) (rm7_5 l Z aw hw [] a54 cf T76.heap VC76) rfl (by decide) (by decide) (by decide) (by decide) (Jvm.hb hby at_272) (by rw [hml]; rfl) (argsL := [(.ref a54), (.int (5 : Int32))]) (rest := [(.int vb76), (.int (1 : Int32))]) pd_5 rfl rfl rfl (Nat.le_of_eq rfl) (pc' := 275) rfl ?_
  rintro _ T77 L77 X77 ⟨vf77, rfl, hf77, e77, rfl⟩
  show Ow p e below s _ _ _ (T77.setTop (mkF m 275 #[.val (.int p0), .val (.int p1), .val (.int p2), .val (.int p3), .val (.int p4), .val (.int p5), .val (.ref a54), .val (.int jv), .val (.ref a64), .val (.int (1 : Int32))] [(.int vf77), (.int vb76), (.int (1 : Int32))]))
  refine w_icmp_ne X77 hx (Jvm.hb hby at_275) (by decide) (pcT := 282) (by decide) (pcF := 278) rfl (fun q => absurd (own_eqv hv76 hf77) q) (fun _ => ?_)
  refine w_iconst X77 hx (1 : Int32) (Jvm.hb hby at_278) (by decide) (pc' := 279) rfl ?_
  refine w_goto X77 hx (Jvm.hb hby at_279) (by decide) (pc' := 283) (by decide) ?_
  refine w_iand X77 hx (Jvm.hb hby at_283) (pc' := 284) rfl ?_
  rw [show ((1 : Int32) &&& (1 : Int32)) = 1 from by decide]
  show Ow p e below s _ _ _ (T77.setTop (mkF m 284 #[.val (.int p0), .val (.int p1), .val (.int p2), .val (.int p3), .val (.int p4), .val (.int p5), .val (.ref a54), .val (.int jv), .val (.ref a64), .val (.int (1 : Int32))] [(.int (1 : Int32))]))
  refine w_istore X77 hx (Jvm.hb hby at_284) #[.val (.int p0), .val (.int p1), .val (.int p2), .val (.int p3), .val (.int p4), .val (.int p5), .val (.ref a54), .val (.int jv), .val (.ref a64), .val (.int (1 : Int32))] rfl  (pc' := 286) rfl ?_
  refine w_iload X77 hx (Jvm.hb hby at_286) rfl (pc' := 288) rfl ?_
  refine w_aload X77 hx (Jvm.hb hby at_288) rfl rfl (pc' := 290) rfl ?_
  refine w_aload X77 hx (Jvm.hb hby at_290) rfl rfl (pc' := 292) rfl ?_
  refine w_bipush X77 hx (6 : Int32) (Jvm.hb hby at_292) (by decide) (pc' := 294) rfl ?_
  refine w_ialoadA X77 hx hZ e77 VC76 6 (by decide) (by decide) (Jvm.hb hby at_294) (pc' := 295) rfl ?_
  obtain ⟨d6, hd6⟩ := own_hit (Or.inl rfl) TT6 (by decide) (cf 6)
  refine w_callV X77 hx hZ hown (hw _ (List.mem_of_getElem? (i := 21) rfl)) (hw _ (List.mem_of_getElem? (i := 22) rfl)) (notFace_of_selects (args := #[]) (mvT hZ (hw _ (List.mem_of_getElem? (i := 24) rfl)))) (hw _ (List.mem_of_getElem? (i := 24) rfl)) (hw _ (List.mem_of_getElem? (i := 23) rfl)) (hw _ (List.mem_of_getElem? (i := 5) rfl)) (hw _ (List.mem_of_getElem? (i := 25) rfl)) (by decide) (W := 1) (rm5a l Z aw hw [] a64 (cf 6) b65 16 f76 kz76 k76 (own_S cf 6) 6 d6 T76.heap n0 S76' F76 Fs76 E76' V76 ne65 G gb65 (Or.inl rfl) hk76 (Nat.le_trans kle76 (by decide)) (hcf 6 (by decide)) TT6 hd6 (Or.inr (by have := kle76; omega))) e77 (by decide) (by decide) (by decide) (by decide) E76' (Jvm.hb hby at_295) (by rw [hml]; rfl) (argsL := [(.int (cf 6))]) (rest := [(.int (1 : Int32))]) pd_4 rfl rfl rfl (Nat.le_of_eq rfl) (pc' := 298) rfl ?_
  rintro _ T78 L78 X78 ⟨vb78, kz78, f78, k78, rfl, N78, hv78, K78, F78, Fs78, hk78, kl78, V78, TA78⟩
  show Ow p e below s _ _ _ (T78.setTop (mkF m 298 #[.val (.int p0), .val (.int p1), .val (.int p2), .val (.int p3), .val (.int p4), .val (.int p5), .val (.ref a54), .val (.int jv), .val (.ref a64), .val (.int (1 : Int32))] [(.int vb78), (.int (1 : Int32))]))
  have kle78 : k78 ≤ 7 := Nat.le_trans kl78 (Nat.succ_le_succ kle76)
  have E78' := E76'.keep K78
  have VC78 := VC76.keep K78 (ninS nec (ninS neb65 nin0))
  have S78' : n0 ≤ T78.heap.size := Nat.le_trans S76' K78.1
  have M78 := Fr.app M76 N78
  have TT7 : Tab f78 16 (own_S cf 7) 7 := TA78.congr (own_Ss cf 6) (Nat.le_refl _)
  refine w_aload X78 hx (Jvm.hb hby at_298) rfl rfl (pc' := 300) rfl ?_
  refine w_bipush X78 hx (6 : Int32) (Jvm.hb hby at_300) (by decide) (pc' := 302) rfl ?_
  refine w_callS X78 hx hZ hown (hw _ (List.mem_of_getElem? (i := 32) rfl)) (hw _ (List.mem_of_getElem? (i := 33) rfl)) (hw _ (List.mem_of_getElem? (i := 34) rfl)) (hw _ (List.mem_of_getElem? (i := 35) rfl)) (by decide) (W := 2) (rm7_6 l Z aw hw [] a54 cf T78.heap VC78) rfl (by decide) (by decide) (by decide) (by decide) (Jvm.hb hby at_302) (by rw [hml]; rfl) (argsL := [(.ref a54), (.int (6 : Int32))]) (rest := [(.int vb78), (.int (1 : Int32))]) pd_5 rfl rfl rfl (Nat.le_of_eq rfl) (pc' := 305) rfl ?_
  rintro _ T79 L79 X79 ⟨vf79, rfl, hf79, e79, rfl⟩
  show Ow p e below s _ _ _ (T79.setTop (mkF m 305 #[.val (.int p0), .val (.int p1), .val (.int p2), .val (.int p3), .val (.int p4), .val (.int p5), .val (.ref a54), .val (.int jv), .val (.ref a64), .val (.int (1 : Int32))] [(.int vf79), (.int vb78), (.int (1 : Int32))]))
  refine w_icmp_ne X79 hx (Jvm.hb hby at_305) (by decide) (pcT := 312) (by decide) (pcF := 308) rfl (fun q => absurd (own_eqv hv78 hf79) q) (fun _ => ?_)
  refine w_iconst X79 hx (1 : Int32) (Jvm.hb hby at_308) (by decide) (pc' := 309) rfl ?_
  refine w_goto X79 hx (Jvm.hb hby at_309) (by decide) (pc' := 313) (by decide) ?_
  refine w_iand X79 hx (Jvm.hb hby at_313) (pc' := 314) rfl ?_
  rw [show ((1 : Int32) &&& (1 : Int32)) = 1 from by decide]
  show Ow p e below s _ _ _ (T79.setTop (mkF m 314 #[.val (.int p0), .val (.int p1), .val (.int p2), .val (.int p3), .val (.int p4), .val (.int p5), .val (.ref a54), .val (.int jv), .val (.ref a64), .val (.int (1 : Int32))] [(.int (1 : Int32))]))
  refine w_istore X79 hx (Jvm.hb hby at_314) #[.val (.int p0), .val (.int p1), .val (.int p2), .val (.int p3), .val (.int p4), .val (.int p5), .val (.ref a54), .val (.int jv), .val (.ref a64), .val (.int (1 : Int32))] rfl  (pc' := 316) rfl ?_
  refine w_iload X79 hx (Jvm.hb hby at_316) rfl (pc' := 318) rfl ?_
  refine w_aload X79 hx (Jvm.hb hby at_318) rfl rfl (pc' := 320) rfl ?_
  refine w_aload X79 hx (Jvm.hb hby at_320) rfl rfl (pc' := 322) rfl ?_
  refine w_bipush X79 hx (7 : Int32) (Jvm.hb hby at_322) (by decide) (pc' := 324) rfl ?_
  refine w_ialoadA X79 hx hZ e79 VC78 7 (by decide) (by decide) (Jvm.hb hby at_324) (pc' := 325) rfl ?_
  obtain ⟨d7, hd7⟩ := own_hit (Or.inl rfl) TT7 (by decide) (cf 7)
  refine w_callV X79 hx hZ hown (hw _ (List.mem_of_getElem? (i := 21) rfl)) (hw _ (List.mem_of_getElem? (i := 22) rfl)) (notFace_of_selects (args := #[]) (mvT hZ (hw _ (List.mem_of_getElem? (i := 24) rfl)))) (hw _ (List.mem_of_getElem? (i := 24) rfl)) (hw _ (List.mem_of_getElem? (i := 23) rfl)) (hw _ (List.mem_of_getElem? (i := 5) rfl)) (hw _ (List.mem_of_getElem? (i := 25) rfl)) (by decide) (W := 1) (rm5a l Z aw hw [] a64 (cf 7) b65 16 f78 kz78 k78 (own_S cf 7) 7 d7 T78.heap n0 S78' F78 Fs78 E78' V78 ne65 G gb65 (Or.inl rfl) hk78 (Nat.le_trans kle78 (by decide)) (hcf 7 (by decide)) TT7 hd7 (Or.inr (by have := kle78; omega))) e79 (by decide) (by decide) (by decide) (by decide) E78' (Jvm.hb hby at_325) (by rw [hml]; rfl) (argsL := [(.int (cf 7))]) (rest := [(.int (1 : Int32))]) pd_4 rfl rfl rfl (Nat.le_of_eq rfl) (pc' := 328) rfl ?_
  rintro _ T80 L80 X80 ⟨vb80, kz80, f80, k80, rfl, N80, hv80, K80, F80, Fs80, hk80, kl80, V80, TA80⟩
  show Ow p e below s _ _ _ (T80.setTop (mkF m 328 #[.val (.int p0), .val (.int p1), .val (.int p2), .val (.int p3), .val (.int p4), .val (.int p5), .val (.ref a54), .val (.int jv), .val (.ref a64), .val (.int (1 : Int32))] [(.int vb80), (.int (1 : Int32))]))
  have kle80 : k80 ≤ 8 := Nat.le_trans kl80 (Nat.succ_le_succ kle78)
  have E80' := E78'.keep K80
  have VC80 := VC78.keep K80 (ninS nec (ninS neb65 nin0))
  have S80' : n0 ≤ T80.heap.size := Nat.le_trans S78' K80.1
  have M80 := Fr.app M78 N80
  have TT8 : Tab f80 16 (own_S cf 8) 8 := TA80.congr (own_Ss cf 7) (Nat.le_refl _)
  refine w_aload X80 hx (Jvm.hb hby at_328) rfl rfl (pc' := 330) rfl ?_
  refine w_bipush X80 hx (7 : Int32) (Jvm.hb hby at_330) (by decide) (pc' := 332) rfl ?_
  refine w_callS X80 hx hZ hown (hw _ (List.mem_of_getElem? (i := 32) rfl)) (hw _ (List.mem_of_getElem? (i := 33) rfl)) (hw _ (List.mem_of_getElem? (i := 34) rfl)) (hw _ (List.mem_of_getElem? (i := 35) rfl)) (by decide) (W := 2) (rm7_7 l Z aw hw [] a54 cf T80.heap VC80) rfl (by decide) (by decide) (by decide) (by decide) (Jvm.hb hby at_332) (by rw [hml]; rfl) (argsL := [(.ref a54), (.int (7 : Int32))]) (rest := [(.int vb80), (.int (1 : Int32))]) pd_5 rfl rfl rfl (Nat.le_of_eq rfl) (pc' := 335) rfl ?_
  rintro _ T81 L81 X81 ⟨vf81, rfl, hf81, e81, rfl⟩
  show Ow p e below s _ _ _ (T81.setTop (mkF m 335 #[.val (.int p0), .val (.int p1), .val (.int p2), .val (.int p3), .val (.int p4), .val (.int p5), .val (.ref a54), .val (.int jv), .val (.ref a64), .val (.int (1 : Int32))] [(.int vf81), (.int vb80), (.int (1 : Int32))]))
  refine w_icmp_ne X81 hx (Jvm.hb hby at_335) (by decide) (pcT := 342) (by decide) (pcF := 338) rfl (fun q => absurd (own_eqv hv80 hf81) q) (fun _ => ?_)
  refine w_iconst X81 hx (1 : Int32) (Jvm.hb hby at_338) (by decide) (pc' := 339) rfl ?_
  refine w_goto X81 hx (Jvm.hb hby at_339) (by decide) (pc' := 343) (by decide) ?_
  refine w_iand X81 hx (Jvm.hb hby at_343) (pc' := 344) rfl ?_
  rw [show ((1 : Int32) &&& (1 : Int32)) = 1 from by decide]
  show Ow p e below s _ _ _ (T81.setTop (mkF m 344 #[.val (.int p0), .val (.int p1), .val (.int p2), .val (.int p3), .val (.int p4), .val (.int p5), .val (.ref a54), .val (.int jv), .val (.ref a64), .val (.int (1 : Int32))] [(.int (1 : Int32))]))
  refine w_istore X81 hx (Jvm.hb hby at_344) #[.val (.int p0), .val (.int p1), .val (.int p2), .val (.int p3), .val (.int p4), .val (.int p5), .val (.ref a54), .val (.int jv), .val (.ref a64), .val (.int (1 : Int32))] rfl  (pc' := 346) rfl ?_
  refine w_iload X81 hx (Jvm.hb hby at_346) rfl (pc' := 348) rfl ?_
  refine w_aload X81 hx (Jvm.hb hby at_348) rfl rfl (pc' := 350) rfl ?_
  refine w_aload X81 hx (Jvm.hb hby at_350) rfl rfl (pc' := 352) rfl ?_
  refine w_bipush X81 hx (8 : Int32) (Jvm.hb hby at_352) (by decide) (pc' := 354) rfl ?_
  refine w_ialoadA X81 hx hZ e81 VC80 8 (by decide) (by decide) (Jvm.hb hby at_354) (pc' := 355) rfl ?_
  obtain ⟨d8, hd8⟩ := own_hit (Or.inl rfl) TT8 (by decide) (cf 8)
  refine w_callV X81 hx hZ hown (hw _ (List.mem_of_getElem? (i := 21) rfl)) (hw _ (List.mem_of_getElem? (i := 22) rfl)) (notFace_of_selects (args := #[]) (mvT hZ (hw _ (List.mem_of_getElem? (i := 24) rfl)))) (hw _ (List.mem_of_getElem? (i := 24) rfl)) (hw _ (List.mem_of_getElem? (i := 23) rfl)) (hw _ (List.mem_of_getElem? (i := 5) rfl)) (hw _ (List.mem_of_getElem? (i := 25) rfl)) (by decide) (W := 1) (rm5b l Z aw hw [] a64 (cf 8) b65 16 f80 kz80 k80 (own_S cf 8) 8 d8 T80.heap n0 S80' F80 Fs80 E80' V80 ne65 G gb65 (Or.inl rfl) hk80 (Nat.le_trans kle80 (by decide)) (hcf 8 (by decide)) TT8 hd8 rfl kle80 (by decide)) e81 (by decide) (by decide) (by decide) (by decide) E80' (Jvm.hb hby at_355) (by rw [hml]; rfl) (argsL := [(.int (cf 8))]) (rest := [(.int (1 : Int32))]) pd_4 rfl rfl rfl (Nat.le_of_eq rfl) (pc' := 358) rfl ?_
  rintro _ T82 L82 X82 ⟨vb82, kz82, b82, n82, f82, k82, m82, rfl, N82, hv82, gb82, ne82, hn82, hm82, K82, F82, Fs82, hk82, V82, TA82⟩
  show Ow p e below s _ _ _ (T82.setTop (mkF m 358 #[.val (.int p0), .val (.int p1), .val (.int p2), .val (.int p3), .val (.int p4), .val (.int p5), .val (.ref a54), .val (.int jv), .val (.ref a64), .val (.int (1 : Int32))] [(.int vb82), (.int (1 : Int32))]))
  have E82' := E80'.keep K82
  have VC82 := VC80.keep K82 (ninS nec (ninS neb65 nin0))
  have S82' : n0 ≤ T82.heap.size := Nat.le_trans S80' K82.1
  have M82 := Fr.app M80 N82
  have TT9 : Tab f82 n82 (own_S cf 9) m82 := TA82.congr (own_Ss cf 8) (Nat.le_refl _)
  refine w_aload X82 hx (Jvm.hb hby at_358) rfl rfl (pc' := 360) rfl ?_
  refine w_bipush X82 hx (8 : Int32) (Jvm.hb hby at_360) (by decide) (pc' := 362) rfl ?_
  refine w_callS X82 hx hZ hown (hw _ (List.mem_of_getElem? (i := 32) rfl)) (hw _ (List.mem_of_getElem? (i := 33) rfl)) (hw _ (List.mem_of_getElem? (i := 34) rfl)) (hw _ (List.mem_of_getElem? (i := 35) rfl)) (by decide) (W := 2) (rm7_8 l Z aw hw [] a54 cf T82.heap VC82) rfl (by decide) (by decide) (by decide) (by decide) (Jvm.hb hby at_362) (by rw [hml]; rfl) (argsL := [(.ref a54), (.int (8 : Int32))]) (rest := [(.int vb82), (.int (1 : Int32))]) pd_5 rfl rfl rfl (Nat.le_of_eq rfl) (pc' := 365) rfl ?_
  rintro _ T83 L83 X83 ⟨vf83, rfl, hf83, e83, rfl⟩
  show Ow p e below s _ _ _ (T83.setTop (mkF m 365 #[.val (.int p0), .val (.int p1), .val (.int p2), .val (.int p3), .val (.int p4), .val (.int p5), .val (.ref a54), .val (.int jv), .val (.ref a64), .val (.int (1 : Int32))] [(.int vf83), (.int vb82), (.int (1 : Int32))]))
  refine w_icmp_ne X83 hx (Jvm.hb hby at_365) (by decide) (pcT := 372) (by decide) (pcF := 368) rfl (fun q => absurd (own_eqv hv82 hf83) q) (fun _ => ?_)
  refine w_iconst X83 hx (1 : Int32) (Jvm.hb hby at_368) (by decide) (pc' := 369) rfl ?_
  refine w_goto X83 hx (Jvm.hb hby at_369) (by decide) (pc' := 373) (by decide) ?_
  refine w_iand X83 hx (Jvm.hb hby at_373) (pc' := 374) rfl ?_
  rw [show ((1 : Int32) &&& (1 : Int32)) = 1 from by decide]
  show Ow p e below s _ _ _ (T83.setTop (mkF m 374 #[.val (.int p0), .val (.int p1), .val (.int p2), .val (.int p3), .val (.int p4), .val (.int p5), .val (.ref a54), .val (.int jv), .val (.ref a64), .val (.int (1 : Int32))] [(.int (1 : Int32))]))
  refine w_istore X83 hx (Jvm.hb hby at_374) #[.val (.int p0), .val (.int p1), .val (.int p2), .val (.int p3), .val (.int p4), .val (.int p5), .val (.ref a54), .val (.int jv), .val (.ref a64), .val (.int (1 : Int32))] rfl  (pc' := 376) rfl ?_
  refine w_iload X83 hx (Jvm.hb hby at_376) rfl (pc' := 378) rfl ?_
  refine w_aload X83 hx (Jvm.hb hby at_378) rfl rfl (pc' := 380) rfl ?_
  refine w_aload X83 hx (Jvm.hb hby at_380) rfl rfl (pc' := 382) rfl ?_
  refine w_iload X83 hx (Jvm.hb hby at_382) rfl (pc' := 384) rfl ?_
  refine w_ialoadA X83 hx hZ e83 VC82 jx hjx hj9 (Jvm.hb hby at_384) (pc' := 385) rfl ?_
  obtain ⟨dl, hdl⟩ := own_hit hn82 TT9 hm82 (cf jx)
  have hSj : own_S cf 9 (cf jx) := ⟨jx, hj9, rfl⟩
  have hkb : True := trivial
  refine w_callV X83 hx hZ hown (hw _ (List.mem_of_getElem? (i := 21) rfl)) (hw _ (List.mem_of_getElem? (i := 22) rfl)) (notFace_of_selects (args := #[]) (mvT hZ (hw _ (List.mem_of_getElem? (i := 24) rfl)))) (hw _ (List.mem_of_getElem? (i := 24) rfl)) (hw _ (List.mem_of_getElem? (i := 23) rfl)) (hw _ (List.mem_of_getElem? (i := 5) rfl)) (hw _ (List.mem_of_getElem? (i := 25) rfl)) (by decide) (W := 1) (rm5d l Z aw hw [] a64 (cf jx) b82 n82 f82 kz82 k82 (own_S cf 9) m82 dl T82.heap n0 S82' F82 Fs82 E82' V82 ne82 G gb82 hn82 hk82 (hcf jx hj9) TT9 hdl hSj) e83 (by decide) (by decide) (by decide) (by decide) E82' (Jvm.hb hby at_385) (by rw [hml]; rfl) (argsL := [(.int (cf jx))]) (rest := [(.int (1 : Int32))]) pd_4 rfl rfl rfl (Nat.le_of_eq rfl) (pc' := 388) rfl ?_
  rintro _ T84 L84 X84 ⟨rfl, N84⟩
  show Ow p e below s _ _ _ (T84.setTop (mkF m 388 #[.val (.int p0), .val (.int p1), .val (.int p2), .val (.int p3), .val (.int p4), .val (.int p5), .val (.ref a54), .val (.int jv), .val (.ref a64), .val (.int (1 : Int32))] [(.int (0 : Int32)), (.int (1 : Int32))]))
  have ML := Fr.app M82 N84
  refine w_if_ne X84 hx (Jvm.hb hby at_388) (by decide) (pcT := 395) (by decide) (pcF := 391) rfl (fun q => absurd (rfl : (0 : Int32) = 0) q) (fun _ => ?_)
  refine w_iconst X84 hx (1 : Int32) (Jvm.hb hby at_391) (by decide) (pc' := 392) rfl ?_
  refine w_goto X84 hx (Jvm.hb hby at_392) (by decide) (pc' := 396) (by decide) ?_
  refine w_iand X84 hx (Jvm.hb hby at_396) (pc' := 397) rfl ?_
  rw [show ((1 : Int32) &&& (1 : Int32)) = 1 from by decide]
  show Ow p e below s _ _ _ (T84.setTop (mkF m 397 #[.val (.int p0), .val (.int p1), .val (.int p2), .val (.int p3), .val (.int p4), .val (.int p5), .val (.ref a54), .val (.int jv), .val (.ref a64), .val (.int (1 : Int32))] [(.int (1 : Int32))]))
  refine w_istore X84 hx (Jvm.hb hby at_397) #[.val (.int p0), .val (.int p1), .val (.int p2), .val (.int p3), .val (.int p4), .val (.int p5), .val (.ref a54), .val (.int jv), .val (.ref a64), .val (.int (1 : Int32))] rfl  (pc' := 399) rfl ?_
  refine w_iload X84 hx (Jvm.hb hby at_399) rfl (pc' := 401) rfl ?_
  exact w_zreturn X84 hx Bd.returns (Or.inr rfl) (BodyLoose.notSynchronized Bd) (Nat.le_of_ble_eq_true rfl) (Nat.le_of_ble_eq_true rfl) (Jvm.hb hby at_401) ⟨rfl, by simpa using ML⟩
set_option maxRecDepth 65536 in
set_option maxHeartbeats 40000000 in
theorem comes_1 {Post : Tables → Env → Array Value → State → Outcome → State → Prop} (hpost : ∀ tb e args s v u, (limb_1_1.after args s (.returned v) u = true ∧ limb_1_2.after args s (.returned v) u = true ∧ True) → FrameEnd s (.returned v) u (Jvm.fieldLocs frame_1_writes args s ++ Jvm.arrayLocs frame_1_arrays args s ++ Jvm.staticLocs frame_1_statics s) 16 192 → Post tb e args s (.returned v) u) :
    ArmFor flags0 classFile x code maxLocals ret World_1 tables_1 room_1 Calls_1 rest_1 Pre_1 Post := by
  intro l hfl _ _ p e ha hc hk s m args below hf hA hF happ hP
  obtain ⟨hcalls, hrest, hpre⟩ := hP
  obtain ⟨-, -, -, hnamed, -, -, -, hat⟩ := (Spec.applies_iff hf).mp happ
  obtain ⟨hg, hn⟩ := and_e (Cond.before_iff.mp (show (Jvm.Cond.and given_1 narrow_1).before args s = true from hpre))
  obtain ⟨g1, g2⟩ := and_e hg
  obtain ⟨g3, g4⟩ := and_e g2
  obtain ⟨g5, g6⟩ := and_e g4
  obtain ⟨g7, g8⟩ := and_e g6
  obtain ⟨g9, g10⟩ := and_e g8
  obtain ⟨g11, g12⟩ := and_e g10
  obtain ⟨w0, w1, w2, w3, w4, w5, rfl⟩ : ∃ w0 w1 w2 w3 w4 w5 : Value, args = #[w0, w1, w2, w3, w4, w5] := by
    have hs : args.size = 6 := by simpa [Cond.value, given_1] using g1
    obtain ⟨L⟩ := args
    match L, hs with
    | [w0, w1, w2, w3, w4, w5], _ => exact ⟨w0, w1, w2, w3, w4, w5, rfl⟩
  have hw := fun d (hd : d ∈ tables_1) => atoms_spec (ws := Jvm.Cond.code x code maxLocals ret :: tables_1) hat d (List.mem_cons_of_mem _ hd)
  obtain ⟨i0, ei0⟩ := is_v g3
  obtain rfl : w0 = (.int i0) := Option.some.inj ei0
  obtain ⟨i1, ei1⟩ := is_v g5
  obtain rfl : w1 = (.int i1) := Option.some.inj ei1
  obtain ⟨i2, ei2⟩ := is_v g7
  obtain rfl : w2 = (.int i2) := Option.some.inj ei2
  obtain ⟨i3, ei3⟩ := is_v g9
  obtain rfl : w3 = (.int i3) := Option.some.inj ei3
  obtain ⟨i4, ei4⟩ := is_v g11
  obtain rfl : w4 = (.int i4) := Option.some.inj ei4
  obtain ⟨i5, ei5⟩ := is_v g12
  obtain rfl : w5 = (.int i5) := Option.some.inj ei5
  obtain ⟨n, o, h1, h2, h3, _, L, rfl, ⟨rfl, N⟩, hq⟩ := rm0 l s _ hw tables_1 i0 i1 i2 i3 i4 i5 s.heap s.heap.size (Nat.le_refl _) p e ha hc hk s m _ below hf ((Spec.applies_iff_loose hf).mp happ).1 ⟨rfl, State.Warmed39.refl s, rfl⟩ trivial
  refine ⟨n, _, h1, h2, h3, hpost _ _ _ _ _ _ ⟨Cond.after_iff.mpr rfl, Cond.after_iff.mpr (eq_i res_at (Term.int_eval (1)) rfl), trivial⟩ ⟨hq.1, hq.2.1, (hq.2.2.sift fun y hy => Or.inr (N y hy)).mono (by decide) (by decide)⟩⟩
theorem main_1_1 : Claimed_1_1 := comes_1 fun _ _ _ _ _ _ h hF => ⟨h.1, hF⟩
theorem main_1_2 : Claimed_1_2 := comes_1 fun _ _ _ _ _ _ h hF => ⟨h.2.1, hF⟩
end Jvm.Pilot.@@N@@
namespace Jvm.Pilot.@@N@@
open Jvm Jvm.ClassFile Sem Op Lib Jvm.Free Jvm.Stand Jvm.Pilot.@@N@@.Jvm.D
/-! MADE BY PROGRAM (witnessworld.py) out of the Statement's table words and the real class files: 10 classes; the members and pool entries that the words name. The judged class is class 1, her method 1. -/
namespace start1
open Jvm.ClassFile
def u (s : String) : CpInfo := .utf8 (stringToUtf16 s)
/-- a pool by its gaps: so many unusable entries, then the entry; so many at the end -/
def gap : Nat → List CpInfo → List CpInfo
  | 0, r => r
  | n + 1, r => .unusable :: gap n r
def poolList (es : List (Nat × CpInfo)) (last : Nat) : List CpInfo := es.foldr (fun e r => gap e.1 (e.2 :: r)) (gap last [])
def pool (es : List (Nat × CpInfo)) (last : Nat) : Array CpInfo := ⟨poolList es last⟩
def fileOf (pool : Array CpInfo) (this : Nat) (attrs : Array Attribute := #[]) (ms : Array MethodInfo := #[]) (fl : Nat := 33) (sup : Nat := 0) (ifs : Array Nat := #[]) (fds : Array FieldInfo := #[]) : ClassFile where
  minorVersion := 0
  majorVersion := 65
  constantPool := pool
  accessFlags := fl
  thisClass := this
  superClass := sup
  interfaces := ifs
  fields := fds
  methods := ms
  attributes := attrs
def plain (name : String) (sup : Option ClassId) : Class where
  name := name
  kind := .ordinary
  loader := none
  accessFlags := 33
  super := sup
  interfaces := #[]
  cf := none
  fields := #[]
  methods := #[]
  instanceTypes := #[]
  staticTypes := #[]
  resolved := #[]
  callSites := []
  init := .initialized
  statics := none
  mirror := none

def pool0 : Array CpInfo := pool [(5, u "<init>"), (0, u "()V"), (1, .class_ 10), (1, u "java/lang/Object")] 113

def k0c0 : Code := { maxStack := 0, maxLocals := 1, code := object_method_1_code, exceptionTable := #[], attributes := #[] }
def k0m0 : Method := { name := "<init>", desc := "()V", sig := { parameters := [], returnType := none }, accessFlags := 1, code := some k0c0 }
/-- java/lang/Object -/
def k0 : Class := { plain "java/lang/Object" none with
  accessFlags := 33
  interfaces := #[]
  cf := some (fileOf pool0 8 #[] #[{ accessFlags := 1, nameIndex := 5, descriptorIndex := 6, attributes := #[] }] 33 0 #[] #[])
  fields := #[]
  methods := #[k0m0]
  instanceTypes := #[]
  staticTypes := #[]
  resolved := Array.replicate 124 none
  statics := none }

def pool1 : Array CpInfo := pool [(2, .class_ 4), (0, .nameAndType 5 6), (0, u "java/lang/Object"), (0, u "<init>"), (0, u "()V"), (0, .integer 2147483647), (0, .integer 65535), (0, .class_ 10), (0, u "com/example/sarutahiko/sarutahiko/simulation/CellSet"), (0, .methodref 9 3), (0, .methodref 9 13), (0, .nameAndType 14 15), (0, u "add"), (0, u "(I)Z"), (0, .methodref 17 18), (0, .class_ 19), (0, .nameAndType 20 21), (0, u "com/example/sarutahiko/sarutahiko/simulation/CellSetAddPinLaw"), (0, u "fresh"), (0, u "([II)Z"), (2, u "law"), (0, u "(IIIIII)Z")] 5

def k1m0 : Method := { name := "<init>", desc := "()V", sig := { parameters := [], returnType := none }, accessFlags := 1, code := none }
def k1c1 : Code := { maxStack := 4, maxLocals := 10, code := code, exceptionTable := #[], attributes := #[] }
def k1m1 : Method := { name := "law", desc := "(IIIIII)Z", sig := { parameters := [.int, .int, .int, .int, .int, .int], returnType := some .boolean }, accessFlags := 9, code := some k1c1 }
def k1c2 : Code := { maxStack := 3, maxLocals := 3, code := method_3_code, exceptionTable := #[], attributes := #[] }
def k1m2 : Method := { name := "fresh", desc := "([II)Z", sig := { parameters := [(.array .int), .int], returnType := some .boolean }, accessFlags := 10, code := some k1c2 }
/-- com/example/sarutahiko/sarutahiko/simulation/CellSetAddPinLaw -/
def k1 : Class := { plain "com/example/sarutahiko/sarutahiko/simulation/CellSetAddPinLaw" (some 0) with
  accessFlags := 49
  interfaces := #[]
  cf := some (fileOf pool1 17 #[] #[{ accessFlags := 1, nameIndex := 5, descriptorIndex := 6, attributes := #[] }, { accessFlags := 9, nameIndex := 24, descriptorIndex := 25, attributes := #[] }, { accessFlags := 10, nameIndex := 20, descriptorIndex := 21, attributes := #[] }] 49 2 #[] #[])
  fields := #[]
  methods := #[k1m0, k1m1, k1m2]
  instanceTypes := #[]
  staticTypes := #[]
  resolved := Array.replicate 31 none
  statics := none }

def pool2 : Array CpInfo := pool [(1, .methodref 2 3), (0, .class_ 4), (0, .nameAndType 5 6), (0, u "java/lang/Object"), (0, u "<init>"), (0, u "()V"), (0, .methodref 8 9), (0, .class_ 10), (0, .nameAndType 11 12), (0, u "com/example/sarutahiko/sarutahiko/simulation/CellSet"), (0, u "newSlots"), (0, u "(I)[I"), (0, .fieldref 8 14), (0, .nameAndType 15 16), (0, u "slots"), (0, u "[I"), (0, .methodref 8 18), (0, .nameAndType 19 20), (0, u "find"), (0, u "([II)I"), (0, .fieldref 8 22), (0, .nameAndType 23 24), (0, u "size"), (0, u "I"), (0, .integer 2654435769), (0, .methodref 27 28), (0, .class_ 29), (0, .nameAndType 30 31), (0, u "java/util/Arrays"), (0, u "fill"), (0, u "([II)V"), (0, u "FREE"), (4, u "add"), (0, u "(I)Z")] 4

def k2c0 : Code := { maxStack := 2, maxLocals := 1, code := prog_37_method_1_code, exceptionTable := #[], attributes := #[] }
def k2m0 : Method := { name := "<init>", desc := "()V", sig := { parameters := [], returnType := none }, accessFlags := 0, code := some k2c0 }
def k2c1 : Code := { maxStack := 3, maxLocals := 8, code := prog_37_method_2_code, exceptionTable := #[], attributes := #[] }
def k2m1 : Method := { name := "add", desc := "(I)Z", sig := { parameters := [.int], returnType := some .boolean }, accessFlags := 0, code := some k2c1 }
def k2c2 : Code := { maxStack := 3, maxLocals := 5, code := prog_37_method_3_code, exceptionTable := #[], attributes := #[] }
def k2m2 : Method := { name := "find", desc := "([II)I", sig := { parameters := [(.array .int), .int], returnType := some .int }, accessFlags := 10, code := some k2c2 }
def k2c3 : Code := { maxStack := 2, maxLocals := 2, code := prog_37_method_4_code, exceptionTable := #[], attributes := #[] }
def k2m3 : Method := { name := "newSlots", desc := "(I)[I", sig := { parameters := [.int], returnType := some (.array .int) }, accessFlags := 10, code := some k2c3 }
/-- com/example/sarutahiko/sarutahiko/simulation/CellSet -/
def k2 : Class := { plain "com/example/sarutahiko/sarutahiko/simulation/CellSet" (some 0) with
  accessFlags := 48
  interfaces := #[]
  cf := some (fileOf pool2 8 #[] #[{ accessFlags := 0, nameIndex := 5, descriptorIndex := 6, attributes := #[] }, { accessFlags := 0, nameIndex := 37, descriptorIndex := 38, attributes := #[] }, { accessFlags := 10, nameIndex := 19, descriptorIndex := 20, attributes := #[] }, { accessFlags := 10, nameIndex := 11, descriptorIndex := 12, attributes := #[] }] 48 2 #[] #[{ accessFlags := 26, nameIndex := 32, descriptorIndex := 24, attributes := #[] }, { accessFlags := 2, nameIndex := 15, descriptorIndex := 16, attributes := #[] }, { accessFlags := 2, nameIndex := 23, descriptorIndex := 24, attributes := #[] }])
  fields := #[{ name := "FREE", type := .int, accessFlags := 26, slot := 0, constantValue := 0 }, { name := "slots", type := (.array .int), accessFlags := 2, slot := 0, constantValue := 0 }, { name := "size", type := .int, accessFlags := 2, slot := 1, constantValue := 0 }]
  methods := #[k2m0, k2m1, k2m2, k2m3]
  instanceTypes := #[(.array .int), .int]
  staticTypes := #[.int]
  resolved := Array.replicate 43 none
  statics := none }

def pool3 : Array CpInfo := pool [(2, .class_ 4), (1, u "java/lang/Object"), (0, u "<init>"), (0, u "()V"), (7, .class_ 16), (1, u "java/util/Arrays"), (57, .class_ 76), (1, u "java/util/Arrays$NaturalOrder"), (36, .class_ 115), (1, u "java/util/Arrays$LegacyMergeSort"), (1, u "Z"), (257, .class_ 376), (0, u "java/util/Arrays$ArrayList"), (68, u "$assertionsDisabled"), (269, u "MIN_ARRAY_SORT_GRAN"), (0, u "I"), (2, u "INSERTIONSORT_THRESHOLD"), (120, u "fill"), (4, u "([II)V"), (129, .class_ 976), (0, u "java/util/Arrays$ArrayItr")] 52

def k3m0 : Method := { name := "<init>", desc := "()V", sig := { parameters := [], returnType := none }, accessFlags := 2, code := none }
def k3c1 : Code := { maxStack := 3, maxLocals := 4, code := jdk_65_method_103_code, exceptionTable := #[], attributes := #[] }
def k3m1 : Method := { name := "fill", desc := "([II)V", sig := { parameters := [(.array .int), .int], returnType := none }, accessFlags := 9, code := some k3c1 }
/-- java/util/Arrays -/
def k3 : Class := { plain "java/util/Arrays" (some 0) with
  accessFlags := 49
  interfaces := #[]
  cf := some (fileOf pool3 14 #[.nestMembers #[975, 375, 113, 74]] #[{ accessFlags := 2, nameIndex := 5, descriptorIndex := 6, attributes := #[] }, { accessFlags := 9, nameIndex := 840, descriptorIndex := 845, attributes := #[] }] 49 2 #[] #[{ accessFlags := 26, nameIndex := 715, descriptorIndex := 716, attributes := #[] }, { accessFlags := 26, nameIndex := 719, descriptorIndex := 716, attributes := #[] }, { accessFlags := 4120, nameIndex := 445, descriptorIndex := 117, attributes := #[] }])
  fields := #[{ name := "MIN_ARRAY_SORT_GRAN", type := .int, accessFlags := 26, slot := 0, constantValue := 0 }, { name := "INSERTIONSORT_THRESHOLD", type := .int, accessFlags := 26, slot := 1, constantValue := 0 }, { name := "$assertionsDisabled", type := .boolean, accessFlags := 4120, slot := 2, constantValue := 0 }]
  methods := #[k3m0, k3m1]
  instanceTypes := #[]
  staticTypes := #[.int, .int, .boolean]
  resolved := Array.replicate 1029 none
  statics := none }

def pool4 : Array CpInfo := pool [(1, u "java/lang/Cloneable"), (0, .class_ 1), (0, u "java/lang/Object"), (0, .class_ 3)] 3

/-- java/lang/Cloneable -/
def k4 : Class := { plain "java/lang/Cloneable" (some 0) with
  accessFlags := 1537
  interfaces := #[]
  cf := some (fileOf pool4 2 #[] #[] 1537 4 #[] #[])
  fields := #[]
  methods := #[]
  instanceTypes := #[]
  staticTypes := #[]
  resolved := Array.replicate 8 none
  statics := none }

def pool5 : Array CpInfo := pool [(1, u "java/io/Serializable"), (0, .class_ 1), (0, u "java/lang/Object"), (0, .class_ 3)] 3

/-- java/io/Serializable -/
def k5 : Class := { plain "java/io/Serializable" (some 0) with
  accessFlags := 1537
  interfaces := #[]
  cf := some (fileOf pool5 2 #[] #[] 1537 4 #[] #[])
  fields := #[]
  methods := #[]
  instanceTypes := #[]
  staticTypes := #[]
  resolved := Array.replicate 8 none
  statics := none }

/-- the primitive byte -/
def k6 : Class := { plain "byte" none with kind := .primitive 'B', accessFlags := 0x411 }
/-- [B -/
def k7 : Class := { plain "[B" (some 0) with kind := .array 6 .byte, interfaces := #[4, 5], accessFlags := 1041 }

/-- the primitive int -/
def k8 : Class := { plain "int" none with kind := .primitive 'I', accessFlags := 0x411 }
/-- [I -/
def k9 : Class := { plain "[I" (some 0) with kind := .array 8 .int, interfaces := #[4, 5], accessFlags := 1041 }

def heap : Heap := #[]
def classes : Array Class := #[k0, k1, k2, k3, k4, k5, k6, k7, k8, k9]
def interned : List (Array UInt16 × Addr) := []
def slotsUsed : Nat := 0
def theMethod : MethodId := ⟨1, 1⟩
def args0 : Array Value := #[.int 5, .int 6, .int 700, .int 8, .int 9, .int 77]
def aboutOver (below : List Frame) : State where
  vm := { classes := classes, interned := interned.toArray }
  heap := heap
  slotsUsed := slotsUsed
  threads := #[{ frames := .invoking theMethod args0 :: below }]
def below0 : List Frame := [.native { method := ⟨0, 0⟩, args := #[] }]
def about1 : State := aboutOver below0
def p0 : Program := .bare "" "" ""
def e0 : Env := launch0.env 0 0 0
theorem w_frames : about1.frames = Frame.invoking theMethod args0 :: below0 := rfl
set_option maxRecDepth 65536 in
theorem w_args : argsFit about1.vm theMethod args0 = true := by decide +kernel
set_option maxRecDepth 65536 in
theorem w_heap : heapFits about1 = true := by decide +kernel
set_option maxRecDepth 65536 in
theorem w_runnable : about1.curStatus? = some .runnable := by decide +kernel
set_option maxRecDepth 65536 in
theorem w_alone : about1.alone = true := by decide +kernel
set_option maxRecDepth 65536 in
theorem w_named : about1.methodNamed? x = some theMethod := by decide +kernel
set_option maxRecDepth 65536 in
theorem w_hears : about1.hears theMethod below0 = true := by decide +kernel
set_option maxRecDepth 65536 in
theorem w_ripe : about1.ripe theMethod args0 below0 = true := by decide +kernel
theorem w_running : about1.status = .running := rfl
set_option maxRecDepth 65536 in
theorem w_room : about1.hasRoom e0.platform room_1 = true :=
  launch0.hasRoom_least _ room_1 (by decide +kernel) (by decide +kernel) (by decide +kernel) (by decide +kernel) (by decide +kernel) (by decide +kernel)
theorem allAtoms_all (ts : List Jvm.Cond) (a : Array Jvm.Value) (st : Jvm.State) : (allAtoms ts).before a st = ts.all (fun c => c.before a st) := by
  induction ts with
  | nil => rfl
  | cons c t ih =>
    show (Jvm.Cond.and c (allAtoms t)).before a st = _
    rw [Jvm.Cond.before_and, ih, List.all_cons]
def words1 : List Jvm.Cond := Jvm.Cond.code x code maxLocals ret :: tables_1
/-- a 'code' word, met by the world's own term for the bytes: nothing is compared byte by byte -/
theorem code_word {y : MethodName} {bytes : ByteArray} {mx : Nat} {rt : Option FieldType} {a : Array Value} {s : State} {m : MethodId} {meth : Method} {c : Code} (h1 : s.methodNamed? y = some m) (h2 : s.vm.method? m = some meth) (h3 : meth.code = some c) (h4 : c.code = bytes)
    (h5 : (c.maxLocals == mx && c.exceptionTable.isEmpty && decide (c.maxStack ≤ mostOperands) && decide (meth.sig.returnType = rt) && !meth.locks && decide (parseMethodDescriptor y.desc = some meth.sig)) = true) : (Jvm.Cond.code y bytes mx rt).before a s = true := by
  simp only [Bool.and_eq_true, beq_iff_eq, Bool.not_eq_true', decide_eq_true_eq] at h5
  obtain ⟨⟨⟨⟨⟨g1, g2⟩, g3⟩, g4⟩, g5⟩, g6⟩ := h5
  simp [Cond.before, Cond.holds, Cond.value, h1, h2, h3, h4, g1, g2, g3, g4, g5, g6]
def isCode : Jvm.Cond → Bool
  | .code _ _ _ _ => true
  | _ => false
theorem all_split {L : List Jvm.Cond} {P : Jvm.Cond → Bool} (h1 : L.all (fun c => isCode c || P c) = true) (h2 : ∀ c ∈ L.filter isCode, P c = true) : L.all P = true := by
  refine List.all_eq_true.mpr fun c hc => ?_
  have h := List.all_eq_true.mp h1 c hc
  rcases Bool.eq_false_or_eq_true (isCode c) with hi | hi
  · exact h2 c (List.mem_filter.mpr ⟨hc, hi⟩)
  · simpa [hi] using h
set_option maxRecDepth 65536 in
theorem w_c0 : (Jvm.Cond.code x code maxLocals ret).before args0 about1 = true := code_word (m := ⟨1, 1⟩) (meth := k1m1) (c := k1c1) (by decide +kernel) rfl rfl rfl (by decide +kernel)
set_option maxRecDepth 65536 in
theorem w_c1 : (Jvm.Cond.code ({ cls := "com/example/sarutahiko/sarutahiko/simulation/CellSet", name := "<init>", desc := "()V" } : Jvm.MethodName) prog_37_method_1_code (1 : Nat) (Option.none : Option Jvm.ClassFile.FieldType)).before args0 about1 = true := code_word (m := ⟨2, 0⟩) (meth := k2m0) (c := k2c0) (by decide +kernel) rfl rfl rfl (by decide +kernel)
set_option maxRecDepth 65536 in
theorem w_c2 : (Jvm.Cond.code ({ cls := "java/lang/Object", name := "<init>", desc := "()V" } : Jvm.MethodName) object_method_1_code (1 : Nat) (Option.none : Option Jvm.ClassFile.FieldType)).before args0 about1 = true := code_word (m := ⟨0, 0⟩) (meth := k0m0) (c := k0c0) (by decide +kernel) rfl rfl rfl (by decide +kernel)
set_option maxRecDepth 65536 in
theorem w_c3 : (Jvm.Cond.code ({ cls := "com/example/sarutahiko/sarutahiko/simulation/CellSet", name := "newSlots", desc := "(I)[I" } : Jvm.MethodName) prog_37_method_4_code (2 : Nat) (Option.some (Jvm.ClassFile.FieldType.array Jvm.ClassFile.FieldType.int))).before args0 about1 = true := code_word (m := ⟨2, 3⟩) (meth := k2m3) (c := k2c3) (by decide +kernel) rfl rfl rfl (by decide +kernel)
set_option maxRecDepth 65536 in
theorem w_c4 : (Jvm.Cond.code ({ cls := "java/util/Arrays", name := "fill", desc := "([II)V" } : Jvm.MethodName) jdk_65_method_103_code (4 : Nat) (Option.none : Option Jvm.ClassFile.FieldType)).before args0 about1 = true := code_word (m := ⟨3, 1⟩) (meth := k3m1) (c := k3c1) (by decide +kernel) rfl rfl rfl (by decide +kernel)
set_option maxRecDepth 65536 in
theorem w_c5 : (Jvm.Cond.code ({ cls := "com/example/sarutahiko/sarutahiko/simulation/CellSet", name := "add", desc := "(I)Z" } : Jvm.MethodName) prog_37_method_2_code (8 : Nat) (Option.some Jvm.ClassFile.FieldType.boolean)).before args0 about1 = true := code_word (m := ⟨2, 1⟩) (meth := k2m1) (c := k2c1) (by decide +kernel) rfl rfl rfl (by decide +kernel)
set_option maxRecDepth 65536 in
theorem w_c6 : (Jvm.Cond.code ({ cls := "com/example/sarutahiko/sarutahiko/simulation/CellSet", name := "find", desc := "([II)I" } : Jvm.MethodName) prog_37_method_3_code (5 : Nat) (Option.some Jvm.ClassFile.FieldType.int)).before args0 about1 = true := code_word (m := ⟨2, 2⟩) (meth := k2m2) (c := k2c2) (by decide +kernel) rfl rfl rfl (by decide +kernel)
set_option maxRecDepth 65536 in
theorem w_c7 : (Jvm.Cond.code ({ cls := "com/example/sarutahiko/sarutahiko/simulation/CellSetAddPinLaw", name := "fresh", desc := "([II)Z" } : Jvm.MethodName) method_3_code (3 : Nat) (Option.some Jvm.ClassFile.FieldType.boolean)).before args0 about1 = true := code_word (m := ⟨1, 2⟩) (meth := k1m2) (c := k1c2) (by decide +kernel) rfl rfl rfl (by decide +kernel)
def codes1 : List Jvm.Cond := [Jvm.Cond.code x code maxLocals ret, Jvm.Cond.code ({ cls := "com/example/sarutahiko/sarutahiko/simulation/CellSet", name := "<init>", desc := "()V" } : Jvm.MethodName) prog_37_method_1_code (1 : Nat) (Option.none : Option Jvm.ClassFile.FieldType), Jvm.Cond.code ({ cls := "java/lang/Object", name := "<init>", desc := "()V" } : Jvm.MethodName) object_method_1_code (1 : Nat) (Option.none : Option Jvm.ClassFile.FieldType), Jvm.Cond.code ({ cls := "com/example/sarutahiko/sarutahiko/simulation/CellSet", name := "newSlots", desc := "(I)[I" } : Jvm.MethodName) prog_37_method_4_code (2 : Nat) (Option.some (Jvm.ClassFile.FieldType.array Jvm.ClassFile.FieldType.int)), Jvm.Cond.code ({ cls := "java/util/Arrays", name := "fill", desc := "([II)V" } : Jvm.MethodName) jdk_65_method_103_code (4 : Nat) (Option.none : Option Jvm.ClassFile.FieldType), Jvm.Cond.code ({ cls := "com/example/sarutahiko/sarutahiko/simulation/CellSet", name := "add", desc := "(I)Z" } : Jvm.MethodName) prog_37_method_2_code (8 : Nat) (Option.some Jvm.ClassFile.FieldType.boolean), Jvm.Cond.code ({ cls := "com/example/sarutahiko/sarutahiko/simulation/CellSet", name := "find", desc := "([II)I" } : Jvm.MethodName) prog_37_method_3_code (5 : Nat) (Option.some Jvm.ClassFile.FieldType.int), Jvm.Cond.code ({ cls := "com/example/sarutahiko/sarutahiko/simulation/CellSetAddPinLaw", name := "fresh", desc := "([II)Z" } : Jvm.MethodName) method_3_code (3 : Nat) (Option.some Jvm.ClassFile.FieldType.boolean)]
set_option maxRecDepth 65536 in
theorem codes_eq : words1.filter isCode = codes1 := rfl
theorem w_codes : ∀ c ∈ words1.filter isCode, c.before args0 about1 = true := by
  rw [codes_eq]
  intro c hc
  simp only [codes1, List.mem_cons, List.not_mem_nil, or_false] at hc
  rcases hc with rfl | rfl | rfl | rfl | rfl | rfl | rfl | rfl
  · exact w_c0
  · exact w_c1
  · exact w_c2
  · exact w_c3
  · exact w_c4
  · exact w_c5
  · exact w_c6
  · exact w_c7
set_option maxRecDepth 65536 in
theorem w_t1 : (words1.take 24).all (fun c => isCode c || c.before args0 about1) = true := by decide +kernel
set_option maxRecDepth 65536 in
theorem w_t2 : (words1.drop 24).all (fun c => isCode c || c.before args0 about1) = true := by decide +kernel
theorem w_tables : (allAtoms (Jvm.Cond.code x code maxLocals ret :: tables_1)).before args0 about1 = true := by
  rw [allAtoms_all]
  show words1.all (fun c => c.before args0 about1) = true
  refine all_split ?_ w_codes
  rw [← List.take_append_drop 24 words1, List.all_append, w_t1, w_t2]
  rfl
set_option maxRecDepth 65536 in
theorem w_case : (Jvm.Cond.and given_1 narrow_1).before args0 about1 = true := by decide +kernel
theorem w_applies : (headSpec (Jvm.Cond.code x code maxLocals ret :: tables_1) room_1).applies x e0.platform about1 = true :=
  (Spec.applies_iff w_frames).mpr ⟨w_running, w_runnable, w_alone, w_named, w_hears, w_ripe, w_room, w_tables⟩
theorem atStart : AtStart classFile x code maxLocals ret World_1 tables_1 room_1 Calls_1 rest_1 Pre_1 launch0 p0 e0 about1 theMethod args0 below0 :=
  ⟨lists_1, trivial, launch0.admits_env _ _ _, launch0.least_env, fairChoices_fair.cas, fairChoices_fair.clock, w_frames, w_args, w_heap, w_applies, trivial, trivial, w_case⟩
end start1
theorem witness_1 : WitnessClaimed_1 := ⟨start1.p0, start1.e0, start1.about1, start1.theMethod, start1.args0, start1.below0, start1.atStart⟩
end Jvm.Pilot.@@N@@
