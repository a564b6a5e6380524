import JvmDerived
import JvmDerived.Pilot.@@N@@Statement
import JvmDerived.Pilot.@@N@@Code
set_option linter.unusedVariables false
set_option linter.unusedSimpArgs false
@@BLOCK:NumsL.lean.txt@@
namespace Jvm.Pilot.@@N@@
open Jvm Jvm.ClassFile Sem Op Lib Jvm.Free Jvm.Stand Jvm.LawKit Jvm.RoadKit Bundle Jvm.Pilot.@@N@@.Jvm.D
/-- what a body still owes at the state U: that it comes to a return with Q, within kc cells and ks slots -/
def Ow (p : Program) (e : Env) (below : List Frame) (s : State) (Q : Option Value → Heap → List Loc → Prop) (kc ks : Nat) (U : State) : Prop :=
  ∃ s₂ o, Steps p.tables e below U s₂ ∧ s₂.status = .running ∧ Ended s₂ below o ∧ ∃ v L, o = .returned v ∧ Q v s₂.heap L ∧ FrameEnd s o s₂ L kc ks
def lsr64 (x : Int64) (y : Int32) : Int64 := ((x.toUInt64 >>> (y &&& 0x3f).toInt64.toUInt64).toInt64)
def lsr32 (x y : Int32) : Int32 := ((x.toUInt32 >>> (y &&& 31).toUInt32).toInt32)
section W
variable {p : Program} {l : Launch} {e : Env} {R : Room} {s : State} {m : MethodId} {args : Array Value} {below : List Frame} {meth : Method} {c : Code} {T : State} {locs : List Loc} {cells slots : Nat} {Q : Option Value → Heap → List Loc → Prop} {kc ks : Nat} {pc pc' : Nat} {Ls Ls' : Array Slot} {st : List Value} {Z : State} {a0 : Array Value} {h : Heap}
theorem Ow.go {U U' : State} (k : Steps p.tables e below U U') (o : Ow p e below s Q kc ks U') : Ow p e below s Q kc ks U := by
  obtain ⟨s₂, o', h1, h2⟩ := o
  exact ⟨s₂, o', k.trans h1, h2⟩
theorem Ow.via {U U' : State} (k : ∀ t, Steps p.tables e below U' t → Steps p.tables e below U t) (o : Ow p e below s Q kc ks U') : Ow p e below s Q kc ks U := Ow.go (k _ (Steps.refl _)) o
theorem Ow.enter {n : Nat} (q : entryFrame m args n = mkF m 0 Ls []) (k : Ow p e below s Q kc ks (T.setTop (mkF m 0 Ls []))) :
    ∃ s₂ o, Steps p.tables e below (T.setTop (entryFrame m args n)) s₂ ∧ s₂.status = .running ∧ Ended s₂ below o ∧ ∃ v L, o = .returned v ∧ Q v s₂.heap L ∧ FrameEnd s o s₂ L kc ks := by
  rw [q]; exact k
theorem Ow.join {U : State} (T' : State) (g' : JFrame) (f : Ow p e below s Q kc ks (T'.setTop g') → Ow p e below s Q kc ks U) (k : Ow p e below s Q kc ks (T'.setTop g')) : Ow p e below s Q kc ks U := f k
theorem w_iloadN (X : Stand p l e R s m args below meth c T locs cells slots) (hx : p.tables.exec = Jvm.exec) {k : Fin 4} {v : Int32} (hd : decode c.code pc = .ok (.iload_n k, 1)) (hl : Ls[k.val]? = some (.val (.int v))) (hp : pc + 1 = pc') (k : Ow p e below s Q kc ks (T.setTop (mkF m pc' Ls (.int v :: st)))) : Ow p e below s Q kc ks (T.setTop (mkF m pc Ls st)) := by
  subst hp; exact Ow.go (XS.iloadN X.here hx rfl hd hl (Steps.refl _)) k
theorem w_iload (X : Stand p l e R s m args below meth c T locs cells slots) (hx : p.tables.exec = Jvm.exec) {k : Nat} {v : Int32} (hd : decode c.code pc = .ok (.iload k, 2)) (hl : Ls[k]? = some (.val (.int v))) (hp : pc + 2 = pc') (k : Ow p e below s Q kc ks (T.setTop (mkF m pc' Ls (.int v :: st)))) : Ow p e below s Q kc ks (T.setTop (mkF m pc Ls st)) := by
  subst hp; exact Ow.go (XS.iload X.here hx rfl hd hl (Steps.refl _)) k
theorem w_istore (X : Stand p l e R s m args below meth c T locs cells slots) (hx : p.tables.exec = Jvm.exec) {k : Nat} {v : Int32} (hd : decode c.code pc = .ok (.istore k, 2)) (Ls' : Array Slot) (hl : storeLocals Ls k (.int v) = some Ls') (hp : pc + 2 = pc') (k : Ow p e below s Q kc ks (T.setTop (mkF m pc' Ls' st))) : Ow p e below s Q kc ks (T.setTop (mkF m pc Ls (.int v :: st))) := by
  subst hp; exact Ow.go (XS.istore X.here hx rfl hd rfl hl (Steps.refl _)) k
theorem w_aloadN (X : Stand p l e R s m args below meth c T locs cells slots) (hx : p.tables.exec = Jvm.exec) {k : Fin 4} {v : Value} (hd : decode c.code pc = .ok (.aload_n k, 1)) (hl : Ls[k.val]? = some (.val v)) (hv : v.isRef = true) (hp : pc + 1 = pc') (k : Ow p e below s Q kc ks (T.setTop (mkF m pc' Ls (v :: st)))) : Ow p e below s Q kc ks (T.setTop (mkF m pc Ls st)) := by
  subst hp; exact Ow.go (XS.aloadN X.here hx rfl hd hl hv (Steps.refl _)) k
theorem w_aload (X : Stand p l e R s m args below meth c T locs cells slots) (hx : p.tables.exec = Jvm.exec) {k : Nat} {v : Value} (hd : decode c.code pc = .ok (.aload k, 2)) (hl : Ls[k]? = some (.val v)) (hv : v.isRef = true) (hp : pc + 2 = pc') (k : Ow p e below s Q kc ks (T.setTop (mkF m pc' Ls (v :: st)))) : Ow p e below s Q kc ks (T.setTop (mkF m pc Ls st)) := by
  subst hp; exact Ow.go (XS.aload X.here hx rfl hd hl hv (Steps.refl _)) k
theorem w_astoreN (X : Stand p l e R s m args below meth c T locs cells slots) (hx : p.tables.exec = Jvm.exec) {k : Fin 4} {v : Value} (hd : decode c.code pc = .ok (.astore_n k, 1)) (Ls' : Array Slot) (hl : storeLocals Ls k.val v = some Ls') (hv : v.isRef = true) (hp : pc + 1 = pc') (k : Ow p e below s Q kc ks (T.setTop (mkF m pc' Ls' st))) : Ow p e below s Q kc ks (T.setTop (mkF m pc Ls (v :: st))) := by
  subst hp; exact Ow.go (XS.astoreN X.here hx rfl hd rfl hv hl (Steps.refl _)) k
theorem w_astore (X : Stand p l e R s m args below meth c T locs cells slots) (hx : p.tables.exec = Jvm.exec) {k : Nat} {v : Value} (hd : decode c.code pc = .ok (.astore k, 2)) (Ls' : Array Slot) (hl : storeLocals Ls k v = some Ls') (hv : v.isRef = true) (hp : pc + 2 = pc') (k : Ow p e below s Q kc ks (T.setTop (mkF m pc' Ls' st))) : Ow p e below s Q kc ks (T.setTop (mkF m pc Ls (v :: st))) := by
  subst hp; exact Ow.go (XS.astore X.here hx rfl hd rfl hv hl (Steps.refl _)) k
theorem w_iconst (X : Stand p l e R s m args below meth c T locs cells slots) (hx : p.tables.exec = Jvm.exec) {i : Int} (v : Int32) (hd : decode c.code pc = .ok (.iconst i, 1)) (hv : Int32.ofInt i = v) (hp : pc + 1 = pc') (k : Ow p e below s Q kc ks (T.setTop (mkF m pc' Ls (.int v :: st)))) : Ow p e below s Q kc ks (T.setTop (mkF m pc Ls st)) := by
  subst hp hv; exact Ow.go (XS.iconst X.here hx rfl hd (Steps.refl _)) k
theorem w_bipush (X : Stand p l e R s m args below meth c T locs cells slots) (hx : p.tables.exec = Jvm.exec) {i : Int} (v : Int32) (hd : decode c.code pc = .ok (.bipush i, 2)) (hv : (Int8.ofInt i).toInt32 = v) (hp : pc + 2 = pc') (k : Ow p e below s Q kc ks (T.setTop (mkF m pc' Ls (.int v :: st)))) : Ow p e below s Q kc ks (T.setTop (mkF m pc Ls st)) := by
  subst hp hv; exact Ow.go (XS.bipush X.here hx rfl hd (Steps.refl _)) k
theorem w_sipush (X : Stand p l e R s m args below meth c T locs cells slots) (hx : p.tables.exec = Jvm.exec) {i : Int} (v : Int32) (hd : decode c.code pc = .ok (.sipush i, 3)) (hv : (Int16.ofInt i).toInt32 = v) (hp : pc + 3 = pc') (k : Ow p e below s Q kc ks (T.setTop (mkF m pc' Ls (.int v :: st)))) : Ow p e below s Q kc ks (T.setTop (mkF m pc Ls st)) := by
  subst hp hv; exact Ow.go (XS.sipush X.here hx rfl hd (Steps.refl _)) k
theorem w_ldcI (X : Stand p l e R s m args below meth c T locs cells slots) (hx : p.tables.exec = Jvm.exec) (hZ : Z.Warmed39 s.vm) {own : String} {index : Nat} {v : Int32} (hown : s.vm.findClass own = some m.cls) (w : (Cond.constant own index v).before a0 Z = true) (hd : decode c.code pc = .ok (.ldc index, 2)) (hp : pc + 2 = pc') (k : Ow p e below s Q kc ks (T.setTop (mkF m pc' Ls (.int v :: st)))) : Ow p e below s Q kc ks (T.setTop (mkF m pc Ls st)) := by
  subst hp; exact Ow.via (X.ldcInt hx hown (mvT hZ w) (g := mkF m pc Ls st) rfl hd) k
theorem w_iadd (X : Stand p l e R s m args below meth c T locs cells slots) (hx : p.tables.exec = Jvm.exec) {x y : Int32} (hd : decode c.code pc = .ok (.iadd, 1))  (hp : pc + 1 = pc') (k : Ow p e below s Q kc ks (T.setTop (mkF m pc' Ls (.int (x + y) :: st)))) : Ow p e below s Q kc ks (T.setTop (mkF m pc Ls (.int y :: .int x :: st))) := by
  subst hp; exact Ow.go (XS.iadd X.here hx rfl hd rfl (Steps.refl _)) k
theorem w_isub (X : Stand p l e R s m args below meth c T locs cells slots) (hx : p.tables.exec = Jvm.exec) {x y : Int32} (hd : decode c.code pc = .ok (.isub, 1))  (hp : pc + 1 = pc') (k : Ow p e below s Q kc ks (T.setTop (mkF m pc' Ls (.int (x - y) :: st)))) : Ow p e below s Q kc ks (T.setTop (mkF m pc Ls (.int y :: .int x :: st))) := by
  subst hp; exact Ow.go (XS.isub X.here hx rfl hd rfl (Steps.refl _)) k
theorem w_imul (X : Stand p l e R s m args below meth c T locs cells slots) (hx : p.tables.exec = Jvm.exec) {x y : Int32} (hd : decode c.code pc = .ok (.imul, 1))  (hp : pc + 1 = pc') (k : Ow p e below s Q kc ks (T.setTop (mkF m pc' Ls (.int (x * y) :: st)))) : Ow p e below s Q kc ks (T.setTop (mkF m pc Ls (.int y :: .int x :: st))) := by
  subst hp; exact Ow.go (XS.imul X.here hx rfl hd rfl (Steps.refl _)) k
theorem w_iand (X : Stand p l e R s m args below meth c T locs cells slots) (hx : p.tables.exec = Jvm.exec) {x y : Int32} (hd : decode c.code pc = .ok (.iand, 1))  (hp : pc + 1 = pc') (k : Ow p e below s Q kc ks (T.setTop (mkF m pc' Ls (.int (x &&& y) :: st)))) : Ow p e below s Q kc ks (T.setTop (mkF m pc Ls (.int y :: .int x :: st))) := by
  subst hp; exact Ow.go (XS.iand X.here hx rfl hd rfl (Steps.refl _)) k
theorem w_dup (X : Stand p l e R s m args below meth c T locs cells slots) (hx : p.tables.exec = Jvm.exec) {x : Value} (hd : decode c.code pc = .ok (.dup, 1)) (hc : x.category = 1) (hp : pc + 1 = pc') (k : Ow p e below s Q kc ks (T.setTop (mkF m pc' Ls (x :: x :: st)))) : Ow p e below s Q kc ks (T.setTop (mkF m pc Ls (x :: st))) := by
  subst hp; exact Ow.go (XS.dup X.here hx rfl hd rfl hc (Steps.refl _)) k
theorem w_dup2 (X : Stand p l e R s m args below meth c T locs cells slots) (hx : p.tables.exec = Jvm.exec) {x y : Value} (hd : decode c.code pc = .ok (.dup2, 1)) (hc : x.category = 1) (hc2 : y.category = 1) (hp : pc + 1 = pc') (k : Ow p e below s Q kc ks (T.setTop (mkF m pc' Ls (x :: y :: x :: y :: st)))) : Ow p e below s Q kc ks (T.setTop (mkF m pc Ls (x :: y :: st))) := by
  subst hp; exact Ow.go (XT.dup2 X.here hx rfl hd rfl hc hc2 (Steps.refl _)) k
theorem w_goto (X : Stand p l e R s m args below meth c T locs cells slots) (hx : p.tables.exec = Jvm.exec) {o : Int} (hd : decode c.code pc = .ok (.goto o, 3)) (ho : 0 ≤ (pc : Int) + o) (hp : ((pc : Int) + o).toNat = pc') (k : Ow p e below s Q kc ks (T.setTop (mkF m pc' Ls st))) : Ow p e below s Q kc ks (T.setTop (mkF m pc Ls st)) := by
  exact Ow.go (XS.goto X.here hx rfl (pc0 := pc) rfl hd ho hp (Steps.refl _)) k
theorem w_if_eq (X : Stand p l e R s m args below meth c T locs cells slots) (hx : p.tables.exec = Jvm.exec) {x : Int32} {o : Int} {pcT pcF : Nat} (hd : decode c.code pc = .ok (.ifCond .eq o, 3)) (ho : 0 ≤ (pc : Int) + o) (ht : ((pc : Int) + o).toNat = pcT) (hp : pc + 3 = pcF) (k1 : x = (0 : Int32) → Ow p e below s Q kc ks (T.setTop (mkF m pcT Ls st))) (k2 : ¬ (x = (0 : Int32)) → Ow p e below s Q kc ks (T.setTop (mkF m pcF Ls st))) : Ow p e below s Q kc ks (T.setTop (mkF m pc Ls (.int x :: st))) := by
  subst hp
  by_cases q : x = (0 : Int32)
  · exact Ow.go (XS.ifYes X.here hx rfl (pc0 := pc) rfl hd rfl ((if0 _ _).trans (teq q).1) ho ht (Steps.refl _)) (k1 q)
  · exact Ow.go (XS.ifNo X.here hx rfl hd rfl ((if0 _ _).trans (feq q).1) (Steps.refl _)) (k2 q)
theorem w_icmp_ne (X : Stand p l e R s m args below meth c T locs cells slots) (hx : p.tables.exec = Jvm.exec) {x y : Int32} {o : Int} {pcT pcF : Nat} (hd : decode c.code pc = .ok (.if_icmp .ne o, 3)) (ho : 0 ≤ (pc : Int) + o) (ht : ((pc : Int) + o).toNat = pcT) (hp : pc + 3 = pcF) (k1 : ¬ (x = y) → Ow p e below s Q kc ks (T.setTop (mkF m pcT Ls st))) (k2 : x = y → Ow p e below s Q kc ks (T.setTop (mkF m pcF Ls st))) : Ow p e below s Q kc ks (T.setTop (mkF m pc Ls (.int y :: .int x :: st))) := by
  subst hp
  by_cases q : x = y
  · exact Ow.go (XS.icmpNo X.here hx rfl hd rfl (teq q).2 (Steps.refl _)) (k2 q)
  · exact Ow.go (XS.icmpYes X.here hx rfl (pc0 := pc) rfl hd rfl (feq q).2 ho ht (Steps.refl _)) (k1 q)
theorem w_if_ne (X : Stand p l e R s m args below meth c T locs cells slots) (hx : p.tables.exec = Jvm.exec) {x : Int32} {o : Int} {pcT pcF : Nat} (hd : decode c.code pc = .ok (.ifCond .ne o, 3)) (ho : 0 ≤ (pc : Int) + o) (ht : ((pc : Int) + o).toNat = pcT) (hp : pc + 3 = pcF) (k1 : ¬ (x = (0 : Int32)) → Ow p e below s Q kc ks (T.setTop (mkF m pcT Ls st))) (k2 : x = (0 : Int32) → Ow p e below s Q kc ks (T.setTop (mkF m pcF Ls st))) : Ow p e below s Q kc ks (T.setTop (mkF m pc Ls (.int x :: st))) := by
  subst hp
  by_cases q : x = (0 : Int32)
  · exact Ow.go (XS.ifNo X.here hx rfl hd rfl ((if0 _ _).trans (teq q).2) (Steps.refl _)) (k2 q)
  · exact Ow.go (XS.ifYes X.here hx rfl (pc0 := pc) rfl hd rfl ((if0 _ _).trans (feq q).2) ho ht (Steps.refl _)) (k1 q)
theorem w_icmp_lt (X : Stand p l e R s m args below meth c T locs cells slots) (hx : p.tables.exec = Jvm.exec) {x y : Int32} {o : Int} {pcT pcF : Nat} (hd : decode c.code pc = .ok (.if_icmp .lt o, 3)) (ho : 0 ≤ (pc : Int) + o) (ht : ((pc : Int) + o).toNat = pcT) (hp : pc + 3 = pcF) (k1 : x < y → Ow p e below s Q kc ks (T.setTop (mkF m pcT Ls st))) (k2 : ¬ (x < y) → Ow p e below s Q kc ks (T.setTop (mkF m pcF Ls st))) : Ow p e below s Q kc ks (T.setTop (mkF m pc Ls (.int y :: .int x :: st))) := by
  subst hp
  by_cases q : x < y
  · exact Ow.go (XS.icmpYes X.here hx rfl (pc0 := pc) rfl hd rfl (tlt q).1 ho ht (Steps.refl _)) (k1 q)
  · exact Ow.go (XS.icmpNo X.here hx rfl hd rfl (flt q).1 (Steps.refl _)) (k2 q)
theorem w_icmp_ge (X : Stand p l e R s m args below meth c T locs cells slots) (hx : p.tables.exec = Jvm.exec) {x y : Int32} {o : Int} {pcT pcF : Nat} (hd : decode c.code pc = .ok (.if_icmp .ge o, 3)) (ho : 0 ≤ (pc : Int) + o) (ht : ((pc : Int) + o).toNat = pcT) (hp : pc + 3 = pcF) (k1 : ¬ (x < y) → Ow p e below s Q kc ks (T.setTop (mkF m pcT Ls st))) (k2 : x < y → Ow p e below s Q kc ks (T.setTop (mkF m pcF Ls st))) : Ow p e below s Q kc ks (T.setTop (mkF m pc Ls (.int y :: .int x :: st))) := by
  subst hp
  by_cases q : x < y
  · exact Ow.go (XS.icmpNo X.here hx rfl hd rfl (tlt q).2.1 (Steps.refl _)) (k2 q)
  · exact Ow.go (XS.icmpYes X.here hx rfl (pc0 := pc) rfl hd rfl (flt q).2.1 ho ht (Steps.refl _)) (k1 q)
theorem w_icmp_gt (X : Stand p l e R s m args below meth c T locs cells slots) (hx : p.tables.exec = Jvm.exec) {x y : Int32} {o : Int} {pcT pcF : Nat} (hd : decode c.code pc = .ok (.if_icmp .gt o, 3)) (ho : 0 ≤ (pc : Int) + o) (ht : ((pc : Int) + o).toNat = pcT) (hp : pc + 3 = pcF) (k1 : y < x → Ow p e below s Q kc ks (T.setTop (mkF m pcT Ls st))) (k2 : ¬ (y < x) → Ow p e below s Q kc ks (T.setTop (mkF m pcF Ls st))) : Ow p e below s Q kc ks (T.setTop (mkF m pc Ls (.int y :: .int x :: st))) := by
  subst hp
  by_cases q : y < x
  · exact Ow.go (XS.icmpYes X.here hx rfl (pc0 := pc) rfl hd rfl (tlt q).2.2.1 ho ht (Steps.refl _)) (k1 q)
  · exact Ow.go (XS.icmpNo X.here hx rfl hd rfl (flt q).2.2.1 (Steps.refl _)) (k2 q)
theorem w_ireturn (X : Stand p l e R s m args below meth c T locs cells slots) (hx : p.tables.exec = Jvm.exec) {z : Int32} (hret : meth.sig.returnType = some .int)  (hlk : meth.locks = false) (hc : cells ≤ kc) (hs : slots ≤ ks) (hd : decode c.code pc = .ok (.ireturn, 1)) (hq : Q (some (.int z)) T.heap locs) : Ow p e below s Q kc ks (T.setTop (mkF m pc Ls (.int z :: st))) := by
  obtain ⟨fs, hr, hrun, hended, hW, hsame⟩ := X.leave (v := some (.int z)) (fun h => by rw [hret] at h; cases h) hlk
  exact ⟨_, _, retOut X hx (t := .int) hret rfl (Or.inl ⟨rfl, Or.inl rfl, _, rfl⟩) hd hr, hrun, hended, _, _, rfl, hq, ⟨_, rfl⟩, hW, hsame.mono hc hs⟩
theorem w_zreturn (X : Stand p l e R s m args below meth c T locs cells slots) (hx : p.tables.exec = Jvm.exec) {z : Int32} (hret : meth.sig.returnType = some .boolean) (hz : z = 0 ∨ z = 1) (hlk : meth.locks = false) (hc : cells ≤ kc) (hs : slots ≤ ks) (hd : decode c.code pc = .ok (.ireturn, 1)) (hq : Q (some (.int z)) T.heap locs) : Ow p e below s Q kc ks (T.setTop (mkF m pc Ls (.int z :: st))) := by
  obtain ⟨fs, hr, hrun, hended, hW, hsame⟩ := X.leave (v := some (.int z)) (fun h => by rw [hret] at h; cases h) hlk
  exact ⟨_, _, retOut X hx (t := .boolean) hret (by rcases hz with rfl | rfl <;> rfl) (Or.inl ⟨rfl, Or.inr (Or.inl rfl), _, rfl⟩) hd hr, hrun, hended, _, _, rfl, hq, ⟨_, rfl⟩, hW, hsame.mono hc hs⟩
theorem w_areturn (X : Stand p l e R s m args below meth c T locs cells slots) (hx : p.tables.exec = Jvm.exec) {a : Addr} {t : FieldType} (hret : meth.sig.returnType = some t) (ht : t.isReference = true) (hn : narrow t (.ref a) = .ref a) (hlk : meth.locks = false) (hc : cells ≤ kc) (hs : slots ≤ ks) (hd : decode c.code pc = .ok (.areturn, 1)) (hq : Q (some (.ref a)) T.heap locs) : Ow p e below s Q kc ks (T.setTop (mkF m pc Ls (.ref a :: st))) := by
  obtain ⟨fs, hr, hrun, hended, hW, hsame⟩ := X.leave (v := some (.ref a)) (fun h => by rw [hret] at h; cases h) hlk
  exact ⟨_, _, retOut X hx (t := t) hret hn (Or.inr (Or.inr (Or.inr (Or.inr ⟨rfl, ht, rfl⟩)))) hd hr, hrun, hended, _, _, rfl, hq, ⟨_, rfl⟩, hW, hsame.mono hc hs⟩
theorem w_return (X : Stand p l e R s m args below meth c T locs cells slots) (hx : p.tables.exec = Jvm.exec) (hret : meth.sig.returnType = none) (hlk : meth.locks = false) (hc : cells ≤ kc) (hs : slots ≤ ks) (hd : decode c.code pc = .ok (.return_, 1)) (hq : Q none T.heap locs) : Ow p e below s Q kc ks (T.setTop (mkF m pc Ls [])) := by
  obtain ⟨fs, hr, hrun, hended, hW, hsame⟩ := X.leave (v := none) (fun _ => rfl) hlk
  exact ⟨_, _, X.returnOut hx hret hd hr, hrun, hended, _, _, rfl, hq, ⟨_, rfl⟩, hW, hsame.mono hc hs⟩
theorem w_getfield (X : Stand p l e R s m args below meth c T locs cells slots) (hx : p.tables.exec = Jvm.exec) (hZ : Z.Warmed39 s.vm) {own R0 O n d host : String} {index : Nat} (hown : s.vm.findClass own = some m.cls) (w : (Cond.fieldLink own index R0 n d).before a0 Z = true ∨ (Cond.fieldLinkNest own index R0 n d host).before a0 Z = true) (via : Via Z R0 O n d) (eT : T.heap = h) {a : Addr} {v : Value} (F : Fld Z h a O n d v) (hd : decode c.code pc = .ok (.getfield index, 3)) (hp : pc + 3 = pc') (k : ∀ T', Stand p l e R s m args below meth c T' locs cells slots → T'.heap = h → Ow p e below s Q kc ks (T'.setTop (mkF m pc' Ls (v :: st)))) : Ow p e below s Q kc ks (T.setTop (mkF m pc Ls (.ref a :: st))) := by
  subst hp
  obtain ⟨T', X', e', st'⟩ := getF X hx hZ hown w via eT F (g := mkF m pc Ls (.ref a :: st)) rfl rfl hd
  exact Ow.via st' (k T' X' e')
theorem w_putfield (X : Stand p l e R s m args below meth c T locs cells slots) (hx : p.tables.exec = Jvm.exec) (hZ : Z.Warmed39 s.vm) {own R0 O n d host C : String} {index kk : Nat} {ty : FieldType} (hown : s.vm.findClass own = some m.cls) (w : (Cond.fieldLink own index R0 n d).before a0 Z = true ∨ (Cond.fieldLinkNest own index R0 n d host).before a0 Z = true) (via : Via Z R0 O n d) (eT : T.heap = h) {a : Addr} {v old : Value} (F : Fld Z h a O n d old) (E : Exa Z h a C) (L : (Cond.lays C O n d).before a0 Z = true ∨ ((Cond.laysFinal C O n d).before a0 Z = true ∧ own = O ∧ meth.name = "<init>")) (wi : (Cond.instantiable C kk).before a0 Z = true) (hty : parseFieldDescriptor d = some ty) (hn : narrow ty v = v) (hf : fits ty v = true) (hd : decode c.code pc = .ok (.putfield index, 3)) (hp : pc + 3 = pc') (k : ∀ T' h', Stand p l e R s m args below meth c T' (locs ++ [⟨a, RoadKit.slotOf Z O n d⟩]) cells slots → T'.heap = h' → Wr h h' a (RoadKit.slotOf Z O n d) v → Ow p e below s Q kc ks (T'.setTop (mkF m pc' Ls st))) : Ow p e below s Q kc ks (T.setTop (mkF m pc Ls (v :: .ref a :: st))) := by
  subst hp
  obtain ⟨T', h', X', e', W', st'⟩ := putF X hx hZ hown w via eT F E L wi hty hn hf (g := mkF m pc Ls (v :: .ref a :: st)) rfl rfl hd
  exact Ow.via st' (k T' h' X' e' W')
theorem w_new (X : Stand p l e R s m args below meth c T locs cells slots) (hx : p.tables.exec = Jvm.exec) (hZ : Z.Warmed39 s.vm) {own C : String} {index n : Nat} (hown : s.vm.findClass own = some m.cls) (w : (Cond.classLink own index C).before a0 Z = true) (wi : (Cond.instantiable C n).before a0 Z = true) (wz : (Cond.initialized C).before a0 Z = true) (eT : T.heap = h) (hd : decode c.code pc = .ok (.new index, 3)) (hc : cells + 1 ≤ R.cells) (hl : slots + n ≤ R.slots) (hp : pc + 3 = pc') (k : ∀ T' h' a, a = h.size → Stand p l e R s m args below meth c T' locs (cells + 1) (slots + n) → T'.heap = h' → Ext h h' → Exa Z h' a C → (∀ {O nm d : String} {ty : FieldType}, Laid Z a0 C O nm d → parseFieldDescriptor d = some ty → Fld Z h' a O nm d (defaultValue ty)) → Ow p e below s Q kc ks (T'.setTop (mkF m pc' Ls (.ref a :: st)))) : Ow p e below s Q kc ks (T.setTop (mkF m pc Ls st)) := by
  subst hp
  obtain ⟨T', h', X', e', E', A', D', -, st'⟩ := newO X hx hZ hown w wi wz eT (g := mkF m pc Ls st) rfl hd hc hl
  exact Ow.via st' (k T' h' _ rfl X' e' E' A' D')
theorem w_objinit (X : Stand p l e R s m args below meth c T locs cells slots) (hx : p.tables.exec = Jvm.exec) (hZ : Z.Warmed39 s.vm) {own : String} {idx : Nat} (hown : s.vm.findClass own = some m.cls) (w1 : (Cond.methodLink own idx Lib.objectInit).before a0 Z = true) (w2 : (Cond.instanceMethod Lib.objectInit).before a0 Z = true) (w3 : (Cond.code Lib.objectInit ⟨#[0xb1]⟩ 1 none).before a0 Z = true) (eT : T.heap = h) {a : Addr} (hd : decode c.code pc = .ok (.invokespecial idx, 3)) (hsz : Ls.size = c.maxLocals) (hf : 1 ≤ R.frames) {W : Nat} (hW : (st.map fun v => v.category).sum ≤ W) (hl : W + 12 ≤ R.locals) (hp : pc + 3 = pc') (k : ∀ T', Stand p l e R s m args below meth c T' locs cells slots → T'.heap = h → Ow p e below s Q kc ks (T'.setTop (mkF m pc' Ls st))) : Ow p e below s Q kc ks (T.setTop (mkF m pc Ls (.ref a :: st))) := by
  subst hp
  obtain ⟨T', X', e', st'⟩ := initO X hx hZ hown w1 w2 w3 eT (g := mkF m pc Ls (.ref a :: st)) rfl hsz rfl hd hf (W := W) (by show 2 * 0 + _ ≤ _; omega) hl
  exact Ow.via st' (k T' X' e')
theorem w_callS (X : Stand p l e R s m args below meth c T locs cells slots) (hx : p.tables.exec = Jvm.exec) (hZ : Z.Warmed39 s.vm) {own : String} {index : Nat} {y : MethodName} {bytes : ByteArray} {maxL : Nat} {ret : Option FieldType} (hown : s.vm.findClass own = some m.cls) (w1 : (Cond.methodLink own index y).before a0 Z = true) (w2 : (Cond.static y).before a0 Z = true) (w3 : (Cond.initialized y.cls).before a0 Z = true) (w4 : (Cond.code y bytes maxL ret).before a0 Z = true) (hy : y.cls ≠ "java/lang/invoke/MethodHandle" ∧ y.cls ≠ "java/lang/invoke/VarHandle") {rm : Room} {as' : Array Value} {Qf : Option Value → Heap → List Loc → Prop} {W : Nat} (hM : MetFree l y (head1 [Cond.code y bytes maxL ret] rm) (fun a U => a = as' ∧ Z.Warmed39 U.vm ∧ U.heap = h) (fun _ _ _ _ _ => True) (fun _ U o U' => ∃ v L, o = .returned v ∧ Qf v U'.heap L ∧ FrameEnd U o U' L rm.cells rm.slots)) (eT : T.heap = h) (hf : rm.frames + 1 ≤ R.frames) (hlo : W + (maxL + 11) + rm.locals ≤ R.locals) (hc : cells + rm.cells ≤ R.cells) (hs : slots + rm.slots ≤ R.slots) (hd : decode c.code pc = .ok (.invokestatic index, 3)) (hsz : Ls.size = c.maxLocals) {argsL rest : List Value} {ps : List FieldType} {r : Option FieldType} (pd : parseMethodDescriptor y.desc = some ⟨ps, r⟩) (hlen : argsL.length = ps.length) (hst : st = argsL.reverse ++ rest) (has : argsL.toArray = as') (hW : (rest.map fun v => v.category).sum ≤ W) (hp : pc + 3 = pc') (k : ∀ v T' L, Stand p l e R s m args below meth c T' (locs ++ L) (cells + rm.cells) (slots + rm.slots) → Qf v T'.heap L → Ow p e below s Q kc ks (T'.setTop (mkF m pc' Ls (v.toList ++ rest)))) : Ow p e below s Q kc ks (T.setTop (mkF m pc Ls st)) := by
  subst hp
  obtain ⟨v, vm₁, ⟨T', L', k', n'⟩, -, X', ⟨L, hq, l1, y1, z1⟩, st'⟩ := Jvm.LawKit.callS X hx hown (mvT hZ w1) (mvT hZ w2) (mvT hZ w3) (mvT hZ w4) hy (backOf (W := W) hM hZ w4 w3 hf hlo) (g := mkF m pc Ls st) rfl hsz (argsL := argsL) (rest := rest) (lenOf pd hlen) hst (by show 2 * 0 + _ ≤ _; omega) hd (fun _ _ => ⟨has, eT, hc, hs⟩)
  dsimp only [Pt.U, Pt.locs, Pt.cells, Pt.slots] at X' l1 y1 z1 st' hq
  subst l1 y1 z1
  exact Ow.via st' (k v T' L X' hq)
theorem w_callN (X : Stand p l e R s m args below meth c T locs cells slots) (hx : p.tables.exec = Jvm.exec) (hZ : Z.Warmed39 s.vm) {own : String} {index : Nat} {y : MethodName} {bytes : ByteArray} {maxL : Nat} (hy1 : y.name = "<init>") (hown : s.vm.findClass own = some m.cls) (w1 : (Cond.methodLink own index y).before a0 Z = true) (w2 : (Cond.instanceMethod y).before a0 Z = true) (w3 : (Cond.initialized y.cls).before a0 Z = true) (w4 : (Cond.code y bytes maxL none).before a0 Z = true) (hy : y.cls ≠ "java/lang/invoke/MethodHandle" ∧ y.cls ≠ "java/lang/invoke/VarHandle") {rm : Room} {as' : Array Value} {Qf : Option Value → Heap → List Loc → Prop} {W : Nat} (hM : MetFree l y (head1 [Cond.code y bytes maxL none] rm) (fun a U => a = as' ∧ Z.Warmed39 U.vm ∧ U.heap = h) (fun _ _ _ _ _ => True) (fun _ U o U' => ∃ v L, o = .returned v ∧ Qf v U'.heap L ∧ FrameEnd U o U' L rm.cells rm.slots)) (eT : T.heap = h) (hf : rm.frames + 1 ≤ R.frames) (hlo : W + (maxL + 11) + rm.locals ≤ R.locals) (hc : cells + rm.cells ≤ R.cells) (hs : slots + rm.slots ≤ R.slots) (hd : decode c.code pc = .ok (.invokespecial index, 3)) (hsz : Ls.size = c.maxLocals) {a : Addr} {argsL rest : List Value} {ps : List FieldType} {r : Option FieldType} (pd : parseMethodDescriptor y.desc = some ⟨ps, r⟩) (hlen : argsL.length = ps.length) (hst : st = argsL.reverse ++ .ref a :: rest) (has : (Value.ref a :: argsL).toArray = as') (hW : (rest.map fun v => v.category).sum ≤ W) (hp : pc + 3 = pc') (k : ∀ v T' L, Stand p l e R s m args below meth c T' (locs ++ L) (cells + rm.cells) (slots + rm.slots) → Qf v T'.heap L → Ow p e below s Q kc ks (T'.setTop (mkF m pc' Ls (v.toList ++ rest)))) : Ow p e below s Q kc ks (T.setTop (mkF m pc Ls st)) := by
  subst hp
  obtain ⟨v, vm₁, ⟨T', L', k', n'⟩, -, X', ⟨L, hq, l1, y1, z1⟩, st'⟩ := X.specialBack hx hy1 hown (mvT hZ w1) (mvT hZ w2) (mvT hZ w4) hy (backOf (W := W) hM hZ w4 w3 hf hlo) (g := mkF m pc Ls st) rfl hsz (Steps.refl _) (a := a) (argsL := argsL) (rest := rest) (lenOf pd hlen) hst (by show 2 * 0 + _ ≤ _; omega) hd (fun _ _ => ⟨has, eT, hc, hs⟩)
  dsimp only [Pt.U, Pt.locs, Pt.cells, Pt.slots] at X' l1 y1 z1 st' hq
  subst l1 y1 z1
  exact Ow.go st' (k v T' L X' hq)
theorem w_callV (X : Stand p l e R s m args below meth c T locs cells slots) (hx : p.tables.exec = Jvm.exec) (hZ : Z.Warmed39 s.vm) {own C : String} {index : Nat} {y z : MethodName} {bytes : ByteArray} {maxL : Nat} {ret : Option FieldType} (hown : s.vm.findClass own = some m.cls) (w1 : (Cond.methodLink own index y).before a0 Z = true) (w2 : (Cond.declares y).before a0 Z = true) (nf : NotFace s y) (w5 : (Cond.selects C y z).before a0 Z = true) (w6 : (Cond.instanceMethod z).before a0 Z = true) (w3 : (Cond.initialized z.cls).before a0 Z = true) (w4 : (Cond.code z bytes maxL ret).before a0 Z = true) (hy : y.cls ≠ "java/lang/invoke/MethodHandle" ∧ y.cls ≠ "java/lang/invoke/VarHandle") {rm : Room} {as' : Array Value} {Qf : Option Value → Heap → List Loc → Prop} {W : Nat} (hM : MetFree l z (head1 [Cond.code z bytes maxL ret] rm) (fun a U => a = as' ∧ Z.Warmed39 U.vm ∧ U.heap = h) (fun _ _ _ _ _ => True) (fun _ U o U' => ∃ v L, o = .returned v ∧ Qf v U'.heap L ∧ FrameEnd U o U' L rm.cells rm.slots)) (eT : T.heap = h) (hf : rm.frames + 1 ≤ R.frames) (hlo : W + (maxL + 11) + rm.locals ≤ R.locals) (hc : cells + rm.cells ≤ R.cells) (hs : slots + rm.slots ≤ R.slots) {a : Addr} (E : Exa Z h a C) (hd : decode c.code pc = .ok (.invokevirtual index, 3)) (hsz : Ls.size = c.maxLocals) {argsL rest : List Value} {ps : List FieldType} {r : Option FieldType} (pd : parseMethodDescriptor y.desc = some ⟨ps, r⟩) (hlen : argsL.length = ps.length) (hst : st = argsL.reverse ++ .ref a :: rest) (has : (Value.ref a :: argsL).toArray = as') (hW : (rest.map fun v => v.category).sum ≤ W) (hp : pc + 3 = pc') (k : ∀ v T' L, Stand p l e R s m args below meth c T' (locs ++ L) (cells + rm.cells) (slots + rm.slots) → Qf v T'.heap L → Ow p e below s Q kc ks (T'.setTop (mkF m pc' Ls (v.toList ++ rest)))) : Ow p e below s Q kc ks (T.setTop (mkF m pc Ls st)) := by
  subst hp
  obtain ⟨cB, kB, qa, qb, qc⟩ := isOf hZ eT E
  obtain ⟨v, vm₁, ⟨T', L', k', n'⟩, -, X', ⟨L, hq, l1, y1, z1⟩, st'⟩ := X.virtualBack hx (y := y) (z := z) hown (mvT hZ w1) (mvT hZ w2) nf (mvT hZ w5) (mvT hZ w6) hy (backOf (W := W) hM hZ w4 w3 hf hlo) qa qc (g := mkF m pc Ls st) rfl hsz (Steps.refl _) (argsL := argsL) (rest := rest) (lenOf pd hlen) hst (by show 2 * 0 + _ ≤ _; omega) hd (fun _ _ => ⟨has, eT, hc, hs⟩)
  dsimp only [Pt.U, Pt.locs, Pt.cells, Pt.slots] at X' l1 y1 z1 st' hq
  subst l1 y1 z1
  exact Ow.go st' (k v T' L X' hq)
theorem w_newarray (X : Stand p l e R s m args below meth c T locs cells slots) (hx : p.tables.exec = Jvm.exec) (hZ : Z.Warmed39 s.vm) {aty : ArrayType} (w : (Cond.arrayClass (newarray.typeOf aty)).before a0 Z = true) (eT : T.heap = h) {n : Int32} (hd : decode c.code pc = .ok (.newarray aty, 2)) (hn : ¬ n < 0) {cap : Nat} (hcap : n.toNatClampNeg ≤ cap) (hb : cap * 8 ≤ 536870912) (hc : cells + 1 ≤ R.cells) (hl : slots + cap ≤ R.slots) {ad : String} (had : "[" ++ (newarray.typeOf aty).toString = ad) (hp : pc + 2 = pc') (k : ∀ T' h' a cA, a = h.size → Stand p l e R s m args below meth c T' locs (cells + 1) (slots + cap) → T'.heap = h' → Ext h h' → Arr Z h' a (newA cA (newarray.typeOf aty) n) (newarray.typeOf aty) → Exa Z h' a ad → Ow p e below s Q kc ks (T'.setTop (mkF m pc' Ls (.ref a :: st)))) : Ow p e below s Q kc ks (T.setTop (mkF m pc Ls (.int n :: st))) := by
  subst hp
  obtain ⟨T', h', cA, X', e', E', A', B', st'⟩ := newPE X hx hZ w eT (g := mkF m pc Ls (.int n :: st)) rfl hd rfl hn hcap hb hc hl had
  exact Ow.via st' (k T' h' _ cA rfl X' e' E' A' B')
theorem w_iastore (X : Stand p l e R s m args below meth c T locs cells slots) (hx : p.tables.exec = Jvm.exec) (hZ : Z.Warmed39 s.vm) (eT : T.heap = h) {a : Addr} {cl : Cell} (A : Arr Z h a cl .int) {j x : Int32} (hj : ¬ (j < 0 ∨ cl.slots.size ≤ j.toNatClampNeg)) (hd : decode c.code pc = .ok (.iastore, 1)) (hp : pc + 1 = pc') (k : ∀ T' h', Stand p l e R s m args below meth c T' (locs ++ [⟨a, j.toNatClampNeg⟩]) cells slots → T'.heap = h' → Wr h h' a j.toNatClampNeg (.int x) → Ow p e below s Q kc ks (T'.setTop (mkF m pc' Ls st))) : Ow p e below s Q kc ks (T.setTop (mkF m pc Ls (.int x :: .int j :: .ref a :: st))) := by
  subst hp
  obtain ⟨T', h', X', e', W', st'⟩ := stI X hx hZ eT A hj (g := mkF m pc Ls (.int x :: .int j :: .ref a :: st)) rfl rfl hd
  exact Ow.via st' (k T' h' X' e' W')
theorem w_bastore (X : Stand p l e R s m args below meth c T locs cells slots) (hx : p.tables.exec = Jvm.exec) (hZ : Z.Warmed39 s.vm) (eT : T.heap = h) {a : Addr} {cl : Cell} (A : Arr Z h a cl .byte) {j x : Int32} (hj : ¬ (j < 0 ∨ cl.slots.size ≤ j.toNatClampNeg)) (hd : decode c.code pc = .ok (.bastore, 1)) (hp : pc + 1 = pc') (k : ∀ T' h', Stand p l e R s m args below meth c T' (locs ++ [⟨a, j.toNatClampNeg⟩]) cells slots → T'.heap = h' → Wr h h' a j.toNatClampNeg (.int (nar .byte x)) → Ow p e below s Q kc ks (T'.setTop (mkF m pc' Ls st))) : Ow p e below s Q kc ks (T.setTop (mkF m pc Ls (.int x :: .int j :: .ref a :: st))) := by
  subst hp
  obtain ⟨T', h', X', e', W', st'⟩ := stB X hx hZ eT A hj (g := mkF m pc Ls (.int x :: .int j :: .ref a :: st)) rfl rfl hd
  exact Ow.via st' (k T' h' X' e' W')
theorem w_iaload (X : Stand p l e R s m args below meth c T locs cells slots) (hx : p.tables.exec = Jvm.exec) (hZ : Z.Warmed39 s.vm) (eT : T.heap = h) {a : Addr} {cl : Cell} (A : Arr Z h a cl .int) {j x : Int32} (hj : ¬ (j < 0 ∨ cl.slots.size ≤ j.toNatClampNeg)) (hv : cl.slots[j.toNatClampNeg]? = some (.int x)) (hd : decode c.code pc = .ok (.iaload, 1)) (hp : pc + 1 = pc') (k : Ow p e below s Q kc ks (T.setTop (mkF m pc' Ls (.int x :: st)))) : Ow p e below s Q kc ks (T.setTop (mkF m pc Ls (.int j :: .ref a :: st))) := by
  subst hp
  exact Ow.via (X.iaload hx (j := j) (v := .int x) (by rw [eT]; exact A.1) (State.isArrayOf_alike hZ.alike A.2.1) A.2.2 hj hv (g := mkF m pc Ls (.int j :: .ref a :: st)) rfl rfl hd) k
theorem w_baload (X : Stand p l e R s m args below meth c T locs cells slots) (hx : p.tables.exec = Jvm.exec) (hZ : Z.Warmed39 s.vm) (eT : T.heap = h) {a : Addr} {cl : Cell} (A : Arr Z h a cl .byte) {j x : Int32} (hj : ¬ (j < 0 ∨ cl.slots.size ≤ j.toNatClampNeg)) (hv : cl.slots[j.toNatClampNeg]? = some (.int x)) (hd : decode c.code pc = .ok (.baload, 1)) (hp : pc + 1 = pc') (k : Ow p e below s Q kc ks (T.setTop (mkF m pc' Ls (.int x :: st)))) : Ow p e below s Q kc ks (T.setTop (mkF m pc Ls (.int j :: .ref a :: st))) := by
  subst hp
  exact Ow.via (X.baloadBytes hx (j := j) (v := .int x) (by rw [eT]; exact A.1) (State.isArrayOf_alike hZ.alike A.2.1) A.2.2 hj hv (g := mkF m pc Ls (.int j :: .ref a :: st)) rfl rfl hd) k
theorem w_arraylength (X : Stand p l e R s m args below meth c T locs cells slots) (hx : p.tables.exec = Jvm.exec) (hZ : Z.Warmed39 s.vm) (eT : T.heap = h) {a : Addr} {cl : Cell} {ty : FieldType} (A : Arr Z h a cl ty) {n : Int32} (hn : cl.slots.size.toInt32 = n) (hd : decode c.code pc = .ok (.arraylength, 1)) (hp : pc + 1 = pc') (k : Ow p e below s Q kc ks (T.setTop (mkF m pc' Ls (.int n :: st)))) : Ow p e below s Q kc ks (T.setTop (mkF m pc Ls (.ref a :: st))) := by
  subst hp hn
  exact Ow.via (X.arraylength hx (by rw [eT]; exact A.1) (State.isArrayOf_alike hZ.alike A.2.1) (g := mkF m pc Ls (.ref a :: st)) rfl rfl hd) k
end W
section IA
/-- an array of ints or of bytes: its length, and what lies at each place -/
def IAr (Z : State) (h : Heap) (a : Addr) (ty : FieldType) (n : Nat) (f : Nat → Int32) : Prop := ∃ cl : Cell, Arr Z h a cl ty ∧ cl.slots.size = n ∧ n < 2 ^ 31 ∧ ∀ i, i < n → cl.slots[i]? = some (.int (f i))
variable {Z : State} {h h' : Heap} {a b : Addr} {ty : FieldType} {n i sl : Nat} {f f' : Nat → Int32} {x : Int32} {v : Value} {ws : List Addr}
theorem own_clamp {j : Int32} {i : Nat} (hj : j.toInt = (i : Int)) : j.toNatClampNeg = i := by
  show j.toInt.toNat = i
  rw [hj]; exact Int.toNat_natCast i
theorem own_zero : (0 : Int32).toInt = 0 := by decide
theorem own_inb {j : Int32} {cl : Cell} (hj : j.toInt = (i : Int)) (hs : cl.slots.size = n) (hi : i < n) : ¬ (j < 0 ∨ cl.slots.size ≤ j.toNatClampNeg) := by
  rw [own_clamp hj, hs]
  rintro (q | q)
  · rw [Int32.lt_iff_toInt_lt, hj, own_zero] at q; omega
  · omega
theorem IAr.lt (A : IAr Z h a ty n f) : a < h.size := by obtain ⟨cl, A, -⟩ := A; exact A.lt
theorem IAr.ext (A : IAr Z h a ty n f) (E : Ext h h') : IAr Z h' a ty n f := by obtain ⟨cl, A, r⟩ := A; exact ⟨cl, A.ext E, r⟩
theorem IAr.keep (A : IAr Z h a ty n f) (K : Keep h h' ws) (q : a ∉ ws) : IAr Z h' a ty n f := by obtain ⟨cl, A, r⟩ := A; exact ⟨cl, ⟨K.2.1 a cl A.1 q, A.2⟩, r⟩
theorem IAr.other (A : IAr Z h b ty n f) (W : Wr h h' a sl v) (q : b ≠ a) : IAr Z h' b ty n f := by obtain ⟨cl, A, r⟩ := A; exact ⟨cl, A.other W q, r⟩
theorem IAr.congr (A : IAr Z h a ty n f) (q : ∀ i, i < n → f i = f' i) : IAr Z h a ty n f' := by obtain ⟨cl, A, r1, r2, r3⟩ := A; exact ⟨cl, A, r1, r2, fun i hi => by rw [← q i hi]; exact r3 i hi⟩
theorem own_slot_hit {cl : Cell} {k : Nat} {v : Value} (hk : k < cl.slots.size) : (cl.setSlot k v).slots[k]? = some v := by
  show (cl.slots.setIfInBounds k v)[k]? = some v
  rw [Array.getElem?_setIfInBounds_self_of_lt hk]
theorem own_slot_miss {cl : Cell} {k i : Nat} {v : Value} (q : i ≠ k) : (cl.setSlot i v).slots[k]? = cl.slots[k]? := by
  show (cl.slots.setIfInBounds i v)[k]? = cl.slots[k]?
  rw [Array.getElem?_setIfInBounds_ne q]
theorem IAr.set (A : IAr Z h a ty n f) (W : Wr h h' a i (.int x)) (hi : i < n) : IAr Z h' a ty n (upd f i x) := by
  obtain ⟨cl, A, hs, hn, H⟩ := A
  refine ⟨_, A.same W, by rw [sz_set]; exact hs, hn, fun k hk => ?_⟩
  by_cases q : k = i
  · subst q; rw [own_slot_hit (by omega)]; show _ = some (Value.int (if k = k then x else f k)); rw [if_pos rfl]
  · rw [own_slot_miss (fun z => q z.symm), H k hk]; show _ = some (Value.int (if k = i then x else f k)); rw [if_neg q]
theorem IAr.new {cA : ClassId} {z : Int32} (A : Arr Z h a (newA cA ty z) ty) (hd : defaultValue ty = .int 0) (hz : z.toInt = (n : Int)) : IAr Z h a ty n (fun _ => 0) := by
  have hn : n < 2 ^ 31 := by have := Int32.toInt_lt z; omega
  refine ⟨_, A, by rw [sz_new, own_clamp hz], hn, fun i hi => ?_⟩
  show (Array.replicate z.toNatClampNeg (defaultValue ty))[i]? = _
  rw [own_clamp hz, hd, Array.getElem?_replicate, if_pos hi]
theorem IAr.len (A : IAr Z h a ty n f) : n < 2 ^ 31 := by obtain ⟨cl, -, -, hn, -⟩ := A; exact hn
end IA
section WA
variable {p : Program} {l : Launch} {e : Env} {R : Room} {s : State} {m : MethodId} {args : Array Value} {below : List Frame} {meth : Method} {c : Code} {T : State} {locs : List Loc} {cells slots : Nat} {Q : Option Value → Heap → List Loc → Prop} {kc ks : Nat} {pc pc' : Nat} {Ls Ls' : Array Slot} {st : List Value} {Z : State} {a0 : Array Value} {h : Heap} {a : Addr} {n i : Nat} {f : Nat → Int32} {j x : Int32}
theorem w_ialoadA (X : Stand p l e R s m args below meth c T locs cells slots) (hx : p.tables.exec = Jvm.exec) (hZ : Z.Warmed39 s.vm) (eT : T.heap = h) (A : IAr Z h a .int n f) (i : Nat) (hj : j.toInt = (i : Int)) (hi : i < n) (hd : decode c.code pc = .ok (.iaload, 1)) (hp : pc + 1 = pc') (k : Ow p e below s Q kc ks (T.setTop (mkF m pc' Ls (.int (f i) :: st)))) : Ow p e below s Q kc ks (T.setTop (mkF m pc Ls (.int j :: .ref a :: st))) := by
  obtain ⟨cl, A, hs, hn, H⟩ := A
  exact w_iaload X hx hZ eT A (own_inb hj hs hi) (by rw [own_clamp hj]; exact H i hi) hd hp k
theorem w_baloadA (X : Stand p l e R s m args below meth c T locs cells slots) (hx : p.tables.exec = Jvm.exec) (hZ : Z.Warmed39 s.vm) (eT : T.heap = h) (A : IAr Z h a .byte n f) (i : Nat) (hj : j.toInt = (i : Int)) (hi : i < n) (hd : decode c.code pc = .ok (.baload, 1)) (hp : pc + 1 = pc') (k : Ow p e below s Q kc ks (T.setTop (mkF m pc' Ls (.int (f i) :: st)))) : Ow p e below s Q kc ks (T.setTop (mkF m pc Ls (.int j :: .ref a :: st))) := by
  obtain ⟨cl, A, hs, hn, H⟩ := A
  exact w_baload X hx hZ eT A (own_inb hj hs hi) (by rw [own_clamp hj]; exact H i hi) hd hp k
theorem w_iastoreA (X : Stand p l e R s m args below meth c T locs cells slots) (hx : p.tables.exec = Jvm.exec) (hZ : Z.Warmed39 s.vm) (eT : T.heap = h) (A : IAr Z h a .int n f) (i : Nat) (hj : j.toInt = (i : Int)) (hi : i < n) (hd : decode c.code pc = .ok (.iastore, 1)) (hp : pc + 1 = pc') (k : ∀ T' h', Stand p l e R s m args below meth c T' (locs ++ [⟨a, i⟩]) cells slots → T'.heap = h' → Wr h h' a i (.int x) → IAr Z h' a .int n (upd f i x) → Ow p e below s Q kc ks (T'.setTop (mkF m pc' Ls st))) : Ow p e below s Q kc ks (T.setTop (mkF m pc Ls (.int x :: .int j :: .ref a :: st))) := by
  have A0 := A
  obtain ⟨cl, A, hs, hn, H⟩ := A
  refine w_iastore X hx hZ eT A (own_inb hj hs hi) hd hp ?_
  intro T' h' X' e' W'
  rw [own_clamp hj] at X' W'
  exact k T' h' X' e' W' (A0.set W' hi)
theorem w_bastoreA (X : Stand p l e R s m args below meth c T locs cells slots) (hx : p.tables.exec = Jvm.exec) (hZ : Z.Warmed39 s.vm) (eT : T.heap = h) (A : IAr Z h a .byte n f) (i : Nat) (hj : j.toInt = (i : Int)) (hi : i < n) (hd : decode c.code pc = .ok (.bastore, 1)) (hp : pc + 1 = pc') (k : ∀ T' h', Stand p l e R s m args below meth c T' (locs ++ [⟨a, i⟩]) cells slots → T'.heap = h' → Wr h h' a i (.int (nar .byte x)) → IAr Z h' a .byte n (upd f i (nar .byte x)) → Ow p e below s Q kc ks (T'.setTop (mkF m pc' Ls st))) : Ow p e below s Q kc ks (T.setTop (mkF m pc Ls (.int x :: .int j :: .ref a :: st))) := by
  have A0 := A
  obtain ⟨cl, A, hs, hn, H⟩ := A
  refine w_bastore X hx hZ eT A (own_inb hj hs hi) hd hp ?_
  intro T' h' X' e' W'
  rw [own_clamp hj] at X' W'
  exact k T' h' X' e' W' (A0.set W' hi)
theorem w_lengthA (X : Stand p l e R s m args below meth c T locs cells slots) (hx : p.tables.exec = Jvm.exec) (hZ : Z.Warmed39 s.vm) (eT : T.heap = h) {ty : FieldType} (A : IAr Z h a ty n f) (z : Int32) (hz : z.toInt = (n : Int)) (hd : decode c.code pc = .ok (.arraylength, 1)) (hp : pc + 1 = pc') (k : Ow p e below s Q kc ks (T.setTop (mkF m pc' Ls (.int z :: st)))) : Ow p e below s Q kc ks (T.setTop (mkF m pc Ls (.ref a :: st))) := by
  obtain ⟨cl, A, hs, hn, H⟩ := A
  refine w_arraylength X hx hZ eT A ?_ hd hp k
  rw [hs]; exact Int32.toInt_inj.mp ((len_toInt hn).trans hz.symm)
end WA
section CP
variable {p : Program} {l : Launch} {e : Env} {R : Room} {s : State} {m : MethodId} {args : Array Value} {below : List Frame} {meth : Method} {c : Code} {T : State} {locs : List Loc} {cells slots : Nat} {Q : Option Value → Heap → List Loc → Prop} {kc ks : Nat} {pc pc' : Nat} {Ls : Array Slot} {st : List Value} {Z : State} {a0 : Array Value} {h : Heap} {a b : Addr} {n n' : Nat} {f f' : Nat → Int32}
theorem IAr.arv {z : Int32} (A : IAr Z h a .int n f) (hz : z.toInt = (n : Int)) : ∃ k, Arv Z h a k .int z ((List.range n).map fun i => Value.int (f i)) (.int 0) := by
  obtain ⟨cl, A, hs, hn, H⟩ := A
  have hg : ∀ i, i < n → ((List.range n).map fun i => Value.int (f i)).getD i (.int 0) = .int (f i) := fun i hi => by
    rw [List.getD_eq_getElem?_getD, List.getElem?_map, List.getElem?_range hi]; rfl
  refine ⟨cl.cls, cl, A, rfl, by rw [hs, own_clamp hz], fun q => ?_, fun i hi => ?_, fun i hi => ?_⟩
  · rw [Int32.lt_iff_toInt_lt, hz, own_zero] at q; omega
  · rw [hs] at hi; rw [hg i hi]; exact H i hi
  · rw [hs] at hi; rw [hg i hi]; rfl
theorem IAr.of_arv {z : Int32} {k : ClassId} {vs : List Value} {d : Value} (A : Arv Z h a k .int z vs d) (hz : z.toInt = (n : Int)) (q : ∀ i, i < n → vs.getD i d = .int (f i)) : IAr Z h a .int n f := by
  obtain ⟨cl, A, -, hs, -, H, -⟩ := A
  rw [own_clamp hz] at hs
  exact ⟨cl, A, hs, by have := Int32.toInt_lt z; omega, fun i hi => by rw [H i (by omega), q i hi]⟩
end CP
section CQ
variable {p : Program} {l : Launch} {e : Env} {R : Room} {s : State} {m : MethodId} {args : Array Value} {below : List Frame} {meth : Method} {c : Code} {T : State} {locs : List Loc} {cells slots : Nat} {Q : Option Value → Heap → List Loc → Prop} {kc ks : Nat} {pc pc' : Nat} {Ls : Array Slot} {st : List Value} {Z : State} {a0 : Array Value} {h : Heap} {a b : Addr} {n n' : Nat} {f f' : Nat → Int32}
theorem w_arraycopyA (X : Stand p l e R s m args below meth c T locs cells slots) (hx : p.tables.exec = Jvm.exec) (hZ : Z.Warmed39 s.vm) {own : String} {index : Nat} (hown : s.vm.findClass own = some m.cls)
    (w1 : (Cond.methodLink own index Jvm.Stand.acN).before a0 Z = true) (w2 : (Cond.native Jvm.Stand.acN).before a0 Z = true) (w3 : (Cond.static Jvm.Stand.acN).before a0 Z = true) (w4 : (Cond.initialized "java/lang/System").before a0 Z = true) (eT : T.heap = h)
    (A : IAr Z h a .int n f) (B : IAr Z h b .int n' f') {nn z' : Int32} (hnn : nn.toInt = (n : Int)) (hz' : z'.toInt = (n' : Int)) (hle : n ≤ n') {n0 : Nat} (N : Fr n0 locs) (ge : n0 ≤ b) (hd : decode c.code pc = .ok (.invokestatic index, 3)) (hsz : Ls.size = c.maxLocals)
    (hf : 1 ≤ R.frames) {W : Nat} (hW : (st.map fun v => v.category).sum ≤ W) (hlo : W + (nativeFrameWords "java/lang/System" "arraycopy" 5 + 11) ≤ R.locals) (hp : pc + 3 = pc')
    (k : ∀ T' h' L, Stand p l e R s m args below meth c T' L cells slots → T'.heap = h' → Fr n0 L → Keep h h' [b] → IAr Z h' b .int n' (fun i => if i < n then f i else f' i) → Ow p e below s Q kc ks (T'.setTop (mkF m pc' Ls st))) :
    Ow p e below s Q kc ks (T.setTop (mkF m pc Ls (.int nn :: .int 0 :: .ref b :: .int 0 :: .ref a :: st))) := by
  subst hp
  obtain ⟨kA, VA⟩ := A.arv hnn
  obtain ⟨kB, VB⟩ := B.arv hz'
  have c1 := own_clamp hnn
  have c2 := own_clamp hz'
  have c0 : (0 : Int32).toNatClampNeg = 0 := rfl
  have hn0 : ¬ nn < 0 := fun q => by rw [Int32.lt_iff_toInt_lt, hnn, own_zero] at q; omega
  obtain ⟨T', h', L, X', e', N', K', V', st'⟩ := cpA X hx hZ hown w1 w2 w3 w4 eT VA VB (Or.inl ⟨rfl, rfl⟩) (sp := 0) (dp := 0) (nn := nn) (by decide) (by decide) hn0 (by rw [c0, c1]; omega) (by rw [c0, c1, c2]; omega) rfl (by rw [c0, c1, List.length_map, List.length_range]; omega) N ge (g := mkF m pc Ls (.int nn :: .int 0 :: .ref b :: .int 0 :: .ref a :: st)) rfl hsz rfl hd hf (W := W) (by show 2 * 0 + _ ≤ _; omega) hlo
  refine Ow.via st' (k T' h' L X' e' N' K' (IAr.of_arv V' hz' fun i hi => ?_))
  rw [c0, c1, List.take_zero, List.nil_append, Nat.zero_add, List.getD_eq_getElem?_getD]
  by_cases q : i < n
  · rw [List.getElem?_append_left (by rw [List.length_map, List.length_range]; exact q), List.getElem?_map, List.getElem?_range q]
    show (((List.range n).map fun i => Value.int (f i)).getD (0 + i) (.int 0)) = Value.int (if i < n then f i else f' i)
    rw [Nat.zero_add, if_pos q, List.getD_eq_getElem?_getD, List.getElem?_map, List.getElem?_range q]; rfl
  · rw [List.getElem?_append_right (by rw [List.length_map, List.length_range]; omega), List.length_map, List.length_range, List.getElem?_drop, show n + (i - n) = i by omega, List.getElem?_map, List.getElem?_range hi]
    show Value.int (f' i) = Value.int (if i < n then f i else f' i)
    rw [if_neg q]
end CQ
theorem d6_0 : decode jdk_29_method_65_code 0 = .ok (.iload_n 0, 1) := by decide +kernel
theorem d6_1 : decode jdk_29_method_65_code 1 = .ok (.iload_n 1, 1) := by decide +kernel
theorem d6_2 : decode jdk_29_method_65_code 2 = .ok (.if_icmp .lt 7, 3) := by decide +kernel
theorem d6_9 : decode jdk_29_method_65_code 9 = .ok (.iload_n 1, 1) := by decide +kernel
theorem d6_10 : decode jdk_29_method_65_code 10 = .ok (.ireturn, 1) := by decide +kernel
theorem d6_5 : decode jdk_29_method_65_code 5 = .ok (.iload_n 0, 1) := by decide +kernel
theorem d6_6 : decode jdk_29_method_65_code 6 = .ok (.goto 4, 3) := by decide +kernel
theorem ef_6 (m : MethodId) (p0 : Int32) (p1 : Int32) : entryFrame m #[(.int p0), (.int p1)] 2 = mkF m 0 #[.val (.int p0), .val (.int p1)] [] := by first | (simp [entryFrame, mkF, argsToLocals, Value.category]; done) | rfl
theorem d8_0 : decode jdk_29_method_69_code 0 = .ok (.iload_n 0, 1) := by decide +kernel
theorem d8_1 : decode jdk_29_method_69_code 1 = .ok (.iload_n 1, 1) := by decide +kernel
theorem d8_2 : decode jdk_29_method_69_code 2 = .ok (.if_icmp .gt 7, 3) := by decide +kernel
theorem d8_9 : decode jdk_29_method_69_code 9 = .ok (.iload_n 1, 1) := by decide +kernel
theorem d8_10 : decode jdk_29_method_69_code 10 = .ok (.ireturn, 1) := by decide +kernel
theorem d8_5 : decode jdk_29_method_69_code 5 = .ok (.iload_n 0, 1) := by decide +kernel
theorem d8_6 : decode jdk_29_method_69_code 6 = .ok (.goto 4, 3) := by decide +kernel
theorem ef_8 (m : MethodId) (p0 : Int32) (p1 : Int32) : entryFrame m #[(.int p0), (.int p1)] 2 = mkF m 0 #[.val (.int p0), .val (.int p1)] [] := by first | (simp [entryFrame, mkF, argsToLocals, Value.category]; done) | rfl
theorem d1_0 : decode prog_57_method_1_code 0 = .ok (.aload_n 0, 1) := by decide +kernel
theorem d1_1 : decode prog_57_method_1_code 1 = .ok (.invokespecial 1, 3) := by decide +kernel
theorem d1_4 : decode prog_57_method_1_code 4 = .ok (.aload_n 0, 1) := by decide +kernel
theorem d1_5 : decode prog_57_method_1_code 5 = .ok (.bipush 64, 2) := by decide +kernel
theorem d1_7 : decode prog_57_method_1_code 7 = .ok (.newarray .int, 2) := by decide +kernel
theorem d1_9 : decode prog_57_method_1_code 9 = .ok (.putfield 7, 3) := by decide +kernel
theorem d1_12 : decode prog_57_method_1_code 12 = .ok (.return_, 1) := by decide +kernel
theorem ef_1 (m : MethodId) (a0 : Addr) : entryFrame m #[(.ref a0)] 1 = mkF m 0 #[.val (.ref a0)] [] := by first | (simp [entryFrame, mkF, argsToLocals, Value.category]; done) | rfl
theorem pn_0 : plainName "com/example/hierarchy_from_axioms/hierarchyfromaxioms/reasoner/Occurrences" = true := by first | (simp [plainName, overriddenIn]; done) | decide +kernel
theorem d3_0 : decode prog_57_method_2_code 0 = .ok (.iload_n 1, 1) := by decide +kernel
theorem d3_1 : decode prog_57_method_2_code 1 = .ok (.aload_n 0, 1) := by decide +kernel
theorem d3_2 : decode prog_57_method_2_code 2 = .ok (.getfield 7, 3) := by decide +kernel
theorem d3_5 : decode prog_57_method_2_code 5 = .ok (.arraylength, 1) := by decide +kernel
theorem d3_6 : decode prog_57_method_2_code 6 = .ok (.if_icmp .ge 12, 3) := by decide +kernel
theorem d3_18 : decode prog_57_method_2_code 18 = .ok (.iconst 0, 1) := by decide +kernel
theorem d3_19 : decode prog_57_method_2_code 19 = .ok (.ireturn, 1) := by decide +kernel
theorem d3_9 : decode prog_57_method_2_code 9 = .ok (.aload_n 0, 1) := by decide +kernel
theorem d3_10 : decode prog_57_method_2_code 10 = .ok (.getfield 7, 3) := by decide +kernel
theorem d3_13 : decode prog_57_method_2_code 13 = .ok (.iload_n 1, 1) := by decide +kernel
theorem d3_14 : decode prog_57_method_2_code 14 = .ok (.iaload, 1) := by decide +kernel
theorem d3_15 : decode prog_57_method_2_code 15 = .ok (.goto 4, 3) := by decide +kernel
theorem ef_3 (m : MethodId) (a0 : Addr) (p1 : Int32) : entryFrame m #[(.ref a0), (.int p1)] 2 = mkF m 0 #[.val (.ref a0), .val (.int p1)] [] := by first | (simp [entryFrame, mkF, argsToLocals, Value.category]; done) | rfl
theorem d5_0 : decode prog_57_method_4_code 0 = .ok (.aload_n 0, 1) := by decide +kernel
theorem d5_1 : decode prog_57_method_4_code 1 = .ok (.getfield 7, 3) := by decide +kernel
theorem d5_4 : decode prog_57_method_4_code 4 = .ok (.iload_n 1, 1) := by decide +kernel
theorem d5_5 : decode prog_57_method_4_code 5 = .ok (.dup2, 1) := by decide +kernel
theorem d5_6 : decode prog_57_method_4_code 6 = .ok (.iaload, 1) := by decide +kernel
theorem d5_7 : decode prog_57_method_4_code 7 = .ok (.iconst 1, 1) := by decide +kernel
theorem d5_8 : decode prog_57_method_4_code 8 = .ok (.isub, 1) := by decide +kernel
theorem d5_9 : decode prog_57_method_4_code 9 = .ok (.iastore, 1) := by decide +kernel
theorem d5_10 : decode prog_57_method_4_code 10 = .ok (.return_, 1) := by decide +kernel
theorem ef_5 (m : MethodId) (a0 : Addr) (p1 : Int32) : entryFrame m #[(.ref a0), (.int p1)] 2 = mkF m 0 #[.val (.ref a0), .val (.int p1)] [] := by first | (simp [entryFrame, mkF, argsToLocals, Value.category]; done) | rfl
theorem d7_0 : decode jdk_65_method_123_code 0 = .ok (.iload_n 1, 1) := by decide +kernel
theorem d7_1 : decode jdk_65_method_123_code 1 = .ok (.aload_n 0, 1) := by decide +kernel
theorem d7_2 : decode jdk_65_method_123_code 2 = .ok (.arraylength, 1) := by decide +kernel
theorem d7_3 : decode jdk_65_method_123_code 3 = .ok (.if_icmp .ne 11, 3) := by decide +kernel
theorem d7_14 : decode jdk_65_method_123_code 14 = .ok (.iload_n 1, 1) := by decide +kernel
theorem d7_15 : decode jdk_65_method_123_code 15 = .ok (.newarray .int, 2) := by decide +kernel
theorem d7_17 : decode jdk_65_method_123_code 17 = .ok (.astore_n 2, 1) := by decide +kernel
theorem d7_18 : decode jdk_65_method_123_code 18 = .ok (.aload_n 0, 1) := by decide +kernel
theorem d7_19 : decode jdk_65_method_123_code 19 = .ok (.iconst 0, 1) := by decide +kernel
theorem d7_20 : decode jdk_65_method_123_code 20 = .ok (.aload_n 2, 1) := by decide +kernel
theorem d7_21 : decode jdk_65_method_123_code 21 = .ok (.iconst 0, 1) := by decide +kernel
theorem d7_22 : decode jdk_65_method_123_code 22 = .ok (.aload_n 0, 1) := by decide +kernel
theorem d7_23 : decode jdk_65_method_123_code 23 = .ok (.arraylength, 1) := by decide +kernel
theorem d7_24 : decode jdk_65_method_123_code 24 = .ok (.iload_n 1, 1) := by decide +kernel
theorem d7_25 : decode jdk_65_method_123_code 25 = .ok (.invokestatic 304, 3) := by decide +kernel
theorem pd_0 : parseMethodDescriptor "(II)I" = some ⟨[.int, .int], some .int⟩ := by decide +kernel
theorem d7_28 : decode jdk_65_method_123_code 28 = .ok (.invokestatic 150, 3) := by decide +kernel
theorem d7_31 : decode jdk_65_method_123_code 31 = .ok (.aload_n 2, 1) := by decide +kernel
theorem d7_32 : decode jdk_65_method_123_code 32 = .ok (.areturn, 1) := by decide +kernel
theorem ef_7 (m : MethodId) (a0 : Addr) (p1 : Int32) : entryFrame m #[(.ref a0), (.int p1)] 3 = mkF m 0 #[.val (.ref a0), .val (.int p1), .unset] [] := by first | (simp [entryFrame, mkF, argsToLocals, Value.category]; done) | rfl
theorem pn_1 : plainName "java/util/Arrays" = true := by first | (simp [plainName, overriddenIn]; done) | decide +kernel
theorem d4_0 : decode prog_57_method_3_code 0 = .ok (.iload_n 1, 1) := by decide +kernel
theorem d4_1 : decode prog_57_method_3_code 1 = .ok (.aload_n 0, 1) := by decide +kernel
theorem d4_2 : decode prog_57_method_3_code 2 = .ok (.getfield 7, 3) := by decide +kernel
theorem d4_5 : decode prog_57_method_3_code 5 = .ok (.arraylength, 1) := by decide +kernel
theorem d4_6 : decode prog_57_method_3_code 6 = .ok (.if_icmp .lt 27, 3) := by decide +kernel
theorem d4_33 : decode prog_57_method_3_code 33 = .ok (.aload_n 0, 1) := by decide +kernel
theorem d4_34 : decode prog_57_method_3_code 34 = .ok (.getfield 7, 3) := by decide +kernel
theorem d4_37 : decode prog_57_method_3_code 37 = .ok (.iload_n 1, 1) := by decide +kernel
theorem d4_38 : decode prog_57_method_3_code 38 = .ok (.dup2, 1) := by decide +kernel
theorem d4_39 : decode prog_57_method_3_code 39 = .ok (.iaload, 1) := by decide +kernel
theorem d4_40 : decode prog_57_method_3_code 40 = .ok (.iconst 1, 1) := by decide +kernel
theorem d4_41 : decode prog_57_method_3_code 41 = .ok (.iadd, 1) := by decide +kernel
theorem d4_42 : decode prog_57_method_3_code 42 = .ok (.iastore, 1) := by decide +kernel
theorem d4_43 : decode prog_57_method_3_code 43 = .ok (.return_, 1) := by decide +kernel
theorem d4_9 : decode prog_57_method_3_code 9 = .ok (.aload_n 0, 1) := by decide +kernel
theorem d4_10 : decode prog_57_method_3_code 10 = .ok (.aload_n 0, 1) := by decide +kernel
theorem d4_11 : decode prog_57_method_3_code 11 = .ok (.getfield 7, 3) := by decide +kernel
theorem d4_14 : decode prog_57_method_3_code 14 = .ok (.iload_n 1, 1) := by decide +kernel
theorem d4_15 : decode prog_57_method_3_code 15 = .ok (.iconst 1, 1) := by decide +kernel
theorem d4_16 : decode prog_57_method_3_code 16 = .ok (.iadd, 1) := by decide +kernel
theorem d4_17 : decode prog_57_method_3_code 17 = .ok (.aload_n 0, 1) := by decide +kernel
theorem d4_18 : decode prog_57_method_3_code 18 = .ok (.getfield 7, 3) := by decide +kernel
theorem d4_21 : decode prog_57_method_3_code 21 = .ok (.arraylength, 1) := by decide +kernel
theorem d4_22 : decode prog_57_method_3_code 22 = .ok (.iconst 2, 1) := by decide +kernel
theorem d4_23 : decode prog_57_method_3_code 23 = .ok (.imul, 1) := by decide +kernel
theorem d4_24 : decode prog_57_method_3_code 24 = .ok (.invokestatic 13, 3) := by decide +kernel
theorem pd_1 : parseMethodDescriptor "([II)[I" = some ⟨[(.array .int), .int], some (.array .int)⟩ := by decide +kernel
theorem d4_27 : decode prog_57_method_3_code 27 = .ok (.invokestatic 19, 3) := by decide +kernel
theorem d4_30 : decode prog_57_method_3_code 30 = .ok (.putfield 7, 3) := by decide +kernel
theorem ef_4 (m : MethodId) (a0 : Addr) (p1 : Int32) : entryFrame m #[(.ref a0), (.int p1)] 2 = mkF m 0 #[.val (.ref a0), .val (.int p1)] [] := by first | (simp [entryFrame, mkF, argsToLocals, Value.category]; done) | rfl
/-- Math.max -/
def mxI (p0 : Int32) (p1 : Int32) : Int32 := (if p0 < p1 then p1 else p0)
def Q6 (p0 : Int32) (p1 : Int32) (h0 : Heap) (v : Option Value) (h : Heap) (L : List Loc) : Prop := v = some (.int (mxI p0 p1)) ∧ h = h0 ∧ L = []
set_option maxRecDepth 65536 in
set_option maxHeartbeats 40000000 in
theorem rm6 (l : Launch) (Z : State) (aw : Array Value) (hw : ∀ d ∈ tables_1, d.before aw Z = true) (ws : List Jvm.Cond) (p0 : Int32) (p1 : Int32) (h0 : Heap) :
    MetFree l (⟨"java/lang/Math", "max", "(II)I"⟩ : MethodName) (head1 (Jvm.Cond.code (⟨"java/lang/Math", "max", "(II)I"⟩ : MethodName) jdk_29_method_65_code 2 (some .int) :: ws) ({ frames := 0, cells := 0, slots := 0, locals := 0 } : Room)) (fun a U => a = #[(.int p0), (.int p1)] ∧ Z.Warmed39 U.vm ∧ U.heap = h0) (fun _ _ _ _ _ => True) (fun _ U o U' => ∃ v L, o = .returned v ∧ Q6 p0 p1 h0 v U'.heap L ∧ FrameEnd U o U' L ({ frames := 0, cells := 0, slots := 0, locals := 0 } : Room).cells ({ frames := 0, cells := 0, slots := 0, locals := 0 } : Room).slots) := by
  refine MetFree.of_bodySF (Jvm.Free.JP.mathPlain rfl (by decide +kernel)) hisR ?_
  intro p e s m args below meth c s₁ Bd hml0 hP _hKK
  obtain ⟨rfl, hZ, hh⟩ := hP
  have hx := Bd.exec
  have hby := Bd.bytes
  have hml : c.maxLocals = 2 := hml0
  have hown : s.vm.findClass "java/lang/Math" = some m.cls := findClass_of_methodNamed Bd.named
  have hnm := (name_of_methodNamed Bd.named Bd.method).1
  have X0 : Stand p l e ({ frames := 0, cells := 0, slots := 0, locals := 0 } : Room) s m #[(.int p0), (.int p1)] below meth c s₁ [] 0 0 := Stand.of_body Bd
  have e0 : s₁.heap = h0 := by rw [← hh, Bd.state]; rfl
  refine Ow.enter (Q := Q6 p0 p1 h0) (ef_6 m p0 p1) ?_
  show Ow p e below s _ _ _ (s₁.setTop (mkF m 0 #[.val (.int p0), .val (.int p1)] []))
  refine w_iloadN X0 hx (Jvm.hb hby d6_0) rfl (pc' := 1) rfl ?_
  refine w_iloadN X0 hx (Jvm.hb hby d6_1) rfl (pc' := 2) rfl ?_
  refine w_icmp_lt X0 hx (Jvm.hb hby d6_2) (by decide) (pcT := 9) (by decide) (pcF := 5) rfl (fun hc2_0 => ?_) (fun hc2_0 => ?_)
  · refine w_iloadN X0 hx (Jvm.hb hby d6_9) rfl (pc' := 10) rfl ?_
    exact w_ireturn X0 hx Bd.returns (BodyLoose.notSynchronized Bd) (Nat.le_of_ble_eq_true rfl) (Nat.le_of_ble_eq_true rfl) (Jvm.hb hby d6_10) ⟨congrArg (fun z => some (Value.int z)) (show p1 = mxI p0 p1 from by unfold mxI; rw [if_pos hc2_0]), e0, rfl⟩
  · refine w_iloadN X0 hx (Jvm.hb hby d6_5) rfl (pc' := 6) rfl ?_
    refine w_goto X0 hx (Jvm.hb hby d6_6) (by decide) (pc' := 10) (by decide) ?_
    exact w_ireturn X0 hx Bd.returns (BodyLoose.notSynchronized Bd) (Nat.le_of_ble_eq_true rfl) (Nat.le_of_ble_eq_true rfl) (Jvm.hb hby d6_10) ⟨congrArg (fun z => some (Value.int z)) (show p0 = mxI p0 p1 from by unfold mxI; rw [if_neg hc2_0]), e0, rfl⟩
/-- Math.min -/
def mnI (p0 : Int32) (p1 : Int32) : Int32 := (if p1 < p0 then p1 else p0)
def Q8 (p0 : Int32) (p1 : Int32) (h0 : Heap) (v : Option Value) (h : Heap) (L : List Loc) : Prop := v = some (.int (mnI p0 p1)) ∧ h = h0 ∧ L = []
set_option maxRecDepth 65536 in
set_option maxHeartbeats 40000000 in
theorem rm8 (l : Launch) (Z : State) (aw : Array Value) (hw : ∀ d ∈ tables_1, d.before aw Z = true) (ws : List Jvm.Cond) (p0 : Int32) (p1 : Int32) (h0 : Heap) :
    MetFree l (⟨"java/lang/Math", "min", "(II)I"⟩ : MethodName) (head1 (Jvm.Cond.code (⟨"java/lang/Math", "min", "(II)I"⟩ : MethodName) jdk_29_method_69_code 2 (some .int) :: ws) ({ frames := 0, cells := 0, slots := 0, locals := 0 } : Room)) (fun a U => a = #[(.int p0), (.int p1)] ∧ Z.Warmed39 U.vm ∧ U.heap = h0) (fun _ _ _ _ _ => True) (fun _ U o U' => ∃ v L, o = .returned v ∧ Q8 p0 p1 h0 v U'.heap L ∧ FrameEnd U o U' L ({ frames := 0, cells := 0, slots := 0, locals := 0 } : Room).cells ({ frames := 0, cells := 0, slots := 0, locals := 0 } : Room).slots) := by
  refine MetFree.of_bodySF (Jvm.Free.JP.mathPlain rfl (by decide +kernel)) hisR ?_
  intro p e s m args below meth c s₁ Bd hml0 hP _hKK
  obtain ⟨rfl, hZ, hh⟩ := hP
  have hx := Bd.exec
  have hby := Bd.bytes
  have hml : c.maxLocals = 2 := hml0
  have hown : s.vm.findClass "java/lang/Math" = some m.cls := findClass_of_methodNamed Bd.named
  have hnm := (name_of_methodNamed Bd.named Bd.method).1
  have X0 : Stand p l e ({ frames := 0, cells := 0, slots := 0, locals := 0 } : Room) s m #[(.int p0), (.int p1)] below meth c s₁ [] 0 0 := Stand.of_body Bd
  have e0 : s₁.heap = h0 := by rw [← hh, Bd.state]; rfl
  refine Ow.enter (Q := Q8 p0 p1 h0) (ef_8 m p0 p1) ?_
  show Ow p e below s _ _ _ (s₁.setTop (mkF m 0 #[.val (.int p0), .val (.int p1)] []))
  refine w_iloadN X0 hx (Jvm.hb hby d8_0) rfl (pc' := 1) rfl ?_
  refine w_iloadN X0 hx (Jvm.hb hby d8_1) rfl (pc' := 2) rfl ?_
  refine w_icmp_gt X0 hx (Jvm.hb hby d8_2) (by decide) (pcT := 9) (by decide) (pcF := 5) rfl (fun hc2_0 => ?_) (fun hc2_0 => ?_)
  · refine w_iloadN X0 hx (Jvm.hb hby d8_9) rfl (pc' := 10) rfl ?_
    exact w_ireturn X0 hx Bd.returns (BodyLoose.notSynchronized Bd) (Nat.le_of_ble_eq_true rfl) (Nat.le_of_ble_eq_true rfl) (Jvm.hb hby d8_10) ⟨congrArg (fun z => some (Value.int z)) (show p1 = mnI p0 p1 from by unfold mnI; rw [if_pos hc2_0]), e0, rfl⟩
  · refine w_iloadN X0 hx (Jvm.hb hby d8_5) rfl (pc' := 6) rfl ?_
    refine w_goto X0 hx (Jvm.hb hby d8_6) (by decide) (pc' := 10) (by decide) ?_
    exact w_ireturn X0 hx Bd.returns (BodyLoose.notSynchronized Bd) (Nat.le_of_ble_eq_true rfl) (Nat.le_of_ble_eq_true rfl) (Jvm.hb hby d8_10) ⟨congrArg (fun z => some (Value.int z)) (show p0 = mnI p0 p1 from by unfold mnI; rw [if_neg hc2_0]), e0, rfl⟩
theorem own_nz {n : Nat} (h : n < 2 ^ 31) : ∃ z : Int32, z.toInt = (n : Int) := ⟨Int32.ofNat n, Int32.toInt_ofNat_of_lt h⟩
theorem own_m (x : Int32) : ∃ k : Nat, (x &&& (1023 : Int32)).toInt = (k : Int) ∧ k < 1024 := by
  have h : (x &&& (1023 : Int32)).toInt = x.toInt % 2 ^ 10 := Kit.i32_mask x 1023 (k := 10) (by decide) (by decide)
  exact ⟨(x.toInt % 2 ^ 10).toNat, by rw [h]; omega, by omega⟩
theorem own_q (p3 pk ca cb cc qv : Int32) (qa qb qc : Nat) (ha : ca.toInt = (qa : Int)) (hb : cb.toInt = (qb : Int)) (hc : cc.toInt = (qc : Int))
    (h : qv = (if pk = (0 : Int32) then ca else (if pk = (1 : Int32) then cb else (if pk = (2 : Int32) then cc else (p3 &&& (2147483647 : Int32)))))) : ∃ k : Nat, qv.toInt = (k : Int) := by
  have hm : (p3 &&& (2147483647 : Int32)).toInt = p3.toInt % 2 ^ 31 := Kit.i32_mask p3 2147483647 (k := 31) (by decide) (by decide)
  rw [h]
  by_cases q0 : pk = 0
  · rw [if_pos q0]; exact ⟨qa, ha⟩
  · by_cases q1 : pk = 1
    · rw [if_neg q0, if_pos q1]; exact ⟨qb, hb⟩
    · by_cases q2 : pk = 2
      · rw [if_neg q0, if_neg q1, if_pos q2]; exact ⟨qc, hc⟩
      · rw [if_neg q0, if_neg q1, if_neg q2, hm]; exact ⟨(p3.toInt % 2 ^ 31).toNat, by omega⟩
theorem own_max (p1 nz : Int32) (q n : Nat) (hq : p1.toInt = (q : Int)) (hn : nz.toInt = (n : Int)) (hge : n ≤ q) (hq2 : q < 1024) : ∃ n' : Nat, (mxI (p1 + (1 : Int32)) (nz * (2 : Int32))).toInt = (n' : Int) ∧ n < n' ∧ n' ≤ 2048 ∧ q < n' := by
  have h1 : (p1 + (1 : Int32)).toInt = (q : Int) + 1 := by rw [Kit.i32_add (by rw [hq, show (1 : Int32).toInt = 1 from by decide]; omega) (by rw [hq, show (1 : Int32).toInt = 1 from by decide]; omega), hq]; rfl
  have h2 : (nz * (2 : Int32)).toInt = (n : Int) * 2 := by rw [Kit.i32_mul (by rw [hn, show (2 : Int32).toInt = 2 from by decide]; omega) (by rw [hn, show (2 : Int32).toInt = 2 from by decide]; omega), hn]; rfl
  unfold mxI
  by_cases z : (p1 + (1 : Int32)) < (nz * (2 : Int32))
  · rw [if_pos z, h2]; rw [Int32.lt_iff_toInt_lt, h1, h2] at z; exact ⟨n * 2, by omega, by omega, by omega, by omega⟩
  · rw [if_neg z, h1]; rw [Int32.lt_iff_toInt_lt, h1, h2] at z; exact ⟨q + 1, by omega, by omega, by omega, by omega⟩
theorem own_zup {f g : Nat → Int32} {q n n' : Nat} {x : Int32} (hg : g = upd f q x) (hf : ∀ i, n ≤ i → f i = 0) (hle : n ≤ n') (hq : q < n') : ∀ i, n' ≤ i → g i = 0 := fun i hi => by
  rw [hg]; show (if i = q then x else f i) = 0
  rw [if_neg (by omega)]; exact hf i (by omega)
theorem own_eqn {x y : Int32} {i j : Nat} (hx : x.toInt = (i : Int)) (hy : y.toInt = (j : Int)) : x = y ↔ i = j := by
  rw [← Int32.toInt_inj, hx, hy]; omega
theorem own_upd (f : Nat → Int32) (q : Nat) (x : Int32) (i : Nat) : upd f q x i = if i = q then x else f i := rfl
theorem own_three (qa qb qc qq : Nat) (ca cb cc qv : Int32) (hqa : ca.toInt = (qa : Int)) (hqb : cb.toInt = (qb : Int)) (hqc : cc.toInt = (qc : Int)) (hqq : qv.toInt = (qq : Int)) (f0' f1' f2' : Nat → Int32) (hf0' : f0' = upd (fun _ => 0) qa ((fun _ => 0 : Nat → Int32) qa + (1 : Int32))) (hf1' : f1' = upd f0' qb (f0' qb + (1 : Int32))) (hf2' : f2' = upd f1' qc (f1' qc + (1 : Int32)))
    (e1 e2 e3 : Int32) (he1 : e1 = (if qv = ca then ((0 : Int32) + (1 : Int32)) else (0 : Int32))) (he2 : e2 = (if qv = cb then (e1 + (1 : Int32)) else e1)) (he3 : e3 = (if qv = cc then (e2 + (1 : Int32)) else e2)) : f2' qq = e3 := by
  simp only [own_eqn hqq hqa] at he1; simp only [own_eqn hqq hqb] at he2; simp only [own_eqn hqq hqc] at he3
  have h0 : f0' qq = e1 := by
    rw [hf0', own_upd, he1]
  have h1 : f1' qq = e2 := by
    rw [hf1', own_upd, he2]
    by_cases z : qq = qb
    · rw [if_pos z, if_pos z, ← z, h0]
    · rw [if_neg z, if_neg z, h0]
  rw [hf2', own_upd, he3]
  by_cases z : qq = qc
  · rw [if_pos z, if_pos z, ← z, h1]
  · rw [if_neg z, if_neg z, h1]
theorem own_nodrop (qa qb qc qq : Nat) (ca cb cc qv : Int32) (hqa : ca.toInt = (qa : Int)) (hqb : cb.toInt = (qb : Int)) (hqc : cc.toInt = (qc : Int)) (hqq : qv.toInt = (qq : Int)) (f0' f1' f2' : Nat → Int32) (hf0' : f0' = upd (fun _ => 0) qa ((fun _ => 0 : Nat → Int32) qa + (1 : Int32))) (hf1' : f1' = upd f0' qb (f0' qb + (1 : Int32))) (hf2' : f2' = upd f1' qc (f1' qc + (1 : Int32)))
    (dr : Int32) (hd : dr = (0 : Int32)) (e1 e2 e3 e4 : Int32) (he1 : e1 = (if qv = ca then ((0 : Int32) + (1 : Int32)) else (0 : Int32))) (he2 : e2 = (if qv = cb then (e1 + (1 : Int32)) else e1)) (he3 : e3 = (if qv = cc then (e2 + (1 : Int32)) else e2))
    (he4 : e4 = (if dr = (0 : Int32) then e3 else (if qv = ca then (e3 - (1 : Int32)) else e3))) : (f2' qq) = e4 := by
  rw [he4, if_pos hd]; exact own_three qa qb qc qq ca cb cc qv hqa hqb hqc hqq f0' f1' f2' hf0' hf1' hf2' e1 e2 e3 he1 he2 he3
theorem own_drop (qa qb qc qq : Nat) (ca cb cc qv : Int32) (hqa : ca.toInt = (qa : Int)) (hqb : cb.toInt = (qb : Int)) (hqc : cc.toInt = (qc : Int)) (hqq : qv.toInt = (qq : Int)) (f0' f1' f2' : Nat → Int32) (hf0' : f0' = upd (fun _ => 0) qa ((fun _ => 0 : Nat → Int32) qa + (1 : Int32))) (hf1' : f1' = upd f0' qb (f0' qb + (1 : Int32))) (hf2' : f2' = upd f1' qc (f1' qc + (1 : Int32)))
    (fr : Nat → Int32) (hfr : fr = upd f2' qa (f2' qa - (1 : Int32))) (dr : Int32) (hd : ¬ dr = (0 : Int32)) (e1 e2 e3 e4 : Int32) (he1 : e1 = (if qv = ca then ((0 : Int32) + (1 : Int32)) else (0 : Int32))) (he2 : e2 = (if qv = cb then (e1 + (1 : Int32)) else e1)) (he3 : e3 = (if qv = cc then (e2 + (1 : Int32)) else e2))
    (he4 : e4 = (if dr = (0 : Int32) then e3 else (if qv = ca then (e3 - (1 : Int32)) else e3))) : (fr qq) = e4 := by
  have h := own_three qa qb qc qq ca cb cc qv hqa hqb hqc hqq f0' f1' f2' hf0' hf1' hf2' e1 e2 e3 he1 he2 he3
  rw [he4, if_neg hd, hfr, own_upd]
  simp only [own_eqn hqq hqa]
  by_cases z : qq = qa
  · rw [if_pos z, if_pos z, ← z, h]
  · rw [if_neg z, if_neg z, h]

def Q1 (Z : State) (a0 : Addr) (h0 : Heap) (n0 : Nat) (v : Option Value) (h : Heap) (L : List Loc) : Prop := v = none ∧ Fr n0 L ∧ ∃ b, n0 ≤ b ∧ a0 ≠ b ∧ Keep h0 h [a0] ∧ Fld Z h a0 "com/example/hierarchy_from_axioms/hierarchyfromaxioms/reasoner/Occurrences" "counts" "[I" (.ref b) ∧ IAr Z h b .int 64 (fun _ => 0)
set_option maxRecDepth 65536 in
set_option maxHeartbeats 40000000 in
theorem rm1 (l : Launch) (Z : State) (aw : Array Value) (hw : ∀ d ∈ tables_1, d.before aw Z = true) (ws : List Jvm.Cond) (a0 : Addr) (h0 : Heap) (n0 : Nat) (Z0 : n0 ≤ h0.size) (F : Fld Z h0 a0 "com/example/hierarchy_from_axioms/hierarchyfromaxioms/reasoner/Occurrences" "counts" "[I" .null) (E : Exa Z h0 a0 "com/example/hierarchy_from_axioms/hierarchyfromaxioms/reasoner/Occurrences") (g : n0 ≤ a0) :
    MetFree l (⟨"com/example/hierarchy_from_axioms/hierarchyfromaxioms/reasoner/Occurrences", "<init>", "()V"⟩ : MethodName) (head1 (Jvm.Cond.code (⟨"com/example/hierarchy_from_axioms/hierarchyfromaxioms/reasoner/Occurrences", "<init>", "()V"⟩ : MethodName) prog_57_method_1_code 1 none :: ws) ({ frames := 1, cells := 1, slots := 64, locals := 12 } : Room)) (fun a U => a = #[(.ref a0)] ∧ Z.Warmed39 U.vm ∧ U.heap = h0) (fun _ _ _ _ _ => True) (fun _ U o U' => ∃ v L, o = .returned v ∧ Q1 Z a0 h0 n0 v U'.heap L ∧ FrameEnd U o U' L ({ frames := 1, cells := 1, slots := 64, locals := 12 } : Room).cells ({ frames := 1, cells := 1, slots := 64, locals := 12 } : Room).slots) := by
  refine MetFree.of_bodySF (plainFor_of_name pn_0) hisR ?_
  intro p e s m args below meth c s₁ Bd hml0 hP _hKK
  obtain ⟨rfl, hZ, hh⟩ := hP
  have hx := Bd.exec
  have hby := Bd.bytes
  have hml : c.maxLocals = 1 := hml0
  have hown : s.vm.findClass "com/example/hierarchy_from_axioms/hierarchyfromaxioms/reasoner/Occurrences" = some m.cls := findClass_of_methodNamed Bd.named
  have hnm := (name_of_methodNamed Bd.named Bd.method).1
  have X0 : Stand p l e ({ frames := 1, cells := 1, slots := 64, locals := 12 } : Room) s m #[(.ref a0)] below meth c s₁ [] 0 0 := Stand.of_body Bd
  have e0 : s₁.heap = h0 := by rw [← hh, Bd.state]; rfl
  refine Ow.enter (Q := Q1 Z a0 h0 n0) (ef_1 m a0) ?_
  show Ow p e below s _ _ _ (s₁.setTop (mkF m 0 #[.val (.ref a0)] []))
  refine w_aloadN X0 hx (Jvm.hb hby d1_0) rfl rfl (pc' := 1) rfl ?_
  refine w_objinit X0 hx hZ hown (hw _ (List.mem_of_getElem? (i := 6) rfl)) (hw _ (List.mem_of_getElem? (i := 7) rfl)) (hw _ (List.mem_of_getElem? (i := 8) rfl)) e0 (Jvm.hb hby d1_1) (by rw [hml]; rfl) (by decide) (W := 0) (Nat.le_of_eq rfl) (by decide) (pc' := 4) rfl ?_
  intro T21 X21 e21
  refine w_aloadN X21 hx (Jvm.hb hby d1_4) rfl rfl (pc' := 5) rfl ?_
  refine w_bipush X21 hx (64 : Int32) (Jvm.hb hby d1_5) (by decide) (pc' := 7) rfl ?_
  refine w_newarray X21 hx hZ (hw _ (List.mem_of_getElem? (i := 9) rfl)) e21 (Jvm.hb hby d1_7) (by decide) (cap := 64) (by decide) (by decide) (by decide) (by decide) (ad := "[I") (by decide) (pc' := 9) rfl ?_
  intro T22 h22 a22 c22 g22 X22 e22 E22 A22 B22
  have V22 : IAr Z h22 a22 .int 64 (fun _ => 0) := IAr.new A22 rfl (by decide)
  have ne : a0 ≠ a22 := by rw [g22]; exact Nat.ne_of_lt F.lt
  have G : n0 ≤ a22 := Nat.le_trans Z0 (Nat.le_of_eq g22.symm)
  have E1 := E.ext E22
  have F1 := F.ext E22
  refine w_putfield X22 hx hZ hown (host := "") (Or.inl (hw _ (List.mem_of_getElem? (i := 10) rfl))) Via.refl e22 F1 E1 (Or.inl (hw _ (List.mem_of_getElem? (i := 11) rfl))) (hw _ (List.mem_of_getElem? (i := 1) rfl)) (ty := (.array .int)) (by decide) rfl rfl (Jvm.hb hby d1_9) (pc' := 12) rfl ?_
  intro T23 h23 X23 e23 W23
  have N1 := Fr.snoc X23 (Fr.nil n0) g
  exact w_return X23 hx Bd.returns (BodyLoose.notSynchronized Bd) (Nat.le_of_ble_eq_true rfl) (Nat.le_of_ble_eq_true rfl) (Jvm.hb hby d1_12) ⟨rfl, N1, a22, G, ne, by rw [e23]; exact ⟨((Keep.refl h0 [a0]).ext E22).wr W23 (Or.inl (List.mem_of_getElem? (i := 0) rfl)), F1.same W23, V22.other W23 (Ne.symm ne)⟩⟩
def Q3 (f : Nat → Int32) (q : Nat) (h0 : Heap) (v : Option Value) (h : Heap) (L : List Loc) : Prop := v = some (.int (f q)) ∧ h = h0 ∧ L = []
set_option maxRecDepth 65536 in
set_option maxHeartbeats 40000000 in
theorem rm3 (l : Launch) (Z : State) (aw : Array Value) (hw : ∀ d ∈ tables_1, d.before aw Z = true) (ws : List Jvm.Cond) (a0 : Addr) (p1 : Int32) (b : Addr) (n : Nat) (f : Nat → Int32) (q : Nat) (h0 : Heap) (F : Fld Z h0 a0 "com/example/hierarchy_from_axioms/hierarchyfromaxioms/reasoner/Occurrences" "counts" "[I" (.ref b)) (A : IAr Z h0 b .int n f) (hf0 : ∀ i, n ≤ i → f i = 0) (hq : p1.toInt = (q : Int)) :
    MetFree l (⟨"com/example/hierarchy_from_axioms/hierarchyfromaxioms/reasoner/Occurrences", "of", "(I)I"⟩ : MethodName) (head1 (Jvm.Cond.code (⟨"com/example/hierarchy_from_axioms/hierarchyfromaxioms/reasoner/Occurrences", "of", "(I)I"⟩ : MethodName) prog_57_method_2_code 2 (some .int) :: ws) ({ frames := 0, cells := 0, slots := 0, locals := 0 } : Room)) (fun a U => a = #[(.ref a0), (.int p1)] ∧ Z.Warmed39 U.vm ∧ U.heap = h0) (fun _ _ _ _ _ => True) (fun _ U o U' => ∃ v L, o = .returned v ∧ Q3 f q h0 v U'.heap L ∧ FrameEnd U o U' L ({ frames := 0, cells := 0, slots := 0, locals := 0 } : Room).cells ({ frames := 0, cells := 0, slots := 0, locals := 0 } : Room).slots) := by
  refine MetFree.of_bodySF (plainFor_of_name pn_0) hisR ?_
  intro p e s m args below meth c s₁ Bd hml0 hP _hKK
  obtain ⟨rfl, hZ, hh⟩ := hP
  have hx := Bd.exec
  have hby := Bd.bytes
  have hml : c.maxLocals = 2 := hml0
  have hown : s.vm.findClass "com/example/hierarchy_from_axioms/hierarchyfromaxioms/reasoner/Occurrences" = some m.cls := findClass_of_methodNamed Bd.named
  have hnm := (name_of_methodNamed Bd.named Bd.method).1
  have X0 : Stand p l e ({ frames := 0, cells := 0, slots := 0, locals := 0 } : Room) s m #[(.ref a0), (.int p1)] below meth c s₁ [] 0 0 := Stand.of_body Bd
  have e0 : s₁.heap = h0 := by rw [← hh, Bd.state]; rfl
  refine Ow.enter (Q := Q3 f q h0) (ef_3 m a0 p1) ?_
  show Ow p e below s _ _ _ (s₁.setTop (mkF m 0 #[.val (.ref a0), .val (.int p1)] []))
  obtain ⟨nz, hnz⟩ := own_nz (n := n) A.len
  refine w_iloadN X0 hx (Jvm.hb hby d3_0) rfl (pc' := 1) rfl ?_
  refine w_aloadN X0 hx (Jvm.hb hby d3_1) rfl rfl (pc' := 2) rfl ?_
  refine w_getfield X0 hx hZ hown (host := "") (Or.inl (hw _ (List.mem_of_getElem? (i := 10) rfl))) Via.refl e0 F (Jvm.hb hby d3_2) (pc' := 5) rfl ?_
  intro T24 X24 e24
  refine w_lengthA X24 hx hZ e24 A nz hnz (Jvm.hb hby d3_5) (pc' := 6) rfl ?_
  refine w_icmp_ge X24 hx (Jvm.hb hby d3_6) (by decide) (pcT := 18) (by decide) (pcF := 9) rfl (fun hc => ?_) (fun hc => ?_)
  · refine w_iconst X24 hx (0 : Int32) (Jvm.hb hby d3_18) (by decide) (pc' := 19) rfl ?_
    have hge : n ≤ q := by rw [Int32.lt_iff_toInt_lt, hq, hnz] at hc; omega
    exact w_ireturn X24 hx Bd.returns (BodyLoose.notSynchronized Bd) (Nat.le_of_ble_eq_true rfl) (Nat.le_of_ble_eq_true rfl) (Jvm.hb hby d3_19) ⟨by rw [hf0 q hge], e24, rfl⟩
  · refine w_aloadN X24 hx (Jvm.hb hby d3_9) rfl rfl (pc' := 10) rfl ?_
    refine w_getfield X24 hx hZ hown (host := "") (Or.inl (hw _ (List.mem_of_getElem? (i := 10) rfl))) Via.refl e24 F (Jvm.hb hby d3_10) (pc' := 13) rfl ?_
    intro T25 X25 e25
    refine w_iloadN X25 hx (Jvm.hb hby d3_13) rfl (pc' := 14) rfl ?_
    have hlt : q < n := by rw [Int32.lt_iff_toInt_lt, hq, hnz] at hc; omega
    refine w_ialoadA X25 hx hZ e25 A q hq hlt (Jvm.hb hby d3_14) (pc' := 15) rfl ?_
    refine w_goto X25 hx (Jvm.hb hby d3_15) (by decide) (pc' := 19) (by decide) ?_
    exact w_ireturn X25 hx Bd.returns (BodyLoose.notSynchronized Bd) (Nat.le_of_ble_eq_true rfl) (Nat.le_of_ble_eq_true rfl) (Jvm.hb hby d3_19) ⟨rfl, e25, rfl⟩
def Q5 (Z : State) (a0 b : Addr) (n : Nat) (f : Nat → Int32) (q : Nat) (h0 : Heap) (n0 : Nat) (v : Option Value) (h : Heap) (L : List Loc) : Prop := v = none ∧ Fr n0 L ∧ Keep h0 h [b] ∧ Fld Z h a0 "com/example/hierarchy_from_axioms/hierarchyfromaxioms/reasoner/Occurrences" "counts" "[I" (.ref b) ∧ IAr Z h b .int n (upd f q (f q - (1 : Int32)))
set_option maxRecDepth 65536 in
set_option maxHeartbeats 40000000 in
theorem rm5 (l : Launch) (Z : State) (aw : Array Value) (hw : ∀ d ∈ tables_1, d.before aw Z = true) (ws : List Jvm.Cond) (a0 : Addr) (p1 : Int32) (b : Addr) (n : Nat) (f : Nat → Int32) (q : Nat) (h0 : Heap) (n0 : Nat) (F : Fld Z h0 a0 "com/example/hierarchy_from_axioms/hierarchyfromaxioms/reasoner/Occurrences" "counts" "[I" (.ref b)) (A : IAr Z h0 b .int n f) (ne : a0 ≠ b) (g : n0 ≤ b) (hq : p1.toInt = (q : Int)) (hlt : q < n) :
    MetFree l (⟨"com/example/hierarchy_from_axioms/hierarchyfromaxioms/reasoner/Occurrences", "remove", "(I)V"⟩ : MethodName) (head1 (Jvm.Cond.code (⟨"com/example/hierarchy_from_axioms/hierarchyfromaxioms/reasoner/Occurrences", "remove", "(I)V"⟩ : MethodName) prog_57_method_4_code 2 none :: ws) ({ frames := 0, cells := 0, slots := 0, locals := 0 } : Room)) (fun a U => a = #[(.ref a0), (.int p1)] ∧ Z.Warmed39 U.vm ∧ U.heap = h0) (fun _ _ _ _ _ => True) (fun _ U o U' => ∃ v L, o = .returned v ∧ Q5 Z a0 b n f q h0 n0 v U'.heap L ∧ FrameEnd U o U' L ({ frames := 0, cells := 0, slots := 0, locals := 0 } : Room).cells ({ frames := 0, cells := 0, slots := 0, locals := 0 } : Room).slots) := by
  refine MetFree.of_bodySF (plainFor_of_name pn_0) hisR ?_
  intro p e s m args below meth c s₁ Bd hml0 hP _hKK
  obtain ⟨rfl, hZ, hh⟩ := hP
  have hx := Bd.exec
  have hby := Bd.bytes
  have hml : c.maxLocals = 2 := hml0
  have hown : s.vm.findClass "com/example/hierarchy_from_axioms/hierarchyfromaxioms/reasoner/Occurrences" = some m.cls := findClass_of_methodNamed Bd.named
  have hnm := (name_of_methodNamed Bd.named Bd.method).1
  have X0 : Stand p l e ({ frames := 0, cells := 0, slots := 0, locals := 0 } : Room) s m #[(.ref a0), (.int p1)] below meth c s₁ [] 0 0 := Stand.of_body Bd
  have e0 : s₁.heap = h0 := by rw [← hh, Bd.state]; rfl
  refine Ow.enter (Q := Q5 Z a0 b n f q h0 n0) (ef_5 m a0 p1) ?_
  show Ow p e below s _ _ _ (s₁.setTop (mkF m 0 #[.val (.ref a0), .val (.int p1)] []))
  refine w_aloadN X0 hx (Jvm.hb hby d5_0) rfl rfl (pc' := 1) rfl ?_
  refine w_getfield X0 hx hZ hown (host := "") (Or.inl (hw _ (List.mem_of_getElem? (i := 10) rfl))) Via.refl e0 F (Jvm.hb hby d5_1) (pc' := 4) rfl ?_
  intro T26 X26 e26
  refine w_iloadN X26 hx (Jvm.hb hby d5_4) rfl (pc' := 5) rfl ?_
  refine w_dup2 X26 hx (Jvm.hb hby d5_5) rfl rfl (pc' := 6) rfl ?_
  refine w_ialoadA X26 hx hZ e26 A q hq hlt (Jvm.hb hby d5_6) (pc' := 7) rfl ?_
  refine w_iconst X26 hx (1 : Int32) (Jvm.hb hby d5_7) (by decide) (pc' := 8) rfl ?_
  refine w_isub X26 hx (Jvm.hb hby d5_8) (pc' := 9) rfl ?_
  refine w_iastoreA X26 hx hZ e26 A q hq hlt (Jvm.hb hby d5_9) (pc' := 10) rfl ?_
  intro T27 h27 X27 e27 W27 V27
  have N1 := Fr.snoc X27 (Fr.nil n0) g
  exact w_return X27 hx Bd.returns (BodyLoose.notSynchronized Bd) (Nat.le_of_ble_eq_true rfl) (Nat.le_of_ble_eq_true rfl) (Jvm.hb hby d5_10) ⟨rfl, N1, by rw [e27]; exact ⟨Keep.of_wr W27, F.other W27 (Or.inl ne), V27⟩⟩
def Q7 (Z : State) (n' : Nat) (f : Nat → Int32) (h0 : Heap) (n0 : Nat) (v : Option Value) (h : Heap) (L : List Loc) : Prop := ∃ b, v = some (.ref b) ∧ Fr n0 L ∧ h0.size ≤ b ∧ Keep h0 h [] ∧ IAr Z h b .int n' f
set_option maxRecDepth 65536 in
set_option maxHeartbeats 40000000 in
theorem rm7 (l : Launch) (Z : State) (aw : Array Value) (hw : ∀ d ∈ tables_1, d.before aw Z = true) (ws : List Jvm.Cond) (a0 : Addr) (p1 : Int32) (n n' : Nat) (f : Nat → Int32) (h0 : Heap) (n0 : Nat) (Z0 : n0 ≤ h0.size) (A : IAr Z h0 a0 .int n f) (hf0 : ∀ i, n ≤ i → f i = 0) (hm : p1.toInt = (n' : Int)) (hm1 : n < n') (hm2 : n' ≤ 2048) :
    MetFree l (⟨"java/util/Arrays", "copyOf", "([II)[I"⟩ : MethodName) (head1 (Jvm.Cond.code (⟨"java/util/Arrays", "copyOf", "([II)[I"⟩ : MethodName) jdk_65_method_123_code 3 (some (.array .int)) :: ws) ({ frames := 1, cells := 1, slots := 2048, locals := 40 } : Room)) (fun a U => a = #[(.ref a0), (.int p1)] ∧ Z.Warmed39 U.vm ∧ U.heap = h0) (fun _ _ _ _ _ => True) (fun _ U o U' => ∃ v L, o = .returned v ∧ Q7 Z n' f h0 n0 v U'.heap L ∧ FrameEnd U o U' L ({ frames := 1, cells := 1, slots := 2048, locals := 40 } : Room).cells ({ frames := 1, cells := 1, slots := 2048, locals := 40 } : Room).slots) := by
  refine MetFree.of_bodySF (plainFor_of_name pn_1) hisR ?_
  intro p e s m args below meth c s₁ Bd hml0 hP _hKK
  obtain ⟨rfl, hZ, hh⟩ := hP
  have hx := Bd.exec
  have hby := Bd.bytes
  have hml : c.maxLocals = 3 := hml0
  have hown : s.vm.findClass "java/util/Arrays" = some m.cls := findClass_of_methodNamed Bd.named
  have hnm := (name_of_methodNamed Bd.named Bd.method).1
  have X0 : Stand p l e ({ frames := 1, cells := 1, slots := 2048, locals := 40 } : Room) s m #[(.ref a0), (.int p1)] below meth c s₁ [] 0 0 := Stand.of_body Bd
  have e0 : s₁.heap = h0 := by rw [← hh, Bd.state]; rfl
  refine Ow.enter (Q := Q7 Z n' f h0 n0) (ef_7 m a0 p1) ?_
  show Ow p e below s _ _ _ (s₁.setTop (mkF m 0 #[.val (.ref a0), .val (.int p1), .unset] []))
  obtain ⟨nz, hnz⟩ := own_nz (n := n) A.len
  refine w_iloadN X0 hx (Jvm.hb hby d7_0) rfl (pc' := 1) rfl ?_
  refine w_aloadN X0 hx (Jvm.hb hby d7_1) rfl rfl (pc' := 2) rfl ?_
  refine w_lengthA X0 hx hZ e0 A nz hnz (Jvm.hb hby d7_2) (pc' := 3) rfl ?_
  refine w_icmp_ne X0 hx (Jvm.hb hby d7_3) (by decide) (pcT := 14) (by decide) (pcF := 6) rfl (fun _ => ?_) (fun q => absurd q (show ¬ p1 = nz from fun z => by rw [z, hnz] at hm; omega))
  refine w_iloadN X0 hx (Jvm.hb hby d7_14) rfl (pc' := 15) rfl ?_
  refine w_newarray X0 hx hZ (hw _ (List.mem_of_getElem? (i := 9) rfl)) e0 (Jvm.hb hby d7_15) (fun z => by rw [Int32.lt_iff_toInt_lt, hm, own_zero] at z; omega) (cap := 2048) (by rw [own_clamp hm]; exact hm2) (by decide) (by decide) (by decide) (ad := "[I") (by decide) (pc' := 17) rfl ?_
  intro T28 h28 a28 c28 g28 X28 e28 E28 A28 B28
  have V28 : IAr Z h28 a28 .int n' (fun _ => 0) := IAr.new A28 rfl hm
  have G : n0 ≤ a28 := Nat.le_trans Z0 (Nat.le_of_eq g28.symm)
  have A1 := A.ext E28
  refine w_astoreN X28 hx (Jvm.hb hby d7_17) #[.val (.ref a0), .val (.int p1), .val (.ref a28)] rfl rfl (pc' := 18) rfl ?_
  refine w_aloadN X28 hx (Jvm.hb hby d7_18) rfl rfl (pc' := 19) rfl ?_
  refine w_iconst X28 hx (0 : Int32) (Jvm.hb hby d7_19) (by decide) (pc' := 20) rfl ?_
  refine w_aloadN X28 hx (Jvm.hb hby d7_20) rfl rfl (pc' := 21) rfl ?_
  refine w_iconst X28 hx (0 : Int32) (Jvm.hb hby d7_21) (by decide) (pc' := 22) rfl ?_
  refine w_aloadN X28 hx (Jvm.hb hby d7_22) rfl rfl (pc' := 23) rfl ?_
  refine w_lengthA X28 hx hZ e28 A1 nz hnz (Jvm.hb hby d7_23) (pc' := 24) rfl ?_
  refine w_iloadN X28 hx (Jvm.hb hby d7_24) rfl (pc' := 25) rfl ?_
  refine w_callS X28 hx hZ hown (hw _ (List.mem_of_getElem? (i := 36) rfl)) (hw _ (List.mem_of_getElem? (i := 37) rfl)) (hw _ (List.mem_of_getElem? (i := 30) rfl)) (hw _ (List.mem_of_getElem? (i := 38) rfl)) (by decide) (W := 4) (rm8 l Z aw hw [] nz p1 h28) e28 (by decide) (by decide) (by decide) (by decide) (Jvm.hb hby d7_25) (by rw [hml]; rfl) (argsL := [(.int nz), (.int p1)]) (rest := [(.int (0 : Int32)), (.ref a28), (.int (0 : Int32)), (.ref a0)]) pd_0 rfl rfl rfl (Nat.le_of_eq rfl) (pc' := 28) rfl ?_
  rintro _ T29 L29 X29 ⟨rfl, e29, rfl⟩
  show Ow p e below s _ _ _ (T29.setTop (mkF m 28 #[.val (.ref a0), .val (.int p1), .val (.ref a28)] [(.int (mnI nz p1)), (.int (0 : Int32)), (.ref a28), (.int (0 : Int32)), (.ref a0)]))
  rw [show mnI nz p1 = nz from by unfold mnI; rw [if_neg (fun z => by rw [Int32.lt_iff_toInt_lt, hm, hnz] at z; omega)]]
  show Ow p e below s _ _ _ (T29.setTop (mkF m 28 #[.val (.ref a0), .val (.int p1), .val (.ref a28)] [(.int nz), (.int (0 : Int32)), (.ref a28), (.int (0 : Int32)), (.ref a0)]))
  refine w_arraycopyA X29 hx hZ hown (hw _ (List.mem_of_getElem? (i := 39) rfl)) (hw _ (List.mem_of_getElem? (i := 42) rfl)) (hw _ (List.mem_of_getElem? (i := 40) rfl)) (hw _ (List.mem_of_getElem? (i := 41) rfl)) e29 A1 V28 hnz hm (Nat.le_of_lt hm1) (Fr.nil n0) G (Jvm.hb hby d7_28) (by rw [hml]; rfl) (by decide) (W := 0) (Nat.le_of_eq rfl) (by decide) (pc' := 31) rfl ?_
  intro T30 h30 L30 X30 e30 N30 K30 V30
  refine w_aloadN X30 hx (Jvm.hb hby d7_31) rfl rfl (pc' := 32) rfl ?_
  exact w_areturn X30 hx Bd.returns rfl rfl (BodyLoose.notSynchronized Bd) (Nat.le_of_ble_eq_true rfl) (Nat.le_of_ble_eq_true rfl) (Jvm.hb hby d7_32) ⟨a28, rfl, N30, Nat.le_of_eq g28.symm, by rw [e30]; exact ⟨((Keep.refl h0 []).ext E28).trans K30 (allS (Or.inr (Nat.le_of_eq g28.symm)) all0), V30.congr (fun t ht => if z : t < n then by rw [if_pos z] else by rw [if_neg z, hf0 t (by omega)])⟩⟩
def Q4 (Z : State) (a0 b : Addr) (n : Nat) (f : Nat → Int32) (q : Nat) (h0 : Heap) (n0 : Nat) (v : Option Value) (h : Heap) (L : List Loc) : Prop := v = none ∧ Fr n0 L ∧ ∃ b' n', n0 ≤ b' ∧ a0 ≠ b' ∧ n ≤ n' ∧ n' ≤ 2048 ∧ q < n' ∧ Keep h0 h [a0, b] ∧ Fld Z h a0 "com/example/hierarchy_from_axioms/hierarchyfromaxioms/reasoner/Occurrences" "counts" "[I" (.ref b') ∧ IAr Z h b' .int n' (upd f q (f q + (1 : Int32)))
set_option maxRecDepth 65536 in
set_option maxHeartbeats 40000000 in
theorem rm4 (l : Launch) (Z : State) (aw : Array Value) (hw : ∀ d ∈ tables_1, d.before aw Z = true) (ws : List Jvm.Cond) (a0 : Addr) (p1 : Int32) (b : Addr) (n : Nat) (f : Nat → Int32) (q : Nat) (h0 : Heap) (n0 : Nat) (Z0 : n0 ≤ h0.size) (F : Fld Z h0 a0 "com/example/hierarchy_from_axioms/hierarchyfromaxioms/reasoner/Occurrences" "counts" "[I" (.ref b)) (E : Exa Z h0 a0 "com/example/hierarchy_from_axioms/hierarchyfromaxioms/reasoner/Occurrences") (A : IAr Z h0 b .int n f) (hf0 : ∀ i, n ≤ i → f i = 0) (ne : a0 ≠ b) (g : n0 ≤ a0) (gb : n0 ≤ b) (hq : p1.toInt = (q : Int)) (hq2 : q < 1024) (hn2 : n ≤ 2048) :
    MetFree l (⟨"com/example/hierarchy_from_axioms/hierarchyfromaxioms/reasoner/Occurrences", "add", "(I)V"⟩ : MethodName) (head1 (Jvm.Cond.code (⟨"com/example/hierarchy_from_axioms/hierarchyfromaxioms/reasoner/Occurrences", "add", "(I)V"⟩ : MethodName) prog_57_method_3_code 2 none :: ws) ({ frames := 2, cells := 1, slots := 2048, locals := 55 } : Room)) (fun a U => a = #[(.ref a0), (.int p1)] ∧ Z.Warmed39 U.vm ∧ U.heap = h0) (fun _ _ _ _ _ => True) (fun _ U o U' => ∃ v L, o = .returned v ∧ Q4 Z a0 b n f q h0 n0 v U'.heap L ∧ FrameEnd U o U' L ({ frames := 2, cells := 1, slots := 2048, locals := 55 } : Room).cells ({ frames := 2, cells := 1, slots := 2048, locals := 55 } : Room).slots) := by
  refine MetFree.of_bodySF (plainFor_of_name pn_0) hisR ?_
  intro p e s m args below meth c s₁ Bd hml0 hP _hKK
  obtain ⟨rfl, hZ, hh⟩ := hP
  have hx := Bd.exec
  have hby := Bd.bytes
  have hml : c.maxLocals = 2 := hml0
  have hown : s.vm.findClass "com/example/hierarchy_from_axioms/hierarchyfromaxioms/reasoner/Occurrences" = some m.cls := findClass_of_methodNamed Bd.named
  have hnm := (name_of_methodNamed Bd.named Bd.method).1
  have X0 : Stand p l e ({ frames := 2, cells := 1, slots := 2048, locals := 55 } : Room) s m #[(.ref a0), (.int p1)] below meth c s₁ [] 0 0 := Stand.of_body Bd
  have e0 : s₁.heap = h0 := by rw [← hh, Bd.state]; rfl
  refine Ow.enter (Q := Q4 Z a0 b n f q h0 n0) (ef_4 m a0 p1) ?_
  show Ow p e below s _ _ _ (s₁.setTop (mkF m 0 #[.val (.ref a0), .val (.int p1)] []))
  obtain ⟨nz, hnz⟩ := own_nz (n := n) A.len
  refine w_iloadN X0 hx (Jvm.hb hby d4_0) rfl (pc' := 1) rfl ?_
  refine w_aloadN X0 hx (Jvm.hb hby d4_1) rfl rfl (pc' := 2) rfl ?_
  refine w_getfield X0 hx hZ hown (host := "") (Or.inl (hw _ (List.mem_of_getElem? (i := 10) rfl))) Via.refl e0 F (Jvm.hb hby d4_2) (pc' := 5) rfl ?_
  intro T31 X31 e31
  refine w_lengthA X31 hx hZ e31 A nz hnz (Jvm.hb hby d4_5) (pc' := 6) rfl ?_
  refine w_icmp_lt X31 hx (Jvm.hb hby d4_6) (by decide) (pcT := 33) (by decide) (pcF := 9) rfl (fun hc => ?_) (fun hc => ?_)
  · have hlt : q < n := by rw [Int32.lt_iff_toInt_lt, hq, hnz] at hc; omega
    refine w_aloadN X31 hx (Jvm.hb hby d4_33) rfl rfl (pc' := 34) rfl ?_
    refine w_getfield X31 hx hZ hown (host := "") (Or.inl (hw _ (List.mem_of_getElem? (i := 10) rfl))) Via.refl e31 F (Jvm.hb hby d4_34) (pc' := 37) rfl ?_
    intro T32 X32 e32
    refine w_iloadN X32 hx (Jvm.hb hby d4_37) rfl (pc' := 38) rfl ?_
    refine w_dup2 X32 hx (Jvm.hb hby d4_38) rfl rfl (pc' := 39) rfl ?_
    refine w_ialoadA X32 hx hZ e32 A q hq hlt (Jvm.hb hby d4_39) (pc' := 40) rfl ?_
    refine w_iconst X32 hx (1 : Int32) (Jvm.hb hby d4_40) (by decide) (pc' := 41) rfl ?_
    refine w_iadd X32 hx (Jvm.hb hby d4_41) (pc' := 42) rfl ?_
    refine w_iastoreA X32 hx hZ e32 A q hq hlt (Jvm.hb hby d4_42) (pc' := 43) rfl ?_
    intro T33 h33 X33 e33 W33 V33
    have NN := Fr.snoc X33 (Fr.nil n0) gb
    exact w_return X33 hx Bd.returns (BodyLoose.notSynchronized Bd) (Nat.le_of_ble_eq_true rfl) (Nat.le_of_ble_eq_true rfl) (Jvm.hb hby d4_43) ⟨rfl, NN, b, n, gb, ne, Nat.le_refl _, hn2, hlt, by rw [e33]; exact ⟨(Keep.refl h0 [a0, b]).wr W33 (Or.inl (List.mem_of_getElem? (i := 1) rfl)), F.other W33 (Or.inl ne), V33⟩⟩
  · have hge : n ≤ q := by rw [Int32.lt_iff_toInt_lt, hq, hnz] at hc; omega
    refine w_aloadN X31 hx (Jvm.hb hby d4_9) rfl rfl (pc' := 10) rfl ?_
    refine w_aloadN X31 hx (Jvm.hb hby d4_10) rfl rfl (pc' := 11) rfl ?_
    refine w_getfield X31 hx hZ hown (host := "") (Or.inl (hw _ (List.mem_of_getElem? (i := 10) rfl))) Via.refl e31 F (Jvm.hb hby d4_11) (pc' := 14) rfl ?_
    intro T34 X34 e34
    refine w_iloadN X34 hx (Jvm.hb hby d4_14) rfl (pc' := 15) rfl ?_
    refine w_iconst X34 hx (1 : Int32) (Jvm.hb hby d4_15) (by decide) (pc' := 16) rfl ?_
    refine w_iadd X34 hx (Jvm.hb hby d4_16) (pc' := 17) rfl ?_
    refine w_aloadN X34 hx (Jvm.hb hby d4_17) rfl rfl (pc' := 18) rfl ?_
    refine w_getfield X34 hx hZ hown (host := "") (Or.inl (hw _ (List.mem_of_getElem? (i := 10) rfl))) Via.refl e34 F (Jvm.hb hby d4_18) (pc' := 21) rfl ?_
    intro T35 X35 e35
    refine w_lengthA X35 hx hZ e35 A nz hnz (Jvm.hb hby d4_21) (pc' := 22) rfl ?_
    refine w_iconst X35 hx (2 : Int32) (Jvm.hb hby d4_22) (by decide) (pc' := 23) rfl ?_
    refine w_imul X35 hx (Jvm.hb hby d4_23) (pc' := 24) rfl ?_
    obtain ⟨n', hm, hm1, hm2, hm3⟩ := own_max p1 nz q n hq hnz hge hq2
    refine w_callS X35 hx hZ hown (hw _ (List.mem_of_getElem? (i := 28) rfl)) (hw _ (List.mem_of_getElem? (i := 29) rfl)) (hw _ (List.mem_of_getElem? (i := 30) rfl)) (hw _ (List.mem_of_getElem? (i := 31) rfl)) (by decide) (W := 2) (rm6 l Z aw hw [] (p1 + (1 : Int32)) (nz * (2 : Int32)) h0) e35 (by decide) (by decide) (by decide) (by decide) (Jvm.hb hby d4_24) (by rw [hml]; rfl) (argsL := [(.int (p1 + (1 : Int32))), (.int (nz * (2 : Int32)))]) (rest := [(.ref b), (.ref a0)]) pd_0 rfl rfl rfl (Nat.le_of_eq rfl) (pc' := 27) rfl ?_
    rintro _ T36 L36 X36 ⟨rfl, e36, rfl⟩
    show Ow p e below s _ _ _ (T36.setTop (mkF m 27 #[.val (.ref a0), .val (.int p1)] [(.int (mxI (p1 + (1 : Int32)) (nz * (2 : Int32)))), (.ref b), (.ref a0)]))
    refine w_callS X36 hx hZ hown (hw _ (List.mem_of_getElem? (i := 32) rfl)) (hw _ (List.mem_of_getElem? (i := 33) rfl)) (hw _ (List.mem_of_getElem? (i := 34) rfl)) (hw _ (List.mem_of_getElem? (i := 35) rfl)) (by decide) (W := 1) (rm7 l Z aw hw [] b (mxI (p1 + (1 : Int32)) (nz * (2 : Int32))) n n' f h0 n0 Z0 A hf0 hm hm1 hm2) e36 (by decide) (by decide) (by decide) (by decide) (Jvm.hb hby d4_27) (by rw [hml]; rfl) (argsL := [(.ref b), (.int (mxI (p1 + (1 : Int32)) (nz * (2 : Int32))))]) (rest := [(.ref a0)]) pd_1 rfl rfl rfl (Nat.le_of_eq rfl) (pc' := 30) rfl ?_
    rintro _ T37 L37 X37 ⟨b', rfl, N37, hb', K37, V37⟩
    show Ow p e below s _ _ _ (T37.setTop (mkF m 30 #[.val (.ref a0), .val (.int p1)] [(.ref b'), (.ref a0)]))
    have ne' : a0 ≠ b' := Nat.ne_of_lt (Nat.lt_of_lt_of_le F.lt hb')
    have F37 := F.keep K37 nin0
    have E37 := E.keep K37
    have gb' : n0 ≤ b' := Nat.le_trans Z0 hb'
    refine w_putfield X37 hx hZ hown (host := "") (Or.inl (hw _ (List.mem_of_getElem? (i := 10) rfl))) Via.refl rfl F37 E37 (Or.inl (hw _ (List.mem_of_getElem? (i := 11) rfl))) (hw _ (List.mem_of_getElem? (i := 1) rfl)) (ty := (.array .int)) (by decide) rfl rfl (Jvm.hb hby d4_30) (pc' := 33) rfl ?_
    intro T38 h38 X38 e38 W38
    have F38 := F37.same W38
    have V38 := V37.other W38 (Ne.symm ne')
    have N38' := Fr.snoc X38 (Fr.app (Fr.nil n0) N37) g
    have K38 : Keep h0 h38 [a0, b] := ((Keep.refl h0 [a0, b]).trans K37 all0).wr W38 (Or.inl (List.mem_of_getElem? (i := 0) rfl))
    have hlt : q < n' := hm3
    refine w_aloadN X38 hx (Jvm.hb hby d4_33) rfl rfl (pc' := 34) rfl ?_
    refine w_getfield X38 hx hZ hown (host := "") (Or.inl (hw _ (List.mem_of_getElem? (i := 10) rfl))) Via.refl e38 F38 (Jvm.hb hby d4_34) (pc' := 37) rfl ?_
    intro T39 X39 e39
    refine w_iloadN X39 hx (Jvm.hb hby d4_37) rfl (pc' := 38) rfl ?_
    refine w_dup2 X39 hx (Jvm.hb hby d4_38) rfl rfl (pc' := 39) rfl ?_
    refine w_ialoadA X39 hx hZ e39 V38 q hq hlt (Jvm.hb hby d4_39) (pc' := 40) rfl ?_
    refine w_iconst X39 hx (1 : Int32) (Jvm.hb hby d4_40) (by decide) (pc' := 41) rfl ?_
    refine w_iadd X39 hx (Jvm.hb hby d4_41) (pc' := 42) rfl ?_
    refine w_iastoreA X39 hx hZ e39 V38 q hq hlt (Jvm.hb hby d4_42) (pc' := 43) rfl ?_
    intro T40 h40 X40 e40 W40 V40
    have NN := Fr.snoc X40 N38' gb'
    exact w_return X40 hx Bd.returns (BodyLoose.notSynchronized Bd) (Nat.le_of_ble_eq_true rfl) (Nat.le_of_ble_eq_true rfl) (Jvm.hb hby d4_43) ⟨rfl, NN, b', n', gb', ne', Nat.le_of_lt hm1, hm2, hlt, by rw [e40]; exact ⟨K38.wr W40 (Or.inr hb'), F38.other W40 (Or.inl ne'), V40⟩⟩
theorem pd_2 : parseMethodDescriptor "()V" = some ⟨[], none⟩ := by decide +kernel
theorem pd_3 : parseMethodDescriptor "(I)I" = some ⟨[.int], some .int⟩ := by decide +kernel
theorem pd_4 : parseMethodDescriptor "(I)V" = some ⟨[.int], none⟩ := by decide +kernel
theorem ef_0 (m : MethodId) (p0 : Int32) (p1 : Int32) (p2 : Int32) (p3 : Int32) (p4 : Int32) : entryFrame m #[(.int p0), (.int p1), (.int p2), (.int p3), (.int p4)] maxLocals = mkF m 0 #[.val (.int p0), .val (.int p1), .val (.int p2), .val (.int p3), .val (.int p4), .unset, .unset, .unset, .unset, .unset, .unset, .unset, .unset, .unset] [] := by first | (simp [entryFrame, mkF, argsToLocals, Value.category, maxLocals]; done) | rfl
theorem pn_2 : plainName "com/example/hierarchy_from_axioms/hierarchyfromaxioms/reasoner/OccurrencesOfPinLaw" = true := by first | (simp [plainName, overriddenIn]; done) | decide +kernel
def Q0 (n0 : Nat) (v : Option Value) (h : Heap) (L : List Loc) : Prop := v = some (.int 1) ∧ Fr n0 L
set_option maxRecDepth 65536 in
set_option maxHeartbeats 40000000 in
theorem rm0 (l : Launch) (Z : State) (aw : Array Value) (hw : ∀ d ∈ tables_1, d.before aw Z = true) (ws : List Jvm.Cond) (p0 : Int32) (p1 : Int32) (p2 : Int32) (p3 : Int32) (p4 : Int32) (h0 : Heap) (n0 : Nat) (Z0 : n0 ≤ h0.size) :
    MetFree l x (head1 (Jvm.Cond.code x code maxLocals ret :: ws) room_1) (fun a U => a = #[(.int p0), (.int p1), (.int p2), (.int p3), (.int p4)] ∧ Z.Warmed39 U.vm ∧ U.heap = h0) (fun _ _ _ _ _ => True) (fun _ U o U' => ∃ v L, o = .returned v ∧ Q0 n0 v U'.heap L ∧ FrameEnd U o U' L 24 6336) := by
  refine MetFree.of_bodySF (plainFor_of_name pn_2) hisR ?_
  intro p e s m args below meth c s₁ Bd hml0 hP _hKK
  obtain ⟨rfl, hZ, hh⟩ := hP
  have hx := Bd.exec
  have hby := Bd.bytes
  have hml : c.maxLocals = 14 := hml0
  have hown : s.vm.findClass "com/example/hierarchy_from_axioms/hierarchyfromaxioms/reasoner/OccurrencesOfPinLaw" = some m.cls := findClass_of_methodNamed Bd.named
  have hnm := (name_of_methodNamed Bd.named Bd.method).1
  have X0 : Stand p l e room_1 s m #[(.int p0), (.int p1), (.int p2), (.int p3), (.int p4)] below meth c s₁ [] 0 0 := Stand.of_body Bd
  have e0 : s₁.heap = h0 := by rw [← hh, Bd.state]; rfl
  refine Ow.enter (Q := Q0 n0) (ef_0 m p0 p1 p2 p3 p4) ?_
  show Ow p e below s _ _ _ (s₁.setTop (mkF m 0 #[.val (.int p0), .val (.int p1), .val (.int p2), .val (.int p3), .val (.int p4), .unset, .unset, .unset, .unset, .unset, .unset, .unset, .unset, .unset] []))
  refine w_iloadN X0 hx (Jvm.hb hby at_0) rfl (pc' := 1) rfl ?_
  refine w_sipush X0 hx (1023 : Int32) (Jvm.hb hby at_1) (by decide) (pc' := 4) rfl ?_
  refine w_iand X0 hx (Jvm.hb hby at_4) (pc' := 5) rfl ?_
  refine w_istore X0 hx (Jvm.hb hby at_5) #[.val (.int p0), .val (.int p1), .val (.int p2), .val (.int p3), .val (.int p4), .val (.int (p0 &&& (1023 : Int32))), .unset, .unset, .unset, .unset, .unset, .unset, .unset, .unset] rfl  (pc' := 7) rfl ?_
  refine w_iloadN X0 hx (Jvm.hb hby at_7) rfl (pc' := 8) rfl ?_
  refine w_sipush X0 hx (1023 : Int32) (Jvm.hb hby at_8) (by decide) (pc' := 11) rfl ?_
  refine w_iand X0 hx (Jvm.hb hby at_11) (pc' := 12) rfl ?_
  refine w_istore X0 hx (Jvm.hb hby at_12) #[.val (.int p0), .val (.int p1), .val (.int p2), .val (.int p3), .val (.int p4), .val (.int (p0 &&& (1023 : Int32))), .val (.int (p1 &&& (1023 : Int32))), .unset, .unset, .unset, .unset, .unset, .unset, .unset] rfl  (pc' := 14) rfl ?_
  refine w_iloadN X0 hx (Jvm.hb hby at_14) rfl (pc' := 15) rfl ?_
  refine w_sipush X0 hx (1023 : Int32) (Jvm.hb hby at_15) (by decide) (pc' := 18) rfl ?_
  refine w_iand X0 hx (Jvm.hb hby at_18) (pc' := 19) rfl ?_
  refine w_istore X0 hx (Jvm.hb hby at_19) #[.val (.int p0), .val (.int p1), .val (.int p2), .val (.int p3), .val (.int p4), .val (.int (p0 &&& (1023 : Int32))), .val (.int (p1 &&& (1023 : Int32))), .val (.int (p2 &&& (1023 : Int32))), .unset, .unset, .unset, .unset, .unset, .unset] rfl  (pc' := 21) rfl ?_
  refine w_iload X0 hx (Jvm.hb hby at_21) rfl (pc' := 23) rfl ?_
  refine w_iconst X0 hx (3 : Int32) (Jvm.hb hby at_23) (by decide) (pc' := 24) rfl ?_
  refine w_iand X0 hx (Jvm.hb hby at_24) (pc' := 25) rfl ?_
  refine w_istore X0 hx (Jvm.hb hby at_25) #[.val (.int p0), .val (.int p1), .val (.int p2), .val (.int p3), .val (.int p4), .val (.int (p0 &&& (1023 : Int32))), .val (.int (p1 &&& (1023 : Int32))), .val (.int (p2 &&& (1023 : Int32))), .val (.int (p4 &&& (3 : Int32))), .unset, .unset, .unset, .unset, .unset] rfl  (pc' := 27) rfl ?_
  obtain ⟨dr, hdr⟩ : ∃ v : Int32, v = (if (p4 &&& (4 : Int32)) = (0 : Int32) then (0 : Int32) else (1 : Int32)) := ⟨_, rfl⟩
  refine Ow.join s₁ (mkF m 41 #[.val (.int p0), .val (.int p1), .val (.int p2), .val (.int p3), .val (.int p4), .val (.int (p0 &&& (1023 : Int32))), .val (.int (p1 &&& (1023 : Int32))), .val (.int (p2 &&& (1023 : Int32))), .val (.int (p4 &&& (3 : Int32))), .val (.int dr), .unset, .unset, .unset, .unset] []) (fun K => ?_) ?_
  · refine w_iload X0 hx (Jvm.hb hby at_27) rfl (pc' := 29) rfl ?_
    refine w_iconst X0 hx (4 : Int32) (Jvm.hb hby at_29) (by decide) (pc' := 30) rfl ?_
    refine w_iand X0 hx (Jvm.hb hby at_30) (pc' := 31) rfl ?_
    refine w_if_eq X0 hx (Jvm.hb hby at_31) (by decide) (pcT := 38) (by decide) (pcF := 34) rfl (fun hj31_0 => ?_) (fun hj31_0 => ?_)
    · refine w_iconst X0 hx (0 : Int32) (Jvm.hb hby at_38) (by decide) (pc' := 39) rfl ?_
      refine w_istore X0 hx (Jvm.hb hby at_39) #[.val (.int p0), .val (.int p1), .val (.int p2), .val (.int p3), .val (.int p4), .val (.int (p0 &&& (1023 : Int32))), .val (.int (p1 &&& (1023 : Int32))), .val (.int (p2 &&& (1023 : Int32))), .val (.int (p4 &&& (3 : Int32))), .val (.int (0 : Int32)), .unset, .unset, .unset, .unset] rfl  (pc' := 41) rfl ?_
      rw [hdr, if_pos hj31_0] at K; exact K
    · refine w_iconst X0 hx (1 : Int32) (Jvm.hb hby at_34) (by decide) (pc' := 35) rfl ?_
      refine w_goto X0 hx (Jvm.hb hby at_35) (by decide) (pc' := 39) (by decide) ?_
      refine w_istore X0 hx (Jvm.hb hby at_39) #[.val (.int p0), .val (.int p1), .val (.int p2), .val (.int p3), .val (.int p4), .val (.int (p0 &&& (1023 : Int32))), .val (.int (p1 &&& (1023 : Int32))), .val (.int (p2 &&& (1023 : Int32))), .val (.int (p4 &&& (3 : Int32))), .val (.int (1 : Int32)), .unset, .unset, .unset, .unset] rfl  (pc' := 41) rfl ?_
      rw [hdr, if_neg hj31_0] at K; exact K
  obtain ⟨qv, hqv⟩ : ∃ v : Int32, v = (if (p4 &&& (3 : Int32)) = (0 : Int32) then (p0 &&& (1023 : Int32)) else (if (p4 &&& (3 : Int32)) = (1 : Int32) then (p1 &&& (1023 : Int32)) else (if (p4 &&& (3 : Int32)) = (2 : Int32) then (p2 &&& (1023 : Int32)) else (p3 &&& (2147483647 : Int32))))) := ⟨_, rfl⟩
  refine Ow.join s₁ (mkF m 85 #[.val (.int p0), .val (.int p1), .val (.int p2), .val (.int p3), .val (.int p4), .val (.int (p0 &&& (1023 : Int32))), .val (.int (p1 &&& (1023 : Int32))), .val (.int (p2 &&& (1023 : Int32))), .val (.int (p4 &&& (3 : Int32))), .val (.int dr), .val (.int qv), .unset, .unset, .unset] []) (fun K => ?_) ?_
  · refine w_iload X0 hx (Jvm.hb hby at_41) rfl (pc' := 43) rfl ?_
    refine w_if_ne X0 hx (Jvm.hb hby at_43) (by decide) (pcT := 53) (by decide) (pcF := 46) rfl (fun hj43_0 => ?_) (fun hj43_0 => ?_)
    · refine w_iload X0 hx (Jvm.hb hby at_53) rfl (pc' := 55) rfl ?_
      refine w_iconst X0 hx (1 : Int32) (Jvm.hb hby at_55) (by decide) (pc' := 56) rfl ?_
      refine w_icmp_ne X0 hx (Jvm.hb hby at_56) (by decide) (pcT := 66) (by decide) (pcF := 59) rfl (fun hj56_1 => ?_) (fun hj56_1 => ?_)
      · refine w_iload X0 hx (Jvm.hb hby at_66) rfl (pc' := 68) rfl ?_
        refine w_iconst X0 hx (2 : Int32) (Jvm.hb hby at_68) (by decide) (pc' := 69) rfl ?_
        refine w_icmp_ne X0 hx (Jvm.hb hby at_69) (by decide) (pcT := 79) (by decide) (pcF := 72) rfl (fun hj69_2 => ?_) (fun hj69_2 => ?_)
        · refine w_iloadN X0 hx (Jvm.hb hby at_79) rfl (pc' := 80) rfl ?_
          refine w_ldcI X0 hx hZ hown (hw _ (List.mem_of_getElem? (i := 22) rfl)) (Jvm.hb hby at_80) (pc' := 82) rfl ?_
          refine w_iand X0 hx (Jvm.hb hby at_82) (pc' := 83) rfl ?_
          refine w_istore X0 hx (Jvm.hb hby at_83) #[.val (.int p0), .val (.int p1), .val (.int p2), .val (.int p3), .val (.int p4), .val (.int (p0 &&& (1023 : Int32))), .val (.int (p1 &&& (1023 : Int32))), .val (.int (p2 &&& (1023 : Int32))), .val (.int (p4 &&& (3 : Int32))), .val (.int dr), .val (.int (p3 &&& (2147483647 : Int32))), .unset, .unset, .unset] rfl  (pc' := 85) rfl ?_
          rw [hqv, if_neg hj43_0, if_neg hj56_1, if_neg hj69_2] at K; exact K
        · refine w_iload X0 hx (Jvm.hb hby at_72) rfl (pc' := 74) rfl ?_
          refine w_istore X0 hx (Jvm.hb hby at_74) #[.val (.int p0), .val (.int p1), .val (.int p2), .val (.int p3), .val (.int p4), .val (.int (p0 &&& (1023 : Int32))), .val (.int (p1 &&& (1023 : Int32))), .val (.int (p2 &&& (1023 : Int32))), .val (.int (p4 &&& (3 : Int32))), .val (.int dr), .val (.int (p2 &&& (1023 : Int32))), .unset, .unset, .unset] rfl  (pc' := 76) rfl ?_
          refine w_goto X0 hx (Jvm.hb hby at_76) (by decide) (pc' := 85) (by decide) ?_
          rw [hqv, if_neg hj43_0, if_neg hj56_1, if_pos hj69_2] at K; exact K
      · refine w_iload X0 hx (Jvm.hb hby at_59) rfl (pc' := 61) rfl ?_
        refine w_istore X0 hx (Jvm.hb hby at_61) #[.val (.int p0), .val (.int p1), .val (.int p2), .val (.int p3), .val (.int p4), .val (.int (p0 &&& (1023 : Int32))), .val (.int (p1 &&& (1023 : Int32))), .val (.int (p2 &&& (1023 : Int32))), .val (.int (p4 &&& (3 : Int32))), .val (.int dr), .val (.int (p1 &&& (1023 : Int32))), .unset, .unset, .unset] rfl  (pc' := 63) rfl ?_
        refine w_goto X0 hx (Jvm.hb hby at_63) (by decide) (pc' := 85) (by decide) ?_
        rw [hqv, if_neg hj43_0, if_pos hj56_1] at K; exact K
    · refine w_iload X0 hx (Jvm.hb hby at_46) rfl (pc' := 48) rfl ?_
      refine w_istore X0 hx (Jvm.hb hby at_48) #[.val (.int p0), .val (.int p1), .val (.int p2), .val (.int p3), .val (.int p4), .val (.int (p0 &&& (1023 : Int32))), .val (.int (p1 &&& (1023 : Int32))), .val (.int (p2 &&& (1023 : Int32))), .val (.int (p4 &&& (3 : Int32))), .val (.int dr), .val (.int (p0 &&& (1023 : Int32))), .unset, .unset, .unset] rfl  (pc' := 50) rfl ?_
      refine w_goto X0 hx (Jvm.hb hby at_50) (by decide) (pc' := 85) (by decide) ?_
      rw [hqv, if_pos hj43_0] at K; exact K
  generalize hca : (p0 &&& (1023 : Int32)) = ca at hqv ⊢
  generalize hcb : (p1 &&& (1023 : Int32)) = cb at hqv ⊢
  generalize hcc : (p2 &&& (1023 : Int32)) = cc at hqv ⊢
  show Ow p e below s _ _ _ (s₁.setTop (mkF m 85 #[.val (.int p0), .val (.int p1), .val (.int p2), .val (.int p3), .val (.int p4), .val (.int ca), .val (.int cb), .val (.int cc), .val (.int (p4 &&& (3 : Int32))), .val (.int dr), .val (.int qv), .unset, .unset, .unset] []))
  obtain ⟨qa, hqa, ra⟩ : ∃ k : Nat, ca.toInt = (k : Int) ∧ k < 1024 := hca ▸ own_m p0
  obtain ⟨qb, hqb, rb⟩ : ∃ k : Nat, cb.toInt = (k : Int) ∧ k < 1024 := hcb ▸ own_m p1
  obtain ⟨qc, hqc, rc⟩ : ∃ k : Nat, cc.toInt = (k : Int) ∧ k < 1024 := hcc ▸ own_m p2
  obtain ⟨qq, hqq⟩ : ∃ k : Nat, qv.toInt = (k : Int) := own_q p3 (p4 &&& (3 : Int32)) ca cb cc qv qa qb qc hqa hqb hqc hqv
  refine w_new X0 hx hZ hown (hw _ (List.mem_of_getElem? (i := 0) rfl)) (hw _ (List.mem_of_getElem? (i := 1) rfl)) (hw _ (List.mem_of_getElem? (i := 2) rfl)) e0 (Jvm.hb hby at_85) (by decide) (by decide) (pc' := 88) rfl ?_
  intro T41 h41 a41 g41 X41 e41 E41 A41 D41
  have F0 : Fld Z h41 a41 "com/example/hierarchy_from_axioms/hierarchyfromaxioms/reasoner/Occurrences" "counts" "[I" .null := D41 (Or.inl (hw _ (List.mem_of_getElem? (i := 11) rfl))) (ty := .array .int) (by decide)
  have G : n0 ≤ a41 := Nat.le_trans Z0 (Nat.le_of_eq g41.symm)
  have S41 : n0 ≤ h41.size := Nat.le_trans Z0 E41.1
  refine w_dup X41 hx (Jvm.hb hby at_88) rfl (pc' := 89) rfl ?_
  refine w_callN X41 hx hZ rfl hown (hw _ (List.mem_of_getElem? (i := 3) rfl)) (hw _ (List.mem_of_getElem? (i := 4) rfl)) (hw _ (List.mem_of_getElem? (i := 2) rfl)) (hw _ (List.mem_of_getElem? (i := 5) rfl)) (by decide) (W := 1) (rm1 l Z aw hw [] a41 h41 n0 S41 F0 A41 G) e41 (by decide) (by decide) (by decide) (by decide) (Jvm.hb hby at_89) (by rw [hml]; rfl) (a := a41) (argsL := []) (rest := [(.ref a41)]) pd_2 rfl rfl rfl (Nat.le_of_eq rfl) (pc' := 92) rfl ?_
  rintro _ T42 L42 X42 ⟨rfl, N42, b42, gb42, ne42, K42, F42, V42⟩
  show Ow p e below s _ _ _ (T42.setTop (mkF m 92 #[.val (.int p0), .val (.int p1), .val (.int p2), .val (.int p3), .val (.int p4), .val (.int ca), .val (.int cb), .val (.int cc), .val (.int (p4 &&& (3 : Int32))), .val (.int dr), .val (.int qv), .unset, .unset, .unset] [(.ref a41)]))
  have E42 := A41.keep K42
  have S42 : n0 ≤ T42.heap.size := Nat.le_trans S41 K42.1
  have M42 := Fr.app (Fr.nil n0) N42
  refine w_astore X42 hx (Jvm.hb hby at_92) #[.val (.int p0), .val (.int p1), .val (.int p2), .val (.int p3), .val (.int p4), .val (.int ca), .val (.int cb), .val (.int cc), .val (.int (p4 &&& (3 : Int32))), .val (.int dr), .val (.int qv), .val (.ref a41), .unset, .unset] rfl rfl (pc' := 94) rfl ?_
  refine w_aload X42 hx (Jvm.hb hby at_94) rfl rfl (pc' := 96) rfl ?_
  refine w_iload X42 hx (Jvm.hb hby at_96) rfl (pc' := 98) rfl ?_
  refine w_callV X42 hx hZ hown (hw _ (List.mem_of_getElem? (i := 12) rfl)) (hw _ (List.mem_of_getElem? (i := 13) rfl)) (notFace_of_selects (args := #[]) (mvT hZ (hw _ (List.mem_of_getElem? (i := 15) rfl)))) (hw _ (List.mem_of_getElem? (i := 15) rfl)) (hw _ (List.mem_of_getElem? (i := 14) rfl)) (hw _ (List.mem_of_getElem? (i := 2) rfl)) (hw _ (List.mem_of_getElem? (i := 16) rfl)) (by decide) (W := 0) (rm3 l Z aw hw [] a41 qv b42 64 (fun _ => 0) qq T42.heap F42 V42 (fun _ _ => rfl) hqq) rfl (by decide) (by decide) (by decide) (by decide) E42 (Jvm.hb hby at_98) (by rw [hml]; rfl) (argsL := [(.int qv)]) (rest := []) pd_3 rfl rfl rfl (Nat.le_of_eq rfl) (pc' := 101) rfl ?_
  rintro _ T43 L43 X43 ⟨rfl, e43, rfl⟩
  show Ow p e below s _ _ _ (T43.setTop (mkF m 101 #[.val (.int p0), .val (.int p1), .val (.int p2), .val (.int p3), .val (.int p4), .val (.int ca), .val (.int cb), .val (.int cc), .val (.int (p4 &&& (3 : Int32))), .val (.int dr), .val (.int qv), .val (.ref a41), .unset, .unset] [(.int ((fun _ => 0 : Nat → Int32) qq))]))
  refine w_if_ne X43 hx (Jvm.hb hby at_101) (by decide) (pcT := 108) (by decide) (pcF := 104) rfl (fun q => absurd (rfl : (fun _ => 0 : Nat → Int32) qq = 0) q) (fun _ => ?_)
  refine w_iconst X43 hx (1 : Int32) (Jvm.hb hby at_104) (by decide) (pc' := 105) rfl ?_
  refine w_goto X43 hx (Jvm.hb hby at_105) (by decide) (pc' := 109) (by decide) ?_
  refine w_istore X43 hx (Jvm.hb hby at_109) #[.val (.int p0), .val (.int p1), .val (.int p2), .val (.int p3), .val (.int p4), .val (.int ca), .val (.int cb), .val (.int cc), .val (.int (p4 &&& (3 : Int32))), .val (.int dr), .val (.int qv), .val (.ref a41), .val (.int (1 : Int32)), .unset] rfl  (pc' := 111) rfl ?_
  refine w_aload X43 hx (Jvm.hb hby at_111) rfl rfl (pc' := 113) rfl ?_
  refine w_iload X43 hx (Jvm.hb hby at_113) rfl (pc' := 115) rfl ?_
  refine w_callV X43 hx hZ hown (hw _ (List.mem_of_getElem? (i := 17) rfl)) (hw _ (List.mem_of_getElem? (i := 18) rfl)) (notFace_of_selects (args := #[]) (mvT hZ (hw _ (List.mem_of_getElem? (i := 20) rfl)))) (hw _ (List.mem_of_getElem? (i := 20) rfl)) (hw _ (List.mem_of_getElem? (i := 19) rfl)) (hw _ (List.mem_of_getElem? (i := 2) rfl)) (hw _ (List.mem_of_getElem? (i := 21) rfl)) (by decide) (W := 0) (rm4 l Z aw hw [] a41 ca b42 64 (fun _ => 0) qa T42.heap n0 S42 F42 E42 V42 (fun _ _ => rfl) ne42 G gb42 hqa ra (by decide)) e43 (by decide) (by decide) (by decide) (by decide) E42 (Jvm.hb hby at_115) (by rw [hml]; rfl) (argsL := [(.int ca)]) (rest := []) pd_4 rfl rfl rfl (Nat.le_of_eq rfl) (pc' := 118) rfl ?_
  rintro _ T44 L44 X44 ⟨rfl, N44, b44, n44, gb44, ne44, le44, n244, lt44, K44, F44, V44⟩
  show Ow p e below s _ _ _ (T44.setTop (mkF m 118 #[.val (.int p0), .val (.int p1), .val (.int p2), .val (.int p3), .val (.int p4), .val (.int ca), .val (.int cb), .val (.int cc), .val (.int (p4 &&& (3 : Int32))), .val (.int dr), .val (.int qv), .val (.ref a41), .val (.int (1 : Int32)), .unset] []))
  have E44' := E42.keep K44
  have S44 : n0 ≤ T44.heap.size := Nat.le_trans S42 K44.1
  have M44 := Fr.app M42 N44
  obtain ⟨f0', hf0'⟩ : ∃ f : Nat → Int32, f = upd (fun _ => 0) qa ((fun _ => 0) qa + (1 : Int32)) := ⟨_, rfl⟩
  rw [← hf0'] at V44
  have z44 : ∀ i, n44 ≤ i → f0' i = 0 := own_zup hf0' (fun _ _ => rfl) le44 lt44
  refine w_aload X44 hx (Jvm.hb hby at_118) rfl rfl (pc' := 120) rfl ?_
  refine w_iload X44 hx (Jvm.hb hby at_120) rfl (pc' := 122) rfl ?_
  refine w_callV X44 hx hZ hown (hw _ (List.mem_of_getElem? (i := 17) rfl)) (hw _ (List.mem_of_getElem? (i := 18) rfl)) (notFace_of_selects (args := #[]) (mvT hZ (hw _ (List.mem_of_getElem? (i := 20) rfl)))) (hw _ (List.mem_of_getElem? (i := 20) rfl)) (hw _ (List.mem_of_getElem? (i := 19) rfl)) (hw _ (List.mem_of_getElem? (i := 2) rfl)) (hw _ (List.mem_of_getElem? (i := 21) rfl)) (by decide) (W := 0) (rm4 l Z aw hw [] a41 cb b44 n44 f0' qb T44.heap n0 S44 F44 E44' V44 z44 ne44 G gb44 hqb rb n244) rfl (by decide) (by decide) (by decide) (by decide) E44' (Jvm.hb hby at_122) (by rw [hml]; rfl) (argsL := [(.int cb)]) (rest := []) pd_4 rfl rfl rfl (Nat.le_of_eq rfl) (pc' := 125) rfl ?_
  rintro _ T45 L45 X45 ⟨rfl, N45, b45, n45, gb45, ne45, le45, n245, lt45, K45, F45, V45⟩
  show Ow p e below s _ _ _ (T45.setTop (mkF m 125 #[.val (.int p0), .val (.int p1), .val (.int p2), .val (.int p3), .val (.int p4), .val (.int ca), .val (.int cb), .val (.int cc), .val (.int (p4 &&& (3 : Int32))), .val (.int dr), .val (.int qv), .val (.ref a41), .val (.int (1 : Int32)), .unset] []))
  have E45' := E44'.keep K45
  have S45 : n0 ≤ T45.heap.size := Nat.le_trans S44 K45.1
  have M45 := Fr.app M44 N45
  obtain ⟨f1', hf1'⟩ : ∃ f : Nat → Int32, f = upd f0' qb (f0' qb + (1 : Int32)) := ⟨_, rfl⟩
  rw [← hf1'] at V45
  have z45 : ∀ i, n45 ≤ i → f1' i = 0 := own_zup hf1' z44 le45 lt45
  refine w_aload X45 hx (Jvm.hb hby at_125) rfl rfl (pc' := 127) rfl ?_
  refine w_iload X45 hx (Jvm.hb hby at_127) rfl (pc' := 129) rfl ?_
  refine w_callV X45 hx hZ hown (hw _ (List.mem_of_getElem? (i := 17) rfl)) (hw _ (List.mem_of_getElem? (i := 18) rfl)) (notFace_of_selects (args := #[]) (mvT hZ (hw _ (List.mem_of_getElem? (i := 20) rfl)))) (hw _ (List.mem_of_getElem? (i := 20) rfl)) (hw _ (List.mem_of_getElem? (i := 19) rfl)) (hw _ (List.mem_of_getElem? (i := 2) rfl)) (hw _ (List.mem_of_getElem? (i := 21) rfl)) (by decide) (W := 0) (rm4 l Z aw hw [] a41 cc b45 n45 f1' qc T45.heap n0 S45 F45 E45' V45 z45 ne45 G gb45 hqc rc n245) rfl (by decide) (by decide) (by decide) (by decide) E45' (Jvm.hb hby at_129) (by rw [hml]; rfl) (argsL := [(.int cc)]) (rest := []) pd_4 rfl rfl rfl (Nat.le_of_eq rfl) (pc' := 132) rfl ?_
  rintro _ T46 L46 X46 ⟨rfl, N46, b46, n46, gb46, ne46, le46, n246, lt46, K46, F46, V46⟩
  show Ow p e below s _ _ _ (T46.setTop (mkF m 132 #[.val (.int p0), .val (.int p1), .val (.int p2), .val (.int p3), .val (.int p4), .val (.int ca), .val (.int cb), .val (.int cc), .val (.int (p4 &&& (3 : Int32))), .val (.int dr), .val (.int qv), .val (.ref a41), .val (.int (1 : Int32)), .unset] []))
  have E46' := E45'.keep K46
  have S46 : n0 ≤ T46.heap.size := Nat.le_trans S45 K46.1
  have M46 := Fr.app M45 N46
  obtain ⟨f2', hf2'⟩ : ∃ f : Nat → Int32, f = upd f1' qc (f1' qc + (1 : Int32)) := ⟨_, rfl⟩
  rw [← hf2'] at V46
  have z46 : ∀ i, n46 ≤ i → f2' i = 0 := own_zup hf2' z45 le46 lt46
  refine w_iload X46 hx (Jvm.hb hby at_132) rfl (pc' := 134) rfl ?_
  refine w_if_eq X46 hx (Jvm.hb hby at_134) (by decide) (pcT := 144) (by decide) (pcF := 137) rfl (fun hd => ?_) (fun hd => ?_)
  · refine w_iconst X46 hx (0 : Int32) (Jvm.hb hby at_144) (by decide) (pc' := 145) rfl ?_
    refine w_istore X46 hx (Jvm.hb hby at_145) #[.val (.int p0), .val (.int p1), .val (.int p2), .val (.int p3), .val (.int p4), .val (.int ca), .val (.int cb), .val (.int cc), .val (.int (p4 &&& (3 : Int32))), .val (.int dr), .val (.int qv), .val (.ref a41), .val (.int (1 : Int32)), .val (.int (0 : Int32))] rfl  (pc' := 147) rfl ?_
    obtain ⟨e1, he1⟩ : ∃ v : Int32, v = (if qv = ca then ((0 : Int32) + (1 : Int32)) else (0 : Int32)) := ⟨_, rfl⟩
    refine Ow.join T46 (mkF m 160 #[.val (.int p0), .val (.int p1), .val (.int p2), .val (.int p3), .val (.int p4), .val (.int ca), .val (.int cb), .val (.int cc), .val (.int (p4 &&& (3 : Int32))), .val (.int dr), .val (.int qv), .val (.ref a41), .val (.int (1 : Int32)), .val (.int e1)] []) (fun K => ?_) ?_
    · refine w_iload X46 hx (Jvm.hb hby at_147) rfl (pc' := 149) rfl ?_
      refine w_iload X46 hx (Jvm.hb hby at_149) rfl (pc' := 151) rfl ?_
      refine w_icmp_ne X46 hx (Jvm.hb hby at_151) (by decide) (pcT := 160) (by decide) (pcF := 154) rfl (fun hj151_0 => ?_) (fun hj151_0 => ?_)
      · rw [he1, if_neg hj151_0] at K; exact K
      · refine w_iload X46 hx (Jvm.hb hby at_154) rfl (pc' := 156) rfl ?_
        refine w_iconst X46 hx (1 : Int32) (Jvm.hb hby at_156) (by decide) (pc' := 157) rfl ?_
        refine w_iadd X46 hx (Jvm.hb hby at_157) (pc' := 158) rfl ?_
        refine w_istore X46 hx (Jvm.hb hby at_158) #[.val (.int p0), .val (.int p1), .val (.int p2), .val (.int p3), .val (.int p4), .val (.int ca), .val (.int cb), .val (.int cc), .val (.int (p4 &&& (3 : Int32))), .val (.int dr), .val (.int qv), .val (.ref a41), .val (.int (1 : Int32)), .val (.int ((0 : Int32) + (1 : Int32)))] rfl  (pc' := 160) rfl ?_
        rw [he1, if_pos hj151_0] at K; exact K
    obtain ⟨e2, he2⟩ : ∃ v : Int32, v = (if qv = cb then (e1 + (1 : Int32)) else e1) := ⟨_, rfl⟩
    refine Ow.join T46 (mkF m 173 #[.val (.int p0), .val (.int p1), .val (.int p2), .val (.int p3), .val (.int p4), .val (.int ca), .val (.int cb), .val (.int cc), .val (.int (p4 &&& (3 : Int32))), .val (.int dr), .val (.int qv), .val (.ref a41), .val (.int (1 : Int32)), .val (.int e2)] []) (fun K => ?_) ?_
    · refine w_iload X46 hx (Jvm.hb hby at_160) rfl (pc' := 162) rfl ?_
      refine w_iload X46 hx (Jvm.hb hby at_162) rfl (pc' := 164) rfl ?_
      refine w_icmp_ne X46 hx (Jvm.hb hby at_164) (by decide) (pcT := 173) (by decide) (pcF := 167) rfl (fun hj164_0 => ?_) (fun hj164_0 => ?_)
      · rw [he2, if_neg hj164_0] at K; exact K
      · refine w_iload X46 hx (Jvm.hb hby at_167) rfl (pc' := 169) rfl ?_
        refine w_iconst X46 hx (1 : Int32) (Jvm.hb hby at_169) (by decide) (pc' := 170) rfl ?_
        refine w_iadd X46 hx (Jvm.hb hby at_170) (pc' := 171) rfl ?_
        refine w_istore X46 hx (Jvm.hb hby at_171) #[.val (.int p0), .val (.int p1), .val (.int p2), .val (.int p3), .val (.int p4), .val (.int ca), .val (.int cb), .val (.int cc), .val (.int (p4 &&& (3 : Int32))), .val (.int dr), .val (.int qv), .val (.ref a41), .val (.int (1 : Int32)), .val (.int (e1 + (1 : Int32)))] rfl  (pc' := 173) rfl ?_
        rw [he2, if_pos hj164_0] at K; exact K
    obtain ⟨e3, he3⟩ : ∃ v : Int32, v = (if qv = cc then (e2 + (1 : Int32)) else e2) := ⟨_, rfl⟩
    refine Ow.join T46 (mkF m 186 #[.val (.int p0), .val (.int p1), .val (.int p2), .val (.int p3), .val (.int p4), .val (.int ca), .val (.int cb), .val (.int cc), .val (.int (p4 &&& (3 : Int32))), .val (.int dr), .val (.int qv), .val (.ref a41), .val (.int (1 : Int32)), .val (.int e3)] []) (fun K => ?_) ?_
    · refine w_iload X46 hx (Jvm.hb hby at_173) rfl (pc' := 175) rfl ?_
      refine w_iload X46 hx (Jvm.hb hby at_175) rfl (pc' := 177) rfl ?_
      refine w_icmp_ne X46 hx (Jvm.hb hby at_177) (by decide) (pcT := 186) (by decide) (pcF := 180) rfl (fun hj177_0 => ?_) (fun hj177_0 => ?_)
      · rw [he3, if_neg hj177_0] at K; exact K
      · refine w_iload X46 hx (Jvm.hb hby at_180) rfl (pc' := 182) rfl ?_
        refine w_iconst X46 hx (1 : Int32) (Jvm.hb hby at_182) (by decide) (pc' := 183) rfl ?_
        refine w_iadd X46 hx (Jvm.hb hby at_183) (pc' := 184) rfl ?_
        refine w_istore X46 hx (Jvm.hb hby at_184) #[.val (.int p0), .val (.int p1), .val (.int p2), .val (.int p3), .val (.int p4), .val (.int ca), .val (.int cb), .val (.int cc), .val (.int (p4 &&& (3 : Int32))), .val (.int dr), .val (.int qv), .val (.ref a41), .val (.int (1 : Int32)), .val (.int (e2 + (1 : Int32)))] rfl  (pc' := 186) rfl ?_
        rw [he3, if_pos hj177_0] at K; exact K
    obtain ⟨e4, he4⟩ : ∃ v : Int32, v = (if dr = (0 : Int32) then e3 else (if qv = ca then (e3 - (1 : Int32)) else e3)) := ⟨_, rfl⟩
    refine Ow.join T46 (mkF m 204 #[.val (.int p0), .val (.int p1), .val (.int p2), .val (.int p3), .val (.int p4), .val (.int ca), .val (.int cb), .val (.int cc), .val (.int (p4 &&& (3 : Int32))), .val (.int dr), .val (.int qv), .val (.ref a41), .val (.int (1 : Int32)), .val (.int e4)] []) (fun K => ?_) ?_
    · refine w_iload X46 hx (Jvm.hb hby at_186) rfl (pc' := 188) rfl ?_
      refine w_if_eq X46 hx (Jvm.hb hby at_188) (by decide) (pcT := 204) (by decide) (pcF := 191) rfl (fun hj188_0 => ?_) (fun hj188_0 => ?_)
      · rw [he4, if_pos hj188_0] at K; exact K
      · refine w_iload X46 hx (Jvm.hb hby at_191) rfl (pc' := 193) rfl ?_
        refine w_iload X46 hx (Jvm.hb hby at_193) rfl (pc' := 195) rfl ?_
        refine w_icmp_ne X46 hx (Jvm.hb hby at_195) (by decide) (pcT := 204) (by decide) (pcF := 198) rfl (fun hj195_1 => ?_) (fun hj195_1 => ?_)
        · rw [he4, if_neg hj188_0, if_neg hj195_1] at K; exact K
        · refine w_iload X46 hx (Jvm.hb hby at_198) rfl (pc' := 200) rfl ?_
          refine w_iconst X46 hx (1 : Int32) (Jvm.hb hby at_200) (by decide) (pc' := 201) rfl ?_
          refine w_isub X46 hx (Jvm.hb hby at_201) (pc' := 202) rfl ?_
          refine w_istore X46 hx (Jvm.hb hby at_202) #[.val (.int p0), .val (.int p1), .val (.int p2), .val (.int p3), .val (.int p4), .val (.int ca), .val (.int cb), .val (.int cc), .val (.int (p4 &&& (3 : Int32))), .val (.int dr), .val (.int qv), .val (.ref a41), .val (.int (1 : Int32)), .val (.int (e3 - (1 : Int32)))] rfl  (pc' := 204) rfl ?_
          rw [he4, if_neg hj188_0, if_pos hj195_1] at K; exact K
    refine w_iload X46 hx (Jvm.hb hby at_204) rfl (pc' := 206) rfl ?_
    refine w_if_eq X46 hx (Jvm.hb hby at_206) (by decide) (pcT := 225) (by decide) (pcF := 209) rfl (fun q => absurd q (show ¬ (1 : Int32) = (0 : Int32) from by decide)) (fun _ => ?_)
    refine w_aload X46 hx (Jvm.hb hby at_209) rfl rfl (pc' := 211) rfl ?_
    refine w_iload X46 hx (Jvm.hb hby at_211) rfl (pc' := 213) rfl ?_
    refine w_callV X46 hx hZ hown (hw _ (List.mem_of_getElem? (i := 12) rfl)) (hw _ (List.mem_of_getElem? (i := 13) rfl)) (notFace_of_selects (args := #[]) (mvT hZ (hw _ (List.mem_of_getElem? (i := 15) rfl)))) (hw _ (List.mem_of_getElem? (i := 15) rfl)) (hw _ (List.mem_of_getElem? (i := 14) rfl)) (hw _ (List.mem_of_getElem? (i := 2) rfl)) (hw _ (List.mem_of_getElem? (i := 16) rfl)) (by decide) (W := 0) (rm3 l Z aw hw [] a41 qv b46 n46 f2' qq T46.heap F46 V46 z46 hqq) rfl (by decide) (by decide) (by decide) (by decide) E46' (Jvm.hb hby at_213) (by rw [hml]; rfl) (argsL := [(.int qv)]) (rest := []) pd_3 rfl rfl rfl (Nat.le_of_eq rfl) (pc' := 216) rfl ?_
    rintro _ T47 L47 X47 ⟨rfl, e47, rfl⟩
    show Ow p e below s _ _ _ (T47.setTop (mkF m 216 #[.val (.int p0), .val (.int p1), .val (.int p2), .val (.int p3), .val (.int p4), .val (.int ca), .val (.int cb), .val (.int cc), .val (.int (p4 &&& (3 : Int32))), .val (.int dr), .val (.int qv), .val (.ref a41), .val (.int (1 : Int32)), .val (.int e4)] [(.int (f2' qq))]))
    refine w_iload X47 hx (Jvm.hb hby at_216) rfl (pc' := 218) rfl ?_
    refine w_icmp_ne X47 hx (Jvm.hb hby at_218) (by decide) (pcT := 225) (by decide) (pcF := 221) rfl (fun q => absurd (own_nodrop qa qb qc qq ca cb cc qv hqa hqb hqc hqq f0' f1' f2' hf0' hf1' hf2' dr hd e1 e2 e3 e4 he1 he2 he3 he4) q) (fun _ => ?_)
    refine w_iconst X47 hx (1 : Int32) (Jvm.hb hby at_221) (by decide) (pc' := 222) rfl ?_
    refine w_goto X47 hx (Jvm.hb hby at_222) (by decide) (pc' := 226) (by decide) ?_
    exact w_zreturn X47 hx Bd.returns (Or.inr rfl) (BodyLoose.notSynchronized Bd) (Nat.le_of_ble_eq_true rfl) (Nat.le_of_ble_eq_true rfl) (Jvm.hb hby at_226) ⟨rfl, by simpa using M46⟩
  · refine w_aload X46 hx (Jvm.hb hby at_137) rfl rfl (pc' := 139) rfl ?_
    refine w_iload X46 hx (Jvm.hb hby at_139) rfl (pc' := 141) rfl ?_
    have hlt : qa < n46 := Nat.lt_of_lt_of_le lt44 (Nat.le_trans le45 le46)
    refine w_callV X46 hx hZ hown (hw _ (List.mem_of_getElem? (i := 23) rfl)) (hw _ (List.mem_of_getElem? (i := 24) rfl)) (notFace_of_selects (args := #[]) (mvT hZ (hw _ (List.mem_of_getElem? (i := 26) rfl)))) (hw _ (List.mem_of_getElem? (i := 26) rfl)) (hw _ (List.mem_of_getElem? (i := 25) rfl)) (hw _ (List.mem_of_getElem? (i := 2) rfl)) (hw _ (List.mem_of_getElem? (i := 27) rfl)) (by decide) (W := 0) (rm5 l Z aw hw [] a41 ca b46 n46 f2' qa T46.heap n0 F46 V46 ne46 gb46 hqa hlt) rfl (by decide) (by decide) (by decide) (by decide) E46' (Jvm.hb hby at_141) (by rw [hml]; rfl) (argsL := [(.int ca)]) (rest := []) pd_4 rfl rfl rfl (Nat.le_of_eq rfl) (pc' := 144) rfl ?_
    rintro _ T48 L48 X48 ⟨rfl, N48, K48, F48, V48⟩
    show Ow p e below s _ _ _ (T48.setTop (mkF m 144 #[.val (.int p0), .val (.int p1), .val (.int p2), .val (.int p3), .val (.int p4), .val (.int ca), .val (.int cb), .val (.int cc), .val (.int (p4 &&& (3 : Int32))), .val (.int dr), .val (.int qv), .val (.ref a41), .val (.int (1 : Int32)), .unset] []))
    have E48' := E46'.keep K48
    have M48 := Fr.app M46 N48
    obtain ⟨fr, hfr⟩ : ∃ f : Nat → Int32, f = upd f2' qa (f2' qa - (1 : Int32)) := ⟨_, rfl⟩
    rw [← hfr] at V48
    have z48 : ∀ i, n46 ≤ i → fr i = 0 := own_zup hfr z46 (Nat.le_refl _) hlt
    refine w_iconst X48 hx (0 : Int32) (Jvm.hb hby at_144) (by decide) (pc' := 145) rfl ?_
    refine w_istore X48 hx (Jvm.hb hby at_145) #[.val (.int p0), .val (.int p1), .val (.int p2), .val (.int p3), .val (.int p4), .val (.int ca), .val (.int cb), .val (.int cc), .val (.int (p4 &&& (3 : Int32))), .val (.int dr), .val (.int qv), .val (.ref a41), .val (.int (1 : Int32)), .val (.int (0 : Int32))] rfl  (pc' := 147) rfl ?_
    obtain ⟨e1, he1⟩ : ∃ v : Int32, v = (if qv = ca then ((0 : Int32) + (1 : Int32)) else (0 : Int32)) := ⟨_, rfl⟩
    refine Ow.join T48 (mkF m 160 #[.val (.int p0), .val (.int p1), .val (.int p2), .val (.int p3), .val (.int p4), .val (.int ca), .val (.int cb), .val (.int cc), .val (.int (p4 &&& (3 : Int32))), .val (.int dr), .val (.int qv), .val (.ref a41), .val (.int (1 : Int32)), .val (.int e1)] []) (fun K => ?_) ?_
    · refine w_iload X48 hx (Jvm.hb hby at_147) rfl (pc' := 149) rfl ?_
      refine w_iload X48 hx (Jvm.hb hby at_149) rfl (pc' := 151) rfl ?_
      refine w_icmp_ne X48 hx (Jvm.hb hby at_151) (by decide) (pcT := 160) (by decide) (pcF := 154) rfl (fun hj151_0 => ?_) (fun hj151_0 => ?_)
      · rw [he1, if_neg hj151_0] at K; exact K
      · refine w_iload X48 hx (Jvm.hb hby at_154) rfl (pc' := 156) rfl ?_
        refine w_iconst X48 hx (1 : Int32) (Jvm.hb hby at_156) (by decide) (pc' := 157) rfl ?_
        refine w_iadd X48 hx (Jvm.hb hby at_157) (pc' := 158) rfl ?_
        refine w_istore X48 hx (Jvm.hb hby at_158) #[.val (.int p0), .val (.int p1), .val (.int p2), .val (.int p3), .val (.int p4), .val (.int ca), .val (.int cb), .val (.int cc), .val (.int (p4 &&& (3 : Int32))), .val (.int dr), .val (.int qv), .val (.ref a41), .val (.int (1 : Int32)), .val (.int ((0 : Int32) + (1 : Int32)))] rfl  (pc' := 160) rfl ?_
        rw [he1, if_pos hj151_0] at K; exact K
    obtain ⟨e2, he2⟩ : ∃ v : Int32, v = (if qv = cb then (e1 + (1 : Int32)) else e1) := ⟨_, rfl⟩
    refine Ow.join T48 (mkF m 173 #[.val (.int p0), .val (.int p1), .val (.int p2), .val (.int p3), .val (.int p4), .val (.int ca), .val (.int cb), .val (.int cc), .val (.int (p4 &&& (3 : Int32))), .val (.int dr), .val (.int qv), .val (.ref a41), .val (.int (1 : Int32)), .val (.int e2)] []) (fun K => ?_) ?_
    · refine w_iload X48 hx (Jvm.hb hby at_160) rfl (pc' := 162) rfl ?_
      refine w_iload X48 hx (Jvm.hb hby at_162) rfl (pc' := 164) rfl ?_
      refine w_icmp_ne X48 hx (Jvm.hb hby at_164) (by decide) (pcT := 173) (by decide) (pcF := 167) rfl (fun hj164_0 => ?_) (fun hj164_0 => ?_)
      · rw [he2, if_neg hj164_0] at K; exact K
      · refine w_iload X48 hx (Jvm.hb hby at_167) rfl (pc' := 169) rfl ?_
        refine w_iconst X48 hx (1 : Int32) (Jvm.hb hby at_169) (by decide) (pc' := 170) rfl ?_
        refine w_iadd X48 hx (Jvm.hb hby at_170) (pc' := 171) rfl ?_
        refine w_istore X48 hx (Jvm.hb hby at_171) #[.val (.int p0), .val (.int p1), .val (.int p2), .val (.int p3), .val (.int p4), .val (.int ca), .val (.int cb), .val (.int cc), .val (.int (p4 &&& (3 : Int32))), .val (.int dr), .val (.int qv), .val (.ref a41), .val (.int (1 : Int32)), .val (.int (e1 + (1 : Int32)))] rfl  (pc' := 173) rfl ?_
        rw [he2, if_pos hj164_0] at K; exact K
    obtain ⟨e3, he3⟩ : ∃ v : Int32, v = (if qv = cc then (e2 + (1 : Int32)) else e2) := ⟨_, rfl⟩
    refine Ow.join T48 (mkF m 186 #[.val (.int p0), .val (.int p1), .val (.int p2), .val (.int p3), .val (.int p4), .val (.int ca), .val (.int cb), .val (.int cc), .val (.int (p4 &&& (3 : Int32))), .val (.int dr), .val (.int qv), .val (.ref a41), .val (.int (1 : Int32)), .val (.int e3)] []) (fun K => ?_) ?_
    · refine w_iload X48 hx (Jvm.hb hby at_173) rfl (pc' := 175) rfl ?_
      refine w_iload X48 hx (Jvm.hb hby at_175) rfl (pc' := 177) rfl ?_
      refine w_icmp_ne X48 hx (Jvm.hb hby at_177) (by decide) (pcT := 186) (by decide) (pcF := 180) rfl (fun hj177_0 => ?_) (fun hj177_0 => ?_)
      · rw [he3, if_neg hj177_0] at K; exact K
      · refine w_iload X48 hx (Jvm.hb hby at_180) rfl (pc' := 182) rfl ?_
        refine w_iconst X48 hx (1 : Int32) (Jvm.hb hby at_182) (by decide) (pc' := 183) rfl ?_
        refine w_iadd X48 hx (Jvm.hb hby at_183) (pc' := 184) rfl ?_
        refine w_istore X48 hx (Jvm.hb hby at_184) #[.val (.int p0), .val (.int p1), .val (.int p2), .val (.int p3), .val (.int p4), .val (.int ca), .val (.int cb), .val (.int cc), .val (.int (p4 &&& (3 : Int32))), .val (.int dr), .val (.int qv), .val (.ref a41), .val (.int (1 : Int32)), .val (.int (e2 + (1 : Int32)))] rfl  (pc' := 186) rfl ?_
        rw [he3, if_pos hj177_0] at K; exact K
    obtain ⟨e4, he4⟩ : ∃ v : Int32, v = (if dr = (0 : Int32) then e3 else (if qv = ca then (e3 - (1 : Int32)) else e3)) := ⟨_, rfl⟩
    refine Ow.join T48 (mkF m 204 #[.val (.int p0), .val (.int p1), .val (.int p2), .val (.int p3), .val (.int p4), .val (.int ca), .val (.int cb), .val (.int cc), .val (.int (p4 &&& (3 : Int32))), .val (.int dr), .val (.int qv), .val (.ref a41), .val (.int (1 : Int32)), .val (.int e4)] []) (fun K => ?_) ?_
    · refine w_iload X48 hx (Jvm.hb hby at_186) rfl (pc' := 188) rfl ?_
      refine w_if_eq X48 hx (Jvm.hb hby at_188) (by decide) (pcT := 204) (by decide) (pcF := 191) rfl (fun hj188_0 => ?_) (fun hj188_0 => ?_)
      · rw [he4, if_pos hj188_0] at K; exact K
      · refine w_iload X48 hx (Jvm.hb hby at_191) rfl (pc' := 193) rfl ?_
        refine w_iload X48 hx (Jvm.hb hby at_193) rfl (pc' := 195) rfl ?_
        refine w_icmp_ne X48 hx (Jvm.hb hby at_195) (by decide) (pcT := 204) (by decide) (pcF := 198) rfl (fun hj195_1 => ?_) (fun hj195_1 => ?_)
        · rw [he4, if_neg hj188_0, if_neg hj195_1] at K; exact K
        · refine w_iload X48 hx (Jvm.hb hby at_198) rfl (pc' := 200) rfl ?_
          refine w_iconst X48 hx (1 : Int32) (Jvm.hb hby at_200) (by decide) (pc' := 201) rfl ?_
          refine w_isub X48 hx (Jvm.hb hby at_201) (pc' := 202) rfl ?_
          refine w_istore X48 hx (Jvm.hb hby at_202) #[.val (.int p0), .val (.int p1), .val (.int p2), .val (.int p3), .val (.int p4), .val (.int ca), .val (.int cb), .val (.int cc), .val (.int (p4 &&& (3 : Int32))), .val (.int dr), .val (.int qv), .val (.ref a41), .val (.int (1 : Int32)), .val (.int (e3 - (1 : Int32)))] rfl  (pc' := 204) rfl ?_
          rw [he4, if_neg hj188_0, if_pos hj195_1] at K; exact K
    refine w_iload X48 hx (Jvm.hb hby at_204) rfl (pc' := 206) rfl ?_
    refine w_if_eq X48 hx (Jvm.hb hby at_206) (by decide) (pcT := 225) (by decide) (pcF := 209) rfl (fun q => absurd q (show ¬ (1 : Int32) = (0 : Int32) from by decide)) (fun _ => ?_)
    refine w_aload X48 hx (Jvm.hb hby at_209) rfl rfl (pc' := 211) rfl ?_
    refine w_iload X48 hx (Jvm.hb hby at_211) rfl (pc' := 213) rfl ?_
    refine w_callV X48 hx hZ hown (hw _ (List.mem_of_getElem? (i := 12) rfl)) (hw _ (List.mem_of_getElem? (i := 13) rfl)) (notFace_of_selects (args := #[]) (mvT hZ (hw _ (List.mem_of_getElem? (i := 15) rfl)))) (hw _ (List.mem_of_getElem? (i := 15) rfl)) (hw _ (List.mem_of_getElem? (i := 14) rfl)) (hw _ (List.mem_of_getElem? (i := 2) rfl)) (hw _ (List.mem_of_getElem? (i := 16) rfl)) (by decide) (W := 0) (rm3 l Z aw hw [] a41 qv b46 n46 fr qq T48.heap F48 V48 z48 hqq) rfl (by decide) (by decide) (by decide) (by decide) E48' (Jvm.hb hby at_213) (by rw [hml]; rfl) (argsL := [(.int qv)]) (rest := []) pd_3 rfl rfl rfl (Nat.le_of_eq rfl) (pc' := 216) rfl ?_
    rintro _ T49 L49 X49 ⟨rfl, e49, rfl⟩
    show Ow p e below s _ _ _ (T49.setTop (mkF m 216 #[.val (.int p0), .val (.int p1), .val (.int p2), .val (.int p3), .val (.int p4), .val (.int ca), .val (.int cb), .val (.int cc), .val (.int (p4 &&& (3 : Int32))), .val (.int dr), .val (.int qv), .val (.ref a41), .val (.int (1 : Int32)), .val (.int e4)] [(.int (fr qq))]))
    refine w_iload X49 hx (Jvm.hb hby at_216) rfl (pc' := 218) rfl ?_
    refine w_icmp_ne X49 hx (Jvm.hb hby at_218) (by decide) (pcT := 225) (by decide) (pcF := 221) rfl (fun q => absurd (own_drop qa qb qc qq ca cb cc qv hqa hqb hqc hqq f0' f1' f2' hf0' hf1' hf2' fr hfr dr hd e1 e2 e3 e4 he1 he2 he3 he4) q) (fun _ => ?_)
    refine w_iconst X49 hx (1 : Int32) (Jvm.hb hby at_221) (by decide) (pc' := 222) rfl ?_
    refine w_goto X49 hx (Jvm.hb hby at_222) (by decide) (pc' := 226) (by decide) ?_
    exact w_zreturn X49 hx Bd.returns (Or.inr rfl) (BodyLoose.notSynchronized Bd) (Nat.le_of_ble_eq_true rfl) (Nat.le_of_ble_eq_true rfl) (Jvm.hb hby at_226) ⟨rfl, by simpa using M48⟩
set_option maxRecDepth 65536 in
set_option maxHeartbeats 40000000 in
theorem comes_1 {Post : Tables → Env → Array Value → State → Outcome → State → Prop} (hpost : ∀ tb e args s v u, (limb_1_1.after args s (.returned v) u = true ∧ limb_1_2.after args s (.returned v) u = true ∧ True) → FrameEnd s (.returned v) u (Jvm.fieldLocs frame_1_writes args s ++ Jvm.arrayLocs frame_1_arrays args s ++ Jvm.staticLocs frame_1_statics s) 24 6336 → Post tb e args s (.returned v) u) :
    ArmFor flags0 classFile x code maxLocals ret World_1 tables_1 room_1 Calls_1 rest_1 Pre_1 Post := by
  intro l hfl _ _ p e ha hc hk s m args below hf hA hF happ hP
  obtain ⟨hcalls, hrest, hpre⟩ := hP
  obtain ⟨-, -, -, hnamed, -, -, -, hat⟩ := (Spec.applies_iff hf).mp happ
  obtain ⟨hg, hn⟩ := and_e (Cond.before_iff.mp (show (Jvm.Cond.and given_1 narrow_1).before args s = true from hpre))
  obtain ⟨g1, g2⟩ := and_e hg
  obtain ⟨g3, g4⟩ := and_e g2
  obtain ⟨g5, g6⟩ := and_e g4
  obtain ⟨g7, g8⟩ := and_e g6
  obtain ⟨g9, g10⟩ := and_e g8
  obtain ⟨w0, w1, w2, w3, w4, rfl⟩ : ∃ w0 w1 w2 w3 w4 : Value, args = #[w0, w1, w2, w3, w4] := by
    have hs : args.size = 5 := by simpa [Cond.value, given_1] using g1
    obtain ⟨L⟩ := args
    match L, hs with
    | [w0, w1, w2, w3, w4], _ => exact ⟨w0, w1, w2, w3, w4, rfl⟩
  have hw := fun d (hd : d ∈ tables_1) => atoms_spec (ws := Jvm.Cond.code x code maxLocals ret :: tables_1) hat d (List.mem_cons_of_mem _ hd)
  obtain ⟨i0, ei0⟩ := is_v g3
  obtain rfl : w0 = (.int i0) := Option.some.inj ei0
  obtain ⟨i1, ei1⟩ := is_v g5
  obtain rfl : w1 = (.int i1) := Option.some.inj ei1
  obtain ⟨i2, ei2⟩ := is_v g7
  obtain rfl : w2 = (.int i2) := Option.some.inj ei2
  obtain ⟨i3, ei3⟩ := is_v g9
  obtain rfl : w3 = (.int i3) := Option.some.inj ei3
  obtain ⟨i4, ei4⟩ := is_v g10
  obtain rfl : w4 = (.int i4) := Option.some.inj ei4
  obtain ⟨n, o, h1, h2, h3, _, L, rfl, ⟨rfl, N⟩, hq⟩ := rm0 l s _ hw tables_1 i0 i1 i2 i3 i4 s.heap s.heap.size (Nat.le_refl _) p e ha hc hk s m _ below hf ((Spec.applies_iff_loose hf).mp happ).1 ⟨rfl, State.Warmed39.refl s, rfl⟩ trivial
  refine ⟨n, _, h1, h2, h3, hpost _ _ _ _ _ _ ⟨Cond.after_iff.mpr rfl, Cond.after_iff.mpr (eq_i res_at (Term.int_eval (1)) rfl), trivial⟩ ⟨hq.1, hq.2.1, (hq.2.2.sift fun y hy => Or.inr (N y hy)).mono (by decide) (by decide)⟩⟩
theorem main_1_1 : Claimed_1_1 := comes_1 fun _ _ _ _ _ _ h hF => ⟨h.1, hF⟩
theorem main_1_2 : Claimed_1_2 := comes_1 fun _ _ _ _ _ _ h hF => ⟨h.2.1, hF⟩
end Jvm.Pilot.@@N@@
namespace Jvm.Pilot.@@N@@
open Jvm Jvm.ClassFile Sem Op Lib Jvm.Free Jvm.Stand Jvm.Pilot.@@N@@.Jvm.D
/-! MADE BY PROGRAM (witnessworld.py) out of the Statement's table words and the real class files: 12 classes; the members and pool entries that the words name. The judged class is class 1, her method 1. -/
namespace start1
open Jvm.ClassFile
def u (s : String) : CpInfo := .utf8 (stringToUtf16 s)
/-- a pool by its gaps: so many unusable entries, then the entry; so many at the end -/
def gap : Nat → List CpInfo → List CpInfo
  | 0, r => r
  | n + 1, r => .unusable :: gap n r
def poolList (es : List (Nat × CpInfo)) (last : Nat) : List CpInfo := es.foldr (fun e r => gap e.1 (e.2 :: r)) (gap last [])
def pool (es : List (Nat × CpInfo)) (last : Nat) : Array CpInfo := ⟨poolList es last⟩
def fileOf (pool : Array CpInfo) (this : Nat) (attrs : Array Attribute := #[]) (ms : Array MethodInfo := #[]) (fl : Nat := 33) (sup : Nat := 0) (ifs : Array Nat := #[]) (fds : Array FieldInfo := #[]) : ClassFile where
  minorVersion := 0
  majorVersion := 65
  constantPool := pool
  accessFlags := fl
  thisClass := this
  superClass := sup
  interfaces := ifs
  fields := fds
  methods := ms
  attributes := attrs
def plain (name : String) (sup : Option ClassId) : Class where
  name := name
  kind := .ordinary
  loader := none
  accessFlags := 33
  super := sup
  interfaces := #[]
  cf := none
  fields := #[]
  methods := #[]
  instanceTypes := #[]
  staticTypes := #[]
  resolved := #[]
  callSites := []
  init := .initialized
  statics := none
  mirror := none

def pool0 : Array CpInfo := pool [(5, u "<init>"), (0, u "()V"), (1, .class_ 10), (1, u "java/lang/Object")] 113

def k0c0 : Code := { maxStack := 0, maxLocals := 1, code := object_method_1_code, exceptionTable := #[], attributes := #[] }
def k0m0 : Method := { name := "<init>", desc := "()V", sig := { parameters := [], returnType := none }, accessFlags := 1, code := some k0c0 }
/-- java/lang/Object -/
def k0 : Class := { plain "java/lang/Object" none with
  accessFlags := 33
  interfaces := #[]
  cf := some (fileOf pool0 8 #[] #[{ accessFlags := 1, nameIndex := 5, descriptorIndex := 6, attributes := #[] }] 33 0 #[] #[])
  fields := #[]
  methods := #[k0m0]
  instanceTypes := #[]
  staticTypes := #[]
  resolved := Array.replicate 124 none
  statics := none }

def pool1 : Array CpInfo := pool [(2, .class_ 4), (0, .nameAndType 5 6), (0, u "java/lang/Object"), (0, u "<init>"), (0, u "()V"), (0, .integer 2147483647), (0, .class_ 9), (0, u "com/example/hierarchy_from_axioms/hierarchyfromaxioms/reasoner/Occurrences"), (0, .methodref 8 3), (0, .methodref 8 12), (0, .nameAndType 13 14), (0, u "of"), (0, u "(I)I"), (0, .methodref 8 16), (0, .nameAndType 17 18), (0, u "add"), (0, u "(I)V"), (0, .methodref 8 20), (0, .nameAndType 21 18), (0, u "remove"), (0, .class_ 23), (0, u "com/example/hierarchy_from_axioms/hierarchyfromaxioms/reasoner/OccurrencesOfPinLaw"), (2, u "law"), (0, u "(IIIII)Z")] 3

def k1m0 : Method := { name := "<init>", desc := "()V", sig := { parameters := [], returnType := none }, accessFlags := 1, code := none }
def k1c1 : Code := { maxStack := 2, maxLocals := 14, code := code, exceptionTable := #[], attributes := #[] }
def k1m1 : Method := { name := "law", desc := "(IIIII)Z", sig := { parameters := [.int, .int, .int, .int, .int], returnType := some .boolean }, accessFlags := 9, code := some k1c1 }
/-- com/example/hierarchy_from_axioms/hierarchyfromaxioms/reasoner/OccurrencesOfPinLaw -/
def k1 : Class := { plain "com/example/hierarchy_from_axioms/hierarchyfromaxioms/reasoner/OccurrencesOfPinLaw" (some 0) with
  accessFlags := 49
  interfaces := #[]
  cf := some (fileOf pool1 22 #[] #[{ accessFlags := 1, nameIndex := 5, descriptorIndex := 6, attributes := #[] }, { accessFlags := 9, nameIndex := 26, descriptorIndex := 27, attributes := #[] }] 49 2 #[] #[])
  fields := #[]
  methods := #[k1m0, k1m1]
  instanceTypes := #[]
  staticTypes := #[]
  resolved := Array.replicate 31 none
  statics := none }

def pool2 : Array CpInfo := pool [(1, .methodref 2 3), (0, .class_ 4), (0, .nameAndType 5 6), (0, u "java/lang/Object"), (0, u "<init>"), (0, u "()V"), (0, .fieldref 8 9), (0, .class_ 10), (0, .nameAndType 11 12), (0, u "com/example/hierarchy_from_axioms/hierarchyfromaxioms/reasoner/Occurrences"), (0, u "counts"), (0, u "[I"), (0, .methodref 14 15), (0, .class_ 16), (0, .nameAndType 17 18), (0, u "java/lang/Math"), (0, u "max"), (0, u "(II)I"), (0, .methodref 20 21), (0, .class_ 22), (0, .nameAndType 23 24), (0, u "java/util/Arrays"), (0, u "copyOf"), (0, u "([II)[I"), (2, u "of"), (0, u "(I)I"), (1, u "add"), (0, u "(I)V"), (0, u "remove")] 2

def k2c0 : Code := { maxStack := 2, maxLocals := 1, code := prog_57_method_1_code, exceptionTable := #[], attributes := #[] }
def k2m0 : Method := { name := "<init>", desc := "()V", sig := { parameters := [], returnType := none }, accessFlags := 0, code := some k2c0 }
def k2c1 : Code := { maxStack := 2, maxLocals := 2, code := prog_57_method_2_code, exceptionTable := #[], attributes := #[] }
def k2m1 : Method := { name := "of", desc := "(I)I", sig := { parameters := [.int], returnType := some .int }, accessFlags := 0, code := some k2c1 }
def k2c2 : Code := { maxStack := 5, maxLocals := 2, code := prog_57_method_3_code, exceptionTable := #[], attributes := #[] }
def k2m2 : Method := { name := "add", desc := "(I)V", sig := { parameters := [.int], returnType := none }, accessFlags := 0, code := some k2c2 }
def k2c3 : Code := { maxStack := 4, maxLocals := 2, code := prog_57_method_4_code, exceptionTable := #[], attributes := #[] }
def k2m3 : Method := { name := "remove", desc := "(I)V", sig := { parameters := [.int], returnType := none }, accessFlags := 0, code := some k2c3 }
/-- com/example/hierarchy_from_axioms/hierarchyfromaxioms/reasoner/Occurrences -/
def k2 : Class := { plain "com/example/hierarchy_from_axioms/hierarchyfromaxioms/reasoner/Occurrences" (some 0) with
  accessFlags := 48
  interfaces := #[]
  cf := some (fileOf pool2 8 #[] #[{ accessFlags := 0, nameIndex := 5, descriptorIndex := 6, attributes := #[] }, { accessFlags := 0, nameIndex := 27, descriptorIndex := 28, attributes := #[] }, { accessFlags := 0, nameIndex := 30, descriptorIndex := 31, attributes := #[] }, { accessFlags := 0, nameIndex := 32, descriptorIndex := 31, attributes := #[] }] 48 2 #[] #[{ accessFlags := 2, nameIndex := 11, descriptorIndex := 12, attributes := #[] }])
  fields := #[{ name := "counts", type := (.array .int), accessFlags := 2, slot := 0, constantValue := 0 }]
  methods := #[k2m0, k2m1, k2m2, k2m3]
  instanceTypes := #[(.array .int)]
  staticTypes := #[]
  resolved := Array.replicate 35 none
  statics := none }

def pool3 : Array CpInfo := pool [(1, .class_ 2), (0, u "java/lang/Math"), (1, .class_ 6), (1, u "java/lang/Object"), (0, u "<init>"), (0, u "()V"), (89, .class_ 100), (1, u "java/lang/Math$RandomNumberGeneratorHolder"), (71, u "negativeZeroFloatBits"), (0, u "J"), (2, u "negativeZeroDoubleBits"), (21, u "max"), (2, u "min"), (43, u "$assertionsDisabled"), (0, u "Z"), (88, u "(II)I"), (2, u "twoToTheDoubleScaleDown"), (0, u "D"), (4, u "twoToTheDoubleScaleUp"), (9, u "E"), (3, u "PI"), (2, u "TAU"), (2, u "DEGREES_TO_RADIANS"), (0, u "RADIANS_TO_DEGREES")] 94

def k3m0 : Method := { name := "<init>", desc := "()V", sig := { parameters := [], returnType := none }, accessFlags := 2, code := none }
def k3c1 : Code := { maxStack := 2, maxLocals := 2, code := jdk_29_method_65_code, exceptionTable := #[], attributes := #[] }
def k3m1 : Method := { name := "max", desc := "(II)I", sig := { parameters := [.int, .int], returnType := some .int }, accessFlags := 9, code := some k3c1 }
def k3c2 : Code := { maxStack := 2, maxLocals := 2, code := jdk_29_method_69_code, exceptionTable := #[], attributes := #[] }
def k3m2 : Method := { name := "min", desc := "(II)I", sig := { parameters := [.int, .int], returnType := some .int }, accessFlags := 9, code := some k3c2 }
/-- java/lang/Math -/
def k3 : Class := { plain "java/lang/Math" (some 0) with
  accessFlags := 49
  interfaces := #[]
  cf := some (fileOf pool3 1 #[.nestMembers #[98]] #[{ accessFlags := 2, nameIndex := 7, descriptorIndex := 8, attributes := #[] }, { accessFlags := 9, nameIndex := 198, descriptorIndex := 335, attributes := #[] }, { accessFlags := 9, nameIndex := 201, descriptorIndex := 335, attributes := #[] }] 49 4 #[] #[{ accessFlags := 25, nameIndex := 354, descriptorIndex := 339, attributes := #[] }, { accessFlags := 25, nameIndex := 358, descriptorIndex := 339, attributes := #[] }, { accessFlags := 25, nameIndex := 361, descriptorIndex := 339, attributes := #[] }, { accessFlags := 26, nameIndex := 364, descriptorIndex := 339, attributes := #[] }, { accessFlags := 26, nameIndex := 365, descriptorIndex := 339, attributes := #[] }, { accessFlags := 26, nameIndex := 172, descriptorIndex := 173, attributes := #[] }, { accessFlags := 26, nameIndex := 176, descriptorIndex := 173, attributes := #[] }, { accessFlags := 8, nameIndex := 344, descriptorIndex := 339, attributes := #[] }, { accessFlags := 8, nameIndex := 338, descriptorIndex := 339, attributes := #[] }, { accessFlags := 4120, nameIndex := 245, descriptorIndex := 246, attributes := #[] }])
  fields := #[{ name := "E", type := .double, accessFlags := 25, slot := 0, constantValue := 0 }, { name := "PI", type := .double, accessFlags := 25, slot := 1, constantValue := 0 }, { name := "TAU", type := .double, accessFlags := 25, slot := 2, constantValue := 0 }, { name := "DEGREES_TO_RADIANS", type := .double, accessFlags := 26, slot := 3, constantValue := 0 }, { name := "RADIANS_TO_DEGREES", type := .double, accessFlags := 26, slot := 4, constantValue := 0 }, { name := "negativeZeroFloatBits", type := .long, accessFlags := 26, slot := 5, constantValue := 0 }, { name := "negativeZeroDoubleBits", type := .long, accessFlags := 26, slot := 6, constantValue := 0 }, { name := "twoToTheDoubleScaleUp", type := .double, accessFlags := 8, slot := 7, constantValue := 0 }, { name := "twoToTheDoubleScaleDown", type := .double, accessFlags := 8, slot := 8, constantValue := 0 }, { name := "$assertionsDisabled", type := .boolean, accessFlags := 4120, slot := 9, constantValue := 0 }]
  methods := #[k3m0, k3m1, k3m2]
  instanceTypes := #[]
  staticTypes := #[.double, .double, .double, .double, .double, .long, .long, .double, .double, .boolean]
  resolved := Array.replicate 460 none
  statics := none }

def pool4 : Array CpInfo := pool [(2, .class_ 4), (1, u "java/lang/Object"), (0, u "<init>"), (0, u "()V"), (7, .class_ 16), (1, u "java/util/Arrays"), (57, .class_ 76), (1, u "java/util/Arrays$NaturalOrder"), (36, .class_ 115), (1, u "java/util/Arrays$LegacyMergeSort"), (1, u "Z"), (32, .methodref 151 152), (0, .class_ 153), (0, .nameAndType 154 155), (0, u "java/lang/System"), (0, u "arraycopy"), (0, u "(Ljava/lang/Object;ILjava/lang/Object;II)V"), (146, u "copyOf"), (1, .methodref 305 306), (0, .class_ 307), (0, .nameAndType 308 309), (0, u "java/lang/Math"), (0, u "min"), (0, u "(II)I"), (65, .class_ 376), (0, u "java/util/Arrays$ArrayList"), (68, u "$assertionsDisabled"), (269, u "MIN_ARRAY_SORT_GRAN"), (0, u "I"), (2, u "INSERTIONSORT_THRESHOLD"), (151, u "([II)[I"), (103, .class_ 976), (0, u "java/util/Arrays$ArrayItr")] 52

def k4m0 : Method := { name := "<init>", desc := "()V", sig := { parameters := [], returnType := none }, accessFlags := 2, code := none }
def k4c1 : Code := { maxStack := 6, maxLocals := 3, code := jdk_65_method_123_code, exceptionTable := #[], attributes := #[] }
def k4m1 : Method := { name := "copyOf", desc := "([II)[I", sig := { parameters := [(.array .int), .int], returnType := some (.array .int) }, accessFlags := 9, code := some k4c1 }
/-- java/util/Arrays -/
def k4 : Class := { plain "java/util/Arrays" (some 0) with
  accessFlags := 49
  interfaces := #[]
  cf := some (fileOf pool4 14 #[.nestMembers #[975, 375, 113, 74]] #[{ accessFlags := 2, nameIndex := 5, descriptorIndex := 6, attributes := #[] }, { accessFlags := 9, nameIndex := 302, descriptorIndex := 871, attributes := #[] }] 49 2 #[] #[{ accessFlags := 26, nameIndex := 715, descriptorIndex := 716, attributes := #[] }, { accessFlags := 26, nameIndex := 719, descriptorIndex := 716, attributes := #[] }, { accessFlags := 4120, nameIndex := 445, descriptorIndex := 117, attributes := #[] }])
  fields := #[{ name := "MIN_ARRAY_SORT_GRAN", type := .int, accessFlags := 26, slot := 0, constantValue := 0 }, { name := "INSERTIONSORT_THRESHOLD", type := .int, accessFlags := 26, slot := 1, constantValue := 0 }, { name := "$assertionsDisabled", type := .boolean, accessFlags := 4120, slot := 2, constantValue := 0 }]
  methods := #[k4m0, k4m1]
  instanceTypes := #[]
  staticTypes := #[.int, .int, .boolean]
  resolved := Array.replicate 1029 none
  statics := none }

def pool5 : Array CpInfo := pool [(2, .class_ 4), (1, u "java/lang/Object"), (0, u "<init>"), (0, u "()V"), (1, .class_ 10), (1, u "java/lang/System"), (0, u "allowSecurityManager"), (0, u "I"), (16, u "cons"), (0, u "Ljava/io/Console;"), (77, .class_ 110), (1, u "java/lang/System$CallersHolder"), (43, u "initialErrStream"), (0, u "Ljava/io/PrintStream;"), (19, u "security"), (0, u "Ljava/lang/SecurityManager;"), (31, .class_ 209), (0, u "java/lang/System$1"), (7, u "props"), (0, u "Ljava/util/Properties;"), (2, u "lineSeparator"), (0, u "Ljava/lang/String;"), (96, .class_ 321), (1, u "java/lang/System$LoggerFinder"), (5, .class_ 328), (0, u "java/lang/System$Logger"), (67, u "err"), (2, u "out"), (91, u "notSupportedJnuEncoding"), (15, u "in"), (17, u "initialIn"), (0, u "Ljava/io/InputStream;"), (35, u "bootLayer"), (0, u "Ljava/lang/ModuleLayer;"), (99, .class_ 664), (0, u "java/lang/System$2"), (9, u "NEVER"), (2, u "MAYBE"), (49, u "arraycopy"), (0, u "(Ljava/lang/Object;ILjava/lang/Object;II)V"), (72, .class_ 802), (0, u "java/lang/System$Logger$Level")] 31

def k5m0 : Method := { name := "<init>", desc := "()V", sig := { parameters := [], returnType := none }, accessFlags := 2, code := none }
def k5m1 : Method := { name := "arraycopy", desc := "(Ljava/lang/Object;ILjava/lang/Object;II)V", sig := { parameters := [(.object "java/lang/Object"), .int, (.object "java/lang/Object"), .int, .int], returnType := none }, accessFlags := 265, code := none }
/-- java/lang/System -/
def k5 : Class := { plain "java/lang/System" (some 0) with
  accessFlags := 49
  interfaces := #[]
  cf := some (fileOf pool5 8 #[.nestMembers #[319, 327, 801, 108, 663, 208]] #[{ accessFlags := 2, nameIndex := 5, descriptorIndex := 6, attributes := #[] }, { accessFlags := 265, nameIndex := 727, descriptorIndex := 728, attributes := #[] }] 49 2 #[] #[{ accessFlags := 25, nameIndex := 507, descriptorIndex := 526, attributes := #[] }, { accessFlags := 25, nameIndex := 399, descriptorIndex := 155, attributes := #[] }, { accessFlags := 25, nameIndex := 396, descriptorIndex := 155, attributes := #[] }, { accessFlags := 10, nameIndex := 525, descriptorIndex := 526, attributes := #[] }, { accessFlags := 26, nameIndex := 674, descriptorIndex := 12, attributes := #[] }, { accessFlags := 26, nameIndex := 677, descriptorIndex := 12, attributes := #[] }, { accessFlags := 10, nameIndex := 11, descriptorIndex := 12, attributes := #[] }, { accessFlags := 74, nameIndex := 175, descriptorIndex := 176, attributes := #[] }, { accessFlags := 10, nameIndex := 491, descriptorIndex := 222, attributes := #[] }, { accessFlags := 74, nameIndex := 29, descriptorIndex := 30, attributes := #[] }, { accessFlags := 74, nameIndex := 154, descriptorIndex := 155, attributes := #[] }, { accessFlags := 10, nameIndex := 217, descriptorIndex := 218, attributes := #[] }, { accessFlags := 10, nameIndex := 221, descriptorIndex := 222, attributes := #[] }, { accessFlags := 8, nameIndex := 562, descriptorIndex := 563, attributes := #[] }])
  fields := #[{ name := "in", type := (.object "java/io/InputStream"), accessFlags := 25, slot := 0, constantValue := 0 }, { name := "out", type := (.object "java/io/PrintStream"), accessFlags := 25, slot := 1, constantValue := 0 }, { name := "err", type := (.object "java/io/PrintStream"), accessFlags := 25, slot := 2, constantValue := 0 }, { name := "initialIn", type := (.object "java/io/InputStream"), accessFlags := 10, slot := 3, constantValue := 0 }, { name := "NEVER", type := .int, accessFlags := 26, slot := 4, constantValue := 0 }, { name := "MAYBE", type := .int, accessFlags := 26, slot := 5, constantValue := 0 }, { name := "allowSecurityManager", type := .int, accessFlags := 10, slot := 6, constantValue := 0 }, { name := "security", type := (.object "java/lang/SecurityManager"), accessFlags := 74, slot := 7, constantValue := 0 }, { name := "notSupportedJnuEncoding", type := (.object "java/lang/String"), accessFlags := 10, slot := 8, constantValue := 0 }, { name := "cons", type := (.object "java/io/Console"), accessFlags := 74, slot := 9, constantValue := 0 }, { name := "initialErrStream", type := (.object "java/io/PrintStream"), accessFlags := 74, slot := 10, constantValue := 0 }, { name := "props", type := (.object "java/util/Properties"), accessFlags := 10, slot := 11, constantValue := 0 }, { name := "lineSeparator", type := (.object "java/lang/String"), accessFlags := 10, slot := 12, constantValue := 0 }, { name := "bootLayer", type := (.object "java/lang/ModuleLayer"), accessFlags := 8, slot := 13, constantValue := 0 }]
  methods := #[k5m0, k5m1]
  instanceTypes := #[]
  staticTypes := #[(.object "java/io/InputStream"), (.object "java/io/PrintStream"), (.object "java/io/PrintStream"), (.object "java/io/InputStream"), .int, .int, .int, (.object "java/lang/SecurityManager"), (.object "java/lang/String"), (.object "java/io/Console"), (.object "java/io/PrintStream"), (.object "java/util/Properties"), (.object "java/lang/String"), (.object "java/lang/ModuleLayer")]
  resolved := Array.replicate 834 none
  statics := none }

def pool6 : Array CpInfo := pool [(1, u "java/lang/Cloneable"), (0, .class_ 1), (0, u "java/lang/Object"), (0, .class_ 3)] 3

/-- java/lang/Cloneable -/
def k6 : Class := { plain "java/lang/Cloneable" (some 0) with
  accessFlags := 1537
  interfaces := #[]
  cf := some (fileOf pool6 2 #[] #[] 1537 4 #[] #[])
  fields := #[]
  methods := #[]
  instanceTypes := #[]
  staticTypes := #[]
  resolved := Array.replicate 8 none
  statics := none }

def pool7 : Array CpInfo := pool [(1, u "java/io/Serializable"), (0, .class_ 1), (0, u "java/lang/Object"), (0, .class_ 3)] 3

/-- java/io/Serializable -/
def k7 : Class := { plain "java/io/Serializable" (some 0) with
  accessFlags := 1537
  interfaces := #[]
  cf := some (fileOf pool7 2 #[] #[] 1537 4 #[] #[])
  fields := #[]
  methods := #[]
  instanceTypes := #[]
  staticTypes := #[]
  resolved := Array.replicate 8 none
  statics := none }

/-- the primitive byte -/
def k8 : Class := { plain "byte" none with kind := .primitive 'B', accessFlags := 0x411 }
/-- [B -/
def k9 : Class := { plain "[B" (some 0) with kind := .array 8 .byte, interfaces := #[6, 7], accessFlags := 1041 }

/-- the primitive int -/
def k10 : Class := { plain "int" none with kind := .primitive 'I', accessFlags := 0x411 }
/-- [I -/
def k11 : Class := { plain "[I" (some 0) with kind := .array 10 .int, interfaces := #[6, 7], accessFlags := 1041 }

def heap : Heap := #[]
def classes : Array Class := #[k0, k1, k2, k3, k4, k5, k6, k7, k8, k9, k10, k11]
def interned : List (Array UInt16 × Addr) := []
def slotsUsed : Nat := 0
def theMethod : MethodId := ⟨1, 1⟩
def args0 : Array Value := #[.int 5, .int 6, .int 700, .int 8, .int 5]
def aboutOver (below : List Frame) : State where
  vm := { classes := classes, interned := interned.toArray }
  heap := heap
  slotsUsed := slotsUsed
  threads := #[{ frames := .invoking theMethod args0 :: below }]
def below0 : List Frame := [.native { method := ⟨0, 0⟩, args := #[] }]
def about1 : State := aboutOver below0
def p0 : Program := .bare "" "" ""
def e0 : Env := launch0.env 0 0 0
theorem w_frames : about1.frames = Frame.invoking theMethod args0 :: below0 := rfl
set_option maxRecDepth 65536 in
theorem w_args : argsFit about1.vm theMethod args0 = true := by decide +kernel
set_option maxRecDepth 65536 in
theorem w_heap : heapFits about1 = true := by decide +kernel
set_option maxRecDepth 65536 in
theorem w_runnable : about1.curStatus? = some .runnable := by decide +kernel
set_option maxRecDepth 65536 in
theorem w_alone : about1.alone = true := by decide +kernel
set_option maxRecDepth 65536 in
theorem w_named : about1.methodNamed? x = some theMethod := by decide +kernel
set_option maxRecDepth 65536 in
theorem w_hears : about1.hears theMethod below0 = true := by decide +kernel
set_option maxRecDepth 65536 in
theorem w_ripe : about1.ripe theMethod args0 below0 = true := by decide +kernel
theorem w_running : about1.status = .running := rfl
set_option maxRecDepth 65536 in
theorem w_room : about1.hasRoom e0.platform room_1 = true :=
  launch0.hasRoom_least _ room_1 (by decide +kernel) (by decide +kernel) (by decide +kernel) (by decide +kernel) (by decide +kernel) (by decide +kernel)
theorem allAtoms_all (ts : List Jvm.Cond) (a : Array Jvm.Value) (st : Jvm.State) : (allAtoms ts).before a st = ts.all (fun c => c.before a st) := by
  induction ts with
  | nil => rfl
  | cons c t ih =>
    show (Jvm.Cond.and c (allAtoms t)).before a st = _
    rw [Jvm.Cond.before_and, ih, List.all_cons]
def words1 : List Jvm.Cond := Jvm.Cond.code x code maxLocals ret :: tables_1
/-- a 'code' word, met by the world's own term for the bytes: nothing is compared byte by byte -/
theorem code_word {y : MethodName} {bytes : ByteArray} {mx : Nat} {rt : Option FieldType} {a : Array Value} {s : State} {m : MethodId} {meth : Method} {c : Code} (h1 : s.methodNamed? y = some m) (h2 : s.vm.method? m = some meth) (h3 : meth.code = some c) (h4 : c.code = bytes)
    (h5 : (c.maxLocals == mx && c.exceptionTable.isEmpty && decide (c.maxStack ≤ mostOperands) && decide (meth.sig.returnType = rt) && !meth.locks && decide (parseMethodDescriptor y.desc = some meth.sig)) = true) : (Jvm.Cond.code y bytes mx rt).before a s = true := by
  simp only [Bool.and_eq_true, beq_iff_eq, Bool.not_eq_true', decide_eq_true_eq] at h5
  obtain ⟨⟨⟨⟨⟨g1, g2⟩, g3⟩, g4⟩, g5⟩, g6⟩ := h5
  simp [Cond.before, Cond.holds, Cond.value, h1, h2, h3, h4, g1, g2, g3, g4, g5, g6]
def isCode : Jvm.Cond → Bool
  | .code _ _ _ _ => true
  | _ => false
theorem all_split {L : List Jvm.Cond} {P : Jvm.Cond → Bool} (h1 : L.all (fun c => isCode c || P c) = true) (h2 : ∀ c ∈ L.filter isCode, P c = true) : L.all P = true := by
  refine List.all_eq_true.mpr fun c hc => ?_
  have h := List.all_eq_true.mp h1 c hc
  rcases Bool.eq_false_or_eq_true (isCode c) with hi | hi
  · exact h2 c (List.mem_filter.mpr ⟨hc, hi⟩)
  · simpa [hi] using h
set_option maxRecDepth 65536 in
theorem w_c0 : (Jvm.Cond.code x code maxLocals ret).before args0 about1 = true := code_word (m := ⟨1, 1⟩) (meth := k1m1) (c := k1c1) (by decide +kernel) rfl rfl rfl (by decide +kernel)
set_option maxRecDepth 65536 in
theorem w_c1 : (Jvm.Cond.code ({ cls := "com/example/hierarchy_from_axioms/hierarchyfromaxioms/reasoner/Occurrences", name := "<init>", desc := "()V" } : Jvm.MethodName) prog_57_method_1_code (1 : Nat) (Option.none : Option Jvm.ClassFile.FieldType)).before args0 about1 = true := code_word (m := ⟨2, 0⟩) (meth := k2m0) (c := k2c0) (by decide +kernel) rfl rfl rfl (by decide +kernel)
set_option maxRecDepth 65536 in
theorem w_c2 : (Jvm.Cond.code ({ cls := "java/lang/Object", name := "<init>", desc := "()V" } : Jvm.MethodName) object_method_1_code (1 : Nat) (Option.none : Option Jvm.ClassFile.FieldType)).before args0 about1 = true := code_word (m := ⟨0, 0⟩) (meth := k0m0) (c := k0c0) (by decide +kernel) rfl rfl rfl (by decide +kernel)
set_option maxRecDepth 65536 in
theorem w_c3 : (Jvm.Cond.code ({ cls := "com/example/hierarchy_from_axioms/hierarchyfromaxioms/reasoner/Occurrences", name := "of", desc := "(I)I" } : Jvm.MethodName) prog_57_method_2_code (2 : Nat) (Option.some Jvm.ClassFile.FieldType.int)).before args0 about1 = true := code_word (m := ⟨2, 1⟩) (meth := k2m1) (c := k2c1) (by decide +kernel) rfl rfl rfl (by decide +kernel)
set_option maxRecDepth 65536 in
theorem w_c4 : (Jvm.Cond.code ({ cls := "com/example/hierarchy_from_axioms/hierarchyfromaxioms/reasoner/Occurrences", name := "add", desc := "(I)V" } : Jvm.MethodName) prog_57_method_3_code (2 : Nat) (Option.none : Option Jvm.ClassFile.FieldType)).before args0 about1 = true := code_word (m := ⟨2, 2⟩) (meth := k2m2) (c := k2c2) (by decide +kernel) rfl rfl rfl (by decide +kernel)
set_option maxRecDepth 65536 in
theorem w_c5 : (Jvm.Cond.code ({ cls := "com/example/hierarchy_from_axioms/hierarchyfromaxioms/reasoner/Occurrences", name := "remove", desc := "(I)V" } : Jvm.MethodName) prog_57_method_4_code (2 : Nat) (Option.none : Option Jvm.ClassFile.FieldType)).before args0 about1 = true := code_word (m := ⟨2, 3⟩) (meth := k2m3) (c := k2c3) (by decide +kernel) rfl rfl rfl (by decide +kernel)
set_option maxRecDepth 65536 in
theorem w_c6 : (Jvm.Cond.code ({ cls := "java/lang/Math", name := "max", desc := "(II)I" } : Jvm.MethodName) jdk_29_method_65_code (2 : Nat) (Option.some Jvm.ClassFile.FieldType.int)).before args0 about1 = true := code_word (m := ⟨3, 1⟩) (meth := k3m1) (c := k3c1) (by decide +kernel) rfl rfl rfl (by decide +kernel)
set_option maxRecDepth 65536 in
theorem w_c7 : (Jvm.Cond.code ({ cls := "java/util/Arrays", name := "copyOf", desc := "([II)[I" } : Jvm.MethodName) jdk_65_method_123_code (3 : Nat) (Option.some (Jvm.ClassFile.FieldType.array Jvm.ClassFile.FieldType.int))).before args0 about1 = true := code_word (m := ⟨4, 1⟩) (meth := k4m1) (c := k4c1) (by decide +kernel) rfl rfl rfl (by decide +kernel)
set_option maxRecDepth 65536 in
theorem w_c8 : (Jvm.Cond.code ({ cls := "java/lang/Math", name := "min", desc := "(II)I" } : Jvm.MethodName) jdk_29_method_69_code (2 : Nat) (Option.some Jvm.ClassFile.FieldType.int)).before args0 about1 = true := code_word (m := ⟨3, 2⟩) (meth := k3m2) (c := k3c2) (by decide +kernel) rfl rfl rfl (by decide +kernel)
def codes1 : List Jvm.Cond := [Jvm.Cond.code x code maxLocals ret, Jvm.Cond.code ({ cls := "com/example/hierarchy_from_axioms/hierarchyfromaxioms/reasoner/Occurrences", name := "<init>", desc := "()V" } : Jvm.MethodName) prog_57_method_1_code (1 : Nat) (Option.none : Option Jvm.ClassFile.FieldType), Jvm.Cond.code ({ cls := "java/lang/Object", name := "<init>", desc := "()V" } : Jvm.MethodName) object_method_1_code (1 : Nat) (Option.none : Option Jvm.ClassFile.FieldType), Jvm.Cond.code ({ cls := "com/example/hierarchy_from_axioms/hierarchyfromaxioms/reasoner/Occurrences", name := "of", desc := "(I)I" } : Jvm.MethodName) prog_57_method_2_code (2 : Nat) (Option.some Jvm.ClassFile.FieldType.int), Jvm.Cond.code ({ cls := "com/example/hierarchy_from_axioms/hierarchyfromaxioms/reasoner/Occurrences", name := "add", desc := "(I)V" } : Jvm.MethodName) prog_57_method_3_code (2 : Nat) (Option.none : Option Jvm.ClassFile.FieldType), Jvm.Cond.code ({ cls := "com/example/hierarchy_from_axioms/hierarchyfromaxioms/reasoner/Occurrences", name := "remove", desc := "(I)V" } : Jvm.MethodName) prog_57_method_4_code (2 : Nat) (Option.none : Option Jvm.ClassFile.FieldType), Jvm.Cond.code ({ cls := "java/lang/Math", name := "max", desc := "(II)I" } : Jvm.MethodName) jdk_29_method_65_code (2 : Nat) (Option.some Jvm.ClassFile.FieldType.int), Jvm.Cond.code ({ cls := "java/util/Arrays", name := "copyOf", desc := "([II)[I" } : Jvm.MethodName) jdk_65_method_123_code (3 : Nat) (Option.some (Jvm.ClassFile.FieldType.array Jvm.ClassFile.FieldType.int)), Jvm.Cond.code ({ cls := "java/lang/Math", name := "min", desc := "(II)I" } : Jvm.MethodName) jdk_29_method_69_code (2 : Nat) (Option.some Jvm.ClassFile.FieldType.int)]
set_option maxRecDepth 65536 in
theorem codes_eq : words1.filter isCode = codes1 := rfl
theorem w_codes : ∀ c ∈ words1.filter isCode, c.before args0 about1 = true := by
  rw [codes_eq]
  intro c hc
  simp only [codes1, List.mem_cons, List.not_mem_nil, or_false] at hc
  rcases hc with rfl | rfl | rfl | rfl | rfl | rfl | rfl | rfl | rfl
  · exact w_c0
  · exact w_c1
  · exact w_c2
  · exact w_c3
  · exact w_c4
  · exact w_c5
  · exact w_c6
  · exact w_c7
  · exact w_c8
set_option maxRecDepth 65536 in
theorem w_t1 : (words1.take 24).all (fun c => isCode c || c.before args0 about1) = true := by decide +kernel
set_option maxRecDepth 65536 in
theorem w_t2 : (words1.drop 24).all (fun c => isCode c || c.before args0 about1) = true := by decide +kernel
theorem w_tables : (allAtoms (Jvm.Cond.code x code maxLocals ret :: tables_1)).before args0 about1 = true := by
  rw [allAtoms_all]
  show words1.all (fun c => c.before args0 about1) = true
  refine all_split ?_ w_codes
  rw [← List.take_append_drop 24 words1, List.all_append, w_t1, w_t2]
  rfl
set_option maxRecDepth 65536 in
theorem w_case : (Jvm.Cond.and given_1 narrow_1).before args0 about1 = true := by decide +kernel
theorem w_applies : (headSpec (Jvm.Cond.code x code maxLocals ret :: tables_1) room_1).applies x e0.platform about1 = true :=
  (Spec.applies_iff w_frames).mpr ⟨w_running, w_runnable, w_alone, w_named, w_hears, w_ripe, w_room, w_tables⟩
theorem atStart : AtStart classFile x code maxLocals ret World_1 tables_1 room_1 Calls_1 rest_1 Pre_1 launch0 p0 e0 about1 theMethod args0 below0 :=
  ⟨lists_1, trivial, launch0.admits_env _ _ _, launch0.least_env, fairChoices_fair.cas, fairChoices_fair.clock, w_frames, w_args, w_heap, w_applies, trivial, trivial, w_case⟩
end start1
theorem witness_1 : WitnessClaimed_1 := ⟨start1.p0, start1.e0, start1.about1, start1.theMethod, start1.args0, start1.below0, start1.atStart⟩
end Jvm.Pilot.@@N@@
