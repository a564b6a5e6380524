import JvmDerived
import JvmDerived.Pilot.@@N@@Statement
import JvmDerived.Pilot.@@N@@Code
set_option linter.unusedVariables false
set_option linter.unusedSimpArgs false
@@BLOCK:NumsL.lean.txt@@
namespace Jvm.Pilot.@@N@@
open Jvm Jvm.ClassFile Sem Op Lib Jvm.Free Jvm.Stand Jvm.LawKit Jvm.RoadKit Bundle Jvm.Pilot.@@N@@.Jvm.D
/-- what a body still owes at the state U: that it comes to a return with Q, within kc cells and ks slots -/
def Ow (p : Program) (e : Env) (below : List Frame) (s : State) (Q : Option Value → Heap → List Loc → Prop) (kc ks : Nat) (U : State) : Prop :=
  ∃ s₂ o, Steps p.tables e below U s₂ ∧ s₂.status = .running ∧ Ended s₂ below o ∧ ∃ v L, o = .returned v ∧ Q v s₂.heap L ∧ FrameEnd s o s₂ L kc ks
def lsr64 (x : Int64) (y : Int32) : Int64 := ((x.toUInt64 >>> (y &&& 0x3f).toInt64.toUInt64).toInt64)
def lsr32 (x y : Int32) : Int32 := ((x.toUInt32 >>> (y &&& 31).toUInt32).toInt32)
section W
variable {p : Program} {l : Launch} {e : Env} {R : Room} {s : State} {m : MethodId} {args : Array Value} {below : List Frame} {meth : Method} {c : Code} {T : State} {locs : List Loc} {cells slots : Nat} {Q : Option Value → Heap → List Loc → Prop} {kc ks : Nat} {pc pc' : Nat} {Ls Ls' : Array Slot} {st : List Value} {Z : State} {a0 : Array Value} {h : Heap}
theorem Ow.go {U U' : State} (k : Steps p.tables e below U U') (o : Ow p e below s Q kc ks U') : Ow p e below s Q kc ks U := by
  obtain ⟨s₂, o', h1, h2⟩ := o
  exact ⟨s₂, o', k.trans h1, h2⟩
theorem Ow.via {U U' : State} (k : ∀ t, Steps p.tables e below U' t → Steps p.tables e below U t) (o : Ow p e below s Q kc ks U') : Ow p e below s Q kc ks U := Ow.go (k _ (Steps.refl _)) o
theorem Ow.enter {n : Nat} (q : entryFrame m args n = mkF m 0 Ls []) (k : Ow p e below s Q kc ks (T.setTop (mkF m 0 Ls []))) :
    ∃ s₂ o, Steps p.tables e below (T.setTop (entryFrame m args n)) s₂ ∧ s₂.status = .running ∧ Ended s₂ below o ∧ ∃ v L, o = .returned v ∧ Q v s₂.heap L ∧ FrameEnd s o s₂ L kc ks := by
  rw [q]; exact k
theorem Ow.join {U : State} (T' : State) (g' : JFrame) (f : Ow p e below s Q kc ks (T'.setTop g') → Ow p e below s Q kc ks U) (k : Ow p e below s Q kc ks (T'.setTop g')) : Ow p e below s Q kc ks U := f k
theorem w_iloadN (X : Stand p l e R s m args below meth c T locs cells slots) (hx : p.tables.exec = Jvm.exec) {k : Fin 4} {v : Int32} (hd : decode c.code pc = .ok (.iload_n k, 1)) (hl : Ls[k.val]? = some (.val (.int v))) (hp : pc + 1 = pc') (k : Ow p e below s Q kc ks (T.setTop (mkF m pc' Ls (.int v :: st)))) : Ow p e below s Q kc ks (T.setTop (mkF m pc Ls st)) := by
  subst hp; exact Ow.go (XS.iloadN X.here hx rfl hd hl (Steps.refl _)) k
theorem w_iload (X : Stand p l e R s m args below meth c T locs cells slots) (hx : p.tables.exec = Jvm.exec) {k : Nat} {v : Int32} (hd : decode c.code pc = .ok (.iload k, 2)) (hl : Ls[k]? = some (.val (.int v))) (hp : pc + 2 = pc') (k : Ow p e below s Q kc ks (T.setTop (mkF m pc' Ls (.int v :: st)))) : Ow p e below s Q kc ks (T.setTop (mkF m pc Ls st)) := by
  subst hp; exact Ow.go (XS.iload X.here hx rfl hd hl (Steps.refl _)) k
theorem w_istore (X : Stand p l e R s m args below meth c T locs cells slots) (hx : p.tables.exec = Jvm.exec) {k : Nat} {v : Int32} (hd : decode c.code pc = .ok (.istore k, 2)) (Ls' : Array Slot) (hl : storeLocals Ls k (.int v) = some Ls') (hp : pc + 2 = pc') (k : Ow p e below s Q kc ks (T.setTop (mkF m pc' Ls' st))) : Ow p e below s Q kc ks (T.setTop (mkF m pc Ls (.int v :: st))) := by
  subst hp; exact Ow.go (XS.istore X.here hx rfl hd rfl hl (Steps.refl _)) k
theorem w_aloadN (X : Stand p l e R s m args below meth c T locs cells slots) (hx : p.tables.exec = Jvm.exec) {k : Fin 4} {v : Value} (hd : decode c.code pc = .ok (.aload_n k, 1)) (hl : Ls[k.val]? = some (.val v)) (hv : v.isRef = true) (hp : pc + 1 = pc') (k : Ow p e below s Q kc ks (T.setTop (mkF m pc' Ls (v :: st)))) : Ow p e below s Q kc ks (T.setTop (mkF m pc Ls st)) := by
  subst hp; exact Ow.go (XS.aloadN X.here hx rfl hd hl hv (Steps.refl _)) k
theorem w_aload (X : Stand p l e R s m args below meth c T locs cells slots) (hx : p.tables.exec = Jvm.exec) {k : Nat} {v : Value} (hd : decode c.code pc = .ok (.aload k, 2)) (hl : Ls[k]? = some (.val v)) (hv : v.isRef = true) (hp : pc + 2 = pc') (k : Ow p e below s Q kc ks (T.setTop (mkF m pc' Ls (v :: st)))) : Ow p e below s Q kc ks (T.setTop (mkF m pc Ls st)) := by
  subst hp; exact Ow.go (XS.aload X.here hx rfl hd hl hv (Steps.refl _)) k
theorem w_astoreN (X : Stand p l e R s m args below meth c T locs cells slots) (hx : p.tables.exec = Jvm.exec) {k : Fin 4} {v : Value} (hd : decode c.code pc = .ok (.astore_n k, 1)) (Ls' : Array Slot) (hl : storeLocals Ls k.val v = some Ls') (hv : v.isRef = true) (hp : pc + 1 = pc') (k : Ow p e below s Q kc ks (T.setTop (mkF m pc' Ls' st))) : Ow p e below s Q kc ks (T.setTop (mkF m pc Ls (v :: st))) := by
  subst hp; exact Ow.go (XS.astoreN X.here hx rfl hd rfl hv hl (Steps.refl _)) k
theorem w_astore (X : Stand p l e R s m args below meth c T locs cells slots) (hx : p.tables.exec = Jvm.exec) {k : Nat} {v : Value} (hd : decode c.code pc = .ok (.astore k, 2)) (Ls' : Array Slot) (hl : storeLocals Ls k v = some Ls') (hv : v.isRef = true) (hp : pc + 2 = pc') (k : Ow p e below s Q kc ks (T.setTop (mkF m pc' Ls' st))) : Ow p e below s Q kc ks (T.setTop (mkF m pc Ls (v :: st))) := by
  subst hp; exact Ow.go (XS.astore X.here hx rfl hd rfl hv hl (Steps.refl _)) k
theorem w_iconst (X : Stand p l e R s m args below meth c T locs cells slots) (hx : p.tables.exec = Jvm.exec) {i : Int} (v : Int32) (hd : decode c.code pc = .ok (.iconst i, 1)) (hv : Int32.ofInt i = v) (hp : pc + 1 = pc') (k : Ow p e below s Q kc ks (T.setTop (mkF m pc' Ls (.int v :: st)))) : Ow p e below s Q kc ks (T.setTop (mkF m pc Ls st)) := by
  subst hp hv; exact Ow.go (XS.iconst X.here hx rfl hd (Steps.refl _)) k
theorem w_bipush (X : Stand p l e R s m args below meth c T locs cells slots) (hx : p.tables.exec = Jvm.exec) {i : Int} (v : Int32) (hd : decode c.code pc = .ok (.bipush i, 2)) (hv : (Int8.ofInt i).toInt32 = v) (hp : pc + 2 = pc') (k : Ow p e below s Q kc ks (T.setTop (mkF m pc' Ls (.int v :: st)))) : Ow p e below s Q kc ks (T.setTop (mkF m pc Ls st)) := by
  subst hp hv; exact Ow.go (XS.bipush X.here hx rfl hd (Steps.refl _)) k
theorem w_sipush (X : Stand p l e R s m args below meth c T locs cells slots) (hx : p.tables.exec = Jvm.exec) {i : Int} (v : Int32) (hd : decode c.code pc = .ok (.sipush i, 3)) (hv : (Int16.ofInt i).toInt32 = v) (hp : pc + 3 = pc') (k : Ow p e below s Q kc ks (T.setTop (mkF m pc' Ls (.int v :: st)))) : Ow p e below s Q kc ks (T.setTop (mkF m pc Ls st)) := by
  subst hp hv; exact Ow.go (XS.sipush X.here hx rfl hd (Steps.refl _)) k
theorem w_aconst_null (X : Stand p l e R s m args below meth c T locs cells slots) (hx : p.tables.exec = Jvm.exec)  (hd : decode c.code pc = .ok (.aconst_null, 1))  (hp : pc + 1 = pc') (k : Ow p e below s Q kc ks (T.setTop (mkF m pc' Ls (.null :: st)))) : Ow p e below s Q kc ks (T.setTop (mkF m pc Ls st)) := by
  subst hp; exact Ow.go (XS.aconstNull X.here hx rfl hd  (Steps.refl _)) k
theorem w_iadd (X : Stand p l e R s m args below meth c T locs cells slots) (hx : p.tables.exec = Jvm.exec) {x y : Int32} (hd : decode c.code pc = .ok (.iadd, 1))  (hp : pc + 1 = pc') (k : Ow p e below s Q kc ks (T.setTop (mkF m pc' Ls (.int (x + y) :: st)))) : Ow p e below s Q kc ks (T.setTop (mkF m pc Ls (.int y :: .int x :: st))) := by
  subst hp; exact Ow.go (XS.iadd X.here hx rfl hd rfl (Steps.refl _)) k
theorem w_isub (X : Stand p l e R s m args below meth c T locs cells slots) (hx : p.tables.exec = Jvm.exec) {x y : Int32} (hd : decode c.code pc = .ok (.isub, 1))  (hp : pc + 1 = pc') (k : Ow p e below s Q kc ks (T.setTop (mkF m pc' Ls (.int (x - y) :: st)))) : Ow p e below s Q kc ks (T.setTop (mkF m pc Ls (.int y :: .int x :: st))) := by
  subst hp; exact Ow.go (XS.isub X.here hx rfl hd rfl (Steps.refl _)) k
theorem w_imul (X : Stand p l e R s m args below meth c T locs cells slots) (hx : p.tables.exec = Jvm.exec) {x y : Int32} (hd : decode c.code pc = .ok (.imul, 1))  (hp : pc + 1 = pc') (k : Ow p e below s Q kc ks (T.setTop (mkF m pc' Ls (.int (x * y) :: st)))) : Ow p e below s Q kc ks (T.setTop (mkF m pc Ls (.int y :: .int x :: st))) := by
  subst hp; exact Ow.go (XS.imul X.here hx rfl hd rfl (Steps.refl _)) k
theorem w_iand (X : Stand p l e R s m args below meth c T locs cells slots) (hx : p.tables.exec = Jvm.exec) {x y : Int32} (hd : decode c.code pc = .ok (.iand, 1))  (hp : pc + 1 = pc') (k : Ow p e below s Q kc ks (T.setTop (mkF m pc' Ls (.int (x &&& y) :: st)))) : Ow p e below s Q kc ks (T.setTop (mkF m pc Ls (.int y :: .int x :: st))) := by
  subst hp; exact Ow.go (XS.iand X.here hx rfl hd rfl (Steps.refl _)) k
theorem w_iushr (X : Stand p l e R s m args below meth c T locs cells slots) (hx : p.tables.exec = Jvm.exec) {x y : Int32} (hd : decode c.code pc = .ok (.iushr, 1))  (hp : pc + 1 = pc') (k : Ow p e below s Q kc ks (T.setTop (mkF m pc' Ls (.int (lsr32 x y) :: st)))) : Ow p e below s Q kc ks (T.setTop (mkF m pc Ls (.int y :: .int x :: st))) := by
  subst hp; exact Ow.go (XS.iushr X.here hx rfl hd rfl (Steps.refl _)) k
theorem w_dup (X : Stand p l e R s m args below meth c T locs cells slots) (hx : p.tables.exec = Jvm.exec) {x : Value} (hd : decode c.code pc = .ok (.dup, 1)) (hc : x.category = 1) (hp : pc + 1 = pc') (k : Ow p e below s Q kc ks (T.setTop (mkF m pc' Ls (x :: x :: st)))) : Ow p e below s Q kc ks (T.setTop (mkF m pc Ls (x :: st))) := by
  subst hp; exact Ow.go (XS.dup X.here hx rfl hd rfl hc (Steps.refl _)) k
theorem w_goto (X : Stand p l e R s m args below meth c T locs cells slots) (hx : p.tables.exec = Jvm.exec) {o : Int} (hd : decode c.code pc = .ok (.goto o, 3)) (ho : 0 ≤ (pc : Int) + o) (hp : ((pc : Int) + o).toNat = pc') (k : Ow p e below s Q kc ks (T.setTop (mkF m pc' Ls st))) : Ow p e below s Q kc ks (T.setTop (mkF m pc Ls st)) := by
  exact Ow.go (XS.goto X.here hx rfl (pc0 := pc) rfl hd ho hp (Steps.refl _)) k
theorem w_icmp_eq (X : Stand p l e R s m args below meth c T locs cells slots) (hx : p.tables.exec = Jvm.exec) {x y : Int32} {o : Int} {pcT pcF : Nat} (hd : decode c.code pc = .ok (.if_icmp .eq o, 3)) (ho : 0 ≤ (pc : Int) + o) (ht : ((pc : Int) + o).toNat = pcT) (hp : pc + 3 = pcF) (k1 : x = y → Ow p e below s Q kc ks (T.setTop (mkF m pcT Ls st))) (k2 : ¬ (x = y) → Ow p e below s Q kc ks (T.setTop (mkF m pcF Ls st))) : Ow p e below s Q kc ks (T.setTop (mkF m pc Ls (.int y :: .int x :: st))) := by
  subst hp
  by_cases q : x = y
  · exact Ow.go (XS.icmpYes X.here hx rfl (pc0 := pc) rfl hd rfl (teq q).1 ho ht (Steps.refl _)) (k1 q)
  · exact Ow.go (XS.icmpNo X.here hx rfl hd rfl (feq q).1 (Steps.refl _)) (k2 q)
theorem w_if_eq (X : Stand p l e R s m args below meth c T locs cells slots) (hx : p.tables.exec = Jvm.exec) {x : Int32} {o : Int} {pcT pcF : Nat} (hd : decode c.code pc = .ok (.ifCond .eq o, 3)) (ho : 0 ≤ (pc : Int) + o) (ht : ((pc : Int) + o).toNat = pcT) (hp : pc + 3 = pcF) (k1 : x = (0 : Int32) → Ow p e below s Q kc ks (T.setTop (mkF m pcT Ls st))) (k2 : ¬ (x = (0 : Int32)) → Ow p e below s Q kc ks (T.setTop (mkF m pcF Ls st))) : Ow p e below s Q kc ks (T.setTop (mkF m pc Ls (.int x :: st))) := by
  subst hp
  by_cases q : x = (0 : Int32)
  · exact Ow.go (XS.ifYes X.here hx rfl (pc0 := pc) rfl hd rfl ((if0 _ _).trans (teq q).1) ho ht (Steps.refl _)) (k1 q)
  · exact Ow.go (XS.ifNo X.here hx rfl hd rfl ((if0 _ _).trans (feq q).1) (Steps.refl _)) (k2 q)
theorem w_icmp_ne (X : Stand p l e R s m args below meth c T locs cells slots) (hx : p.tables.exec = Jvm.exec) {x y : Int32} {o : Int} {pcT pcF : Nat} (hd : decode c.code pc = .ok (.if_icmp .ne o, 3)) (ho : 0 ≤ (pc : Int) + o) (ht : ((pc : Int) + o).toNat = pcT) (hp : pc + 3 = pcF) (k1 : ¬ (x = y) → Ow p e below s Q kc ks (T.setTop (mkF m pcT Ls st))) (k2 : x = y → Ow p e below s Q kc ks (T.setTop (mkF m pcF Ls st))) : Ow p e below s Q kc ks (T.setTop (mkF m pc Ls (.int y :: .int x :: st))) := by
  subst hp
  by_cases q : x = y
  · exact Ow.go (XS.icmpNo X.here hx rfl hd rfl (teq q).2 (Steps.refl _)) (k2 q)
  · exact Ow.go (XS.icmpYes X.here hx rfl (pc0 := pc) rfl hd rfl (feq q).2 ho ht (Steps.refl _)) (k1 q)
theorem w_if_ne (X : Stand p l e R s m args below meth c T locs cells slots) (hx : p.tables.exec = Jvm.exec) {x : Int32} {o : Int} {pcT pcF : Nat} (hd : decode c.code pc = .ok (.ifCond .ne o, 3)) (ho : 0 ≤ (pc : Int) + o) (ht : ((pc : Int) + o).toNat = pcT) (hp : pc + 3 = pcF) (k1 : ¬ (x = (0 : Int32)) → Ow p e below s Q kc ks (T.setTop (mkF m pcT Ls st))) (k2 : x = (0 : Int32) → Ow p e below s Q kc ks (T.setTop (mkF m pcF Ls st))) : Ow p e below s Q kc ks (T.setTop (mkF m pc Ls (.int x :: st))) := by
  subst hp
  by_cases q : x = (0 : Int32)
  · exact Ow.go (XS.ifNo X.here hx rfl hd rfl ((if0 _ _).trans (teq q).2) (Steps.refl _)) (k2 q)
  · exact Ow.go (XS.ifYes X.here hx rfl (pc0 := pc) rfl hd rfl ((if0 _ _).trans (feq q).2) ho ht (Steps.refl _)) (k1 q)
theorem w_icmp_lt (X : Stand p l e R s m args below meth c T locs cells slots) (hx : p.tables.exec = Jvm.exec) {x y : Int32} {o : Int} {pcT pcF : Nat} (hd : decode c.code pc = .ok (.if_icmp .lt o, 3)) (ho : 0 ≤ (pc : Int) + o) (ht : ((pc : Int) + o).toNat = pcT) (hp : pc + 3 = pcF) (k1 : x < y → Ow p e below s Q kc ks (T.setTop (mkF m pcT Ls st))) (k2 : ¬ (x < y) → Ow p e below s Q kc ks (T.setTop (mkF m pcF Ls st))) : Ow p e below s Q kc ks (T.setTop (mkF m pc Ls (.int y :: .int x :: st))) := by
  subst hp
  by_cases q : x < y
  · exact Ow.go (XS.icmpYes X.here hx rfl (pc0 := pc) rfl hd rfl (tlt q).1 ho ht (Steps.refl _)) (k1 q)
  · exact Ow.go (XS.icmpNo X.here hx rfl hd rfl (flt q).1 (Steps.refl _)) (k2 q)
theorem w_icmp_gt (X : Stand p l e R s m args below meth c T locs cells slots) (hx : p.tables.exec = Jvm.exec) {x y : Int32} {o : Int} {pcT pcF : Nat} (hd : decode c.code pc = .ok (.if_icmp .gt o, 3)) (ho : 0 ≤ (pc : Int) + o) (ht : ((pc : Int) + o).toNat = pcT) (hp : pc + 3 = pcF) (k1 : y < x → Ow p e below s Q kc ks (T.setTop (mkF m pcT Ls st))) (k2 : ¬ (y < x) → Ow p e below s Q kc ks (T.setTop (mkF m pcF Ls st))) : Ow p e below s Q kc ks (T.setTop (mkF m pc Ls (.int y :: .int x :: st))) := by
  subst hp
  by_cases q : y < x
  · exact Ow.go (XS.icmpYes X.here hx rfl (pc0 := pc) rfl hd rfl (tlt q).2.2.1 ho ht (Steps.refl _)) (k1 q)
  · exact Ow.go (XS.icmpNo X.here hx rfl hd rfl (flt q).2.2.1 (Steps.refl _)) (k2 q)
theorem w_ireturn (X : Stand p l e R s m args below meth c T locs cells slots) (hx : p.tables.exec = Jvm.exec) {z : Int32} (hret : meth.sig.returnType = some .int)  (hlk : meth.locks = false) (hc : cells ≤ kc) (hs : slots ≤ ks) (hd : decode c.code pc = .ok (.ireturn, 1)) (hq : Q (some (.int z)) T.heap locs) : Ow p e below s Q kc ks (T.setTop (mkF m pc Ls (.int z :: st))) := by
  obtain ⟨fs, hr, hrun, hended, hW, hsame⟩ := X.leave (v := some (.int z)) (fun h => by rw [hret] at h; cases h) hlk
  exact ⟨_, _, retOut X hx (t := .int) hret rfl (Or.inl ⟨rfl, Or.inl rfl, _, rfl⟩) hd hr, hrun, hended, _, _, rfl, hq, ⟨_, rfl⟩, hW, hsame.mono hc hs⟩
theorem w_zreturn (X : Stand p l e R s m args below meth c T locs cells slots) (hx : p.tables.exec = Jvm.exec) {z : Int32} (hret : meth.sig.returnType = some .boolean) (hz : z = 0 ∨ z = 1) (hlk : meth.locks = false) (hc : cells ≤ kc) (hs : slots ≤ ks) (hd : decode c.code pc = .ok (.ireturn, 1)) (hq : Q (some (.int z)) T.heap locs) : Ow p e below s Q kc ks (T.setTop (mkF m pc Ls (.int z :: st))) := by
  obtain ⟨fs, hr, hrun, hended, hW, hsame⟩ := X.leave (v := some (.int z)) (fun h => by rw [hret] at h; cases h) hlk
  exact ⟨_, _, retOut X hx (t := .boolean) hret (by rcases hz with rfl | rfl <;> rfl) (Or.inl ⟨rfl, Or.inr (Or.inl rfl), _, rfl⟩) hd hr, hrun, hended, _, _, rfl, hq, ⟨_, rfl⟩, hW, hsame.mono hc hs⟩
theorem w_areturn (X : Stand p l e R s m args below meth c T locs cells slots) (hx : p.tables.exec = Jvm.exec) {a : Addr} {t : FieldType} (hret : meth.sig.returnType = some t) (ht : t.isReference = true) (hn : narrow t (.ref a) = .ref a) (hlk : meth.locks = false) (hc : cells ≤ kc) (hs : slots ≤ ks) (hd : decode c.code pc = .ok (.areturn, 1)) (hq : Q (some (.ref a)) T.heap locs) : Ow p e below s Q kc ks (T.setTop (mkF m pc Ls (.ref a :: st))) := by
  obtain ⟨fs, hr, hrun, hended, hW, hsame⟩ := X.leave (v := some (.ref a)) (fun h => by rw [hret] at h; cases h) hlk
  exact ⟨_, _, retOut X hx (t := t) hret hn (Or.inr (Or.inr (Or.inr (Or.inr ⟨rfl, ht, rfl⟩)))) hd hr, hrun, hended, _, _, rfl, hq, ⟨_, rfl⟩, hW, hsame.mono hc hs⟩
theorem w_return (X : Stand p l e R s m args below meth c T locs cells slots) (hx : p.tables.exec = Jvm.exec) (hret : meth.sig.returnType = none) (hlk : meth.locks = false) (hc : cells ≤ kc) (hs : slots ≤ ks) (hd : decode c.code pc = .ok (.return_, 1)) (hq : Q none T.heap locs) : Ow p e below s Q kc ks (T.setTop (mkF m pc Ls [])) := by
  obtain ⟨fs, hr, hrun, hended, hW, hsame⟩ := X.leave (v := none) (fun _ => rfl) hlk
  exact ⟨_, _, X.returnOut hx hret hd hr, hrun, hended, _, _, rfl, hq, ⟨_, rfl⟩, hW, hsame.mono hc hs⟩
theorem w_getfield (X : Stand p l e R s m args below meth c T locs cells slots) (hx : p.tables.exec = Jvm.exec) (hZ : Z.Warmed39 s.vm) {own R0 O n d host : String} {index : Nat} (hown : s.vm.findClass own = some m.cls) (w : (Cond.fieldLink own index R0 n d).before a0 Z = true ∨ (Cond.fieldLinkNest own index R0 n d host).before a0 Z = true) (via : Via Z R0 O n d) (eT : T.heap = h) {a : Addr} {v : Value} (F : Fld Z h a O n d v) (hd : decode c.code pc = .ok (.getfield index, 3)) (hp : pc + 3 = pc') (k : ∀ T', Stand p l e R s m args below meth c T' locs cells slots → T'.heap = h → Ow p e below s Q kc ks (T'.setTop (mkF m pc' Ls (v :: st)))) : Ow p e below s Q kc ks (T.setTop (mkF m pc Ls (.ref a :: st))) := by
  subst hp
  obtain ⟨T', X', e', st'⟩ := getF X hx hZ hown w via eT F (g := mkF m pc Ls (.ref a :: st)) rfl rfl hd
  exact Ow.via st' (k T' X' e')
theorem w_getstatic (X : Stand p l e R s m args below meth c T locs cells slots) (hx : p.tables.exec = Jvm.exec) (hZ : Z.Warmed39 s.vm) {own R0 O n d host : String} {index : Nat} (hown : s.vm.findClass own = some m.cls) (w : (Cond.fieldLink own index R0 n d).before a0 Z = true ∨ (Cond.fieldLinkNest own index R0 n d host).before a0 Z = true) (via : Via Z R0 O n d) (eT : T.heap = h) {v : Value} (F : Sta Z h O n d v) (hd : decode c.code pc = .ok (.getstatic index, 3)) (hp : pc + 3 = pc') (k : ∀ T', Stand p l e R s m args below meth c T' locs cells slots → T'.heap = h → Ow p e below s Q kc ks (T'.setTop (mkF m pc' Ls (v :: st)))) : Ow p e below s Q kc ks (T.setTop (mkF m pc Ls st)) := by
  subst hp
  obtain ⟨T', X', e', st'⟩ := getS2 X hx hZ hown w via eT F (g := mkF m pc Ls st) rfl hd
  exact Ow.via st' (k T' X' e')
theorem w_putfield (X : Stand p l e R s m args below meth c T locs cells slots) (hx : p.tables.exec = Jvm.exec) (hZ : Z.Warmed39 s.vm) {own R0 O n d host C : String} {index kk : Nat} {ty : FieldType} (hown : s.vm.findClass own = some m.cls) (w : (Cond.fieldLink own index R0 n d).before a0 Z = true ∨ (Cond.fieldLinkNest own index R0 n d host).before a0 Z = true) (via : Via Z R0 O n d) (eT : T.heap = h) {a : Addr} {v old : Value} (F : Fld Z h a O n d old) (E : Exa Z h a C) (L : (Cond.lays C O n d).before a0 Z = true ∨ ((Cond.laysFinal C O n d).before a0 Z = true ∧ own = O ∧ meth.name = "<init>")) (wi : (Cond.instantiable C kk).before a0 Z = true) (hty : parseFieldDescriptor d = some ty) (hn : narrow ty v = v) (hf : fits ty v = true) (hd : decode c.code pc = .ok (.putfield index, 3)) (hp : pc + 3 = pc') (k : ∀ T' h', Stand p l e R s m args below meth c T' (locs ++ [⟨a, RoadKit.slotOf Z O n d⟩]) cells slots → T'.heap = h' → Wr h h' a (RoadKit.slotOf Z O n d) v → Ow p e below s Q kc ks (T'.setTop (mkF m pc' Ls st))) : Ow p e below s Q kc ks (T.setTop (mkF m pc Ls (v :: .ref a :: st))) := by
  subst hp
  obtain ⟨T', h', X', e', W', st'⟩ := putF X hx hZ hown w via eT F E L wi hty hn hf (g := mkF m pc Ls (v :: .ref a :: st)) rfl rfl hd
  exact Ow.via st' (k T' h' X' e' W')
theorem w_new (X : Stand p l e R s m args below meth c T locs cells slots) (hx : p.tables.exec = Jvm.exec) (hZ : Z.Warmed39 s.vm) {own C : String} {index n : Nat} (hown : s.vm.findClass own = some m.cls) (w : (Cond.classLink own index C).before a0 Z = true) (wi : (Cond.instantiable C n).before a0 Z = true) (wz : (Cond.initialized C).before a0 Z = true) (eT : T.heap = h) (hd : decode c.code pc = .ok (.new index, 3)) (hc : cells + 1 ≤ R.cells) (hl : slots + n ≤ R.slots) (hp : pc + 3 = pc') (k : ∀ T' h' a, a = h.size → Stand p l e R s m args below meth c T' locs (cells + 1) (slots + n) → T'.heap = h' → Ext h h' → Exa Z h' a C → (∀ {O nm d : String} {ty : FieldType}, Laid Z a0 C O nm d → parseFieldDescriptor d = some ty → Fld Z h' a O nm d (defaultValue ty)) → Ow p e below s Q kc ks (T'.setTop (mkF m pc' Ls (.ref a :: st)))) : Ow p e below s Q kc ks (T.setTop (mkF m pc Ls st)) := by
  subst hp
  obtain ⟨T', h', X', e', E', A', D', -, st'⟩ := newO X hx hZ hown w wi wz eT (g := mkF m pc Ls st) rfl hd hc hl
  exact Ow.via st' (k T' h' _ rfl X' e' E' A' D')
theorem w_objinit (X : Stand p l e R s m args below meth c T locs cells slots) (hx : p.tables.exec = Jvm.exec) (hZ : Z.Warmed39 s.vm) {own : String} {idx : Nat} (hown : s.vm.findClass own = some m.cls) (w1 : (Cond.methodLink own idx Lib.objectInit).before a0 Z = true) (w2 : (Cond.instanceMethod Lib.objectInit).before a0 Z = true) (w3 : (Cond.code Lib.objectInit ⟨#[0xb1]⟩ 1 none).before a0 Z = true) (eT : T.heap = h) {a : Addr} (hd : decode c.code pc = .ok (.invokespecial idx, 3)) (hsz : Ls.size = c.maxLocals) (hf : 1 ≤ R.frames) {W : Nat} (hW : (st.map fun v => v.category).sum ≤ W) (hl : W + 12 ≤ R.locals) (hp : pc + 3 = pc') (k : ∀ T', Stand p l e R s m args below meth c T' locs cells slots → T'.heap = h → Ow p e below s Q kc ks (T'.setTop (mkF m pc' Ls st))) : Ow p e below s Q kc ks (T.setTop (mkF m pc Ls (.ref a :: st))) := by
  subst hp
  obtain ⟨T', X', e', st'⟩ := initO X hx hZ hown w1 w2 w3 eT (g := mkF m pc Ls (.ref a :: st)) rfl hsz rfl hd hf (W := W) (by show 2 * 0 + _ ≤ _; omega) hl
  exact Ow.via st' (k T' X' e')
theorem w_callS (X : Stand p l e R s m args below meth c T locs cells slots) (hx : p.tables.exec = Jvm.exec) (hZ : Z.Warmed39 s.vm) {own : String} {index : Nat} {y : MethodName} {bytes : ByteArray} {maxL : Nat} {ret : Option FieldType} (hown : s.vm.findClass own = some m.cls) (w1 : (Cond.methodLink own index y).before a0 Z = true) (w2 : (Cond.static y).before a0 Z = true) (w3 : (Cond.initialized y.cls).before a0 Z = true) (w4 : (Cond.code y bytes maxL ret).before a0 Z = true) (hy : y.cls ≠ "java/lang/invoke/MethodHandle" ∧ y.cls ≠ "java/lang/invoke/VarHandle") {rm : Room} {as' : Array Value} {Qf : Option Value → Heap → List Loc → Prop} {W : Nat} (hM : MetFree l y (head1 [Cond.code y bytes maxL ret] rm) (fun a U => a = as' ∧ Z.Warmed39 U.vm ∧ U.heap = h) (fun _ _ _ _ _ => True) (fun _ U o U' => ∃ v L, o = .returned v ∧ Qf v U'.heap L ∧ FrameEnd U o U' L rm.cells rm.slots)) (eT : T.heap = h) (hf : rm.frames + 1 ≤ R.frames) (hlo : W + (maxL + 11) + rm.locals ≤ R.locals) (hc : cells + rm.cells ≤ R.cells) (hs : slots + rm.slots ≤ R.slots) (hd : decode c.code pc = .ok (.invokestatic index, 3)) (hsz : Ls.size = c.maxLocals) {argsL rest : List Value} {ps : List FieldType} {r : Option FieldType} (pd : parseMethodDescriptor y.desc = some ⟨ps, r⟩) (hlen : argsL.length = ps.length) (hst : st = argsL.reverse ++ rest) (has : argsL.toArray = as') (hW : (rest.map fun v => v.category).sum ≤ W) (hp : pc + 3 = pc') (k : ∀ v T' L, Stand p l e R s m args below meth c T' (locs ++ L) (cells + rm.cells) (slots + rm.slots) → Qf v T'.heap L → Ow p e below s Q kc ks (T'.setTop (mkF m pc' Ls (v.toList ++ rest)))) : Ow p e below s Q kc ks (T.setTop (mkF m pc Ls st)) := by
  subst hp
  obtain ⟨v, vm₁, ⟨T', L', k', n'⟩, -, X', ⟨L, hq, l1, y1, z1⟩, st'⟩ := Jvm.LawKit.callS X hx hown (mvT hZ w1) (mvT hZ w2) (mvT hZ w3) (mvT hZ w4) hy (backOf (W := W) hM hZ w4 w3 hf hlo) (g := mkF m pc Ls st) rfl hsz (argsL := argsL) (rest := rest) (lenOf pd hlen) hst (by show 2 * 0 + _ ≤ _; omega) hd (fun _ _ => ⟨has, eT, hc, hs⟩)
  dsimp only [Pt.U, Pt.locs, Pt.cells, Pt.slots] at X' l1 y1 z1 st' hq
  subst l1 y1 z1
  exact Ow.via st' (k v T' L X' hq)
theorem w_callN (X : Stand p l e R s m args below meth c T locs cells slots) (hx : p.tables.exec = Jvm.exec) (hZ : Z.Warmed39 s.vm) {own : String} {index : Nat} {y : MethodName} {bytes : ByteArray} {maxL : Nat} (hy1 : y.name = "<init>") (hown : s.vm.findClass own = some m.cls) (w1 : (Cond.methodLink own index y).before a0 Z = true) (w2 : (Cond.instanceMethod y).before a0 Z = true) (w3 : (Cond.initialized y.cls).before a0 Z = true) (w4 : (Cond.code y bytes maxL none).before a0 Z = true) (hy : y.cls ≠ "java/lang/invoke/MethodHandle" ∧ y.cls ≠ "java/lang/invoke/VarHandle") {rm : Room} {as' : Array Value} {Qf : Option Value → Heap → List Loc → Prop} {W : Nat} (hM : MetFree l y (head1 [Cond.code y bytes maxL none] rm) (fun a U => a = as' ∧ Z.Warmed39 U.vm ∧ U.heap = h) (fun _ _ _ _ _ => True) (fun _ U o U' => ∃ v L, o = .returned v ∧ Qf v U'.heap L ∧ FrameEnd U o U' L rm.cells rm.slots)) (eT : T.heap = h) (hf : rm.frames + 1 ≤ R.frames) (hlo : W + (maxL + 11) + rm.locals ≤ R.locals) (hc : cells + rm.cells ≤ R.cells) (hs : slots + rm.slots ≤ R.slots) (hd : decode c.code pc = .ok (.invokespecial index, 3)) (hsz : Ls.size = c.maxLocals) {a : Addr} {argsL rest : List Value} {ps : List FieldType} {r : Option FieldType} (pd : parseMethodDescriptor y.desc = some ⟨ps, r⟩) (hlen : argsL.length = ps.length) (hst : st = argsL.reverse ++ .ref a :: rest) (has : (Value.ref a :: argsL).toArray = as') (hW : (rest.map fun v => v.category).sum ≤ W) (hp : pc + 3 = pc') (k : ∀ v T' L, Stand p l e R s m args below meth c T' (locs ++ L) (cells + rm.cells) (slots + rm.slots) → Qf v T'.heap L → Ow p e below s Q kc ks (T'.setTop (mkF m pc' Ls (v.toList ++ rest)))) : Ow p e below s Q kc ks (T.setTop (mkF m pc Ls st)) := by
  subst hp
  obtain ⟨v, vm₁, ⟨T', L', k', n'⟩, -, X', ⟨L, hq, l1, y1, z1⟩, st'⟩ := X.specialBack hx hy1 hown (mvT hZ w1) (mvT hZ w2) (mvT hZ w4) hy (backOf (W := W) hM hZ w4 w3 hf hlo) (g := mkF m pc Ls st) rfl hsz (Steps.refl _) (a := a) (argsL := argsL) (rest := rest) (lenOf pd hlen) hst (by show 2 * 0 + _ ≤ _; omega) hd (fun _ _ => ⟨has, eT, hc, hs⟩)
  dsimp only [Pt.U, Pt.locs, Pt.cells, Pt.slots] at X' l1 y1 z1 st' hq
  subst l1 y1 z1
  exact Ow.go st' (k v T' L X' hq)
theorem w_callV (X : Stand p l e R s m args below meth c T locs cells slots) (hx : p.tables.exec = Jvm.exec) (hZ : Z.Warmed39 s.vm) {own C : String} {index : Nat} {y z : MethodName} {bytes : ByteArray} {maxL : Nat} {ret : Option FieldType} (hown : s.vm.findClass own = some m.cls) (w1 : (Cond.methodLink own index y).before a0 Z = true) (w2 : (Cond.declares y).before a0 Z = true) (nf : NotFace s y) (w5 : (Cond.selects C y z).before a0 Z = true) (w6 : (Cond.instanceMethod z).before a0 Z = true) (w3 : (Cond.initialized z.cls).before a0 Z = true) (w4 : (Cond.code z bytes maxL ret).before a0 Z = true) (hy : y.cls ≠ "java/lang/invoke/MethodHandle" ∧ y.cls ≠ "java/lang/invoke/VarHandle") {rm : Room} {as' : Array Value} {Qf : Option Value → Heap → List Loc → Prop} {W : Nat} (hM : MetFree l z (head1 [Cond.code z bytes maxL ret] rm) (fun a U => a = as' ∧ Z.Warmed39 U.vm ∧ U.heap = h) (fun _ _ _ _ _ => True) (fun _ U o U' => ∃ v L, o = .returned v ∧ Qf v U'.heap L ∧ FrameEnd U o U' L rm.cells rm.slots)) (eT : T.heap = h) (hf : rm.frames + 1 ≤ R.frames) (hlo : W + (maxL + 11) + rm.locals ≤ R.locals) (hc : cells + rm.cells ≤ R.cells) (hs : slots + rm.slots ≤ R.slots) {a : Addr} (E : Exa Z h a C) (hd : decode c.code pc = .ok (.invokevirtual index, 3)) (hsz : Ls.size = c.maxLocals) {argsL rest : List Value} {ps : List FieldType} {r : Option FieldType} (pd : parseMethodDescriptor y.desc = some ⟨ps, r⟩) (hlen : argsL.length = ps.length) (hst : st = argsL.reverse ++ .ref a :: rest) (has : (Value.ref a :: argsL).toArray = as') (hW : (rest.map fun v => v.category).sum ≤ W) (hp : pc + 3 = pc') (k : ∀ v T' L, Stand p l e R s m args below meth c T' (locs ++ L) (cells + rm.cells) (slots + rm.slots) → Qf v T'.heap L → Ow p e below s Q kc ks (T'.setTop (mkF m pc' Ls (v.toList ++ rest)))) : Ow p e below s Q kc ks (T.setTop (mkF m pc Ls st)) := by
  subst hp
  obtain ⟨cB, kB, qa, qb, qc⟩ := isOf hZ eT E
  obtain ⟨v, vm₁, ⟨T', L', k', n'⟩, -, X', ⟨L, hq, l1, y1, z1⟩, st'⟩ := X.virtualBack hx (y := y) (z := z) hown (mvT hZ w1) (mvT hZ w2) nf (mvT hZ w5) (mvT hZ w6) hy (backOf (W := W) hM hZ w4 w3 hf hlo) qa qc (g := mkF m pc Ls st) rfl hsz (Steps.refl _) (argsL := argsL) (rest := rest) (lenOf pd hlen) hst (by show 2 * 0 + _ ≤ _; omega) hd (fun _ _ => ⟨has, eT, hc, hs⟩)
  dsimp only [Pt.U, Pt.locs, Pt.cells, Pt.slots] at X' l1 y1 z1 st' hq
  subst l1 y1 z1
  exact Ow.go st' (k v T' L X' hq)
theorem w_instY (X : Stand p l e R s m args below meth c T locs cells slots) (hx : p.tables.exec = Jvm.exec) (hZ : Z.Warmed39 s.vm) {own K : String} {index : Nat} (hown : s.vm.findClass own = some m.cls) (w : (Cond.classLink own index K).before a0 Z = true) (eT : T.heap = h) {a : Addr} (F : Ins Z h a K true) (hd : decode c.code pc = .ok (.instanceof index, 3)) (hp : pc + 3 = pc') (k : ∀ T', Stand p l e R s m args below meth c T' locs cells slots → T'.heap = h → Ow p e below s Q kc ks (T'.setTop (mkF m pc' Ls (.int 1 :: st)))) : Ow p e below s Q kc ks (T.setTop (mkF m pc Ls (.ref a :: st))) := by
  subst hp
  obtain ⟨T', X', e', st'⟩ := instY X hx hZ hown w eT F (g := mkF m pc Ls (.ref a :: st)) rfl rfl hd
  exact Ow.via st' (k T' X' e')
theorem w_instNo (X : Stand p l e R s m args below meth c T locs cells slots) (hx : p.tables.exec = Jvm.exec) (hZ : Z.Warmed39 s.vm) {own K C : String} {index : Nat} (hown : s.vm.findClass own = some m.cls) (w : (Cond.classLink own index K).before a0 Z = true) (eT : T.heap = h) {a : Addr} (E : Exa Z h a C) (F : ∃ c t, Z.vm.findClass C = some c ∧ Z.vm.findClass K = some t ∧ Z.vm.assignable c t = false) (hd : decode c.code pc = .ok (.instanceof index, 3)) (hp : pc + 3 = pc') (k : ∀ T', Stand p l e R s m args below meth c T' locs cells slots → T'.heap = h → Ow p e below s Q kc ks (T'.setTop (mkF m pc' Ls (.int 0 :: st)))) : Ow p e below s Q kc ks (T.setTop (mkF m pc Ls (.ref a :: st))) := by
  subst hp
  obtain ⟨T', X', e', st'⟩ := instNo X hx hZ hown w eT E F (g := mkF m pc Ls (.ref a :: st)) rfl rfl hd
  exact Ow.via st' (k T' X' e')
theorem w_instNull (X : Stand p l e R s m args below meth c T locs cells slots) (hx : p.tables.exec = Jvm.exec) {index : Nat} (hd : decode c.code pc = .ok (.instanceof index, 3)) (hp : pc + 3 = pc') (k : Ow p e below s Q kc ks (T.setTop (mkF m pc' Ls (.int 0 :: st)))) : Ow p e below s Q kc ks (T.setTop (mkF m pc Ls (.null :: st))) := by
  subst hp
  exact Ow.via (X.instanceofNull hx (g := mkF m pc Ls (.null :: st)) rfl rfl hd) k
theorem w_checkcast (X : Stand p l e R s m args below meth c T locs cells slots) (hx : p.tables.exec = Jvm.exec) (hZ : Z.Warmed39 s.vm) {own K : String} {index : Nat} (hown : s.vm.findClass own = some m.cls) (w : (Cond.classLink own index K).before a0 Z = true) (eT : T.heap = h) {a : Addr} (F : Ins Z h a K true) (hd : decode c.code pc = .ok (.checkcast index, 3)) (hp : pc + 3 = pc') (k : ∀ T', Stand p l e R s m args below meth c T' locs cells slots → T'.heap = h → Ow p e below s Q kc ks (T'.setTop (mkF m pc' Ls (.ref a :: st)))) : Ow p e below s Q kc ks (T.setTop (mkF m pc Ls (.ref a :: st))) := by
  subst hp
  obtain ⟨T', X', e', st'⟩ := castY X hx hZ hown w eT F (g := mkF m pc Ls (.ref a :: st)) rfl rfl hd
  exact Ow.via st' (k T' X' e')
theorem w_aaload (X : Stand p l e R s m args below meth c T locs cells slots) (hx : p.tables.exec = Jvm.exec) (hZ : Z.Warmed39 s.vm) (eT : T.heap = h) {a b : Addr} {cl : Cell} {ty : FieldType} (A : Arr Z h a cl ty) (hty : ty.isReference = true) {j : Int32} (hj : ¬ (j < 0 ∨ cl.slots.size ≤ j.toNatClampNeg)) (hv : cl.slots[j.toNatClampNeg]? = some (.ref b)) (hd : decode c.code pc = .ok (.aaload, 1)) (hp : pc + 1 = pc') (k : Ow p e below s Q kc ks (T.setTop (mkF m pc' Ls (.ref b :: st)))) : Ow p e below s Q kc ks (T.setTop (mkF m pc Ls (.int j :: .ref a :: st))) := by
  subst hp
  exact Ow.via (X.aaload hx (j := j) (v := .ref b) (by rw [eT]; exact A.1) (State.isArrayOf_alike hZ.alike A.2.1) hty A.2.2 hj hv (g := mkF m pc Ls (.int j :: .ref a :: st)) rfl rfl hd) k
end W
theorem d2_0 : decode jdk_30_method_1_code 0 = .ok (.aload_n 0, 1) := by decide +kernel
theorem d2_1 : decode jdk_30_method_1_code 1 = .ok (.invokespecial 1, 3) := by decide +kernel
theorem d2_4 : decode jdk_30_method_1_code 4 = .ok (.return_, 1) := by decide +kernel
theorem ef_2 (m : MethodId) (a0 : Addr) : entryFrame m #[(.ref a0)] 1 = mkF m 0 #[.val (.ref a0)] [] := by first | (simp [entryFrame, mkF, argsToLocals, Value.category]; done) | rfl
theorem pn_0 : plainName "java/lang/Record" = true := by first | (simp [plainName, overriddenIn]; done) | decide +kernel
theorem d1_0 : decode prog_38_method_1_code 0 = .ok (.aload_n 0, 1) := by decide +kernel
theorem d1_1 : decode prog_38_method_1_code 1 = .ok (.invokespecial 1, 3) := by decide +kernel
theorem pd_0 : parseMethodDescriptor "()V" = some ⟨[], none⟩ := by decide +kernel
theorem d1_4 : decode prog_38_method_1_code 4 = .ok (.aload_n 0, 1) := by decide +kernel
theorem d1_5 : decode prog_38_method_1_code 5 = .ok (.iload_n 1, 1) := by decide +kernel
theorem d1_6 : decode prog_38_method_1_code 6 = .ok (.putfield 7, 3) := by decide +kernel
theorem d1_9 : decode prog_38_method_1_code 9 = .ok (.aload_n 0, 1) := by decide +kernel
theorem d1_10 : decode prog_38_method_1_code 10 = .ok (.iload_n 2, 1) := by decide +kernel
theorem d1_11 : decode prog_38_method_1_code 11 = .ok (.putfield 13, 3) := by decide +kernel
theorem d1_14 : decode prog_38_method_1_code 14 = .ok (.aload_n 0, 1) := by decide +kernel
theorem d1_15 : decode prog_38_method_1_code 15 = .ok (.iload_n 3, 1) := by decide +kernel
theorem d1_16 : decode prog_38_method_1_code 16 = .ok (.putfield 16, 3) := by decide +kernel
theorem d1_19 : decode prog_38_method_1_code 19 = .ok (.return_, 1) := by decide +kernel
theorem ef_1 (m : MethodId) (a0 : Addr) (p1 : Int32) (p2 : Int32) (p3 : Int32) : entryFrame m #[(.ref a0), (.int p1), (.int p2), (.int p3)] 4 = mkF m 0 #[.val (.ref a0), .val (.int p1), .val (.int p2), .val (.int p3)] [] := by first | (simp [entryFrame, mkF, argsToLocals, Value.category]; done) | rfl
theorem pn_1 : plainName "com/example/hierarchy_from_axioms/hierarchyfromaxioms/reasoner/Abox$Edge" = true := by first | (simp [plainName, overriddenIn]; done) | decide +kernel
theorem d6_0 : decode prog_38_method_3_code 0 = .ok (.aload_n 0, 1) := by decide +kernel
theorem d6_1 : decode prog_38_method_3_code 1 = .ok (.getfield 7, 3) := by decide +kernel
theorem d6_4 : decode prog_38_method_3_code 4 = .ok (.bipush 31, 2) := by decide +kernel
theorem d6_6 : decode prog_38_method_3_code 6 = .ok (.imul, 1) := by decide +kernel
theorem d6_7 : decode prog_38_method_3_code 7 = .ok (.aload_n 0, 1) := by decide +kernel
theorem d6_8 : decode prog_38_method_3_code 8 = .ok (.getfield 13, 3) := by decide +kernel
theorem d6_11 : decode prog_38_method_3_code 11 = .ok (.iadd, 1) := by decide +kernel
theorem d6_12 : decode prog_38_method_3_code 12 = .ok (.bipush 31, 2) := by decide +kernel
theorem d6_14 : decode prog_38_method_3_code 14 = .ok (.imul, 1) := by decide +kernel
theorem d6_15 : decode prog_38_method_3_code 15 = .ok (.aload_n 0, 1) := by decide +kernel
theorem d6_16 : decode prog_38_method_3_code 16 = .ok (.getfield 16, 3) := by decide +kernel
theorem d6_19 : decode prog_38_method_3_code 19 = .ok (.iadd, 1) := by decide +kernel
theorem d6_20 : decode prog_38_method_3_code 20 = .ok (.ireturn, 1) := by decide +kernel
theorem ef_6 (m : MethodId) (a0 : Addr) : entryFrame m #[(.ref a0)] 1 = mkF m 0 #[.val (.ref a0)] [] := by first | (simp [entryFrame, mkF, argsToLocals, Value.category]; done) | rfl
theorem d8_0 : decode jdk_18_method_1_code 0 = .ok (.aload_n 0, 1) := by decide +kernel
theorem d8_1 : decode jdk_18_method_1_code 1 = .ok (.invokespecial 1, 3) := by decide +kernel
theorem d8_4 : decode jdk_18_method_1_code 4 = .ok (.return_, 1) := by decide +kernel
theorem ef_8 (m : MethodId) (a0 : Addr) : entryFrame m #[(.ref a0)] 1 = mkF m 0 #[.val (.ref a0)] [] := by first | (simp [entryFrame, mkF, argsToLocals, Value.category]; done) | rfl
theorem pn_2 : plainName "java/lang/Number" = true := by first | (simp [plainName, overriddenIn]; done) | decide +kernel
theorem d4_0 : decode prog_38_method_2_code 0 = .ok (.aload_n 1, 1) := by decide +kernel
theorem d4_1 : decode prog_38_method_2_code 1 = .ok (.instanceof 8, 3) := by decide +kernel
theorem d4_4 : decode prog_38_method_2_code 4 = .ok (.ifCond .eq 45, 3) := by decide +kernel
theorem d4_7 : decode prog_38_method_2_code 7 = .ok (.aload_n 1, 1) := by decide +kernel
theorem d4_8 : decode prog_38_method_2_code 8 = .ok (.checkcast 8, 3) := by decide +kernel
theorem d4_11 : decode prog_38_method_2_code 11 = .ok (.astore_n 2, 1) := by decide +kernel
theorem d4_12 : decode prog_38_method_2_code 12 = .ok (.aload_n 0, 1) := by decide +kernel
theorem d4_13 : decode prog_38_method_2_code 13 = .ok (.getfield 7, 3) := by decide +kernel
theorem d4_16 : decode prog_38_method_2_code 16 = .ok (.aload_n 2, 1) := by decide +kernel
theorem d4_17 : decode prog_38_method_2_code 17 = .ok (.getfield 7, 3) := by decide +kernel
theorem d4_20 : decode prog_38_method_2_code 20 = .ok (.if_icmp .ne 29, 3) := by decide +kernel
theorem d4_49 : decode prog_38_method_2_code 49 = .ok (.iconst 0, 1) := by decide +kernel
theorem d4_50 : decode prog_38_method_2_code 50 = .ok (.ireturn, 1) := by decide +kernel
theorem d4_23 : decode prog_38_method_2_code 23 = .ok (.aload_n 0, 1) := by decide +kernel
theorem d4_24 : decode prog_38_method_2_code 24 = .ok (.getfield 13, 3) := by decide +kernel
theorem d4_27 : decode prog_38_method_2_code 27 = .ok (.aload_n 2, 1) := by decide +kernel
theorem d4_28 : decode prog_38_method_2_code 28 = .ok (.getfield 13, 3) := by decide +kernel
theorem d4_31 : decode prog_38_method_2_code 31 = .ok (.if_icmp .ne 18, 3) := by decide +kernel
theorem d4_34 : decode prog_38_method_2_code 34 = .ok (.aload_n 0, 1) := by decide +kernel
theorem d4_35 : decode prog_38_method_2_code 35 = .ok (.getfield 16, 3) := by decide +kernel
theorem d4_38 : decode prog_38_method_2_code 38 = .ok (.aload_n 2, 1) := by decide +kernel
theorem d4_39 : decode prog_38_method_2_code 39 = .ok (.getfield 16, 3) := by decide +kernel
theorem d4_42 : decode prog_38_method_2_code 42 = .ok (.if_icmp .ne 7, 3) := by decide +kernel
theorem d4_45 : decode prog_38_method_2_code 45 = .ok (.iconst 1, 1) := by decide +kernel
theorem d4_46 : decode prog_38_method_2_code 46 = .ok (.goto 4, 3) := by decide +kernel
theorem ef_4 (m : MethodId) (a0 : Addr) (a1 : Addr) : entryFrame m #[(.ref a0), (.ref a1)] 3 = mkF m 0 #[.val (.ref a0), .val (.ref a1), .unset] [] := by first | (simp [entryFrame, mkF, argsToLocals, Value.category]; done) | rfl
theorem ef_4n (m : MethodId) (a0 : Addr) : entryFrame m #[(.ref a0), .null] 3 = mkF m 0 #[.val (.ref a0), .val .null, .unset] [] := by first | (simp [entryFrame, mkF, argsToLocals, Value.category]; done) | rfl
theorem d7_0 : decode jdk_33_method_23_code 0 = .ok (.aload_n 0, 1) := by decide +kernel
theorem d7_1 : decode jdk_33_method_23_code 1 = .ok (.invokespecial 202, 3) := by decide +kernel
theorem d7_4 : decode jdk_33_method_23_code 4 = .ok (.aload_n 0, 1) := by decide +kernel
theorem d7_5 : decode jdk_33_method_23_code 5 = .ok (.iload_n 1, 1) := by decide +kernel
theorem d7_6 : decode jdk_33_method_23_code 6 = .ok (.putfield 205, 3) := by decide +kernel
theorem d7_9 : decode jdk_33_method_23_code 9 = .ok (.return_, 1) := by decide +kernel
theorem ef_7 (m : MethodId) (a0 : Addr) (p1 : Int32) : entryFrame m #[(.ref a0), (.int p1)] 2 = mkF m 0 #[.val (.ref a0), .val (.int p1)] [] := by first | (simp [entryFrame, mkF, argsToLocals, Value.category]; done) | rfl
theorem pn_3 : plainName "java/lang/Integer" = true := by first | (simp [plainName, overriddenIn]; done) | decide +kernel
theorem d5_0 : decode jdk_33_method_22_code 0 = .ok (.iload_n 0, 1) := by decide +kernel
theorem d5_1 : decode jdk_33_method_22_code 1 = .ok (.bipush (-128), 2) := by decide +kernel
theorem d5_3 : decode jdk_33_method_22_code 3 = .ok (.if_icmp .lt 20, 3) := by decide +kernel
theorem d5_23 : decode jdk_33_method_22_code 23 = .ok (.new 1, 3) := by decide +kernel
theorem d5_26 : decode jdk_33_method_22_code 26 = .ok (.dup, 1) := by decide +kernel
theorem d5_27 : decode jdk_33_method_22_code 27 = .ok (.iload_n 0, 1) := by decide +kernel
theorem d5_28 : decode jdk_33_method_22_code 28 = .ok (.invokespecial 199, 3) := by decide +kernel
theorem pd_1 : parseMethodDescriptor "(I)V" = some ⟨[.int], none⟩ := by decide +kernel
theorem d5_31 : decode jdk_33_method_22_code 31 = .ok (.areturn, 1) := by decide +kernel
theorem d5_6 : decode jdk_33_method_22_code 6 = .ok (.iload_n 0, 1) := by decide +kernel
theorem d5_7 : decode jdk_33_method_22_code 7 = .ok (.getstatic 191, 3) := by decide +kernel
theorem d5_10 : decode jdk_33_method_22_code 10 = .ok (.if_icmp .gt 13, 3) := by decide +kernel
theorem d5_13 : decode jdk_33_method_22_code 13 = .ok (.getstatic 195, 3) := by decide +kernel
theorem d5_16 : decode jdk_33_method_22_code 16 = .ok (.iload_n 0, 1) := by decide +kernel
theorem d5_17 : decode jdk_33_method_22_code 17 = .ok (.sipush 128, 3) := by decide +kernel
theorem d5_20 : decode jdk_33_method_22_code 20 = .ok (.iadd, 1) := by decide +kernel
theorem d5_21 : decode jdk_33_method_22_code 21 = .ok (.aaload, 1) := by decide +kernel
theorem d5_22 : decode jdk_33_method_22_code 22 = .ok (.areturn, 1) := by decide +kernel
theorem ef_5 (m : MethodId) (p0 : Int32) : entryFrame m #[(.int p0)] 1 = mkF m 0 #[.val (.int p0)] [] := by first | (simp [entryFrame, mkF, argsToLocals, Value.category]; done) | rfl
def Q2 (h0 : Heap) (v : Option Value) (h : Heap) (L : List Loc) : Prop := v = none ∧ h = h0 ∧ L = []
set_option maxRecDepth 65536 in
set_option maxHeartbeats 40000000 in
theorem rm2 (l : Launch) (Z : State) (aw : Array Value) (hw : ∀ d ∈ tables_1, d.before aw Z = true) (ws : List Jvm.Cond) (a0 : Addr) (h0 : Heap) :
    MetFree l (⟨"java/lang/Record", "<init>", "()V"⟩ : MethodName) (head1 (Jvm.Cond.code (⟨"java/lang/Record", "<init>", "()V"⟩ : MethodName) jdk_30_method_1_code 1 none :: ws) ({ frames := 1, cells := 0, slots := 0, locals := 12 } : Room)) (fun a U => a = #[(.ref a0)] ∧ Z.Warmed39 U.vm ∧ U.heap = h0) (fun _ _ _ _ _ => True) (fun _ U o U' => ∃ v L, o = .returned v ∧ Q2 h0 v U'.heap L ∧ FrameEnd U o U' L ({ frames := 1, cells := 0, slots := 0, locals := 12 } : Room).cells ({ frames := 1, cells := 0, slots := 0, locals := 12 } : Room).slots) := by
  refine MetFree.of_bodySF (plainFor_of_name pn_0) hisR ?_
  intro p e s m args below meth c s₁ Bd hml0 hP _hKK
  obtain ⟨rfl, hZ, hh⟩ := hP
  have hx := Bd.exec
  have hby := Bd.bytes
  have hml : c.maxLocals = 1 := hml0
  have hown : s.vm.findClass "java/lang/Record" = some m.cls := findClass_of_methodNamed Bd.named
  have hnm := (name_of_methodNamed Bd.named Bd.method).1
  have X0 : Stand p l e ({ frames := 1, cells := 0, slots := 0, locals := 12 } : Room) s m #[(.ref a0)] below meth c s₁ [] 0 0 := Stand.of_body Bd
  have e0 : s₁.heap = h0 := by rw [← hh, Bd.state]; rfl
  refine Ow.enter (Q := Q2 h0) (ef_2 m a0) ?_
  show Ow p e below s _ _ _ (s₁.setTop (mkF m 0 #[.val (.ref a0)] []))
  refine w_aloadN X0 hx (Jvm.hb hby d2_0) rfl rfl (pc' := 1) rfl ?_
  refine w_objinit X0 hx hZ hown (hw _ (List.mem_of_getElem? (i := 11) rfl)) (hw _ (List.mem_of_getElem? (i := 12) rfl)) (hw _ (List.mem_of_getElem? (i := 13) rfl)) e0 (Jvm.hb hby d2_1) (by rw [hml]; rfl) (by decide) (W := 0) (Nat.le_of_eq rfl) (by decide) (pc' := 4) rfl ?_
  intro T21 X21 e21
  exact w_return X21 hx Bd.returns (BodyLoose.notSynchronized Bd) (Nat.le_of_ble_eq_true rfl) (Nat.le_of_ble_eq_true rfl) (Jvm.hb hby d2_4) ⟨rfl, e21, rfl⟩
def Q1 (Z : State) (a0 : Addr) (p1 p2 p3 : Int32) (h0 : Heap) (n0 : Nat) (v : Option Value) (h : Heap) (L : List Loc) : Prop := v = none ∧ Fr n0 L ∧ Keep h0 h [a0] ∧ Fld Z h a0 "com/example/hierarchy_from_axioms/hierarchyfromaxioms/reasoner/Abox$Edge" "subject" "I" (.int p1) ∧ Fld Z h a0 "com/example/hierarchy_from_axioms/hierarchyfromaxioms/reasoner/Abox$Edge" "role" "I" (.int p2) ∧ Fld Z h a0 "com/example/hierarchy_from_axioms/hierarchyfromaxioms/reasoner/Abox$Edge" "object" "I" (.int p3)
set_option maxRecDepth 65536 in
set_option maxHeartbeats 40000000 in
theorem rm1 (l : Launch) (Z : State) (aw : Array Value) (hw : ∀ d ∈ tables_1, d.before aw Z = true) (ws : List Jvm.Cond) (a0 : Addr) (p1 : Int32) (p2 : Int32) (p3 : Int32) (h0 : Heap) (n0 : Nat) (F_subject : Fld Z h0 a0 "com/example/hierarchy_from_axioms/hierarchyfromaxioms/reasoner/Abox$Edge" "subject" "I" (.int (0 : Int32))) (F_role : Fld Z h0 a0 "com/example/hierarchy_from_axioms/hierarchyfromaxioms/reasoner/Abox$Edge" "role" "I" (.int (0 : Int32))) (F_object : Fld Z h0 a0 "com/example/hierarchy_from_axioms/hierarchyfromaxioms/reasoner/Abox$Edge" "object" "I" (.int (0 : Int32))) (E : Exa Z h0 a0 "com/example/hierarchy_from_axioms/hierarchyfromaxioms/reasoner/Abox$Edge") (g : n0 ≤ a0) :
    MetFree l (⟨"com/example/hierarchy_from_axioms/hierarchyfromaxioms/reasoner/Abox$Edge", "<init>", "(III)V"⟩ : MethodName) (head1 (Jvm.Cond.code (⟨"com/example/hierarchy_from_axioms/hierarchyfromaxioms/reasoner/Abox$Edge", "<init>", "(III)V"⟩ : MethodName) prog_38_method_1_code 4 none :: ws) ({ frames := 2, cells := 0, slots := 0, locals := 24 } : Room)) (fun a U => a = #[(.ref a0), (.int p1), (.int p2), (.int p3)] ∧ Z.Warmed39 U.vm ∧ U.heap = h0) (fun _ _ _ _ _ => True) (fun _ U o U' => ∃ v L, o = .returned v ∧ Q1 Z a0 p1 p2 p3 h0 n0 v U'.heap L ∧ FrameEnd U o U' L ({ frames := 2, cells := 0, slots := 0, locals := 24 } : Room).cells ({ frames := 2, cells := 0, slots := 0, locals := 24 } : Room).slots) := by
  refine MetFree.of_bodySF (plainFor_of_name pn_1) hisR ?_
  intro p e s m args below meth c s₁ Bd hml0 hP _hKK
  obtain ⟨rfl, hZ, hh⟩ := hP
  have hx := Bd.exec
  have hby := Bd.bytes
  have hml : c.maxLocals = 4 := hml0
  have hown : s.vm.findClass "com/example/hierarchy_from_axioms/hierarchyfromaxioms/reasoner/Abox$Edge" = some m.cls := findClass_of_methodNamed Bd.named
  have hnm := (name_of_methodNamed Bd.named Bd.method).1
  have X0 : Stand p l e ({ frames := 2, cells := 0, slots := 0, locals := 24 } : Room) s m #[(.ref a0), (.int p1), (.int p2), (.int p3)] below meth c s₁ [] 0 0 := Stand.of_body Bd
  have e0 : s₁.heap = h0 := by rw [← hh, Bd.state]; rfl
  refine Ow.enter (Q := Q1 Z a0 p1 p2 p3 h0 n0) (ef_1 m a0 p1 p2 p3) ?_
  show Ow p e below s _ _ _ (s₁.setTop (mkF m 0 #[.val (.ref a0), .val (.int p1), .val (.int p2), .val (.int p3)] []))
  refine w_aloadN X0 hx (Jvm.hb hby d1_0) rfl rfl (pc' := 1) rfl ?_
  refine w_callN X0 hx hZ rfl hown (hw _ (List.mem_of_getElem? (i := 6) rfl)) (hw _ (List.mem_of_getElem? (i := 7) rfl)) (hw _ (List.mem_of_getElem? (i := 9) rfl)) (hw _ (List.mem_of_getElem? (i := 10) rfl)) (by decide) (W := 0) (rm2 l Z aw hw [] a0 h0) e0 (by decide) (by decide) (by decide) (by decide) (Jvm.hb hby d1_1) (by rw [hml]; rfl) (a := a0) (argsL := []) (rest := []) pd_0 rfl rfl rfl (Nat.le_of_eq rfl) (pc' := 4) rfl ?_
  rintro _ T22 L22 X22 ⟨rfl, e22, rfl⟩
  show Ow p e below s _ _ _ (T22.setTop (mkF m 4 #[.val (.ref a0), .val (.int p1), .val (.int p2), .val (.int p3)] []))
  refine w_aloadN X22 hx (Jvm.hb hby d1_4) rfl rfl (pc' := 5) rfl ?_
  refine w_iloadN X22 hx (Jvm.hb hby d1_5) rfl (pc' := 6) rfl ?_
  refine w_putfield X22 hx hZ hown (host := "") (Or.inl (hw _ (List.mem_of_getElem? (i := 14) rfl))) Via.refl e22 F_subject E (Or.inr ⟨(hw _ (List.mem_of_getElem? (i := 15) rfl)), rfl, hnm⟩) (hw _ (List.mem_of_getElem? (i := 1) rfl)) (ty := .int) (by decide) rfl rfl (Jvm.hb hby d1_6) (pc' := 9) rfl ?_
  intro T23 h23 X23 e23 W23
  have F23_subject := F_subject.same W23
  have F23_role := F_role.other W23 (Or.inr (slot_ne (Or.inr (hw _ (List.mem_of_getElem? (i := 17) rfl))) (Or.inr (hw _ (List.mem_of_getElem? (i := 15) rfl))) (by decide) (t := .int) (t' := .int) (by decide) (by decide)))
  have F23_object := F_object.other W23 (Or.inr (slot_ne (Or.inr (hw _ (List.mem_of_getElem? (i := 19) rfl))) (Or.inr (hw _ (List.mem_of_getElem? (i := 15) rfl))) (by decide) (t := .int) (t' := .int) (by decide) (by decide)))
  have E23 := E.wr W23
  have K23 : Keep h0 h23 [a0] := Keep.of_wr W23
  have N23 := Fr.snoc X23 (Fr.nil n0) g
  refine w_aloadN X23 hx (Jvm.hb hby d1_9) rfl rfl (pc' := 10) rfl ?_
  refine w_iloadN X23 hx (Jvm.hb hby d1_10) rfl (pc' := 11) rfl ?_
  refine w_putfield X23 hx hZ hown (host := "") (Or.inl (hw _ (List.mem_of_getElem? (i := 16) rfl))) Via.refl e23 F23_role E23 (Or.inr ⟨(hw _ (List.mem_of_getElem? (i := 17) rfl)), rfl, hnm⟩) (hw _ (List.mem_of_getElem? (i := 1) rfl)) (ty := .int) (by decide) rfl rfl (Jvm.hb hby d1_11) (pc' := 14) rfl ?_
  intro T24 h24 X24 e24 W24
  have F24_subject := F23_subject.other W24 (Or.inr (slot_ne (Or.inr (hw _ (List.mem_of_getElem? (i := 15) rfl))) (Or.inr (hw _ (List.mem_of_getElem? (i := 17) rfl))) (by decide) (t := .int) (t' := .int) (by decide) (by decide)))
  have F24_role := F23_role.same W24
  have F24_object := F23_object.other W24 (Or.inr (slot_ne (Or.inr (hw _ (List.mem_of_getElem? (i := 19) rfl))) (Or.inr (hw _ (List.mem_of_getElem? (i := 17) rfl))) (by decide) (t := .int) (t' := .int) (by decide) (by decide)))
  have E24 := E23.wr W24
  have K24 : Keep h0 h24 [a0] := K23.wr W24 (Or.inl (List.mem_of_getElem? (i := 0) rfl))
  have N24 := Fr.snoc X24 N23 g
  refine w_aloadN X24 hx (Jvm.hb hby d1_14) rfl rfl (pc' := 15) rfl ?_
  refine w_iloadN X24 hx (Jvm.hb hby d1_15) rfl (pc' := 16) rfl ?_
  refine w_putfield X24 hx hZ hown (host := "") (Or.inl (hw _ (List.mem_of_getElem? (i := 18) rfl))) Via.refl e24 F24_object E24 (Or.inr ⟨(hw _ (List.mem_of_getElem? (i := 19) rfl)), rfl, hnm⟩) (hw _ (List.mem_of_getElem? (i := 1) rfl)) (ty := .int) (by decide) rfl rfl (Jvm.hb hby d1_16) (pc' := 19) rfl ?_
  intro T25 h25 X25 e25 W25
  have F25_subject := F24_subject.other W25 (Or.inr (slot_ne (Or.inr (hw _ (List.mem_of_getElem? (i := 15) rfl))) (Or.inr (hw _ (List.mem_of_getElem? (i := 19) rfl))) (by decide) (t := .int) (t' := .int) (by decide) (by decide)))
  have F25_role := F24_role.other W25 (Or.inr (slot_ne (Or.inr (hw _ (List.mem_of_getElem? (i := 17) rfl))) (Or.inr (hw _ (List.mem_of_getElem? (i := 19) rfl))) (by decide) (t := .int) (t' := .int) (by decide) (by decide)))
  have F25_object := F24_object.same W25
  have E25 := E24.wr W25
  have K25 : Keep h0 h25 [a0] := K24.wr W25 (Or.inl (List.mem_of_getElem? (i := 0) rfl))
  have N25 := Fr.snoc X25 N24 g
  exact w_return X25 hx Bd.returns (BodyLoose.notSynchronized Bd) (Nat.le_of_ble_eq_true rfl) (Nat.le_of_ble_eq_true rfl) (Jvm.hb hby d1_19) ⟨rfl, N25, by rw [e25]; exact ⟨K25, F25_subject, F25_role, F25_object⟩⟩
def hsh (x0 x1 x2 : Int32) : Int32 := ((((x0 * (31 : Int32)) + x1) * (31 : Int32)) + x2)
def Q6 (x0 x1 x2 : Int32) (h0 : Heap) (v : Option Value) (h : Heap) (L : List Loc) : Prop := v = some (.int (hsh x0 x1 x2)) ∧ h = h0 ∧ L = []
set_option maxRecDepth 65536 in
set_option maxHeartbeats 40000000 in
theorem rm6 (l : Launch) (Z : State) (aw : Array Value) (hw : ∀ d ∈ tables_1, d.before aw Z = true) (ws : List Jvm.Cond) (a0 : Addr) (x0 x1 x2 : Int32) (h0 : Heap) (F_subject : Fld Z h0 a0 "com/example/hierarchy_from_axioms/hierarchyfromaxioms/reasoner/Abox$Edge" "subject" "I" (.int x0)) (F_role : Fld Z h0 a0 "com/example/hierarchy_from_axioms/hierarchyfromaxioms/reasoner/Abox$Edge" "role" "I" (.int x1)) (F_object : Fld Z h0 a0 "com/example/hierarchy_from_axioms/hierarchyfromaxioms/reasoner/Abox$Edge" "object" "I" (.int x2)) :
    MetFree l (⟨"com/example/hierarchy_from_axioms/hierarchyfromaxioms/reasoner/Abox$Edge", "hashCode", "()I"⟩ : MethodName) (head1 (Jvm.Cond.code (⟨"com/example/hierarchy_from_axioms/hierarchyfromaxioms/reasoner/Abox$Edge", "hashCode", "()I"⟩ : MethodName) prog_38_method_3_code 1 (some .int) :: ws) ({ frames := 0, cells := 0, slots := 0, locals := 0 } : Room)) (fun a U => a = #[(.ref a0)] ∧ Z.Warmed39 U.vm ∧ U.heap = h0) (fun _ _ _ _ _ => True) (fun _ U o U' => ∃ v L, o = .returned v ∧ Q6 x0 x1 x2 h0 v U'.heap L ∧ FrameEnd U o U' L ({ frames := 0, cells := 0, slots := 0, locals := 0 } : Room).cells ({ frames := 0, cells := 0, slots := 0, locals := 0 } : Room).slots) := by
  refine MetFree.of_bodySF (plainFor_of_name pn_1) hisR ?_
  intro p e s m args below meth c s₁ Bd hml0 hP _hKK
  obtain ⟨rfl, hZ, hh⟩ := hP
  have hx := Bd.exec
  have hby := Bd.bytes
  have hml : c.maxLocals = 1 := hml0
  have hown : s.vm.findClass "com/example/hierarchy_from_axioms/hierarchyfromaxioms/reasoner/Abox$Edge" = some m.cls := findClass_of_methodNamed Bd.named
  have hnm := (name_of_methodNamed Bd.named Bd.method).1
  have X0 : Stand p l e ({ frames := 0, cells := 0, slots := 0, locals := 0 } : Room) s m #[(.ref a0)] below meth c s₁ [] 0 0 := Stand.of_body Bd
  have e0 : s₁.heap = h0 := by rw [← hh, Bd.state]; rfl
  refine Ow.enter (Q := Q6 x0 x1 x2 h0) (ef_6 m a0) ?_
  show Ow p e below s _ _ _ (s₁.setTop (mkF m 0 #[.val (.ref a0)] []))
  refine w_aloadN X0 hx (Jvm.hb hby d6_0) rfl rfl (pc' := 1) rfl ?_
  refine w_getfield X0 hx hZ hown (host := "") (Or.inl (hw _ (List.mem_of_getElem? (i := 14) rfl))) Via.refl e0 F_subject (Jvm.hb hby d6_1) (pc' := 4) rfl ?_
  intro T26 X26 e26
  refine w_bipush X26 hx (31 : Int32) (Jvm.hb hby d6_4) (by decide) (pc' := 6) rfl ?_
  refine w_imul X26 hx (Jvm.hb hby d6_6) (pc' := 7) rfl ?_
  refine w_aloadN X26 hx (Jvm.hb hby d6_7) rfl rfl (pc' := 8) rfl ?_
  refine w_getfield X26 hx hZ hown (host := "") (Or.inl (hw _ (List.mem_of_getElem? (i := 16) rfl))) Via.refl e26 F_role (Jvm.hb hby d6_8) (pc' := 11) rfl ?_
  intro T27 X27 e27
  refine w_iadd X27 hx (Jvm.hb hby d6_11) (pc' := 12) rfl ?_
  refine w_bipush X27 hx (31 : Int32) (Jvm.hb hby d6_12) (by decide) (pc' := 14) rfl ?_
  refine w_imul X27 hx (Jvm.hb hby d6_14) (pc' := 15) rfl ?_
  refine w_aloadN X27 hx (Jvm.hb hby d6_15) rfl rfl (pc' := 16) rfl ?_
  refine w_getfield X27 hx hZ hown (host := "") (Or.inl (hw _ (List.mem_of_getElem? (i := 18) rfl))) Via.refl e27 F_object (Jvm.hb hby d6_16) (pc' := 19) rfl ?_
  intro T28 X28 e28
  refine w_iadd X28 hx (Jvm.hb hby d6_19) (pc' := 20) rfl ?_
  exact w_ireturn X28 hx Bd.returns (BodyLoose.notSynchronized Bd) (Nat.le_of_ble_eq_true rfl) (Nat.le_of_ble_eq_true rfl) (Jvm.hb hby d6_20) ⟨rfl, e28, rfl⟩
def Q8 (h0 : Heap) (v : Option Value) (h : Heap) (L : List Loc) : Prop := v = none ∧ h = h0 ∧ L = []
set_option maxRecDepth 65536 in
set_option maxHeartbeats 40000000 in
theorem rm8 (l : Launch) (Z : State) (aw : Array Value) (hw : ∀ d ∈ tables_1, d.before aw Z = true) (ws : List Jvm.Cond) (a0 : Addr) (h0 : Heap) :
    MetFree l (⟨"java/lang/Number", "<init>", "()V"⟩ : MethodName) (head1 (Jvm.Cond.code (⟨"java/lang/Number", "<init>", "()V"⟩ : MethodName) jdk_18_method_1_code 1 none :: ws) ({ frames := 1, cells := 0, slots := 0, locals := 12 } : Room)) (fun a U => a = #[(.ref a0)] ∧ Z.Warmed39 U.vm ∧ U.heap = h0) (fun _ _ _ _ _ => True) (fun _ U o U' => ∃ v L, o = .returned v ∧ Q8 h0 v U'.heap L ∧ FrameEnd U o U' L ({ frames := 1, cells := 0, slots := 0, locals := 12 } : Room).cells ({ frames := 1, cells := 0, slots := 0, locals := 12 } : Room).slots) := by
  refine MetFree.of_bodySF (plainFor_of_name pn_2) hisR ?_
  intro p e s m args below meth c s₁ Bd hml0 hP _hKK
  obtain ⟨rfl, hZ, hh⟩ := hP
  have hx := Bd.exec
  have hby := Bd.bytes
  have hml : c.maxLocals = 1 := hml0
  have hown : s.vm.findClass "java/lang/Number" = some m.cls := findClass_of_methodNamed Bd.named
  have hnm := (name_of_methodNamed Bd.named Bd.method).1
  have X0 : Stand p l e ({ frames := 1, cells := 0, slots := 0, locals := 12 } : Room) s m #[(.ref a0)] below meth c s₁ [] 0 0 := Stand.of_body Bd
  have e0 : s₁.heap = h0 := by rw [← hh, Bd.state]; rfl
  refine Ow.enter (Q := Q8 h0) (ef_8 m a0) ?_
  show Ow p e below s _ _ _ (s₁.setTop (mkF m 0 #[.val (.ref a0)] []))
  refine w_aloadN X0 hx (Jvm.hb hby d8_0) rfl rfl (pc' := 1) rfl ?_
  refine w_objinit X0 hx hZ hown (hw _ (List.mem_of_getElem? (i := 54) rfl)) (hw _ (List.mem_of_getElem? (i := 12) rfl)) (hw _ (List.mem_of_getElem? (i := 13) rfl)) e0 (Jvm.hb hby d8_1) (by rw [hml]; rfl) (by decide) (W := 0) (Nat.le_of_eq rfl) (by decide) (pc' := 4) rfl ?_
  intro T29 X29 e29
  exact w_return X29 hx Bd.returns (BodyLoose.notSynchronized Bd) (Nat.le_of_ble_eq_true rfl) (Nat.le_of_ble_eq_true rfl) (Jvm.hb hby d8_4) ⟨rfl, e29, rfl⟩
def eqE (x0 x1 x2 y0 y1 y2 : Int32) : Int32 := if x0 = y0 then (if x1 = y1 then (if x2 = y2 then (1 : Int32) else (0 : Int32)) else (0 : Int32)) else (0 : Int32)
def Q4 (x0 x1 x2 y0 y1 y2 : Int32) (h0 : Heap) (v : Option Value) (h : Heap) (L : List Loc) : Prop := v = some (.int (eqE x0 x1 x2 y0 y1 y2)) ∧ h = h0 ∧ L = []
set_option maxRecDepth 65536 in
set_option maxHeartbeats 40000000 in
theorem rm4 (l : Launch) (Z : State) (aw : Array Value) (hw : ∀ d ∈ tables_1, d.before aw Z = true) (ws : List Jvm.Cond) (a0 : Addr) (a1 : Addr) (x0 x1 x2 y0 y1 y2 : Int32) (h0 : Heap) (F_subject : Fld Z h0 a0 "com/example/hierarchy_from_axioms/hierarchyfromaxioms/reasoner/Abox$Edge" "subject" "I" (.int x0)) (F_role : Fld Z h0 a0 "com/example/hierarchy_from_axioms/hierarchyfromaxioms/reasoner/Abox$Edge" "role" "I" (.int x1)) (F_object : Fld Z h0 a0 "com/example/hierarchy_from_axioms/hierarchyfromaxioms/reasoner/Abox$Edge" "object" "I" (.int x2)) (G_subject : Fld Z h0 a1 "com/example/hierarchy_from_axioms/hierarchyfromaxioms/reasoner/Abox$Edge" "subject" "I" (.int y0)) (G_role : Fld Z h0 a1 "com/example/hierarchy_from_axioms/hierarchyfromaxioms/reasoner/Abox$Edge" "role" "I" (.int y1)) (G_object : Fld Z h0 a1 "com/example/hierarchy_from_axioms/hierarchyfromaxioms/reasoner/Abox$Edge" "object" "I" (.int y2)) (E1 : Exa Z h0 a1 "com/example/hierarchy_from_axioms/hierarchyfromaxioms/reasoner/Abox$Edge") :
    MetFree l (⟨"com/example/hierarchy_from_axioms/hierarchyfromaxioms/reasoner/Abox$Edge", "equals", "(Ljava/lang/Object;)Z"⟩ : MethodName) (head1 (Jvm.Cond.code (⟨"com/example/hierarchy_from_axioms/hierarchyfromaxioms/reasoner/Abox$Edge", "equals", "(Ljava/lang/Object;)Z"⟩ : MethodName) prog_38_method_2_code 3 (some .boolean) :: ws) ({ frames := 0, cells := 0, slots := 0, locals := 0 } : Room)) (fun a U => a = #[(.ref a0), (.ref a1)] ∧ Z.Warmed39 U.vm ∧ U.heap = h0) (fun _ _ _ _ _ => True) (fun _ U o U' => ∃ v L, o = .returned v ∧ Q4 x0 x1 x2 y0 y1 y2 h0 v U'.heap L ∧ FrameEnd U o U' L ({ frames := 0, cells := 0, slots := 0, locals := 0 } : Room).cells ({ frames := 0, cells := 0, slots := 0, locals := 0 } : Room).slots) := by
  refine MetFree.of_bodySF (plainFor_of_name pn_1) hisR ?_
  intro p e s m args below meth c s₁ Bd hml0 hP _hKK
  obtain ⟨rfl, hZ, hh⟩ := hP
  have hx := Bd.exec
  have hby := Bd.bytes
  have hml : c.maxLocals = 3 := hml0
  have hown : s.vm.findClass "com/example/hierarchy_from_axioms/hierarchyfromaxioms/reasoner/Abox$Edge" = some m.cls := findClass_of_methodNamed Bd.named
  have hnm := (name_of_methodNamed Bd.named Bd.method).1
  have X0 : Stand p l e ({ frames := 0, cells := 0, slots := 0, locals := 0 } : Room) s m #[(.ref a0), (.ref a1)] below meth c s₁ [] 0 0 := Stand.of_body Bd
  have e0 : s₁.heap = h0 := by rw [← hh, Bd.state]; rfl
  refine Ow.enter (Q := Q4 x0 x1 x2 y0 y1 y2 h0) (ef_4 m a0 a1) ?_
  show Ow p e below s _ _ _ (s₁.setTop (mkF m 0 #[.val (.ref a0), .val (.ref a1), .unset] []))
  refine w_aloadN X0 hx (Jvm.hb hby d4_0) rfl rfl (pc' := 1) rfl ?_
  refine w_instY X0 hx hZ hown (hw _ (List.mem_of_getElem? (i := 25) rfl)) e0 (Ins.self E1) (Jvm.hb hby d4_1) (pc' := 4) rfl ?_
  intro T30 X30 e30
  refine w_if_eq X30 hx (Jvm.hb hby d4_4) (by decide) (pcT := 49) (by decide) (pcF := 7) rfl (fun q => absurd q (show ¬ (1 : Int32) = (0 : Int32) from by decide)) (fun _ => ?_)
  refine w_aloadN X30 hx (Jvm.hb hby d4_7) rfl rfl (pc' := 8) rfl ?_
  refine w_checkcast X30 hx hZ hown (hw _ (List.mem_of_getElem? (i := 25) rfl)) e30 (Ins.self E1) (Jvm.hb hby d4_8) (pc' := 11) rfl ?_
  intro T31 X31 e31
  refine w_astoreN X31 hx (Jvm.hb hby d4_11) #[.val (.ref a0), .val (.ref a1), .val (.ref a1)] rfl rfl (pc' := 12) rfl ?_
  refine w_aloadN X31 hx (Jvm.hb hby d4_12) rfl rfl (pc' := 13) rfl ?_
  refine w_getfield X31 hx hZ hown (host := "") (Or.inl (hw _ (List.mem_of_getElem? (i := 14) rfl))) Via.refl e31 F_subject (Jvm.hb hby d4_13) (pc' := 16) rfl ?_
  intro T32 X32 e32
  refine w_aloadN X32 hx (Jvm.hb hby d4_16) rfl rfl (pc' := 17) rfl ?_
  refine w_getfield X32 hx hZ hown (host := "") (Or.inl (hw _ (List.mem_of_getElem? (i := 14) rfl))) Via.refl e32 G_subject (Jvm.hb hby d4_17) (pc' := 20) rfl ?_
  intro T33 X33 e33
  refine w_icmp_ne X33 hx (Jvm.hb hby d4_20) (by decide) (pcT := 49) (by decide) (pcF := 23) rfl (fun hc0 => ?_) (fun hc0 => ?_)
  · refine w_iconst X33 hx (0 : Int32) (Jvm.hb hby d4_49) (by decide) (pc' := 50) rfl ?_
    exact w_zreturn X33 hx Bd.returns (Or.inl rfl) (BodyLoose.notSynchronized Bd) (Nat.le_of_ble_eq_true rfl) (Nat.le_of_ble_eq_true rfl) (Jvm.hb hby d4_50) ⟨congrArg (fun z => some (Value.int z)) (show (0 : Int32) = eqE x0 x1 x2 y0 y1 y2 from by unfold eqE; rw [if_neg hc0]), e33, rfl⟩
  · refine w_aloadN X33 hx (Jvm.hb hby d4_23) rfl rfl (pc' := 24) rfl ?_
    refine w_getfield X33 hx hZ hown (host := "") (Or.inl (hw _ (List.mem_of_getElem? (i := 16) rfl))) Via.refl e33 F_role (Jvm.hb hby d4_24) (pc' := 27) rfl ?_
    intro T34 X34 e34
    refine w_aloadN X34 hx (Jvm.hb hby d4_27) rfl rfl (pc' := 28) rfl ?_
    refine w_getfield X34 hx hZ hown (host := "") (Or.inl (hw _ (List.mem_of_getElem? (i := 16) rfl))) Via.refl e34 G_role (Jvm.hb hby d4_28) (pc' := 31) rfl ?_
    intro T35 X35 e35
    refine w_icmp_ne X35 hx (Jvm.hb hby d4_31) (by decide) (pcT := 49) (by decide) (pcF := 34) rfl (fun hc1 => ?_) (fun hc1 => ?_)
    · refine w_iconst X35 hx (0 : Int32) (Jvm.hb hby d4_49) (by decide) (pc' := 50) rfl ?_
      exact w_zreturn X35 hx Bd.returns (Or.inl rfl) (BodyLoose.notSynchronized Bd) (Nat.le_of_ble_eq_true rfl) (Nat.le_of_ble_eq_true rfl) (Jvm.hb hby d4_50) ⟨congrArg (fun z => some (Value.int z)) (show (0 : Int32) = eqE x0 x1 x2 y0 y1 y2 from by unfold eqE; rw [if_pos hc0, if_neg hc1]), e35, rfl⟩
    · refine w_aloadN X35 hx (Jvm.hb hby d4_34) rfl rfl (pc' := 35) rfl ?_
      refine w_getfield X35 hx hZ hown (host := "") (Or.inl (hw _ (List.mem_of_getElem? (i := 18) rfl))) Via.refl e35 F_object (Jvm.hb hby d4_35) (pc' := 38) rfl ?_
      intro T36 X36 e36
      refine w_aloadN X36 hx (Jvm.hb hby d4_38) rfl rfl (pc' := 39) rfl ?_
      refine w_getfield X36 hx hZ hown (host := "") (Or.inl (hw _ (List.mem_of_getElem? (i := 18) rfl))) Via.refl e36 G_object (Jvm.hb hby d4_39) (pc' := 42) rfl ?_
      intro T37 X37 e37
      refine w_icmp_ne X37 hx (Jvm.hb hby d4_42) (by decide) (pcT := 49) (by decide) (pcF := 45) rfl (fun hc2 => ?_) (fun hc2 => ?_)
      · refine w_iconst X37 hx (0 : Int32) (Jvm.hb hby d4_49) (by decide) (pc' := 50) rfl ?_
        exact w_zreturn X37 hx Bd.returns (Or.inl rfl) (BodyLoose.notSynchronized Bd) (Nat.le_of_ble_eq_true rfl) (Nat.le_of_ble_eq_true rfl) (Jvm.hb hby d4_50) ⟨congrArg (fun z => some (Value.int z)) (show (0 : Int32) = eqE x0 x1 x2 y0 y1 y2 from by unfold eqE; rw [if_pos hc0, if_pos hc1, if_neg hc2]), e37, rfl⟩
      · refine w_iconst X37 hx (1 : Int32) (Jvm.hb hby d4_45) (by decide) (pc' := 46) rfl ?_
        refine w_goto X37 hx (Jvm.hb hby d4_46) (by decide) (pc' := 50) (by decide) ?_
        exact w_zreturn X37 hx Bd.returns (Or.inr rfl) (BodyLoose.notSynchronized Bd) (Nat.le_of_ble_eq_true rfl) (Nat.le_of_ble_eq_true rfl) (Jvm.hb hby d4_50) ⟨congrArg (fun z => some (Value.int z)) (show (1 : Int32) = eqE x0 x1 x2 y0 y1 y2 from by unfold eqE; rw [if_pos hc0, if_pos hc1, if_pos hc2]), e37, rfl⟩
def Q4n (h0 : Heap) (v : Option Value) (h : Heap) (L : List Loc) : Prop := v = some (.int (0 : Int32)) ∧ h = h0 ∧ L = []
set_option maxRecDepth 65536 in
set_option maxHeartbeats 40000000 in
theorem rm4n (l : Launch) (Z : State) (aw : Array Value) (hw : ∀ d ∈ tables_1, d.before aw Z = true) (ws : List Jvm.Cond) (a0 : Addr) (h0 : Heap) :
    MetFree l (⟨"com/example/hierarchy_from_axioms/hierarchyfromaxioms/reasoner/Abox$Edge", "equals", "(Ljava/lang/Object;)Z"⟩ : MethodName) (head1 (Jvm.Cond.code (⟨"com/example/hierarchy_from_axioms/hierarchyfromaxioms/reasoner/Abox$Edge", "equals", "(Ljava/lang/Object;)Z"⟩ : MethodName) prog_38_method_2_code 3 (some .boolean) :: ws) ({ frames := 0, cells := 0, slots := 0, locals := 0 } : Room)) (fun a U => a = #[(.ref a0), .null] ∧ Z.Warmed39 U.vm ∧ U.heap = h0) (fun _ _ _ _ _ => True) (fun _ U o U' => ∃ v L, o = .returned v ∧ Q4n h0 v U'.heap L ∧ FrameEnd U o U' L ({ frames := 0, cells := 0, slots := 0, locals := 0 } : Room).cells ({ frames := 0, cells := 0, slots := 0, locals := 0 } : Room).slots) := by
  refine MetFree.of_bodySF (plainFor_of_name pn_1) hisR ?_
  intro p e s m args below meth c s₁ Bd hml0 hP _hKK
  obtain ⟨rfl, hZ, hh⟩ := hP
  have hx := Bd.exec
  have hby := Bd.bytes
  have hml : c.maxLocals = 3 := hml0
  have hown : s.vm.findClass "com/example/hierarchy_from_axioms/hierarchyfromaxioms/reasoner/Abox$Edge" = some m.cls := findClass_of_methodNamed Bd.named
  have hnm := (name_of_methodNamed Bd.named Bd.method).1
  have X0 : Stand p l e ({ frames := 0, cells := 0, slots := 0, locals := 0 } : Room) s m #[(.ref a0), .null] below meth c s₁ [] 0 0 := Stand.of_body Bd
  have e0 : s₁.heap = h0 := by rw [← hh, Bd.state]; rfl
  refine Ow.enter (Q := Q4n h0) (ef_4n m a0) ?_
  show Ow p e below s _ _ _ (s₁.setTop (mkF m 0 #[.val (.ref a0), .val .null, .unset] []))
  refine w_aloadN X0 hx (Jvm.hb hby d4_0) rfl rfl (pc' := 1) rfl ?_
  refine w_instNull X0 hx (Jvm.hb hby d4_1) (pc' := 4) rfl ?_
  refine w_if_eq X0 hx (Jvm.hb hby d4_4) (by decide) (pcT := 49) (by decide) (pcF := 7) rfl (fun _ => ?_) (fun q => absurd (rfl : (0 : Int32) = 0) q)
  refine w_iconst X0 hx (0 : Int32) (Jvm.hb hby d4_49) (by decide) (pc' := 50) rfl ?_
  exact w_zreturn X0 hx Bd.returns (Or.inl rfl) (BodyLoose.notSynchronized Bd) (Nat.le_of_ble_eq_true rfl) (Nat.le_of_ble_eq_true rfl) (Jvm.hb hby d4_50) ⟨rfl, e0, rfl⟩
def Q4i (h0 : Heap) (v : Option Value) (h : Heap) (L : List Loc) : Prop := v = some (.int (0 : Int32)) ∧ h = h0 ∧ L = []
set_option maxRecDepth 65536 in
set_option maxHeartbeats 40000000 in
theorem rm4i (l : Launch) (Z : State) (aw : Array Value) (hw : ∀ d ∈ tables_1, d.before aw Z = true) (ws : List Jvm.Cond) (a0 : Addr) (a1 : Addr) (h0 : Heap) (E1 : Exa Z h0 a1 "java/lang/Integer") (NO : ∃ c t, Z.vm.findClass "java/lang/Integer" = some c ∧ Z.vm.findClass "com/example/hierarchy_from_axioms/hierarchyfromaxioms/reasoner/Abox$Edge" = some t ∧ Z.vm.assignable c t = false) :
    MetFree l (⟨"com/example/hierarchy_from_axioms/hierarchyfromaxioms/reasoner/Abox$Edge", "equals", "(Ljava/lang/Object;)Z"⟩ : MethodName) (head1 (Jvm.Cond.code (⟨"com/example/hierarchy_from_axioms/hierarchyfromaxioms/reasoner/Abox$Edge", "equals", "(Ljava/lang/Object;)Z"⟩ : MethodName) prog_38_method_2_code 3 (some .boolean) :: ws) ({ frames := 0, cells := 0, slots := 0, locals := 0 } : Room)) (fun a U => a = #[(.ref a0), (.ref a1)] ∧ Z.Warmed39 U.vm ∧ U.heap = h0) (fun _ _ _ _ _ => True) (fun _ U o U' => ∃ v L, o = .returned v ∧ Q4i h0 v U'.heap L ∧ FrameEnd U o U' L ({ frames := 0, cells := 0, slots := 0, locals := 0 } : Room).cells ({ frames := 0, cells := 0, slots := 0, locals := 0 } : Room).slots) := by
  refine MetFree.of_bodySF (plainFor_of_name pn_1) hisR ?_
  intro p e s m args below meth c s₁ Bd hml0 hP _hKK
  obtain ⟨rfl, hZ, hh⟩ := hP
  have hx := Bd.exec
  have hby := Bd.bytes
  have hml : c.maxLocals = 3 := hml0
  have hown : s.vm.findClass "com/example/hierarchy_from_axioms/hierarchyfromaxioms/reasoner/Abox$Edge" = some m.cls := findClass_of_methodNamed Bd.named
  have hnm := (name_of_methodNamed Bd.named Bd.method).1
  have X0 : Stand p l e ({ frames := 0, cells := 0, slots := 0, locals := 0 } : Room) s m #[(.ref a0), (.ref a1)] below meth c s₁ [] 0 0 := Stand.of_body Bd
  have e0 : s₁.heap = h0 := by rw [← hh, Bd.state]; rfl
  refine Ow.enter (Q := Q4i h0) (ef_4 m a0 a1) ?_
  show Ow p e below s _ _ _ (s₁.setTop (mkF m 0 #[.val (.ref a0), .val (.ref a1), .unset] []))
  refine w_aloadN X0 hx (Jvm.hb hby d4_0) rfl rfl (pc' := 1) rfl ?_
  refine w_instNo X0 hx hZ hown (hw _ (List.mem_of_getElem? (i := 25) rfl)) e0 E1 NO (Jvm.hb hby d4_1) (pc' := 4) rfl ?_
  intro T38 X38 e38
  refine w_if_eq X38 hx (Jvm.hb hby d4_4) (by decide) (pcT := 49) (by decide) (pcF := 7) rfl (fun _ => ?_) (fun q => absurd (rfl : (0 : Int32) = 0) q)
  refine w_iconst X38 hx (0 : Int32) (Jvm.hb hby d4_49) (by decide) (pc' := 50) rfl ?_
  exact w_zreturn X38 hx Bd.returns (Or.inl rfl) (BodyLoose.notSynchronized Bd) (Nat.le_of_ble_eq_true rfl) (Nat.le_of_ble_eq_true rfl) (Jvm.hb hby d4_50) ⟨rfl, e38, rfl⟩
def Q7 (a0 : Addr) (h0 : Heap) (n0 : Nat) (v : Option Value) (h : Heap) (L : List Loc) : Prop := v = none ∧ Fr n0 L ∧ Keep h0 h [a0]
set_option maxRecDepth 65536 in
set_option maxHeartbeats 40000000 in
theorem rm7 (l : Launch) (Z : State) (aw : Array Value) (hw : ∀ d ∈ tables_1, d.before aw Z = true) (ws : List Jvm.Cond) (a0 : Addr) (p1 : Int32) (h0 : Heap) (n0 : Nat) (F : Fld Z h0 a0 "java/lang/Integer" "value" "I" (.int (0 : Int32))) (E : Exa Z h0 a0 "java/lang/Integer") (g : n0 ≤ a0) :
    MetFree l (⟨"java/lang/Integer", "<init>", "(I)V"⟩ : MethodName) (head1 (Jvm.Cond.code (⟨"java/lang/Integer", "<init>", "(I)V"⟩ : MethodName) jdk_33_method_23_code 2 none :: ws) ({ frames := 2, cells := 0, slots := 0, locals := 24 } : Room)) (fun a U => a = #[(.ref a0), (.int p1)] ∧ Z.Warmed39 U.vm ∧ U.heap = h0) (fun _ _ _ _ _ => True) (fun _ U o U' => ∃ v L, o = .returned v ∧ Q7 a0 h0 n0 v U'.heap L ∧ FrameEnd U o U' L ({ frames := 2, cells := 0, slots := 0, locals := 24 } : Room).cells ({ frames := 2, cells := 0, slots := 0, locals := 24 } : Room).slots) := by
  refine MetFree.of_bodySF (plainFor_of_name pn_3) hisR ?_
  intro p e s m args below meth c s₁ Bd hml0 hP _hKK
  obtain ⟨rfl, hZ, hh⟩ := hP
  have hx := Bd.exec
  have hby := Bd.bytes
  have hml : c.maxLocals = 2 := hml0
  have hown : s.vm.findClass "java/lang/Integer" = some m.cls := findClass_of_methodNamed Bd.named
  have hnm := (name_of_methodNamed Bd.named Bd.method).1
  have X0 : Stand p l e ({ frames := 2, cells := 0, slots := 0, locals := 24 } : Room) s m #[(.ref a0), (.int p1)] below meth c s₁ [] 0 0 := Stand.of_body Bd
  have e0 : s₁.heap = h0 := by rw [← hh, Bd.state]; rfl
  refine Ow.enter (Q := Q7 a0 h0 n0) (ef_7 m a0 p1) ?_
  show Ow p e below s _ _ _ (s₁.setTop (mkF m 0 #[.val (.ref a0), .val (.int p1)] []))
  refine w_aloadN X0 hx (Jvm.hb hby d7_0) rfl rfl (pc' := 1) rfl ?_
  refine w_callN X0 hx hZ rfl hown (hw _ (List.mem_of_getElem? (i := 48) rfl)) (hw _ (List.mem_of_getElem? (i := 49) rfl)) (hw _ (List.mem_of_getElem? (i := 52) rfl)) (hw _ (List.mem_of_getElem? (i := 53) rfl)) (by decide) (W := 0) (rm8 l Z aw hw [] a0 h0) e0 (by decide) (by decide) (by decide) (by decide) (Jvm.hb hby d7_1) (by rw [hml]; rfl) (a := a0) (argsL := []) (rest := []) pd_0 rfl rfl rfl (Nat.le_of_eq rfl) (pc' := 4) rfl ?_
  rintro _ T39 L39 X39 ⟨rfl, e39, rfl⟩
  show Ow p e below s _ _ _ (T39.setTop (mkF m 4 #[.val (.ref a0), .val (.int p1)] []))
  refine w_aloadN X39 hx (Jvm.hb hby d7_4) rfl rfl (pc' := 5) rfl ?_
  refine w_iloadN X39 hx (Jvm.hb hby d7_5) rfl (pc' := 6) rfl ?_
  refine w_putfield X39 hx hZ hown (host := "") (Or.inl (hw _ (List.mem_of_getElem? (i := 55) rfl))) Via.refl e39 F E (Or.inr ⟨(hw _ (List.mem_of_getElem? (i := 56) rfl)), rfl, hnm⟩) (hw _ (List.mem_of_getElem? (i := 43) rfl)) (ty := .int) (by decide) rfl rfl (Jvm.hb hby d7_6) (pc' := 9) rfl ?_
  intro T40 h40 X40 e40 W40
  have N1 := Fr.snoc X40 (Fr.nil n0) g
  exact w_return X40 hx Bd.returns (BodyLoose.notSynchronized Bd) (Nat.le_of_ble_eq_true rfl) (Nat.le_of_ble_eq_true rfl) (Jvm.hb hby d7_9) ⟨rfl, N1, by rw [e40]; exact Keep.of_wr W40⟩
theorem own_cache {p0 : Int32} {cl : Cell} (h1 : ¬ p0 < (-128 : Int32)) (h2 : ¬ (127 : Int32) < p0) (hs : cl.slots.size = 256) : ¬ ((p0 + (128 : Int32)) < 0 ∨ cl.slots.size ≤ (p0 + (128 : Int32)).toNatClampNeg) := by
  have k1 : (-128 : Int32).toInt = -128 := by decide
  have k2 : (127 : Int32).toInt = 127 := by decide
  have k3 : (128 : Int32).toInt = 128 := by decide
  rw [Int32.lt_iff_toInt_lt, k1] at h1; rw [Int32.lt_iff_toInt_lt, k2] at h2
  have ha : (p0 + (128 : Int32)).toInt = p0.toInt + 128 := by rw [Kit.i32_add (by rw [k3]; omega) (by rw [k3]; omega), k3]
  rw [hs]
  rintro (q | q)
  · rw [Int32.lt_iff_toInt_lt, ha, show (0 : Int32).toInt = 0 from by decide] at q; omega
  · have e : (p0 + (128 : Int32)).toNatClampNeg = (p0 + (128 : Int32)).toInt.toNat := rfl
    rw [e, ha] at q; omega
theorem own_self (x0 x1 x2 : Int32) : ¬ (eqE x0 x1 x2 x0 x1 x2) = (0 : Int32) := by unfold eqE; rw [if_pos rfl, if_pos rfl, if_pos rfl]; decide
theorem own_ex (x0 x1 x2 y0 y1 y2 ex : Int32) (h : ex = (if y0 = x0 then (if y1 = x1 then (if y2 = x2 then (1 : Int32) else (0 : Int32)) else (0 : Int32)) else (0 : Int32))) : (eqE x0 x1 x2 y0 y1 y2) = ex := by
  rw [h]; unfold eqE
  simp only [eq_comm (a := x0) (b := y0), eq_comm (a := x1) (b := y1), eq_comm (a := x2) (b := y2)]
theorem own_sym (x0 x1 x2 y0 y1 y2 : Int32) : (eqE x0 x1 x2 y0 y1 y2) = (eqE y0 y1 y2 x0 x1 x2) := by
  unfold eqE
  simp only [eq_comm (a := x0) (b := y0), eq_comm (a := x1) (b := y1), eq_comm (a := x2) (b := y2)]
theorem own_hash (x0 x1 x2 y0 y1 y2 : Int32) (h : ¬ (eqE x0 x1 x2 y0 y1 y2) = (0 : Int32)) : (hsh x0 x1 x2) = (hsh y0 y1 y2) := by
  unfold eqE at h
  by_cases q0 : x0 = y0
  · rw [if_pos q0] at h
    by_cases q1 : x1 = y1
    · rw [if_pos q1] at h
      by_cases q2 : x2 = y2
      · rw [q0, q1, q2]
      · rw [if_neg q2] at h; exact absurd rfl h
    · rw [if_neg q1] at h; exact absurd rfl h
  · rw [if_neg q0] at h; exact absurd rfl h
theorem own_len256 {s : State} {args : Array Value} {t : Term} {x : Addr} {cl : Cell} {ty : FieldType} (ht : t.eval args s none [] s = some (.ref x)) (A : Arr s s.heap x cl ty) (h : (Cond.eq (Term.length t) (Term.int (256 : Int32))).value args s none s [] = some true) : cl.slots.size < 2 ^ 31 ∧ cl.slots.size.toInt32 = (256 : Int32) := by
  have e := eqv_i (Term.int_eval (256 : Int32)) h
  have ha := A.fin (Vm.Alike.refl _)
  have hl : cl.slots.size < 2 ^ 31 := Decidable.byContradiction fun q => by
    have e2 : (Term.length t).eval args s none [] s = none := by simp [Term.eval, ht, ha, q]
    rw [e2] at e; cases e
  refine ⟨hl, ?_⟩
  have e3 := len_f (o := none) (idx := []) (first := s) ht ha hl
  rw [e3] at e; exact Value.int.inj (Option.some.inj e)
theorem own_sub128 {s : State} {args : Array Value} {j : Int32} (hj : ¬ j < 0) : (Term.sub (Term.index 0) (Term.int (128 : Int32))).eval args s none [j.toNatClampNeg] s = some (.int (j - 128)) := by
  have e := idx_at (args := args) (first := s) (o := none) (s := s) hj
  simp [Term.eval, e, Term.int_eval] at e ⊢
  simp [e]
theorem own_found {Z : State} {a0 : Array Value} {C : String} {n : Nat} (w : (Cond.instantiable C n).before a0 Z = true) : ∃ t k, Z.vm.findClass C = some t ∧ Z.vm.classes[t]? = some k ∧ k.kind = .ordinary ∧ k.isInterface = false := by
  obtain ⟨c, k, h1, h2, h3, h4, -⟩ := Cond.instantiable_spec w
  rw [Bool.or_eq_false_iff] at h4
  exact ⟨c, k, h1, h2, h3, h4.1⟩
theorem own_notEdge {Z : State} {a0 : Array Value} {n : Nat} (w1 : (Cond.superclass "java/lang/Integer" "java/lang/Number").before a0 Z = true) (w2 : (Cond.superclass "java/lang/Number" "java/lang/Object").before a0 Z = true) (w3 : (Cond.noSuperclass "java/lang/Object").before a0 Z = true)
    (wi : (Cond.instantiable "com/example/hierarchy_from_axioms/hierarchyfromaxioms/reasoner/Abox$Edge" n).before a0 Z = true) : ∃ c t, Z.vm.findClass "java/lang/Integer" = some c ∧ Z.vm.findClass "com/example/hierarchy_from_axioms/hierarchyfromaxioms/reasoner/Abox$Edge" = some t ∧ Z.vm.assignable c t = false := by
  obtain ⟨t, kt, g0, g2, g5, g7⟩ := own_found wi
  have nR : NS Z "java/lang/Object" "com/example/hierarchy_from_axioms/hierarchyfromaxioms/reasoner/Abox$Edge" := by
    obtain ⟨c, k, h1, h2, h3, -, -⟩ := Cond.noSuperclass_spec w3
    have ne := ids_ne h1 g0 (by decide)
    refine ⟨c, t, h1, g0, fun fuel => ?_⟩
    cases fuel with
    | zero => rfl
    | succ f => simp [Vm.isSubclassAux, ne, h2, h3]
  have nI := NS.step w1 (NS.step w2 nR (by decide)) (by decide)
  obtain ⟨c, t', h0, g0', n3⟩ := nI
  cases g0.symm.trans g0'
  obtain ⟨p, k, kp, h1, h2, h3, h4, h5, -, h7⟩ := Cond.superclass_spec h0 w1
  have ne := ids_ne h0 g0 (by decide)
  refine ⟨c, t, h0, g0, ?_⟩
  show Z.vm.assignableAux (255 + 1) c t = false
  simp [Vm.assignableAux, ne, h2, g2, h5, g5, g7, Vm.isSubclass, n3]

def Q5 (Z : State) (h0 : Heap) (n0 : Nat) (v : Option Value) (h : Heap) (L : List Loc) : Prop := ∃ b, v = some (.ref b) ∧ Fr n0 L ∧ Keep h0 h [] ∧ Exa Z h b "java/lang/Integer"
set_option maxRecDepth 65536 in
set_option maxHeartbeats 40000000 in
theorem rm5 (l : Launch) (Z : State) (aw : Array Value) (hw : ∀ d ∈ tables_1, d.before aw Z = true) (ws : List Jvm.Cond) (p0 : Int32) (ca : Addr) (cl : Cell) (h0 : Heap) (n0 : Nat) (Z0 : n0 ≤ h0.size) (SH : Sta Z h0 "java/lang/Integer$IntegerCache" "high" "I" (.int (127 : Int32))) (SC : Sta Z h0 "java/lang/Integer$IntegerCache" "cache" "[Ljava/lang/Integer;" (.ref ca)) (AR : Arr Z h0 ca cl (.object "java/lang/Integer")) (hs256 : cl.slots.size = 256) (AE : ∀ j : Int32, ¬ (j < 0 ∨ cl.slots.size ≤ j.toNatClampNeg) → ∃ b : Addr, cl.slots[j.toNatClampNeg]? = some (.ref b) ∧ Exa Z h0 b "java/lang/Integer") :
    MetFree l (⟨"java/lang/Integer", "valueOf", "(I)Ljava/lang/Integer;"⟩ : MethodName) (head1 (Jvm.Cond.code (⟨"java/lang/Integer", "valueOf", "(I)Ljava/lang/Integer;"⟩ : MethodName) jdk_33_method_22_code 1 (some (.object "java/lang/Integer")) :: ws) ({ frames := 3, cells := 1, slots := 1, locals := 38 } : Room)) (fun a U => a = #[(.int p0)] ∧ Z.Warmed39 U.vm ∧ U.heap = h0) (fun _ _ _ _ _ => True) (fun _ U o U' => ∃ v L, o = .returned v ∧ Q5 Z h0 n0 v U'.heap L ∧ FrameEnd U o U' L ({ frames := 3, cells := 1, slots := 1, locals := 38 } : Room).cells ({ frames := 3, cells := 1, slots := 1, locals := 38 } : Room).slots) := by
  refine MetFree.of_bodySF (plainFor_of_name pn_3) hisR ?_
  intro p e s m args below meth c s₁ Bd hml0 hP _hKK
  obtain ⟨rfl, hZ, hh⟩ := hP
  have hx := Bd.exec
  have hby := Bd.bytes
  have hml : c.maxLocals = 1 := hml0
  have hown : s.vm.findClass "java/lang/Integer" = some m.cls := findClass_of_methodNamed Bd.named
  have hnm := (name_of_methodNamed Bd.named Bd.method).1
  have X0 : Stand p l e ({ frames := 3, cells := 1, slots := 1, locals := 38 } : Room) s m #[(.int p0)] below meth c s₁ [] 0 0 := Stand.of_body Bd
  have e0 : s₁.heap = h0 := by rw [← hh, Bd.state]; rfl
  refine Ow.enter (Q := Q5 Z h0 n0) (ef_5 m p0) ?_
  show Ow p e below s _ _ _ (s₁.setTop (mkF m 0 #[.val (.int p0)] []))
  refine w_iloadN X0 hx (Jvm.hb hby d5_0) rfl (pc' := 1) rfl ?_
  refine w_bipush X0 hx (-128 : Int32) (Jvm.hb hby d5_1) (by decide) (pc' := 3) rfl ?_
  refine w_icmp_lt X0 hx (Jvm.hb hby d5_3) (by decide) (pcT := 23) (by decide) (pcF := 6) rfl (fun h1 => ?_) (fun h1 => ?_)
  · refine w_new X0 hx hZ hown (hw _ (List.mem_of_getElem? (i := 42) rfl)) (hw _ (List.mem_of_getElem? (i := 43) rfl)) (hw _ (List.mem_of_getElem? (i := 29) rfl)) e0 (Jvm.hb hby d5_23) (by decide) (by decide) (pc' := 26) rfl ?_
    intro T41 h41 a41 g41 X41 e41 E41 A41 D41
    have F0 : Fld Z h41 a41 "java/lang/Integer" "value" "I" (.int (0 : Int32)) := D41 (Or.inr (hw _ (List.mem_of_getElem? (i := 56) rfl))) (ty := .int) (by decide)
    have G : n0 ≤ a41 := Nat.le_trans Z0 (Nat.le_of_eq g41.symm)
    refine w_dup X41 hx (Jvm.hb hby d5_26) rfl (pc' := 27) rfl ?_
    refine w_iloadN X41 hx (Jvm.hb hby d5_27) rfl (pc' := 28) rfl ?_
    refine w_callN X41 hx hZ rfl hown (hw _ (List.mem_of_getElem? (i := 44) rfl)) (hw _ (List.mem_of_getElem? (i := 45) rfl)) (hw _ (List.mem_of_getElem? (i := 29) rfl)) (hw _ (List.mem_of_getElem? (i := 47) rfl)) (by decide) (W := 1) (rm7 l Z aw hw [] a41 p0 h41 n0 F0 A41 G) e41 (by decide) (by decide) (by decide) (by decide) (Jvm.hb hby d5_28) (by rw [hml]; rfl) (a := a41) (argsL := [(.int p0)]) (rest := [(.ref a41)]) pd_1 rfl rfl rfl (Nat.le_of_eq rfl) (pc' := 31) rfl ?_
    rintro _ T42 L42 X42 ⟨rfl, N42, K42⟩
    show Ow p e below s _ _ _ (T42.setTop (mkF m 31 #[.val (.int p0)] [(.ref a41)]))
    exact w_areturn X42 hx Bd.returns rfl rfl (BodyLoose.notSynchronized Bd) (Nat.le_of_ble_eq_true rfl) (Nat.le_of_ble_eq_true rfl) (Jvm.hb hby d5_31) ⟨a41, rfl, by simpa using N42, ((Keep.refl h0 []).ext E41).trans K42 (allS (Or.inr (Nat.le_of_eq g41.symm)) all0), A41.keep K42⟩
  · refine w_iloadN X0 hx (Jvm.hb hby d5_6) rfl (pc' := 7) rfl ?_
    refine w_getstatic X0 hx hZ hown (host := "") (Or.inl (hw _ (List.mem_of_getElem? (i := 31) rfl))) Via.refl e0 SH (Jvm.hb hby d5_7) (pc' := 10) rfl ?_
    intro T43 X43 e43
    refine w_icmp_gt X43 hx (Jvm.hb hby d5_10) (by decide) (pcT := 23) (by decide) (pcF := 13) rfl (fun h2 => ?_) (fun h2 => ?_)
    · refine w_new X43 hx hZ hown (hw _ (List.mem_of_getElem? (i := 42) rfl)) (hw _ (List.mem_of_getElem? (i := 43) rfl)) (hw _ (List.mem_of_getElem? (i := 29) rfl)) e43 (Jvm.hb hby d5_23) (by decide) (by decide) (pc' := 26) rfl ?_
      intro T44 h44 a44 g44 X44 e44 E44 A44 D44
      have F0 : Fld Z h44 a44 "java/lang/Integer" "value" "I" (.int (0 : Int32)) := D44 (Or.inr (hw _ (List.mem_of_getElem? (i := 56) rfl))) (ty := .int) (by decide)
      have G : n0 ≤ a44 := Nat.le_trans Z0 (Nat.le_of_eq g44.symm)
      refine w_dup X44 hx (Jvm.hb hby d5_26) rfl (pc' := 27) rfl ?_
      refine w_iloadN X44 hx (Jvm.hb hby d5_27) rfl (pc' := 28) rfl ?_
      refine w_callN X44 hx hZ rfl hown (hw _ (List.mem_of_getElem? (i := 44) rfl)) (hw _ (List.mem_of_getElem? (i := 45) rfl)) (hw _ (List.mem_of_getElem? (i := 29) rfl)) (hw _ (List.mem_of_getElem? (i := 47) rfl)) (by decide) (W := 1) (rm7 l Z aw hw [] a44 p0 h44 n0 F0 A44 G) e44 (by decide) (by decide) (by decide) (by decide) (Jvm.hb hby d5_28) (by rw [hml]; rfl) (a := a44) (argsL := [(.int p0)]) (rest := [(.ref a44)]) pd_1 rfl rfl rfl (Nat.le_of_eq rfl) (pc' := 31) rfl ?_
      rintro _ T45 L45 X45 ⟨rfl, N45, K45⟩
      show Ow p e below s _ _ _ (T45.setTop (mkF m 31 #[.val (.int p0)] [(.ref a44)]))
      exact w_areturn X45 hx Bd.returns rfl rfl (BodyLoose.notSynchronized Bd) (Nat.le_of_ble_eq_true rfl) (Nat.le_of_ble_eq_true rfl) (Jvm.hb hby d5_31) ⟨a44, rfl, by simpa using N45, ((Keep.refl h0 []).ext E44).trans K45 (allS (Or.inr (Nat.le_of_eq g44.symm)) all0), A44.keep K45⟩
    · refine w_getstatic X43 hx hZ hown (host := "") (Or.inl (hw _ (List.mem_of_getElem? (i := 33) rfl))) Via.refl e43 SC (Jvm.hb hby d5_13) (pc' := 16) rfl ?_
      intro T46 X46 e46
      refine w_iloadN X46 hx (Jvm.hb hby d5_16) rfl (pc' := 17) rfl ?_
      refine w_sipush X46 hx (128 : Int32) (Jvm.hb hby d5_17) (by decide) (pc' := 20) rfl ?_
      refine w_iadd X46 hx (Jvm.hb hby d5_20) (pc' := 21) rfl ?_
      have hin := own_cache h1 h2 hs256
      obtain ⟨bx, hb1, hb2⟩ := AE _ hin
      refine w_aaload X46 hx hZ e46 AR rfl hin hb1 (Jvm.hb hby d5_21) (pc' := 22) rfl ?_
      exact w_areturn X46 hx Bd.returns rfl rfl (BodyLoose.notSynchronized Bd) (Nat.le_of_ble_eq_true rfl) (Nat.le_of_ble_eq_true rfl) (Jvm.hb hby d5_22) ⟨bx, rfl, by simpa using Fr.nil n0, by rw [e46]; exact ⟨Keep.refl h0 [], hb2⟩⟩
theorem pd_2 : parseMethodDescriptor "(III)V" = some ⟨[.int, .int, .int], none⟩ := by decide +kernel
theorem pd_3 : parseMethodDescriptor "(I)Ljava/lang/Integer;" = some ⟨[.int], some (.object "java/lang/Integer")⟩ := by decide +kernel
theorem pd_4 : parseMethodDescriptor "(Ljava/lang/Object;)Z" = some ⟨[(.object "java/lang/Object")], some .boolean⟩ := by decide +kernel
theorem pd_5 : parseMethodDescriptor "()I" = some ⟨[], some .int⟩ := by decide +kernel
theorem ef_0 (m : MethodId) (p0 : Int32) (p1 : Int32) (p2 : Int32) (p3 : Int32) (p4 : Int32) (p5 : Int32) : entryFrame m #[(.int p0), (.int p1), (.int p2), (.int p3), (.int p4), (.int p5)] maxLocals = mkF m 0 #[.val (.int p0), .val (.int p1), .val (.int p2), .val (.int p3), .val (.int p4), .val (.int p5), .unset, .unset, .unset, .unset, .unset, .unset, .unset, .unset, .unset, .unset, .unset, .unset] [] := by first | (simp [entryFrame, mkF, argsToLocals, Value.category, maxLocals]; done) | rfl
theorem pn_4 : plainName "com/example/hierarchy_from_axioms/hierarchyfromaxioms/reasoner/EdgeEqualsPinLaw" = true := by first | (simp [plainName, overriddenIn]; done) | decide +kernel
def Q0 (n0 : Nat) (v : Option Value) (h : Heap) (L : List Loc) : Prop := v = some (.int 1) ∧ Fr n0 L
set_option maxRecDepth 65536 in
set_option maxHeartbeats 40000000 in
theorem rm0 (l : Launch) (Z : State) (aw : Array Value) (hw : ∀ d ∈ tables_1, d.before aw Z = true) (ws : List Jvm.Cond) (p0 : Int32) (p1 : Int32) (p2 : Int32) (p3 : Int32) (p4 : Int32) (p5 : Int32) (ca : Addr) (cl : Cell) (h0 : Heap) (n0 : Nat) (Z0 : n0 ≤ h0.size) (OO : Old Z n0 h0) (SH : Sta Z Z.heap "java/lang/Integer$IntegerCache" "high" "I" (.int (127 : Int32))) (SC : Sta Z Z.heap "java/lang/Integer$IntegerCache" "cache" "[Ljava/lang/Integer;" (.ref ca)) (AR : Arr Z Z.heap ca cl (.object "java/lang/Integer")) (hs256 : cl.slots.size = 256) (AE : ∀ j : Int32, ¬ (j < 0 ∨ cl.slots.size ≤ j.toNatClampNeg) → ∃ b : Addr, cl.slots[j.toNatClampNeg]? = some (.ref b) ∧ Exa Z Z.heap b "java/lang/Integer") (NO : ∃ c t, Z.vm.findClass "java/lang/Integer" = some c ∧ Z.vm.findClass "com/example/hierarchy_from_axioms/hierarchyfromaxioms/reasoner/Abox$Edge" = some t ∧ Z.vm.assignable c t = false) :
    MetFree l x (head1 (Jvm.Cond.code x code maxLocals ret :: ws) room_1) (fun a U => a = #[(.int p0), (.int p1), (.int p2), (.int p3), (.int p4), (.int p5)] ∧ Z.Warmed39 U.vm ∧ U.heap = h0) (fun _ _ _ _ _ => True) (fun _ U o U' => ∃ v L, o = .returned v ∧ Q0 n0 v U'.heap L ∧ FrameEnd U o U' L 16 128) := by
  refine MetFree.of_bodySF (plainFor_of_name pn_4) hisR ?_
  intro p e s m args below meth c s₁ Bd hml0 hP _hKK
  obtain ⟨rfl, hZ, hh⟩ := hP
  have hx := Bd.exec
  have hby := Bd.bytes
  have hml : c.maxLocals = 18 := hml0
  have hown : s.vm.findClass "com/example/hierarchy_from_axioms/hierarchyfromaxioms/reasoner/EdgeEqualsPinLaw" = some m.cls := findClass_of_methodNamed Bd.named
  have hnm := (name_of_methodNamed Bd.named Bd.method).1
  have X0 : Stand p l e room_1 s m #[(.int p0), (.int p1), (.int p2), (.int p3), (.int p4), (.int p5)] below meth c s₁ [] 0 0 := Stand.of_body Bd
  have e0 : s₁.heap = h0 := by rw [← hh, Bd.state]; rfl
  refine Ow.enter (Q := Q0 n0) (ef_0 m p0 p1 p2 p3 p4 p5) ?_
  show Ow p e below s _ _ _ (s₁.setTop (mkF m 0 #[.val (.int p0), .val (.int p1), .val (.int p2), .val (.int p3), .val (.int p4), .val (.int p5), .unset, .unset, .unset, .unset, .unset, .unset, .unset, .unset, .unset, .unset, .unset, .unset] []))
  obtain ⟨ks', hks'⟩ : ∃ v : Int32, v = (if (p5 &&& (1 : Int32)) = (0 : Int32) then (0 : Int32) else (1 : Int32)) := ⟨_, rfl⟩
  refine Ow.join s₁ (mkF m 14 #[.val (.int p0), .val (.int p1), .val (.int p2), .val (.int p3), .val (.int p4), .val (.int p5), .val (.int ks'), .unset, .unset, .unset, .unset, .unset, .unset, .unset, .unset, .unset, .unset, .unset] []) (fun K => ?_) ?_
  · refine w_iload X0 hx (Jvm.hb hby at_0) rfl (pc' := 2) rfl ?_
    refine w_iconst X0 hx (1 : Int32) (Jvm.hb hby at_2) (by decide) (pc' := 3) rfl ?_
    refine w_iand X0 hx (Jvm.hb hby at_3) (pc' := 4) rfl ?_
    refine w_if_eq X0 hx (Jvm.hb hby at_4) (by decide) (pcT := 11) (by decide) (pcF := 7) rfl (fun hj4_0 => ?_) (fun hj4_0 => ?_)
    · refine w_iconst X0 hx (0 : Int32) (Jvm.hb hby at_11) (by decide) (pc' := 12) rfl ?_
      refine w_istore X0 hx (Jvm.hb hby at_12) #[.val (.int p0), .val (.int p1), .val (.int p2), .val (.int p3), .val (.int p4), .val (.int p5), .val (.int (0 : Int32)), .unset, .unset, .unset, .unset, .unset, .unset, .unset, .unset, .unset, .unset, .unset] rfl  (pc' := 14) rfl ?_
      rw [hks', if_pos hj4_0] at K; exact K
    · refine w_iconst X0 hx (1 : Int32) (Jvm.hb hby at_7) (by decide) (pc' := 8) rfl ?_
      refine w_goto X0 hx (Jvm.hb hby at_8) (by decide) (pc' := 12) (by decide) ?_
      refine w_istore X0 hx (Jvm.hb hby at_12) #[.val (.int p0), .val (.int p1), .val (.int p2), .val (.int p3), .val (.int p4), .val (.int p5), .val (.int (1 : Int32)), .unset, .unset, .unset, .unset, .unset, .unset, .unset, .unset, .unset, .unset, .unset] rfl  (pc' := 14) rfl ?_
      rw [hks', if_neg hj4_0] at K; exact K
  obtain ⟨kr, hkr⟩ : ∃ v : Int32, v = (if (p5 &&& (2 : Int32)) = (0 : Int32) then (0 : Int32) else (1 : Int32)) := ⟨_, rfl⟩
  refine Ow.join s₁ (mkF m 28 #[.val (.int p0), .val (.int p1), .val (.int p2), .val (.int p3), .val (.int p4), .val (.int p5), .val (.int ks'), .val (.int kr), .unset, .unset, .unset, .unset, .unset, .unset, .unset, .unset, .unset, .unset] []) (fun K => ?_) ?_
  · refine w_iload X0 hx (Jvm.hb hby at_14) rfl (pc' := 16) rfl ?_
    refine w_iconst X0 hx (2 : Int32) (Jvm.hb hby at_16) (by decide) (pc' := 17) rfl ?_
    refine w_iand X0 hx (Jvm.hb hby at_17) (pc' := 18) rfl ?_
    refine w_if_eq X0 hx (Jvm.hb hby at_18) (by decide) (pcT := 25) (by decide) (pcF := 21) rfl (fun hj18_0 => ?_) (fun hj18_0 => ?_)
    · refine w_iconst X0 hx (0 : Int32) (Jvm.hb hby at_25) (by decide) (pc' := 26) rfl ?_
      refine w_istore X0 hx (Jvm.hb hby at_26) #[.val (.int p0), .val (.int p1), .val (.int p2), .val (.int p3), .val (.int p4), .val (.int p5), .val (.int ks'), .val (.int (0 : Int32)), .unset, .unset, .unset, .unset, .unset, .unset, .unset, .unset, .unset, .unset] rfl  (pc' := 28) rfl ?_
      rw [hkr, if_pos hj18_0] at K; exact K
    · refine w_iconst X0 hx (1 : Int32) (Jvm.hb hby at_21) (by decide) (pc' := 22) rfl ?_
      refine w_goto X0 hx (Jvm.hb hby at_22) (by decide) (pc' := 26) (by decide) ?_
      refine w_istore X0 hx (Jvm.hb hby at_26) #[.val (.int p0), .val (.int p1), .val (.int p2), .val (.int p3), .val (.int p4), .val (.int p5), .val (.int ks'), .val (.int (1 : Int32)), .unset, .unset, .unset, .unset, .unset, .unset, .unset, .unset, .unset, .unset] rfl  (pc' := 28) rfl ?_
      rw [hkr, if_neg hj18_0] at K; exact K
  obtain ⟨ko, hko⟩ : ∃ v : Int32, v = (if (p5 &&& (4 : Int32)) = (0 : Int32) then (0 : Int32) else (1 : Int32)) := ⟨_, rfl⟩
  refine Ow.join s₁ (mkF m 42 #[.val (.int p0), .val (.int p1), .val (.int p2), .val (.int p3), .val (.int p4), .val (.int p5), .val (.int ks'), .val (.int kr), .val (.int ko), .unset, .unset, .unset, .unset, .unset, .unset, .unset, .unset, .unset] []) (fun K => ?_) ?_
  · refine w_iload X0 hx (Jvm.hb hby at_28) rfl (pc' := 30) rfl ?_
    refine w_iconst X0 hx (4 : Int32) (Jvm.hb hby at_30) (by decide) (pc' := 31) rfl ?_
    refine w_iand X0 hx (Jvm.hb hby at_31) (pc' := 32) rfl ?_
    refine w_if_eq X0 hx (Jvm.hb hby at_32) (by decide) (pcT := 39) (by decide) (pcF := 35) rfl (fun hj32_0 => ?_) (fun hj32_0 => ?_)
    · refine w_iconst X0 hx (0 : Int32) (Jvm.hb hby at_39) (by decide) (pc' := 40) rfl ?_
      refine w_istore X0 hx (Jvm.hb hby at_40) #[.val (.int p0), .val (.int p1), .val (.int p2), .val (.int p3), .val (.int p4), .val (.int p5), .val (.int ks'), .val (.int kr), .val (.int (0 : Int32)), .unset, .unset, .unset, .unset, .unset, .unset, .unset, .unset, .unset] rfl  (pc' := 42) rfl ?_
      rw [hko, if_pos hj32_0] at K; exact K
    · refine w_iconst X0 hx (1 : Int32) (Jvm.hb hby at_35) (by decide) (pc' := 36) rfl ?_
      refine w_goto X0 hx (Jvm.hb hby at_36) (by decide) (pc' := 40) (by decide) ?_
      refine w_istore X0 hx (Jvm.hb hby at_40) #[.val (.int p0), .val (.int p1), .val (.int p2), .val (.int p3), .val (.int p4), .val (.int p5), .val (.int ks'), .val (.int kr), .val (.int (1 : Int32)), .unset, .unset, .unset, .unset, .unset, .unset, .unset, .unset, .unset] rfl  (pc' := 42) rfl ?_
      rw [hko, if_neg hj32_0] at K; exact K
  refine w_iload X0 hx (Jvm.hb hby at_42) rfl (pc' := 44) rfl ?_
  refine w_iconst X0 hx (3 : Int32) (Jvm.hb hby at_44) (by decide) (pc' := 45) rfl ?_
  refine w_iushr X0 hx (Jvm.hb hby at_45) (pc' := 46) rfl ?_
  refine w_iconst X0 hx (3 : Int32) (Jvm.hb hby at_46) (by decide) (pc' := 47) rfl ?_
  refine w_iand X0 hx (Jvm.hb hby at_47) (pc' := 48) rfl ?_
  refine w_istore X0 hx (Jvm.hb hby at_48) #[.val (.int p0), .val (.int p1), .val (.int p2), .val (.int p3), .val (.int p4), .val (.int p5), .val (.int ks'), .val (.int kr), .val (.int ko), .val (.int ((lsr32 p5 (3 : Int32)) &&& (3 : Int32))), .unset, .unset, .unset, .unset, .unset, .unset, .unset, .unset] rfl  (pc' := 50) rfl ?_
  generalize hmd : ((lsr32 p5 (3 : Int32)) &&& (3 : Int32)) = md
  show Ow p e below s _ _ _ (s₁.setTop (mkF m 50 #[.val (.int p0), .val (.int p1), .val (.int p2), .val (.int p3), .val (.int p4), .val (.int p5), .val (.int ks'), .val (.int kr), .val (.int ko), .val (.int md), .unset, .unset, .unset, .unset, .unset, .unset, .unset, .unset] []))
  obtain ⟨s2, hs2⟩ : ∃ v : Int32, v = (if ks' = (0 : Int32) then p3 else p0) := ⟨_, rfl⟩
  refine Ow.join s₁ (mkF m 62 #[.val (.int p0), .val (.int p1), .val (.int p2), .val (.int p3), .val (.int p4), .val (.int p5), .val (.int ks'), .val (.int kr), .val (.int ko), .val (.int md), .val (.int s2), .unset, .unset, .unset, .unset, .unset, .unset, .unset] []) (fun K => ?_) ?_
  · refine w_iload X0 hx (Jvm.hb hby at_50) rfl (pc' := 52) rfl ?_
    refine w_if_eq X0 hx (Jvm.hb hby at_52) (by decide) (pcT := 59) (by decide) (pcF := 55) rfl (fun hj52_0 => ?_) (fun hj52_0 => ?_)
    · refine w_iloadN X0 hx (Jvm.hb hby at_59) rfl (pc' := 60) rfl ?_
      refine w_istore X0 hx (Jvm.hb hby at_60) #[.val (.int p0), .val (.int p1), .val (.int p2), .val (.int p3), .val (.int p4), .val (.int p5), .val (.int ks'), .val (.int kr), .val (.int ko), .val (.int md), .val (.int p3), .unset, .unset, .unset, .unset, .unset, .unset, .unset] rfl  (pc' := 62) rfl ?_
      rw [hs2, if_pos hj52_0] at K; exact K
    · refine w_iloadN X0 hx (Jvm.hb hby at_55) rfl (pc' := 56) rfl ?_
      refine w_goto X0 hx (Jvm.hb hby at_56) (by decide) (pc' := 60) (by decide) ?_
      refine w_istore X0 hx (Jvm.hb hby at_60) #[.val (.int p0), .val (.int p1), .val (.int p2), .val (.int p3), .val (.int p4), .val (.int p5), .val (.int ks'), .val (.int kr), .val (.int ko), .val (.int md), .val (.int p0), .unset, .unset, .unset, .unset, .unset, .unset, .unset] rfl  (pc' := 62) rfl ?_
      rw [hs2, if_neg hj52_0] at K; exact K
  obtain ⟨r2, hr2⟩ : ∃ v : Int32, v = (if kr = (0 : Int32) then p4 else p1) := ⟨_, rfl⟩
  refine Ow.join s₁ (mkF m 75 #[.val (.int p0), .val (.int p1), .val (.int p2), .val (.int p3), .val (.int p4), .val (.int p5), .val (.int ks'), .val (.int kr), .val (.int ko), .val (.int md), .val (.int s2), .val (.int r2), .unset, .unset, .unset, .unset, .unset, .unset] []) (fun K => ?_) ?_
  · refine w_iload X0 hx (Jvm.hb hby at_62) rfl (pc' := 64) rfl ?_
    refine w_if_eq X0 hx (Jvm.hb hby at_64) (by decide) (pcT := 71) (by decide) (pcF := 67) rfl (fun hj64_0 => ?_) (fun hj64_0 => ?_)
    · refine w_iload X0 hx (Jvm.hb hby at_71) rfl (pc' := 73) rfl ?_
      refine w_istore X0 hx (Jvm.hb hby at_73) #[.val (.int p0), .val (.int p1), .val (.int p2), .val (.int p3), .val (.int p4), .val (.int p5), .val (.int ks'), .val (.int kr), .val (.int ko), .val (.int md), .val (.int s2), .val (.int p4), .unset, .unset, .unset, .unset, .unset, .unset] rfl  (pc' := 75) rfl ?_
      rw [hr2, if_pos hj64_0] at K; exact K
    · refine w_iloadN X0 hx (Jvm.hb hby at_67) rfl (pc' := 68) rfl ?_
      refine w_goto X0 hx (Jvm.hb hby at_68) (by decide) (pc' := 73) (by decide) ?_
      refine w_istore X0 hx (Jvm.hb hby at_73) #[.val (.int p0), .val (.int p1), .val (.int p2), .val (.int p3), .val (.int p4), .val (.int p5), .val (.int ks'), .val (.int kr), .val (.int ko), .val (.int md), .val (.int s2), .val (.int p1), .unset, .unset, .unset, .unset, .unset, .unset] rfl  (pc' := 75) rfl ?_
      rw [hr2, if_neg hj64_0] at K; exact K
  obtain ⟨o2, ho2⟩ : ∃ v : Int32, v = (if ko = (0 : Int32) then (p3 - p4) else p2) := ⟨_, rfl⟩
  refine Ow.join s₁ (mkF m 90 #[.val (.int p0), .val (.int p1), .val (.int p2), .val (.int p3), .val (.int p4), .val (.int p5), .val (.int ks'), .val (.int kr), .val (.int ko), .val (.int md), .val (.int s2), .val (.int r2), .val (.int o2), .unset, .unset, .unset, .unset, .unset] []) (fun K => ?_) ?_
  · refine w_iload X0 hx (Jvm.hb hby at_75) rfl (pc' := 77) rfl ?_
    refine w_if_eq X0 hx (Jvm.hb hby at_77) (by decide) (pcT := 84) (by decide) (pcF := 80) rfl (fun hj77_0 => ?_) (fun hj77_0 => ?_)
    · refine w_iloadN X0 hx (Jvm.hb hby at_84) rfl (pc' := 85) rfl ?_
      refine w_iload X0 hx (Jvm.hb hby at_85) rfl (pc' := 87) rfl ?_
      refine w_isub X0 hx (Jvm.hb hby at_87) (pc' := 88) rfl ?_
      refine w_istore X0 hx (Jvm.hb hby at_88) #[.val (.int p0), .val (.int p1), .val (.int p2), .val (.int p3), .val (.int p4), .val (.int p5), .val (.int ks'), .val (.int kr), .val (.int ko), .val (.int md), .val (.int s2), .val (.int r2), .val (.int (p3 - p4)), .unset, .unset, .unset, .unset, .unset] rfl  (pc' := 90) rfl ?_
      rw [ho2, if_pos hj77_0] at K; exact K
    · refine w_iloadN X0 hx (Jvm.hb hby at_80) rfl (pc' := 81) rfl ?_
      refine w_goto X0 hx (Jvm.hb hby at_81) (by decide) (pc' := 88) (by decide) ?_
      refine w_istore X0 hx (Jvm.hb hby at_88) #[.val (.int p0), .val (.int p1), .val (.int p2), .val (.int p3), .val (.int p4), .val (.int p5), .val (.int ks'), .val (.int kr), .val (.int ko), .val (.int md), .val (.int s2), .val (.int r2), .val (.int p2), .unset, .unset, .unset, .unset, .unset] rfl  (pc' := 90) rfl ?_
      rw [ho2, if_neg hj77_0] at K; exact K
  refine w_new X0 hx hZ hown (hw _ (List.mem_of_getElem? (i := 0) rfl)) (hw _ (List.mem_of_getElem? (i := 1) rfl)) (hw _ (List.mem_of_getElem? (i := 2) rfl)) e0 (Jvm.hb hby at_90) (by decide) (by decide) (pc' := 93) rfl ?_
  intro T47 h47 a47 g47 X47 e47 E47 A47 D47
  have F47_subject : Fld Z h47 a47 "com/example/hierarchy_from_axioms/hierarchyfromaxioms/reasoner/Abox$Edge" "subject" "I" (.int (0 : Int32)) := D47 (Or.inr (hw _ (List.mem_of_getElem? (i := 15) rfl))) (ty := .int) (by decide)
  have F47_role : Fld Z h47 a47 "com/example/hierarchy_from_axioms/hierarchyfromaxioms/reasoner/Abox$Edge" "role" "I" (.int (0 : Int32)) := D47 (Or.inr (hw _ (List.mem_of_getElem? (i := 17) rfl))) (ty := .int) (by decide)
  have F47_object : Fld Z h47 a47 "com/example/hierarchy_from_axioms/hierarchyfromaxioms/reasoner/Abox$Edge" "object" "I" (.int (0 : Int32)) := D47 (Or.inr (hw _ (List.mem_of_getElem? (i := 19) rfl))) (ty := .int) (by decide)
  have G47 : n0 ≤ a47 := Nat.le_trans Z0 (Nat.le_of_eq g47.symm)
  have S47 : n0 ≤ h47.size := Nat.le_trans Z0 E47.1
  have O47 := OO.ext E47
  refine w_dup X47 hx (Jvm.hb hby at_93) rfl (pc' := 94) rfl ?_
  refine w_iloadN X47 hx (Jvm.hb hby at_94) rfl (pc' := 95) rfl ?_
  refine w_iloadN X47 hx (Jvm.hb hby at_95) rfl (pc' := 96) rfl ?_
  refine w_iloadN X47 hx (Jvm.hb hby at_96) rfl (pc' := 97) rfl ?_
  refine w_callN X47 hx hZ rfl hown (hw _ (List.mem_of_getElem? (i := 3) rfl)) (hw _ (List.mem_of_getElem? (i := 4) rfl)) (hw _ (List.mem_of_getElem? (i := 2) rfl)) (hw _ (List.mem_of_getElem? (i := 5) rfl)) (by decide) (W := 1) (rm1 l Z aw hw [] a47 p0 p1 p2 h47 n0 F47_subject F47_role F47_object A47 G47) e47 (by decide) (by decide) (by decide) (by decide) (Jvm.hb hby at_97) (by rw [hml]; rfl) (a := a47) (argsL := [(.int p0), (.int p1), (.int p2)]) (rest := [(.ref a47)]) pd_2 rfl rfl rfl (Nat.le_of_eq rfl) (pc' := 100) rfl ?_
  rintro _ T48 L48 X48 ⟨rfl, N48, K48, B48_subject, B48_role, B48_object⟩
  show Ow p e below s _ _ _ (T48.setTop (mkF m 100 #[.val (.int p0), .val (.int p1), .val (.int p2), .val (.int p3), .val (.int p4), .val (.int p5), .val (.int ks'), .val (.int kr), .val (.int ko), .val (.int md), .val (.int s2), .val (.int r2), .val (.int o2), .unset, .unset, .unset, .unset, .unset] [(.ref a47)]))
  have O48 := O47.keep K48 (allS G47 all0)
  have M48 := Fr.app (Fr.nil n0) N48
  have S48 : n0 ≤ T48.heap.size := Nat.le_trans S47 K48.1
  have E48 := A47.keep K48
  refine w_astore X48 hx (Jvm.hb hby at_100) #[.val (.int p0), .val (.int p1), .val (.int p2), .val (.int p3), .val (.int p4), .val (.int p5), .val (.int ks'), .val (.int kr), .val (.int ko), .val (.int md), .val (.int s2), .val (.int r2), .val (.int o2), .val (.ref a47), .unset, .unset, .unset, .unset] rfl rfl (pc' := 102) rfl ?_
  refine w_new X48 hx hZ hown (hw _ (List.mem_of_getElem? (i := 0) rfl)) (hw _ (List.mem_of_getElem? (i := 1) rfl)) (hw _ (List.mem_of_getElem? (i := 2) rfl)) rfl (Jvm.hb hby at_102) (by decide) (by decide) (pc' := 105) rfl ?_
  intro T49 h49 a49 g49 X49 e49 E49 A49 D49
  have F49_subject : Fld Z h49 a49 "com/example/hierarchy_from_axioms/hierarchyfromaxioms/reasoner/Abox$Edge" "subject" "I" (.int (0 : Int32)) := D49 (Or.inr (hw _ (List.mem_of_getElem? (i := 15) rfl))) (ty := .int) (by decide)
  have F49_role : Fld Z h49 a49 "com/example/hierarchy_from_axioms/hierarchyfromaxioms/reasoner/Abox$Edge" "role" "I" (.int (0 : Int32)) := D49 (Or.inr (hw _ (List.mem_of_getElem? (i := 17) rfl))) (ty := .int) (by decide)
  have F49_object : Fld Z h49 a49 "com/example/hierarchy_from_axioms/hierarchyfromaxioms/reasoner/Abox$Edge" "object" "I" (.int (0 : Int32)) := D49 (Or.inr (hw _ (List.mem_of_getElem? (i := 19) rfl))) (ty := .int) (by decide)
  have G49 : n0 ≤ a49 := Nat.le_trans S48 (Nat.le_of_eq g49.symm)
  have S49 : n0 ≤ h49.size := Nat.le_trans S48 E49.1
  have O49 := O48.ext E49
  have ne47_49 : a47 ≠ a49 := by rw [g49]; exact Nat.ne_of_lt B48_subject.lt
  have P47_49_subject := B48_subject.ext E49
  have P47_49_role := B48_role.ext E49
  have P47_49_object := B48_object.ext E49
  have PE47_49 := E48.ext E49
  refine w_dup X49 hx (Jvm.hb hby at_105) rfl (pc' := 106) rfl ?_
  refine w_iload X49 hx (Jvm.hb hby at_106) rfl (pc' := 108) rfl ?_
  refine w_iload X49 hx (Jvm.hb hby at_108) rfl (pc' := 110) rfl ?_
  refine w_iload X49 hx (Jvm.hb hby at_110) rfl (pc' := 112) rfl ?_
  refine w_callN X49 hx hZ rfl hown (hw _ (List.mem_of_getElem? (i := 3) rfl)) (hw _ (List.mem_of_getElem? (i := 4) rfl)) (hw _ (List.mem_of_getElem? (i := 2) rfl)) (hw _ (List.mem_of_getElem? (i := 5) rfl)) (by decide) (W := 1) (rm1 l Z aw hw [] a49 s2 r2 o2 h49 n0 F49_subject F49_role F49_object A49 G49) e49 (by decide) (by decide) (by decide) (by decide) (Jvm.hb hby at_112) (by rw [hml]; rfl) (a := a49) (argsL := [(.int s2), (.int r2), (.int o2)]) (rest := [(.ref a49)]) pd_2 rfl rfl rfl (Nat.le_of_eq rfl) (pc' := 115) rfl ?_
  rintro _ T50 L50 X50 ⟨rfl, N50, K50, B50_subject, B50_role, B50_object⟩
  show Ow p e below s _ _ _ (T50.setTop (mkF m 115 #[.val (.int p0), .val (.int p1), .val (.int p2), .val (.int p3), .val (.int p4), .val (.int p5), .val (.int ks'), .val (.int kr), .val (.int ko), .val (.int md), .val (.int s2), .val (.int r2), .val (.int o2), .val (.ref a47), .unset, .unset, .unset, .unset] [(.ref a49)]))
  have O50 := O49.keep K50 (allS G49 all0)
  have M50 := Fr.app M48 N50
  have S50 : n0 ≤ T50.heap.size := Nat.le_trans S49 K50.1
  have R47_50_subject := P47_49_subject.keep K50 (ninS ne47_49 nin0)
  have R47_50_role := P47_49_role.keep K50 (ninS ne47_49 nin0)
  have R47_50_object := P47_49_object.keep K50 (ninS ne47_49 nin0)
  have RE47_50 := PE47_49.keep K50
  have E50 := A49.keep K50
  refine w_astore X50 hx (Jvm.hb hby at_115) #[.val (.int p0), .val (.int p1), .val (.int p2), .val (.int p3), .val (.int p4), .val (.int p5), .val (.int ks'), .val (.int kr), .val (.int ko), .val (.int md), .val (.int s2), .val (.int r2), .val (.int o2), .val (.ref a47), .val (.ref a49), .unset, .unset, .unset] rfl rfl (pc' := 117) rfl ?_
  refine w_iload X50 hx (Jvm.hb hby at_117) rfl (pc' := 119) rfl ?_
  refine w_iconst X50 hx (1 : Int32) (Jvm.hb hby at_119) (by decide) (pc' := 120) rfl ?_
  refine w_icmp_gt X50 hx (Jvm.hb hby at_120) (by decide) (pcT := 130) (by decide) (pcF := 123) rfl (fun hmd1 => ?_) (fun hmd1 => ?_)
  · refine w_iload X50 hx (Jvm.hb hby at_130) rfl (pc' := 132) rfl ?_
    refine w_iconst X50 hx (2 : Int32) (Jvm.hb hby at_132) (by decide) (pc' := 133) rfl ?_
    refine w_icmp_ne X50 hx (Jvm.hb hby at_133) (by decide) (pcT := 142) (by decide) (pcF := 136) rfl (fun hmd2 => ?_) (fun hmd2 => ?_)
    · refine w_iloadN X50 hx (Jvm.hb hby at_142) rfl (pc' := 143) rfl ?_
      refine w_callS X50 hx hZ hown (hw _ (List.mem_of_getElem? (i := 27) rfl)) (hw _ (List.mem_of_getElem? (i := 28) rfl)) (hw _ (List.mem_of_getElem? (i := 29) rfl)) (hw _ (List.mem_of_getElem? (i := 30) rfl)) (by decide) (W := 0) (rm5 l Z aw hw [] p0 ca cl T50.heap n0 S50 (SH.ext O50.2) (SC.ext O50.2) (AR.ext O50.2) hs256 (fun j hj => by obtain ⟨b, b1, b2⟩ := AE j hj; exact ⟨b, b1, b2.ext O50.2⟩)) rfl (by decide) (by decide) (by decide) (by decide) (Jvm.hb hby at_143) (by rw [hml]; rfl) (argsL := [(.int p0)]) (rest := []) pd_3 rfl rfl rfl (Nat.le_of_eq rfl) (pc' := 146) rfl ?_
      rintro _ T51 L51 X51 ⟨bb, rfl, N51, K51, EI51⟩
      show Ow p e below s _ _ _ (T51.setTop (mkF m 146 #[.val (.int p0), .val (.int p1), .val (.int p2), .val (.int p3), .val (.int p4), .val (.int p5), .val (.int ks'), .val (.int kr), .val (.int ko), .val (.int md), .val (.int s2), .val (.int r2), .val (.int o2), .val (.ref a47), .val (.ref a49), .unset, .unset, .unset] [(.ref bb)]))
      have MM := Fr.app M50 N51
      have SS1 : n0 ≤ T51.heap.size := Nat.le_trans S50 K51.1
      have C1_subject := R47_50_subject.keep K51 nin0
      have C1_role := R47_50_role.keep K51 nin0
      have C1_object := R47_50_object.keep K51 nin0
      have CE1 := RE47_50.keep K51
      have C2_subject := B50_subject.keep K51 nin0
      have C2_role := B50_role.keep K51 nin0
      have C2_object := B50_object.keep K51 nin0
      have CE2 := E50.keep K51
      refine w_astore X51 hx (Jvm.hb hby at_146) #[.val (.int p0), .val (.int p1), .val (.int p2), .val (.int p3), .val (.int p4), .val (.int p5), .val (.int ks'), .val (.int kr), .val (.int ko), .val (.int md), .val (.int s2), .val (.int r2), .val (.int o2), .val (.ref a47), .val (.ref a49), .val (.ref bb), .unset, .unset] rfl rfl (pc' := 148) rfl ?_
      refine w_iload X51 hx (Jvm.hb hby at_148) rfl (pc' := 150) rfl ?_
      refine w_iconst X51 hx (1 : Int32) (Jvm.hb hby at_150) (by decide) (pc' := 151) rfl ?_
      refine w_icmp_gt X51 hx (Jvm.hb hby at_151) (by decide) (pcT := 176) (by decide) (pcF := 154) rfl (fun _ => ?_) (fun q => absurd hmd1 q)
      refine w_iconst X51 hx (0 : Int32) (Jvm.hb hby at_176) (by decide) (pc' := 177) rfl ?_
      refine w_istore X51 hx (Jvm.hb hby at_177) #[.val (.int p0), .val (.int p1), .val (.int p2), .val (.int p3), .val (.int p4), .val (.int p5), .val (.int ks'), .val (.int kr), .val (.int ko), .val (.int md), .val (.int s2), .val (.int r2), .val (.int o2), .val (.ref a47), .val (.ref a49), .val (.ref bb), .val (.int (0 : Int32)), .unset] rfl  (pc' := 179) rfl ?_
      refine w_aload X51 hx (Jvm.hb hby at_179) rfl rfl (pc' := 181) rfl ?_
      refine w_aload X51 hx (Jvm.hb hby at_181) rfl rfl (pc' := 183) rfl ?_
      refine w_callV X51 hx hZ hown (hw _ (List.mem_of_getElem? (i := 20) rfl)) (hw _ (List.mem_of_getElem? (i := 21) rfl)) (notFace_of_selects (args := #[]) (mvT hZ (hw _ (List.mem_of_getElem? (i := 23) rfl)))) (hw _ (List.mem_of_getElem? (i := 23) rfl)) (hw _ (List.mem_of_getElem? (i := 22) rfl)) (hw _ (List.mem_of_getElem? (i := 2) rfl)) (hw _ (List.mem_of_getElem? (i := 24) rfl)) (by decide) (W := 0) (rm4i l Z aw hw [] a47 bb T51.heap EI51 NO) rfl (by decide) (by decide) (by decide) (by decide) CE1 (Jvm.hb hby at_183) (by rw [hml]; rfl) (argsL := [(.ref bb)]) (rest := []) pd_4 rfl rfl rfl (Nat.le_of_eq rfl) (pc' := 186) rfl ?_
      rintro _ T52 L52 X52 ⟨rfl, e52, rfl⟩
      show Ow p e below s _ _ _ (T52.setTop (mkF m 186 #[.val (.int p0), .val (.int p1), .val (.int p2), .val (.int p3), .val (.int p4), .val (.int p5), .val (.int ks'), .val (.int kr), .val (.int ko), .val (.int md), .val (.int s2), .val (.int r2), .val (.int o2), .val (.ref a47), .val (.ref a49), .val (.ref bb), .val (.int (0 : Int32)), .unset] [(.int (0 : Int32))]))
      refine w_istore X52 hx (Jvm.hb hby at_186) #[.val (.int p0), .val (.int p1), .val (.int p2), .val (.int p3), .val (.int p4), .val (.int p5), .val (.int ks'), .val (.int kr), .val (.int ko), .val (.int md), .val (.int s2), .val (.int r2), .val (.int o2), .val (.ref a47), .val (.ref a49), .val (.ref bb), .val (.int (0 : Int32)), .val (.int (0 : Int32))] rfl  (pc' := 188) rfl ?_
      refine w_iload X52 hx (Jvm.hb hby at_188) rfl (pc' := 190) rfl ?_
      refine w_iload X52 hx (Jvm.hb hby at_190) rfl (pc' := 192) rfl ?_
      refine w_icmp_eq X52 hx (Jvm.hb hby at_192) (by decide) (pcT := 197) (by decide) (pcF := 195) rfl (fun _ => ?_) (fun q => absurd (rfl : (0 : Int32) = 0) q)
      refine w_aload X52 hx (Jvm.hb hby at_197) rfl rfl (pc' := 199) rfl ?_
      refine w_aload X52 hx (Jvm.hb hby at_199) rfl rfl (pc' := 201) rfl ?_
      refine w_callV X52 hx hZ hown (hw _ (List.mem_of_getElem? (i := 20) rfl)) (hw _ (List.mem_of_getElem? (i := 21) rfl)) (notFace_of_selects (args := #[]) (mvT hZ (hw _ (List.mem_of_getElem? (i := 23) rfl)))) (hw _ (List.mem_of_getElem? (i := 23) rfl)) (hw _ (List.mem_of_getElem? (i := 22) rfl)) (hw _ (List.mem_of_getElem? (i := 2) rfl)) (hw _ (List.mem_of_getElem? (i := 24) rfl)) (by decide) (W := 0) (rm4 l Z aw hw [] a47 a47 p0 p1 p2 p0 p1 p2 T51.heap C1_subject C1_role C1_object C1_subject C1_role C1_object CE1) e52 (by decide) (by decide) (by decide) (by decide) CE1 (Jvm.hb hby at_201) (by rw [hml]; rfl) (argsL := [(.ref a47)]) (rest := []) pd_4 rfl rfl rfl (Nat.le_of_eq rfl) (pc' := 204) rfl ?_
      rintro _ T53 L53 X53 ⟨rfl, e53, rfl⟩
      show Ow p e below s _ _ _ (T53.setTop (mkF m 204 #[.val (.int p0), .val (.int p1), .val (.int p2), .val (.int p3), .val (.int p4), .val (.int p5), .val (.int ks'), .val (.int kr), .val (.int ko), .val (.int md), .val (.int s2), .val (.int r2), .val (.int o2), .val (.ref a47), .val (.ref a49), .val (.ref bb), .val (.int (0 : Int32)), .val (.int (0 : Int32))] [(.int (eqE p0 p1 p2 p0 p1 p2))]))
      refine w_if_ne X53 hx (Jvm.hb hby at_204) (by decide) (pcT := 209) (by decide) (pcF := 207) rfl (fun _ => ?_) (fun q => absurd q (own_self p0 p1 p2))
      refine w_iload X53 hx (Jvm.hb hby at_209) rfl (pc' := 211) rfl ?_
      refine w_iconst X53 hx (1 : Int32) (Jvm.hb hby at_211) (by decide) (pc' := 212) rfl ?_
      refine w_icmp_gt X53 hx (Jvm.hb hby at_212) (by decide) (pcT := 249) (by decide) (pcF := 215) rfl (fun _ => ?_) (fun q => absurd hmd1 q)
      refine w_iconst X53 hx (1 : Int32) (Jvm.hb hby at_249) (by decide) (pc' := 250) rfl ?_
      exact w_zreturn X53 hx Bd.returns (Or.inr rfl) (BodyLoose.notSynchronized Bd) (Nat.le_of_ble_eq_true rfl) (Nat.le_of_ble_eq_true rfl) (Jvm.hb hby at_250) ⟨rfl, by simpa using MM⟩
    · refine w_aconst_null X50 hx (Jvm.hb hby at_136) (pc' := 137) rfl ?_
      refine w_astore X50 hx (Jvm.hb hby at_137) #[.val (.int p0), .val (.int p1), .val (.int p2), .val (.int p3), .val (.int p4), .val (.int p5), .val (.int ks'), .val (.int kr), .val (.int ko), .val (.int md), .val (.int s2), .val (.int r2), .val (.int o2), .val (.ref a47), .val (.ref a49), .val .null, .unset, .unset] rfl rfl (pc' := 139) rfl ?_
      refine w_goto X50 hx (Jvm.hb hby at_139) (by decide) (pc' := 148) (by decide) ?_
      refine w_iload X50 hx (Jvm.hb hby at_148) rfl (pc' := 150) rfl ?_
      refine w_iconst X50 hx (1 : Int32) (Jvm.hb hby at_150) (by decide) (pc' := 151) rfl ?_
      refine w_icmp_gt X50 hx (Jvm.hb hby at_151) (by decide) (pcT := 176) (by decide) (pcF := 154) rfl (fun _ => ?_) (fun q => absurd hmd1 q)
      refine w_iconst X50 hx (0 : Int32) (Jvm.hb hby at_176) (by decide) (pc' := 177) rfl ?_
      refine w_istore X50 hx (Jvm.hb hby at_177) #[.val (.int p0), .val (.int p1), .val (.int p2), .val (.int p3), .val (.int p4), .val (.int p5), .val (.int ks'), .val (.int kr), .val (.int ko), .val (.int md), .val (.int s2), .val (.int r2), .val (.int o2), .val (.ref a47), .val (.ref a49), .val .null, .val (.int (0 : Int32)), .unset] rfl  (pc' := 179) rfl ?_
      refine w_aload X50 hx (Jvm.hb hby at_179) rfl rfl (pc' := 181) rfl ?_
      refine w_aload X50 hx (Jvm.hb hby at_181) rfl rfl (pc' := 183) rfl ?_
      refine w_callV X50 hx hZ hown (hw _ (List.mem_of_getElem? (i := 20) rfl)) (hw _ (List.mem_of_getElem? (i := 21) rfl)) (notFace_of_selects (args := #[]) (mvT hZ (hw _ (List.mem_of_getElem? (i := 23) rfl)))) (hw _ (List.mem_of_getElem? (i := 23) rfl)) (hw _ (List.mem_of_getElem? (i := 22) rfl)) (hw _ (List.mem_of_getElem? (i := 2) rfl)) (hw _ (List.mem_of_getElem? (i := 24) rfl)) (by decide) (W := 0) (rm4n l Z aw hw [] a47 T50.heap) rfl (by decide) (by decide) (by decide) (by decide) RE47_50 (Jvm.hb hby at_183) (by rw [hml]; rfl) (argsL := [.null]) (rest := []) pd_4 rfl rfl rfl (Nat.le_of_eq rfl) (pc' := 186) rfl ?_
      rintro _ T54 L54 X54 ⟨rfl, e54, rfl⟩
      show Ow p e below s _ _ _ (T54.setTop (mkF m 186 #[.val (.int p0), .val (.int p1), .val (.int p2), .val (.int p3), .val (.int p4), .val (.int p5), .val (.int ks'), .val (.int kr), .val (.int ko), .val (.int md), .val (.int s2), .val (.int r2), .val (.int o2), .val (.ref a47), .val (.ref a49), .val .null, .val (.int (0 : Int32)), .unset] [(.int (0 : Int32))]))
      refine w_istore X54 hx (Jvm.hb hby at_186) #[.val (.int p0), .val (.int p1), .val (.int p2), .val (.int p3), .val (.int p4), .val (.int p5), .val (.int ks'), .val (.int kr), .val (.int ko), .val (.int md), .val (.int s2), .val (.int r2), .val (.int o2), .val (.ref a47), .val (.ref a49), .val .null, .val (.int (0 : Int32)), .val (.int (0 : Int32))] rfl  (pc' := 188) rfl ?_
      refine w_iload X54 hx (Jvm.hb hby at_188) rfl (pc' := 190) rfl ?_
      refine w_iload X54 hx (Jvm.hb hby at_190) rfl (pc' := 192) rfl ?_
      refine w_icmp_eq X54 hx (Jvm.hb hby at_192) (by decide) (pcT := 197) (by decide) (pcF := 195) rfl (fun _ => ?_) (fun q => absurd (rfl : (0 : Int32) = 0) q)
      refine w_aload X54 hx (Jvm.hb hby at_197) rfl rfl (pc' := 199) rfl ?_
      refine w_aload X54 hx (Jvm.hb hby at_199) rfl rfl (pc' := 201) rfl ?_
      refine w_callV X54 hx hZ hown (hw _ (List.mem_of_getElem? (i := 20) rfl)) (hw _ (List.mem_of_getElem? (i := 21) rfl)) (notFace_of_selects (args := #[]) (mvT hZ (hw _ (List.mem_of_getElem? (i := 23) rfl)))) (hw _ (List.mem_of_getElem? (i := 23) rfl)) (hw _ (List.mem_of_getElem? (i := 22) rfl)) (hw _ (List.mem_of_getElem? (i := 2) rfl)) (hw _ (List.mem_of_getElem? (i := 24) rfl)) (by decide) (W := 0) (rm4 l Z aw hw [] a47 a47 p0 p1 p2 p0 p1 p2 T50.heap R47_50_subject R47_50_role R47_50_object R47_50_subject R47_50_role R47_50_object RE47_50) e54 (by decide) (by decide) (by decide) (by decide) RE47_50 (Jvm.hb hby at_201) (by rw [hml]; rfl) (argsL := [(.ref a47)]) (rest := []) pd_4 rfl rfl rfl (Nat.le_of_eq rfl) (pc' := 204) rfl ?_
      rintro _ T55 L55 X55 ⟨rfl, e55, rfl⟩
      show Ow p e below s _ _ _ (T55.setTop (mkF m 204 #[.val (.int p0), .val (.int p1), .val (.int p2), .val (.int p3), .val (.int p4), .val (.int p5), .val (.int ks'), .val (.int kr), .val (.int ko), .val (.int md), .val (.int s2), .val (.int r2), .val (.int o2), .val (.ref a47), .val (.ref a49), .val .null, .val (.int (0 : Int32)), .val (.int (0 : Int32))] [(.int (eqE p0 p1 p2 p0 p1 p2))]))
      refine w_if_ne X55 hx (Jvm.hb hby at_204) (by decide) (pcT := 209) (by decide) (pcF := 207) rfl (fun _ => ?_) (fun q => absurd q (own_self p0 p1 p2))
      refine w_iload X55 hx (Jvm.hb hby at_209) rfl (pc' := 211) rfl ?_
      refine w_iconst X55 hx (1 : Int32) (Jvm.hb hby at_211) (by decide) (pc' := 212) rfl ?_
      refine w_icmp_gt X55 hx (Jvm.hb hby at_212) (by decide) (pcT := 249) (by decide) (pcF := 215) rfl (fun _ => ?_) (fun q => absurd hmd1 q)
      refine w_iconst X55 hx (1 : Int32) (Jvm.hb hby at_249) (by decide) (pc' := 250) rfl ?_
      exact w_zreturn X55 hx Bd.returns (Or.inr rfl) (BodyLoose.notSynchronized Bd) (Nat.le_of_ble_eq_true rfl) (Nat.le_of_ble_eq_true rfl) (Jvm.hb hby at_250) ⟨rfl, by simpa using M50⟩
  · refine w_aload X50 hx (Jvm.hb hby at_123) rfl rfl (pc' := 125) rfl ?_
    refine w_astore X50 hx (Jvm.hb hby at_125) #[.val (.int p0), .val (.int p1), .val (.int p2), .val (.int p3), .val (.int p4), .val (.int p5), .val (.int ks'), .val (.int kr), .val (.int ko), .val (.int md), .val (.int s2), .val (.int r2), .val (.int o2), .val (.ref a47), .val (.ref a49), .val (.ref a49), .unset, .unset] rfl rfl (pc' := 127) rfl ?_
    refine w_goto X50 hx (Jvm.hb hby at_127) (by decide) (pc' := 148) (by decide) ?_
    refine w_iload X50 hx (Jvm.hb hby at_148) rfl (pc' := 150) rfl ?_
    refine w_iconst X50 hx (1 : Int32) (Jvm.hb hby at_150) (by decide) (pc' := 151) rfl ?_
    refine w_icmp_gt X50 hx (Jvm.hb hby at_151) (by decide) (pcT := 176) (by decide) (pcF := 154) rfl (fun q => absurd q hmd1) (fun _ => ?_)
    obtain ⟨ex, hex⟩ : ∃ v : Int32, v = (if s2 = p0 then (if r2 = p1 then (if o2 = p2 then (1 : Int32) else (0 : Int32)) else (0 : Int32)) else (0 : Int32)) := ⟨_, rfl⟩
    refine Ow.join T50 (mkF m 179 #[.val (.int p0), .val (.int p1), .val (.int p2), .val (.int p3), .val (.int p4), .val (.int p5), .val (.int ks'), .val (.int kr), .val (.int ko), .val (.int md), .val (.int s2), .val (.int r2), .val (.int o2), .val (.ref a47), .val (.ref a49), .val (.ref a49), .val (.int ex), .unset] []) (fun K => ?_) ?_
    · refine w_iload X50 hx (Jvm.hb hby at_154) rfl (pc' := 156) rfl ?_
      refine w_iloadN X50 hx (Jvm.hb hby at_156) rfl (pc' := 157) rfl ?_
      refine w_icmp_ne X50 hx (Jvm.hb hby at_157) (by decide) (pcT := 176) (by decide) (pcF := 160) rfl (fun hj157_0 => ?_) (fun hj157_0 => ?_)
      · refine w_iconst X50 hx (0 : Int32) (Jvm.hb hby at_176) (by decide) (pc' := 177) rfl ?_
        refine w_istore X50 hx (Jvm.hb hby at_177) #[.val (.int p0), .val (.int p1), .val (.int p2), .val (.int p3), .val (.int p4), .val (.int p5), .val (.int ks'), .val (.int kr), .val (.int ko), .val (.int md), .val (.int s2), .val (.int r2), .val (.int o2), .val (.ref a47), .val (.ref a49), .val (.ref a49), .val (.int (0 : Int32)), .unset] rfl  (pc' := 179) rfl ?_
        rw [hex, if_neg hj157_0] at K; exact K
      · refine w_iload X50 hx (Jvm.hb hby at_160) rfl (pc' := 162) rfl ?_
        refine w_iloadN X50 hx (Jvm.hb hby at_162) rfl (pc' := 163) rfl ?_
        refine w_icmp_ne X50 hx (Jvm.hb hby at_163) (by decide) (pcT := 176) (by decide) (pcF := 166) rfl (fun hj163_1 => ?_) (fun hj163_1 => ?_)
        · refine w_iconst X50 hx (0 : Int32) (Jvm.hb hby at_176) (by decide) (pc' := 177) rfl ?_
          refine w_istore X50 hx (Jvm.hb hby at_177) #[.val (.int p0), .val (.int p1), .val (.int p2), .val (.int p3), .val (.int p4), .val (.int p5), .val (.int ks'), .val (.int kr), .val (.int ko), .val (.int md), .val (.int s2), .val (.int r2), .val (.int o2), .val (.ref a47), .val (.ref a49), .val (.ref a49), .val (.int (0 : Int32)), .unset] rfl  (pc' := 179) rfl ?_
          rw [hex, if_pos hj157_0, if_neg hj163_1] at K; exact K
        · refine w_iload X50 hx (Jvm.hb hby at_166) rfl (pc' := 168) rfl ?_
          refine w_iloadN X50 hx (Jvm.hb hby at_168) rfl (pc' := 169) rfl ?_
          refine w_icmp_ne X50 hx (Jvm.hb hby at_169) (by decide) (pcT := 176) (by decide) (pcF := 172) rfl (fun hj169_2 => ?_) (fun hj169_2 => ?_)
          · refine w_iconst X50 hx (0 : Int32) (Jvm.hb hby at_176) (by decide) (pc' := 177) rfl ?_
            refine w_istore X50 hx (Jvm.hb hby at_177) #[.val (.int p0), .val (.int p1), .val (.int p2), .val (.int p3), .val (.int p4), .val (.int p5), .val (.int ks'), .val (.int kr), .val (.int ko), .val (.int md), .val (.int s2), .val (.int r2), .val (.int o2), .val (.ref a47), .val (.ref a49), .val (.ref a49), .val (.int (0 : Int32)), .unset] rfl  (pc' := 179) rfl ?_
            rw [hex, if_pos hj157_0, if_pos hj163_1, if_neg hj169_2] at K; exact K
          · refine w_iconst X50 hx (1 : Int32) (Jvm.hb hby at_172) (by decide) (pc' := 173) rfl ?_
            refine w_goto X50 hx (Jvm.hb hby at_173) (by decide) (pc' := 177) (by decide) ?_
            refine w_istore X50 hx (Jvm.hb hby at_177) #[.val (.int p0), .val (.int p1), .val (.int p2), .val (.int p3), .val (.int p4), .val (.int p5), .val (.int ks'), .val (.int kr), .val (.int ko), .val (.int md), .val (.int s2), .val (.int r2), .val (.int o2), .val (.ref a47), .val (.ref a49), .val (.ref a49), .val (.int (1 : Int32)), .unset] rfl  (pc' := 179) rfl ?_
            rw [hex, if_pos hj157_0, if_pos hj163_1, if_pos hj169_2] at K; exact K
    refine w_aload X50 hx (Jvm.hb hby at_179) rfl rfl (pc' := 181) rfl ?_
    refine w_aload X50 hx (Jvm.hb hby at_181) rfl rfl (pc' := 183) rfl ?_
    refine w_callV X50 hx hZ hown (hw _ (List.mem_of_getElem? (i := 20) rfl)) (hw _ (List.mem_of_getElem? (i := 21) rfl)) (notFace_of_selects (args := #[]) (mvT hZ (hw _ (List.mem_of_getElem? (i := 23) rfl)))) (hw _ (List.mem_of_getElem? (i := 23) rfl)) (hw _ (List.mem_of_getElem? (i := 22) rfl)) (hw _ (List.mem_of_getElem? (i := 2) rfl)) (hw _ (List.mem_of_getElem? (i := 24) rfl)) (by decide) (W := 0) (rm4 l Z aw hw [] a47 a49 p0 p1 p2 s2 r2 o2 T50.heap R47_50_subject R47_50_role R47_50_object B50_subject B50_role B50_object E50) rfl (by decide) (by decide) (by decide) (by decide) RE47_50 (Jvm.hb hby at_183) (by rw [hml]; rfl) (argsL := [(.ref a49)]) (rest := []) pd_4 rfl rfl rfl (Nat.le_of_eq rfl) (pc' := 186) rfl ?_
    rintro _ T56 L56 X56 ⟨rfl, e56, rfl⟩
    show Ow p e below s _ _ _ (T56.setTop (mkF m 186 #[.val (.int p0), .val (.int p1), .val (.int p2), .val (.int p3), .val (.int p4), .val (.int p5), .val (.int ks'), .val (.int kr), .val (.int ko), .val (.int md), .val (.int s2), .val (.int r2), .val (.int o2), .val (.ref a47), .val (.ref a49), .val (.ref a49), .val (.int ex), .unset] [(.int (eqE p0 p1 p2 s2 r2 o2))]))
    refine w_istore X56 hx (Jvm.hb hby at_186) #[.val (.int p0), .val (.int p1), .val (.int p2), .val (.int p3), .val (.int p4), .val (.int p5), .val (.int ks'), .val (.int kr), .val (.int ko), .val (.int md), .val (.int s2), .val (.int r2), .val (.int o2), .val (.ref a47), .val (.ref a49), .val (.ref a49), .val (.int ex), .val (.int (eqE p0 p1 p2 s2 r2 o2))] rfl  (pc' := 188) rfl ?_
    refine w_iload X56 hx (Jvm.hb hby at_188) rfl (pc' := 190) rfl ?_
    refine w_iload X56 hx (Jvm.hb hby at_190) rfl (pc' := 192) rfl ?_
    refine w_icmp_eq X56 hx (Jvm.hb hby at_192) (by decide) (pcT := 197) (by decide) (pcF := 195) rfl (fun _ => ?_) (fun q => absurd (own_ex p0 p1 p2 s2 r2 o2 ex hex) q)
    refine w_aload X56 hx (Jvm.hb hby at_197) rfl rfl (pc' := 199) rfl ?_
    refine w_aload X56 hx (Jvm.hb hby at_199) rfl rfl (pc' := 201) rfl ?_
    refine w_callV X56 hx hZ hown (hw _ (List.mem_of_getElem? (i := 20) rfl)) (hw _ (List.mem_of_getElem? (i := 21) rfl)) (notFace_of_selects (args := #[]) (mvT hZ (hw _ (List.mem_of_getElem? (i := 23) rfl)))) (hw _ (List.mem_of_getElem? (i := 23) rfl)) (hw _ (List.mem_of_getElem? (i := 22) rfl)) (hw _ (List.mem_of_getElem? (i := 2) rfl)) (hw _ (List.mem_of_getElem? (i := 24) rfl)) (by decide) (W := 0) (rm4 l Z aw hw [] a47 a47 p0 p1 p2 p0 p1 p2 T50.heap R47_50_subject R47_50_role R47_50_object R47_50_subject R47_50_role R47_50_object RE47_50) e56 (by decide) (by decide) (by decide) (by decide) RE47_50 (Jvm.hb hby at_201) (by rw [hml]; rfl) (argsL := [(.ref a47)]) (rest := []) pd_4 rfl rfl rfl (Nat.le_of_eq rfl) (pc' := 204) rfl ?_
    rintro _ T57 L57 X57 ⟨rfl, e57, rfl⟩
    show Ow p e below s _ _ _ (T57.setTop (mkF m 204 #[.val (.int p0), .val (.int p1), .val (.int p2), .val (.int p3), .val (.int p4), .val (.int p5), .val (.int ks'), .val (.int kr), .val (.int ko), .val (.int md), .val (.int s2), .val (.int r2), .val (.int o2), .val (.ref a47), .val (.ref a49), .val (.ref a49), .val (.int ex), .val (.int (eqE p0 p1 p2 s2 r2 o2))] [(.int (eqE p0 p1 p2 p0 p1 p2))]))
    refine w_if_ne X57 hx (Jvm.hb hby at_204) (by decide) (pcT := 209) (by decide) (pcF := 207) rfl (fun _ => ?_) (fun q => absurd q (own_self p0 p1 p2))
    refine w_iload X57 hx (Jvm.hb hby at_209) rfl (pc' := 211) rfl ?_
    refine w_iconst X57 hx (1 : Int32) (Jvm.hb hby at_211) (by decide) (pc' := 212) rfl ?_
    refine w_icmp_gt X57 hx (Jvm.hb hby at_212) (by decide) (pcT := 249) (by decide) (pcF := 215) rfl (fun q => absurd q hmd1) (fun _ => ?_)
    refine w_aload X57 hx (Jvm.hb hby at_215) rfl rfl (pc' := 217) rfl ?_
    refine w_aload X57 hx (Jvm.hb hby at_217) rfl rfl (pc' := 219) rfl ?_
    refine w_callV X57 hx hZ hown (hw _ (List.mem_of_getElem? (i := 20) rfl)) (hw _ (List.mem_of_getElem? (i := 21) rfl)) (notFace_of_selects (args := #[]) (mvT hZ (hw _ (List.mem_of_getElem? (i := 23) rfl)))) (hw _ (List.mem_of_getElem? (i := 23) rfl)) (hw _ (List.mem_of_getElem? (i := 22) rfl)) (hw _ (List.mem_of_getElem? (i := 2) rfl)) (hw _ (List.mem_of_getElem? (i := 24) rfl)) (by decide) (W := 0) (rm4 l Z aw hw [] a49 a47 s2 r2 o2 p0 p1 p2 T50.heap B50_subject B50_role B50_object R47_50_subject R47_50_role R47_50_object RE47_50) e57 (by decide) (by decide) (by decide) (by decide) E50 (Jvm.hb hby at_219) (by rw [hml]; rfl) (argsL := [(.ref a47)]) (rest := []) pd_4 rfl rfl rfl (Nat.le_of_eq rfl) (pc' := 222) rfl ?_
    rintro _ T58 L58 X58 ⟨rfl, e58, rfl⟩
    show Ow p e below s _ _ _ (T58.setTop (mkF m 222 #[.val (.int p0), .val (.int p1), .val (.int p2), .val (.int p3), .val (.int p4), .val (.int p5), .val (.int ks'), .val (.int kr), .val (.int ko), .val (.int md), .val (.int s2), .val (.int r2), .val (.int o2), .val (.ref a47), .val (.ref a49), .val (.ref a49), .val (.int ex), .val (.int (eqE p0 p1 p2 s2 r2 o2))] [(.int (eqE s2 r2 o2 p0 p1 p2))]))
    refine w_iload X58 hx (Jvm.hb hby at_222) rfl (pc' := 224) rfl ?_
    refine w_icmp_eq X58 hx (Jvm.hb hby at_224) (by decide) (pcT := 229) (by decide) (pcF := 227) rfl (fun _ => ?_) (fun q => absurd (own_sym s2 r2 o2 p0 p1 p2) q)
    refine w_iload X58 hx (Jvm.hb hby at_229) rfl (pc' := 231) rfl ?_
    refine w_if_eq X58 hx (Jvm.hb hby at_231) (by decide) (pcT := 249) (by decide) (pcF := 234) rfl (fun hg => ?_) (fun hg => ?_)
    · refine w_iconst X58 hx (1 : Int32) (Jvm.hb hby at_249) (by decide) (pc' := 250) rfl ?_
      exact w_zreturn X58 hx Bd.returns (Or.inr rfl) (BodyLoose.notSynchronized Bd) (Nat.le_of_ble_eq_true rfl) (Nat.le_of_ble_eq_true rfl) (Jvm.hb hby at_250) ⟨rfl, by simpa using M50⟩
    · refine w_aload X58 hx (Jvm.hb hby at_234) rfl rfl (pc' := 236) rfl ?_
      refine w_callV X58 hx hZ hown (hw _ (List.mem_of_getElem? (i := 37) rfl)) (hw _ (List.mem_of_getElem? (i := 38) rfl)) (notFace_of_selects (args := #[]) (mvT hZ (hw _ (List.mem_of_getElem? (i := 40) rfl)))) (hw _ (List.mem_of_getElem? (i := 40) rfl)) (hw _ (List.mem_of_getElem? (i := 39) rfl)) (hw _ (List.mem_of_getElem? (i := 2) rfl)) (hw _ (List.mem_of_getElem? (i := 41) rfl)) (by decide) (W := 0) (rm6 l Z aw hw [] a47 p0 p1 p2 T50.heap R47_50_subject R47_50_role R47_50_object) e58 (by decide) (by decide) (by decide) (by decide) RE47_50 (Jvm.hb hby at_236) (by rw [hml]; rfl) (argsL := []) (rest := []) pd_5 rfl rfl rfl (Nat.le_of_eq rfl) (pc' := 239) rfl ?_
      rintro _ T59 L59 X59 ⟨rfl, e59, rfl⟩
      show Ow p e below s _ _ _ (T59.setTop (mkF m 239 #[.val (.int p0), .val (.int p1), .val (.int p2), .val (.int p3), .val (.int p4), .val (.int p5), .val (.int ks'), .val (.int kr), .val (.int ko), .val (.int md), .val (.int s2), .val (.int r2), .val (.int o2), .val (.ref a47), .val (.ref a49), .val (.ref a49), .val (.int ex), .val (.int (eqE p0 p1 p2 s2 r2 o2))] [(.int (hsh p0 p1 p2))]))
      refine w_aload X59 hx (Jvm.hb hby at_239) rfl rfl (pc' := 241) rfl ?_
      refine w_callV X59 hx hZ hown (hw _ (List.mem_of_getElem? (i := 37) rfl)) (hw _ (List.mem_of_getElem? (i := 38) rfl)) (notFace_of_selects (args := #[]) (mvT hZ (hw _ (List.mem_of_getElem? (i := 40) rfl)))) (hw _ (List.mem_of_getElem? (i := 40) rfl)) (hw _ (List.mem_of_getElem? (i := 39) rfl)) (hw _ (List.mem_of_getElem? (i := 2) rfl)) (hw _ (List.mem_of_getElem? (i := 41) rfl)) (by decide) (W := 1) (rm6 l Z aw hw [] a49 s2 r2 o2 T50.heap B50_subject B50_role B50_object) e59 (by decide) (by decide) (by decide) (by decide) E50 (Jvm.hb hby at_241) (by rw [hml]; rfl) (argsL := []) (rest := [(.int (hsh p0 p1 p2))]) pd_5 rfl rfl rfl (Nat.le_of_eq rfl) (pc' := 244) rfl ?_
      rintro _ T60 L60 X60 ⟨rfl, e60, rfl⟩
      show Ow p e below s _ _ _ (T60.setTop (mkF m 244 #[.val (.int p0), .val (.int p1), .val (.int p2), .val (.int p3), .val (.int p4), .val (.int p5), .val (.int ks'), .val (.int kr), .val (.int ko), .val (.int md), .val (.int s2), .val (.int r2), .val (.int o2), .val (.ref a47), .val (.ref a49), .val (.ref a49), .val (.int ex), .val (.int (eqE p0 p1 p2 s2 r2 o2))] [(.int (hsh s2 r2 o2)), (.int (hsh p0 p1 p2))]))
      refine w_icmp_eq X60 hx (Jvm.hb hby at_244) (by decide) (pcT := 249) (by decide) (pcF := 247) rfl (fun _ => ?_) (fun q => absurd (own_hash p0 p1 p2 s2 r2 o2 hg) q)
      refine w_iconst X60 hx (1 : Int32) (Jvm.hb hby at_249) (by decide) (pc' := 250) rfl ?_
      exact w_zreturn X60 hx Bd.returns (Or.inr rfl) (BodyLoose.notSynchronized Bd) (Nat.le_of_ble_eq_true rfl) (Nat.le_of_ble_eq_true rfl) (Jvm.hb hby at_250) ⟨rfl, by simpa using M50⟩
set_option maxRecDepth 65536 in
set_option maxHeartbeats 40000000 in
theorem comes_1 {Post : Tables → Env → Array Value → State → Outcome → State → Prop} (hpost : ∀ tb e args s v u, (limb_1_1.after args s (.returned v) u = true ∧ limb_1_2.after args s (.returned v) u = true ∧ True) → FrameEnd s (.returned v) u (Jvm.fieldLocs frame_1_writes args s ++ Jvm.arrayLocs frame_1_arrays args s ++ Jvm.staticLocs frame_1_statics s) 16 128 → Post tb e args s (.returned v) u) :
    ArmFor flags0 classFile x code maxLocals ret World_1 tables_1 room_1 Calls_1 rest_1 Pre_1 Post := by
  intro l hfl _ _ p e ha hc hk s m args below hf hA hF happ hP
  obtain ⟨hcalls, hrest, hpre⟩ := hP
  obtain ⟨-, -, -, hnamed, -, -, -, hat⟩ := (Spec.applies_iff hf).mp happ
  obtain ⟨hg, hn⟩ := and_e (Cond.before_iff.mp (show (Jvm.Cond.and given_1 narrow_1).before args s = true from hpre))
  obtain ⟨g1, g2⟩ := and_e hg
  obtain ⟨g3, g4⟩ := and_e g2
  obtain ⟨g5, g6⟩ := and_e g4
  obtain ⟨g7, g8⟩ := and_e g6
  obtain ⟨g9, g10⟩ := and_e g8
  obtain ⟨g11, g12⟩ := and_e g10
  obtain ⟨w0, w1, w2, w3, w4, w5, rfl⟩ : ∃ w0 w1 w2 w3 w4 w5 : Value, args = #[w0, w1, w2, w3, w4, w5] := by
    have hs : args.size = 6 := by simpa [Cond.value, given_1] using g1
    obtain ⟨L⟩ := args
    match L, hs with
    | [w0, w1, w2, w3, w4, w5], _ => exact ⟨w0, w1, w2, w3, w4, w5, rfl⟩
  have hw := fun d (hd : d ∈ tables_1) => atoms_spec (ws := Jvm.Cond.code x code maxLocals ret :: tables_1) hat d (List.mem_cons_of_mem _ hd)
  obtain ⟨hsets, hown0⟩ := atoms_of _ (rest_1_c_eq ▸ (show rest_1_c.before _ s = true from hrest))
  have SH : Sta s s.heap "java/lang/Integer$IntegerCache" "high" "I" (.int (127 : Int32)) := Sta.start (eqv_i (Term.int_eval 127) (Cond.before_iff.mp (hsets _ (List.mem_of_getElem? (i := 3) rfl)))) (Or.inl (hsets _ (List.mem_of_getElem? (i := 1) rfl)))
  obtain ⟨ca, eca⟩ := arr_v (Cond.before_iff.mp (hsets _ (List.mem_of_getElem? (i := 4) rfl)))
  obtain ⟨cl, AR⟩ := Arr.start eca (Cond.before_iff.mp (hsets _ (List.mem_of_getElem? (i := 4) rfl)))
  have SC : Sta s s.heap "java/lang/Integer$IntegerCache" "cache" "[Ljava/lang/Integer;" (.ref ca) := Sta.start eca (Or.inr ⟨(hw _ (List.mem_of_getElem? (i := 32) rfl)), (hsets _ (List.mem_of_getElem? (i := 2) rfl))⟩)
  obtain ⟨hq, hz256⟩ := own_len256 eca AR (Cond.before_iff.mp (hsets _ (List.mem_of_getElem? (i := 6) rfl)))
  have BX := Bxs.start (z := (256 : Int32)) (fun _ => eca) AR hq hz256 (by decide) (Cond.before_iff.mp (hsets _ (List.mem_of_getElem? (i := 7) rfl))) (val := fun j => .int (j - 128)) (fun X j hj hh => eqv_i (own_sub128 hj) hh)
  have hs256 : cl.slots.size = 256 := BX.2.1
  have AE : ∀ j : Int32, ¬ (j < 0 ∨ cl.slots.size ≤ j.toNatClampNeg) → ∃ b : Addr, cl.slots[j.toNatClampNeg]? = some (.ref b) ∧ Exa s s.heap b "java/lang/Integer" := fun j hj => by obtain ⟨b, b1, b2, -⟩ := BX.2.2.2 j hj; exact ⟨b, b1, b2⟩
  have NO := own_notEdge (Z := s) (hw _ (List.mem_of_getElem? (i := 34) rfl)) (hw _ (List.mem_of_getElem? (i := 35) rfl)) (hw _ (List.mem_of_getElem? (i := 36) rfl)) (hw _ (List.mem_of_getElem? (i := 1) rfl))
  obtain ⟨i0, ei0⟩ := is_v g3
  obtain rfl : w0 = (.int i0) := Option.some.inj ei0
  obtain ⟨i1, ei1⟩ := is_v g5
  obtain rfl : w1 = (.int i1) := Option.some.inj ei1
  obtain ⟨i2, ei2⟩ := is_v g7
  obtain rfl : w2 = (.int i2) := Option.some.inj ei2
  obtain ⟨i3, ei3⟩ := is_v g9
  obtain rfl : w3 = (.int i3) := Option.some.inj ei3
  obtain ⟨i4, ei4⟩ := is_v g11
  obtain rfl : w4 = (.int i4) := Option.some.inj ei4
  obtain ⟨i5, ei5⟩ := is_v g12
  obtain rfl : w5 = (.int i5) := Option.some.inj ei5
  obtain ⟨n, o, h1, h2, h3, _, L, rfl, ⟨rfl, N⟩, hq⟩ := rm0 l s _ hw tables_1 i0 i1 i2 i3 i4 i5 ca cl s.heap s.heap.size (Nat.le_refl _) (Old.start s) SH SC AR hs256 AE NO p e ha hc hk s m _ below hf ((Spec.applies_iff_loose hf).mp happ).1 ⟨rfl, State.Warmed39.refl s, rfl⟩ trivial
  refine ⟨n, _, h1, h2, h3, hpost _ _ _ _ _ _ ⟨Cond.after_iff.mpr rfl, Cond.after_iff.mpr (eq_i res_at (Term.int_eval (1)) rfl), trivial⟩ ⟨hq.1, hq.2.1, (hq.2.2.sift fun y hy => Or.inr (N y hy)).mono (by decide) (by decide)⟩⟩
theorem main_1_1 : Claimed_1_1 := comes_1 fun _ _ _ _ _ _ h hF => ⟨h.1, hF⟩
theorem main_1_2 : Claimed_1_2 := comes_1 fun _ _ _ _ _ _ h hF => ⟨h.2.1, hF⟩
end Jvm.Pilot.@@N@@
namespace Jvm.Pilot.@@N@@
open Jvm Jvm.ClassFile Sem Op Lib Jvm.Free Jvm.Stand Jvm.Pilot.@@N@@.Jvm.D
/-! MADE BY PROGRAM (witnessworld.py) out of the Statement's table words and the real class files: 17 classes; the members and pool entries that the words name. The judged class is class 1, her method 1. -/
namespace start1
open Jvm.ClassFile
def u (s : String) : CpInfo := .utf8 (stringToUtf16 s)
/-- a pool by its gaps: so many unusable entries, then the entry; so many at the end -/
def gap : Nat → List CpInfo → List CpInfo
  | 0, r => r
  | n + 1, r => .unusable :: gap n r
def poolList (es : List (Nat × CpInfo)) (last : Nat) : List CpInfo := es.foldr (fun e r => gap e.1 (e.2 :: r)) (gap last [])
def pool (es : List (Nat × CpInfo)) (last : Nat) : Array CpInfo := ⟨poolList es last⟩
def fileOf (pool : Array CpInfo) (this : Nat) (attrs : Array Attribute := #[]) (ms : Array MethodInfo := #[]) (fl : Nat := 33) (sup : Nat := 0) (ifs : Array Nat := #[]) (fds : Array FieldInfo := #[]) : ClassFile where
  minorVersion := 0
  majorVersion := 65
  constantPool := pool
  accessFlags := fl
  thisClass := this
  superClass := sup
  interfaces := ifs
  fields := fds
  methods := ms
  attributes := attrs
def plain (name : String) (sup : Option ClassId) : Class where
  name := name
  kind := .ordinary
  loader := none
  accessFlags := 33
  super := sup
  interfaces := #[]
  cf := none
  fields := #[]
  methods := #[]
  instanceTypes := #[]
  staticTypes := #[]
  resolved := #[]
  callSites := []
  init := .initialized
  statics := none
  mirror := none

def pool0 : Array CpInfo := pool [(5, u "<init>"), (0, u "()V"), (1, .class_ 10), (1, u "java/lang/Object")] 113

def k0c0 : Code := { maxStack := 0, maxLocals := 1, code := object_method_1_code, exceptionTable := #[], attributes := #[] }
def k0m0 : Method := { name := "<init>", desc := "()V", sig := { parameters := [], returnType := none }, accessFlags := 1, code := some k0c0 }
/-- java/lang/Object -/
def k0 : Class := { plain "java/lang/Object" none with
  accessFlags := 33
  interfaces := #[]
  cf := some (fileOf pool0 8 #[] #[{ accessFlags := 1, nameIndex := 5, descriptorIndex := 6, attributes := #[] }] 33 0 #[] #[])
  fields := #[]
  methods := #[k0m0]
  instanceTypes := #[]
  staticTypes := #[]
  resolved := Array.replicate 124 none
  statics := none }

def pool1 : Array CpInfo := pool [(2, .class_ 4), (1, u "java/lang/Object"), (0, u "<init>"), (0, u "()V"), (0, .class_ 8), (0, u "com/example/hierarchy_from_axioms/hierarchyfromaxioms/reasoner/Abox$Edge"), (0, .methodref 7 10), (0, .nameAndType 5 11), (0, u "(III)V"), (0, .methodref 13 14), (0, .class_ 15), (0, .nameAndType 16 17), (0, u "java/lang/Integer"), (0, u "valueOf"), (0, u "(I)Ljava/lang/Integer;"), (0, .methodref 7 19), (0, .nameAndType 20 21), (0, u "equals"), (0, u "(Ljava/lang/Object;)Z"), (0, .methodref 7 23), (0, .nameAndType 24 25), (0, u "hashCode"), (0, u "()I"), (0, .class_ 27), (0, u "com/example/hierarchy_from_axioms/hierarchyfromaxioms/reasoner/EdgeEqualsPinLaw"), (2, u "law"), (0, u "(IIIIII)Z")] 7

def k1m0 : Method := { name := "<init>", desc := "()V", sig := { parameters := [], returnType := none }, accessFlags := 1, code := none }
def k1c1 : Code := { maxStack := 5, maxLocals := 18, code := code, exceptionTable := #[], attributes := #[] }
def k1m1 : Method := { name := "law", desc := "(IIIIII)Z", sig := { parameters := [.int, .int, .int, .int, .int, .int], returnType := some .boolean }, accessFlags := 9, code := some k1c1 }
/-- com/example/hierarchy_from_axioms/hierarchyfromaxioms/reasoner/EdgeEqualsPinLaw -/
def k1 : Class := { plain "com/example/hierarchy_from_axioms/hierarchyfromaxioms/reasoner/EdgeEqualsPinLaw" (some 0) with
  accessFlags := 49
  interfaces := #[]
  cf := some (fileOf pool1 26 #[] #[{ accessFlags := 1, nameIndex := 5, descriptorIndex := 6, attributes := #[] }, { accessFlags := 9, nameIndex := 30, descriptorIndex := 31, attributes := #[] }] 49 2 #[] #[])
  fields := #[]
  methods := #[k1m0, k1m1]
  instanceTypes := #[]
  staticTypes := #[]
  resolved := Array.replicate 39 none
  statics := none }

def pool2 : Array CpInfo := pool [(1, .methodref 2 3), (0, .class_ 4), (0, .nameAndType 5 6), (0, u "java/lang/Object"), (0, u "<init>"), (0, u "()V"), (0, .class_ 8), (0, u "java/lang/Record")] 13

def k2c0 : Code := { maxStack := 1, maxLocals := 1, code := jdk_30_method_1_code, exceptionTable := #[], attributes := #[] }
def k2m0 : Method := { name := "<init>", desc := "()V", sig := { parameters := [], returnType := none }, accessFlags := 4, code := some k2c0 }
/-- java/lang/Record -/
def k2 : Class := { plain "java/lang/Record" (some 0) with
  accessFlags := 1057
  interfaces := #[]
  cf := some (fileOf pool2 7 #[] #[{ accessFlags := 4, nameIndex := 5, descriptorIndex := 6, attributes := #[] }] 1057 2 #[] #[])
  fields := #[]
  methods := #[k2m0]
  instanceTypes := #[]
  staticTypes := #[]
  resolved := Array.replicate 22 none
  statics := none }

def pool3 : Array CpInfo := pool [(1, .methodref 2 3), (0, .class_ 4), (0, .nameAndType 5 6), (0, u "java/lang/Record"), (0, u "<init>"), (0, u "()V"), (0, .fieldref 8 9), (0, .class_ 10), (0, .nameAndType 11 12), (0, u "com/example/hierarchy_from_axioms/hierarchyfromaxioms/reasoner/Abox$Edge"), (0, u "subject"), (0, u "I"), (0, .fieldref 8 14), (0, .nameAndType 15 12), (0, u "role"), (0, .fieldref 8 17), (0, .nameAndType 18 12), (0, u "object"), (4, u "(III)V"), (3, u "equals"), (0, u "(Ljava/lang/Object;)Z"), (1, u "hashCode"), (0, u "()I"), (4, .class_ 37), (0, u "com/example/hierarchy_from_axioms/hierarchyfromaxioms/reasoner/Abox")] 21

def k3c0 : Code := { maxStack := 2, maxLocals := 4, code := prog_38_method_1_code, exceptionTable := #[], attributes := #[] }
def k3m0 : Method := { name := "<init>", desc := "(III)V", sig := { parameters := [.int, .int, .int], returnType := none }, accessFlags := 0, code := some k3c0 }
def k3c1 : Code := { maxStack := 2, maxLocals := 3, code := prog_38_method_2_code, exceptionTable := #[], attributes := #[] }
def k3m1 : Method := { name := "equals", desc := "(Ljava/lang/Object;)Z", sig := { parameters := [(.object "java/lang/Object")], returnType := some .boolean }, accessFlags := 1, code := some k3c1 }
def k3c2 : Code := { maxStack := 2, maxLocals := 1, code := prog_38_method_3_code, exceptionTable := #[], attributes := #[] }
def k3m2 : Method := { name := "hashCode", desc := "()I", sig := { parameters := [], returnType := some .int }, accessFlags := 1, code := some k3c2 }
/-- com/example/hierarchy_from_axioms/hierarchyfromaxioms/reasoner/Abox$Edge -/
def k3 : Class := { plain "com/example/hierarchy_from_axioms/hierarchyfromaxioms/reasoner/Abox$Edge" (some 2) with
  accessFlags := 48
  interfaces := #[]
  cf := some (fileOf pool3 8 #[.nestHost 36] #[{ accessFlags := 0, nameIndex := 5, descriptorIndex := 23, attributes := #[] }, { accessFlags := 1, nameIndex := 27, descriptorIndex := 28, attributes := #[] }, { accessFlags := 1, nameIndex := 30, descriptorIndex := 31, attributes := #[] }] 48 2 #[] #[{ accessFlags := 18, nameIndex := 11, descriptorIndex := 12, attributes := #[] }, { accessFlags := 18, nameIndex := 15, descriptorIndex := 12, attributes := #[] }, { accessFlags := 18, nameIndex := 18, descriptorIndex := 12, attributes := #[] }])
  fields := #[{ name := "subject", type := .int, accessFlags := 18, slot := 0, constantValue := 0 }, { name := "role", type := .int, accessFlags := 18, slot := 1, constantValue := 0 }, { name := "object", type := .int, accessFlags := 18, slot := 2, constantValue := 0 }]
  methods := #[k3m0, k3m1, k3m2]
  instanceTypes := #[.int, .int, .int]
  staticTypes := #[]
  resolved := Array.replicate 59 none
  statics := none }

def pool4 : Array CpInfo := pool [(1, .class_ 2), (0, u "java/io/Serializable"), (0, .class_ 4), (0, u "java/lang/Object")] 2

/-- java/io/Serializable -/
def k4 : Class := { plain "java/io/Serializable" (some 0) with
  accessFlags := 1537
  interfaces := #[]
  cf := some (fileOf pool4 1 #[] #[] 1537 3 #[] #[])
  fields := #[]
  methods := #[]
  instanceTypes := #[]
  staticTypes := #[]
  resolved := Array.replicate 7 none
  statics := none }

def pool5 : Array CpInfo := pool [(1, .methodref 2 3), (0, .class_ 4), (0, .nameAndType 5 6), (0, u "java/lang/Object"), (0, u "<init>"), (0, u "()V"), (1, .class_ 10), (1, u "java/lang/Number"), (2, .class_ 14), (0, u "java/io/Serializable"), (0, u "serialVersionUID"), (0, u "J")] 20

def k5c0 : Code := { maxStack := 1, maxLocals := 1, code := jdk_18_method_1_code, exceptionTable := #[], attributes := #[] }
def k5m0 : Method := { name := "<init>", desc := "()V", sig := { parameters := [], returnType := none }, accessFlags := 1, code := some k5c0 }
/-- java/lang/Number -/
def k5 : Class := { plain "java/lang/Number" (some 0) with
  accessFlags := 1057
  interfaces := #[4]
  cf := some (fileOf pool5 8 #[] #[{ accessFlags := 1, nameIndex := 5, descriptorIndex := 6, attributes := #[] }] 1057 2 #[13] #[{ accessFlags := 26, nameIndex := 15, descriptorIndex := 16, attributes := #[] }])
  fields := #[{ name := "serialVersionUID", type := .long, accessFlags := 26, slot := 0, constantValue := 0 }]
  methods := #[k5m0]
  instanceTypes := #[]
  staticTypes := #[.long]
  resolved := Array.replicate 37 none
  statics := none }

def pool6 : Array CpInfo := pool [(1, .class_ 2), (0, u "java/lang/Comparable"), (0, .class_ 4), (0, u "java/lang/Object")] 7

/-- java/lang/Comparable -/
def k6 : Class := { plain "java/lang/Comparable" (some 0) with
  accessFlags := 1537
  interfaces := #[]
  cf := some (fileOf pool6 1 #[] #[] 1537 3 #[] #[])
  fields := #[]
  methods := #[]
  instanceTypes := #[]
  staticTypes := #[]
  resolved := Array.replicate 12 none
  statics := none }

def pool7 : Array CpInfo := pool [(1, .class_ 2), (0, u "java/lang/constant/Constable"), (0, .class_ 4), (0, u "java/lang/Object")] 6

/-- java/lang/constant/Constable -/
def k7 : Class := { plain "java/lang/constant/Constable" (some 0) with
  accessFlags := 1537
  interfaces := #[]
  cf := some (fileOf pool7 1 #[] #[] 1537 3 #[] #[])
  fields := #[]
  methods := #[]
  instanceTypes := #[]
  staticTypes := #[]
  resolved := Array.replicate 11 none
  statics := none }

def pool8 : Array CpInfo := pool [(1, .class_ 2), (0, u "java/lang/constant/ConstantDesc"), (0, .class_ 4), (0, u "java/lang/Object")] 32

/-- java/lang/constant/ConstantDesc -/
def k8 : Class := { plain "java/lang/constant/ConstantDesc" (some 0) with
  accessFlags := 1537
  interfaces := #[]
  cf := some (fileOf pool8 1 #[] #[] 1537 3 #[] #[])
  fields := #[]
  methods := #[]
  instanceTypes := #[]
  staticTypes := #[]
  resolved := Array.replicate 37 none
  statics := none }

def pool9 : Array CpInfo := pool [(1, .class_ 2), (0, u "java/lang/Integer"), (16, u "digits"), (0, u "[C"), (46, u "<init>"), (17, u "DigitOnes"), (0, u "[B"), (2, u "DigitTens"), (10, .nameAndType 67 101), (0, u "()V"), (85, u "valueOf"), (0, u "(I)Ljava/lang/Integer;"), (0, .class_ 190), (0, u "java/lang/Integer$IntegerCache"), (0, .fieldref 189 192), (0, .nameAndType 193 194), (0, u "high"), (0, u "I"), (0, .fieldref 189 196), (0, .nameAndType 197 198), (0, u "cache"), (0, u "[Ljava/lang/Integer;"), (0, .methodref 1 200), (0, .nameAndType 67 201), (0, u "(I)V"), (0, .methodref 203 100), (0, .class_ 204), (0, u "java/lang/Number"), (0, .fieldref 1 206), (0, .nameAndType 207 194), (0, u "value"), (94, u "TYPE"), (0, u "Ljava/lang/Class;"), (0, .class_ 305), (0, u "java/lang/Comparable"), (0, .class_ 307), (0, u "java/lang/constant/Constable"), (0, .class_ 309), (0, u "java/lang/constant/ConstantDesc"), (0, u "MIN_VALUE"), (1, u "MAX_VALUE"), (3, u "SIZE"), (1, u "BYTES"), (1, u "serialVersionUID"), (0, u "J")] 131

def k9c0 : Code := { maxStack := 3, maxLocals := 1, code := jdk_33_method_22_code, exceptionTable := #[], attributes := #[] }
def k9m0 : Method := { name := "valueOf", desc := "(I)Ljava/lang/Integer;", sig := { parameters := [.int], returnType := some (.object "java/lang/Integer") }, accessFlags := 9, code := some k9c0 }
def k9c1 : Code := { maxStack := 2, maxLocals := 2, code := jdk_33_method_23_code, exceptionTable := #[], attributes := #[] }
def k9m1 : Method := { name := "<init>", desc := "(I)V", sig := { parameters := [.int], returnType := none }, accessFlags := 1, code := some k9c1 }
/-- java/lang/Integer -/
def k9 : Class := { plain "java/lang/Integer" (some 5) with
  accessFlags := 49
  interfaces := #[6, 7, 8]
  cf := some (fileOf pool9 1 #[.nestMembers #[189]] #[{ accessFlags := 9, nameIndex := 187, descriptorIndex := 188, attributes := #[] }, { accessFlags := 1, nameIndex := 67, descriptorIndex := 201, attributes := #[] }] 49 203 #[304, 306, 308] #[{ accessFlags := 25, nameIndex := 310, descriptorIndex := 194, attributes := #[] }, { accessFlags := 25, nameIndex := 312, descriptorIndex := 194, attributes := #[] }, { accessFlags := 25, nameIndex := 302, descriptorIndex := 303, attributes := #[] }, { accessFlags := 24, nameIndex := 19, descriptorIndex := 20, attributes := #[] }, { accessFlags := 24, nameIndex := 89, descriptorIndex := 86, attributes := #[] }, { accessFlags := 24, nameIndex := 85, descriptorIndex := 86, attributes := #[] }, { accessFlags := 18, nameIndex := 207, descriptorIndex := 194, attributes := #[] }, { accessFlags := 25, nameIndex := 316, descriptorIndex := 194, attributes := #[] }, { accessFlags := 25, nameIndex := 318, descriptorIndex := 194, attributes := #[] }, { accessFlags := 26, nameIndex := 320, descriptorIndex := 321, attributes := #[] }])
  fields := #[{ name := "MIN_VALUE", type := .int, accessFlags := 25, slot := 0, constantValue := 0 }, { name := "MAX_VALUE", type := .int, accessFlags := 25, slot := 1, constantValue := 0 }, { name := "TYPE", type := (.object "java/lang/Class"), accessFlags := 25, slot := 2, constantValue := 0 }, { name := "digits", type := (.array .char), accessFlags := 24, slot := 3, constantValue := 0 }, { name := "DigitTens", type := (.array .byte), accessFlags := 24, slot := 4, constantValue := 0 }, { name := "DigitOnes", type := (.array .byte), accessFlags := 24, slot := 5, constantValue := 0 }, { name := "value", type := .int, accessFlags := 18, slot := 0, constantValue := 0 }, { name := "SIZE", type := .int, accessFlags := 25, slot := 6, constantValue := 0 }, { name := "BYTES", type := .int, accessFlags := 25, slot := 7, constantValue := 0 }, { name := "serialVersionUID", type := .long, accessFlags := 26, slot := 8, constantValue := 0 }]
  methods := #[k9m0, k9m1]
  instanceTypes := #[.int]
  staticTypes := #[.int, .int, (.object "java/lang/Class"), (.array .char), (.array .byte), (.array .byte), .int, .int, .long]
  resolved := Array.replicate 453 none
  statics := none }

def pool10 : Array CpInfo := pool [(2, .class_ 4), (1, u "java/lang/Object"), (0, u "<init>"), (0, u "()V"), (0, .class_ 8), (0, u "java/lang/Integer"), (7, .class_ 18), (1, u "java/lang/Integer$IntegerCache"), (0, u "$assertionsDisabled"), (0, u "Z"), (26, u "high"), (0, u "I"), (8, u "archivedCache"), (0, u "[Ljava/lang/Integer;"), (12, u "cache"), (0, u "low")] 27

def k10m0 : Method := { name := "<init>", desc := "()V", sig := { parameters := [], returnType := none }, accessFlags := 2, code := none }
/-- java/lang/Integer$IntegerCache -/
def k10 : Class := { plain "java/lang/Integer$IntegerCache" (some 0) with
  accessFlags := 48
  interfaces := #[]
  cf := some (fileOf pool10 16 #[.nestHost 7] #[{ accessFlags := 2, nameIndex := 5, descriptorIndex := 6, attributes := #[] }] 48 2 #[] #[{ accessFlags := 24, nameIndex := 72, descriptorIndex := 48, attributes := #[] }, { accessFlags := 24, nameIndex := 47, descriptorIndex := 48, attributes := #[] }, { accessFlags := 24, nameIndex := 71, descriptorIndex := 58, attributes := #[] }, { accessFlags := 8, nameIndex := 57, descriptorIndex := 58, attributes := #[] }, { accessFlags := 4120, nameIndex := 19, descriptorIndex := 20, attributes := #[] }])
  fields := #[{ name := "low", type := .int, accessFlags := 24, slot := 0, constantValue := 0 }, { name := "high", type := .int, accessFlags := 24, slot := 1, constantValue := 0 }, { name := "cache", type := (.array (.object "java/lang/Integer")), accessFlags := 24, slot := 2, constantValue := 0 }, { name := "archivedCache", type := (.array (.object "java/lang/Integer")), accessFlags := 8, slot := 3, constantValue := 0 }, { name := "$assertionsDisabled", type := .boolean, accessFlags := 4120, slot := 4, constantValue := 0 }]
  methods := #[k10m0]
  instanceTypes := #[]
  staticTypes := #[.int, .int, (.array (.object "java/lang/Integer")), (.array (.object "java/lang/Integer")), .boolean]
  resolved := Array.replicate 100 none
  statics := some 0 }

def pool11 : Array CpInfo := pool [(1, u "java/lang/Cloneable"), (0, .class_ 1), (0, u "java/lang/Object"), (0, .class_ 3)] 3

/-- java/lang/Cloneable -/
def k11 : Class := { plain "java/lang/Cloneable" (some 0) with
  accessFlags := 1537
  interfaces := #[]
  cf := some (fileOf pool11 2 #[] #[] 1537 4 #[] #[])
  fields := #[]
  methods := #[]
  instanceTypes := #[]
  staticTypes := #[]
  resolved := Array.replicate 8 none
  statics := none }

/-- the primitive byte -/
def k12 : Class := { plain "byte" none with kind := .primitive 'B', accessFlags := 0x411 }
/-- [B -/
def k13 : Class := { plain "[B" (some 0) with kind := .array 12 .byte, interfaces := #[11, 4], accessFlags := 1041 }

/-- the primitive int -/
def k14 : Class := { plain "int" none with kind := .primitive 'I', accessFlags := 0x411 }
/-- [I -/
def k15 : Class := { plain "[I" (some 0) with kind := .array 14 .int, interfaces := #[11, 4], accessFlags := 1041 }

/-- [Ljava/lang/Integer; -/
def k16 : Class := { plain "[Ljava/lang/Integer;" (some 0) with kind := .array 9 (.object "java/lang/Integer"), interfaces := #[11, 4], accessFlags := 1041 }

def heap : Heap := #[{ cls := 10, slots := #[.int 0, .int 127, .ref 1, .null, .int 0], vm := .statics 10 },
  { cls := 16, slots := #[.ref 2, .ref 3, .ref 4, .ref 5, .ref 6, .ref 7, .ref 8, .ref 9, .ref 10, .ref 11, .ref 12, .ref 13, .ref 14, .ref 15, .ref 16, .ref 17, .ref 18, .ref 19, .ref 20, .ref 21, .ref 22, .ref 23, .ref 24, .ref 25, .ref 26, .ref 27, .ref 28, .ref 29, .ref 30, .ref 31, .ref 32, .ref 33, .ref 34, .ref 35, .ref 36, .ref 37, .ref 38, .ref 39, .ref 40, .ref 41, .ref 42, .ref 43, .ref 44, .ref 45, .ref 46, .ref 47, .ref 48, .ref 49, .ref 50, .ref 51, .ref 52, .ref 53, .ref 54, .ref 55, .ref 56, .ref 57, .ref 58, .ref 59, .ref 60, .ref 61, .ref 62, .ref 63, .ref 64, .ref 65, .ref 66, .ref 67, .ref 68, .ref 69, .ref 70, .ref 71, .ref 72, .ref 73, .ref 74, .ref 75, .ref 76, .ref 77, .ref 78, .ref 79, .ref 80, .ref 81, .ref 82, .ref 83, .ref 84, .ref 85, .ref 86, .ref 87, .ref 88, .ref 89, .ref 90, .ref 91, .ref 92, .ref 93, .ref 94, .ref 95, .ref 96, .ref 97, .ref 98, .ref 99, .ref 100, .ref 101, .ref 102, .ref 103, .ref 104, .ref 105, .ref 106, .ref 107, .ref 108, .ref 109, .ref 110, .ref 111, .ref 112, .ref 113, .ref 114, .ref 115, .ref 116, .ref 117, .ref 118, .ref 119, .ref 120, .ref 121, .ref 122, .ref 123, .ref 124, .ref 125, .ref 126, .ref 127, .ref 128, .ref 129, .ref 130, .ref 131, .ref 132, .ref 133, .ref 134, .ref 135, .ref 136, .ref 137, .ref 138, .ref 139, .ref 140, .ref 141, .ref 142, .ref 143, .ref 144, .ref 145, .ref 146, .ref 147, .ref 148, .ref 149, .ref 150, .ref 151, .ref 152, .ref 153, .ref 154, .ref 155, .ref 156, .ref 157, .ref 158, .ref 159, .ref 160, .ref 161, .ref 162, .ref 163, .ref 164, .ref 165, .ref 166, .ref 167, .ref 168, .ref 169, .ref 170, .ref 171, .ref 172, .ref 173, .ref 174, .ref 175, .ref 176, .ref 177, .ref 178, .ref 179, .ref 180, .ref 181, .ref 182, .ref 183, .ref 184, .ref 185, .ref 186, .ref 187, .ref 188, .ref 189, .ref 190, .ref 191, .ref 192, .ref 193, .ref 194, .ref 195, .ref 196, .ref 197, .ref 198, .ref 199, .ref 200, .ref 201, .ref 202, .ref 203, .ref 204, .ref 205, .ref 206, .ref 207, .ref 208, .ref 209, .ref 210, .ref 211, .ref 212, .ref 213, .ref 214, .ref 215, .ref 216, .ref 217, .ref 218, .ref 219, .ref 220, .ref 221, .ref 222, .ref 223, .ref 224, .ref 225, .ref 226, .ref 227, .ref 228, .ref 229, .ref 230, .ref 231, .ref 232, .ref 233, .ref 234, .ref 235, .ref 236, .ref 237, .ref 238, .ref 239, .ref 240, .ref 241, .ref 242, .ref 243, .ref 244, .ref 245, .ref 246, .ref 247, .ref 248, .ref 249, .ref 250, .ref 251, .ref 252, .ref 253, .ref 254, .ref 255, .ref 256, .ref 257], vm := .none },
  { cls := 9, slots := #[.int (-128)], vm := .none },
  { cls := 9, slots := #[.int (-127)], vm := .none },
  { cls := 9, slots := #[.int (-126)], vm := .none },
  { cls := 9, slots := #[.int (-125)], vm := .none },
  { cls := 9, slots := #[.int (-124)], vm := .none },
  { cls := 9, slots := #[.int (-123)], vm := .none },
  { cls := 9, slots := #[.int (-122)], vm := .none },
  { cls := 9, slots := #[.int (-121)], vm := .none },
  { cls := 9, slots := #[.int (-120)], vm := .none },
  { cls := 9, slots := #[.int (-119)], vm := .none },
  { cls := 9, slots := #[.int (-118)], vm := .none },
  { cls := 9, slots := #[.int (-117)], vm := .none },
  { cls := 9, slots := #[.int (-116)], vm := .none },
  { cls := 9, slots := #[.int (-115)], vm := .none },
  { cls := 9, slots := #[.int (-114)], vm := .none },
  { cls := 9, slots := #[.int (-113)], vm := .none },
  { cls := 9, slots := #[.int (-112)], vm := .none },
  { cls := 9, slots := #[.int (-111)], vm := .none },
  { cls := 9, slots := #[.int (-110)], vm := .none },
  { cls := 9, slots := #[.int (-109)], vm := .none },
  { cls := 9, slots := #[.int (-108)], vm := .none },
  { cls := 9, slots := #[.int (-107)], vm := .none },
  { cls := 9, slots := #[.int (-106)], vm := .none },
  { cls := 9, slots := #[.int (-105)], vm := .none },
  { cls := 9, slots := #[.int (-104)], vm := .none },
  { cls := 9, slots := #[.int (-103)], vm := .none },
  { cls := 9, slots := #[.int (-102)], vm := .none },
  { cls := 9, slots := #[.int (-101)], vm := .none },
  { cls := 9, slots := #[.int (-100)], vm := .none },
  { cls := 9, slots := #[.int (-99)], vm := .none },
  { cls := 9, slots := #[.int (-98)], vm := .none },
  { cls := 9, slots := #[.int (-97)], vm := .none },
  { cls := 9, slots := #[.int (-96)], vm := .none },
  { cls := 9, slots := #[.int (-95)], vm := .none },
  { cls := 9, slots := #[.int (-94)], vm := .none },
  { cls := 9, slots := #[.int (-93)], vm := .none },
  { cls := 9, slots := #[.int (-92)], vm := .none },
  { cls := 9, slots := #[.int (-91)], vm := .none },
  { cls := 9, slots := #[.int (-90)], vm := .none },
  { cls := 9, slots := #[.int (-89)], vm := .none },
  { cls := 9, slots := #[.int (-88)], vm := .none },
  { cls := 9, slots := #[.int (-87)], vm := .none },
  { cls := 9, slots := #[.int (-86)], vm := .none },
  { cls := 9, slots := #[.int (-85)], vm := .none },
  { cls := 9, slots := #[.int (-84)], vm := .none },
  { cls := 9, slots := #[.int (-83)], vm := .none },
  { cls := 9, slots := #[.int (-82)], vm := .none },
  { cls := 9, slots := #[.int (-81)], vm := .none },
  { cls := 9, slots := #[.int (-80)], vm := .none },
  { cls := 9, slots := #[.int (-79)], vm := .none },
  { cls := 9, slots := #[.int (-78)], vm := .none },
  { cls := 9, slots := #[.int (-77)], vm := .none },
  { cls := 9, slots := #[.int (-76)], vm := .none },
  { cls := 9, slots := #[.int (-75)], vm := .none },
  { cls := 9, slots := #[.int (-74)], vm := .none },
  { cls := 9, slots := #[.int (-73)], vm := .none },
  { cls := 9, slots := #[.int (-72)], vm := .none },
  { cls := 9, slots := #[.int (-71)], vm := .none },
  { cls := 9, slots := #[.int (-70)], vm := .none },
  { cls := 9, slots := #[.int (-69)], vm := .none },
  { cls := 9, slots := #[.int (-68)], vm := .none },
  { cls := 9, slots := #[.int (-67)], vm := .none },
  { cls := 9, slots := #[.int (-66)], vm := .none },
  { cls := 9, slots := #[.int (-65)], vm := .none },
  { cls := 9, slots := #[.int (-64)], vm := .none },
  { cls := 9, slots := #[.int (-63)], vm := .none },
  { cls := 9, slots := #[.int (-62)], vm := .none },
  { cls := 9, slots := #[.int (-61)], vm := .none },
  { cls := 9, slots := #[.int (-60)], vm := .none },
  { cls := 9, slots := #[.int (-59)], vm := .none },
  { cls := 9, slots := #[.int (-58)], vm := .none },
  { cls := 9, slots := #[.int (-57)], vm := .none },
  { cls := 9, slots := #[.int (-56)], vm := .none },
  { cls := 9, slots := #[.int (-55)], vm := .none },
  { cls := 9, slots := #[.int (-54)], vm := .none },
  { cls := 9, slots := #[.int (-53)], vm := .none },
  { cls := 9, slots := #[.int (-52)], vm := .none },
  { cls := 9, slots := #[.int (-51)], vm := .none },
  { cls := 9, slots := #[.int (-50)], vm := .none },
  { cls := 9, slots := #[.int (-49)], vm := .none },
  { cls := 9, slots := #[.int (-48)], vm := .none },
  { cls := 9, slots := #[.int (-47)], vm := .none },
  { cls := 9, slots := #[.int (-46)], vm := .none },
  { cls := 9, slots := #[.int (-45)], vm := .none },
  { cls := 9, slots := #[.int (-44)], vm := .none },
  { cls := 9, slots := #[.int (-43)], vm := .none },
  { cls := 9, slots := #[.int (-42)], vm := .none },
  { cls := 9, slots := #[.int (-41)], vm := .none },
  { cls := 9, slots := #[.int (-40)], vm := .none },
  { cls := 9, slots := #[.int (-39)], vm := .none },
  { cls := 9, slots := #[.int (-38)], vm := .none },
  { cls := 9, slots := #[.int (-37)], vm := .none },
  { cls := 9, slots := #[.int (-36)], vm := .none },
  { cls := 9, slots := #[.int (-35)], vm := .none },
  { cls := 9, slots := #[.int (-34)], vm := .none },
  { cls := 9, slots := #[.int (-33)], vm := .none },
  { cls := 9, slots := #[.int (-32)], vm := .none },
  { cls := 9, slots := #[.int (-31)], vm := .none },
  { cls := 9, slots := #[.int (-30)], vm := .none },
  { cls := 9, slots := #[.int (-29)], vm := .none },
  { cls := 9, slots := #[.int (-28)], vm := .none },
  { cls := 9, slots := #[.int (-27)], vm := .none },
  { cls := 9, slots := #[.int (-26)], vm := .none },
  { cls := 9, slots := #[.int (-25)], vm := .none },
  { cls := 9, slots := #[.int (-24)], vm := .none },
  { cls := 9, slots := #[.int (-23)], vm := .none },
  { cls := 9, slots := #[.int (-22)], vm := .none },
  { cls := 9, slots := #[.int (-21)], vm := .none },
  { cls := 9, slots := #[.int (-20)], vm := .none },
  { cls := 9, slots := #[.int (-19)], vm := .none },
  { cls := 9, slots := #[.int (-18)], vm := .none },
  { cls := 9, slots := #[.int (-17)], vm := .none },
  { cls := 9, slots := #[.int (-16)], vm := .none },
  { cls := 9, slots := #[.int (-15)], vm := .none },
  { cls := 9, slots := #[.int (-14)], vm := .none },
  { cls := 9, slots := #[.int (-13)], vm := .none },
  { cls := 9, slots := #[.int (-12)], vm := .none },
  { cls := 9, slots := #[.int (-11)], vm := .none },
  { cls := 9, slots := #[.int (-10)], vm := .none },
  { cls := 9, slots := #[.int (-9)], vm := .none },
  { cls := 9, slots := #[.int (-8)], vm := .none },
  { cls := 9, slots := #[.int (-7)], vm := .none },
  { cls := 9, slots := #[.int (-6)], vm := .none },
  { cls := 9, slots := #[.int (-5)], vm := .none },
  { cls := 9, slots := #[.int (-4)], vm := .none },
  { cls := 9, slots := #[.int (-3)], vm := .none },
  { cls := 9, slots := #[.int (-2)], vm := .none },
  { cls := 9, slots := #[.int (-1)], vm := .none },
  { cls := 9, slots := #[.int 0], vm := .none },
  { cls := 9, slots := #[.int 1], vm := .none },
  { cls := 9, slots := #[.int 2], vm := .none },
  { cls := 9, slots := #[.int 3], vm := .none },
  { cls := 9, slots := #[.int 4], vm := .none },
  { cls := 9, slots := #[.int 5], vm := .none },
  { cls := 9, slots := #[.int 6], vm := .none },
  { cls := 9, slots := #[.int 7], vm := .none },
  { cls := 9, slots := #[.int 8], vm := .none },
  { cls := 9, slots := #[.int 9], vm := .none },
  { cls := 9, slots := #[.int 10], vm := .none },
  { cls := 9, slots := #[.int 11], vm := .none },
  { cls := 9, slots := #[.int 12], vm := .none },
  { cls := 9, slots := #[.int 13], vm := .none },
  { cls := 9, slots := #[.int 14], vm := .none },
  { cls := 9, slots := #[.int 15], vm := .none },
  { cls := 9, slots := #[.int 16], vm := .none },
  { cls := 9, slots := #[.int 17], vm := .none },
  { cls := 9, slots := #[.int 18], vm := .none },
  { cls := 9, slots := #[.int 19], vm := .none },
  { cls := 9, slots := #[.int 20], vm := .none },
  { cls := 9, slots := #[.int 21], vm := .none },
  { cls := 9, slots := #[.int 22], vm := .none },
  { cls := 9, slots := #[.int 23], vm := .none },
  { cls := 9, slots := #[.int 24], vm := .none },
  { cls := 9, slots := #[.int 25], vm := .none },
  { cls := 9, slots := #[.int 26], vm := .none },
  { cls := 9, slots := #[.int 27], vm := .none },
  { cls := 9, slots := #[.int 28], vm := .none },
  { cls := 9, slots := #[.int 29], vm := .none },
  { cls := 9, slots := #[.int 30], vm := .none },
  { cls := 9, slots := #[.int 31], vm := .none },
  { cls := 9, slots := #[.int 32], vm := .none },
  { cls := 9, slots := #[.int 33], vm := .none },
  { cls := 9, slots := #[.int 34], vm := .none },
  { cls := 9, slots := #[.int 35], vm := .none },
  { cls := 9, slots := #[.int 36], vm := .none },
  { cls := 9, slots := #[.int 37], vm := .none },
  { cls := 9, slots := #[.int 38], vm := .none },
  { cls := 9, slots := #[.int 39], vm := .none },
  { cls := 9, slots := #[.int 40], vm := .none },
  { cls := 9, slots := #[.int 41], vm := .none },
  { cls := 9, slots := #[.int 42], vm := .none },
  { cls := 9, slots := #[.int 43], vm := .none },
  { cls := 9, slots := #[.int 44], vm := .none },
  { cls := 9, slots := #[.int 45], vm := .none },
  { cls := 9, slots := #[.int 46], vm := .none },
  { cls := 9, slots := #[.int 47], vm := .none },
  { cls := 9, slots := #[.int 48], vm := .none },
  { cls := 9, slots := #[.int 49], vm := .none },
  { cls := 9, slots := #[.int 50], vm := .none },
  { cls := 9, slots := #[.int 51], vm := .none },
  { cls := 9, slots := #[.int 52], vm := .none },
  { cls := 9, slots := #[.int 53], vm := .none },
  { cls := 9, slots := #[.int 54], vm := .none },
  { cls := 9, slots := #[.int 55], vm := .none },
  { cls := 9, slots := #[.int 56], vm := .none },
  { cls := 9, slots := #[.int 57], vm := .none },
  { cls := 9, slots := #[.int 58], vm := .none },
  { cls := 9, slots := #[.int 59], vm := .none },
  { cls := 9, slots := #[.int 60], vm := .none },
  { cls := 9, slots := #[.int 61], vm := .none },
  { cls := 9, slots := #[.int 62], vm := .none },
  { cls := 9, slots := #[.int 63], vm := .none },
  { cls := 9, slots := #[.int 64], vm := .none },
  { cls := 9, slots := #[.int 65], vm := .none },
  { cls := 9, slots := #[.int 66], vm := .none },
  { cls := 9, slots := #[.int 67], vm := .none },
  { cls := 9, slots := #[.int 68], vm := .none },
  { cls := 9, slots := #[.int 69], vm := .none },
  { cls := 9, slots := #[.int 70], vm := .none },
  { cls := 9, slots := #[.int 71], vm := .none },
  { cls := 9, slots := #[.int 72], vm := .none },
  { cls := 9, slots := #[.int 73], vm := .none },
  { cls := 9, slots := #[.int 74], vm := .none },
  { cls := 9, slots := #[.int 75], vm := .none },
  { cls := 9, slots := #[.int 76], vm := .none },
  { cls := 9, slots := #[.int 77], vm := .none },
  { cls := 9, slots := #[.int 78], vm := .none },
  { cls := 9, slots := #[.int 79], vm := .none },
  { cls := 9, slots := #[.int 80], vm := .none },
  { cls := 9, slots := #[.int 81], vm := .none },
  { cls := 9, slots := #[.int 82], vm := .none },
  { cls := 9, slots := #[.int 83], vm := .none },
  { cls := 9, slots := #[.int 84], vm := .none },
  { cls := 9, slots := #[.int 85], vm := .none },
  { cls := 9, slots := #[.int 86], vm := .none },
  { cls := 9, slots := #[.int 87], vm := .none },
  { cls := 9, slots := #[.int 88], vm := .none },
  { cls := 9, slots := #[.int 89], vm := .none },
  { cls := 9, slots := #[.int 90], vm := .none },
  { cls := 9, slots := #[.int 91], vm := .none },
  { cls := 9, slots := #[.int 92], vm := .none },
  { cls := 9, slots := #[.int 93], vm := .none },
  { cls := 9, slots := #[.int 94], vm := .none },
  { cls := 9, slots := #[.int 95], vm := .none },
  { cls := 9, slots := #[.int 96], vm := .none },
  { cls := 9, slots := #[.int 97], vm := .none },
  { cls := 9, slots := #[.int 98], vm := .none },
  { cls := 9, slots := #[.int 99], vm := .none },
  { cls := 9, slots := #[.int 100], vm := .none },
  { cls := 9, slots := #[.int 101], vm := .none },
  { cls := 9, slots := #[.int 102], vm := .none },
  { cls := 9, slots := #[.int 103], vm := .none },
  { cls := 9, slots := #[.int 104], vm := .none },
  { cls := 9, slots := #[.int 105], vm := .none },
  { cls := 9, slots := #[.int 106], vm := .none },
  { cls := 9, slots := #[.int 107], vm := .none },
  { cls := 9, slots := #[.int 108], vm := .none },
  { cls := 9, slots := #[.int 109], vm := .none },
  { cls := 9, slots := #[.int 110], vm := .none },
  { cls := 9, slots := #[.int 111], vm := .none },
  { cls := 9, slots := #[.int 112], vm := .none },
  { cls := 9, slots := #[.int 113], vm := .none },
  { cls := 9, slots := #[.int 114], vm := .none },
  { cls := 9, slots := #[.int 115], vm := .none },
  { cls := 9, slots := #[.int 116], vm := .none },
  { cls := 9, slots := #[.int 117], vm := .none },
  { cls := 9, slots := #[.int 118], vm := .none },
  { cls := 9, slots := #[.int 119], vm := .none },
  { cls := 9, slots := #[.int 120], vm := .none },
  { cls := 9, slots := #[.int 121], vm := .none },
  { cls := 9, slots := #[.int 122], vm := .none },
  { cls := 9, slots := #[.int 123], vm := .none },
  { cls := 9, slots := #[.int 124], vm := .none },
  { cls := 9, slots := #[.int 125], vm := .none },
  { cls := 9, slots := #[.int 126], vm := .none },
  { cls := 9, slots := #[.int 127], vm := .none }]
def classes : Array Class := #[k0, k1, k2, k3, k4, k5, k6, k7, k8, k9, k10, k11, k12, k13, k14, k15, k16]
def interned : List (Array UInt16 × Addr) := []
def slotsUsed : Nat := 517
def theMethod : MethodId := ⟨1, 1⟩
def args0 : Array Value := #[.int 5, .int 6, .int 700, .int 8, .int 9, .int 3]
def aboutOver (below : List Frame) : State where
  vm := { classes := classes, interned := interned.toArray }
  heap := heap
  slotsUsed := slotsUsed
  threads := #[{ frames := .invoking theMethod args0 :: below }]
def below0 : List Frame := [.native { method := ⟨0, 0⟩, args := #[] }]
def about1 : State := aboutOver below0
def p0 : Program := .bare "" "" ""
def e0 : Env := launch0.env 0 0 0
theorem w_frames : about1.frames = Frame.invoking theMethod args0 :: below0 := rfl
set_option maxRecDepth 65536 in
theorem w_args : argsFit about1.vm theMethod args0 = true := by decide +kernel
set_option maxRecDepth 65536 in
theorem w_heap : heapFits about1 = true := by decide +kernel
set_option maxRecDepth 65536 in
theorem w_runnable : about1.curStatus? = some .runnable := by decide +kernel
set_option maxRecDepth 65536 in
theorem w_alone : about1.alone = true := by decide +kernel
set_option maxRecDepth 65536 in
theorem w_named : about1.methodNamed? x = some theMethod := by decide +kernel
set_option maxRecDepth 65536 in
theorem w_hears : about1.hears theMethod below0 = true := by decide +kernel
set_option maxRecDepth 65536 in
theorem w_ripe : about1.ripe theMethod args0 below0 = true := by decide +kernel
theorem w_running : about1.status = .running := rfl
set_option maxRecDepth 65536 in
theorem w_room : about1.hasRoom e0.platform room_1 = true :=
  launch0.hasRoom_least _ room_1 (by decide +kernel) (by decide +kernel) (by decide +kernel) (by decide +kernel) (by decide +kernel) (by decide +kernel)
theorem allAtoms_all (ts : List Jvm.Cond) (a : Array Jvm.Value) (st : Jvm.State) : (allAtoms ts).before a st = ts.all (fun c => c.before a st) := by
  induction ts with
  | nil => rfl
  | cons c t ih =>
    show (Jvm.Cond.and c (allAtoms t)).before a st = _
    rw [Jvm.Cond.before_and, ih, List.all_cons]
def words1 : List Jvm.Cond := Jvm.Cond.code x code maxLocals ret :: tables_1
/-- a 'code' word, met by the world's own term for the bytes: nothing is compared byte by byte -/
theorem code_word {y : MethodName} {bytes : ByteArray} {mx : Nat} {rt : Option FieldType} {a : Array Value} {s : State} {m : MethodId} {meth : Method} {c : Code} (h1 : s.methodNamed? y = some m) (h2 : s.vm.method? m = some meth) (h3 : meth.code = some c) (h4 : c.code = bytes)
    (h5 : (c.maxLocals == mx && c.exceptionTable.isEmpty && decide (c.maxStack ≤ mostOperands) && decide (meth.sig.returnType = rt) && !meth.locks && decide (parseMethodDescriptor y.desc = some meth.sig)) = true) : (Jvm.Cond.code y bytes mx rt).before a s = true := by
  simp only [Bool.and_eq_true, beq_iff_eq, Bool.not_eq_true', decide_eq_true_eq] at h5
  obtain ⟨⟨⟨⟨⟨g1, g2⟩, g3⟩, g4⟩, g5⟩, g6⟩ := h5
  simp [Cond.before, Cond.holds, Cond.value, h1, h2, h3, h4, g1, g2, g3, g4, g5, g6]
def isCode : Jvm.Cond → Bool
  | .code _ _ _ _ => true
  | _ => false
theorem all_split {L : List Jvm.Cond} {P : Jvm.Cond → Bool} (h1 : L.all (fun c => isCode c || P c) = true) (h2 : ∀ c ∈ L.filter isCode, P c = true) : L.all P = true := by
  refine List.all_eq_true.mpr fun c hc => ?_
  have h := List.all_eq_true.mp h1 c hc
  rcases Bool.eq_false_or_eq_true (isCode c) with hi | hi
  · exact h2 c (List.mem_filter.mpr ⟨hc, hi⟩)
  · simpa [hi] using h
set_option maxRecDepth 65536 in
theorem w_c0 : (Jvm.Cond.code x code maxLocals ret).before args0 about1 = true := code_word (m := ⟨1, 1⟩) (meth := k1m1) (c := k1c1) (by decide +kernel) rfl rfl rfl (by decide +kernel)
set_option maxRecDepth 65536 in
theorem w_c1 : (Jvm.Cond.code ({ cls := "com/example/hierarchy_from_axioms/hierarchyfromaxioms/reasoner/Abox$Edge", name := "<init>", desc := "(III)V" } : Jvm.MethodName) prog_38_method_1_code (4 : Nat) (Option.none : Option Jvm.ClassFile.FieldType)).before args0 about1 = true := code_word (m := ⟨3, 0⟩) (meth := k3m0) (c := k3c0) (by decide +kernel) rfl rfl rfl (by decide +kernel)
set_option maxRecDepth 65536 in
theorem w_c2 : (Jvm.Cond.code ({ cls := "java/lang/Record", name := "<init>", desc := "()V" } : Jvm.MethodName) jdk_30_method_1_code (1 : Nat) (Option.none : Option Jvm.ClassFile.FieldType)).before args0 about1 = true := code_word (m := ⟨2, 0⟩) (meth := k2m0) (c := k2c0) (by decide +kernel) rfl rfl rfl (by decide +kernel)
set_option maxRecDepth 65536 in
theorem w_c3 : (Jvm.Cond.code ({ cls := "java/lang/Object", name := "<init>", desc := "()V" } : Jvm.MethodName) object_method_1_code (1 : Nat) (Option.none : Option Jvm.ClassFile.FieldType)).before args0 about1 = true := code_word (m := ⟨0, 0⟩) (meth := k0m0) (c := k0c0) (by decide +kernel) rfl rfl rfl (by decide +kernel)
set_option maxRecDepth 65536 in
theorem w_c4 : (Jvm.Cond.code ({ cls := "com/example/hierarchy_from_axioms/hierarchyfromaxioms/reasoner/Abox$Edge", name := "equals", desc := "(Ljava/lang/Object;)Z" } : Jvm.MethodName) prog_38_method_2_code (3 : Nat) (Option.some Jvm.ClassFile.FieldType.boolean)).before args0 about1 = true := code_word (m := ⟨3, 1⟩) (meth := k3m1) (c := k3c1) (by decide +kernel) rfl rfl rfl (by decide +kernel)
set_option maxRecDepth 65536 in
theorem w_c5 : (Jvm.Cond.code ({ cls := "java/lang/Integer", name := "valueOf", desc := "(I)Ljava/lang/Integer;" } : Jvm.MethodName) jdk_33_method_22_code (1 : Nat) (Option.some (Jvm.ClassFile.FieldType.object "java/lang/Integer"))).before args0 about1 = true := code_word (m := ⟨9, 0⟩) (meth := k9m0) (c := k9c0) (by decide +kernel) rfl rfl rfl (by decide +kernel)
set_option maxRecDepth 65536 in
theorem w_c6 : (Jvm.Cond.code ({ cls := "com/example/hierarchy_from_axioms/hierarchyfromaxioms/reasoner/Abox$Edge", name := "hashCode", desc := "()I" } : Jvm.MethodName) prog_38_method_3_code (1 : Nat) (Option.some Jvm.ClassFile.FieldType.int)).before args0 about1 = true := code_word (m := ⟨3, 2⟩) (meth := k3m2) (c := k3c2) (by decide +kernel) rfl rfl rfl (by decide +kernel)
set_option maxRecDepth 65536 in
theorem w_c7 : (Jvm.Cond.code ({ cls := "java/lang/Integer", name := "<init>", desc := "(I)V" } : Jvm.MethodName) jdk_33_method_23_code (2 : Nat) (Option.none : Option Jvm.ClassFile.FieldType)).before args0 about1 = true := code_word (m := ⟨9, 1⟩) (meth := k9m1) (c := k9c1) (by decide +kernel) rfl rfl rfl (by decide +kernel)
set_option maxRecDepth 65536 in
theorem w_c8 : (Jvm.Cond.code ({ cls := "java/lang/Number", name := "<init>", desc := "()V" } : Jvm.MethodName) jdk_18_method_1_code (1 : Nat) (Option.none : Option Jvm.ClassFile.FieldType)).before args0 about1 = true := code_word (m := ⟨5, 0⟩) (meth := k5m0) (c := k5c0) (by decide +kernel) rfl rfl rfl (by decide +kernel)
def codes1 : List Jvm.Cond := [Jvm.Cond.code x code maxLocals ret, Jvm.Cond.code ({ cls := "com/example/hierarchy_from_axioms/hierarchyfromaxioms/reasoner/Abox$Edge", name := "<init>", desc := "(III)V" } : Jvm.MethodName) prog_38_method_1_code (4 : Nat) (Option.none : Option Jvm.ClassFile.FieldType), Jvm.Cond.code ({ cls := "java/lang/Record", name := "<init>", desc := "()V" } : Jvm.MethodName) jdk_30_method_1_code (1 : Nat) (Option.none : Option Jvm.ClassFile.FieldType), Jvm.Cond.code ({ cls := "java/lang/Object", name := "<init>", desc := "()V" } : Jvm.MethodName) object_method_1_code (1 : Nat) (Option.none : Option Jvm.ClassFile.FieldType), Jvm.Cond.code ({ cls := "com/example/hierarchy_from_axioms/hierarchyfromaxioms/reasoner/Abox$Edge", name := "equals", desc := "(Ljava/lang/Object;)Z" } : Jvm.MethodName) prog_38_method_2_code (3 : Nat) (Option.some Jvm.ClassFile.FieldType.boolean), Jvm.Cond.code ({ cls := "java/lang/Integer", name := "valueOf", desc := "(I)Ljava/lang/Integer;" } : Jvm.MethodName) jdk_33_method_22_code (1 : Nat) (Option.some (Jvm.ClassFile.FieldType.object "java/lang/Integer")), Jvm.Cond.code ({ cls := "com/example/hierarchy_from_axioms/hierarchyfromaxioms/reasoner/Abox$Edge", name := "hashCode", desc := "()I" } : Jvm.MethodName) prog_38_method_3_code (1 : Nat) (Option.some Jvm.ClassFile.FieldType.int), Jvm.Cond.code ({ cls := "java/lang/Integer", name := "<init>", desc := "(I)V" } : Jvm.MethodName) jdk_33_method_23_code (2 : Nat) (Option.none : Option Jvm.ClassFile.FieldType), Jvm.Cond.code ({ cls := "java/lang/Number", name := "<init>", desc := "()V" } : Jvm.MethodName) jdk_18_method_1_code (1 : Nat) (Option.none : Option Jvm.ClassFile.FieldType)]
set_option maxRecDepth 65536 in
theorem codes_eq : words1.filter isCode = codes1 := rfl
theorem w_codes : ∀ c ∈ words1.filter isCode, c.before args0 about1 = true := by
  rw [codes_eq]
  intro c hc
  simp only [codes1, List.mem_cons, List.not_mem_nil, or_false] at hc
  rcases hc with rfl | rfl | rfl | rfl | rfl | rfl | rfl | rfl | rfl
  · exact w_c0
  · exact w_c1
  · exact w_c2
  · exact w_c3
  · exact w_c4
  · exact w_c5
  · exact w_c6
  · exact w_c7
  · exact w_c8
set_option maxRecDepth 65536 in
theorem w_t1 : (words1.take 24).all (fun c => isCode c || c.before args0 about1) = true := by decide +kernel
set_option maxRecDepth 65536 in
theorem w_t2 : ((words1.drop 24).take 24).all (fun c => isCode c || c.before args0 about1) = true := by decide +kernel
set_option maxRecDepth 65536 in
theorem w_t3 : ((words1.drop 24).drop 24).all (fun c => isCode c || c.before args0 about1) = true := by decide +kernel
theorem w_tables : (allAtoms (Jvm.Cond.code x code maxLocals ret :: tables_1)).before args0 about1 = true := by
  rw [allAtoms_all]
  show words1.all (fun c => c.before args0 about1) = true
  refine all_split ?_ w_codes
  rw [← List.take_append_drop 24 words1, List.all_append, w_t1, ← List.take_append_drop 24 (words1.drop 24), List.all_append, w_t2, w_t3]
  rfl
set_option maxRecDepth 65536 in
theorem w_rest : rest_1_c.before args0 about1 = true := by decide +kernel
set_option maxRecDepth 65536 in
theorem w_case : (Jvm.Cond.and given_1 narrow_1).before args0 about1 = true := by decide +kernel
theorem w_applies : (headSpec (Jvm.Cond.code x code maxLocals ret :: tables_1) room_1).applies x e0.platform about1 = true :=
  (Spec.applies_iff w_frames).mpr ⟨w_running, w_runnable, w_alone, w_named, w_hears, w_ripe, w_room, w_tables⟩
theorem atStart : AtStart classFile x code maxLocals ret World_1 tables_1 room_1 Calls_1 rest_1 Pre_1 launch0 p0 e0 about1 theMethod args0 below0 :=
  ⟨lists_1, trivial, launch0.admits_env _ _ _, launch0.least_env, fairChoices_fair.cas, fairChoices_fair.clock, w_frames, w_args, w_heap, w_applies, trivial, w_rest, w_case⟩
end start1
theorem witness_1 : WitnessClaimed_1 := ⟨start1.p0, start1.e0, start1.about1, start1.theMethod, start1.args0, start1.below0, start1.atStart⟩
end Jvm.Pilot.@@N@@
