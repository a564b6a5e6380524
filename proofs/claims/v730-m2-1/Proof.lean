import JvmDerived
import JvmDerived.Pilot.@@N@@Statement
import JvmDerived.Pilot.@@N@@Code
set_option linter.unusedVariables false
set_option linter.unusedSimpArgs false
namespace Jvm.Pilot.@@N@@
open Jvm Jvm.ClassFile Sem Op Lib Jvm.Free Jvm.Stand Jvm.LawKit Jvm.RoadKit Bundle Jvm.Pilot.@@N@@.Jvm.D
/-- what a body still owes at the state U: that it comes to a return with Q, within kc cells and ks slots -/
def Ow (p : Program) (e : Env) (below : List Frame) (s : State) (Q : Option Value → Heap → List Loc → Prop) (kc ks : Nat) (U : State) : Prop :=
  ∃ s₂ o, Steps p.tables e below U s₂ ∧ s₂.status = .running ∧ Ended s₂ below o ∧ ∃ v L, o = .returned v ∧ Q v s₂.heap L ∧ FrameEnd s o s₂ L kc ks
def lsr64 (x : Int64) (y : Int32) : Int64 := ((x.toUInt64 >>> (y &&& 0x3f).toInt64.toUInt64).toInt64)
def lsr32 (x y : Int32) : Int32 := ((x.toUInt32 >>> (y &&& 31).toUInt32).toInt32)
section W
variable {p : Program} {l : Launch} {e : Env} {R : Room} {s : State} {m : MethodId} {args : Array Value} {below : List Frame} {meth : Method} {c : Code} {T : State} {locs : List Loc} {cells slots : Nat} {Q : Option Value → Heap → List Loc → Prop} {kc ks : Nat} {pc pc' : Nat} {Ls Ls' : Array Slot} {st : List Value} {Z : State} {a0 : Array Value} {h : Heap}
theorem Ow.go {U U' : State} (k : Steps p.tables e below U U') (o : Ow p e below s Q kc ks U') : Ow p e below s Q kc ks U := by
  obtain ⟨s₂, o', h1, h2⟩ := o
  exact ⟨s₂, o', k.trans h1, h2⟩
theorem Ow.via {U U' : State} (k : ∀ t, Steps p.tables e below U' t → Steps p.tables e below U t) (o : Ow p e below s Q kc ks U') : Ow p e below s Q kc ks U := Ow.go (k _ (Steps.refl _)) o
theorem Ow.enter {n : Nat} (q : entryFrame m args n = mkF m 0 Ls []) (k : Ow p e below s Q kc ks (T.setTop (mkF m 0 Ls []))) :
    ∃ s₂ o, Steps p.tables e below (T.setTop (entryFrame m args n)) s₂ ∧ s₂.status = .running ∧ Ended s₂ below o ∧ ∃ v L, o = .returned v ∧ Q v s₂.heap L ∧ FrameEnd s o s₂ L kc ks := by
  rw [q]; exact k
theorem Ow.join {U : State} (T' : State) (g' : JFrame) (f : Ow p e below s Q kc ks (T'.setTop g') → Ow p e below s Q kc ks U) (k : Ow p e below s Q kc ks (T'.setTop g')) : Ow p e below s Q kc ks U := f k
theorem w_iloadN (X : Stand p l e R s m args below meth c T locs cells slots) (hx : p.tables.exec = Jvm.exec) {k : Fin 4} {v : Int32} (hd : decode c.code pc = .ok (.iload_n k, 1)) (hl : Ls[k.val]? = some (.val (.int v))) (hp : pc + 1 = pc') (k : Ow p e below s Q kc ks (T.setTop (mkF m pc' Ls (.int v :: st)))) : Ow p e below s Q kc ks (T.setTop (mkF m pc Ls st)) := by
  subst hp; exact Ow.go (XS.iloadN X.here hx rfl hd hl (Steps.refl _)) k
theorem w_iload (X : Stand p l e R s m args below meth c T locs cells slots) (hx : p.tables.exec = Jvm.exec) {k : Nat} {v : Int32} (hd : decode c.code pc = .ok (.iload k, 2)) (hl : Ls[k]? = some (.val (.int v))) (hp : pc + 2 = pc') (k : Ow p e below s Q kc ks (T.setTop (mkF m pc' Ls (.int v :: st)))) : Ow p e below s Q kc ks (T.setTop (mkF m pc Ls st)) := by
  subst hp; exact Ow.go (XS.iload X.here hx rfl hd hl (Steps.refl _)) k
theorem w_istore (X : Stand p l e R s m args below meth c T locs cells slots) (hx : p.tables.exec = Jvm.exec) {k : Nat} {v : Int32} (hd : decode c.code pc = .ok (.istore k, 2)) (Ls' : Array Slot) (hl : storeLocals Ls k (.int v) = some Ls') (hp : pc + 2 = pc') (k : Ow p e below s Q kc ks (T.setTop (mkF m pc' Ls' st))) : Ow p e below s Q kc ks (T.setTop (mkF m pc Ls (.int v :: st))) := by
  subst hp; exact Ow.go (XS.istore X.here hx rfl hd rfl hl (Steps.refl _)) k
theorem w_aloadN (X : Stand p l e R s m args below meth c T locs cells slots) (hx : p.tables.exec = Jvm.exec) {k : Fin 4} {v : Value} (hd : decode c.code pc = .ok (.aload_n k, 1)) (hl : Ls[k.val]? = some (.val v)) (hv : v.isRef = true) (hp : pc + 1 = pc') (k : Ow p e below s Q kc ks (T.setTop (mkF m pc' Ls (v :: st)))) : Ow p e below s Q kc ks (T.setTop (mkF m pc Ls st)) := by
  subst hp; exact Ow.go (XS.aloadN X.here hx rfl hd hl hv (Steps.refl _)) k
theorem w_astoreN (X : Stand p l e R s m args below meth c T locs cells slots) (hx : p.tables.exec = Jvm.exec) {k : Fin 4} {v : Value} (hd : decode c.code pc = .ok (.astore_n k, 1)) (Ls' : Array Slot) (hl : storeLocals Ls k.val v = some Ls') (hv : v.isRef = true) (hp : pc + 1 = pc') (k : Ow p e below s Q kc ks (T.setTop (mkF m pc' Ls' st))) : Ow p e below s Q kc ks (T.setTop (mkF m pc Ls (v :: st))) := by
  subst hp; exact Ow.go (XS.astoreN X.here hx rfl hd rfl hv hl (Steps.refl _)) k
theorem w_iconst (X : Stand p l e R s m args below meth c T locs cells slots) (hx : p.tables.exec = Jvm.exec) {i : Int} (v : Int32) (hd : decode c.code pc = .ok (.iconst i, 1)) (hv : Int32.ofInt i = v) (hp : pc + 1 = pc') (k : Ow p e below s Q kc ks (T.setTop (mkF m pc' Ls (.int v :: st)))) : Ow p e below s Q kc ks (T.setTop (mkF m pc Ls st)) := by
  subst hp hv; exact Ow.go (XS.iconst X.here hx rfl hd (Steps.refl _)) k
theorem w_bipush (X : Stand p l e R s m args below meth c T locs cells slots) (hx : p.tables.exec = Jvm.exec) {i : Int} (v : Int32) (hd : decode c.code pc = .ok (.bipush i, 2)) (hv : (Int8.ofInt i).toInt32 = v) (hp : pc + 2 = pc') (k : Ow p e below s Q kc ks (T.setTop (mkF m pc' Ls (.int v :: st)))) : Ow p e below s Q kc ks (T.setTop (mkF m pc Ls st)) := by
  subst hp hv; exact Ow.go (XS.bipush X.here hx rfl hd (Steps.refl _)) k
theorem w_sipush (X : Stand p l e R s m args below meth c T locs cells slots) (hx : p.tables.exec = Jvm.exec) {i : Int} (v : Int32) (hd : decode c.code pc = .ok (.sipush i, 3)) (hv : (Int16.ofInt i).toInt32 = v) (hp : pc + 3 = pc') (k : Ow p e below s Q kc ks (T.setTop (mkF m pc' Ls (.int v :: st)))) : Ow p e below s Q kc ks (T.setTop (mkF m pc Ls st)) := by
  subst hp hv; exact Ow.go (XS.sipush X.here hx rfl hd (Steps.refl _)) k
theorem w_ldcI (X : Stand p l e R s m args below meth c T locs cells slots) (hx : p.tables.exec = Jvm.exec) (hZ : Z.Warmed39 s.vm) {own : String} {index : Nat} {v : Int32} (hown : s.vm.findClass own = some m.cls) (w : (Cond.constant own index v).before a0 Z = true) (hd : decode c.code pc = .ok (.ldc index, 2)) (hp : pc + 2 = pc') (k : Ow p e below s Q kc ks (T.setTop (mkF m pc' Ls (.int v :: st)))) : Ow p e below s Q kc ks (T.setTop (mkF m pc Ls st)) := by
  subst hp; exact Ow.via (X.ldcInt hx hown (mvT hZ w) (g := mkF m pc Ls st) rfl hd) k
theorem w_iadd (X : Stand p l e R s m args below meth c T locs cells slots) (hx : p.tables.exec = Jvm.exec) {x y : Int32} (hd : decode c.code pc = .ok (.iadd, 1))  (hp : pc + 1 = pc') (k : Ow p e below s Q kc ks (T.setTop (mkF m pc' Ls (.int (x + y) :: st)))) : Ow p e below s Q kc ks (T.setTop (mkF m pc Ls (.int y :: .int x :: st))) := by
  subst hp; exact Ow.go (XS.iadd X.here hx rfl hd rfl (Steps.refl _)) k
theorem w_isub (X : Stand p l e R s m args below meth c T locs cells slots) (hx : p.tables.exec = Jvm.exec) {x y : Int32} (hd : decode c.code pc = .ok (.isub, 1))  (hp : pc + 1 = pc') (k : Ow p e below s Q kc ks (T.setTop (mkF m pc' Ls (.int (x - y) :: st)))) : Ow p e below s Q kc ks (T.setTop (mkF m pc Ls (.int y :: .int x :: st))) := by
  subst hp; exact Ow.go (XS.isub X.here hx rfl hd rfl (Steps.refl _)) k
theorem w_iand (X : Stand p l e R s m args below meth c T locs cells slots) (hx : p.tables.exec = Jvm.exec) {x y : Int32} (hd : decode c.code pc = .ok (.iand, 1))  (hp : pc + 1 = pc') (k : Ow p e below s Q kc ks (T.setTop (mkF m pc' Ls (.int (x &&& y) :: st)))) : Ow p e below s Q kc ks (T.setTop (mkF m pc Ls (.int y :: .int x :: st))) := by
  subst hp; exact Ow.go (XS.iand X.here hx rfl hd rfl (Steps.refl _)) k
theorem w_iushr (X : Stand p l e R s m args below meth c T locs cells slots) (hx : p.tables.exec = Jvm.exec) {x y : Int32} (hd : decode c.code pc = .ok (.iushr, 1))  (hp : pc + 1 = pc') (k : Ow p e below s Q kc ks (T.setTop (mkF m pc' Ls (.int (lsr32 x y) :: st)))) : Ow p e below s Q kc ks (T.setTop (mkF m pc Ls (.int y :: .int x :: st))) := by
  subst hp; exact Ow.go (XS.iushr X.here hx rfl hd rfl (Steps.refl _)) k
theorem w_irem (X : Stand p l e R s m args below meth c T locs cells slots) (hx : p.tables.exec = Jvm.exec) {x y : Int32} (hd : decode c.code pc = .ok (.irem, 1)) (hy : ¬ y = 0) (hp : pc + 1 = pc') (k : Ow p e below s Q kc ks (T.setTop (mkF m pc' Ls (.int (x % y) :: st)))) : Ow p e below s Q kc ks (T.setTop (mkF m pc Ls (.int y :: .int x :: st))) := by
  subst hp; exact Ow.go (iremM X hx (g := mkF m pc Ls (.int y :: .int x :: st)) rfl hd rfl hy (Steps.refl _)) k
theorem w_dup (X : Stand p l e R s m args below meth c T locs cells slots) (hx : p.tables.exec = Jvm.exec) {x : Value} (hd : decode c.code pc = .ok (.dup, 1)) (hc : x.category = 1) (hp : pc + 1 = pc') (k : Ow p e below s Q kc ks (T.setTop (mkF m pc' Ls (x :: x :: st)))) : Ow p e below s Q kc ks (T.setTop (mkF m pc Ls (x :: st))) := by
  subst hp; exact Ow.go (XS.dup X.here hx rfl hd rfl hc (Steps.refl _)) k
theorem w_goto (X : Stand p l e R s m args below meth c T locs cells slots) (hx : p.tables.exec = Jvm.exec) {o : Int} (hd : decode c.code pc = .ok (.goto o, 3)) (ho : 0 ≤ (pc : Int) + o) (hp : ((pc : Int) + o).toNat = pc') (k : Ow p e below s Q kc ks (T.setTop (mkF m pc' Ls st))) : Ow p e below s Q kc ks (T.setTop (mkF m pc Ls st)) := by
  exact Ow.go (XS.goto X.here hx rfl (pc0 := pc) rfl hd ho hp (Steps.refl _)) k
theorem w_icmp_eq (X : Stand p l e R s m args below meth c T locs cells slots) (hx : p.tables.exec = Jvm.exec) {x y : Int32} {o : Int} {pcT pcF : Nat} (hd : decode c.code pc = .ok (.if_icmp .eq o, 3)) (ho : 0 ≤ (pc : Int) + o) (ht : ((pc : Int) + o).toNat = pcT) (hp : pc + 3 = pcF) (k1 : x = y → Ow p e below s Q kc ks (T.setTop (mkF m pcT Ls st))) (k2 : ¬ (x = y) → Ow p e below s Q kc ks (T.setTop (mkF m pcF Ls st))) : Ow p e below s Q kc ks (T.setTop (mkF m pc Ls (.int y :: .int x :: st))) := by
  subst hp
  by_cases q : x = y
  · exact Ow.go (XS.icmpYes X.here hx rfl (pc0 := pc) rfl hd rfl (teq q).1 ho ht (Steps.refl _)) (k1 q)
  · exact Ow.go (XS.icmpNo X.here hx rfl hd rfl (feq q).1 (Steps.refl _)) (k2 q)
theorem w_if_eq (X : Stand p l e R s m args below meth c T locs cells slots) (hx : p.tables.exec = Jvm.exec) {x : Int32} {o : Int} {pcT pcF : Nat} (hd : decode c.code pc = .ok (.ifCond .eq o, 3)) (ho : 0 ≤ (pc : Int) + o) (ht : ((pc : Int) + o).toNat = pcT) (hp : pc + 3 = pcF) (k1 : x = (0 : Int32) → Ow p e below s Q kc ks (T.setTop (mkF m pcT Ls st))) (k2 : ¬ (x = (0 : Int32)) → Ow p e below s Q kc ks (T.setTop (mkF m pcF Ls st))) : Ow p e below s Q kc ks (T.setTop (mkF m pc Ls (.int x :: st))) := by
  subst hp
  by_cases q : x = (0 : Int32)
  · exact Ow.go (XS.ifYes X.here hx rfl (pc0 := pc) rfl hd rfl ((if0 _ _).trans (teq q).1) ho ht (Steps.refl _)) (k1 q)
  · exact Ow.go (XS.ifNo X.here hx rfl hd rfl ((if0 _ _).trans (feq q).1) (Steps.refl _)) (k2 q)
theorem w_icmp_ne (X : Stand p l e R s m args below meth c T locs cells slots) (hx : p.tables.exec = Jvm.exec) {x y : Int32} {o : Int} {pcT pcF : Nat} (hd : decode c.code pc = .ok (.if_icmp .ne o, 3)) (ho : 0 ≤ (pc : Int) + o) (ht : ((pc : Int) + o).toNat = pcT) (hp : pc + 3 = pcF) (k1 : ¬ (x = y) → Ow p e below s Q kc ks (T.setTop (mkF m pcT Ls st))) (k2 : x = y → Ow p e below s Q kc ks (T.setTop (mkF m pcF Ls st))) : Ow p e below s Q kc ks (T.setTop (mkF m pc Ls (.int y :: .int x :: st))) := by
  subst hp
  by_cases q : x = y
  · exact Ow.go (XS.icmpNo X.here hx rfl hd rfl (teq q).2 (Steps.refl _)) (k2 q)
  · exact Ow.go (XS.icmpYes X.here hx rfl (pc0 := pc) rfl hd rfl (feq q).2 ho ht (Steps.refl _)) (k1 q)
theorem w_if_ne (X : Stand p l e R s m args below meth c T locs cells slots) (hx : p.tables.exec = Jvm.exec) {x : Int32} {o : Int} {pcT pcF : Nat} (hd : decode c.code pc = .ok (.ifCond .ne o, 3)) (ho : 0 ≤ (pc : Int) + o) (ht : ((pc : Int) + o).toNat = pcT) (hp : pc + 3 = pcF) (k1 : ¬ (x = (0 : Int32)) → Ow p e below s Q kc ks (T.setTop (mkF m pcT Ls st))) (k2 : x = (0 : Int32) → Ow p e below s Q kc ks (T.setTop (mkF m pcF Ls st))) : Ow p e below s Q kc ks (T.setTop (mkF m pc Ls (.int x :: st))) := by
  subst hp
  by_cases q : x = (0 : Int32)
  · exact Ow.go (XS.ifNo X.here hx rfl hd rfl ((if0 _ _).trans (teq q).2) (Steps.refl _)) (k2 q)
  · exact Ow.go (XS.ifYes X.here hx rfl (pc0 := pc) rfl hd rfl ((if0 _ _).trans (feq q).2) ho ht (Steps.refl _)) (k1 q)
theorem w_icmp_lt (X : Stand p l e R s m args below meth c T locs cells slots) (hx : p.tables.exec = Jvm.exec) {x y : Int32} {o : Int} {pcT pcF : Nat} (hd : decode c.code pc = .ok (.if_icmp .lt o, 3)) (ho : 0 ≤ (pc : Int) + o) (ht : ((pc : Int) + o).toNat = pcT) (hp : pc + 3 = pcF) (k1 : x < y → Ow p e below s Q kc ks (T.setTop (mkF m pcT Ls st))) (k2 : ¬ (x < y) → Ow p e below s Q kc ks (T.setTop (mkF m pcF Ls st))) : Ow p e below s Q kc ks (T.setTop (mkF m pc Ls (.int y :: .int x :: st))) := by
  subst hp
  by_cases q : x < y
  · exact Ow.go (XS.icmpYes X.here hx rfl (pc0 := pc) rfl hd rfl (tlt q).1 ho ht (Steps.refl _)) (k1 q)
  · exact Ow.go (XS.icmpNo X.here hx rfl hd rfl (flt q).1 (Steps.refl _)) (k2 q)
theorem w_icmp_gt (X : Stand p l e R s m args below meth c T locs cells slots) (hx : p.tables.exec = Jvm.exec) {x y : Int32} {o : Int} {pcT pcF : Nat} (hd : decode c.code pc = .ok (.if_icmp .gt o, 3)) (ho : 0 ≤ (pc : Int) + o) (ht : ((pc : Int) + o).toNat = pcT) (hp : pc + 3 = pcF) (k1 : y < x → Ow p e below s Q kc ks (T.setTop (mkF m pcT Ls st))) (k2 : ¬ (y < x) → Ow p e below s Q kc ks (T.setTop (mkF m pcF Ls st))) : Ow p e below s Q kc ks (T.setTop (mkF m pc Ls (.int y :: .int x :: st))) := by
  subst hp
  by_cases q : y < x
  · exact Ow.go (XS.icmpYes X.here hx rfl (pc0 := pc) rfl hd rfl (tlt q).2.2.1 ho ht (Steps.refl _)) (k1 q)
  · exact Ow.go (XS.icmpNo X.here hx rfl hd rfl (flt q).2.2.1 (Steps.refl _)) (k2 q)
theorem w_icmp_le (X : Stand p l e R s m args below meth c T locs cells slots) (hx : p.tables.exec = Jvm.exec) {x y : Int32} {o : Int} {pcT pcF : Nat} (hd : decode c.code pc = .ok (.if_icmp .le o, 3)) (ho : 0 ≤ (pc : Int) + o) (ht : ((pc : Int) + o).toNat = pcT) (hp : pc + 3 = pcF) (k1 : ¬ (y < x) → Ow p e below s Q kc ks (T.setTop (mkF m pcT Ls st))) (k2 : y < x → Ow p e below s Q kc ks (T.setTop (mkF m pcF Ls st))) : Ow p e below s Q kc ks (T.setTop (mkF m pc Ls (.int y :: .int x :: st))) := by
  subst hp
  by_cases q : y < x
  · exact Ow.go (XS.icmpNo X.here hx rfl hd rfl (tlt q).2.2.2 (Steps.refl _)) (k2 q)
  · exact Ow.go (XS.icmpYes X.here hx rfl (pc0 := pc) rfl hd rfl (flt q).2.2.2 ho ht (Steps.refl _)) (k1 q)
theorem w_zreturn (X : Stand p l e R s m args below meth c T locs cells slots) (hx : p.tables.exec = Jvm.exec) {z : Int32} (hret : meth.sig.returnType = some .boolean) (hz : z = 0 ∨ z = 1) (hlk : meth.locks = false) (hc : cells ≤ kc) (hs : slots ≤ ks) (hd : decode c.code pc = .ok (.ireturn, 1)) (hq : Q (some (.int z)) T.heap locs) : Ow p e below s Q kc ks (T.setTop (mkF m pc Ls (.int z :: st))) := by
  obtain ⟨fs, hr, hrun, hended, hW, hsame⟩ := X.leave (v := some (.int z)) (fun h => by rw [hret] at h; cases h) hlk
  exact ⟨_, _, retOut X hx (t := .boolean) hret (by rcases hz with rfl | rfl <;> rfl) (Or.inl ⟨rfl, Or.inr (Or.inl rfl), _, rfl⟩) hd hr, hrun, hended, _, _, rfl, hq, ⟨_, rfl⟩, hW, hsame.mono hc hs⟩
theorem w_callS (X : Stand p l e R s m args below meth c T locs cells slots) (hx : p.tables.exec = Jvm.exec) (hZ : Z.Warmed39 s.vm) {own : String} {index : Nat} {y : MethodName} {bytes : ByteArray} {maxL : Nat} {ret : Option FieldType} (hown : s.vm.findClass own = some m.cls) (w1 : (Cond.methodLink own index y).before a0 Z = true) (w2 : (Cond.static y).before a0 Z = true) (w3 : (Cond.initialized y.cls).before a0 Z = true) (w4 : (Cond.code y bytes maxL ret).before a0 Z = true) (hy : y.cls ≠ "java/lang/invoke/MethodHandle" ∧ y.cls ≠ "java/lang/invoke/VarHandle") {rm : Room} {as' : Array Value} {Qf : Option Value → Heap → List Loc → Prop} {W : Nat} (hM : MetFree l y (head1 [Cond.code y bytes maxL ret] rm) (fun a U => a = as' ∧ Z.Warmed39 U.vm ∧ U.heap = h) (fun _ _ _ _ _ => True) (fun _ U o U' => ∃ v L, o = .returned v ∧ Qf v U'.heap L ∧ FrameEnd U o U' L rm.cells rm.slots)) (eT : T.heap = h) (hf : rm.frames + 1 ≤ R.frames) (hlo : W + (maxL + 11) + rm.locals ≤ R.locals) (hc : cells + rm.cells ≤ R.cells) (hs : slots + rm.slots ≤ R.slots) (hd : decode c.code pc = .ok (.invokestatic index, 3)) (hsz : Ls.size = c.maxLocals) {argsL rest : List Value} {ps : List FieldType} {r : Option FieldType} (pd : parseMethodDescriptor y.desc = some ⟨ps, r⟩) (hlen : argsL.length = ps.length) (hst : st = argsL.reverse ++ rest) (has : argsL.toArray = as') (hW : (rest.map fun v => v.category).sum ≤ W) (hp : pc + 3 = pc') (k : ∀ v T' L, Stand p l e R s m args below meth c T' (locs ++ L) (cells + rm.cells) (slots + rm.slots) → Qf v T'.heap L → Ow p e below s Q kc ks (T'.setTop (mkF m pc' Ls (v.toList ++ rest)))) : Ow p e below s Q kc ks (T.setTop (mkF m pc Ls st)) := by
  subst hp
  obtain ⟨v, vm₁, ⟨T', L', k', n'⟩, -, X', ⟨L, hq, l1, y1, z1⟩, st'⟩ := Jvm.LawKit.callS X hx hown (mvT hZ w1) (mvT hZ w2) (mvT hZ w3) (mvT hZ w4) hy (backOf (W := W) hM hZ w4 w3 hf hlo) (g := mkF m pc Ls st) rfl hsz (argsL := argsL) (rest := rest) (lenOf pd hlen) hst (by show 2 * 0 + _ ≤ _; omega) hd (fun _ _ => ⟨has, eT, hc, hs⟩)
  dsimp only [Pt.U, Pt.locs, Pt.cells, Pt.slots] at X' l1 y1 z1 st' hq
  subst l1 y1 z1
  exact Ow.via st' (k v T' L X' hq)
theorem w_newarray (X : Stand p l e R s m args below meth c T locs cells slots) (hx : p.tables.exec = Jvm.exec) (hZ : Z.Warmed39 s.vm) {aty : ArrayType} (w : (Cond.arrayClass (newarray.typeOf aty)).before a0 Z = true) (eT : T.heap = h) {n : Int32} (hd : decode c.code pc = .ok (.newarray aty, 2)) (hn : ¬ n < 0) {cap : Nat} (hcap : n.toNatClampNeg ≤ cap) (hb : cap * 8 ≤ 536870912) (hc : cells + 1 ≤ R.cells) (hl : slots + cap ≤ R.slots) {ad : String} (had : "[" ++ (newarray.typeOf aty).toString = ad) (hp : pc + 2 = pc') (k : ∀ T' h' a cA, a = h.size → Stand p l e R s m args below meth c T' locs (cells + 1) (slots + cap) → T'.heap = h' → Ext h h' → Arr Z h' a (newA cA (newarray.typeOf aty) n) (newarray.typeOf aty) → Exa Z h' a ad → Ow p e below s Q kc ks (T'.setTop (mkF m pc' Ls (.ref a :: st)))) : Ow p e below s Q kc ks (T.setTop (mkF m pc Ls (.int n :: st))) := by
  subst hp
  obtain ⟨T', h', cA, X', e', E', A', B', st'⟩ := newPE X hx hZ w eT (g := mkF m pc Ls (.int n :: st)) rfl hd rfl hn hcap hb hc hl had
  exact Ow.via st' (k T' h' _ cA rfl X' e' E' A' B')
theorem w_iastore (X : Stand p l e R s m args below meth c T locs cells slots) (hx : p.tables.exec = Jvm.exec) (hZ : Z.Warmed39 s.vm) (eT : T.heap = h) {a : Addr} {cl : Cell} (A : Arr Z h a cl .int) {j x : Int32} (hj : ¬ (j < 0 ∨ cl.slots.size ≤ j.toNatClampNeg)) (hd : decode c.code pc = .ok (.iastore, 1)) (hp : pc + 1 = pc') (k : ∀ T' h', Stand p l e R s m args below meth c T' (locs ++ [⟨a, j.toNatClampNeg⟩]) cells slots → T'.heap = h' → Wr h h' a j.toNatClampNeg (.int x) → Ow p e below s Q kc ks (T'.setTop (mkF m pc' Ls st))) : Ow p e below s Q kc ks (T.setTop (mkF m pc Ls (.int x :: .int j :: .ref a :: st))) := by
  subst hp
  obtain ⟨T', h', X', e', W', st'⟩ := stI X hx hZ eT A hj (g := mkF m pc Ls (.int x :: .int j :: .ref a :: st)) rfl rfl hd
  exact Ow.via st' (k T' h' X' e' W')
theorem w_bastore (X : Stand p l e R s m args below meth c T locs cells slots) (hx : p.tables.exec = Jvm.exec) (hZ : Z.Warmed39 s.vm) (eT : T.heap = h) {a : Addr} {cl : Cell} (A : Arr Z h a cl .byte) {j x : Int32} (hj : ¬ (j < 0 ∨ cl.slots.size ≤ j.toNatClampNeg)) (hd : decode c.code pc = .ok (.bastore, 1)) (hp : pc + 1 = pc') (k : ∀ T' h', Stand p l e R s m args below meth c T' (locs ++ [⟨a, j.toNatClampNeg⟩]) cells slots → T'.heap = h' → Wr h h' a j.toNatClampNeg (.int (nar .byte x)) → Ow p e below s Q kc ks (T'.setTop (mkF m pc' Ls st))) : Ow p e below s Q kc ks (T.setTop (mkF m pc Ls (.int x :: .int j :: .ref a :: st))) := by
  subst hp
  obtain ⟨T', h', X', e', W', st'⟩ := stB X hx hZ eT A hj (g := mkF m pc Ls (.int x :: .int j :: .ref a :: st)) rfl rfl hd
  exact Ow.via st' (k T' h' X' e' W')
theorem w_iaload (X : Stand p l e R s m args below meth c T locs cells slots) (hx : p.tables.exec = Jvm.exec) (hZ : Z.Warmed39 s.vm) (eT : T.heap = h) {a : Addr} {cl : Cell} (A : Arr Z h a cl .int) {j x : Int32} (hj : ¬ (j < 0 ∨ cl.slots.size ≤ j.toNatClampNeg)) (hv : cl.slots[j.toNatClampNeg]? = some (.int x)) (hd : decode c.code pc = .ok (.iaload, 1)) (hp : pc + 1 = pc') (k : Ow p e below s Q kc ks (T.setTop (mkF m pc' Ls (.int x :: st)))) : Ow p e below s Q kc ks (T.setTop (mkF m pc Ls (.int j :: .ref a :: st))) := by
  subst hp
  exact Ow.via (X.iaload hx (j := j) (v := .int x) (by rw [eT]; exact A.1) (State.isArrayOf_alike hZ.alike A.2.1) A.2.2 hj hv (g := mkF m pc Ls (.int j :: .ref a :: st)) rfl rfl hd) k
theorem w_baload (X : Stand p l e R s m args below meth c T locs cells slots) (hx : p.tables.exec = Jvm.exec) (hZ : Z.Warmed39 s.vm) (eT : T.heap = h) {a : Addr} {cl : Cell} (A : Arr Z h a cl .byte) {j x : Int32} (hj : ¬ (j < 0 ∨ cl.slots.size ≤ j.toNatClampNeg)) (hv : cl.slots[j.toNatClampNeg]? = some (.int x)) (hd : decode c.code pc = .ok (.baload, 1)) (hp : pc + 1 = pc') (k : Ow p e below s Q kc ks (T.setTop (mkF m pc' Ls (.int x :: st)))) : Ow p e below s Q kc ks (T.setTop (mkF m pc Ls (.int j :: .ref a :: st))) := by
  subst hp
  exact Ow.via (X.baloadBytes hx (j := j) (v := .int x) (by rw [eT]; exact A.1) (State.isArrayOf_alike hZ.alike A.2.1) A.2.2 hj hv (g := mkF m pc Ls (.int j :: .ref a :: st)) rfl rfl hd) k
theorem w_arraylength (X : Stand p l e R s m args below meth c T locs cells slots) (hx : p.tables.exec = Jvm.exec) (hZ : Z.Warmed39 s.vm) (eT : T.heap = h) {a : Addr} {cl : Cell} {ty : FieldType} (A : Arr Z h a cl ty) {n : Int32} (hn : cl.slots.size.toInt32 = n) (hd : decode c.code pc = .ok (.arraylength, 1)) (hp : pc + 1 = pc') (k : Ow p e below s Q kc ks (T.setTop (mkF m pc' Ls (.int n :: st)))) : Ow p e below s Q kc ks (T.setTop (mkF m pc Ls (.ref a :: st))) := by
  subst hp hn
  exact Ow.via (X.arraylength hx (by rw [eT]; exact A.1) (State.isArrayOf_alike hZ.alike A.2.1) (g := mkF m pc Ls (.ref a :: st)) rfl rfl hd) k
end W
section IA
/-- an array of ints or of bytes: its length, and what lies at each place -/
def IAr (Z : State) (h : Heap) (a : Addr) (ty : FieldType) (n : Nat) (f : Nat → Int32) : Prop := ∃ cl : Cell, Arr Z h a cl ty ∧ cl.slots.size = n ∧ n < 2 ^ 31 ∧ ∀ i, i < n → cl.slots[i]? = some (.int (f i))
variable {Z : State} {h h' : Heap} {a b : Addr} {ty : FieldType} {n i sl : Nat} {f f' : Nat → Int32} {x : Int32} {v : Value} {ws : List Addr}
theorem own_clamp {j : Int32} {i : Nat} (hj : j.toInt = (i : Int)) : j.toNatClampNeg = i := by
  show j.toInt.toNat = i
  rw [hj]; exact Int.toNat_natCast i
theorem own_zero : (0 : Int32).toInt = 0 := by decide
theorem own_inb {j : Int32} {cl : Cell} (hj : j.toInt = (i : Int)) (hs : cl.slots.size = n) (hi : i < n) : ¬ (j < 0 ∨ cl.slots.size ≤ j.toNatClampNeg) := by
  rw [own_clamp hj, hs]
  rintro (q | q)
  · rw [Int32.lt_iff_toInt_lt, hj, own_zero] at q; omega
  · omega
theorem IAr.lt (A : IAr Z h a ty n f) : a < h.size := by obtain ⟨cl, A, -⟩ := A; exact A.lt
theorem IAr.ext (A : IAr Z h a ty n f) (E : Ext h h') : IAr Z h' a ty n f := by obtain ⟨cl, A, r⟩ := A; exact ⟨cl, A.ext E, r⟩
theorem IAr.keep (A : IAr Z h a ty n f) (K : Keep h h' ws) (q : a ∉ ws) : IAr Z h' a ty n f := by obtain ⟨cl, A, r⟩ := A; exact ⟨cl, ⟨K.2.1 a cl A.1 q, A.2⟩, r⟩
theorem IAr.other (A : IAr Z h b ty n f) (W : Wr h h' a sl v) (q : b ≠ a) : IAr Z h' b ty n f := by obtain ⟨cl, A, r⟩ := A; exact ⟨cl, A.other W q, r⟩
theorem IAr.congr (A : IAr Z h a ty n f) (q : ∀ i, i < n → f i = f' i) : IAr Z h a ty n f' := by obtain ⟨cl, A, r1, r2, r3⟩ := A; exact ⟨cl, A, r1, r2, fun i hi => by rw [← q i hi]; exact r3 i hi⟩
theorem own_slot_hit {cl : Cell} {k : Nat} {v : Value} (hk : k < cl.slots.size) : (cl.setSlot k v).slots[k]? = some v := by
  show (cl.slots.setIfInBounds k v)[k]? = some v
  rw [Array.getElem?_setIfInBounds_self_of_lt hk]
theorem own_slot_miss {cl : Cell} {k i : Nat} {v : Value} (q : i ≠ k) : (cl.setSlot i v).slots[k]? = cl.slots[k]? := by
  show (cl.slots.setIfInBounds i v)[k]? = cl.slots[k]?
  rw [Array.getElem?_setIfInBounds_ne q]
theorem IAr.set (A : IAr Z h a ty n f) (W : Wr h h' a i (.int x)) (hi : i < n) : IAr Z h' a ty n (upd f i x) := by
  obtain ⟨cl, A, hs, hn, H⟩ := A
  refine ⟨_, A.same W, by rw [sz_set]; exact hs, hn, fun k hk => ?_⟩
  by_cases q : k = i
  · subst q; rw [own_slot_hit (by omega)]; show _ = some (Value.int (if k = k then x else f k)); rw [if_pos rfl]
  · rw [own_slot_miss (fun z => q z.symm), H k hk]; show _ = some (Value.int (if k = i then x else f k)); rw [if_neg q]
theorem IAr.new {cA : ClassId} {z : Int32} (A : Arr Z h a (newA cA ty z) ty) (hd : defaultValue ty = .int 0) (hz : z.toInt = (n : Int)) : IAr Z h a ty n (fun _ => 0) := by
  have hn : n < 2 ^ 31 := by have := Int32.toInt_lt z; omega
  refine ⟨_, A, by rw [sz_new, own_clamp hz], hn, fun i hi => ?_⟩
  show (Array.replicate z.toNatClampNeg (defaultValue ty))[i]? = _
  rw [own_clamp hz, hd, Array.getElem?_replicate, if_pos hi]
theorem IAr.len (A : IAr Z h a ty n f) : n < 2 ^ 31 := by obtain ⟨cl, -, -, hn, -⟩ := A; exact hn
end IA
section WA
variable {p : Program} {l : Launch} {e : Env} {R : Room} {s : State} {m : MethodId} {args : Array Value} {below : List Frame} {meth : Method} {c : Code} {T : State} {locs : List Loc} {cells slots : Nat} {Q : Option Value → Heap → List Loc → Prop} {kc ks : Nat} {pc pc' : Nat} {Ls Ls' : Array Slot} {st : List Value} {Z : State} {a0 : Array Value} {h : Heap} {a : Addr} {n i : Nat} {f : Nat → Int32} {j x : Int32}
theorem w_ialoadA (X : Stand p l e R s m args below meth c T locs cells slots) (hx : p.tables.exec = Jvm.exec) (hZ : Z.Warmed39 s.vm) (eT : T.heap = h) (A : IAr Z h a .int n f) (i : Nat) (hj : j.toInt = (i : Int)) (hi : i < n) (hd : decode c.code pc = .ok (.iaload, 1)) (hp : pc + 1 = pc') (k : Ow p e below s Q kc ks (T.setTop (mkF m pc' Ls (.int (f i) :: st)))) : Ow p e below s Q kc ks (T.setTop (mkF m pc Ls (.int j :: .ref a :: st))) := by
  obtain ⟨cl, A, hs, hn, H⟩ := A
  exact w_iaload X hx hZ eT A (own_inb hj hs hi) (by rw [own_clamp hj]; exact H i hi) hd hp k
theorem w_baloadA (X : Stand p l e R s m args below meth c T locs cells slots) (hx : p.tables.exec = Jvm.exec) (hZ : Z.Warmed39 s.vm) (eT : T.heap = h) (A : IAr Z h a .byte n f) (i : Nat) (hj : j.toInt = (i : Int)) (hi : i < n) (hd : decode c.code pc = .ok (.baload, 1)) (hp : pc + 1 = pc') (k : Ow p e below s Q kc ks (T.setTop (mkF m pc' Ls (.int (f i) :: st)))) : Ow p e below s Q kc ks (T.setTop (mkF m pc Ls (.int j :: .ref a :: st))) := by
  obtain ⟨cl, A, hs, hn, H⟩ := A
  exact w_baload X hx hZ eT A (own_inb hj hs hi) (by rw [own_clamp hj]; exact H i hi) hd hp k
theorem w_iastoreA (X : Stand p l e R s m args below meth c T locs cells slots) (hx : p.tables.exec = Jvm.exec) (hZ : Z.Warmed39 s.vm) (eT : T.heap = h) (A : IAr Z h a .int n f) (i : Nat) (hj : j.toInt = (i : Int)) (hi : i < n) (hd : decode c.code pc = .ok (.iastore, 1)) (hp : pc + 1 = pc') (k : ∀ T' h', Stand p l e R s m args below meth c T' (locs ++ [⟨a, i⟩]) cells slots → T'.heap = h' → Wr h h' a i (.int x) → IAr Z h' a .int n (upd f i x) → Ow p e below s Q kc ks (T'.setTop (mkF m pc' Ls st))) : Ow p e below s Q kc ks (T.setTop (mkF m pc Ls (.int x :: .int j :: .ref a :: st))) := by
  have A0 := A
  obtain ⟨cl, A, hs, hn, H⟩ := A
  refine w_iastore X hx hZ eT A (own_inb hj hs hi) hd hp ?_
  intro T' h' X' e' W'
  rw [own_clamp hj] at X' W'
  exact k T' h' X' e' W' (A0.set W' hi)
theorem w_bastoreA (X : Stand p l e R s m args below meth c T locs cells slots) (hx : p.tables.exec = Jvm.exec) (hZ : Z.Warmed39 s.vm) (eT : T.heap = h) (A : IAr Z h a .byte n f) (i : Nat) (hj : j.toInt = (i : Int)) (hi : i < n) (hd : decode c.code pc = .ok (.bastore, 1)) (hp : pc + 1 = pc') (k : ∀ T' h', Stand p l e R s m args below meth c T' (locs ++ [⟨a, i⟩]) cells slots → T'.heap = h' → Wr h h' a i (.int (nar .byte x)) → IAr Z h' a .byte n (upd f i (nar .byte x)) → Ow p e below s Q kc ks (T'.setTop (mkF m pc' Ls st))) : Ow p e below s Q kc ks (T.setTop (mkF m pc Ls (.int x :: .int j :: .ref a :: st))) := by
  have A0 := A
  obtain ⟨cl, A, hs, hn, H⟩ := A
  refine w_bastore X hx hZ eT A (own_inb hj hs hi) hd hp ?_
  intro T' h' X' e' W'
  rw [own_clamp hj] at X' W'
  exact k T' h' X' e' W' (A0.set W' hi)
theorem w_lengthA (X : Stand p l e R s m args below meth c T locs cells slots) (hx : p.tables.exec = Jvm.exec) (hZ : Z.Warmed39 s.vm) (eT : T.heap = h) {ty : FieldType} (A : IAr Z h a ty n f) (z : Int32) (hz : z.toInt = (n : Int)) (hd : decode c.code pc = .ok (.arraylength, 1)) (hp : pc + 1 = pc') (k : Ow p e below s Q kc ks (T.setTop (mkF m pc' Ls (.int z :: st)))) : Ow p e below s Q kc ks (T.setTop (mkF m pc Ls (.ref a :: st))) := by
  obtain ⟨cl, A, hs, hn, H⟩ := A
  refine w_arraylength X hx hZ eT A ?_ hd hp k
  rw [hs]; exact Int32.toInt_inj.mp ((len_toInt hn).trans hz.symm)
end WA
theorem d1_0 : decode method_2_code 0 = .ok (.iload_n 0, 1) := by decide +kernel
theorem d1_1 : decode method_2_code 1 = .ok (.sipush 1564, 3) := by decide +kernel
theorem d1_4 : decode method_2_code 4 = .ok (.if_icmp .eq 17, 3) := by decide +kernel
theorem d1_21 : decode method_2_code 21 = .ok (.iconst 1, 1) := by decide +kernel
theorem d1_22 : decode method_2_code 22 = .ok (.ireturn, 1) := by decide +kernel
theorem d1_7 : decode method_2_code 7 = .ok (.iload_n 0, 1) := by decide +kernel
theorem d1_8 : decode method_2_code 8 = .ok (.sipush 8206, 3) := by decide +kernel
theorem d1_11 : decode method_2_code 11 = .ok (.if_icmp .eq 10, 3) := by decide +kernel
theorem d1_14 : decode method_2_code 14 = .ok (.iload_n 0, 1) := by decide +kernel
theorem d1_15 : decode method_2_code 15 = .ok (.sipush 8207, 3) := by decide +kernel
theorem d1_18 : decode method_2_code 18 = .ok (.if_icmp .ne 5, 3) := by decide +kernel
theorem d1_23 : decode method_2_code 23 = .ok (.iload_n 0, 1) := by decide +kernel
theorem d1_24 : decode method_2_code 24 = .ok (.sipush 8234, 3) := by decide +kernel
theorem d1_27 : decode method_2_code 27 = .ok (.if_icmp .lt 12, 3) := by decide +kernel
theorem d1_39 : decode method_2_code 39 = .ok (.iload_n 0, 1) := by decide +kernel
theorem d1_40 : decode method_2_code 40 = .ok (.sipush 8294, 3) := by decide +kernel
theorem d1_43 : decode method_2_code 43 = .ok (.if_icmp .lt 14, 3) := by decide +kernel
theorem d1_57 : decode method_2_code 57 = .ok (.iconst 0, 1) := by decide +kernel
theorem d1_58 : decode method_2_code 58 = .ok (.ireturn, 1) := by decide +kernel
theorem d1_46 : decode method_2_code 46 = .ok (.iload_n 0, 1) := by decide +kernel
theorem d1_47 : decode method_2_code 47 = .ok (.sipush 8297, 3) := by decide +kernel
theorem d1_50 : decode method_2_code 50 = .ok (.if_icmp .gt 7, 3) := by decide +kernel
theorem d1_53 : decode method_2_code 53 = .ok (.iconst 1, 1) := by decide +kernel
theorem d1_54 : decode method_2_code 54 = .ok (.goto 4, 3) := by decide +kernel
theorem d1_30 : decode method_2_code 30 = .ok (.iload_n 0, 1) := by decide +kernel
theorem d1_31 : decode method_2_code 31 = .ok (.sipush 8238, 3) := by decide +kernel
theorem d1_34 : decode method_2_code 34 = .ok (.if_icmp .gt 5, 3) := by decide +kernel
theorem d1_37 : decode method_2_code 37 = .ok (.iconst 1, 1) := by decide +kernel
theorem d1_38 : decode method_2_code 38 = .ok (.ireturn, 1) := by decide +kernel
theorem ef_1 (m : MethodId) (p0 : Int32) : entryFrame m #[(.int p0)] 1 = mkF m 0 #[.val (.int p0)] [] := by first | (simp [entryFrame, mkF, argsToLocals, Value.category]; done) | rfl
theorem pn_0 : plainName "com/example/metadata_for_discovery/metadatafordiscovery/validation/BlankIsInvisiblePinLaw" = true := by first | (simp [plainName, overriddenIn]; done) | decide +kernel
theorem d2_0 : decode method_3_code 0 = .ok (.iload_n 0, 1) := by decide +kernel
theorem d2_1 : decode method_3_code 1 = .ok (.sipush 8203, 3) := by decide +kernel
theorem d2_4 : decode method_3_code 4 = .ok (.if_icmp .lt 12, 3) := by decide +kernel
theorem d2_16 : decode method_3_code 16 = .ok (.iload_n 0, 1) := by decide +kernel
theorem d2_17 : decode method_3_code 17 = .ok (.sipush 8288, 3) := by decide +kernel
theorem d2_20 : decode method_3_code 20 = .ok (.if_icmp .eq 9, 3) := by decide +kernel
theorem d2_29 : decode method_3_code 29 = .ok (.iconst 1, 1) := by decide +kernel
theorem d2_30 : decode method_3_code 30 = .ok (.goto 4, 3) := by decide +kernel
theorem d2_34 : decode method_3_code 34 = .ok (.ireturn, 1) := by decide +kernel
theorem d2_23 : decode method_3_code 23 = .ok (.iload_n 0, 1) := by decide +kernel
theorem d2_24 : decode method_3_code 24 = .ok (.ldc 7, 2) := by decide +kernel
theorem d2_26 : decode method_3_code 26 = .ok (.if_icmp .ne 7, 3) := by decide +kernel
theorem d2_33 : decode method_3_code 33 = .ok (.iconst 0, 1) := by decide +kernel
theorem d2_7 : decode method_3_code 7 = .ok (.iload_n 0, 1) := by decide +kernel
theorem d2_8 : decode method_3_code 8 = .ok (.sipush 8205, 3) := by decide +kernel
theorem d2_11 : decode method_3_code 11 = .ok (.if_icmp .gt 5, 3) := by decide +kernel
theorem d2_14 : decode method_3_code 14 = .ok (.iconst 1, 1) := by decide +kernel
theorem d2_15 : decode method_3_code 15 = .ok (.ireturn, 1) := by decide +kernel
theorem ef_2 (m : MethodId) (p0 : Int32) : entryFrame m #[(.int p0)] 1 = mkF m 0 #[.val (.int p0)] [] := by first | (simp [entryFrame, mkF, argsToLocals, Value.category]; done) | rfl
theorem d3_0 : decode prog_110_method_5_code 0 = .ok (.iload_n 0, 1) := by decide +kernel
theorem d3_1 : decode prog_110_method_5_code 1 = .ok (.sipush 1564, 3) := by decide +kernel
theorem d3_4 : decode prog_110_method_5_code 4 = .ok (.if_icmp .eq 58, 3) := by decide +kernel
theorem d3_62 : decode prog_110_method_5_code 62 = .ok (.iconst 1, 1) := by decide +kernel
theorem d3_63 : decode prog_110_method_5_code 63 = .ok (.goto 4, 3) := by decide +kernel
theorem d3_67 : decode prog_110_method_5_code 67 = .ok (.ireturn, 1) := by decide +kernel
theorem d3_7 : decode prog_110_method_5_code 7 = .ok (.iload_n 0, 1) := by decide +kernel
theorem d3_8 : decode prog_110_method_5_code 8 = .ok (.sipush 8203, 3) := by decide +kernel
theorem d3_11 : decode prog_110_method_5_code 11 = .ok (.if_icmp .lt 10, 3) := by decide +kernel
theorem d3_21 : decode prog_110_method_5_code 21 = .ok (.iload_n 0, 1) := by decide +kernel
theorem d3_22 : decode prog_110_method_5_code 22 = .ok (.sipush 8234, 3) := by decide +kernel
theorem d3_25 : decode prog_110_method_5_code 25 = .ok (.if_icmp .lt 10, 3) := by decide +kernel
theorem d3_35 : decode prog_110_method_5_code 35 = .ok (.iload_n 0, 1) := by decide +kernel
theorem d3_36 : decode prog_110_method_5_code 36 = .ok (.sipush 8288, 3) := by decide +kernel
theorem d3_39 : decode prog_110_method_5_code 39 = .ok (.if_icmp .eq 23, 3) := by decide +kernel
theorem d3_42 : decode prog_110_method_5_code 42 = .ok (.iload_n 0, 1) := by decide +kernel
theorem d3_43 : decode prog_110_method_5_code 43 = .ok (.sipush 8294, 3) := by decide +kernel
theorem d3_46 : decode prog_110_method_5_code 46 = .ok (.if_icmp .lt 10, 3) := by decide +kernel
theorem d3_56 : decode prog_110_method_5_code 56 = .ok (.iload_n 0, 1) := by decide +kernel
theorem d3_57 : decode prog_110_method_5_code 57 = .ok (.ldc 35, 2) := by decide +kernel
theorem d3_59 : decode prog_110_method_5_code 59 = .ok (.if_icmp .ne 7, 3) := by decide +kernel
theorem d3_66 : decode prog_110_method_5_code 66 = .ok (.iconst 0, 1) := by decide +kernel
theorem d3_49 : decode prog_110_method_5_code 49 = .ok (.iload_n 0, 1) := by decide +kernel
theorem d3_50 : decode prog_110_method_5_code 50 = .ok (.sipush 8297, 3) := by decide +kernel
theorem d3_53 : decode prog_110_method_5_code 53 = .ok (.if_icmp .le 9, 3) := by decide +kernel
theorem d3_28 : decode prog_110_method_5_code 28 = .ok (.iload_n 0, 1) := by decide +kernel
theorem d3_29 : decode prog_110_method_5_code 29 = .ok (.sipush 8238, 3) := by decide +kernel
theorem d3_32 : decode prog_110_method_5_code 32 = .ok (.if_icmp .le 30, 3) := by decide +kernel
theorem d3_14 : decode prog_110_method_5_code 14 = .ok (.iload_n 0, 1) := by decide +kernel
theorem d3_15 : decode prog_110_method_5_code 15 = .ok (.sipush 8207, 3) := by decide +kernel
theorem d3_18 : decode prog_110_method_5_code 18 = .ok (.if_icmp .le 44, 3) := by decide +kernel
theorem ef_3 (m : MethodId) (p0 : Int32) : entryFrame m #[(.int p0)] 1 = mkF m 0 #[.val (.int p0)] [] := by first | (simp [entryFrame, mkF, argsToLocals, Value.category]; done) | rfl
theorem pn_1 : plainName "com/example/metadata_for_discovery/metadatafordiscovery/validation/Blank" = true := by first | (simp [plainName, overriddenIn]; done) | decide +kernel
/-- BlankIsInvisiblePinLaw.bidiControl -/
def bidi (p0 : Int32) : Int32 := (if p0 = (1564 : Int32) then (1 : Int32) else (if p0 = (8206 : Int32) then (1 : Int32) else (if p0 = (8207 : Int32) then (1 : Int32) else (if p0 < (8234 : Int32) then (if p0 < (8294 : Int32) then (0 : Int32) else (if (8297 : Int32) < p0 then (0 : Int32) else (1 : Int32))) else (if (8238 : Int32) < p0 then (if p0 < (8294 : Int32) then (0 : Int32) else (if (8297 : Int32) < p0 then (0 : Int32) else (1 : Int32))) else (1 : Int32))))))
def Q1 (p0 : Int32) (h0 : Heap) (v : Option Value) (h : Heap) (L : List Loc) : Prop := v = some (.int (bidi p0)) ∧ h = h0 ∧ L = []
set_option maxRecDepth 65536 in
set_option maxHeartbeats 40000000 in
theorem rm1 (l : Launch) (Z : State) (aw : Array Value) (hw : ∀ d ∈ tables_1, d.before aw Z = true) (ws : List Jvm.Cond) (p0 : Int32) (h0 : Heap) :
    MetFree l (⟨"com/example/metadata_for_discovery/metadatafordiscovery/validation/BlankIsInvisiblePinLaw", "bidiControl", "(I)Z"⟩ : MethodName) (head1 (Jvm.Cond.code (⟨"com/example/metadata_for_discovery/metadatafordiscovery/validation/BlankIsInvisiblePinLaw", "bidiControl", "(I)Z"⟩ : MethodName) method_2_code 1 (some .boolean) :: ws) ({ frames := 0, cells := 0, slots := 0, locals := 0 } : Room)) (fun a U => a = #[(.int p0)] ∧ Z.Warmed39 U.vm ∧ U.heap = h0) (fun _ _ _ _ _ => True) (fun _ U o U' => ∃ v L, o = .returned v ∧ Q1 p0 h0 v U'.heap L ∧ FrameEnd U o U' L ({ frames := 0, cells := 0, slots := 0, locals := 0 } : Room).cells ({ frames := 0, cells := 0, slots := 0, locals := 0 } : Room).slots) := by
  refine MetFree.of_bodySF (plainFor_of_name pn_0) hisR ?_
  intro p e s m args below meth c s₁ Bd hml0 hP _hKK
  obtain ⟨rfl, hZ, hh⟩ := hP
  have hx := Bd.exec
  have hby := Bd.bytes
  have hml : c.maxLocals = 1 := hml0
  have hown : s.vm.findClass "com/example/metadata_for_discovery/metadatafordiscovery/validation/BlankIsInvisiblePinLaw" = some m.cls := findClass_of_methodNamed Bd.named
  have hnm := (name_of_methodNamed Bd.named Bd.method).1
  have X0 : Stand p l e ({ frames := 0, cells := 0, slots := 0, locals := 0 } : Room) s m #[(.int p0)] below meth c s₁ [] 0 0 := Stand.of_body Bd
  have e0 : s₁.heap = h0 := by rw [← hh, Bd.state]; rfl
  refine Ow.enter (Q := Q1 p0 h0) (ef_1 m p0) ?_
  show Ow p e below s _ _ _ (s₁.setTop (mkF m 0 #[.val (.int p0)] []))
  refine w_iloadN X0 hx (Jvm.hb hby d1_0) rfl (pc' := 1) rfl ?_
  refine w_sipush X0 hx (1564 : Int32) (Jvm.hb hby d1_1) (by decide) (pc' := 4) rfl ?_
  refine w_icmp_eq X0 hx (Jvm.hb hby d1_4) (by decide) (pcT := 21) (by decide) (pcF := 7) rfl (fun hc4_0 => ?_) (fun hc4_0 => ?_)
  · refine w_iconst X0 hx (1 : Int32) (Jvm.hb hby d1_21) (by decide) (pc' := 22) rfl ?_
    exact w_zreturn X0 hx Bd.returns (Or.inr rfl) (BodyLoose.notSynchronized Bd) (Nat.le_of_ble_eq_true rfl) (Nat.le_of_ble_eq_true rfl) (Jvm.hb hby d1_22) ⟨congrArg (fun z => some (Value.int z)) (show (1 : Int32) = bidi p0 from by unfold bidi; rw [if_pos hc4_0]), e0, rfl⟩
  · refine w_iloadN X0 hx (Jvm.hb hby d1_7) rfl (pc' := 8) rfl ?_
    refine w_sipush X0 hx (8206 : Int32) (Jvm.hb hby d1_8) (by decide) (pc' := 11) rfl ?_
    refine w_icmp_eq X0 hx (Jvm.hb hby d1_11) (by decide) (pcT := 21) (by decide) (pcF := 14) rfl (fun hc11_1 => ?_) (fun hc11_1 => ?_)
    · refine w_iconst X0 hx (1 : Int32) (Jvm.hb hby d1_21) (by decide) (pc' := 22) rfl ?_
      exact w_zreturn X0 hx Bd.returns (Or.inr rfl) (BodyLoose.notSynchronized Bd) (Nat.le_of_ble_eq_true rfl) (Nat.le_of_ble_eq_true rfl) (Jvm.hb hby d1_22) ⟨congrArg (fun z => some (Value.int z)) (show (1 : Int32) = bidi p0 from by unfold bidi; rw [if_neg hc4_0, if_pos hc11_1]), e0, rfl⟩
    · refine w_iloadN X0 hx (Jvm.hb hby d1_14) rfl (pc' := 15) rfl ?_
      refine w_sipush X0 hx (8207 : Int32) (Jvm.hb hby d1_15) (by decide) (pc' := 18) rfl ?_
      refine w_icmp_ne X0 hx (Jvm.hb hby d1_18) (by decide) (pcT := 23) (by decide) (pcF := 21) rfl (fun hc18_2 => ?_) (fun hc18_2 => ?_)
      · refine w_iloadN X0 hx (Jvm.hb hby d1_23) rfl (pc' := 24) rfl ?_
        refine w_sipush X0 hx (8234 : Int32) (Jvm.hb hby d1_24) (by decide) (pc' := 27) rfl ?_
        refine w_icmp_lt X0 hx (Jvm.hb hby d1_27) (by decide) (pcT := 39) (by decide) (pcF := 30) rfl (fun hc27_3 => ?_) (fun hc27_3 => ?_)
        · refine w_iloadN X0 hx (Jvm.hb hby d1_39) rfl (pc' := 40) rfl ?_
          refine w_sipush X0 hx (8294 : Int32) (Jvm.hb hby d1_40) (by decide) (pc' := 43) rfl ?_
          refine w_icmp_lt X0 hx (Jvm.hb hby d1_43) (by decide) (pcT := 57) (by decide) (pcF := 46) rfl (fun hc43_4 => ?_) (fun hc43_4 => ?_)
          · refine w_iconst X0 hx (0 : Int32) (Jvm.hb hby d1_57) (by decide) (pc' := 58) rfl ?_
            exact w_zreturn X0 hx Bd.returns (Or.inl rfl) (BodyLoose.notSynchronized Bd) (Nat.le_of_ble_eq_true rfl) (Nat.le_of_ble_eq_true rfl) (Jvm.hb hby d1_58) ⟨congrArg (fun z => some (Value.int z)) (show (0 : Int32) = bidi p0 from by unfold bidi; rw [if_neg hc4_0, if_neg hc11_1, if_neg hc18_2, if_pos hc27_3, if_pos hc43_4]), e0, rfl⟩
          · refine w_iloadN X0 hx (Jvm.hb hby d1_46) rfl (pc' := 47) rfl ?_
            refine w_sipush X0 hx (8297 : Int32) (Jvm.hb hby d1_47) (by decide) (pc' := 50) rfl ?_
            refine w_icmp_gt X0 hx (Jvm.hb hby d1_50) (by decide) (pcT := 57) (by decide) (pcF := 53) rfl (fun hc50_5 => ?_) (fun hc50_5 => ?_)
            · refine w_iconst X0 hx (0 : Int32) (Jvm.hb hby d1_57) (by decide) (pc' := 58) rfl ?_
              exact w_zreturn X0 hx Bd.returns (Or.inl rfl) (BodyLoose.notSynchronized Bd) (Nat.le_of_ble_eq_true rfl) (Nat.le_of_ble_eq_true rfl) (Jvm.hb hby d1_58) ⟨congrArg (fun z => some (Value.int z)) (show (0 : Int32) = bidi p0 from by unfold bidi; rw [if_neg hc4_0, if_neg hc11_1, if_neg hc18_2, if_pos hc27_3, if_neg hc43_4, if_pos hc50_5]), e0, rfl⟩
            · refine w_iconst X0 hx (1 : Int32) (Jvm.hb hby d1_53) (by decide) (pc' := 54) rfl ?_
              refine w_goto X0 hx (Jvm.hb hby d1_54) (by decide) (pc' := 58) (by decide) ?_
              exact w_zreturn X0 hx Bd.returns (Or.inr rfl) (BodyLoose.notSynchronized Bd) (Nat.le_of_ble_eq_true rfl) (Nat.le_of_ble_eq_true rfl) (Jvm.hb hby d1_58) ⟨congrArg (fun z => some (Value.int z)) (show (1 : Int32) = bidi p0 from by unfold bidi; rw [if_neg hc4_0, if_neg hc11_1, if_neg hc18_2, if_pos hc27_3, if_neg hc43_4, if_neg hc50_5]), e0, rfl⟩
        · refine w_iloadN X0 hx (Jvm.hb hby d1_30) rfl (pc' := 31) rfl ?_
          refine w_sipush X0 hx (8238 : Int32) (Jvm.hb hby d1_31) (by decide) (pc' := 34) rfl ?_
          refine w_icmp_gt X0 hx (Jvm.hb hby d1_34) (by decide) (pcT := 39) (by decide) (pcF := 37) rfl (fun hc34_4 => ?_) (fun hc34_4 => ?_)
          · refine w_iloadN X0 hx (Jvm.hb hby d1_39) rfl (pc' := 40) rfl ?_
            refine w_sipush X0 hx (8294 : Int32) (Jvm.hb hby d1_40) (by decide) (pc' := 43) rfl ?_
            refine w_icmp_lt X0 hx (Jvm.hb hby d1_43) (by decide) (pcT := 57) (by decide) (pcF := 46) rfl (fun hc43_5 => ?_) (fun hc43_5 => ?_)
            · refine w_iconst X0 hx (0 : Int32) (Jvm.hb hby d1_57) (by decide) (pc' := 58) rfl ?_
              exact w_zreturn X0 hx Bd.returns (Or.inl rfl) (BodyLoose.notSynchronized Bd) (Nat.le_of_ble_eq_true rfl) (Nat.le_of_ble_eq_true rfl) (Jvm.hb hby d1_58) ⟨congrArg (fun z => some (Value.int z)) (show (0 : Int32) = bidi p0 from by unfold bidi; rw [if_neg hc4_0, if_neg hc11_1, if_neg hc18_2, if_neg hc27_3, if_pos hc34_4, if_pos hc43_5]), e0, rfl⟩
            · refine w_iloadN X0 hx (Jvm.hb hby d1_46) rfl (pc' := 47) rfl ?_
              refine w_sipush X0 hx (8297 : Int32) (Jvm.hb hby d1_47) (by decide) (pc' := 50) rfl ?_
              refine w_icmp_gt X0 hx (Jvm.hb hby d1_50) (by decide) (pcT := 57) (by decide) (pcF := 53) rfl (fun hc50_6 => ?_) (fun hc50_6 => ?_)
              · refine w_iconst X0 hx (0 : Int32) (Jvm.hb hby d1_57) (by decide) (pc' := 58) rfl ?_
                exact w_zreturn X0 hx Bd.returns (Or.inl rfl) (BodyLoose.notSynchronized Bd) (Nat.le_of_ble_eq_true rfl) (Nat.le_of_ble_eq_true rfl) (Jvm.hb hby d1_58) ⟨congrArg (fun z => some (Value.int z)) (show (0 : Int32) = bidi p0 from by unfold bidi; rw [if_neg hc4_0, if_neg hc11_1, if_neg hc18_2, if_neg hc27_3, if_pos hc34_4, if_neg hc43_5, if_pos hc50_6]), e0, rfl⟩
              · refine w_iconst X0 hx (1 : Int32) (Jvm.hb hby d1_53) (by decide) (pc' := 54) rfl ?_
                refine w_goto X0 hx (Jvm.hb hby d1_54) (by decide) (pc' := 58) (by decide) ?_
                exact w_zreturn X0 hx Bd.returns (Or.inr rfl) (BodyLoose.notSynchronized Bd) (Nat.le_of_ble_eq_true rfl) (Nat.le_of_ble_eq_true rfl) (Jvm.hb hby d1_58) ⟨congrArg (fun z => some (Value.int z)) (show (1 : Int32) = bidi p0 from by unfold bidi; rw [if_neg hc4_0, if_neg hc11_1, if_neg hc18_2, if_neg hc27_3, if_pos hc34_4, if_neg hc43_5, if_neg hc50_6]), e0, rfl⟩
          · refine w_iconst X0 hx (1 : Int32) (Jvm.hb hby d1_37) (by decide) (pc' := 38) rfl ?_
            exact w_zreturn X0 hx Bd.returns (Or.inr rfl) (BodyLoose.notSynchronized Bd) (Nat.le_of_ble_eq_true rfl) (Nat.le_of_ble_eq_true rfl) (Jvm.hb hby d1_38) ⟨congrArg (fun z => some (Value.int z)) (show (1 : Int32) = bidi p0 from by unfold bidi; rw [if_neg hc4_0, if_neg hc11_1, if_neg hc18_2, if_neg hc27_3, if_neg hc34_4]), e0, rfl⟩
      · refine w_iconst X0 hx (1 : Int32) (Jvm.hb hby d1_21) (by decide) (pc' := 22) rfl ?_
        exact w_zreturn X0 hx Bd.returns (Or.inr rfl) (BodyLoose.notSynchronized Bd) (Nat.le_of_ble_eq_true rfl) (Nat.le_of_ble_eq_true rfl) (Jvm.hb hby d1_22) ⟨congrArg (fun z => some (Value.int z)) (show (1 : Int32) = bidi p0 from by unfold bidi; rw [if_neg hc4_0, if_neg hc11_1, if_pos hc18_2]), e0, rfl⟩
/-- BlankIsInvisiblePinLaw.zeroWidthFormat -/
def zwf (p0 : Int32) : Int32 := (if p0 < (8203 : Int32) then (if p0 = (8288 : Int32) then (1 : Int32) else (if p0 = (65279 : Int32) then (1 : Int32) else (0 : Int32))) else (if (8205 : Int32) < p0 then (if p0 = (8288 : Int32) then (1 : Int32) else (if p0 = (65279 : Int32) then (1 : Int32) else (0 : Int32))) else (1 : Int32)))
def Q2 (p0 : Int32) (h0 : Heap) (v : Option Value) (h : Heap) (L : List Loc) : Prop := v = some (.int (zwf p0)) ∧ h = h0 ∧ L = []
set_option maxRecDepth 65536 in
set_option maxHeartbeats 40000000 in
theorem rm2 (l : Launch) (Z : State) (aw : Array Value) (hw : ∀ d ∈ tables_1, d.before aw Z = true) (ws : List Jvm.Cond) (p0 : Int32) (h0 : Heap) :
    MetFree l (⟨"com/example/metadata_for_discovery/metadatafordiscovery/validation/BlankIsInvisiblePinLaw", "zeroWidthFormat", "(I)Z"⟩ : MethodName) (head1 (Jvm.Cond.code (⟨"com/example/metadata_for_discovery/metadatafordiscovery/validation/BlankIsInvisiblePinLaw", "zeroWidthFormat", "(I)Z"⟩ : MethodName) method_3_code 1 (some .boolean) :: ws) ({ frames := 0, cells := 0, slots := 0, locals := 0 } : Room)) (fun a U => a = #[(.int p0)] ∧ Z.Warmed39 U.vm ∧ U.heap = h0) (fun _ _ _ _ _ => True) (fun _ U o U' => ∃ v L, o = .returned v ∧ Q2 p0 h0 v U'.heap L ∧ FrameEnd U o U' L ({ frames := 0, cells := 0, slots := 0, locals := 0 } : Room).cells ({ frames := 0, cells := 0, slots := 0, locals := 0 } : Room).slots) := by
  refine MetFree.of_bodySF (plainFor_of_name pn_0) hisR ?_
  intro p e s m args below meth c s₁ Bd hml0 hP _hKK
  obtain ⟨rfl, hZ, hh⟩ := hP
  have hx := Bd.exec
  have hby := Bd.bytes
  have hml : c.maxLocals = 1 := hml0
  have hown : s.vm.findClass "com/example/metadata_for_discovery/metadatafordiscovery/validation/BlankIsInvisiblePinLaw" = some m.cls := findClass_of_methodNamed Bd.named
  have hnm := (name_of_methodNamed Bd.named Bd.method).1
  have X0 : Stand p l e ({ frames := 0, cells := 0, slots := 0, locals := 0 } : Room) s m #[(.int p0)] below meth c s₁ [] 0 0 := Stand.of_body Bd
  have e0 : s₁.heap = h0 := by rw [← hh, Bd.state]; rfl
  refine Ow.enter (Q := Q2 p0 h0) (ef_2 m p0) ?_
  show Ow p e below s _ _ _ (s₁.setTop (mkF m 0 #[.val (.int p0)] []))
  refine w_iloadN X0 hx (Jvm.hb hby d2_0) rfl (pc' := 1) rfl ?_
  refine w_sipush X0 hx (8203 : Int32) (Jvm.hb hby d2_1) (by decide) (pc' := 4) rfl ?_
  refine w_icmp_lt X0 hx (Jvm.hb hby d2_4) (by decide) (pcT := 16) (by decide) (pcF := 7) rfl (fun hc4_0 => ?_) (fun hc4_0 => ?_)
  · refine w_iloadN X0 hx (Jvm.hb hby d2_16) rfl (pc' := 17) rfl ?_
    refine w_sipush X0 hx (8288 : Int32) (Jvm.hb hby d2_17) (by decide) (pc' := 20) rfl ?_
    refine w_icmp_eq X0 hx (Jvm.hb hby d2_20) (by decide) (pcT := 29) (by decide) (pcF := 23) rfl (fun hc20_1 => ?_) (fun hc20_1 => ?_)
    · refine w_iconst X0 hx (1 : Int32) (Jvm.hb hby d2_29) (by decide) (pc' := 30) rfl ?_
      refine w_goto X0 hx (Jvm.hb hby d2_30) (by decide) (pc' := 34) (by decide) ?_
      exact w_zreturn X0 hx Bd.returns (Or.inr rfl) (BodyLoose.notSynchronized Bd) (Nat.le_of_ble_eq_true rfl) (Nat.le_of_ble_eq_true rfl) (Jvm.hb hby d2_34) ⟨congrArg (fun z => some (Value.int z)) (show (1 : Int32) = zwf p0 from by unfold zwf; rw [if_pos hc4_0, if_pos hc20_1]), e0, rfl⟩
    · refine w_iloadN X0 hx (Jvm.hb hby d2_23) rfl (pc' := 24) rfl ?_
      refine w_ldcI X0 hx hZ hown (hw _ (List.mem_of_getElem? (i := 1) rfl)) (Jvm.hb hby d2_24) (pc' := 26) rfl ?_
      refine w_icmp_ne X0 hx (Jvm.hb hby d2_26) (by decide) (pcT := 33) (by decide) (pcF := 29) rfl (fun hc26_2 => ?_) (fun hc26_2 => ?_)
      · refine w_iconst X0 hx (0 : Int32) (Jvm.hb hby d2_33) (by decide) (pc' := 34) rfl ?_
        exact w_zreturn X0 hx Bd.returns (Or.inl rfl) (BodyLoose.notSynchronized Bd) (Nat.le_of_ble_eq_true rfl) (Nat.le_of_ble_eq_true rfl) (Jvm.hb hby d2_34) ⟨congrArg (fun z => some (Value.int z)) (show (0 : Int32) = zwf p0 from by unfold zwf; rw [if_pos hc4_0, if_neg hc20_1, if_neg hc26_2]), e0, rfl⟩
      · refine w_iconst X0 hx (1 : Int32) (Jvm.hb hby d2_29) (by decide) (pc' := 30) rfl ?_
        refine w_goto X0 hx (Jvm.hb hby d2_30) (by decide) (pc' := 34) (by decide) ?_
        exact w_zreturn X0 hx Bd.returns (Or.inr rfl) (BodyLoose.notSynchronized Bd) (Nat.le_of_ble_eq_true rfl) (Nat.le_of_ble_eq_true rfl) (Jvm.hb hby d2_34) ⟨congrArg (fun z => some (Value.int z)) (show (1 : Int32) = zwf p0 from by unfold zwf; rw [if_pos hc4_0, if_neg hc20_1, if_pos hc26_2]), e0, rfl⟩
  · refine w_iloadN X0 hx (Jvm.hb hby d2_7) rfl (pc' := 8) rfl ?_
    refine w_sipush X0 hx (8205 : Int32) (Jvm.hb hby d2_8) (by decide) (pc' := 11) rfl ?_
    refine w_icmp_gt X0 hx (Jvm.hb hby d2_11) (by decide) (pcT := 16) (by decide) (pcF := 14) rfl (fun hc11_1 => ?_) (fun hc11_1 => ?_)
    · refine w_iloadN X0 hx (Jvm.hb hby d2_16) rfl (pc' := 17) rfl ?_
      refine w_sipush X0 hx (8288 : Int32) (Jvm.hb hby d2_17) (by decide) (pc' := 20) rfl ?_
      refine w_icmp_eq X0 hx (Jvm.hb hby d2_20) (by decide) (pcT := 29) (by decide) (pcF := 23) rfl (fun hc20_2 => ?_) (fun hc20_2 => ?_)
      · refine w_iconst X0 hx (1 : Int32) (Jvm.hb hby d2_29) (by decide) (pc' := 30) rfl ?_
        refine w_goto X0 hx (Jvm.hb hby d2_30) (by decide) (pc' := 34) (by decide) ?_
        exact w_zreturn X0 hx Bd.returns (Or.inr rfl) (BodyLoose.notSynchronized Bd) (Nat.le_of_ble_eq_true rfl) (Nat.le_of_ble_eq_true rfl) (Jvm.hb hby d2_34) ⟨congrArg (fun z => some (Value.int z)) (show (1 : Int32) = zwf p0 from by unfold zwf; rw [if_neg hc4_0, if_pos hc11_1, if_pos hc20_2]), e0, rfl⟩
      · refine w_iloadN X0 hx (Jvm.hb hby d2_23) rfl (pc' := 24) rfl ?_
        refine w_ldcI X0 hx hZ hown (hw _ (List.mem_of_getElem? (i := 1) rfl)) (Jvm.hb hby d2_24) (pc' := 26) rfl ?_
        refine w_icmp_ne X0 hx (Jvm.hb hby d2_26) (by decide) (pcT := 33) (by decide) (pcF := 29) rfl (fun hc26_3 => ?_) (fun hc26_3 => ?_)
        · refine w_iconst X0 hx (0 : Int32) (Jvm.hb hby d2_33) (by decide) (pc' := 34) rfl ?_
          exact w_zreturn X0 hx Bd.returns (Or.inl rfl) (BodyLoose.notSynchronized Bd) (Nat.le_of_ble_eq_true rfl) (Nat.le_of_ble_eq_true rfl) (Jvm.hb hby d2_34) ⟨congrArg (fun z => some (Value.int z)) (show (0 : Int32) = zwf p0 from by unfold zwf; rw [if_neg hc4_0, if_pos hc11_1, if_neg hc20_2, if_neg hc26_3]), e0, rfl⟩
        · refine w_iconst X0 hx (1 : Int32) (Jvm.hb hby d2_29) (by decide) (pc' := 30) rfl ?_
          refine w_goto X0 hx (Jvm.hb hby d2_30) (by decide) (pc' := 34) (by decide) ?_
          exact w_zreturn X0 hx Bd.returns (Or.inr rfl) (BodyLoose.notSynchronized Bd) (Nat.le_of_ble_eq_true rfl) (Nat.le_of_ble_eq_true rfl) (Jvm.hb hby d2_34) ⟨congrArg (fun z => some (Value.int z)) (show (1 : Int32) = zwf p0 from by unfold zwf; rw [if_neg hc4_0, if_pos hc11_1, if_neg hc20_2, if_pos hc26_3]), e0, rfl⟩
    · refine w_iconst X0 hx (1 : Int32) (Jvm.hb hby d2_14) (by decide) (pc' := 15) rfl ?_
      exact w_zreturn X0 hx Bd.returns (Or.inr rfl) (BodyLoose.notSynchronized Bd) (Nat.le_of_ble_eq_true rfl) (Nat.le_of_ble_eq_true rfl) (Jvm.hb hby d2_15) ⟨congrArg (fun z => some (Value.int z)) (show (1 : Int32) = zwf p0 from by unfold zwf; rw [if_neg hc4_0, if_neg hc11_1]), e0, rfl⟩
/-- Blank.isInvisible -/
def invis (p0 : Int32) : Int32 := (if p0 = (1564 : Int32) then (1 : Int32) else (if p0 < (8203 : Int32) then (if p0 < (8234 : Int32) then (if p0 = (8288 : Int32) then (1 : Int32) else (if p0 < (8294 : Int32) then (if p0 = (65279 : Int32) then (1 : Int32) else (0 : Int32)) else (if (8297 : Int32) < p0 then (if p0 = (65279 : Int32) then (1 : Int32) else (0 : Int32)) else (1 : Int32)))) else (if (8238 : Int32) < p0 then (if p0 = (8288 : Int32) then (1 : Int32) else (if p0 < (8294 : Int32) then (if p0 = (65279 : Int32) then (1 : Int32) else (0 : Int32)) else (if (8297 : Int32) < p0 then (if p0 = (65279 : Int32) then (1 : Int32) else (0 : Int32)) else (1 : Int32)))) else (1 : Int32))) else (if (8207 : Int32) < p0 then (if p0 < (8234 : Int32) then (if p0 = (8288 : Int32) then (1 : Int32) else (if p0 < (8294 : Int32) then (if p0 = (65279 : Int32) then (1 : Int32) else (0 : Int32)) else (if (8297 : Int32) < p0 then (if p0 = (65279 : Int32) then (1 : Int32) else (0 : Int32)) else (1 : Int32)))) else (if (8238 : Int32) < p0 then (if p0 = (8288 : Int32) then (1 : Int32) else (if p0 < (8294 : Int32) then (if p0 = (65279 : Int32) then (1 : Int32) else (0 : Int32)) else (if (8297 : Int32) < p0 then (if p0 = (65279 : Int32) then (1 : Int32) else (0 : Int32)) else (1 : Int32)))) else (1 : Int32))) else (1 : Int32))))
def Q3 (p0 : Int32) (h0 : Heap) (v : Option Value) (h : Heap) (L : List Loc) : Prop := v = some (.int (invis p0)) ∧ h = h0 ∧ L = []
set_option maxRecDepth 65536 in
set_option maxHeartbeats 40000000 in
theorem rm3 (l : Launch) (Z : State) (aw : Array Value) (hw : ∀ d ∈ tables_1, d.before aw Z = true) (ws : List Jvm.Cond) (p0 : Int32) (h0 : Heap) :
    MetFree l (⟨"com/example/metadata_for_discovery/metadatafordiscovery/validation/Blank", "isInvisible", "(I)Z"⟩ : MethodName) (head1 (Jvm.Cond.code (⟨"com/example/metadata_for_discovery/metadatafordiscovery/validation/Blank", "isInvisible", "(I)Z"⟩ : MethodName) prog_110_method_5_code 1 (some .boolean) :: ws) ({ frames := 0, cells := 0, slots := 0, locals := 0 } : Room)) (fun a U => a = #[(.int p0)] ∧ Z.Warmed39 U.vm ∧ U.heap = h0) (fun _ _ _ _ _ => True) (fun _ U o U' => ∃ v L, o = .returned v ∧ Q3 p0 h0 v U'.heap L ∧ FrameEnd U o U' L ({ frames := 0, cells := 0, slots := 0, locals := 0 } : Room).cells ({ frames := 0, cells := 0, slots := 0, locals := 0 } : Room).slots) := by
  refine MetFree.of_bodySF (plainFor_of_name pn_1) hisR ?_
  intro p e s m args below meth c s₁ Bd hml0 hP _hKK
  obtain ⟨rfl, hZ, hh⟩ := hP
  have hx := Bd.exec
  have hby := Bd.bytes
  have hml : c.maxLocals = 1 := hml0
  have hown : s.vm.findClass "com/example/metadata_for_discovery/metadatafordiscovery/validation/Blank" = some m.cls := findClass_of_methodNamed Bd.named
  have hnm := (name_of_methodNamed Bd.named Bd.method).1
  have X0 : Stand p l e ({ frames := 0, cells := 0, slots := 0, locals := 0 } : Room) s m #[(.int p0)] below meth c s₁ [] 0 0 := Stand.of_body Bd
  have e0 : s₁.heap = h0 := by rw [← hh, Bd.state]; rfl
  refine Ow.enter (Q := Q3 p0 h0) (ef_3 m p0) ?_
  show Ow p e below s _ _ _ (s₁.setTop (mkF m 0 #[.val (.int p0)] []))
  refine w_iloadN X0 hx (Jvm.hb hby d3_0) rfl (pc' := 1) rfl ?_
  refine w_sipush X0 hx (1564 : Int32) (Jvm.hb hby d3_1) (by decide) (pc' := 4) rfl ?_
  refine w_icmp_eq X0 hx (Jvm.hb hby d3_4) (by decide) (pcT := 62) (by decide) (pcF := 7) rfl (fun hc4_0 => ?_) (fun hc4_0 => ?_)
  · refine w_iconst X0 hx (1 : Int32) (Jvm.hb hby d3_62) (by decide) (pc' := 63) rfl ?_
    refine w_goto X0 hx (Jvm.hb hby d3_63) (by decide) (pc' := 67) (by decide) ?_
    exact w_zreturn X0 hx Bd.returns (Or.inr rfl) (BodyLoose.notSynchronized Bd) (Nat.le_of_ble_eq_true rfl) (Nat.le_of_ble_eq_true rfl) (Jvm.hb hby d3_67) ⟨congrArg (fun z => some (Value.int z)) (show (1 : Int32) = invis p0 from by unfold invis; rw [if_pos hc4_0]), e0, rfl⟩
  · refine w_iloadN X0 hx (Jvm.hb hby d3_7) rfl (pc' := 8) rfl ?_
    refine w_sipush X0 hx (8203 : Int32) (Jvm.hb hby d3_8) (by decide) (pc' := 11) rfl ?_
    refine w_icmp_lt X0 hx (Jvm.hb hby d3_11) (by decide) (pcT := 21) (by decide) (pcF := 14) rfl (fun hc11_1 => ?_) (fun hc11_1 => ?_)
    · refine w_iloadN X0 hx (Jvm.hb hby d3_21) rfl (pc' := 22) rfl ?_
      refine w_sipush X0 hx (8234 : Int32) (Jvm.hb hby d3_22) (by decide) (pc' := 25) rfl ?_
      refine w_icmp_lt X0 hx (Jvm.hb hby d3_25) (by decide) (pcT := 35) (by decide) (pcF := 28) rfl (fun hc25_2 => ?_) (fun hc25_2 => ?_)
      · refine w_iloadN X0 hx (Jvm.hb hby d3_35) rfl (pc' := 36) rfl ?_
        refine w_sipush X0 hx (8288 : Int32) (Jvm.hb hby d3_36) (by decide) (pc' := 39) rfl ?_
        refine w_icmp_eq X0 hx (Jvm.hb hby d3_39) (by decide) (pcT := 62) (by decide) (pcF := 42) rfl (fun hc39_3 => ?_) (fun hc39_3 => ?_)
        · refine w_iconst X0 hx (1 : Int32) (Jvm.hb hby d3_62) (by decide) (pc' := 63) rfl ?_
          refine w_goto X0 hx (Jvm.hb hby d3_63) (by decide) (pc' := 67) (by decide) ?_
          exact w_zreturn X0 hx Bd.returns (Or.inr rfl) (BodyLoose.notSynchronized Bd) (Nat.le_of_ble_eq_true rfl) (Nat.le_of_ble_eq_true rfl) (Jvm.hb hby d3_67) ⟨congrArg (fun z => some (Value.int z)) (show (1 : Int32) = invis p0 from by unfold invis; rw [if_neg hc4_0, if_pos hc11_1, if_pos hc25_2, if_pos hc39_3]), e0, rfl⟩
        · refine w_iloadN X0 hx (Jvm.hb hby d3_42) rfl (pc' := 43) rfl ?_
          refine w_sipush X0 hx (8294 : Int32) (Jvm.hb hby d3_43) (by decide) (pc' := 46) rfl ?_
          refine w_icmp_lt X0 hx (Jvm.hb hby d3_46) (by decide) (pcT := 56) (by decide) (pcF := 49) rfl (fun hc46_4 => ?_) (fun hc46_4 => ?_)
          · refine w_iloadN X0 hx (Jvm.hb hby d3_56) rfl (pc' := 57) rfl ?_
            refine w_ldcI X0 hx hZ hown (hw _ (List.mem_of_getElem? (i := 13) rfl)) (Jvm.hb hby d3_57) (pc' := 59) rfl ?_
            refine w_icmp_ne X0 hx (Jvm.hb hby d3_59) (by decide) (pcT := 66) (by decide) (pcF := 62) rfl (fun hc59_5 => ?_) (fun hc59_5 => ?_)
            · refine w_iconst X0 hx (0 : Int32) (Jvm.hb hby d3_66) (by decide) (pc' := 67) rfl ?_
              exact w_zreturn X0 hx Bd.returns (Or.inl rfl) (BodyLoose.notSynchronized Bd) (Nat.le_of_ble_eq_true rfl) (Nat.le_of_ble_eq_true rfl) (Jvm.hb hby d3_67) ⟨congrArg (fun z => some (Value.int z)) (show (0 : Int32) = invis p0 from by unfold invis; rw [if_neg hc4_0, if_pos hc11_1, if_pos hc25_2, if_neg hc39_3, if_pos hc46_4, if_neg hc59_5]), e0, rfl⟩
            · refine w_iconst X0 hx (1 : Int32) (Jvm.hb hby d3_62) (by decide) (pc' := 63) rfl ?_
              refine w_goto X0 hx (Jvm.hb hby d3_63) (by decide) (pc' := 67) (by decide) ?_
              exact w_zreturn X0 hx Bd.returns (Or.inr rfl) (BodyLoose.notSynchronized Bd) (Nat.le_of_ble_eq_true rfl) (Nat.le_of_ble_eq_true rfl) (Jvm.hb hby d3_67) ⟨congrArg (fun z => some (Value.int z)) (show (1 : Int32) = invis p0 from by unfold invis; rw [if_neg hc4_0, if_pos hc11_1, if_pos hc25_2, if_neg hc39_3, if_pos hc46_4, if_pos hc59_5]), e0, rfl⟩
          · refine w_iloadN X0 hx (Jvm.hb hby d3_49) rfl (pc' := 50) rfl ?_
            refine w_sipush X0 hx (8297 : Int32) (Jvm.hb hby d3_50) (by decide) (pc' := 53) rfl ?_
            refine w_icmp_le X0 hx (Jvm.hb hby d3_53) (by decide) (pcT := 62) (by decide) (pcF := 56) rfl (fun hc53_5 => ?_) (fun hc53_5 => ?_)
            · refine w_iconst X0 hx (1 : Int32) (Jvm.hb hby d3_62) (by decide) (pc' := 63) rfl ?_
              refine w_goto X0 hx (Jvm.hb hby d3_63) (by decide) (pc' := 67) (by decide) ?_
              exact w_zreturn X0 hx Bd.returns (Or.inr rfl) (BodyLoose.notSynchronized Bd) (Nat.le_of_ble_eq_true rfl) (Nat.le_of_ble_eq_true rfl) (Jvm.hb hby d3_67) ⟨congrArg (fun z => some (Value.int z)) (show (1 : Int32) = invis p0 from by unfold invis; rw [if_neg hc4_0, if_pos hc11_1, if_pos hc25_2, if_neg hc39_3, if_neg hc46_4, if_neg hc53_5]), e0, rfl⟩
            · refine w_iloadN X0 hx (Jvm.hb hby d3_56) rfl (pc' := 57) rfl ?_
              refine w_ldcI X0 hx hZ hown (hw _ (List.mem_of_getElem? (i := 13) rfl)) (Jvm.hb hby d3_57) (pc' := 59) rfl ?_
              refine w_icmp_ne X0 hx (Jvm.hb hby d3_59) (by decide) (pcT := 66) (by decide) (pcF := 62) rfl (fun hc59_6 => ?_) (fun hc59_6 => ?_)
              · refine w_iconst X0 hx (0 : Int32) (Jvm.hb hby d3_66) (by decide) (pc' := 67) rfl ?_
                exact w_zreturn X0 hx Bd.returns (Or.inl rfl) (BodyLoose.notSynchronized Bd) (Nat.le_of_ble_eq_true rfl) (Nat.le_of_ble_eq_true rfl) (Jvm.hb hby d3_67) ⟨congrArg (fun z => some (Value.int z)) (show (0 : Int32) = invis p0 from by unfold invis; rw [if_neg hc4_0, if_pos hc11_1, if_pos hc25_2, if_neg hc39_3, if_neg hc46_4, if_pos hc53_5, if_neg hc59_6]), e0, rfl⟩
              · refine w_iconst X0 hx (1 : Int32) (Jvm.hb hby d3_62) (by decide) (pc' := 63) rfl ?_
                refine w_goto X0 hx (Jvm.hb hby d3_63) (by decide) (pc' := 67) (by decide) ?_
                exact w_zreturn X0 hx Bd.returns (Or.inr rfl) (BodyLoose.notSynchronized Bd) (Nat.le_of_ble_eq_true rfl) (Nat.le_of_ble_eq_true rfl) (Jvm.hb hby d3_67) ⟨congrArg (fun z => some (Value.int z)) (show (1 : Int32) = invis p0 from by unfold invis; rw [if_neg hc4_0, if_pos hc11_1, if_pos hc25_2, if_neg hc39_3, if_neg hc46_4, if_pos hc53_5, if_pos hc59_6]), e0, rfl⟩
      · refine w_iloadN X0 hx (Jvm.hb hby d3_28) rfl (pc' := 29) rfl ?_
        refine w_sipush X0 hx (8238 : Int32) (Jvm.hb hby d3_29) (by decide) (pc' := 32) rfl ?_
        refine w_icmp_le X0 hx (Jvm.hb hby d3_32) (by decide) (pcT := 62) (by decide) (pcF := 35) rfl (fun hc32_3 => ?_) (fun hc32_3 => ?_)
        · refine w_iconst X0 hx (1 : Int32) (Jvm.hb hby d3_62) (by decide) (pc' := 63) rfl ?_
          refine w_goto X0 hx (Jvm.hb hby d3_63) (by decide) (pc' := 67) (by decide) ?_
          exact w_zreturn X0 hx Bd.returns (Or.inr rfl) (BodyLoose.notSynchronized Bd) (Nat.le_of_ble_eq_true rfl) (Nat.le_of_ble_eq_true rfl) (Jvm.hb hby d3_67) ⟨congrArg (fun z => some (Value.int z)) (show (1 : Int32) = invis p0 from by unfold invis; rw [if_neg hc4_0, if_pos hc11_1, if_neg hc25_2, if_neg hc32_3]), e0, rfl⟩
        · refine w_iloadN X0 hx (Jvm.hb hby d3_35) rfl (pc' := 36) rfl ?_
          refine w_sipush X0 hx (8288 : Int32) (Jvm.hb hby d3_36) (by decide) (pc' := 39) rfl ?_
          refine w_icmp_eq X0 hx (Jvm.hb hby d3_39) (by decide) (pcT := 62) (by decide) (pcF := 42) rfl (fun hc39_4 => ?_) (fun hc39_4 => ?_)
          · refine w_iconst X0 hx (1 : Int32) (Jvm.hb hby d3_62) (by decide) (pc' := 63) rfl ?_
            refine w_goto X0 hx (Jvm.hb hby d3_63) (by decide) (pc' := 67) (by decide) ?_
            exact w_zreturn X0 hx Bd.returns (Or.inr rfl) (BodyLoose.notSynchronized Bd) (Nat.le_of_ble_eq_true rfl) (Nat.le_of_ble_eq_true rfl) (Jvm.hb hby d3_67) ⟨congrArg (fun z => some (Value.int z)) (show (1 : Int32) = invis p0 from by unfold invis; rw [if_neg hc4_0, if_pos hc11_1, if_neg hc25_2, if_pos hc32_3, if_pos hc39_4]), e0, rfl⟩
          · refine w_iloadN X0 hx (Jvm.hb hby d3_42) rfl (pc' := 43) rfl ?_
            refine w_sipush X0 hx (8294 : Int32) (Jvm.hb hby d3_43) (by decide) (pc' := 46) rfl ?_
            refine w_icmp_lt X0 hx (Jvm.hb hby d3_46) (by decide) (pcT := 56) (by decide) (pcF := 49) rfl (fun hc46_5 => ?_) (fun hc46_5 => ?_)
            · refine w_iloadN X0 hx (Jvm.hb hby d3_56) rfl (pc' := 57) rfl ?_
              refine w_ldcI X0 hx hZ hown (hw _ (List.mem_of_getElem? (i := 13) rfl)) (Jvm.hb hby d3_57) (pc' := 59) rfl ?_
              refine w_icmp_ne X0 hx (Jvm.hb hby d3_59) (by decide) (pcT := 66) (by decide) (pcF := 62) rfl (fun hc59_6 => ?_) (fun hc59_6 => ?_)
              · refine w_iconst X0 hx (0 : Int32) (Jvm.hb hby d3_66) (by decide) (pc' := 67) rfl ?_
                exact w_zreturn X0 hx Bd.returns (Or.inl rfl) (BodyLoose.notSynchronized Bd) (Nat.le_of_ble_eq_true rfl) (Nat.le_of_ble_eq_true rfl) (Jvm.hb hby d3_67) ⟨congrArg (fun z => some (Value.int z)) (show (0 : Int32) = invis p0 from by unfold invis; rw [if_neg hc4_0, if_pos hc11_1, if_neg hc25_2, if_pos hc32_3, if_neg hc39_4, if_pos hc46_5, if_neg hc59_6]), e0, rfl⟩
              · refine w_iconst X0 hx (1 : Int32) (Jvm.hb hby d3_62) (by decide) (pc' := 63) rfl ?_
                refine w_goto X0 hx (Jvm.hb hby d3_63) (by decide) (pc' := 67) (by decide) ?_
                exact w_zreturn X0 hx Bd.returns (Or.inr rfl) (BodyLoose.notSynchronized Bd) (Nat.le_of_ble_eq_true rfl) (Nat.le_of_ble_eq_true rfl) (Jvm.hb hby d3_67) ⟨congrArg (fun z => some (Value.int z)) (show (1 : Int32) = invis p0 from by unfold invis; rw [if_neg hc4_0, if_pos hc11_1, if_neg hc25_2, if_pos hc32_3, if_neg hc39_4, if_pos hc46_5, if_pos hc59_6]), e0, rfl⟩
            · refine w_iloadN X0 hx (Jvm.hb hby d3_49) rfl (pc' := 50) rfl ?_
              refine w_sipush X0 hx (8297 : Int32) (Jvm.hb hby d3_50) (by decide) (pc' := 53) rfl ?_
              refine w_icmp_le X0 hx (Jvm.hb hby d3_53) (by decide) (pcT := 62) (by decide) (pcF := 56) rfl (fun hc53_6 => ?_) (fun hc53_6 => ?_)
              · refine w_iconst X0 hx (1 : Int32) (Jvm.hb hby d3_62) (by decide) (pc' := 63) rfl ?_
                refine w_goto X0 hx (Jvm.hb hby d3_63) (by decide) (pc' := 67) (by decide) ?_
                exact w_zreturn X0 hx Bd.returns (Or.inr rfl) (BodyLoose.notSynchronized Bd) (Nat.le_of_ble_eq_true rfl) (Nat.le_of_ble_eq_true rfl) (Jvm.hb hby d3_67) ⟨congrArg (fun z => some (Value.int z)) (show (1 : Int32) = invis p0 from by unfold invis; rw [if_neg hc4_0, if_pos hc11_1, if_neg hc25_2, if_pos hc32_3, if_neg hc39_4, if_neg hc46_5, if_neg hc53_6]), e0, rfl⟩
              · refine w_iloadN X0 hx (Jvm.hb hby d3_56) rfl (pc' := 57) rfl ?_
                refine w_ldcI X0 hx hZ hown (hw _ (List.mem_of_getElem? (i := 13) rfl)) (Jvm.hb hby d3_57) (pc' := 59) rfl ?_
                refine w_icmp_ne X0 hx (Jvm.hb hby d3_59) (by decide) (pcT := 66) (by decide) (pcF := 62) rfl (fun hc59_7 => ?_) (fun hc59_7 => ?_)
                · refine w_iconst X0 hx (0 : Int32) (Jvm.hb hby d3_66) (by decide) (pc' := 67) rfl ?_
                  exact w_zreturn X0 hx Bd.returns (Or.inl rfl) (BodyLoose.notSynchronized Bd) (Nat.le_of_ble_eq_true rfl) (Nat.le_of_ble_eq_true rfl) (Jvm.hb hby d3_67) ⟨congrArg (fun z => some (Value.int z)) (show (0 : Int32) = invis p0 from by unfold invis; rw [if_neg hc4_0, if_pos hc11_1, if_neg hc25_2, if_pos hc32_3, if_neg hc39_4, if_neg hc46_5, if_pos hc53_6, if_neg hc59_7]), e0, rfl⟩
                · refine w_iconst X0 hx (1 : Int32) (Jvm.hb hby d3_62) (by decide) (pc' := 63) rfl ?_
                  refine w_goto X0 hx (Jvm.hb hby d3_63) (by decide) (pc' := 67) (by decide) ?_
                  exact w_zreturn X0 hx Bd.returns (Or.inr rfl) (BodyLoose.notSynchronized Bd) (Nat.le_of_ble_eq_true rfl) (Nat.le_of_ble_eq_true rfl) (Jvm.hb hby d3_67) ⟨congrArg (fun z => some (Value.int z)) (show (1 : Int32) = invis p0 from by unfold invis; rw [if_neg hc4_0, if_pos hc11_1, if_neg hc25_2, if_pos hc32_3, if_neg hc39_4, if_neg hc46_5, if_pos hc53_6, if_pos hc59_7]), e0, rfl⟩
    · refine w_iloadN X0 hx (Jvm.hb hby d3_14) rfl (pc' := 15) rfl ?_
      refine w_sipush X0 hx (8207 : Int32) (Jvm.hb hby d3_15) (by decide) (pc' := 18) rfl ?_
      refine w_icmp_le X0 hx (Jvm.hb hby d3_18) (by decide) (pcT := 62) (by decide) (pcF := 21) rfl (fun hc18_2 => ?_) (fun hc18_2 => ?_)
      · refine w_iconst X0 hx (1 : Int32) (Jvm.hb hby d3_62) (by decide) (pc' := 63) rfl ?_
        refine w_goto X0 hx (Jvm.hb hby d3_63) (by decide) (pc' := 67) (by decide) ?_
        exact w_zreturn X0 hx Bd.returns (Or.inr rfl) (BodyLoose.notSynchronized Bd) (Nat.le_of_ble_eq_true rfl) (Nat.le_of_ble_eq_true rfl) (Jvm.hb hby d3_67) ⟨congrArg (fun z => some (Value.int z)) (show (1 : Int32) = invis p0 from by unfold invis; rw [if_neg hc4_0, if_neg hc11_1, if_neg hc18_2]), e0, rfl⟩
      · refine w_iloadN X0 hx (Jvm.hb hby d3_21) rfl (pc' := 22) rfl ?_
        refine w_sipush X0 hx (8234 : Int32) (Jvm.hb hby d3_22) (by decide) (pc' := 25) rfl ?_
        refine w_icmp_lt X0 hx (Jvm.hb hby d3_25) (by decide) (pcT := 35) (by decide) (pcF := 28) rfl (fun hc25_3 => ?_) (fun hc25_3 => ?_)
        · refine w_iloadN X0 hx (Jvm.hb hby d3_35) rfl (pc' := 36) rfl ?_
          refine w_sipush X0 hx (8288 : Int32) (Jvm.hb hby d3_36) (by decide) (pc' := 39) rfl ?_
          refine w_icmp_eq X0 hx (Jvm.hb hby d3_39) (by decide) (pcT := 62) (by decide) (pcF := 42) rfl (fun hc39_4 => ?_) (fun hc39_4 => ?_)
          · refine w_iconst X0 hx (1 : Int32) (Jvm.hb hby d3_62) (by decide) (pc' := 63) rfl ?_
            refine w_goto X0 hx (Jvm.hb hby d3_63) (by decide) (pc' := 67) (by decide) ?_
            exact w_zreturn X0 hx Bd.returns (Or.inr rfl) (BodyLoose.notSynchronized Bd) (Nat.le_of_ble_eq_true rfl) (Nat.le_of_ble_eq_true rfl) (Jvm.hb hby d3_67) ⟨congrArg (fun z => some (Value.int z)) (show (1 : Int32) = invis p0 from by unfold invis; rw [if_neg hc4_0, if_neg hc11_1, if_pos hc18_2, if_pos hc25_3, if_pos hc39_4]), e0, rfl⟩
          · refine w_iloadN X0 hx (Jvm.hb hby d3_42) rfl (pc' := 43) rfl ?_
            refine w_sipush X0 hx (8294 : Int32) (Jvm.hb hby d3_43) (by decide) (pc' := 46) rfl ?_
            refine w_icmp_lt X0 hx (Jvm.hb hby d3_46) (by decide) (pcT := 56) (by decide) (pcF := 49) rfl (fun hc46_5 => ?_) (fun hc46_5 => ?_)
            · refine w_iloadN X0 hx (Jvm.hb hby d3_56) rfl (pc' := 57) rfl ?_
              refine w_ldcI X0 hx hZ hown (hw _ (List.mem_of_getElem? (i := 13) rfl)) (Jvm.hb hby d3_57) (pc' := 59) rfl ?_
              refine w_icmp_ne X0 hx (Jvm.hb hby d3_59) (by decide) (pcT := 66) (by decide) (pcF := 62) rfl (fun hc59_6 => ?_) (fun hc59_6 => ?_)
              · refine w_iconst X0 hx (0 : Int32) (Jvm.hb hby d3_66) (by decide) (pc' := 67) rfl ?_
                exact w_zreturn X0 hx Bd.returns (Or.inl rfl) (BodyLoose.notSynchronized Bd) (Nat.le_of_ble_eq_true rfl) (Nat.le_of_ble_eq_true rfl) (Jvm.hb hby d3_67) ⟨congrArg (fun z => some (Value.int z)) (show (0 : Int32) = invis p0 from by unfold invis; rw [if_neg hc4_0, if_neg hc11_1, if_pos hc18_2, if_pos hc25_3, if_neg hc39_4, if_pos hc46_5, if_neg hc59_6]), e0, rfl⟩
              · refine w_iconst X0 hx (1 : Int32) (Jvm.hb hby d3_62) (by decide) (pc' := 63) rfl ?_
                refine w_goto X0 hx (Jvm.hb hby d3_63) (by decide) (pc' := 67) (by decide) ?_
                exact w_zreturn X0 hx Bd.returns (Or.inr rfl) (BodyLoose.notSynchronized Bd) (Nat.le_of_ble_eq_true rfl) (Nat.le_of_ble_eq_true rfl) (Jvm.hb hby d3_67) ⟨congrArg (fun z => some (Value.int z)) (show (1 : Int32) = invis p0 from by unfold invis; rw [if_neg hc4_0, if_neg hc11_1, if_pos hc18_2, if_pos hc25_3, if_neg hc39_4, if_pos hc46_5, if_pos hc59_6]), e0, rfl⟩
            · refine w_iloadN X0 hx (Jvm.hb hby d3_49) rfl (pc' := 50) rfl ?_
              refine w_sipush X0 hx (8297 : Int32) (Jvm.hb hby d3_50) (by decide) (pc' := 53) rfl ?_
              refine w_icmp_le X0 hx (Jvm.hb hby d3_53) (by decide) (pcT := 62) (by decide) (pcF := 56) rfl (fun hc53_6 => ?_) (fun hc53_6 => ?_)
              · refine w_iconst X0 hx (1 : Int32) (Jvm.hb hby d3_62) (by decide) (pc' := 63) rfl ?_
                refine w_goto X0 hx (Jvm.hb hby d3_63) (by decide) (pc' := 67) (by decide) ?_
                exact w_zreturn X0 hx Bd.returns (Or.inr rfl) (BodyLoose.notSynchronized Bd) (Nat.le_of_ble_eq_true rfl) (Nat.le_of_ble_eq_true rfl) (Jvm.hb hby d3_67) ⟨congrArg (fun z => some (Value.int z)) (show (1 : Int32) = invis p0 from by unfold invis; rw [if_neg hc4_0, if_neg hc11_1, if_pos hc18_2, if_pos hc25_3, if_neg hc39_4, if_neg hc46_5, if_neg hc53_6]), e0, rfl⟩
              · refine w_iloadN X0 hx (Jvm.hb hby d3_56) rfl (pc' := 57) rfl ?_
                refine w_ldcI X0 hx hZ hown (hw _ (List.mem_of_getElem? (i := 13) rfl)) (Jvm.hb hby d3_57) (pc' := 59) rfl ?_
                refine w_icmp_ne X0 hx (Jvm.hb hby d3_59) (by decide) (pcT := 66) (by decide) (pcF := 62) rfl (fun hc59_7 => ?_) (fun hc59_7 => ?_)
                · refine w_iconst X0 hx (0 : Int32) (Jvm.hb hby d3_66) (by decide) (pc' := 67) rfl ?_
                  exact w_zreturn X0 hx Bd.returns (Or.inl rfl) (BodyLoose.notSynchronized Bd) (Nat.le_of_ble_eq_true rfl) (Nat.le_of_ble_eq_true rfl) (Jvm.hb hby d3_67) ⟨congrArg (fun z => some (Value.int z)) (show (0 : Int32) = invis p0 from by unfold invis; rw [if_neg hc4_0, if_neg hc11_1, if_pos hc18_2, if_pos hc25_3, if_neg hc39_4, if_neg hc46_5, if_pos hc53_6, if_neg hc59_7]), e0, rfl⟩
                · refine w_iconst X0 hx (1 : Int32) (Jvm.hb hby d3_62) (by decide) (pc' := 63) rfl ?_
                  refine w_goto X0 hx (Jvm.hb hby d3_63) (by decide) (pc' := 67) (by decide) ?_
                  exact w_zreturn X0 hx Bd.returns (Or.inr rfl) (BodyLoose.notSynchronized Bd) (Nat.le_of_ble_eq_true rfl) (Nat.le_of_ble_eq_true rfl) (Jvm.hb hby d3_67) ⟨congrArg (fun z => some (Value.int z)) (show (1 : Int32) = invis p0 from by unfold invis; rw [if_neg hc4_0, if_neg hc11_1, if_pos hc18_2, if_pos hc25_3, if_neg hc39_4, if_neg hc46_5, if_pos hc53_6, if_pos hc59_7]), e0, rfl⟩
        · refine w_iloadN X0 hx (Jvm.hb hby d3_28) rfl (pc' := 29) rfl ?_
          refine w_sipush X0 hx (8238 : Int32) (Jvm.hb hby d3_29) (by decide) (pc' := 32) rfl ?_
          refine w_icmp_le X0 hx (Jvm.hb hby d3_32) (by decide) (pcT := 62) (by decide) (pcF := 35) rfl (fun hc32_4 => ?_) (fun hc32_4 => ?_)
          · refine w_iconst X0 hx (1 : Int32) (Jvm.hb hby d3_62) (by decide) (pc' := 63) rfl ?_
            refine w_goto X0 hx (Jvm.hb hby d3_63) (by decide) (pc' := 67) (by decide) ?_
            exact w_zreturn X0 hx Bd.returns (Or.inr rfl) (BodyLoose.notSynchronized Bd) (Nat.le_of_ble_eq_true rfl) (Nat.le_of_ble_eq_true rfl) (Jvm.hb hby d3_67) ⟨congrArg (fun z => some (Value.int z)) (show (1 : Int32) = invis p0 from by unfold invis; rw [if_neg hc4_0, if_neg hc11_1, if_pos hc18_2, if_neg hc25_3, if_neg hc32_4]), e0, rfl⟩
          · refine w_iloadN X0 hx (Jvm.hb hby d3_35) rfl (pc' := 36) rfl ?_
            refine w_sipush X0 hx (8288 : Int32) (Jvm.hb hby d3_36) (by decide) (pc' := 39) rfl ?_
            refine w_icmp_eq X0 hx (Jvm.hb hby d3_39) (by decide) (pcT := 62) (by decide) (pcF := 42) rfl (fun hc39_5 => ?_) (fun hc39_5 => ?_)
            · refine w_iconst X0 hx (1 : Int32) (Jvm.hb hby d3_62) (by decide) (pc' := 63) rfl ?_
              refine w_goto X0 hx (Jvm.hb hby d3_63) (by decide) (pc' := 67) (by decide) ?_
              exact w_zreturn X0 hx Bd.returns (Or.inr rfl) (BodyLoose.notSynchronized Bd) (Nat.le_of_ble_eq_true rfl) (Nat.le_of_ble_eq_true rfl) (Jvm.hb hby d3_67) ⟨congrArg (fun z => some (Value.int z)) (show (1 : Int32) = invis p0 from by unfold invis; rw [if_neg hc4_0, if_neg hc11_1, if_pos hc18_2, if_neg hc25_3, if_pos hc32_4, if_pos hc39_5]), e0, rfl⟩
            · refine w_iloadN X0 hx (Jvm.hb hby d3_42) rfl (pc' := 43) rfl ?_
              refine w_sipush X0 hx (8294 : Int32) (Jvm.hb hby d3_43) (by decide) (pc' := 46) rfl ?_
              refine w_icmp_lt X0 hx (Jvm.hb hby d3_46) (by decide) (pcT := 56) (by decide) (pcF := 49) rfl (fun hc46_6 => ?_) (fun hc46_6 => ?_)
              · refine w_iloadN X0 hx (Jvm.hb hby d3_56) rfl (pc' := 57) rfl ?_
                refine w_ldcI X0 hx hZ hown (hw _ (List.mem_of_getElem? (i := 13) rfl)) (Jvm.hb hby d3_57) (pc' := 59) rfl ?_
                refine w_icmp_ne X0 hx (Jvm.hb hby d3_59) (by decide) (pcT := 66) (by decide) (pcF := 62) rfl (fun hc59_7 => ?_) (fun hc59_7 => ?_)
                · refine w_iconst X0 hx (0 : Int32) (Jvm.hb hby d3_66) (by decide) (pc' := 67) rfl ?_
                  exact w_zreturn X0 hx Bd.returns (Or.inl rfl) (BodyLoose.notSynchronized Bd) (Nat.le_of_ble_eq_true rfl) (Nat.le_of_ble_eq_true rfl) (Jvm.hb hby d3_67) ⟨congrArg (fun z => some (Value.int z)) (show (0 : Int32) = invis p0 from by unfold invis; rw [if_neg hc4_0, if_neg hc11_1, if_pos hc18_2, if_neg hc25_3, if_pos hc32_4, if_neg hc39_5, if_pos hc46_6, if_neg hc59_7]), e0, rfl⟩
                · refine w_iconst X0 hx (1 : Int32) (Jvm.hb hby d3_62) (by decide) (pc' := 63) rfl ?_
                  refine w_goto X0 hx (Jvm.hb hby d3_63) (by decide) (pc' := 67) (by decide) ?_
                  exact w_zreturn X0 hx Bd.returns (Or.inr rfl) (BodyLoose.notSynchronized Bd) (Nat.le_of_ble_eq_true rfl) (Nat.le_of_ble_eq_true rfl) (Jvm.hb hby d3_67) ⟨congrArg (fun z => some (Value.int z)) (show (1 : Int32) = invis p0 from by unfold invis; rw [if_neg hc4_0, if_neg hc11_1, if_pos hc18_2, if_neg hc25_3, if_pos hc32_4, if_neg hc39_5, if_pos hc46_6, if_pos hc59_7]), e0, rfl⟩
              · refine w_iloadN X0 hx (Jvm.hb hby d3_49) rfl (pc' := 50) rfl ?_
                refine w_sipush X0 hx (8297 : Int32) (Jvm.hb hby d3_50) (by decide) (pc' := 53) rfl ?_
                refine w_icmp_le X0 hx (Jvm.hb hby d3_53) (by decide) (pcT := 62) (by decide) (pcF := 56) rfl (fun hc53_7 => ?_) (fun hc53_7 => ?_)
                · refine w_iconst X0 hx (1 : Int32) (Jvm.hb hby d3_62) (by decide) (pc' := 63) rfl ?_
                  refine w_goto X0 hx (Jvm.hb hby d3_63) (by decide) (pc' := 67) (by decide) ?_
                  exact w_zreturn X0 hx Bd.returns (Or.inr rfl) (BodyLoose.notSynchronized Bd) (Nat.le_of_ble_eq_true rfl) (Nat.le_of_ble_eq_true rfl) (Jvm.hb hby d3_67) ⟨congrArg (fun z => some (Value.int z)) (show (1 : Int32) = invis p0 from by unfold invis; rw [if_neg hc4_0, if_neg hc11_1, if_pos hc18_2, if_neg hc25_3, if_pos hc32_4, if_neg hc39_5, if_neg hc46_6, if_neg hc53_7]), e0, rfl⟩
                · refine w_iloadN X0 hx (Jvm.hb hby d3_56) rfl (pc' := 57) rfl ?_
                  refine w_ldcI X0 hx hZ hown (hw _ (List.mem_of_getElem? (i := 13) rfl)) (Jvm.hb hby d3_57) (pc' := 59) rfl ?_
                  refine w_icmp_ne X0 hx (Jvm.hb hby d3_59) (by decide) (pcT := 66) (by decide) (pcF := 62) rfl (fun hc59_8 => ?_) (fun hc59_8 => ?_)
                  · refine w_iconst X0 hx (0 : Int32) (Jvm.hb hby d3_66) (by decide) (pc' := 67) rfl ?_
                    exact w_zreturn X0 hx Bd.returns (Or.inl rfl) (BodyLoose.notSynchronized Bd) (Nat.le_of_ble_eq_true rfl) (Nat.le_of_ble_eq_true rfl) (Jvm.hb hby d3_67) ⟨congrArg (fun z => some (Value.int z)) (show (0 : Int32) = invis p0 from by unfold invis; rw [if_neg hc4_0, if_neg hc11_1, if_pos hc18_2, if_neg hc25_3, if_pos hc32_4, if_neg hc39_5, if_neg hc46_6, if_pos hc53_7, if_neg hc59_8]), e0, rfl⟩
                  · refine w_iconst X0 hx (1 : Int32) (Jvm.hb hby d3_62) (by decide) (pc' := 63) rfl ?_
                    refine w_goto X0 hx (Jvm.hb hby d3_63) (by decide) (pc' := 67) (by decide) ?_
                    exact w_zreturn X0 hx Bd.returns (Or.inr rfl) (BodyLoose.notSynchronized Bd) (Nat.le_of_ble_eq_true rfl) (Nat.le_of_ble_eq_true rfl) (Jvm.hb hby d3_67) ⟨congrArg (fun z => some (Value.int z)) (show (1 : Int32) = invis p0 from by unfold invis; rw [if_neg hc4_0, if_neg hc11_1, if_pos hc18_2, if_neg hc25_3, if_pos hc32_4, if_neg hc39_5, if_neg hc46_6, if_pos hc53_7, if_pos hc59_8]), e0, rfl⟩
theorem own_sh32 (x k : Int32) (n : Nat) (hk : ((k &&& 31).toUInt32.toBitVec % 32#32).toNat = n) : (lsr32 x k).toBitVec = x.toBitVec >>> n := by
  subst hk; rfl
theorem own_lsr1 (x : Int32) : 0 ≤ (lsr32 x 1).toInt := by
  show 0 ≤ (lsr32 x 1).toBitVec.toInt
  rw [own_sh32 x 1 1 (by decide), BitVec.toInt_eq_toNat_cond, BitVec.toNat_ushiftRight, Nat.shiftRight_eq_div_pow]
  have := x.toBitVec.isLt
  split <;> omega
theorem own_idx (x : Int32) : ∃ i : Nat, ((lsr32 x (1 : Int32)) % (11 : Int32)).toInt = (i : Int) ∧ i < 11 := by
  have h := own_lsr1 x
  have e : ((lsr32 x (1 : Int32)) % (11 : Int32)).toInt = (lsr32 x 1).toInt % 11 := by
    rw [Int32.toInt_mod, show (11 : Int32).toInt = 11 from by decide, Int.tmod_eq_emod_of_nonneg h]
  exact ⟨((lsr32 x 1).toInt % 11).toNat, by rw [e]; omega, by omega⟩
theorem own_lit (a : Int32) (k : Int) (h : a.toInt = k) (x : Int32) : (x = a ↔ x.toInt = k) ∧ (x < a ↔ x.toInt < k) ∧ (a < x ↔ k < x.toInt) := by
  subst h; exact ⟨Int32.toInt_inj.symm, Int32.lt_iff_toInt_lt, Int32.lt_iff_toInt_lt⟩
def own_bi (x : Int) : Prop := x = 1564 ∨ x = 8206 ∨ x = 8207 ∨ (8234 ≤ x ∧ x ≤ 8238) ∨ (8294 ≤ x ∧ x ≤ 8297)
def own_zw (x : Int) : Prop := (8203 ≤ x ∧ x ≤ 8205) ∨ x = 8288 ∨ x = 65279
instance (x : Int) : Decidable (own_bi x) := by unfold own_bi; infer_instance
instance (x : Int) : Decidable (own_zw x) := by unfold own_zw; infer_instance
theorem own_bidi (x : Int32) : bidi x = if own_bi x.toInt then 1 else 0 := by
  unfold bidi
  simp only [(own_lit 1564 1564 (by decide) x).1, (own_lit 8206 8206 (by decide) x).1, (own_lit 8207 8207 (by decide) x).1, (own_lit 8234 8234 (by decide) x).2.1, (own_lit 8238 8238 (by decide) x).2.2, (own_lit 8294 8294 (by decide) x).2.1, (own_lit 8297 8297 (by decide) x).2.2]
  generalize x.toInt = y
  by_cases hz : own_bi y
  · rw [if_pos hz]; unfold own_bi at hz; repeat' split
    all_goals first | rfl | (exfalso; omega)
  · rw [if_neg hz]; unfold own_bi at hz; repeat' split
    all_goals first | rfl | (exfalso; omega)
theorem own_zwf (x : Int32) : zwf x = if own_zw x.toInt then 1 else 0 := by
  unfold zwf
  simp only [(own_lit 8203 8203 (by decide) x).2.1, (own_lit 8205 8205 (by decide) x).2.2, (own_lit 8288 8288 (by decide) x).1, (own_lit 65279 65279 (by decide) x).1]
  generalize x.toInt = y
  by_cases hz : own_zw y
  · rw [if_pos hz]; unfold own_zw at hz; repeat' split
    all_goals first | rfl | (exfalso; omega)
  · rw [if_neg hz]; unfold own_zw at hz; repeat' split
    all_goals first | rfl | (exfalso; omega)
theorem own_invis (x : Int32) : invis x = if own_bi x.toInt ∨ own_zw x.toInt then 1 else 0 := by
  unfold invis
  simp only [(own_lit 1564 1564 (by decide) x).1, (own_lit 8203 8203 (by decide) x).2.1, (own_lit 8207 8207 (by decide) x).2.2, (own_lit 8234 8234 (by decide) x).2.1, (own_lit 8238 8238 (by decide) x).2.2, (own_lit 8288 8288 (by decide) x).1, (own_lit 8294 8294 (by decide) x).2.1, (own_lit 8297 8297 (by decide) x).2.2, (own_lit 65279 65279 (by decide) x).1]
  generalize x.toInt = y
  by_cases hz : own_bi y ∨ own_zw y
  · rw [if_pos hz]; unfold own_bi own_zw at hz; repeat' split
    all_goals first | rfl | (exfalso; omega)
  · rw [if_neg hz]; unfold own_bi own_zw at hz; repeat' split
    all_goals first | rfl | (exfalso; omega)
theorem own_1 (x : Int32) (h : ¬ bidi x = 0) : (invis x) = (1 : Int32) := by
  rw [own_bidi] at h
  by_cases q : own_bi x.toInt
  · rw [own_invis, if_pos (Or.inl q)]
  · rw [if_neg q] at h; exact absurd rfl h
theorem own_01 (x : Int32) (h : ¬ zwf x = 0) : (invis x) = (1 : Int32) := by
  rw [own_zwf] at h
  by_cases q : own_zw x.toInt
  · rw [own_invis, if_pos (Or.inr q)]
  · rw [if_neg q] at h; exact absurd rfl h
theorem own_00 (x : Int32) (h1 : bidi x = 0) (h2 : zwf x = 0) : (invis x) = (0 : Int32) := by
  rw [own_bidi] at h1; rw [own_zwf] at h2
  have n1 : ¬ own_bi x.toInt := fun q => by rw [if_pos q] at h1; exact absurd h1 (by decide)
  have n2 : ¬ own_zw x.toInt := fun q => by rw [if_pos q] at h2; exact absurd h2 (by decide)
  rw [own_invis, if_neg (fun q => q.elim n1 n2)]
theorem pd_0 : parseMethodDescriptor "(I)Z" = some ⟨[.int], some .boolean⟩ := by decide +kernel
theorem ef_0 (m : MethodId) (p0 : Int32) (p1 : Int32) (p2 : Int32) : entryFrame m #[(.int p0), (.int p1), (.int p2)] maxLocals = mkF m 0 #[.val (.int p0), .val (.int p1), .val (.int p2), .unset, .unset, .unset] [] := by first | (simp [entryFrame, mkF, argsToLocals, Value.category, maxLocals]; done) | rfl
def Q0 (n0 : Nat) (v : Option Value) (h : Heap) (L : List Loc) : Prop := v = some (.int 1) ∧ Fr n0 L
set_option maxRecDepth 65536 in
set_option maxHeartbeats 40000000 in
theorem rm0 (l : Launch) (Z : State) (aw : Array Value) (hw : ∀ d ∈ tables_1, d.before aw Z = true) (ws : List Jvm.Cond) (p0 : Int32) (p1 : Int32) (p2 : Int32) (h0 : Heap) (n0 : Nat) (Z0 : n0 ≤ h0.size) :
    MetFree l x (head1 (Jvm.Cond.code x code maxLocals ret :: ws) room_1) (fun a U => a = #[(.int p0), (.int p1), (.int p2)] ∧ Z.Warmed39 U.vm ∧ U.heap = h0) (fun _ _ _ _ _ => True) (fun _ U o U' => ∃ v L, o = .returned v ∧ Q0 n0 v U'.heap L ∧ FrameEnd U o U' L 16 128) := by
  refine MetFree.of_bodySF (plainFor_of_name pn_0) hisR ?_
  intro p e s m args below meth c s₁ Bd hml0 hP _hKK
  obtain ⟨rfl, hZ, hh⟩ := hP
  have hx := Bd.exec
  have hby := Bd.bytes
  have hml : c.maxLocals = 6 := hml0
  have hown : s.vm.findClass "com/example/metadata_for_discovery/metadatafordiscovery/validation/BlankIsInvisiblePinLaw" = some m.cls := findClass_of_methodNamed Bd.named
  have hnm := (name_of_methodNamed Bd.named Bd.method).1
  have X0 : Stand p l e room_1 s m #[(.int p0), (.int p1), (.int p2)] below meth c s₁ [] 0 0 := Stand.of_body Bd
  have e0 : s₁.heap = h0 := by rw [← hh, Bd.state]; rfl
  refine Ow.enter (Q := Q0 n0) (ef_0 m p0 p1 p2) ?_
  show Ow p e below s _ _ _ (s₁.setTop (mkF m 0 #[.val (.int p0), .val (.int p1), .val (.int p2), .unset, .unset, .unset] []))
  refine w_bipush X0 hx (11 : Int32) (Jvm.hb hby at_0) (by decide) (pc' := 2) rfl ?_
  refine w_newarray X0 hx hZ (hw _ (List.mem_of_getElem? (i := 0) rfl)) e0 (Jvm.hb hby at_2) (by decide) (cap := 11) (by decide) (by decide) (by decide) (by decide) (ad := "[I") (by decide) (pc' := 4) rfl ?_
  intro T21 h21 a21 c21 g21 X21 e21 E21 A21 B21
  have V21 : IAr Z h21 a21 .int 11 (fun _ => 0) := IAr.new A21 rfl (by decide)
  have G : n0 ≤ a21 := Nat.le_trans Z0 (Nat.le_of_eq g21.symm)
  refine w_dup X21 hx (Jvm.hb hby at_4) rfl (pc' := 5) rfl ?_
  refine w_iconst X21 hx (0 : Int32) (Jvm.hb hby at_5) (by decide) (pc' := 6) rfl ?_
  refine w_sipush X21 hx (1564 : Int32) (Jvm.hb hby at_6) (by decide) (pc' := 9) rfl ?_
  refine w_iastoreA X21 hx hZ e21 V21 0 (by decide) (by decide) (Jvm.hb hby at_9) (pc' := 10) rfl ?_
  intro T22 h22 X22 e22 W22 V22
  have N22 := Fr.snoc X22 (Fr.nil n0) G
  refine w_dup X22 hx (Jvm.hb hby at_10) rfl (pc' := 11) rfl ?_
  refine w_iconst X22 hx (1 : Int32) (Jvm.hb hby at_11) (by decide) (pc' := 12) rfl ?_
  refine w_sipush X22 hx (8203 : Int32) (Jvm.hb hby at_12) (by decide) (pc' := 15) rfl ?_
  refine w_iastoreA X22 hx hZ e22 V22 1 (by decide) (by decide) (Jvm.hb hby at_15) (pc' := 16) rfl ?_
  intro T23 h23 X23 e23 W23 V23
  have N23 := Fr.snoc X23 N22 G
  refine w_dup X23 hx (Jvm.hb hby at_16) rfl (pc' := 17) rfl ?_
  refine w_iconst X23 hx (2 : Int32) (Jvm.hb hby at_17) (by decide) (pc' := 18) rfl ?_
  refine w_sipush X23 hx (8205 : Int32) (Jvm.hb hby at_18) (by decide) (pc' := 21) rfl ?_
  refine w_iastoreA X23 hx hZ e23 V23 2 (by decide) (by decide) (Jvm.hb hby at_21) (pc' := 22) rfl ?_
  intro T24 h24 X24 e24 W24 V24
  have N24 := Fr.snoc X24 N23 G
  refine w_dup X24 hx (Jvm.hb hby at_22) rfl (pc' := 23) rfl ?_
  refine w_iconst X24 hx (3 : Int32) (Jvm.hb hby at_23) (by decide) (pc' := 24) rfl ?_
  refine w_sipush X24 hx (8206 : Int32) (Jvm.hb hby at_24) (by decide) (pc' := 27) rfl ?_
  refine w_iastoreA X24 hx hZ e24 V24 3 (by decide) (by decide) (Jvm.hb hby at_27) (pc' := 28) rfl ?_
  intro T25 h25 X25 e25 W25 V25
  have N25 := Fr.snoc X25 N24 G
  refine w_dup X25 hx (Jvm.hb hby at_28) rfl (pc' := 29) rfl ?_
  refine w_iconst X25 hx (4 : Int32) (Jvm.hb hby at_29) (by decide) (pc' := 30) rfl ?_
  refine w_sipush X25 hx (8207 : Int32) (Jvm.hb hby at_30) (by decide) (pc' := 33) rfl ?_
  refine w_iastoreA X25 hx hZ e25 V25 4 (by decide) (by decide) (Jvm.hb hby at_33) (pc' := 34) rfl ?_
  intro T26 h26 X26 e26 W26 V26
  have N26 := Fr.snoc X26 N25 G
  refine w_dup X26 hx (Jvm.hb hby at_34) rfl (pc' := 35) rfl ?_
  refine w_iconst X26 hx (5 : Int32) (Jvm.hb hby at_35) (by decide) (pc' := 36) rfl ?_
  refine w_sipush X26 hx (8234 : Int32) (Jvm.hb hby at_36) (by decide) (pc' := 39) rfl ?_
  refine w_iastoreA X26 hx hZ e26 V26 5 (by decide) (by decide) (Jvm.hb hby at_39) (pc' := 40) rfl ?_
  intro T27 h27 X27 e27 W27 V27
  have N27 := Fr.snoc X27 N26 G
  refine w_dup X27 hx (Jvm.hb hby at_40) rfl (pc' := 41) rfl ?_
  refine w_bipush X27 hx (6 : Int32) (Jvm.hb hby at_41) (by decide) (pc' := 43) rfl ?_
  refine w_sipush X27 hx (8238 : Int32) (Jvm.hb hby at_43) (by decide) (pc' := 46) rfl ?_
  refine w_iastoreA X27 hx hZ e27 V27 6 (by decide) (by decide) (Jvm.hb hby at_46) (pc' := 47) rfl ?_
  intro T28 h28 X28 e28 W28 V28
  have N28 := Fr.snoc X28 N27 G
  refine w_dup X28 hx (Jvm.hb hby at_47) rfl (pc' := 48) rfl ?_
  refine w_bipush X28 hx (7 : Int32) (Jvm.hb hby at_48) (by decide) (pc' := 50) rfl ?_
  refine w_sipush X28 hx (8288 : Int32) (Jvm.hb hby at_50) (by decide) (pc' := 53) rfl ?_
  refine w_iastoreA X28 hx hZ e28 V28 7 (by decide) (by decide) (Jvm.hb hby at_53) (pc' := 54) rfl ?_
  intro T29 h29 X29 e29 W29 V29
  have N29 := Fr.snoc X29 N28 G
  refine w_dup X29 hx (Jvm.hb hby at_54) rfl (pc' := 55) rfl ?_
  refine w_bipush X29 hx (8 : Int32) (Jvm.hb hby at_55) (by decide) (pc' := 57) rfl ?_
  refine w_sipush X29 hx (8294 : Int32) (Jvm.hb hby at_57) (by decide) (pc' := 60) rfl ?_
  refine w_iastoreA X29 hx hZ e29 V29 8 (by decide) (by decide) (Jvm.hb hby at_60) (pc' := 61) rfl ?_
  intro T30 h30 X30 e30 W30 V30
  have N30 := Fr.snoc X30 N29 G
  refine w_dup X30 hx (Jvm.hb hby at_61) rfl (pc' := 62) rfl ?_
  refine w_bipush X30 hx (9 : Int32) (Jvm.hb hby at_62) (by decide) (pc' := 64) rfl ?_
  refine w_sipush X30 hx (8297 : Int32) (Jvm.hb hby at_64) (by decide) (pc' := 67) rfl ?_
  refine w_iastoreA X30 hx hZ e30 V30 9 (by decide) (by decide) (Jvm.hb hby at_67) (pc' := 68) rfl ?_
  intro T31 h31 X31 e31 W31 V31
  have N31 := Fr.snoc X31 N30 G
  refine w_dup X31 hx (Jvm.hb hby at_68) rfl (pc' := 69) rfl ?_
  refine w_bipush X31 hx (10 : Int32) (Jvm.hb hby at_69) (by decide) (pc' := 71) rfl ?_
  refine w_ldcI X31 hx hZ hown (hw _ (List.mem_of_getElem? (i := 1) rfl)) (Jvm.hb hby at_71) (pc' := 73) rfl ?_
  refine w_iastoreA X31 hx hZ e31 V31 10 (by decide) (by decide) (Jvm.hb hby at_73) (pc' := 74) rfl ?_
  intro T32 h32 X32 e32 W32 V32
  have N32 := Fr.snoc X32 N31 G
  obtain ⟨fA, VA⟩ : ∃ f, IAr Z h32 a21 .int 11 f := ⟨_, V32⟩
  refine w_astoreN X32 hx (Jvm.hb hby at_74) #[.val (.int p0), .val (.int p1), .val (.int p2), .val (.ref a21), .unset, .unset] rfl rfl (pc' := 75) rfl ?_
  refine w_iloadN X32 hx (Jvm.hb hby at_75) rfl (pc' := 76) rfl ?_
  refine w_iconst X32 hx (1 : Int32) (Jvm.hb hby at_76) (by decide) (pc' := 77) rfl ?_
  refine w_iand X32 hx (Jvm.hb hby at_77) (pc' := 78) rfl ?_
  refine w_if_ne X32 hx (Jvm.hb hby at_78) (by decide) (pcT := 87) (by decide) (pcF := 81) rfl (fun hsel => ?_) (fun hsel => ?_)
  · refine w_iloadN X32 hx (Jvm.hb hby at_87) rfl (pc' := 88) rfl ?_
    refine w_iconst X32 hx (1 : Int32) (Jvm.hb hby at_88) (by decide) (pc' := 89) rfl ?_
    refine w_iushr X32 hx (Jvm.hb hby at_89) (pc' := 90) rfl ?_
    refine w_bipush X32 hx (11 : Int32) (Jvm.hb hby at_90) (by decide) (pc' := 92) rfl ?_
    refine w_irem X32 hx (Jvm.hb hby at_92) (by decide) (pc' := 93) rfl ?_
    refine w_istore X32 hx (Jvm.hb hby at_93) #[.val (.int p0), .val (.int p1), .val (.int p2), .val (.ref a21), .unset, .val (.int ((lsr32 p1 (1 : Int32)) % (11 : Int32)))] rfl  (pc' := 95) rfl ?_
    refine w_aloadN X32 hx (Jvm.hb hby at_95) rfl rfl (pc' := 96) rfl ?_
    refine w_iload X32 hx (Jvm.hb hby at_96) rfl (pc' := 98) rfl ?_
    obtain ⟨ix, hix, hlt⟩ := own_idx p1
    refine w_ialoadA X32 hx hZ e32 VA ix hix hlt (Jvm.hb hby at_98) (pc' := 99) rfl ?_
    refine w_iloadN X32 hx (Jvm.hb hby at_99) rfl (pc' := 100) rfl ?_
    refine w_bipush X32 hx (7 : Int32) (Jvm.hb hby at_100) (by decide) (pc' := 102) rfl ?_
    refine w_iand X32 hx (Jvm.hb hby at_102) (pc' := 103) rfl ?_
    refine w_iconst X32 hx (4 : Int32) (Jvm.hb hby at_103) (by decide) (pc' := 104) rfl ?_
    refine w_isub X32 hx (Jvm.hb hby at_104) (pc' := 105) rfl ?_
    refine w_iadd X32 hx (Jvm.hb hby at_105) (pc' := 106) rfl ?_
    refine w_istore X32 hx (Jvm.hb hby at_106) #[.val (.int p0), .val (.int p1), .val (.int p2), .val (.ref a21), .val (.int ((fA ix) + ((p2 &&& (7 : Int32)) - (4 : Int32)))), .val (.int ((lsr32 p1 (1 : Int32)) % (11 : Int32)))] rfl  (pc' := 108) rfl ?_
    generalize hcv : ((fA ix) + ((p2 &&& (7 : Int32)) - (4 : Int32))) = cv
    show Ow p e below s _ _ _ (T32.setTop (mkF m 108 #[.val (.int p0), .val (.int p1), .val (.int p2), .val (.ref a21), .val (.int cv), .val (.int ((lsr32 p1 (1 : Int32)) % (11 : Int32)))] []))
    refine w_iload X32 hx (Jvm.hb hby at_108) rfl (pc' := 110) rfl ?_
    refine w_callS X32 hx hZ hown (hw _ (List.mem_of_getElem? (i := 2) rfl)) (hw _ (List.mem_of_getElem? (i := 3) rfl)) (hw _ (List.mem_of_getElem? (i := 4) rfl)) (hw _ (List.mem_of_getElem? (i := 5) rfl)) (by decide) (W := 0) (rm1 l Z aw hw [] cv h32) e32 (by decide) (by decide) (by decide) (by decide) (Jvm.hb hby at_110) (by rw [hml]; rfl) (argsL := [(.int cv)]) (rest := []) pd_0 rfl rfl rfl (Nat.le_of_eq rfl) (pc' := 113) rfl ?_
    rintro _ T33 L33 X33 ⟨rfl, e33, rfl⟩
    show Ow p e below s _ _ _ (T33.setTop (mkF m 113 #[.val (.int p0), .val (.int p1), .val (.int p2), .val (.ref a21), .val (.int cv), .val (.int ((lsr32 p1 (1 : Int32)) % (11 : Int32)))] [(.int (bidi cv))]))
    refine w_if_ne X33 hx (Jvm.hb hby at_113) (by decide) (pcT := 124) (by decide) (pcF := 116) rfl (fun hb1 => ?_) (fun hb1 => ?_)
    · refine w_iconst X33 hx (1 : Int32) (Jvm.hb hby at_124) (by decide) (pc' := 125) rfl ?_
      refine w_goto X33 hx (Jvm.hb hby at_125) (by decide) (pc' := 129) (by decide) ?_
      refine w_istore X33 hx (Jvm.hb hby at_129) #[.val (.int p0), .val (.int p1), .val (.int p2), .val (.ref a21), .val (.int cv), .val (.int (1 : Int32))] rfl  (pc' := 131) rfl ?_
      refine w_iload X33 hx (Jvm.hb hby at_131) rfl (pc' := 133) rfl ?_
      refine w_callS X33 hx hZ hown (hw _ (List.mem_of_getElem? (i := 9) rfl)) (hw _ (List.mem_of_getElem? (i := 10) rfl)) (hw _ (List.mem_of_getElem? (i := 11) rfl)) (hw _ (List.mem_of_getElem? (i := 12) rfl)) (by decide) (W := 0) (rm3 l Z aw hw [] cv h32) e33 (by decide) (by decide) (by decide) (by decide) (Jvm.hb hby at_133) (by rw [hml]; rfl) (argsL := [(.int cv)]) (rest := []) pd_0 rfl rfl rfl (Nat.le_of_eq rfl) (pc' := 136) rfl ?_
      rintro _ T34 L34 X34 ⟨rfl, e34, rfl⟩
      show Ow p e below s _ _ _ (T34.setTop (mkF m 136 #[.val (.int p0), .val (.int p1), .val (.int p2), .val (.ref a21), .val (.int cv), .val (.int (1 : Int32))] [(.int (invis cv))]))
      refine w_iload X34 hx (Jvm.hb hby at_136) rfl (pc' := 138) rfl ?_
      refine w_icmp_ne X34 hx (Jvm.hb hby at_138) (by decide) (pcT := 145) (by decide) (pcF := 141) rfl (fun q => absurd (own_1 cv hb1) q) (fun _ => ?_)
      refine w_iconst X34 hx (1 : Int32) (Jvm.hb hby at_141) (by decide) (pc' := 142) rfl ?_
      refine w_goto X34 hx (Jvm.hb hby at_142) (by decide) (pc' := 146) (by decide) ?_
      exact w_zreturn X34 hx Bd.returns (Or.inr rfl) (BodyLoose.notSynchronized Bd) (Nat.le_of_ble_eq_true rfl) (Nat.le_of_ble_eq_true rfl) (Jvm.hb hby at_146) ⟨rfl, by simpa using N32⟩
    · refine w_iload X33 hx (Jvm.hb hby at_116) rfl (pc' := 118) rfl ?_
      refine w_callS X33 hx hZ hown (hw _ (List.mem_of_getElem? (i := 6) rfl)) (hw _ (List.mem_of_getElem? (i := 7) rfl)) (hw _ (List.mem_of_getElem? (i := 4) rfl)) (hw _ (List.mem_of_getElem? (i := 8) rfl)) (by decide) (W := 0) (rm2 l Z aw hw [] cv h32) e33 (by decide) (by decide) (by decide) (by decide) (Jvm.hb hby at_118) (by rw [hml]; rfl) (argsL := [(.int cv)]) (rest := []) pd_0 rfl rfl rfl (Nat.le_of_eq rfl) (pc' := 121) rfl ?_
      rintro _ T35 L35 X35 ⟨rfl, e35, rfl⟩
      show Ow p e below s _ _ _ (T35.setTop (mkF m 121 #[.val (.int p0), .val (.int p1), .val (.int p2), .val (.ref a21), .val (.int cv), .val (.int ((lsr32 p1 (1 : Int32)) % (11 : Int32)))] [(.int (zwf cv))]))
      refine w_if_eq X35 hx (Jvm.hb hby at_121) (by decide) (pcT := 128) (by decide) (pcF := 124) rfl (fun hz1 => ?_) (fun hz1 => ?_)
      · refine w_iconst X35 hx (0 : Int32) (Jvm.hb hby at_128) (by decide) (pc' := 129) rfl ?_
        refine w_istore X35 hx (Jvm.hb hby at_129) #[.val (.int p0), .val (.int p1), .val (.int p2), .val (.ref a21), .val (.int cv), .val (.int (0 : Int32))] rfl  (pc' := 131) rfl ?_
        refine w_iload X35 hx (Jvm.hb hby at_131) rfl (pc' := 133) rfl ?_
        refine w_callS X35 hx hZ hown (hw _ (List.mem_of_getElem? (i := 9) rfl)) (hw _ (List.mem_of_getElem? (i := 10) rfl)) (hw _ (List.mem_of_getElem? (i := 11) rfl)) (hw _ (List.mem_of_getElem? (i := 12) rfl)) (by decide) (W := 0) (rm3 l Z aw hw [] cv h32) e35 (by decide) (by decide) (by decide) (by decide) (Jvm.hb hby at_133) (by rw [hml]; rfl) (argsL := [(.int cv)]) (rest := []) pd_0 rfl rfl rfl (Nat.le_of_eq rfl) (pc' := 136) rfl ?_
        rintro _ T36 L36 X36 ⟨rfl, e36, rfl⟩
        show Ow p e below s _ _ _ (T36.setTop (mkF m 136 #[.val (.int p0), .val (.int p1), .val (.int p2), .val (.ref a21), .val (.int cv), .val (.int (0 : Int32))] [(.int (invis cv))]))
        refine w_iload X36 hx (Jvm.hb hby at_136) rfl (pc' := 138) rfl ?_
        refine w_icmp_ne X36 hx (Jvm.hb hby at_138) (by decide) (pcT := 145) (by decide) (pcF := 141) rfl (fun q => absurd (own_00 cv hb1 hz1) q) (fun _ => ?_)
        refine w_iconst X36 hx (1 : Int32) (Jvm.hb hby at_141) (by decide) (pc' := 142) rfl ?_
        refine w_goto X36 hx (Jvm.hb hby at_142) (by decide) (pc' := 146) (by decide) ?_
        exact w_zreturn X36 hx Bd.returns (Or.inr rfl) (BodyLoose.notSynchronized Bd) (Nat.le_of_ble_eq_true rfl) (Nat.le_of_ble_eq_true rfl) (Jvm.hb hby at_146) ⟨rfl, by simpa using N32⟩
      · refine w_iconst X35 hx (1 : Int32) (Jvm.hb hby at_124) (by decide) (pc' := 125) rfl ?_
        refine w_goto X35 hx (Jvm.hb hby at_125) (by decide) (pc' := 129) (by decide) ?_
        refine w_istore X35 hx (Jvm.hb hby at_129) #[.val (.int p0), .val (.int p1), .val (.int p2), .val (.ref a21), .val (.int cv), .val (.int (1 : Int32))] rfl  (pc' := 131) rfl ?_
        refine w_iload X35 hx (Jvm.hb hby at_131) rfl (pc' := 133) rfl ?_
        refine w_callS X35 hx hZ hown (hw _ (List.mem_of_getElem? (i := 9) rfl)) (hw _ (List.mem_of_getElem? (i := 10) rfl)) (hw _ (List.mem_of_getElem? (i := 11) rfl)) (hw _ (List.mem_of_getElem? (i := 12) rfl)) (by decide) (W := 0) (rm3 l Z aw hw [] cv h32) e35 (by decide) (by decide) (by decide) (by decide) (Jvm.hb hby at_133) (by rw [hml]; rfl) (argsL := [(.int cv)]) (rest := []) pd_0 rfl rfl rfl (Nat.le_of_eq rfl) (pc' := 136) rfl ?_
        rintro _ T37 L37 X37 ⟨rfl, e37, rfl⟩
        show Ow p e below s _ _ _ (T37.setTop (mkF m 136 #[.val (.int p0), .val (.int p1), .val (.int p2), .val (.ref a21), .val (.int cv), .val (.int (1 : Int32))] [(.int (invis cv))]))
        refine w_iload X37 hx (Jvm.hb hby at_136) rfl (pc' := 138) rfl ?_
        refine w_icmp_ne X37 hx (Jvm.hb hby at_138) (by decide) (pcT := 145) (by decide) (pcF := 141) rfl (fun q => absurd (own_01 cv hz1) q) (fun _ => ?_)
        refine w_iconst X37 hx (1 : Int32) (Jvm.hb hby at_141) (by decide) (pc' := 142) rfl ?_
        refine w_goto X37 hx (Jvm.hb hby at_142) (by decide) (pc' := 146) (by decide) ?_
        exact w_zreturn X37 hx Bd.returns (Or.inr rfl) (BodyLoose.notSynchronized Bd) (Nat.le_of_ble_eq_true rfl) (Nat.le_of_ble_eq_true rfl) (Jvm.hb hby at_146) ⟨rfl, by simpa using N32⟩
  · refine w_iloadN X32 hx (Jvm.hb hby at_81) rfl (pc' := 82) rfl ?_
    refine w_istore X32 hx (Jvm.hb hby at_82) #[.val (.int p0), .val (.int p1), .val (.int p2), .val (.ref a21), .val (.int p0), .unset] rfl  (pc' := 84) rfl ?_
    refine w_goto X32 hx (Jvm.hb hby at_84) (by decide) (pc' := 108) (by decide) ?_
    refine w_iload X32 hx (Jvm.hb hby at_108) rfl (pc' := 110) rfl ?_
    refine w_callS X32 hx hZ hown (hw _ (List.mem_of_getElem? (i := 2) rfl)) (hw _ (List.mem_of_getElem? (i := 3) rfl)) (hw _ (List.mem_of_getElem? (i := 4) rfl)) (hw _ (List.mem_of_getElem? (i := 5) rfl)) (by decide) (W := 0) (rm1 l Z aw hw [] p0 h32) e32 (by decide) (by decide) (by decide) (by decide) (Jvm.hb hby at_110) (by rw [hml]; rfl) (argsL := [(.int p0)]) (rest := []) pd_0 rfl rfl rfl (Nat.le_of_eq rfl) (pc' := 113) rfl ?_
    rintro _ T38 L38 X38 ⟨rfl, e38, rfl⟩
    show Ow p e below s _ _ _ (T38.setTop (mkF m 113 #[.val (.int p0), .val (.int p1), .val (.int p2), .val (.ref a21), .val (.int p0), .unset] [(.int (bidi p0))]))
    refine w_if_ne X38 hx (Jvm.hb hby at_113) (by decide) (pcT := 124) (by decide) (pcF := 116) rfl (fun hb1 => ?_) (fun hb1 => ?_)
    · refine w_iconst X38 hx (1 : Int32) (Jvm.hb hby at_124) (by decide) (pc' := 125) rfl ?_
      refine w_goto X38 hx (Jvm.hb hby at_125) (by decide) (pc' := 129) (by decide) ?_
      refine w_istore X38 hx (Jvm.hb hby at_129) #[.val (.int p0), .val (.int p1), .val (.int p2), .val (.ref a21), .val (.int p0), .val (.int (1 : Int32))] rfl  (pc' := 131) rfl ?_
      refine w_iload X38 hx (Jvm.hb hby at_131) rfl (pc' := 133) rfl ?_
      refine w_callS X38 hx hZ hown (hw _ (List.mem_of_getElem? (i := 9) rfl)) (hw _ (List.mem_of_getElem? (i := 10) rfl)) (hw _ (List.mem_of_getElem? (i := 11) rfl)) (hw _ (List.mem_of_getElem? (i := 12) rfl)) (by decide) (W := 0) (rm3 l Z aw hw [] p0 h32) e38 (by decide) (by decide) (by decide) (by decide) (Jvm.hb hby at_133) (by rw [hml]; rfl) (argsL := [(.int p0)]) (rest := []) pd_0 rfl rfl rfl (Nat.le_of_eq rfl) (pc' := 136) rfl ?_
      rintro _ T39 L39 X39 ⟨rfl, e39, rfl⟩
      show Ow p e below s _ _ _ (T39.setTop (mkF m 136 #[.val (.int p0), .val (.int p1), .val (.int p2), .val (.ref a21), .val (.int p0), .val (.int (1 : Int32))] [(.int (invis p0))]))
      refine w_iload X39 hx (Jvm.hb hby at_136) rfl (pc' := 138) rfl ?_
      refine w_icmp_ne X39 hx (Jvm.hb hby at_138) (by decide) (pcT := 145) (by decide) (pcF := 141) rfl (fun q => absurd (own_1 p0 hb1) q) (fun _ => ?_)
      refine w_iconst X39 hx (1 : Int32) (Jvm.hb hby at_141) (by decide) (pc' := 142) rfl ?_
      refine w_goto X39 hx (Jvm.hb hby at_142) (by decide) (pc' := 146) (by decide) ?_
      exact w_zreturn X39 hx Bd.returns (Or.inr rfl) (BodyLoose.notSynchronized Bd) (Nat.le_of_ble_eq_true rfl) (Nat.le_of_ble_eq_true rfl) (Jvm.hb hby at_146) ⟨rfl, by simpa using N32⟩
    · refine w_iload X38 hx (Jvm.hb hby at_116) rfl (pc' := 118) rfl ?_
      refine w_callS X38 hx hZ hown (hw _ (List.mem_of_getElem? (i := 6) rfl)) (hw _ (List.mem_of_getElem? (i := 7) rfl)) (hw _ (List.mem_of_getElem? (i := 4) rfl)) (hw _ (List.mem_of_getElem? (i := 8) rfl)) (by decide) (W := 0) (rm2 l Z aw hw [] p0 h32) e38 (by decide) (by decide) (by decide) (by decide) (Jvm.hb hby at_118) (by rw [hml]; rfl) (argsL := [(.int p0)]) (rest := []) pd_0 rfl rfl rfl (Nat.le_of_eq rfl) (pc' := 121) rfl ?_
      rintro _ T40 L40 X40 ⟨rfl, e40, rfl⟩
      show Ow p e below s _ _ _ (T40.setTop (mkF m 121 #[.val (.int p0), .val (.int p1), .val (.int p2), .val (.ref a21), .val (.int p0), .unset] [(.int (zwf p0))]))
      refine w_if_eq X40 hx (Jvm.hb hby at_121) (by decide) (pcT := 128) (by decide) (pcF := 124) rfl (fun hz1 => ?_) (fun hz1 => ?_)
      · refine w_iconst X40 hx (0 : Int32) (Jvm.hb hby at_128) (by decide) (pc' := 129) rfl ?_
        refine w_istore X40 hx (Jvm.hb hby at_129) #[.val (.int p0), .val (.int p1), .val (.int p2), .val (.ref a21), .val (.int p0), .val (.int (0 : Int32))] rfl  (pc' := 131) rfl ?_
        refine w_iload X40 hx (Jvm.hb hby at_131) rfl (pc' := 133) rfl ?_
        refine w_callS X40 hx hZ hown (hw _ (List.mem_of_getElem? (i := 9) rfl)) (hw _ (List.mem_of_getElem? (i := 10) rfl)) (hw _ (List.mem_of_getElem? (i := 11) rfl)) (hw _ (List.mem_of_getElem? (i := 12) rfl)) (by decide) (W := 0) (rm3 l Z aw hw [] p0 h32) e40 (by decide) (by decide) (by decide) (by decide) (Jvm.hb hby at_133) (by rw [hml]; rfl) (argsL := [(.int p0)]) (rest := []) pd_0 rfl rfl rfl (Nat.le_of_eq rfl) (pc' := 136) rfl ?_
        rintro _ T41 L41 X41 ⟨rfl, e41, rfl⟩
        show Ow p e below s _ _ _ (T41.setTop (mkF m 136 #[.val (.int p0), .val (.int p1), .val (.int p2), .val (.ref a21), .val (.int p0), .val (.int (0 : Int32))] [(.int (invis p0))]))
        refine w_iload X41 hx (Jvm.hb hby at_136) rfl (pc' := 138) rfl ?_
        refine w_icmp_ne X41 hx (Jvm.hb hby at_138) (by decide) (pcT := 145) (by decide) (pcF := 141) rfl (fun q => absurd (own_00 p0 hb1 hz1) q) (fun _ => ?_)
        refine w_iconst X41 hx (1 : Int32) (Jvm.hb hby at_141) (by decide) (pc' := 142) rfl ?_
        refine w_goto X41 hx (Jvm.hb hby at_142) (by decide) (pc' := 146) (by decide) ?_
        exact w_zreturn X41 hx Bd.returns (Or.inr rfl) (BodyLoose.notSynchronized Bd) (Nat.le_of_ble_eq_true rfl) (Nat.le_of_ble_eq_true rfl) (Jvm.hb hby at_146) ⟨rfl, by simpa using N32⟩
      · refine w_iconst X40 hx (1 : Int32) (Jvm.hb hby at_124) (by decide) (pc' := 125) rfl ?_
        refine w_goto X40 hx (Jvm.hb hby at_125) (by decide) (pc' := 129) (by decide) ?_
        refine w_istore X40 hx (Jvm.hb hby at_129) #[.val (.int p0), .val (.int p1), .val (.int p2), .val (.ref a21), .val (.int p0), .val (.int (1 : Int32))] rfl  (pc' := 131) rfl ?_
        refine w_iload X40 hx (Jvm.hb hby at_131) rfl (pc' := 133) rfl ?_
        refine w_callS X40 hx hZ hown (hw _ (List.mem_of_getElem? (i := 9) rfl)) (hw _ (List.mem_of_getElem? (i := 10) rfl)) (hw _ (List.mem_of_getElem? (i := 11) rfl)) (hw _ (List.mem_of_getElem? (i := 12) rfl)) (by decide) (W := 0) (rm3 l Z aw hw [] p0 h32) e40 (by decide) (by decide) (by decide) (by decide) (Jvm.hb hby at_133) (by rw [hml]; rfl) (argsL := [(.int p0)]) (rest := []) pd_0 rfl rfl rfl (Nat.le_of_eq rfl) (pc' := 136) rfl ?_
        rintro _ T42 L42 X42 ⟨rfl, e42, rfl⟩
        show Ow p e below s _ _ _ (T42.setTop (mkF m 136 #[.val (.int p0), .val (.int p1), .val (.int p2), .val (.ref a21), .val (.int p0), .val (.int (1 : Int32))] [(.int (invis p0))]))
        refine w_iload X42 hx (Jvm.hb hby at_136) rfl (pc' := 138) rfl ?_
        refine w_icmp_ne X42 hx (Jvm.hb hby at_138) (by decide) (pcT := 145) (by decide) (pcF := 141) rfl (fun q => absurd (own_01 p0 hz1) q) (fun _ => ?_)
        refine w_iconst X42 hx (1 : Int32) (Jvm.hb hby at_141) (by decide) (pc' := 142) rfl ?_
        refine w_goto X42 hx (Jvm.hb hby at_142) (by decide) (pc' := 146) (by decide) ?_
        exact w_zreturn X42 hx Bd.returns (Or.inr rfl) (BodyLoose.notSynchronized Bd) (Nat.le_of_ble_eq_true rfl) (Nat.le_of_ble_eq_true rfl) (Jvm.hb hby at_146) ⟨rfl, by simpa using N32⟩
set_option maxRecDepth 65536 in
set_option maxHeartbeats 40000000 in
theorem comes_1 {Post : Tables → Env → Array Value → State → Outcome → State → Prop} (hpost : ∀ tb e args s v u, (limb_1_1.after args s (.returned v) u = true ∧ limb_1_2.after args s (.returned v) u = true ∧ True) → FrameEnd s (.returned v) u (Jvm.fieldLocs frame_1_writes args s ++ Jvm.arrayLocs frame_1_arrays args s ++ Jvm.staticLocs frame_1_statics s) 16 128 → Post tb e args s (.returned v) u) :
    ArmFor flags0 classFile x code maxLocals ret World_1 tables_1 room_1 Calls_1 rest_1 Pre_1 Post := by
  intro l hfl _ _ p e ha hc hk s m args below hf hA hF happ hP
  obtain ⟨hcalls, hrest, hpre⟩ := hP
  obtain ⟨-, -, -, hnamed, -, -, -, hat⟩ := (Spec.applies_iff hf).mp happ
  obtain ⟨hg, hn⟩ := and_e (Cond.before_iff.mp (show (Jvm.Cond.and given_1 narrow_1).before args s = true from hpre))
  obtain ⟨g1, g2⟩ := and_e hg
  obtain ⟨g3, g4⟩ := and_e g2
  obtain ⟨g5, g6⟩ := and_e g4
  obtain ⟨w0, w1, w2, rfl⟩ : ∃ w0 w1 w2 : Value, args = #[w0, w1, w2] := by
    have hs : args.size = 3 := by simpa [Cond.value, given_1] using g1
    obtain ⟨L⟩ := args
    match L, hs with
    | [w0, w1, w2], _ => exact ⟨w0, w1, w2, rfl⟩
  have hw := fun d (hd : d ∈ tables_1) => atoms_spec (ws := Jvm.Cond.code x code maxLocals ret :: tables_1) hat d (List.mem_cons_of_mem _ hd)
  obtain ⟨i0, ei0⟩ := is_v g3
  obtain rfl : w0 = (.int i0) := Option.some.inj ei0
  obtain ⟨i1, ei1⟩ := is_v g5
  obtain rfl : w1 = (.int i1) := Option.some.inj ei1
  obtain ⟨i2, ei2⟩ := is_v g6
  obtain rfl : w2 = (.int i2) := Option.some.inj ei2
  obtain ⟨n, o, h1, h2, h3, _, L, rfl, ⟨rfl, N⟩, hq⟩ := rm0 l s _ hw tables_1 i0 i1 i2 s.heap s.heap.size (Nat.le_refl _) p e ha hc hk s m _ below hf ((Spec.applies_iff_loose hf).mp happ).1 ⟨rfl, State.Warmed39.refl s, rfl⟩ trivial
  refine ⟨n, _, h1, h2, h3, hpost _ _ _ _ _ _ ⟨Cond.after_iff.mpr rfl, Cond.after_iff.mpr (eq_i res_at (Term.int_eval (1)) rfl), trivial⟩ ⟨hq.1, hq.2.1, (hq.2.2.sift fun y hy => Or.inr (N y hy)).mono (by decide) (by decide)⟩⟩
theorem main_1_1 : Claimed_1_1 := comes_1 fun _ _ _ _ _ _ h hF => ⟨h.1, hF⟩
theorem main_1_2 : Claimed_1_2 := comes_1 fun _ _ _ _ _ _ h hF => ⟨h.2.1, hF⟩
end Jvm.Pilot.@@N@@
namespace Jvm.Pilot.@@N@@
open Jvm Jvm.ClassFile Sem Op Lib Jvm.Free Jvm.Stand Jvm.Pilot.@@N@@.Jvm.D
/-! MADE BY PROGRAM (witnessworld.py) out of the Statement's table words and the real class files: 9 classes; the members and pool entries that the words name. The judged class is class 1, her method 3. -/
namespace start1
open Jvm.ClassFile
def u (s : String) : CpInfo := .utf8 (stringToUtf16 s)
/-- a pool by its gaps: so many unusable entries, then the entry; so many at the end -/
def gap : Nat → List CpInfo → List CpInfo
  | 0, r => r
  | n + 1, r => .unusable :: gap n r
def poolList (es : List (Nat × CpInfo)) (last : Nat) : List CpInfo := es.foldr (fun e r => gap e.1 (e.2 :: r)) (gap last [])
def pool (es : List (Nat × CpInfo)) (last : Nat) : Array CpInfo := ⟨poolList es last⟩
def fileOf (pool : Array CpInfo) (this : Nat) (attrs : Array Attribute := #[]) (ms : Array MethodInfo := #[]) (fl : Nat := 33) (sup : Nat := 0) (ifs : Array Nat := #[]) (fds : Array FieldInfo := #[]) : ClassFile where
  minorVersion := 0
  majorVersion := 65
  constantPool := pool
  accessFlags := fl
  thisClass := this
  superClass := sup
  interfaces := ifs
  fields := fds
  methods := ms
  attributes := attrs
def plain (name : String) (sup : Option ClassId) : Class where
  name := name
  kind := .ordinary
  loader := none
  accessFlags := 33
  super := sup
  interfaces := #[]
  cf := none
  fields := #[]
  methods := #[]
  instanceTypes := #[]
  staticTypes := #[]
  resolved := #[]
  callSites := []
  init := .initialized
  statics := none
  mirror := none

def pool0 : Array CpInfo := pool [(5, u "<init>"), (0, u "()V"), (1, .class_ 10), (1, u "java/lang/Object")] 113

def k0m0 : Method := { name := "<init>", desc := "()V", sig := { parameters := [], returnType := none }, accessFlags := 1, code := none }
/-- java/lang/Object -/
def k0 : Class := { plain "java/lang/Object" none with
  accessFlags := 33
  interfaces := #[]
  cf := some (fileOf pool0 8 #[] #[{ accessFlags := 1, nameIndex := 5, descriptorIndex := 6, attributes := #[] }] 33 0 #[] #[])
  fields := #[]
  methods := #[k0m0]
  instanceTypes := #[]
  staticTypes := #[]
  resolved := Array.replicate 124 none
  statics := none }

def pool1 : Array CpInfo := pool [(2, .class_ 4), (1, u "java/lang/Object"), (0, u "<init>"), (0, u "()V"), (0, .integer 65279), (0, .methodref 9 10), (0, .class_ 11), (0, .nameAndType 12 13), (0, u "com/example/metadata_for_discovery/metadatafordiscovery/validation/BlankIsInvisiblePinLaw"), (0, u "bidiControl"), (0, u "(I)Z"), (0, .methodref 9 15), (0, .nameAndType 16 13), (0, u "zeroWidthFormat"), (0, .methodref 18 19), (0, .class_ 20), (0, .nameAndType 21 13), (0, u "com/example/metadata_for_discovery/metadatafordiscovery/validation/Blank"), (0, u "isInvisible"), (3, u "law"), (0, u "(III)Z")] 4

def k1m0 : Method := { name := "<init>", desc := "()V", sig := { parameters := [], returnType := none }, accessFlags := 2, code := none }
def k1c1 : Code := { maxStack := 2, maxLocals := 1, code := method_2_code, exceptionTable := #[], attributes := #[] }
def k1m1 : Method := { name := "bidiControl", desc := "(I)Z", sig := { parameters := [.int], returnType := some .boolean }, accessFlags := 10, code := some k1c1 }
def k1c2 : Code := { maxStack := 2, maxLocals := 1, code := method_3_code, exceptionTable := #[], attributes := #[] }
def k1m2 : Method := { name := "zeroWidthFormat", desc := "(I)Z", sig := { parameters := [.int], returnType := some .boolean }, accessFlags := 10, code := some k1c2 }
def k1c3 : Code := { maxStack := 4, maxLocals := 6, code := code, exceptionTable := #[], attributes := #[] }
def k1m3 : Method := { name := "law", desc := "(III)Z", sig := { parameters := [.int, .int, .int], returnType := some .boolean }, accessFlags := 9, code := some k1c3 }
/-- com/example/metadata_for_discovery/metadatafordiscovery/validation/BlankIsInvisiblePinLaw -/
def k1 : Class := { plain "com/example/metadata_for_discovery/metadatafordiscovery/validation/BlankIsInvisiblePinLaw" (some 0) with
  accessFlags := 49
  interfaces := #[]
  cf := some (fileOf pool1 9 #[] #[{ accessFlags := 2, nameIndex := 5, descriptorIndex := 6, attributes := #[] }, { accessFlags := 10, nameIndex := 12, descriptorIndex := 13, attributes := #[] }, { accessFlags := 10, nameIndex := 16, descriptorIndex := 13, attributes := #[] }, { accessFlags := 9, nameIndex := 25, descriptorIndex := 26, attributes := #[] }] 49 2 #[] #[])
  fields := #[]
  methods := #[k1m0, k1m1, k1m2, k1m3]
  instanceTypes := #[]
  staticTypes := #[]
  resolved := Array.replicate 31 none
  statics := none }

def pool2 : Array CpInfo := pool [(2, .class_ 4), (1, u "java/lang/Object"), (0, u "<init>"), (0, u "()V"), (11, .class_ 20), (1, u "com/example/metadata_for_discovery/metadatafordiscovery/validation/Blank"), (1, u "(I)Z"), (2, u "isInvisible"), (9, .integer 65279)] 9

def k2m0 : Method := { name := "<init>", desc := "()V", sig := { parameters := [], returnType := none }, accessFlags := 2, code := none }
def k2c1 : Code := { maxStack := 2, maxLocals := 1, code := prog_110_method_5_code, exceptionTable := #[], attributes := #[] }
def k2m1 : Method := { name := "isInvisible", desc := "(I)Z", sig := { parameters := [.int], returnType := some .boolean }, accessFlags := 8, code := some k2c1 }
/-- com/example/metadata_for_discovery/metadatafordiscovery/validation/Blank -/
def k2 : Class := { plain "com/example/metadata_for_discovery/metadatafordiscovery/validation/Blank" (some 0) with
  accessFlags := 49
  interfaces := #[]
  cf := some (fileOf pool2 18 #[] #[{ accessFlags := 2, nameIndex := 5, descriptorIndex := 6, attributes := #[] }, { accessFlags := 8, nameIndex := 25, descriptorIndex := 22, attributes := #[] }] 49 2 #[] #[])
  fields := #[]
  methods := #[k2m0, k2m1]
  instanceTypes := #[]
  staticTypes := #[]
  resolved := Array.replicate 45 none
  statics := none }

def pool3 : Array CpInfo := pool [(1, u "java/lang/Cloneable"), (0, .class_ 1), (0, u "java/lang/Object"), (0, .class_ 3)] 3

/-- java/lang/Cloneable -/
def k3 : Class := { plain "java/lang/Cloneable" (some 0) with
  accessFlags := 1537
  interfaces := #[]
  cf := some (fileOf pool3 2 #[] #[] 1537 4 #[] #[])
  fields := #[]
  methods := #[]
  instanceTypes := #[]
  staticTypes := #[]
  resolved := Array.replicate 8 none
  statics := none }

def pool4 : Array CpInfo := pool [(1, u "java/io/Serializable"), (0, .class_ 1), (0, u "java/lang/Object"), (0, .class_ 3)] 3

/-- java/io/Serializable -/
def k4 : Class := { plain "java/io/Serializable" (some 0) with
  accessFlags := 1537
  interfaces := #[]
  cf := some (fileOf pool4 2 #[] #[] 1537 4 #[] #[])
  fields := #[]
  methods := #[]
  instanceTypes := #[]
  staticTypes := #[]
  resolved := Array.replicate 8 none
  statics := none }

/-- the primitive byte -/
def k5 : Class := { plain "byte" none with kind := .primitive 'B', accessFlags := 0x411 }
/-- [B -/
def k6 : Class := { plain "[B" (some 0) with kind := .array 5 .byte, interfaces := #[3, 4], accessFlags := 1041 }

/-- the primitive int -/
def k7 : Class := { plain "int" none with kind := .primitive 'I', accessFlags := 0x411 }
/-- [I -/
def k8 : Class := { plain "[I" (some 0) with kind := .array 7 .int, interfaces := #[3, 4], accessFlags := 1041 }

def heap : Heap := #[]
def classes : Array Class := #[k0, k1, k2, k3, k4, k5, k6, k7, k8]
def interned : List (Array UInt16 × Addr) := []
def slotsUsed : Nat := 0
def theMethod : MethodId := ⟨1, 3⟩
def args0 : Array Value := #[.int 5, .int 1, .int 7]
def aboutOver (below : List Frame) : State where
  vm := { classes := classes, interned := interned.toArray }
  heap := heap
  slotsUsed := slotsUsed
  threads := #[{ frames := .invoking theMethod args0 :: below }]
def below0 : List Frame := [.native { method := ⟨0, 0⟩, args := #[] }]
def about1 : State := aboutOver below0
def p0 : Program := .bare "" "" ""
def e0 : Env := launch0.env 0 0 0
theorem w_frames : about1.frames = Frame.invoking theMethod args0 :: below0 := rfl
set_option maxRecDepth 65536 in
theorem w_args : argsFit about1.vm theMethod args0 = true := by decide +kernel
set_option maxRecDepth 65536 in
theorem w_heap : heapFits about1 = true := by decide +kernel
set_option maxRecDepth 65536 in
theorem w_runnable : about1.curStatus? = some .runnable := by decide +kernel
set_option maxRecDepth 65536 in
theorem w_alone : about1.alone = true := by decide +kernel
set_option maxRecDepth 65536 in
theorem w_named : about1.methodNamed? x = some theMethod := by decide +kernel
set_option maxRecDepth 65536 in
theorem w_hears : about1.hears theMethod below0 = true := by decide +kernel
set_option maxRecDepth 65536 in
theorem w_ripe : about1.ripe theMethod args0 below0 = true := by decide +kernel
theorem w_running : about1.status = .running := rfl
set_option maxRecDepth 65536 in
theorem w_room : about1.hasRoom e0.platform room_1 = true :=
  launch0.hasRoom_least _ room_1 (by decide +kernel) (by decide +kernel) (by decide +kernel) (by decide +kernel) (by decide +kernel) (by decide +kernel)
theorem allAtoms_all (ts : List Jvm.Cond) (a : Array Jvm.Value) (st : Jvm.State) : (allAtoms ts).before a st = ts.all (fun c => c.before a st) := by
  induction ts with
  | nil => rfl
  | cons c t ih =>
    show (Jvm.Cond.and c (allAtoms t)).before a st = _
    rw [Jvm.Cond.before_and, ih, List.all_cons]
def words1 : List Jvm.Cond := Jvm.Cond.code x code maxLocals ret :: tables_1
/-- a 'code' word, met by the world's own term for the bytes: nothing is compared byte by byte -/
theorem code_word {y : MethodName} {bytes : ByteArray} {mx : Nat} {rt : Option FieldType} {a : Array Value} {s : State} {m : MethodId} {meth : Method} {c : Code} (h1 : s.methodNamed? y = some m) (h2 : s.vm.method? m = some meth) (h3 : meth.code = some c) (h4 : c.code = bytes)
    (h5 : (c.maxLocals == mx && c.exceptionTable.isEmpty && decide (c.maxStack ≤ mostOperands) && decide (meth.sig.returnType = rt) && !meth.locks && decide (parseMethodDescriptor y.desc = some meth.sig)) = true) : (Jvm.Cond.code y bytes mx rt).before a s = true := by
  simp only [Bool.and_eq_true, beq_iff_eq, Bool.not_eq_true', decide_eq_true_eq] at h5
  obtain ⟨⟨⟨⟨⟨g1, g2⟩, g3⟩, g4⟩, g5⟩, g6⟩ := h5
  simp [Cond.before, Cond.holds, Cond.value, h1, h2, h3, h4, g1, g2, g3, g4, g5, g6]
def isCode : Jvm.Cond → Bool
  | .code _ _ _ _ => true
  | _ => false
theorem all_split {L : List Jvm.Cond} {P : Jvm.Cond → Bool} (h1 : L.all (fun c => isCode c || P c) = true) (h2 : ∀ c ∈ L.filter isCode, P c = true) : L.all P = true := by
  refine List.all_eq_true.mpr fun c hc => ?_
  have h := List.all_eq_true.mp h1 c hc
  rcases Bool.eq_false_or_eq_true (isCode c) with hi | hi
  · exact h2 c (List.mem_filter.mpr ⟨hc, hi⟩)
  · simpa [hi] using h
set_option maxRecDepth 65536 in
theorem w_c0 : (Jvm.Cond.code x code maxLocals ret).before args0 about1 = true := code_word (m := ⟨1, 3⟩) (meth := k1m3) (c := k1c3) (by decide +kernel) rfl rfl rfl (by decide +kernel)
set_option maxRecDepth 65536 in
theorem w_c1 : (Jvm.Cond.code ({ cls := "com/example/metadata_for_discovery/metadatafordiscovery/validation/BlankIsInvisiblePinLaw", name := "bidiControl", desc := "(I)Z" } : Jvm.MethodName) method_2_code (1 : Nat) (Option.some Jvm.ClassFile.FieldType.boolean)).before args0 about1 = true := code_word (m := ⟨1, 1⟩) (meth := k1m1) (c := k1c1) (by decide +kernel) rfl rfl rfl (by decide +kernel)
set_option maxRecDepth 65536 in
theorem w_c2 : (Jvm.Cond.code ({ cls := "com/example/metadata_for_discovery/metadatafordiscovery/validation/BlankIsInvisiblePinLaw", name := "zeroWidthFormat", desc := "(I)Z" } : Jvm.MethodName) method_3_code (1 : Nat) (Option.some Jvm.ClassFile.FieldType.boolean)).before args0 about1 = true := code_word (m := ⟨1, 2⟩) (meth := k1m2) (c := k1c2) (by decide +kernel) rfl rfl rfl (by decide +kernel)
set_option maxRecDepth 65536 in
theorem w_c3 : (Jvm.Cond.code ({ cls := "com/example/metadata_for_discovery/metadatafordiscovery/validation/Blank", name := "isInvisible", desc := "(I)Z" } : Jvm.MethodName) prog_110_method_5_code (1 : Nat) (Option.some Jvm.ClassFile.FieldType.boolean)).before args0 about1 = true := code_word (m := ⟨2, 1⟩) (meth := k2m1) (c := k2c1) (by decide +kernel) rfl rfl rfl (by decide +kernel)
def codes1 : List Jvm.Cond := [Jvm.Cond.code x code maxLocals ret, Jvm.Cond.code ({ cls := "com/example/metadata_for_discovery/metadatafordiscovery/validation/BlankIsInvisiblePinLaw", name := "bidiControl", desc := "(I)Z" } : Jvm.MethodName) method_2_code (1 : Nat) (Option.some Jvm.ClassFile.FieldType.boolean), Jvm.Cond.code ({ cls := "com/example/metadata_for_discovery/metadatafordiscovery/validation/BlankIsInvisiblePinLaw", name := "zeroWidthFormat", desc := "(I)Z" } : Jvm.MethodName) method_3_code (1 : Nat) (Option.some Jvm.ClassFile.FieldType.boolean), Jvm.Cond.code ({ cls := "com/example/metadata_for_discovery/metadatafordiscovery/validation/Blank", name := "isInvisible", desc := "(I)Z" } : Jvm.MethodName) prog_110_method_5_code (1 : Nat) (Option.some Jvm.ClassFile.FieldType.boolean)]
set_option maxRecDepth 65536 in
theorem codes_eq : words1.filter isCode = codes1 := rfl
theorem w_codes : ∀ c ∈ words1.filter isCode, c.before args0 about1 = true := by
  rw [codes_eq]
  intro c hc
  simp only [codes1, List.mem_cons, List.not_mem_nil, or_false] at hc
  rcases hc with rfl | rfl | rfl | rfl
  · exact w_c0
  · exact w_c1
  · exact w_c2
  · exact w_c3
set_option maxRecDepth 65536 in
theorem w_t1 : words1.all (fun c => isCode c || c.before args0 about1) = true := by decide +kernel
theorem w_tables : (allAtoms (Jvm.Cond.code x code maxLocals ret :: tables_1)).before args0 about1 = true := by
  rw [allAtoms_all]
  show words1.all (fun c => c.before args0 about1) = true
  refine all_split ?_ w_codes
  rw [w_t1]
set_option maxRecDepth 65536 in
theorem w_case : (Jvm.Cond.and given_1 narrow_1).before args0 about1 = true := by decide +kernel
theorem w_applies : (headSpec (Jvm.Cond.code x code maxLocals ret :: tables_1) room_1).applies x e0.platform about1 = true :=
  (Spec.applies_iff w_frames).mpr ⟨w_running, w_runnable, w_alone, w_named, w_hears, w_ripe, w_room, w_tables⟩
theorem atStart : AtStart classFile x code maxLocals ret World_1 tables_1 room_1 Calls_1 rest_1 Pre_1 launch0 p0 e0 about1 theMethod args0 below0 :=
  ⟨lists_1, trivial, launch0.admits_env _ _ _, launch0.least_env, fairChoices_fair.cas, fairChoices_fair.clock, w_frames, w_args, w_heap, w_applies, trivial, trivial, w_case⟩
end start1
theorem witness_1 : WitnessClaimed_1 := ⟨start1.p0, start1.e0, start1.about1, start1.theMethod, start1.args0, start1.below0, start1.atStart⟩
end Jvm.Pilot.@@N@@
