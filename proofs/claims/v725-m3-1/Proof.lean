import JvmDerived
import JvmDerived.Pilot.@@N@@Statement
import JvmDerived.Pilot.@@N@@Code
set_option linter.unusedVariables false
set_option linter.unusedSimpArgs false
@@BLOCK:NumsL.lean.txt@@
namespace Jvm.Pilot.@@N@@
open Jvm Jvm.ClassFile Sem Op Lib Jvm.Free Jvm.Stand Jvm.LawKit Jvm.RoadKit Bundle Jvm.Pilot.@@N@@.Jvm.D
/-- what a body still owes at the state U: that it comes to a return with Q, within kc cells and ks slots -/
def Ow (p : Program) (e : Env) (below : List Frame) (s : State) (Q : Option Value → Heap → List Loc → Prop) (kc ks : Nat) (U : State) : Prop :=
  ∃ s₂ o, Steps p.tables e below U s₂ ∧ s₂.status = .running ∧ Ended s₂ below o ∧ ∃ v L, o = .returned v ∧ Q v s₂.heap L ∧ FrameEnd s o s₂ L kc ks
def lsr64 (x : Int64) (y : Int32) : Int64 := ((x.toUInt64 >>> (y &&& 0x3f).toInt64.toUInt64).toInt64)
def lsr32 (x y : Int32) : Int32 := ((x.toUInt32 >>> (y &&& 31).toUInt32).toInt32)
section W
variable {p : Program} {l : Launch} {e : Env} {R : Room} {s : State} {m : MethodId} {args : Array Value} {below : List Frame} {meth : Method} {c : Code} {T : State} {locs : List Loc} {cells slots : Nat} {Q : Option Value → Heap → List Loc → Prop} {kc ks : Nat} {pc pc' : Nat} {Ls Ls' : Array Slot} {st : List Value} {Z : State} {a0 : Array Value} {h : Heap}
theorem Ow.go {U U' : State} (k : Steps p.tables e below U U') (o : Ow p e below s Q kc ks U') : Ow p e below s Q kc ks U := by
  obtain ⟨s₂, o', h1, h2⟩ := o
  exact ⟨s₂, o', k.trans h1, h2⟩
theorem Ow.via {U U' : State} (k : ∀ t, Steps p.tables e below U' t → Steps p.tables e below U t) (o : Ow p e below s Q kc ks U') : Ow p e below s Q kc ks U := Ow.go (k _ (Steps.refl _)) o
theorem Ow.enter {n : Nat} (q : entryFrame m args n = mkF m 0 Ls []) (k : Ow p e below s Q kc ks (T.setTop (mkF m 0 Ls []))) :
    ∃ s₂ o, Steps p.tables e below (T.setTop (entryFrame m args n)) s₂ ∧ s₂.status = .running ∧ Ended s₂ below o ∧ ∃ v L, o = .returned v ∧ Q v s₂.heap L ∧ FrameEnd s o s₂ L kc ks := by
  rw [q]; exact k
theorem Ow.join {U : State} (T' : State) (g' : JFrame) (f : Ow p e below s Q kc ks (T'.setTop g') → Ow p e below s Q kc ks U) (k : Ow p e below s Q kc ks (T'.setTop g')) : Ow p e below s Q kc ks U := f k
theorem w_iloadN (X : Stand p l e R s m args below meth c T locs cells slots) (hx : p.tables.exec = Jvm.exec) {k : Fin 4} {v : Int32} (hd : decode c.code pc = .ok (.iload_n k, 1)) (hl : Ls[k.val]? = some (.val (.int v))) (hp : pc + 1 = pc') (k : Ow p e below s Q kc ks (T.setTop (mkF m pc' Ls (.int v :: st)))) : Ow p e below s Q kc ks (T.setTop (mkF m pc Ls st)) := by
  subst hp; exact Ow.go (XS.iloadN X.here hx rfl hd hl (Steps.refl _)) k
theorem w_istoreN (X : Stand p l e R s m args below meth c T locs cells slots) (hx : p.tables.exec = Jvm.exec) {k : Fin 4} {v : Int32} (hd : decode c.code pc = .ok (.istore_n k, 1)) (Ls' : Array Slot) (hl : storeLocals Ls k.val (.int v) = some Ls') (hp : pc + 1 = pc') (k : Ow p e below s Q kc ks (T.setTop (mkF m pc' Ls' st))) : Ow p e below s Q kc ks (T.setTop (mkF m pc Ls (.int v :: st))) := by
  subst hp; exact Ow.go (XS.istoreN X.here hx rfl hd rfl hl (Steps.refl _)) k
theorem w_aloadN (X : Stand p l e R s m args below meth c T locs cells slots) (hx : p.tables.exec = Jvm.exec) {k : Fin 4} {v : Value} (hd : decode c.code pc = .ok (.aload_n k, 1)) (hl : Ls[k.val]? = some (.val v)) (hv : v.isRef = true) (hp : pc + 1 = pc') (k : Ow p e below s Q kc ks (T.setTop (mkF m pc' Ls (v :: st)))) : Ow p e below s Q kc ks (T.setTop (mkF m pc Ls st)) := by
  subst hp; exact Ow.go (XS.aloadN X.here hx rfl hd hl hv (Steps.refl _)) k
theorem w_astoreN (X : Stand p l e R s m args below meth c T locs cells slots) (hx : p.tables.exec = Jvm.exec) {k : Fin 4} {v : Value} (hd : decode c.code pc = .ok (.astore_n k, 1)) (Ls' : Array Slot) (hl : storeLocals Ls k.val v = some Ls') (hv : v.isRef = true) (hp : pc + 1 = pc') (k : Ow p e below s Q kc ks (T.setTop (mkF m pc' Ls' st))) : Ow p e below s Q kc ks (T.setTop (mkF m pc Ls (v :: st))) := by
  subst hp; exact Ow.go (XS.astoreN X.here hx rfl hd rfl hv hl (Steps.refl _)) k
theorem w_iconst (X : Stand p l e R s m args below meth c T locs cells slots) (hx : p.tables.exec = Jvm.exec) {i : Int} (v : Int32) (hd : decode c.code pc = .ok (.iconst i, 1)) (hv : Int32.ofInt i = v) (hp : pc + 1 = pc') (k : Ow p e below s Q kc ks (T.setTop (mkF m pc' Ls (.int v :: st)))) : Ow p e below s Q kc ks (T.setTop (mkF m pc Ls st)) := by
  subst hp hv; exact Ow.go (XS.iconst X.here hx rfl hd (Steps.refl _)) k
theorem w_bipush (X : Stand p l e R s m args below meth c T locs cells slots) (hx : p.tables.exec = Jvm.exec) {i : Int} (v : Int32) (hd : decode c.code pc = .ok (.bipush i, 2)) (hv : (Int8.ofInt i).toInt32 = v) (hp : pc + 2 = pc') (k : Ow p e below s Q kc ks (T.setTop (mkF m pc' Ls (.int v :: st)))) : Ow p e below s Q kc ks (T.setTop (mkF m pc Ls st)) := by
  subst hp hv; exact Ow.go (XS.bipush X.here hx rfl hd (Steps.refl _)) k
theorem w_ldcI (X : Stand p l e R s m args below meth c T locs cells slots) (hx : p.tables.exec = Jvm.exec) (hZ : Z.Warmed39 s.vm) {own : String} {index : Nat} {v : Int32} (hown : s.vm.findClass own = some m.cls) (w : (Cond.constant own index v).before a0 Z = true) (hd : decode c.code pc = .ok (.ldc index, 2)) (hp : pc + 2 = pc') (k : Ow p e below s Q kc ks (T.setTop (mkF m pc' Ls (.int v :: st)))) : Ow p e below s Q kc ks (T.setTop (mkF m pc Ls st)) := by
  subst hp; exact Ow.via (X.ldcInt hx hown (mvT hZ w) (g := mkF m pc Ls st) rfl hd) k
theorem w_iand (X : Stand p l e R s m args below meth c T locs cells slots) (hx : p.tables.exec = Jvm.exec) {x y : Int32} (hd : decode c.code pc = .ok (.iand, 1))  (hp : pc + 1 = pc') (k : Ow p e below s Q kc ks (T.setTop (mkF m pc' Ls (.int (x &&& y) :: st)))) : Ow p e below s Q kc ks (T.setTop (mkF m pc Ls (.int y :: .int x :: st))) := by
  subst hp; exact Ow.go (XS.iand X.here hx rfl hd rfl (Steps.refl _)) k
theorem w_irem (X : Stand p l e R s m args below meth c T locs cells slots) (hx : p.tables.exec = Jvm.exec) {x y : Int32} (hd : decode c.code pc = .ok (.irem, 1)) (hy : ¬ y = 0) (hp : pc + 1 = pc') (k : Ow p e below s Q kc ks (T.setTop (mkF m pc' Ls (.int (x % y) :: st)))) : Ow p e below s Q kc ks (T.setTop (mkF m pc Ls (.int y :: .int x :: st))) := by
  subst hp; exact Ow.go (iremM X hx (g := mkF m pc Ls (.int y :: .int x :: st)) rfl hd rfl hy (Steps.refl _)) k
theorem w_goto (X : Stand p l e R s m args below meth c T locs cells slots) (hx : p.tables.exec = Jvm.exec) {o : Int} (hd : decode c.code pc = .ok (.goto o, 3)) (ho : 0 ≤ (pc : Int) + o) (hp : ((pc : Int) + o).toNat = pc') (k : Ow p e below s Q kc ks (T.setTop (mkF m pc' Ls st))) : Ow p e below s Q kc ks (T.setTop (mkF m pc Ls st)) := by
  exact Ow.go (XS.goto X.here hx rfl (pc0 := pc) rfl hd ho hp (Steps.refl _)) k
theorem w_icmp_eq (X : Stand p l e R s m args below meth c T locs cells slots) (hx : p.tables.exec = Jvm.exec) {x y : Int32} {o : Int} {pcT pcF : Nat} (hd : decode c.code pc = .ok (.if_icmp .eq o, 3)) (ho : 0 ≤ (pc : Int) + o) (ht : ((pc : Int) + o).toNat = pcT) (hp : pc + 3 = pcF) (k1 : x = y → Ow p e below s Q kc ks (T.setTop (mkF m pcT Ls st))) (k2 : ¬ (x = y) → Ow p e below s Q kc ks (T.setTop (mkF m pcF Ls st))) : Ow p e below s Q kc ks (T.setTop (mkF m pc Ls (.int y :: .int x :: st))) := by
  subst hp
  by_cases q : x = y
  · exact Ow.go (XS.icmpYes X.here hx rfl (pc0 := pc) rfl hd rfl (teq q).1 ho ht (Steps.refl _)) (k1 q)
  · exact Ow.go (XS.icmpNo X.here hx rfl hd rfl (feq q).1 (Steps.refl _)) (k2 q)
theorem w_icmp_ne (X : Stand p l e R s m args below meth c T locs cells slots) (hx : p.tables.exec = Jvm.exec) {x y : Int32} {o : Int} {pcT pcF : Nat} (hd : decode c.code pc = .ok (.if_icmp .ne o, 3)) (ho : 0 ≤ (pc : Int) + o) (ht : ((pc : Int) + o).toNat = pcT) (hp : pc + 3 = pcF) (k1 : ¬ (x = y) → Ow p e below s Q kc ks (T.setTop (mkF m pcT Ls st))) (k2 : x = y → Ow p e below s Q kc ks (T.setTop (mkF m pcF Ls st))) : Ow p e below s Q kc ks (T.setTop (mkF m pc Ls (.int y :: .int x :: st))) := by
  subst hp
  by_cases q : x = y
  · exact Ow.go (XS.icmpNo X.here hx rfl hd rfl (teq q).2 (Steps.refl _)) (k2 q)
  · exact Ow.go (XS.icmpYes X.here hx rfl (pc0 := pc) rfl hd rfl (feq q).2 ho ht (Steps.refl _)) (k1 q)
theorem w_if_ne (X : Stand p l e R s m args below meth c T locs cells slots) (hx : p.tables.exec = Jvm.exec) {x : Int32} {o : Int} {pcT pcF : Nat} (hd : decode c.code pc = .ok (.ifCond .ne o, 3)) (ho : 0 ≤ (pc : Int) + o) (ht : ((pc : Int) + o).toNat = pcT) (hp : pc + 3 = pcF) (k1 : ¬ (x = (0 : Int32)) → Ow p e below s Q kc ks (T.setTop (mkF m pcT Ls st))) (k2 : x = (0 : Int32) → Ow p e below s Q kc ks (T.setTop (mkF m pcF Ls st))) : Ow p e below s Q kc ks (T.setTop (mkF m pc Ls (.int x :: st))) := by
  subst hp
  by_cases q : x = (0 : Int32)
  · exact Ow.go (XS.ifNo X.here hx rfl hd rfl ((if0 _ _).trans (teq q).2) (Steps.refl _)) (k2 q)
  · exact Ow.go (XS.ifYes X.here hx rfl (pc0 := pc) rfl hd rfl ((if0 _ _).trans (feq q).2) ho ht (Steps.refl _)) (k1 q)
theorem w_acmp_eq (X : Stand p l e R s m args below meth c T locs cells slots) (hx : p.tables.exec = Jvm.exec) {a b : Addr} {o : Int} {pcT pcF : Nat} (hd : decode c.code pc = .ok (.if_acmp .eq o, 3)) (ho : 0 ≤ (pc : Int) + o) (ht : ((pc : Int) + o).toNat = pcT) (hp : pc + 3 = pcF) (k1 : a = b → Ow p e below s Q kc ks (T.setTop (mkF m pcT Ls st))) (k2 : ¬ a = b → Ow p e below s Q kc ks (T.setTop (mkF m pcF Ls st))) : Ow p e below s Q kc ks (T.setTop (mkF m pc Ls (.ref b :: .ref a :: st))) := by
  subst hp ht
  by_cases q : a = b
  · exact Ow.go (Jvm.RoadKit.acmp X hx (g := mkF m pc Ls (.ref b :: .ref a :: st)) rfl rfl rfl (pc0 := pc) (same := true) rfl hd rfl (decide_eq_true (congrArg Value.ref q)) ho rfl (Steps.refl _)) (k1 q)
  · exact Ow.go (Jvm.RoadKit.acmp X hx (g := mkF m pc Ls (.ref b :: .ref a :: st)) rfl rfl rfl (pc0 := pc) (same := false) rfl hd rfl (decide_eq_false fun r => q (Value.ref.inj r)) ho rfl (Steps.refl _)) (k2 q)
theorem w_acmp_ne (X : Stand p l e R s m args below meth c T locs cells slots) (hx : p.tables.exec = Jvm.exec) {a b : Addr} {o : Int} {pcT pcF : Nat} (hd : decode c.code pc = .ok (.if_acmp .ne o, 3)) (ho : 0 ≤ (pc : Int) + o) (ht : ((pc : Int) + o).toNat = pcT) (hp : pc + 3 = pcF) (k1 : ¬ a = b → Ow p e below s Q kc ks (T.setTop (mkF m pcT Ls st))) (k2 : a = b → Ow p e below s Q kc ks (T.setTop (mkF m pcF Ls st))) : Ow p e below s Q kc ks (T.setTop (mkF m pc Ls (.ref b :: .ref a :: st))) := by
  subst hp ht
  by_cases q : a = b
  · exact Ow.go (Jvm.RoadKit.acmp X hx (g := mkF m pc Ls (.ref b :: .ref a :: st)) rfl rfl rfl (pc0 := pc) (same := true) rfl hd rfl (decide_eq_true (congrArg Value.ref q)) ho rfl (Steps.refl _)) (k2 q)
  · exact Ow.go (Jvm.RoadKit.acmp X hx (g := mkF m pc Ls (.ref b :: .ref a :: st)) rfl rfl rfl (pc0 := pc) (same := false) rfl hd rfl (decide_eq_false fun r => q (Value.ref.inj r)) ho rfl (Steps.refl _)) (k1 q)
theorem w_zreturn (X : Stand p l e R s m args below meth c T locs cells slots) (hx : p.tables.exec = Jvm.exec) {z : Int32} (hret : meth.sig.returnType = some .boolean) (hz : z = 0 ∨ z = 1) (hlk : meth.locks = false) (hc : cells ≤ kc) (hs : slots ≤ ks) (hd : decode c.code pc = .ok (.ireturn, 1)) (hq : Q (some (.int z)) T.heap locs) : Ow p e below s Q kc ks (T.setTop (mkF m pc Ls (.int z :: st))) := by
  obtain ⟨fs, hr, hrun, hended, hW, hsame⟩ := X.leave (v := some (.int z)) (fun h => by rw [hret] at h; cases h) hlk
  exact ⟨_, _, retOut X hx (t := .boolean) hret (by rcases hz with rfl | rfl <;> rfl) (Or.inl ⟨rfl, Or.inr (Or.inl rfl), _, rfl⟩) hd hr, hrun, hended, _, _, rfl, hq, ⟨_, rfl⟩, hW, hsame.mono hc hs⟩
theorem w_areturn (X : Stand p l e R s m args below meth c T locs cells slots) (hx : p.tables.exec = Jvm.exec) {a : Addr} {t : FieldType} (hret : meth.sig.returnType = some t) (ht : t.isReference = true) (hn : narrow t (.ref a) = .ref a) (hlk : meth.locks = false) (hc : cells ≤ kc) (hs : slots ≤ ks) (hd : decode c.code pc = .ok (.areturn, 1)) (hq : Q (some (.ref a)) T.heap locs) : Ow p e below s Q kc ks (T.setTop (mkF m pc Ls (.ref a :: st))) := by
  obtain ⟨fs, hr, hrun, hended, hW, hsame⟩ := X.leave (v := some (.ref a)) (fun h => by rw [hret] at h; cases h) hlk
  exact ⟨_, _, retOut X hx (t := t) hret hn (Or.inr (Or.inr (Or.inr (Or.inr ⟨rfl, ht, rfl⟩)))) hd hr, hrun, hended, _, _, rfl, hq, ⟨_, rfl⟩, hW, hsame.mono hc hs⟩
theorem w_getstatic (X : Stand p l e R s m args below meth c T locs cells slots) (hx : p.tables.exec = Jvm.exec) (hZ : Z.Warmed39 s.vm) {own R0 O n d host : String} {index : Nat} (hown : s.vm.findClass own = some m.cls) (w : (Cond.fieldLink own index R0 n d).before a0 Z = true ∨ (Cond.fieldLinkNest own index R0 n d host).before a0 Z = true) (via : Via Z R0 O n d) (eT : T.heap = h) {v : Value} (F : Sta Z h O n d v) (hd : decode c.code pc = .ok (.getstatic index, 3)) (hp : pc + 3 = pc') (k : ∀ T', Stand p l e R s m args below meth c T' locs cells slots → T'.heap = h → Ow p e below s Q kc ks (T'.setTop (mkF m pc' Ls (v :: st)))) : Ow p e below s Q kc ks (T.setTop (mkF m pc Ls st)) := by
  subst hp
  obtain ⟨T', X', e', st'⟩ := getS2 X hx hZ hown w via eT F (g := mkF m pc Ls st) rfl hd
  exact Ow.via st' (k T' X' e')
theorem w_callS (X : Stand p l e R s m args below meth c T locs cells slots) (hx : p.tables.exec = Jvm.exec) (hZ : Z.Warmed39 s.vm) {own : String} {index : Nat} {y : MethodName} {bytes : ByteArray} {maxL : Nat} {ret : Option FieldType} (hown : s.vm.findClass own = some m.cls) (w1 : (Cond.methodLink own index y).before a0 Z = true) (w2 : (Cond.static y).before a0 Z = true) (w3 : (Cond.initialized y.cls).before a0 Z = true) (w4 : (Cond.code y bytes maxL ret).before a0 Z = true) (hy : y.cls ≠ "java/lang/invoke/MethodHandle" ∧ y.cls ≠ "java/lang/invoke/VarHandle") {rm : Room} {as' : Array Value} {Qf : Option Value → Heap → List Loc → Prop} {W : Nat} (hM : MetFree l y (head1 [Cond.code y bytes maxL ret] rm) (fun a U => a = as' ∧ Z.Warmed39 U.vm ∧ U.heap = h) (fun _ _ _ _ _ => True) (fun _ U o U' => ∃ v L, o = .returned v ∧ Qf v U'.heap L ∧ FrameEnd U o U' L rm.cells rm.slots)) (eT : T.heap = h) (hf : rm.frames + 1 ≤ R.frames) (hlo : W + (maxL + 11) + rm.locals ≤ R.locals) (hc : cells + rm.cells ≤ R.cells) (hs : slots + rm.slots ≤ R.slots) (hd : decode c.code pc = .ok (.invokestatic index, 3)) (hsz : Ls.size = c.maxLocals) {argsL rest : List Value} {ps : List FieldType} {r : Option FieldType} (pd : parseMethodDescriptor y.desc = some ⟨ps, r⟩) (hlen : argsL.length = ps.length) (hst : st = argsL.reverse ++ rest) (has : argsL.toArray = as') (hW : (rest.map fun v => v.category).sum ≤ W) (hp : pc + 3 = pc') (k : ∀ v T' L, Stand p l e R s m args below meth c T' (locs ++ L) (cells + rm.cells) (slots + rm.slots) → Qf v T'.heap L → Ow p e below s Q kc ks (T'.setTop (mkF m pc' Ls (v.toList ++ rest)))) : Ow p e below s Q kc ks (T.setTop (mkF m pc Ls st)) := by
  subst hp
  obtain ⟨v, vm₁, ⟨T', L', k', n'⟩, -, X', ⟨L, hq, l1, y1, z1⟩, st'⟩ := Jvm.LawKit.callS X hx hown (mvT hZ w1) (mvT hZ w2) (mvT hZ w3) (mvT hZ w4) hy (backOf (W := W) hM hZ w4 w3 hf hlo) (g := mkF m pc Ls st) rfl hsz (argsL := argsL) (rest := rest) (lenOf pd hlen) hst (by show 2 * 0 + _ ≤ _; omega) hd (fun _ _ => ⟨has, eT, hc, hs⟩)
  dsimp only [Pt.U, Pt.locs, Pt.cells, Pt.slots] at X' l1 y1 z1 st' hq
  subst l1 y1 z1
  exact Ow.via st' (k v T' L X' hq)
theorem w_callV (X : Stand p l e R s m args below meth c T locs cells slots) (hx : p.tables.exec = Jvm.exec) (hZ : Z.Warmed39 s.vm) {own C : String} {index : Nat} {y z : MethodName} {bytes : ByteArray} {maxL : Nat} {ret : Option FieldType} (hown : s.vm.findClass own = some m.cls) (w1 : (Cond.methodLink own index y).before a0 Z = true) (w2 : (Cond.declares y).before a0 Z = true) (nf : NotFace s y) (w5 : (Cond.selects C y z).before a0 Z = true) (w6 : (Cond.instanceMethod z).before a0 Z = true) (w3 : (Cond.initialized z.cls).before a0 Z = true) (w4 : (Cond.code z bytes maxL ret).before a0 Z = true) (hy : y.cls ≠ "java/lang/invoke/MethodHandle" ∧ y.cls ≠ "java/lang/invoke/VarHandle") {rm : Room} {as' : Array Value} {Qf : Option Value → Heap → List Loc → Prop} {W : Nat} (hM : MetFree l z (head1 [Cond.code z bytes maxL ret] rm) (fun a U => a = as' ∧ Z.Warmed39 U.vm ∧ U.heap = h) (fun _ _ _ _ _ => True) (fun _ U o U' => ∃ v L, o = .returned v ∧ Qf v U'.heap L ∧ FrameEnd U o U' L rm.cells rm.slots)) (eT : T.heap = h) (hf : rm.frames + 1 ≤ R.frames) (hlo : W + (maxL + 11) + rm.locals ≤ R.locals) (hc : cells + rm.cells ≤ R.cells) (hs : slots + rm.slots ≤ R.slots) {a : Addr} (E : Exa Z h a C) (hd : decode c.code pc = .ok (.invokevirtual index, 3)) (hsz : Ls.size = c.maxLocals) {argsL rest : List Value} {ps : List FieldType} {r : Option FieldType} (pd : parseMethodDescriptor y.desc = some ⟨ps, r⟩) (hlen : argsL.length = ps.length) (hst : st = argsL.reverse ++ .ref a :: rest) (has : (Value.ref a :: argsL).toArray = as') (hW : (rest.map fun v => v.category).sum ≤ W) (hp : pc + 3 = pc') (k : ∀ v T' L, Stand p l e R s m args below meth c T' (locs ++ L) (cells + rm.cells) (slots + rm.slots) → Qf v T'.heap L → Ow p e below s Q kc ks (T'.setTop (mkF m pc' Ls (v.toList ++ rest)))) : Ow p e below s Q kc ks (T.setTop (mkF m pc Ls st)) := by
  subst hp
  obtain ⟨cB, kB, qa, qb, qc⟩ := isOf hZ eT E
  obtain ⟨v, vm₁, ⟨T', L', k', n'⟩, -, X', ⟨L, hq, l1, y1, z1⟩, st'⟩ := X.virtualBack hx (y := y) (z := z) hown (mvT hZ w1) (mvT hZ w2) nf (mvT hZ w5) (mvT hZ w6) hy (backOf (W := W) hM hZ w4 w3 hf hlo) qa qc (g := mkF m pc Ls st) rfl hsz (Steps.refl _) (argsL := argsL) (rest := rest) (lenOf pd hlen) hst (by show 2 * 0 + _ ≤ _; omega) hd (fun _ _ => ⟨has, eT, hc, hs⟩)
  dsimp only [Pt.U, Pt.locs, Pt.cells, Pt.slots] at X' l1 y1 z1 st' hq
  subst l1 y1 z1
  exact Ow.go st' (k v T' L X' hq)
end W
theorem d1_0 : decode method_2_code 0 = .ok (.iload_n 0, 1) := by decide +kernel
theorem d1_1 : decode method_2_code 1 = .ok (.ifCond .ne 7, 3) := by decide +kernel
theorem d1_8 : decode method_2_code 8 = .ok (.iload_n 0, 1) := by decide +kernel
theorem d1_9 : decode method_2_code 9 = .ok (.iconst 1, 1) := by decide +kernel
theorem d1_10 : decode method_2_code 10 = .ok (.if_icmp .ne 7, 3) := by decide +kernel
theorem d1_17 : decode method_2_code 17 = .ok (.iload_n 0, 1) := by decide +kernel
theorem d1_18 : decode method_2_code 18 = .ok (.iconst 2, 1) := by decide +kernel
theorem d1_19 : decode method_2_code 19 = .ok (.if_icmp .ne 7, 3) := by decide +kernel
theorem d1_26 : decode method_2_code 26 = .ok (.iload_n 0, 1) := by decide +kernel
theorem d1_27 : decode method_2_code 27 = .ok (.iconst 3, 1) := by decide +kernel
theorem d1_28 : decode method_2_code 28 = .ok (.if_icmp .ne 7, 3) := by decide +kernel
theorem d1_35 : decode method_2_code 35 = .ok (.iload_n 0, 1) := by decide +kernel
theorem d1_36 : decode method_2_code 36 = .ok (.iconst 4, 1) := by decide +kernel
theorem d1_37 : decode method_2_code 37 = .ok (.if_icmp .ne 7, 3) := by decide +kernel
theorem d1_44 : decode method_2_code 44 = .ok (.iload_n 0, 1) := by decide +kernel
theorem d1_45 : decode method_2_code 45 = .ok (.iconst 5, 1) := by decide +kernel
theorem d1_46 : decode method_2_code 46 = .ok (.if_icmp .ne 7, 3) := by decide +kernel
theorem d1_53 : decode method_2_code 53 = .ok (.iload_n 0, 1) := by decide +kernel
theorem d1_54 : decode method_2_code 54 = .ok (.bipush 6, 2) := by decide +kernel
theorem d1_56 : decode method_2_code 56 = .ok (.if_icmp .ne 7, 3) := by decide +kernel
theorem d1_63 : decode method_2_code 63 = .ok (.iload_n 0, 1) := by decide +kernel
theorem d1_64 : decode method_2_code 64 = .ok (.bipush 7, 2) := by decide +kernel
theorem d1_66 : decode method_2_code 66 = .ok (.if_icmp .ne 7, 3) := by decide +kernel
theorem d1_73 : decode method_2_code 73 = .ok (.iload_n 0, 1) := by decide +kernel
theorem d1_74 : decode method_2_code 74 = .ok (.bipush 8, 2) := by decide +kernel
theorem d1_76 : decode method_2_code 76 = .ok (.if_icmp .ne 7, 3) := by decide +kernel
theorem d1_83 : decode method_2_code 83 = .ok (.iload_n 0, 1) := by decide +kernel
theorem d1_84 : decode method_2_code 84 = .ok (.bipush 9, 2) := by decide +kernel
theorem d1_86 : decode method_2_code 86 = .ok (.if_icmp .ne 7, 3) := by decide +kernel
theorem d1_93 : decode method_2_code 93 = .ok (.iload_n 0, 1) := by decide +kernel
theorem d1_94 : decode method_2_code 94 = .ok (.bipush 10, 2) := by decide +kernel
theorem d1_96 : decode method_2_code 96 = .ok (.if_icmp .ne 7, 3) := by decide +kernel
theorem d1_103 : decode method_2_code 103 = .ok (.iload_n 0, 1) := by decide +kernel
theorem d1_104 : decode method_2_code 104 = .ok (.bipush 11, 2) := by decide +kernel
theorem d1_106 : decode method_2_code 106 = .ok (.if_icmp .ne 7, 3) := by decide +kernel
theorem d1_113 : decode method_2_code 113 = .ok (.iload_n 0, 1) := by decide +kernel
theorem d1_114 : decode method_2_code 114 = .ok (.bipush 12, 2) := by decide +kernel
theorem d1_116 : decode method_2_code 116 = .ok (.if_icmp .ne 7, 3) := by decide +kernel
theorem d1_123 : decode method_2_code 123 = .ok (.iload_n 0, 1) := by decide +kernel
theorem d1_124 : decode method_2_code 124 = .ok (.bipush 13, 2) := by decide +kernel
theorem d1_126 : decode method_2_code 126 = .ok (.if_icmp .ne 7, 3) := by decide +kernel
theorem d1_133 : decode method_2_code 133 = .ok (.iload_n 0, 1) := by decide +kernel
theorem d1_134 : decode method_2_code 134 = .ok (.bipush 14, 2) := by decide +kernel
theorem d1_136 : decode method_2_code 136 = .ok (.if_icmp .ne 7, 3) := by decide +kernel
theorem d1_143 : decode method_2_code 143 = .ok (.iload_n 0, 1) := by decide +kernel
theorem d1_144 : decode method_2_code 144 = .ok (.bipush 15, 2) := by decide +kernel
theorem d1_146 : decode method_2_code 146 = .ok (.if_icmp .ne 7, 3) := by decide +kernel
theorem d1_153 : decode method_2_code 153 = .ok (.iload_n 0, 1) := by decide +kernel
theorem d1_154 : decode method_2_code 154 = .ok (.bipush 16, 2) := by decide +kernel
theorem d1_156 : decode method_2_code 156 = .ok (.if_icmp .ne 7, 3) := by decide +kernel
theorem d1_163 : decode method_2_code 163 = .ok (.iload_n 0, 1) := by decide +kernel
theorem d1_164 : decode method_2_code 164 = .ok (.bipush 17, 2) := by decide +kernel
theorem d1_166 : decode method_2_code 166 = .ok (.if_icmp .ne 7, 3) := by decide +kernel
theorem d1_173 : decode method_2_code 173 = .ok (.iload_n 0, 1) := by decide +kernel
theorem d1_174 : decode method_2_code 174 = .ok (.bipush 18, 2) := by decide +kernel
theorem d1_176 : decode method_2_code 176 = .ok (.if_icmp .ne 7, 3) := by decide +kernel
theorem d1_183 : decode method_2_code 183 = .ok (.getstatic 67, 3) := by decide +kernel
theorem d1_186 : decode method_2_code 186 = .ok (.areturn, 1) := by decide +kernel
theorem d1_179 : decode method_2_code 179 = .ok (.getstatic 64, 3) := by decide +kernel
theorem d1_182 : decode method_2_code 182 = .ok (.areturn, 1) := by decide +kernel
theorem d1_169 : decode method_2_code 169 = .ok (.getstatic 61, 3) := by decide +kernel
theorem d1_172 : decode method_2_code 172 = .ok (.areturn, 1) := by decide +kernel
theorem d1_159 : decode method_2_code 159 = .ok (.getstatic 58, 3) := by decide +kernel
theorem d1_162 : decode method_2_code 162 = .ok (.areturn, 1) := by decide +kernel
theorem d1_149 : decode method_2_code 149 = .ok (.getstatic 55, 3) := by decide +kernel
theorem d1_152 : decode method_2_code 152 = .ok (.areturn, 1) := by decide +kernel
theorem d1_139 : decode method_2_code 139 = .ok (.getstatic 52, 3) := by decide +kernel
theorem d1_142 : decode method_2_code 142 = .ok (.areturn, 1) := by decide +kernel
theorem d1_129 : decode method_2_code 129 = .ok (.getstatic 49, 3) := by decide +kernel
theorem d1_132 : decode method_2_code 132 = .ok (.areturn, 1) := by decide +kernel
theorem d1_119 : decode method_2_code 119 = .ok (.getstatic 46, 3) := by decide +kernel
theorem d1_122 : decode method_2_code 122 = .ok (.areturn, 1) := by decide +kernel
theorem d1_109 : decode method_2_code 109 = .ok (.getstatic 43, 3) := by decide +kernel
theorem d1_112 : decode method_2_code 112 = .ok (.areturn, 1) := by decide +kernel
theorem d1_99 : decode method_2_code 99 = .ok (.getstatic 40, 3) := by decide +kernel
theorem d1_102 : decode method_2_code 102 = .ok (.areturn, 1) := by decide +kernel
theorem d1_89 : decode method_2_code 89 = .ok (.getstatic 37, 3) := by decide +kernel
theorem d1_92 : decode method_2_code 92 = .ok (.areturn, 1) := by decide +kernel
theorem d1_79 : decode method_2_code 79 = .ok (.getstatic 34, 3) := by decide +kernel
theorem d1_82 : decode method_2_code 82 = .ok (.areturn, 1) := by decide +kernel
theorem d1_69 : decode method_2_code 69 = .ok (.getstatic 31, 3) := by decide +kernel
theorem d1_72 : decode method_2_code 72 = .ok (.areturn, 1) := by decide +kernel
theorem d1_59 : decode method_2_code 59 = .ok (.getstatic 28, 3) := by decide +kernel
theorem d1_62 : decode method_2_code 62 = .ok (.areturn, 1) := by decide +kernel
theorem d1_49 : decode method_2_code 49 = .ok (.getstatic 25, 3) := by decide +kernel
theorem d1_52 : decode method_2_code 52 = .ok (.areturn, 1) := by decide +kernel
theorem d1_40 : decode method_2_code 40 = .ok (.getstatic 22, 3) := by decide +kernel
theorem d1_43 : decode method_2_code 43 = .ok (.areturn, 1) := by decide +kernel
theorem d1_31 : decode method_2_code 31 = .ok (.getstatic 19, 3) := by decide +kernel
theorem d1_34 : decode method_2_code 34 = .ok (.areturn, 1) := by decide +kernel
theorem d1_22 : decode method_2_code 22 = .ok (.getstatic 16, 3) := by decide +kernel
theorem d1_25 : decode method_2_code 25 = .ok (.areturn, 1) := by decide +kernel
theorem d1_13 : decode method_2_code 13 = .ok (.getstatic 13, 3) := by decide +kernel
theorem d1_16 : decode method_2_code 16 = .ok (.areturn, 1) := by decide +kernel
theorem d1_4 : decode method_2_code 4 = .ok (.getstatic 7, 3) := by decide +kernel
theorem d1_7 : decode method_2_code 7 = .ok (.areturn, 1) := by decide +kernel
theorem ef_1 (m : MethodId) (p0 : Int32) : entryFrame m #[(.int p0)] 1 = mkF m 0 #[.val (.int p0)] [] := by first | (simp [entryFrame, mkF, argsToLocals, Value.category]; done) | rfl
theorem pn_0 : plainName "com/example/tagwire/tagwire/value/TypeIsContainerPinLaw" = true := by first | (simp [plainName, overriddenIn]; done) | decide +kernel
theorem d2_0 : decode prog_111_method_15_code 0 = .ok (.aload_n 0, 1) := by decide +kernel
theorem d2_1 : decode prog_111_method_15_code 1 = .ok (.getstatic 34, 3) := by decide +kernel
theorem d2_4 : decode prog_111_method_15_code 4 = .ok (.if_acmp .eq 17, 3) := by decide +kernel
theorem d2_21 : decode prog_111_method_15_code 21 = .ok (.iconst 1, 1) := by decide +kernel
theorem d2_22 : decode prog_111_method_15_code 22 = .ok (.goto 4, 3) := by decide +kernel
theorem d2_26 : decode prog_111_method_15_code 26 = .ok (.ireturn, 1) := by decide +kernel
theorem d2_7 : decode prog_111_method_15_code 7 = .ok (.aload_n 0, 1) := by decide +kernel
theorem d2_8 : decode prog_111_method_15_code 8 = .ok (.getstatic 37, 3) := by decide +kernel
theorem d2_11 : decode prog_111_method_15_code 11 = .ok (.if_acmp .eq 10, 3) := by decide +kernel
theorem d2_14 : decode prog_111_method_15_code 14 = .ok (.aload_n 0, 1) := by decide +kernel
theorem d2_15 : decode prog_111_method_15_code 15 = .ok (.getstatic 40, 3) := by decide +kernel
theorem d2_18 : decode prog_111_method_15_code 18 = .ok (.if_acmp .ne 7, 3) := by decide +kernel
theorem d2_25 : decode prog_111_method_15_code 25 = .ok (.iconst 0, 1) := by decide +kernel
theorem ef_2 (m : MethodId) (a0 : Addr) : entryFrame m #[(.ref a0)] 1 = mkF m 0 #[.val (.ref a0)] [] := by first | (simp [entryFrame, mkF, argsToLocals, Value.category]; done) | rfl
theorem pn_1 : plainName "com/example/tagwire/tagwire/value/Type" = true := by first | (simp [plainName, overriddenIn]; done) | decide +kernel
def Tys (Z : State) (h : Heap) (ta : Nat → Addr) : Prop := Sta Z h "com/example/tagwire/tagwire/value/Type" "I8" "Lcom/example/tagwire/tagwire/value/Type;" (.ref (ta 0)) ∧ Sta Z h "com/example/tagwire/tagwire/value/Type" "I16" "Lcom/example/tagwire/tagwire/value/Type;" (.ref (ta 1)) ∧ Sta Z h "com/example/tagwire/tagwire/value/Type" "I32" "Lcom/example/tagwire/tagwire/value/Type;" (.ref (ta 2)) ∧ Sta Z h "com/example/tagwire/tagwire/value/Type" "I64" "Lcom/example/tagwire/tagwire/value/Type;" (.ref (ta 3)) ∧ Sta Z h "com/example/tagwire/tagwire/value/Type" "U8" "Lcom/example/tagwire/tagwire/value/Type;" (.ref (ta 4)) ∧ Sta Z h "com/example/tagwire/tagwire/value/Type" "U16" "Lcom/example/tagwire/tagwire/value/Type;" (.ref (ta 5)) ∧ Sta Z h "com/example/tagwire/tagwire/value/Type" "U32" "Lcom/example/tagwire/tagwire/value/Type;" (.ref (ta 6)) ∧ Sta Z h "com/example/tagwire/tagwire/value/Type" "U64" "Lcom/example/tagwire/tagwire/value/Type;" (.ref (ta 7)) ∧ Sta Z h "com/example/tagwire/tagwire/value/Type" "CHAR" "Lcom/example/tagwire/tagwire/value/Type;" (.ref (ta 8)) ∧ Sta Z h "com/example/tagwire/tagwire/value/Type" "STRING" "Lcom/example/tagwire/tagwire/value/Type;" (.ref (ta 9)) ∧ Sta Z h "com/example/tagwire/tagwire/value/Type" "OBJECT" "Lcom/example/tagwire/tagwire/value/Type;" (.ref (ta 10)) ∧ Sta Z h "com/example/tagwire/tagwire/value/Type" "LIST" "Lcom/example/tagwire/tagwire/value/Type;" (.ref (ta 11)) ∧ Sta Z h "com/example/tagwire/tagwire/value/Type" "TUPLE" "Lcom/example/tagwire/tagwire/value/Type;" (.ref (ta 12)) ∧ Sta Z h "com/example/tagwire/tagwire/value/Type" "BYTES" "Lcom/example/tagwire/tagwire/value/Type;" (.ref (ta 13)) ∧ Sta Z h "com/example/tagwire/tagwire/value/Type" "F32" "Lcom/example/tagwire/tagwire/value/Type;" (.ref (ta 14)) ∧ Sta Z h "com/example/tagwire/tagwire/value/Type" "F64" "Lcom/example/tagwire/tagwire/value/Type;" (.ref (ta 15)) ∧ Sta Z h "com/example/tagwire/tagwire/value/Type" "NULL" "Lcom/example/tagwire/tagwire/value/Type;" (.ref (ta 16)) ∧ Sta Z h "com/example/tagwire/tagwire/value/Type" "BOOL" "Lcom/example/tagwire/tagwire/value/Type;" (.ref (ta 17)) ∧ Sta Z h "com/example/tagwire/tagwire/value/Type" "UUID" "Lcom/example/tagwire/tagwire/value/Type;" (.ref (ta 18)) ∧ Sta Z h "com/example/tagwire/tagwire/value/Type" "TIMESTAMP" "Lcom/example/tagwire/tagwire/value/Type;" (.ref (ta 19))
def pk (ta : Nat → Addr) (p0 : Int32) : Addr := (if p0 = (0 : Int32) then ta 0 else (if p0 = (1 : Int32) then ta 1 else (if p0 = (2 : Int32) then ta 2 else (if p0 = (3 : Int32) then ta 3 else (if p0 = (4 : Int32) then ta 4 else (if p0 = (5 : Int32) then ta 5 else (if p0 = (6 : Int32) then ta 6 else (if p0 = (7 : Int32) then ta 7 else (if p0 = (8 : Int32) then ta 8 else (if p0 = (9 : Int32) then ta 9 else (if p0 = (10 : Int32) then ta 10 else (if p0 = (11 : Int32) then ta 11 else (if p0 = (12 : Int32) then ta 12 else (if p0 = (13 : Int32) then ta 13 else (if p0 = (14 : Int32) then ta 14 else (if p0 = (15 : Int32) then ta 15 else (if p0 = (16 : Int32) then ta 16 else (if p0 = (17 : Int32) then ta 17 else (if p0 = (18 : Int32) then ta 18 else ta 19)))))))))))))))))))
def Q1 (ta : Nat → Addr) (p0 : Int32) (h0 : Heap) (v : Option Value) (h : Heap) (L : List Loc) : Prop := v = some (.ref (pk ta p0)) ∧ h = h0 ∧ L = []
set_option maxRecDepth 65536 in
set_option maxHeartbeats 40000000 in
theorem rm1 (l : Launch) (Z : State) (aw : Array Value) (hw : ∀ d ∈ tables_1, d.before aw Z = true) (ws : List Jvm.Cond) (p0 : Int32) (ta : Nat → Addr) (h0 : Heap) (S : Tys Z h0 ta) :
    MetFree l (⟨"com/example/tagwire/tagwire/value/TypeIsContainerPinLaw", "pick", "(I)Lcom/example/tagwire/tagwire/value/Type;"⟩ : MethodName) (head1 (Jvm.Cond.code (⟨"com/example/tagwire/tagwire/value/TypeIsContainerPinLaw", "pick", "(I)Lcom/example/tagwire/tagwire/value/Type;"⟩ : MethodName) method_2_code 1 (some (.object "com/example/tagwire/tagwire/value/Type")) :: ws) ({ frames := 0, cells := 0, slots := 0, locals := 0 } : Room)) (fun a U => a = #[(.int p0)] ∧ Z.Warmed39 U.vm ∧ U.heap = h0) (fun _ _ _ _ _ => True) (fun _ U o U' => ∃ v L, o = .returned v ∧ Q1 ta p0 h0 v U'.heap L ∧ FrameEnd U o U' L ({ frames := 0, cells := 0, slots := 0, locals := 0 } : Room).cells ({ frames := 0, cells := 0, slots := 0, locals := 0 } : Room).slots) := by
  refine MetFree.of_bodySF (plainFor_of_name pn_0) hisR ?_
  intro p e s m args below meth c s₁ Bd hml0 hP _hKK
  obtain ⟨rfl, hZ, hh⟩ := hP
  have hx := Bd.exec
  have hby := Bd.bytes
  have hml : c.maxLocals = 1 := hml0
  have hown : s.vm.findClass "com/example/tagwire/tagwire/value/TypeIsContainerPinLaw" = some m.cls := findClass_of_methodNamed Bd.named
  have hnm := (name_of_methodNamed Bd.named Bd.method).1
  have X0 : Stand p l e ({ frames := 0, cells := 0, slots := 0, locals := 0 } : Room) s m #[(.int p0)] below meth c s₁ [] 0 0 := Stand.of_body Bd
  have e0 : s₁.heap = h0 := by rw [← hh, Bd.state]; rfl
  refine Ow.enter (Q := Q1 ta p0 h0) (ef_1 m p0) ?_
  show Ow p e below s _ _ _ (s₁.setTop (mkF m 0 #[.val (.int p0)] []))
  refine w_iloadN X0 hx (Jvm.hb hby d1_0) rfl (pc' := 1) rfl ?_
  refine w_if_ne X0 hx (Jvm.hb hby d1_1) (by decide) (pcT := 8) (by decide) (pcF := 4) rfl (fun hc1 => ?_) (fun hc1 => ?_)
  · refine w_iloadN X0 hx (Jvm.hb hby d1_8) rfl (pc' := 9) rfl ?_
    refine w_iconst X0 hx (1 : Int32) (Jvm.hb hby d1_9) (by decide) (pc' := 10) rfl ?_
    refine w_icmp_ne X0 hx (Jvm.hb hby d1_10) (by decide) (pcT := 17) (by decide) (pcF := 13) rfl (fun hc10 => ?_) (fun hc10 => ?_)
    · refine w_iloadN X0 hx (Jvm.hb hby d1_17) rfl (pc' := 18) rfl ?_
      refine w_iconst X0 hx (2 : Int32) (Jvm.hb hby d1_18) (by decide) (pc' := 19) rfl ?_
      refine w_icmp_ne X0 hx (Jvm.hb hby d1_19) (by decide) (pcT := 26) (by decide) (pcF := 22) rfl (fun hc19 => ?_) (fun hc19 => ?_)
      · refine w_iloadN X0 hx (Jvm.hb hby d1_26) rfl (pc' := 27) rfl ?_
        refine w_iconst X0 hx (3 : Int32) (Jvm.hb hby d1_27) (by decide) (pc' := 28) rfl ?_
        refine w_icmp_ne X0 hx (Jvm.hb hby d1_28) (by decide) (pcT := 35) (by decide) (pcF := 31) rfl (fun hc28 => ?_) (fun hc28 => ?_)
        · refine w_iloadN X0 hx (Jvm.hb hby d1_35) rfl (pc' := 36) rfl ?_
          refine w_iconst X0 hx (4 : Int32) (Jvm.hb hby d1_36) (by decide) (pc' := 37) rfl ?_
          refine w_icmp_ne X0 hx (Jvm.hb hby d1_37) (by decide) (pcT := 44) (by decide) (pcF := 40) rfl (fun hc37 => ?_) (fun hc37 => ?_)
          · refine w_iloadN X0 hx (Jvm.hb hby d1_44) rfl (pc' := 45) rfl ?_
            refine w_iconst X0 hx (5 : Int32) (Jvm.hb hby d1_45) (by decide) (pc' := 46) rfl ?_
            refine w_icmp_ne X0 hx (Jvm.hb hby d1_46) (by decide) (pcT := 53) (by decide) (pcF := 49) rfl (fun hc46 => ?_) (fun hc46 => ?_)
            · refine w_iloadN X0 hx (Jvm.hb hby d1_53) rfl (pc' := 54) rfl ?_
              refine w_bipush X0 hx (6 : Int32) (Jvm.hb hby d1_54) (by decide) (pc' := 56) rfl ?_
              refine w_icmp_ne X0 hx (Jvm.hb hby d1_56) (by decide) (pcT := 63) (by decide) (pcF := 59) rfl (fun hc56 => ?_) (fun hc56 => ?_)
              · refine w_iloadN X0 hx (Jvm.hb hby d1_63) rfl (pc' := 64) rfl ?_
                refine w_bipush X0 hx (7 : Int32) (Jvm.hb hby d1_64) (by decide) (pc' := 66) rfl ?_
                refine w_icmp_ne X0 hx (Jvm.hb hby d1_66) (by decide) (pcT := 73) (by decide) (pcF := 69) rfl (fun hc66 => ?_) (fun hc66 => ?_)
                · refine w_iloadN X0 hx (Jvm.hb hby d1_73) rfl (pc' := 74) rfl ?_
                  refine w_bipush X0 hx (8 : Int32) (Jvm.hb hby d1_74) (by decide) (pc' := 76) rfl ?_
                  refine w_icmp_ne X0 hx (Jvm.hb hby d1_76) (by decide) (pcT := 83) (by decide) (pcF := 79) rfl (fun hc76 => ?_) (fun hc76 => ?_)
                  · refine w_iloadN X0 hx (Jvm.hb hby d1_83) rfl (pc' := 84) rfl ?_
                    refine w_bipush X0 hx (9 : Int32) (Jvm.hb hby d1_84) (by decide) (pc' := 86) rfl ?_
                    refine w_icmp_ne X0 hx (Jvm.hb hby d1_86) (by decide) (pcT := 93) (by decide) (pcF := 89) rfl (fun hc86 => ?_) (fun hc86 => ?_)
                    · refine w_iloadN X0 hx (Jvm.hb hby d1_93) rfl (pc' := 94) rfl ?_
                      refine w_bipush X0 hx (10 : Int32) (Jvm.hb hby d1_94) (by decide) (pc' := 96) rfl ?_
                      refine w_icmp_ne X0 hx (Jvm.hb hby d1_96) (by decide) (pcT := 103) (by decide) (pcF := 99) rfl (fun hc96 => ?_) (fun hc96 => ?_)
                      · refine w_iloadN X0 hx (Jvm.hb hby d1_103) rfl (pc' := 104) rfl ?_
                        refine w_bipush X0 hx (11 : Int32) (Jvm.hb hby d1_104) (by decide) (pc' := 106) rfl ?_
                        refine w_icmp_ne X0 hx (Jvm.hb hby d1_106) (by decide) (pcT := 113) (by decide) (pcF := 109) rfl (fun hc106 => ?_) (fun hc106 => ?_)
                        · refine w_iloadN X0 hx (Jvm.hb hby d1_113) rfl (pc' := 114) rfl ?_
                          refine w_bipush X0 hx (12 : Int32) (Jvm.hb hby d1_114) (by decide) (pc' := 116) rfl ?_
                          refine w_icmp_ne X0 hx (Jvm.hb hby d1_116) (by decide) (pcT := 123) (by decide) (pcF := 119) rfl (fun hc116 => ?_) (fun hc116 => ?_)
                          · refine w_iloadN X0 hx (Jvm.hb hby d1_123) rfl (pc' := 124) rfl ?_
                            refine w_bipush X0 hx (13 : Int32) (Jvm.hb hby d1_124) (by decide) (pc' := 126) rfl ?_
                            refine w_icmp_ne X0 hx (Jvm.hb hby d1_126) (by decide) (pcT := 133) (by decide) (pcF := 129) rfl (fun hc126 => ?_) (fun hc126 => ?_)
                            · refine w_iloadN X0 hx (Jvm.hb hby d1_133) rfl (pc' := 134) rfl ?_
                              refine w_bipush X0 hx (14 : Int32) (Jvm.hb hby d1_134) (by decide) (pc' := 136) rfl ?_
                              refine w_icmp_ne X0 hx (Jvm.hb hby d1_136) (by decide) (pcT := 143) (by decide) (pcF := 139) rfl (fun hc136 => ?_) (fun hc136 => ?_)
                              · refine w_iloadN X0 hx (Jvm.hb hby d1_143) rfl (pc' := 144) rfl ?_
                                refine w_bipush X0 hx (15 : Int32) (Jvm.hb hby d1_144) (by decide) (pc' := 146) rfl ?_
                                refine w_icmp_ne X0 hx (Jvm.hb hby d1_146) (by decide) (pcT := 153) (by decide) (pcF := 149) rfl (fun hc146 => ?_) (fun hc146 => ?_)
                                · refine w_iloadN X0 hx (Jvm.hb hby d1_153) rfl (pc' := 154) rfl ?_
                                  refine w_bipush X0 hx (16 : Int32) (Jvm.hb hby d1_154) (by decide) (pc' := 156) rfl ?_
                                  refine w_icmp_ne X0 hx (Jvm.hb hby d1_156) (by decide) (pcT := 163) (by decide) (pcF := 159) rfl (fun hc156 => ?_) (fun hc156 => ?_)
                                  · refine w_iloadN X0 hx (Jvm.hb hby d1_163) rfl (pc' := 164) rfl ?_
                                    refine w_bipush X0 hx (17 : Int32) (Jvm.hb hby d1_164) (by decide) (pc' := 166) rfl ?_
                                    refine w_icmp_ne X0 hx (Jvm.hb hby d1_166) (by decide) (pcT := 173) (by decide) (pcF := 169) rfl (fun hc166 => ?_) (fun hc166 => ?_)
                                    · refine w_iloadN X0 hx (Jvm.hb hby d1_173) rfl (pc' := 174) rfl ?_
                                      refine w_bipush X0 hx (18 : Int32) (Jvm.hb hby d1_174) (by decide) (pc' := 176) rfl ?_
                                      refine w_icmp_ne X0 hx (Jvm.hb hby d1_176) (by decide) (pcT := 183) (by decide) (pcF := 179) rfl (fun hc176 => ?_) (fun hc176 => ?_)
                                      · refine w_getstatic X0 hx hZ hown (host := "") (Or.inl (hw _ (List.mem_of_getElem? (i := 33) rfl))) Via.refl e0 S.2.2.2.2.2.2.2.2.2.2.2.2.2.2.2.2.2.2.2 (Jvm.hb hby d1_183) (pc' := 186) rfl ?_
                                        intro T21 X21 e21
                                        exact w_areturn X21 hx Bd.returns rfl rfl (BodyLoose.notSynchronized Bd) (Nat.le_of_ble_eq_true rfl) (Nat.le_of_ble_eq_true rfl) (Jvm.hb hby d1_186) ⟨congrArg (fun z => some (Value.ref z)) (show ta 19 = pk ta p0 from by unfold pk; rw [if_neg hc1, if_neg hc10, if_neg hc19, if_neg hc28, if_neg hc37, if_neg hc46, if_neg hc56, if_neg hc66, if_neg hc76, if_neg hc86, if_neg hc96, if_neg hc106, if_neg hc116, if_neg hc126, if_neg hc136, if_neg hc146, if_neg hc156, if_neg hc166, if_neg hc176]), e21, rfl⟩
                                      · refine w_getstatic X0 hx hZ hown (host := "") (Or.inl (hw _ (List.mem_of_getElem? (i := 52) rfl))) Via.refl e0 S.2.2.2.2.2.2.2.2.2.2.2.2.2.2.2.2.2.2.1 (Jvm.hb hby d1_179) (pc' := 182) rfl ?_
                                        intro T22 X22 e22
                                        exact w_areturn X22 hx Bd.returns rfl rfl (BodyLoose.notSynchronized Bd) (Nat.le_of_ble_eq_true rfl) (Nat.le_of_ble_eq_true rfl) (Jvm.hb hby d1_182) ⟨congrArg (fun z => some (Value.ref z)) (show ta 18 = pk ta p0 from by unfold pk; rw [if_neg hc1, if_neg hc10, if_neg hc19, if_neg hc28, if_neg hc37, if_neg hc46, if_neg hc56, if_neg hc66, if_neg hc76, if_neg hc86, if_neg hc96, if_neg hc106, if_neg hc116, if_neg hc126, if_neg hc136, if_neg hc146, if_neg hc156, if_neg hc166, if_pos hc176]), e22, rfl⟩
                                    · refine w_getstatic X0 hx hZ hown (host := "") (Or.inl (hw _ (List.mem_of_getElem? (i := 39) rfl))) Via.refl e0 S.2.2.2.2.2.2.2.2.2.2.2.2.2.2.2.2.2.1 (Jvm.hb hby d1_169) (pc' := 172) rfl ?_
                                      intro T23 X23 e23
                                      exact w_areturn X23 hx Bd.returns rfl rfl (BodyLoose.notSynchronized Bd) (Nat.le_of_ble_eq_true rfl) (Nat.le_of_ble_eq_true rfl) (Jvm.hb hby d1_172) ⟨congrArg (fun z => some (Value.ref z)) (show ta 17 = pk ta p0 from by unfold pk; rw [if_neg hc1, if_neg hc10, if_neg hc19, if_neg hc28, if_neg hc37, if_neg hc46, if_neg hc56, if_neg hc66, if_neg hc76, if_neg hc86, if_neg hc96, if_neg hc106, if_neg hc116, if_neg hc126, if_neg hc136, if_neg hc146, if_neg hc156, if_pos hc166]), e23, rfl⟩
                                  · refine w_getstatic X0 hx hZ hown (host := "") (Or.inl (hw _ (List.mem_of_getElem? (i := 41) rfl))) Via.refl e0 S.2.2.2.2.2.2.2.2.2.2.2.2.2.2.2.2.1 (Jvm.hb hby d1_159) (pc' := 162) rfl ?_
                                    intro T24 X24 e24
                                    exact w_areturn X24 hx Bd.returns rfl rfl (BodyLoose.notSynchronized Bd) (Nat.le_of_ble_eq_true rfl) (Nat.le_of_ble_eq_true rfl) (Jvm.hb hby d1_162) ⟨congrArg (fun z => some (Value.ref z)) (show ta 16 = pk ta p0 from by unfold pk; rw [if_neg hc1, if_neg hc10, if_neg hc19, if_neg hc28, if_neg hc37, if_neg hc46, if_neg hc56, if_neg hc66, if_neg hc76, if_neg hc86, if_neg hc96, if_neg hc106, if_neg hc116, if_neg hc126, if_neg hc136, if_neg hc146, if_pos hc156]), e24, rfl⟩
                                · refine w_getstatic X0 hx hZ hown (host := "") (Or.inl (hw _ (List.mem_of_getElem? (i := 35) rfl))) Via.refl e0 S.2.2.2.2.2.2.2.2.2.2.2.2.2.2.2.1 (Jvm.hb hby d1_149) (pc' := 152) rfl ?_
                                  intro T25 X25 e25
                                  exact w_areturn X25 hx Bd.returns rfl rfl (BodyLoose.notSynchronized Bd) (Nat.le_of_ble_eq_true rfl) (Nat.le_of_ble_eq_true rfl) (Jvm.hb hby d1_152) ⟨congrArg (fun z => some (Value.ref z)) (show ta 15 = pk ta p0 from by unfold pk; rw [if_neg hc1, if_neg hc10, if_neg hc19, if_neg hc28, if_neg hc37, if_neg hc46, if_neg hc56, if_neg hc66, if_neg hc76, if_neg hc86, if_neg hc96, if_neg hc106, if_neg hc116, if_neg hc126, if_neg hc136, if_pos hc146]), e25, rfl⟩
                              · refine w_getstatic X0 hx hZ hown (host := "") (Or.inl (hw _ (List.mem_of_getElem? (i := 23) rfl))) Via.refl e0 S.2.2.2.2.2.2.2.2.2.2.2.2.2.2.1 (Jvm.hb hby d1_139) (pc' := 142) rfl ?_
                                intro T26 X26 e26
                                exact w_areturn X26 hx Bd.returns rfl rfl (BodyLoose.notSynchronized Bd) (Nat.le_of_ble_eq_true rfl) (Nat.le_of_ble_eq_true rfl) (Jvm.hb hby d1_142) ⟨congrArg (fun z => some (Value.ref z)) (show ta 14 = pk ta p0 from by unfold pk; rw [if_neg hc1, if_neg hc10, if_neg hc19, if_neg hc28, if_neg hc37, if_neg hc46, if_neg hc56, if_neg hc66, if_neg hc76, if_neg hc86, if_neg hc96, if_neg hc106, if_neg hc116, if_neg hc126, if_pos hc136]), e26, rfl⟩
                            · refine w_getstatic X0 hx hZ hown (host := "") (Or.inl (hw _ (List.mem_of_getElem? (i := 50) rfl))) Via.refl e0 S.2.2.2.2.2.2.2.2.2.2.2.2.2.1 (Jvm.hb hby d1_129) (pc' := 132) rfl ?_
                              intro T27 X27 e27
                              exact w_areturn X27 hx Bd.returns rfl rfl (BodyLoose.notSynchronized Bd) (Nat.le_of_ble_eq_true rfl) (Nat.le_of_ble_eq_true rfl) (Jvm.hb hby d1_132) ⟨congrArg (fun z => some (Value.ref z)) (show ta 13 = pk ta p0 from by unfold pk; rw [if_neg hc1, if_neg hc10, if_neg hc19, if_neg hc28, if_neg hc37, if_neg hc46, if_neg hc56, if_neg hc66, if_neg hc76, if_neg hc86, if_neg hc96, if_neg hc106, if_neg hc116, if_pos hc126]), e27, rfl⟩
                          · refine w_getstatic X0 hx hZ hown (host := "") (Or.inl (hw _ (List.mem_of_getElem? (i := 43) rfl))) Via.refl e0 S.2.2.2.2.2.2.2.2.2.2.2.2.1 (Jvm.hb hby d1_119) (pc' := 122) rfl ?_
                            intro T28 X28 e28
                            exact w_areturn X28 hx Bd.returns rfl rfl (BodyLoose.notSynchronized Bd) (Nat.le_of_ble_eq_true rfl) (Nat.le_of_ble_eq_true rfl) (Jvm.hb hby d1_122) ⟨congrArg (fun z => some (Value.ref z)) (show ta 12 = pk ta p0 from by unfold pk; rw [if_neg hc1, if_neg hc10, if_neg hc19, if_neg hc28, if_neg hc37, if_neg hc46, if_neg hc56, if_neg hc66, if_neg hc76, if_neg hc86, if_neg hc96, if_neg hc106, if_pos hc116]), e28, rfl⟩
                        · refine w_getstatic X0 hx hZ hown (host := "") (Or.inl (hw _ (List.mem_of_getElem? (i := 22) rfl))) Via.refl e0 S.2.2.2.2.2.2.2.2.2.2.2.1 (Jvm.hb hby d1_109) (pc' := 112) rfl ?_
                          intro T29 X29 e29
                          exact w_areturn X29 hx Bd.returns rfl rfl (BodyLoose.notSynchronized Bd) (Nat.le_of_ble_eq_true rfl) (Nat.le_of_ble_eq_true rfl) (Jvm.hb hby d1_112) ⟨congrArg (fun z => some (Value.ref z)) (show ta 11 = pk ta p0 from by unfold pk; rw [if_neg hc1, if_neg hc10, if_neg hc19, if_neg hc28, if_neg hc37, if_neg hc46, if_neg hc56, if_neg hc66, if_neg hc76, if_neg hc86, if_neg hc96, if_pos hc106]), e29, rfl⟩
                      · refine w_getstatic X0 hx hZ hown (host := "") (Or.inl (hw _ (List.mem_of_getElem? (i := 21) rfl))) Via.refl e0 S.2.2.2.2.2.2.2.2.2.2.1 (Jvm.hb hby d1_99) (pc' := 102) rfl ?_
                        intro T30 X30 e30
                        exact w_areturn X30 hx Bd.returns rfl rfl (BodyLoose.notSynchronized Bd) (Nat.le_of_ble_eq_true rfl) (Nat.le_of_ble_eq_true rfl) (Jvm.hb hby d1_102) ⟨congrArg (fun z => some (Value.ref z)) (show ta 10 = pk ta p0 from by unfold pk; rw [if_neg hc1, if_neg hc10, if_neg hc19, if_neg hc28, if_neg hc37, if_neg hc46, if_neg hc56, if_neg hc66, if_neg hc76, if_neg hc86, if_pos hc96]), e30, rfl⟩
                    · refine w_getstatic X0 hx hZ hown (host := "") (Or.inl (hw _ (List.mem_of_getElem? (i := 48) rfl))) Via.refl e0 S.2.2.2.2.2.2.2.2.2.1 (Jvm.hb hby d1_89) (pc' := 92) rfl ?_
                      intro T31 X31 e31
                      exact w_areturn X31 hx Bd.returns rfl rfl (BodyLoose.notSynchronized Bd) (Nat.le_of_ble_eq_true rfl) (Nat.le_of_ble_eq_true rfl) (Jvm.hb hby d1_92) ⟨congrArg (fun z => some (Value.ref z)) (show ta 9 = pk ta p0 from by unfold pk; rw [if_neg hc1, if_neg hc10, if_neg hc19, if_neg hc28, if_neg hc37, if_neg hc46, if_neg hc56, if_neg hc66, if_neg hc76, if_pos hc86]), e31, rfl⟩
                  · refine w_getstatic X0 hx hZ hown (host := "") (Or.inl (hw _ (List.mem_of_getElem? (i := 29) rfl))) Via.refl e0 S.2.2.2.2.2.2.2.2.1 (Jvm.hb hby d1_79) (pc' := 82) rfl ?_
                    intro T32 X32 e32
                    exact w_areturn X32 hx Bd.returns rfl rfl (BodyLoose.notSynchronized Bd) (Nat.le_of_ble_eq_true rfl) (Nat.le_of_ble_eq_true rfl) (Jvm.hb hby d1_82) ⟨congrArg (fun z => some (Value.ref z)) (show ta 8 = pk ta p0 from by unfold pk; rw [if_neg hc1, if_neg hc10, if_neg hc19, if_neg hc28, if_neg hc37, if_neg hc46, if_neg hc56, if_neg hc66, if_pos hc76]), e32, rfl⟩
                · refine w_getstatic X0 hx hZ hown (host := "") (Or.inl (hw _ (List.mem_of_getElem? (i := 25) rfl))) Via.refl e0 S.2.2.2.2.2.2.2.1 (Jvm.hb hby d1_69) (pc' := 72) rfl ?_
                  intro T33 X33 e33
                  exact w_areturn X33 hx Bd.returns rfl rfl (BodyLoose.notSynchronized Bd) (Nat.le_of_ble_eq_true rfl) (Nat.le_of_ble_eq_true rfl) (Jvm.hb hby d1_72) ⟨congrArg (fun z => some (Value.ref z)) (show ta 7 = pk ta p0 from by unfold pk; rw [if_neg hc1, if_neg hc10, if_neg hc19, if_neg hc28, if_neg hc37, if_neg hc46, if_neg hc56, if_pos hc66]), e33, rfl⟩
              · refine w_getstatic X0 hx hZ hown (host := "") (Or.inl (hw _ (List.mem_of_getElem? (i := 37) rfl))) Via.refl e0 S.2.2.2.2.2.2.1 (Jvm.hb hby d1_59) (pc' := 62) rfl ?_
                intro T34 X34 e34
                exact w_areturn X34 hx Bd.returns rfl rfl (BodyLoose.notSynchronized Bd) (Nat.le_of_ble_eq_true rfl) (Nat.le_of_ble_eq_true rfl) (Jvm.hb hby d1_62) ⟨congrArg (fun z => some (Value.ref z)) (show ta 6 = pk ta p0 from by unfold pk; rw [if_neg hc1, if_neg hc10, if_neg hc19, if_neg hc28, if_neg hc37, if_neg hc46, if_pos hc56]), e34, rfl⟩
            · refine w_getstatic X0 hx hZ hown (host := "") (Or.inl (hw _ (List.mem_of_getElem? (i := 44) rfl))) Via.refl e0 S.2.2.2.2.2.1 (Jvm.hb hby d1_49) (pc' := 52) rfl ?_
              intro T35 X35 e35
              exact w_areturn X35 hx Bd.returns rfl rfl (BodyLoose.notSynchronized Bd) (Nat.le_of_ble_eq_true rfl) (Nat.le_of_ble_eq_true rfl) (Jvm.hb hby d1_52) ⟨congrArg (fun z => some (Value.ref z)) (show ta 5 = pk ta p0 from by unfold pk; rw [if_neg hc1, if_neg hc10, if_neg hc19, if_neg hc28, if_neg hc37, if_pos hc46]), e35, rfl⟩
          · refine w_getstatic X0 hx hZ hown (host := "") (Or.inl (hw _ (List.mem_of_getElem? (i := 46) rfl))) Via.refl e0 S.2.2.2.2.1 (Jvm.hb hby d1_40) (pc' := 43) rfl ?_
            intro T36 X36 e36
            exact w_areturn X36 hx Bd.returns rfl rfl (BodyLoose.notSynchronized Bd) (Nat.le_of_ble_eq_true rfl) (Nat.le_of_ble_eq_true rfl) (Jvm.hb hby d1_43) ⟨congrArg (fun z => some (Value.ref z)) (show ta 4 = pk ta p0 from by unfold pk; rw [if_neg hc1, if_neg hc10, if_neg hc19, if_neg hc28, if_pos hc37]), e36, rfl⟩
        · refine w_getstatic X0 hx hZ hown (host := "") (Or.inl (hw _ (List.mem_of_getElem? (i := 19) rfl))) Via.refl e0 S.2.2.2.1 (Jvm.hb hby d1_31) (pc' := 34) rfl ?_
          intro T37 X37 e37
          exact w_areturn X37 hx Bd.returns rfl rfl (BodyLoose.notSynchronized Bd) (Nat.le_of_ble_eq_true rfl) (Nat.le_of_ble_eq_true rfl) (Jvm.hb hby d1_34) ⟨congrArg (fun z => some (Value.ref z)) (show ta 3 = pk ta p0 from by unfold pk; rw [if_neg hc1, if_neg hc10, if_neg hc19, if_pos hc28]), e37, rfl⟩
      · refine w_getstatic X0 hx hZ hown (host := "") (Or.inl (hw _ (List.mem_of_getElem? (i := 27) rfl))) Via.refl e0 S.2.2.1 (Jvm.hb hby d1_22) (pc' := 25) rfl ?_
        intro T38 X38 e38
        exact w_areturn X38 hx Bd.returns rfl rfl (BodyLoose.notSynchronized Bd) (Nat.le_of_ble_eq_true rfl) (Nat.le_of_ble_eq_true rfl) (Jvm.hb hby d1_25) ⟨congrArg (fun z => some (Value.ref z)) (show ta 2 = pk ta p0 from by unfold pk; rw [if_neg hc1, if_neg hc10, if_pos hc19]), e38, rfl⟩
    · refine w_getstatic X0 hx hZ hown (host := "") (Or.inl (hw _ (List.mem_of_getElem? (i := 31) rfl))) Via.refl e0 S.2.1 (Jvm.hb hby d1_13) (pc' := 16) rfl ?_
      intro T39 X39 e39
      exact w_areturn X39 hx Bd.returns rfl rfl (BodyLoose.notSynchronized Bd) (Nat.le_of_ble_eq_true rfl) (Nat.le_of_ble_eq_true rfl) (Jvm.hb hby d1_16) ⟨congrArg (fun z => some (Value.ref z)) (show ta 1 = pk ta p0 from by unfold pk; rw [if_neg hc1, if_pos hc10]), e39, rfl⟩
  · refine w_getstatic X0 hx hZ hown (host := "") (Or.inl (hw _ (List.mem_of_getElem? (i := 5) rfl))) Via.refl e0 S.1 (Jvm.hb hby d1_4) (pc' := 7) rfl ?_
    intro T40 X40 e40
    exact w_areturn X40 hx Bd.returns rfl rfl (BodyLoose.notSynchronized Bd) (Nat.le_of_ble_eq_true rfl) (Nat.le_of_ble_eq_true rfl) (Jvm.hb hby d1_7) ⟨congrArg (fun z => some (Value.ref z)) (show ta 0 = pk ta p0 from by unfold pk; rw [if_pos hc1]), e40, rfl⟩
def isC (ta : Nat → Addr) (a0 : Addr) : Int32 := (if a0 = (ta 10) then (1 : Int32) else (if a0 = (ta 11) then (1 : Int32) else (if a0 = (ta 12) then (1 : Int32) else (0 : Int32))))
def Q2 (ta : Nat → Addr) (a0 : Addr) (h0 : Heap) (v : Option Value) (h : Heap) (L : List Loc) : Prop := v = some (.int (isC ta a0)) ∧ h = h0 ∧ L = []
set_option maxRecDepth 65536 in
set_option maxHeartbeats 40000000 in
theorem rm2 (l : Launch) (Z : State) (aw : Array Value) (hw : ∀ d ∈ tables_1, d.before aw Z = true) (ws : List Jvm.Cond) (a0 : Addr) (ta : Nat → Addr) (h0 : Heap) (S : Tys Z h0 ta) :
    MetFree l (⟨"com/example/tagwire/tagwire/value/Type", "isContainer", "()Z"⟩ : MethodName) (head1 (Jvm.Cond.code (⟨"com/example/tagwire/tagwire/value/Type", "isContainer", "()Z"⟩ : MethodName) prog_111_method_15_code 1 (some .boolean) :: ws) ({ frames := 0, cells := 0, slots := 0, locals := 0 } : Room)) (fun a U => a = #[(.ref a0)] ∧ Z.Warmed39 U.vm ∧ U.heap = h0) (fun _ _ _ _ _ => True) (fun _ U o U' => ∃ v L, o = .returned v ∧ Q2 ta a0 h0 v U'.heap L ∧ FrameEnd U o U' L ({ frames := 0, cells := 0, slots := 0, locals := 0 } : Room).cells ({ frames := 0, cells := 0, slots := 0, locals := 0 } : Room).slots) := by
  refine MetFree.of_bodySF (plainFor_of_name pn_1) hisR ?_
  intro p e s m args below meth c s₁ Bd hml0 hP _hKK
  obtain ⟨rfl, hZ, hh⟩ := hP
  have hx := Bd.exec
  have hby := Bd.bytes
  have hml : c.maxLocals = 1 := hml0
  have hown : s.vm.findClass "com/example/tagwire/tagwire/value/Type" = some m.cls := findClass_of_methodNamed Bd.named
  have hnm := (name_of_methodNamed Bd.named Bd.method).1
  have X0 : Stand p l e ({ frames := 0, cells := 0, slots := 0, locals := 0 } : Room) s m #[(.ref a0)] below meth c s₁ [] 0 0 := Stand.of_body Bd
  have e0 : s₁.heap = h0 := by rw [← hh, Bd.state]; rfl
  refine Ow.enter (Q := Q2 ta a0 h0) (ef_2 m a0) ?_
  show Ow p e below s _ _ _ (s₁.setTop (mkF m 0 #[.val (.ref a0)] []))
  refine w_aloadN X0 hx (Jvm.hb hby d2_0) rfl rfl (pc' := 1) rfl ?_
  refine w_getstatic X0 hx hZ hown (host := "") (Or.inl (hw _ (List.mem_of_getElem? (i := 13) rfl))) Via.refl e0 S.2.2.2.2.2.2.2.2.2.2.1 (Jvm.hb hby d2_1) (pc' := 4) rfl ?_
  intro T41 X41 e41
  refine w_acmp_eq X41 hx (Jvm.hb hby d2_4) (by decide) (pcT := 21) (by decide) (pcF := 7) rfl (fun hc4 => ?_) (fun hc4 => ?_)
  · refine w_iconst X41 hx (1 : Int32) (Jvm.hb hby d2_21) (by decide) (pc' := 22) rfl ?_
    refine w_goto X41 hx (Jvm.hb hby d2_22) (by decide) (pc' := 26) (by decide) ?_
    exact w_zreturn X41 hx Bd.returns (Or.inr rfl) (BodyLoose.notSynchronized Bd) (Nat.le_of_ble_eq_true rfl) (Nat.le_of_ble_eq_true rfl) (Jvm.hb hby d2_26) ⟨congrArg (fun z => some (Value.int z)) (show (1 : Int32) = isC ta a0 from by unfold isC; rw [if_pos hc4]), e41, rfl⟩
  · refine w_aloadN X41 hx (Jvm.hb hby d2_7) rfl rfl (pc' := 8) rfl ?_
    refine w_getstatic X41 hx hZ hown (host := "") (Or.inl (hw _ (List.mem_of_getElem? (i := 15) rfl))) Via.refl e41 S.2.2.2.2.2.2.2.2.2.2.2.1 (Jvm.hb hby d2_8) (pc' := 11) rfl ?_
    intro T42 X42 e42
    refine w_acmp_eq X42 hx (Jvm.hb hby d2_11) (by decide) (pcT := 21) (by decide) (pcF := 14) rfl (fun hc11 => ?_) (fun hc11 => ?_)
    · refine w_iconst X42 hx (1 : Int32) (Jvm.hb hby d2_21) (by decide) (pc' := 22) rfl ?_
      refine w_goto X42 hx (Jvm.hb hby d2_22) (by decide) (pc' := 26) (by decide) ?_
      exact w_zreturn X42 hx Bd.returns (Or.inr rfl) (BodyLoose.notSynchronized Bd) (Nat.le_of_ble_eq_true rfl) (Nat.le_of_ble_eq_true rfl) (Jvm.hb hby d2_26) ⟨congrArg (fun z => some (Value.int z)) (show (1 : Int32) = isC ta a0 from by unfold isC; rw [if_neg hc4, if_pos hc11]), e42, rfl⟩
    · refine w_aloadN X42 hx (Jvm.hb hby d2_14) rfl rfl (pc' := 15) rfl ?_
      refine w_getstatic X42 hx hZ hown (host := "") (Or.inl (hw _ (List.mem_of_getElem? (i := 17) rfl))) Via.refl e42 S.2.2.2.2.2.2.2.2.2.2.2.2.1 (Jvm.hb hby d2_15) (pc' := 18) rfl ?_
      intro T43 X43 e43
      refine w_acmp_ne X43 hx (Jvm.hb hby d2_18) (by decide) (pcT := 25) (by decide) (pcF := 21) rfl (fun hc18 => ?_) (fun hc18 => ?_)
      · refine w_iconst X43 hx (0 : Int32) (Jvm.hb hby d2_25) (by decide) (pc' := 26) rfl ?_
        exact w_zreturn X43 hx Bd.returns (Or.inl rfl) (BodyLoose.notSynchronized Bd) (Nat.le_of_ble_eq_true rfl) (Nat.le_of_ble_eq_true rfl) (Jvm.hb hby d2_26) ⟨congrArg (fun z => some (Value.int z)) (show (0 : Int32) = isC ta a0 from by unfold isC; rw [if_neg hc4, if_neg hc11, if_neg hc18]), e43, rfl⟩
      · refine w_iconst X43 hx (1 : Int32) (Jvm.hb hby d2_21) (by decide) (pc' := 22) rfl ?_
        refine w_goto X43 hx (Jvm.hb hby d2_22) (by decide) (pc' := 26) (by decide) ?_
        exact w_zreturn X43 hx Bd.returns (Or.inr rfl) (BodyLoose.notSynchronized Bd) (Nat.le_of_ble_eq_true rfl) (Nat.le_of_ble_eq_true rfl) (Jvm.hb hby d2_26) ⟨congrArg (fun z => some (Value.int z)) (show (1 : Int32) = isC ta a0 from by unfold isC; rw [if_neg hc4, if_neg hc11, if_pos hc18]), e43, rfl⟩
theorem own_kv (x : Int32) : 0 ≤ ((x &&& (2147483647 : Int32)) % (20 : Int32)).toInt ∧ ((x &&& (2147483647 : Int32)) % (20 : Int32)).toInt < 20 := by
  have hm : (x &&& (2147483647 : Int32)).toInt = x.toInt % 2 ^ 31 := Kit.i32_mask x 2147483647 (k := 31) (by decide) (by decide)
  rw [Kit.i32_rem_nonneg (by omega), hm, show (20 : Int32).toInt = 20 from by decide]; omega
theorem own_pk (ta : Nat → Addr) (k : Int32) : ∃ i, i < 20 ∧ pk ta k = ta i ∧ (0 ≤ k.toInt → k.toInt < 20 → k.toInt = (i : Int)) := by
  unfold pk
  by_cases q0 : k = (0 : Int32)
  · rw [if_pos q0]; exact ⟨0, by decide, rfl, fun _ _ => by rw [q0]; decide⟩
  · rw [if_neg q0]
    by_cases q1 : k = (1 : Int32)
    · rw [if_pos q1]; exact ⟨1, by decide, rfl, fun _ _ => by rw [q1]; decide⟩
    · rw [if_neg q1]
      by_cases q2 : k = (2 : Int32)
      · rw [if_pos q2]; exact ⟨2, by decide, rfl, fun _ _ => by rw [q2]; decide⟩
      · rw [if_neg q2]
        by_cases q3 : k = (3 : Int32)
        · rw [if_pos q3]; exact ⟨3, by decide, rfl, fun _ _ => by rw [q3]; decide⟩
        · rw [if_neg q3]
          by_cases q4 : k = (4 : Int32)
          · rw [if_pos q4]; exact ⟨4, by decide, rfl, fun _ _ => by rw [q4]; decide⟩
          · rw [if_neg q4]
            by_cases q5 : k = (5 : Int32)
            · rw [if_pos q5]; exact ⟨5, by decide, rfl, fun _ _ => by rw [q5]; decide⟩
            · rw [if_neg q5]
              by_cases q6 : k = (6 : Int32)
              · rw [if_pos q6]; exact ⟨6, by decide, rfl, fun _ _ => by rw [q6]; decide⟩
              · rw [if_neg q6]
                by_cases q7 : k = (7 : Int32)
                · rw [if_pos q7]; exact ⟨7, by decide, rfl, fun _ _ => by rw [q7]; decide⟩
                · rw [if_neg q7]
                  by_cases q8 : k = (8 : Int32)
                  · rw [if_pos q8]; exact ⟨8, by decide, rfl, fun _ _ => by rw [q8]; decide⟩
                  · rw [if_neg q8]
                    by_cases q9 : k = (9 : Int32)
                    · rw [if_pos q9]; exact ⟨9, by decide, rfl, fun _ _ => by rw [q9]; decide⟩
                    · rw [if_neg q9]
                      by_cases q10 : k = (10 : Int32)
                      · rw [if_pos q10]; exact ⟨10, by decide, rfl, fun _ _ => by rw [q10]; decide⟩
                      · rw [if_neg q10]
                        by_cases q11 : k = (11 : Int32)
                        · rw [if_pos q11]; exact ⟨11, by decide, rfl, fun _ _ => by rw [q11]; decide⟩
                        · rw [if_neg q11]
                          by_cases q12 : k = (12 : Int32)
                          · rw [if_pos q12]; exact ⟨12, by decide, rfl, fun _ _ => by rw [q12]; decide⟩
                          · rw [if_neg q12]
                            by_cases q13 : k = (13 : Int32)
                            · rw [if_pos q13]; exact ⟨13, by decide, rfl, fun _ _ => by rw [q13]; decide⟩
                            · rw [if_neg q13]
                              by_cases q14 : k = (14 : Int32)
                              · rw [if_pos q14]; exact ⟨14, by decide, rfl, fun _ _ => by rw [q14]; decide⟩
                              · rw [if_neg q14]
                                by_cases q15 : k = (15 : Int32)
                                · rw [if_pos q15]; exact ⟨15, by decide, rfl, fun _ _ => by rw [q15]; decide⟩
                                · rw [if_neg q15]
                                  by_cases q16 : k = (16 : Int32)
                                  · rw [if_pos q16]; exact ⟨16, by decide, rfl, fun _ _ => by rw [q16]; decide⟩
                                  · rw [if_neg q16]
                                    by_cases q17 : k = (17 : Int32)
                                    · rw [if_pos q17]; exact ⟨17, by decide, rfl, fun _ _ => by rw [q17]; decide⟩
                                    · rw [if_neg q17]
                                      by_cases q18 : k = (18 : Int32)
                                      · rw [if_pos q18]; exact ⟨18, by decide, rfl, fun _ _ => by rw [q18]; decide⟩
                                      · rw [if_neg q18]
                                        refine ⟨19, by decide, rfl, fun h1 h2 => ?_⟩
                                        have r0 : k.toInt ≠ 0 := fun z => q0 (Int32.toInt_inj.mp (by rw [z]; decide))
                                        have r1 : k.toInt ≠ 1 := fun z => q1 (Int32.toInt_inj.mp (by rw [z]; decide))
                                        have r2 : k.toInt ≠ 2 := fun z => q2 (Int32.toInt_inj.mp (by rw [z]; decide))
                                        have r3 : k.toInt ≠ 3 := fun z => q3 (Int32.toInt_inj.mp (by rw [z]; decide))
                                        have r4 : k.toInt ≠ 4 := fun z => q4 (Int32.toInt_inj.mp (by rw [z]; decide))
                                        have r5 : k.toInt ≠ 5 := fun z => q5 (Int32.toInt_inj.mp (by rw [z]; decide))
                                        have r6 : k.toInt ≠ 6 := fun z => q6 (Int32.toInt_inj.mp (by rw [z]; decide))
                                        have r7 : k.toInt ≠ 7 := fun z => q7 (Int32.toInt_inj.mp (by rw [z]; decide))
                                        have r8 : k.toInt ≠ 8 := fun z => q8 (Int32.toInt_inj.mp (by rw [z]; decide))
                                        have r9 : k.toInt ≠ 9 := fun z => q9 (Int32.toInt_inj.mp (by rw [z]; decide))
                                        have r10 : k.toInt ≠ 10 := fun z => q10 (Int32.toInt_inj.mp (by rw [z]; decide))
                                        have r11 : k.toInt ≠ 11 := fun z => q11 (Int32.toInt_inj.mp (by rw [z]; decide))
                                        have r12 : k.toInt ≠ 12 := fun z => q12 (Int32.toInt_inj.mp (by rw [z]; decide))
                                        have r13 : k.toInt ≠ 13 := fun z => q13 (Int32.toInt_inj.mp (by rw [z]; decide))
                                        have r14 : k.toInt ≠ 14 := fun z => q14 (Int32.toInt_inj.mp (by rw [z]; decide))
                                        have r15 : k.toInt ≠ 15 := fun z => q15 (Int32.toInt_inj.mp (by rw [z]; decide))
                                        have r16 : k.toInt ≠ 16 := fun z => q16 (Int32.toInt_inj.mp (by rw [z]; decide))
                                        have r17 : k.toInt ≠ 17 := fun z => q17 (Int32.toInt_inj.mp (by rw [z]; decide))
                                        have r18 : k.toInt ≠ 18 := fun z => q18 (Int32.toInt_inj.mp (by rw [z]; decide))
                                        omega
theorem own_pkE {Z : State} {h : Heap} {ta : Nat → Addr} (k : Int32) (EE : ∀ i, i < 20 → Exa Z h (ta i) "com/example/tagwire/tagwire/value/Type") : Exa Z h (pk ta k) "com/example/tagwire/tagwire/value/Type" := by
  obtain ⟨i, hi, e, -⟩ := own_pk ta k
  rw [e]; exact EE i hi
theorem own_fin (ta : Nat → Addr) (II : ∀ i j, i < 20 → j < 20 → ta i = ta j → i = j) (kv : Int32) (hk : 0 ≤ kv.toInt ∧ kv.toInt < 20) (ex : Int32) (hex : ex = (if kv = (10 : Int32) then (1 : Int32) else (if kv = (11 : Int32) then (1 : Int32) else (if kv = (12 : Int32) then (1 : Int32) else (0 : Int32))))) : (isC ta (pk ta kv)) = ex := by
  obtain ⟨i, hi, e, hki⟩ := own_pk ta kv
  have hki := hki hk.1 hk.2
  have l10 : kv = 10 ↔ i = 10 := by rw [← Int32.toInt_inj, hki, show (10 : Int32).toInt = 10 from by decide]; omega
  have l11 : kv = 11 ↔ i = 11 := by rw [← Int32.toInt_inj, hki, show (11 : Int32).toInt = 11 from by decide]; omega
  have l12 : kv = 12 ↔ i = 12 := by rw [← Int32.toInt_inj, hki, show (12 : Int32).toInt = 12 from by decide]; omega
  have t10 : ta i = ta 10 ↔ i = 10 := ⟨II i 10 hi (by decide), fun q => by rw [q]⟩
  have t11 : ta i = ta 11 ↔ i = 11 := ⟨II i 11 hi (by decide), fun q => by rw [q]⟩
  have t12 : ta i = ta 12 ↔ i = 12 := ⟨II i 12 hi (by decide), fun q => by rw [q]⟩
  rw [hex, e]; unfold isC
  by_cases q0 : i = 10
  · rw [if_pos (t10.mpr q0), if_pos (l10.mpr q0)]
  · rw [if_neg (fun z => q0 (t10.mp z)), if_neg (fun z => q0 (l10.mp z))]
    by_cases q1 : i = 11
    · rw [if_pos (t11.mpr q1), if_pos (l11.mpr q1)]
    · rw [if_neg (fun z => q1 (t11.mp z)), if_neg (fun z => q1 (l11.mp z))]
      by_cases q2 : i = 12
      · rw [if_pos (t12.mpr q2), if_pos (l12.mpr q2)]
      · rw [if_neg (fun z => q2 (t12.mp z)), if_neg (fun z => q2 (l12.mp z))]
theorem own_enum {s : State} {args : Array Value} {C n d T : String} {k : Int32} (h1 : (Cond.exactly (Term.static C n d) T).value args s none s [] = some true) (h2 : (Cond.eq (Term.field (Term.static C n d) "java/lang/Enum" "ordinal" "I") (Term.int k)).value args s none s [] = some true)
    (wi : (Cond.initialized C).before args s = true) (wl : (Cond.laysStatic C n d).before args s = true) : ∃ x : Addr, Sta s s.heap C n d (.ref x) ∧ Exa s s.heap x T ∧ Fld s s.heap x "java/lang/Enum" "ordinal" "I" (.int k) := by
  obtain ⟨x, ev⟩ := exa_v h1
  obtain ⟨u, v, e1, e2, k1, k2⟩ := cmp_v (Or.inl h2)
  obtain rfl : v = .int k := Option.some.inj (e2.symm.trans (Term.int_eval k))
  obtain ⟨z, rfl⟩ : ∃ z, u = .int z := k2
  have hz : z = k := gotT (Cond.eq_ints e1 e2) h2
  have fo : s.fieldOf? x "java/lang/Enum" "ordinal" "I" = some (.int k) := by rw [← hz]; exact (fld_at ev).symm.trans e1
  exact ⟨x, Sta.start ev (Or.inr ⟨wi, wl⟩), Exa.start ev h1, Fld.start fo⟩
theorem pd_0 : parseMethodDescriptor "(I)Lcom/example/tagwire/tagwire/value/Type;" = some ⟨[.int], some (.object "com/example/tagwire/tagwire/value/Type")⟩ := by decide +kernel
theorem pd_1 : parseMethodDescriptor "()Z" = some ⟨[], some .boolean⟩ := by decide +kernel
theorem ef_0 (m : MethodId) (p0 : Int32) : entryFrame m #[(.int p0)] maxLocals = mkF m 0 #[.val (.int p0), .unset, .unset, .unset] [] := by first | (simp [entryFrame, mkF, argsToLocals, Value.category, maxLocals]; done) | rfl
def Q0 (n0 : Nat) (v : Option Value) (h : Heap) (L : List Loc) : Prop := v = some (.int 1) ∧ Fr n0 L
set_option maxRecDepth 65536 in
set_option maxHeartbeats 40000000 in
theorem rm0 (l : Launch) (Z : State) (aw : Array Value) (hw : ∀ d ∈ tables_1, d.before aw Z = true) (ws : List Jvm.Cond) (p0 : Int32) (ta : Nat → Addr) (h0 : Heap) (n0 : Nat) (Z0 : n0 ≤ h0.size) (S : Tys Z h0 ta) (EE : ∀ i, i < 20 → Exa Z h0 (ta i) "com/example/tagwire/tagwire/value/Type") (II : ∀ i j, i < 20 → j < 20 → ta i = ta j → i = j) :
    MetFree l x (head1 (Jvm.Cond.code x code maxLocals ret :: ws) room_1) (fun a U => a = #[(.int p0)] ∧ Z.Warmed39 U.vm ∧ U.heap = h0) (fun _ _ _ _ _ => True) (fun _ U o U' => ∃ v L, o = .returned v ∧ Q0 n0 v U'.heap L ∧ FrameEnd U o U' L 0 0) := by
  refine MetFree.of_bodySF (plainFor_of_name pn_0) hisR ?_
  intro p e s m args below meth c s₁ Bd hml0 hP _hKK
  obtain ⟨rfl, hZ, hh⟩ := hP
  have hx := Bd.exec
  have hby := Bd.bytes
  have hml : c.maxLocals = 4 := hml0
  have hown : s.vm.findClass "com/example/tagwire/tagwire/value/TypeIsContainerPinLaw" = some m.cls := findClass_of_methodNamed Bd.named
  have hnm := (name_of_methodNamed Bd.named Bd.method).1
  have X0 : Stand p l e room_1 s m #[(.int p0)] below meth c s₁ [] 0 0 := Stand.of_body Bd
  have e0 : s₁.heap = h0 := by rw [← hh, Bd.state]; rfl
  refine Ow.enter (Q := Q0 n0) (ef_0 m p0) ?_
  show Ow p e below s _ _ _ (s₁.setTop (mkF m 0 #[.val (.int p0), .unset, .unset, .unset] []))
  refine w_iloadN X0 hx (Jvm.hb hby at_0) rfl (pc' := 1) rfl ?_
  refine w_ldcI X0 hx hZ hown (hw _ (List.mem_of_getElem? (i := 0) rfl)) (Jvm.hb hby at_1) (pc' := 3) rfl ?_
  refine w_iand X0 hx (Jvm.hb hby at_3) (pc' := 4) rfl ?_
  refine w_bipush X0 hx (20 : Int32) (Jvm.hb hby at_4) (by decide) (pc' := 6) rfl ?_
  refine w_irem X0 hx (Jvm.hb hby at_6) (by decide) (pc' := 7) rfl ?_
  refine w_istoreN X0 hx (Jvm.hb hby at_7) #[.val (.int p0), .val (.int ((p0 &&& (2147483647 : Int32)) % (20 : Int32))), .unset, .unset] rfl  (pc' := 8) rfl ?_
  generalize hkv : ((p0 &&& (2147483647 : Int32)) % (20 : Int32)) = kv
  show Ow p e below s _ _ _ (s₁.setTop (mkF m 8 #[.val (.int p0), .val (.int kv), .unset, .unset] []))
  refine w_iloadN X0 hx (Jvm.hb hby at_8) rfl (pc' := 9) rfl ?_
  refine w_callS X0 hx hZ hown (hw _ (List.mem_of_getElem? (i := 1) rfl)) (hw _ (List.mem_of_getElem? (i := 2) rfl)) (hw _ (List.mem_of_getElem? (i := 3) rfl)) (hw _ (List.mem_of_getElem? (i := 4) rfl)) (by decide) (W := 0) (rm1 l Z aw hw [] kv ta h0 S) e0 (by decide) (by decide) (by decide) (by decide) (Jvm.hb hby at_9) (by rw [hml]; rfl) (argsL := [(.int kv)]) (rest := []) pd_0 rfl rfl rfl (Nat.le_of_eq rfl) (pc' := 12) rfl ?_
  rintro _ T44 L44 X44 ⟨rfl, e44, rfl⟩
  show Ow p e below s _ _ _ (T44.setTop (mkF m 12 #[.val (.int p0), .val (.int kv), .unset, .unset] [(.ref (pk ta kv))]))
  refine w_astoreN X44 hx (Jvm.hb hby at_12) #[.val (.int p0), .val (.int kv), .val (.ref (pk ta kv)), .unset] rfl rfl (pc' := 13) rfl ?_
  obtain ⟨ex, hex⟩ : ∃ v : Int32, v = (if kv = (10 : Int32) then (1 : Int32) else (if kv = (11 : Int32) then (1 : Int32) else (if kv = (12 : Int32) then (1 : Int32) else (0 : Int32)))) := ⟨_, rfl⟩
  refine Ow.join T44 (mkF m 37 #[.val (.int p0), .val (.int kv), .val (.ref (pk ta kv)), .val (.int ex)] []) (fun K => ?_) ?_
  · refine w_iloadN X44 hx (Jvm.hb hby at_13) rfl (pc' := 14) rfl ?_
    refine w_bipush X44 hx (10 : Int32) (Jvm.hb hby at_14) (by decide) (pc' := 16) rfl ?_
    refine w_icmp_eq X44 hx (Jvm.hb hby at_16) (by decide) (pcT := 31) (by decide) (pcF := 19) rfl (fun hj16_0 => ?_) (fun hj16_0 => ?_)
    · refine w_iconst X44 hx (1 : Int32) (Jvm.hb hby at_31) (by decide) (pc' := 32) rfl ?_
      refine w_goto X44 hx (Jvm.hb hby at_32) (by decide) (pc' := 36) (by decide) ?_
      refine w_istoreN X44 hx (Jvm.hb hby at_36) #[.val (.int p0), .val (.int kv), .val (.ref (pk ta kv)), .val (.int (1 : Int32))] rfl  (pc' := 37) rfl ?_
      rw [hex, if_pos hj16_0] at K; exact K
    · refine w_iloadN X44 hx (Jvm.hb hby at_19) rfl (pc' := 20) rfl ?_
      refine w_bipush X44 hx (11 : Int32) (Jvm.hb hby at_20) (by decide) (pc' := 22) rfl ?_
      refine w_icmp_eq X44 hx (Jvm.hb hby at_22) (by decide) (pcT := 31) (by decide) (pcF := 25) rfl (fun hj22_1 => ?_) (fun hj22_1 => ?_)
      · refine w_iconst X44 hx (1 : Int32) (Jvm.hb hby at_31) (by decide) (pc' := 32) rfl ?_
        refine w_goto X44 hx (Jvm.hb hby at_32) (by decide) (pc' := 36) (by decide) ?_
        refine w_istoreN X44 hx (Jvm.hb hby at_36) #[.val (.int p0), .val (.int kv), .val (.ref (pk ta kv)), .val (.int (1 : Int32))] rfl  (pc' := 37) rfl ?_
        rw [hex, if_neg hj16_0, if_pos hj22_1] at K; exact K
      · refine w_iloadN X44 hx (Jvm.hb hby at_25) rfl (pc' := 26) rfl ?_
        refine w_bipush X44 hx (12 : Int32) (Jvm.hb hby at_26) (by decide) (pc' := 28) rfl ?_
        refine w_icmp_ne X44 hx (Jvm.hb hby at_28) (by decide) (pcT := 35) (by decide) (pcF := 31) rfl (fun hj28_2 => ?_) (fun hj28_2 => ?_)
        · refine w_iconst X44 hx (0 : Int32) (Jvm.hb hby at_35) (by decide) (pc' := 36) rfl ?_
          refine w_istoreN X44 hx (Jvm.hb hby at_36) #[.val (.int p0), .val (.int kv), .val (.ref (pk ta kv)), .val (.int (0 : Int32))] rfl  (pc' := 37) rfl ?_
          rw [hex, if_neg hj16_0, if_neg hj22_1, if_neg hj28_2] at K; exact K
        · refine w_iconst X44 hx (1 : Int32) (Jvm.hb hby at_31) (by decide) (pc' := 32) rfl ?_
          refine w_goto X44 hx (Jvm.hb hby at_32) (by decide) (pc' := 36) (by decide) ?_
          refine w_istoreN X44 hx (Jvm.hb hby at_36) #[.val (.int p0), .val (.int kv), .val (.ref (pk ta kv)), .val (.int (1 : Int32))] rfl  (pc' := 37) rfl ?_
          rw [hex, if_neg hj16_0, if_neg hj22_1, if_pos hj28_2] at K; exact K
  refine w_aloadN X44 hx (Jvm.hb hby at_37) rfl rfl (pc' := 38) rfl ?_
  refine w_callV X44 hx hZ hown (hw _ (List.mem_of_getElem? (i := 8) rfl)) (hw _ (List.mem_of_getElem? (i := 9) rfl)) (notFace_of_selects (args := #[]) (mvT hZ (hw _ (List.mem_of_getElem? (i := 11) rfl)))) (hw _ (List.mem_of_getElem? (i := 11) rfl)) (hw _ (List.mem_of_getElem? (i := 10) rfl)) (hw _ (List.mem_of_getElem? (i := 6) rfl)) (hw _ (List.mem_of_getElem? (i := 12) rfl)) (by decide) (W := 0) (rm2 l Z aw hw [] (pk ta kv) ta h0 S) e44 (by decide) (by decide) (by decide) (by decide) (own_pkE kv EE) (Jvm.hb hby at_38) (by rw [hml]; rfl) (argsL := []) (rest := []) pd_1 rfl rfl rfl (Nat.le_of_eq rfl) (pc' := 41) rfl ?_
  rintro _ T45 L45 X45 ⟨rfl, e45, rfl⟩
  show Ow p e below s _ _ _ (T45.setTop (mkF m 41 #[.val (.int p0), .val (.int kv), .val (.ref (pk ta kv)), .val (.int ex)] [(.int (isC ta (pk ta kv)))]))
  refine w_iloadN X45 hx (Jvm.hb hby at_41) rfl (pc' := 42) rfl ?_
  refine w_icmp_ne X45 hx (Jvm.hb hby at_42) (by decide) (pcT := 49) (by decide) (pcF := 45) rfl (fun q => absurd (own_fin ta II kv (hkv ▸ own_kv p0) ex hex) q) (fun _ => ?_)
  refine w_iconst X45 hx (1 : Int32) (Jvm.hb hby at_45) (by decide) (pc' := 46) rfl ?_
  refine w_goto X45 hx (Jvm.hb hby at_46) (by decide) (pc' := 50) (by decide) ?_
  exact w_zreturn X45 hx Bd.returns (Or.inr rfl) (BodyLoose.notSynchronized Bd) (Nat.le_of_ble_eq_true rfl) (Nat.le_of_ble_eq_true rfl) (Jvm.hb hby at_50) ⟨rfl, fun y hy => nomatch hy⟩
set_option maxRecDepth 65536 in
set_option maxHeartbeats 40000000 in
theorem comes_1 {Post : Tables → Env → Array Value → State → Outcome → State → Prop} (hpost : ∀ tb e args s v u, (limb_1_1.after args s (.returned v) u = true ∧ limb_1_2.after args s (.returned v) u = true ∧ True) → FrameEnd s (.returned v) u (Jvm.fieldLocs frame_1_writes args s ++ Jvm.arrayLocs frame_1_arrays args s ++ Jvm.staticLocs frame_1_statics s) 0 0 → Post tb e args s (.returned v) u) :
    ArmFor flags0 classFile x code maxLocals ret World_1 tables_1 room_1 Calls_1 rest_1 Pre_1 Post := by
  intro l hfl _ _ p e ha hc hk s m args below hf hA hF happ hP
  obtain ⟨hcalls, hrest, hpre⟩ := hP
  obtain ⟨-, -, -, hnamed, -, -, -, hat⟩ := (Spec.applies_iff hf).mp happ
  obtain ⟨hg, hn⟩ := and_e (Cond.before_iff.mp (show (Jvm.Cond.and given_1 narrow_1).before args s = true from hpre))
  obtain ⟨g1, g2⟩ := and_e hg
  obtain ⟨w0, rfl⟩ : ∃ w0 : Value, args = #[w0] := by
    have hs : args.size = 1 := by simpa [Cond.value, given_1] using g1
    obtain ⟨L⟩ := args
    match L, hs with
    | [w0], _ => exact ⟨w0, rfl⟩
  have hw := fun d (hd : d ∈ tables_1) => atoms_spec (ws := Jvm.Cond.code x code maxLocals ret :: tables_1) hat d (List.mem_cons_of_mem _ hd)
  obtain ⟨u0, v0⟩ := and_e hn
  obtain ⟨u1, v1⟩ := and_e v0
  obtain ⟨u2, v2⟩ := and_e v1
  obtain ⟨u3, v3⟩ := and_e v2
  obtain ⟨u4, v4⟩ := and_e v3
  obtain ⟨u5, v5⟩ := and_e v4
  obtain ⟨u6, v6⟩ := and_e v5
  obtain ⟨u7, v7⟩ := and_e v6
  obtain ⟨u8, v8⟩ := and_e v7
  obtain ⟨u9, v9⟩ := and_e v8
  obtain ⟨u10, v10⟩ := and_e v9
  obtain ⟨u11, v11⟩ := and_e v10
  obtain ⟨u12, v12⟩ := and_e v11
  obtain ⟨u13, v13⟩ := and_e v12
  obtain ⟨u14, v14⟩ := and_e v13
  obtain ⟨u15, v15⟩ := and_e v14
  obtain ⟨u16, v16⟩ := and_e v15
  obtain ⟨u17, v17⟩ := and_e v16
  obtain ⟨u18, v18⟩ := and_e v17
  obtain ⟨u19, v19⟩ := and_e v18
  obtain ⟨u20, v20⟩ := and_e v19
  obtain ⟨u21, v21⟩ := and_e v20
  obtain ⟨u22, v22⟩ := and_e v21
  obtain ⟨u23, v23⟩ := and_e v22
  obtain ⟨u24, v24⟩ := and_e v23
  obtain ⟨u25, v25⟩ := and_e v24
  obtain ⟨u26, v26⟩ := and_e v25
  obtain ⟨u27, v27⟩ := and_e v26
  obtain ⟨u28, v28⟩ := and_e v27
  obtain ⟨u29, v29⟩ := and_e v28
  obtain ⟨u30, v30⟩ := and_e v29
  obtain ⟨u31, v31⟩ := and_e v30
  obtain ⟨u32, v32⟩ := and_e v31
  obtain ⟨u33, v33⟩ := and_e v32
  obtain ⟨u34, v34⟩ := and_e v33
  obtain ⟨u35, v35⟩ := and_e v34
  obtain ⟨u36, v36⟩ := and_e v35
  obtain ⟨u37, v37⟩ := and_e v36
  obtain ⟨u38, v38⟩ := and_e v37
  obtain ⟨x0, sa0, se0, sf0⟩ := own_enum u0 u2 (hw _ (List.mem_of_getElem? (i := 6) rfl)) (hw _ (List.mem_of_getElem? (i := 7) rfl))
  obtain ⟨x1, sa1, se1, sf1⟩ := own_enum u18 u19 (hw _ (List.mem_of_getElem? (i := 6) rfl)) (hw _ (List.mem_of_getElem? (i := 32) rfl))
  obtain ⟨x2, sa2, se2, sf2⟩ := own_enum u14 u15 (hw _ (List.mem_of_getElem? (i := 6) rfl)) (hw _ (List.mem_of_getElem? (i := 28) rfl))
  obtain ⟨x3, sa3, se3, sf3⟩ := own_enum u8 u9 (hw _ (List.mem_of_getElem? (i := 6) rfl)) (hw _ (List.mem_of_getElem? (i := 20) rfl))
  obtain ⟨x4, sa4, se4, sf4⟩ := own_enum u32 u33 (hw _ (List.mem_of_getElem? (i := 6) rfl)) (hw _ (List.mem_of_getElem? (i := 47) rfl))
  obtain ⟨x5, sa5, se5, sf5⟩ := own_enum u30 u31 (hw _ (List.mem_of_getElem? (i := 6) rfl)) (hw _ (List.mem_of_getElem? (i := 45) rfl))
  obtain ⟨x6, sa6, se6, sf6⟩ := own_enum u24 u25 (hw _ (List.mem_of_getElem? (i := 6) rfl)) (hw _ (List.mem_of_getElem? (i := 38) rfl))
  obtain ⟨x7, sa7, se7, sf7⟩ := own_enum u12 u13 (hw _ (List.mem_of_getElem? (i := 6) rfl)) (hw _ (List.mem_of_getElem? (i := 26) rfl))
  obtain ⟨x8, sa8, se8, sf8⟩ := own_enum u16 u17 (hw _ (List.mem_of_getElem? (i := 6) rfl)) (hw _ (List.mem_of_getElem? (i := 30) rfl))
  obtain ⟨x9, sa9, se9, sf9⟩ := own_enum u34 u35 (hw _ (List.mem_of_getElem? (i := 6) rfl)) (hw _ (List.mem_of_getElem? (i := 49) rfl))
  obtain ⟨x10, sa10, se10, sf10⟩ := own_enum u1 u3 (hw _ (List.mem_of_getElem? (i := 6) rfl)) (hw _ (List.mem_of_getElem? (i := 14) rfl))
  obtain ⟨x11, sa11, se11, sf11⟩ := own_enum u4 u5 (hw _ (List.mem_of_getElem? (i := 6) rfl)) (hw _ (List.mem_of_getElem? (i := 16) rfl))
  obtain ⟨x12, sa12, se12, sf12⟩ := own_enum u6 u7 (hw _ (List.mem_of_getElem? (i := 6) rfl)) (hw _ (List.mem_of_getElem? (i := 18) rfl))
  obtain ⟨x13, sa13, se13, sf13⟩ := own_enum u36 u37 (hw _ (List.mem_of_getElem? (i := 6) rfl)) (hw _ (List.mem_of_getElem? (i := 51) rfl))
  obtain ⟨x14, sa14, se14, sf14⟩ := own_enum u10 u11 (hw _ (List.mem_of_getElem? (i := 6) rfl)) (hw _ (List.mem_of_getElem? (i := 24) rfl))
  obtain ⟨x15, sa15, se15, sf15⟩ := own_enum u22 u23 (hw _ (List.mem_of_getElem? (i := 6) rfl)) (hw _ (List.mem_of_getElem? (i := 36) rfl))
  obtain ⟨x16, sa16, se16, sf16⟩ := own_enum u28 u29 (hw _ (List.mem_of_getElem? (i := 6) rfl)) (hw _ (List.mem_of_getElem? (i := 42) rfl))
  obtain ⟨x17, sa17, se17, sf17⟩ := own_enum u26 u27 (hw _ (List.mem_of_getElem? (i := 6) rfl)) (hw _ (List.mem_of_getElem? (i := 40) rfl))
  obtain ⟨x18, sa18, se18, sf18⟩ := own_enum u38 v38 (hw _ (List.mem_of_getElem? (i := 6) rfl)) (hw _ (List.mem_of_getElem? (i := 53) rfl))
  obtain ⟨x19, sa19, se19, sf19⟩ := own_enum u20 u21 (hw _ (List.mem_of_getElem? (i := 6) rfl)) (hw _ (List.mem_of_getElem? (i := 34) rfl))
  have ne : ∀ {a b : Addr} {x y : Int32}, Fld s s.heap a "java/lang/Enum" "ordinal" "I" (.int x) → Fld s s.heap b "java/lang/Enum" "ordinal" "I" (.int y) → a = b → x = y := fun F G q => Decidable.byContradiction fun z => Fld.ne F G (fun w => z (Value.int.inj w)) q
  obtain ⟨ta, hta⟩ : ∃ ta : Nat → Addr, ta = fun i => [x0, x1, x2, x3, x4, x5, x6, x7, x8, x9, x10, x11, x12, x13, x14, x15, x16, x17, x18, x19].getD i x0 := ⟨_, rfl⟩
  have t0 : ta 0 = x0 := by rw [hta]; rfl
  have t1 : ta 1 = x1 := by rw [hta]; rfl
  have t2 : ta 2 = x2 := by rw [hta]; rfl
  have t3 : ta 3 = x3 := by rw [hta]; rfl
  have t4 : ta 4 = x4 := by rw [hta]; rfl
  have t5 : ta 5 = x5 := by rw [hta]; rfl
  have t6 : ta 6 = x6 := by rw [hta]; rfl
  have t7 : ta 7 = x7 := by rw [hta]; rfl
  have t8 : ta 8 = x8 := by rw [hta]; rfl
  have t9 : ta 9 = x9 := by rw [hta]; rfl
  have t10 : ta 10 = x10 := by rw [hta]; rfl
  have t11 : ta 11 = x11 := by rw [hta]; rfl
  have t12 : ta 12 = x12 := by rw [hta]; rfl
  have t13 : ta 13 = x13 := by rw [hta]; rfl
  have t14 : ta 14 = x14 := by rw [hta]; rfl
  have t15 : ta 15 = x15 := by rw [hta]; rfl
  have t16 : ta 16 = x16 := by rw [hta]; rfl
  have t17 : ta 17 = x17 := by rw [hta]; rfl
  have t18 : ta 18 = x18 := by rw [hta]; rfl
  have t19 : ta 19 = x19 := by rw [hta]; rfl
  have SS : Tys s s.heap ta := by unfold Tys; rw [t0, t1, t2, t3, t4, t5, t6, t7, t8, t9, t10, t11, t12, t13, t14, t15, t16, t17, t18, t19]; exact ⟨sa0, sa1, sa2, sa3, sa4, sa5, sa6, sa7, sa8, sa9, sa10, sa11, sa12, sa13, sa14, sa15, sa16, sa17, sa18, sa19⟩
  have FF : ∀ i, i < 20 → Exa s s.heap (ta i) "com/example/tagwire/tagwire/value/Type" ∧ Fld s s.heap (ta i) "java/lang/Enum" "ordinal" "I" (.int (Int32.ofNat i)) := by
    intro i hi
    have : i = 0 ∨ i = 1 ∨ i = 2 ∨ i = 3 ∨ i = 4 ∨ i = 5 ∨ i = 6 ∨ i = 7 ∨ i = 8 ∨ i = 9 ∨ i = 10 ∨ i = 11 ∨ i = 12 ∨ i = 13 ∨ i = 14 ∨ i = 15 ∨ i = 16 ∨ i = 17 ∨ i = 18 ∨ i = 19 := by omega
    rcases this with rfl | rfl | rfl | rfl | rfl | rfl | rfl | rfl | rfl | rfl | rfl | rfl | rfl | rfl | rfl | rfl | rfl | rfl | rfl | rfl
    · rw [t0]; exact ⟨se0, sf0⟩
    · rw [t1]; exact ⟨se1, sf1⟩
    · rw [t2]; exact ⟨se2, sf2⟩
    · rw [t3]; exact ⟨se3, sf3⟩
    · rw [t4]; exact ⟨se4, sf4⟩
    · rw [t5]; exact ⟨se5, sf5⟩
    · rw [t6]; exact ⟨se6, sf6⟩
    · rw [t7]; exact ⟨se7, sf7⟩
    · rw [t8]; exact ⟨se8, sf8⟩
    · rw [t9]; exact ⟨se9, sf9⟩
    · rw [t10]; exact ⟨se10, sf10⟩
    · rw [t11]; exact ⟨se11, sf11⟩
    · rw [t12]; exact ⟨se12, sf12⟩
    · rw [t13]; exact ⟨se13, sf13⟩
    · rw [t14]; exact ⟨se14, sf14⟩
    · rw [t15]; exact ⟨se15, sf15⟩
    · rw [t16]; exact ⟨se16, sf16⟩
    · rw [t17]; exact ⟨se17, sf17⟩
    · rw [t18]; exact ⟨se18, sf18⟩
    · rw [t19]; exact ⟨se19, sf19⟩
  have II : ∀ i j, i < 20 → j < 20 → ta i = ta j → i = j := fun i j hi hj q => by
    have r := congrArg Int32.toInt (ne (FF i hi).2 (FF j hj).2 q)
    rw [Int32.toInt_ofNat_of_lt (by omega), Int32.toInt_ofNat_of_lt (by omega)] at r; omega
  obtain ⟨i0, ei0⟩ := is_v g2
  obtain rfl : w0 = (.int i0) := Option.some.inj ei0
  obtain ⟨n, o, h1, h2, h3, _, L, rfl, ⟨rfl, N⟩, hq⟩ := rm0 l s _ hw tables_1 i0 ta s.heap s.heap.size (Nat.le_refl _) SS (fun i hi => (FF i hi).1) II p e ha hc hk s m _ below hf ((Spec.applies_iff_loose hf).mp happ).1 ⟨rfl, State.Warmed39.refl s, rfl⟩ trivial
  refine ⟨n, _, h1, h2, h3, hpost _ _ _ _ _ _ ⟨Cond.after_iff.mpr rfl, Cond.after_iff.mpr (eq_i res_at (Term.int_eval (1)) rfl), trivial⟩ ⟨hq.1, hq.2.1, (hq.2.2.sift fun y hy => Or.inr (N y hy)).mono (by decide) (by decide)⟩⟩
theorem main_1_1 : Claimed_1_1 := comes_1 fun _ _ _ _ _ _ h hF => ⟨h.1, hF⟩
theorem main_1_2 : Claimed_1_2 := comes_1 fun _ _ _ _ _ _ h hF => ⟨h.2.1, hF⟩
end Jvm.Pilot.@@N@@
namespace Jvm.Pilot.@@N@@
open Jvm Jvm.ClassFile Sem Op Lib Jvm.Free Jvm.Stand Jvm.Pilot.@@N@@.Jvm.D
/-! MADE BY PROGRAM (witnessworld.py) out of the Statement's table words and the real class files: 12 classes; the members and pool entries that the words name. The judged class is class 1, her method 2. -/
namespace start1
open Jvm.ClassFile
def u (s : String) : CpInfo := .utf8 (stringToUtf16 s)
/-- a pool by its gaps: so many unusable entries, then the entry; so many at the end -/
def gap : Nat → List CpInfo → List CpInfo
  | 0, r => r
  | n + 1, r => .unusable :: gap n r
def poolList (es : List (Nat × CpInfo)) (last : Nat) : List CpInfo := es.foldr (fun e r => gap e.1 (e.2 :: r)) (gap last [])
def pool (es : List (Nat × CpInfo)) (last : Nat) : Array CpInfo := ⟨poolList es last⟩
def fileOf (pool : Array CpInfo) (this : Nat) (attrs : Array Attribute := #[]) (ms : Array MethodInfo := #[]) (fl : Nat := 33) (sup : Nat := 0) (ifs : Array Nat := #[]) (fds : Array FieldInfo := #[]) : ClassFile where
  minorVersion := 0
  majorVersion := 65
  constantPool := pool
  accessFlags := fl
  thisClass := this
  superClass := sup
  interfaces := ifs
  fields := fds
  methods := ms
  attributes := attrs
def plain (name : String) (sup : Option ClassId) : Class where
  name := name
  kind := .ordinary
  loader := none
  accessFlags := 33
  super := sup
  interfaces := #[]
  cf := none
  fields := #[]
  methods := #[]
  instanceTypes := #[]
  staticTypes := #[]
  resolved := #[]
  callSites := []
  init := .initialized
  statics := none
  mirror := none

def pool0 : Array CpInfo := pool [(5, u "<init>"), (0, u "()V"), (1, .class_ 10), (1, u "java/lang/Object")] 113

def k0m0 : Method := { name := "<init>", desc := "()V", sig := { parameters := [], returnType := none }, accessFlags := 1, code := none }
/-- java/lang/Object -/
def k0 : Class := { plain "java/lang/Object" none with
  accessFlags := 33
  interfaces := #[]
  cf := some (fileOf pool0 8 #[] #[{ accessFlags := 1, nameIndex := 5, descriptorIndex := 6, attributes := #[] }] 33 0 #[] #[])
  fields := #[]
  methods := #[k0m0]
  instanceTypes := #[]
  staticTypes := #[]
  resolved := Array.replicate 124 none
  statics := none }

def pool1 : Array CpInfo := pool [(2, .class_ 4), (1, u "java/lang/Object"), (0, u "<init>"), (0, u "()V"), (0, .fieldref 8 9), (0, .class_ 10), (0, .nameAndType 11 12), (0, u "com/example/tagwire/tagwire/value/Type"), (0, u "I8"), (0, u "Lcom/example/tagwire/tagwire/value/Type;"), (0, .fieldref 8 14), (0, .nameAndType 15 12), (0, u "I16"), (0, .fieldref 8 17), (0, .nameAndType 18 12), (0, u "I32"), (0, .fieldref 8 20), (0, .nameAndType 21 12), (0, u "I64"), (0, .fieldref 8 23), (0, .nameAndType 24 12), (0, u "U8"), (0, .fieldref 8 26), (0, .nameAndType 27 12), (0, u "U16"), (0, .fieldref 8 29), (0, .nameAndType 30 12), (0, u "U32"), (0, .fieldref 8 32), (0, .nameAndType 33 12), (0, u "U64"), (0, .fieldref 8 35), (0, .nameAndType 36 12), (0, u "CHAR"), (0, .fieldref 8 38), (0, .nameAndType 39 12), (0, u "STRING"), (0, .fieldref 8 41), (0, .nameAndType 42 12), (0, u "OBJECT"), (0, .fieldref 8 44), (0, .nameAndType 45 12), (0, u "LIST"), (0, .fieldref 8 47), (0, .nameAndType 48 12), (0, u "TUPLE"), (0, .fieldref 8 50), (0, .nameAndType 51 12), (0, u "BYTES"), (0, .fieldref 8 53), (0, .nameAndType 54 12), (0, u "F32"), (0, .fieldref 8 56), (0, .nameAndType 57 12), (0, u "F64"), (0, .fieldref 8 59), (0, .nameAndType 60 12), (0, u "NULL"), (0, .fieldref 8 62), (0, .nameAndType 63 12), (0, u "BOOL"), (0, .fieldref 8 65), (0, .nameAndType 66 12), (0, u "UUID"), (0, .fieldref 8 68), (0, .nameAndType 69 12), (0, u "TIMESTAMP"), (0, .integer 2147483647), (0, .methodref 72 73), (0, .class_ 74), (0, .nameAndType 75 76), (0, u "com/example/tagwire/tagwire/value/TypeIsContainerPinLaw"), (0, u "pick"), (0, u "(I)Lcom/example/tagwire/tagwire/value/Type;"), (0, .methodref 8 78), (0, .nameAndType 79 80), (0, u "isContainer"), (0, u "()Z"), (3, u "law"), (0, u "(I)Z")] 2

def k1m0 : Method := { name := "<init>", desc := "()V", sig := { parameters := [], returnType := none }, accessFlags := 1, code := none }
def k1c1 : Code := { maxStack := 2, maxLocals := 1, code := method_2_code, exceptionTable := #[], attributes := #[] }
def k1m1 : Method := { name := "pick", desc := "(I)Lcom/example/tagwire/tagwire/value/Type;", sig := { parameters := [.int], returnType := some (.object "com/example/tagwire/tagwire/value/Type") }, accessFlags := 10, code := some k1c1 }
def k1c2 : Code := { maxStack := 2, maxLocals := 4, code := code, exceptionTable := #[], attributes := #[] }
def k1m2 : Method := { name := "law", desc := "(I)Z", sig := { parameters := [.int], returnType := some .boolean }, accessFlags := 9, code := some k1c2 }
/-- com/example/tagwire/tagwire/value/TypeIsContainerPinLaw -/
def k1 : Class := { plain "com/example/tagwire/tagwire/value/TypeIsContainerPinLaw" (some 0) with
  accessFlags := 49
  interfaces := #[]
  cf := some (fileOf pool1 72 #[] #[{ accessFlags := 1, nameIndex := 5, descriptorIndex := 6, attributes := #[] }, { accessFlags := 10, nameIndex := 75, descriptorIndex := 76, attributes := #[] }, { accessFlags := 9, nameIndex := 84, descriptorIndex := 85, attributes := #[] }] 49 2 #[] #[])
  fields := #[]
  methods := #[k1m0, k1m1, k1m2]
  instanceTypes := #[]
  staticTypes := #[]
  resolved := Array.replicate 88 none
  statics := none }

def pool2 : Array CpInfo := pool [(1, .class_ 2), (0, u "java/lang/constant/Constable"), (0, .class_ 4), (0, u "java/lang/Object")] 6

/-- java/lang/constant/Constable -/
def k2 : Class := { plain "java/lang/constant/Constable" (some 0) with
  accessFlags := 1537
  interfaces := #[]
  cf := some (fileOf pool2 1 #[] #[] 1537 3 #[] #[])
  fields := #[]
  methods := #[]
  instanceTypes := #[]
  staticTypes := #[]
  resolved := Array.replicate 11 none
  statics := none }

def pool3 : Array CpInfo := pool [(1, .class_ 2), (0, u "java/lang/Comparable"), (0, .class_ 4), (0, u "java/lang/Object")] 7

/-- java/lang/Comparable -/
def k3 : Class := { plain "java/lang/Comparable" (some 0) with
  accessFlags := 1537
  interfaces := #[]
  cf := some (fileOf pool3 1 #[] #[] 1537 3 #[] #[])
  fields := #[]
  methods := #[]
  instanceTypes := #[]
  staticTypes := #[]
  resolved := Array.replicate 12 none
  statics := none }

def pool4 : Array CpInfo := pool [(1, .class_ 2), (0, u "java/io/Serializable"), (0, .class_ 4), (0, u "java/lang/Object")] 2

/-- java/io/Serializable -/
def k4 : Class := { plain "java/io/Serializable" (some 0) with
  accessFlags := 1537
  interfaces := #[]
  cf := some (fileOf pool4 1 #[] #[] 1537 3 #[] #[])
  fields := #[]
  methods := #[]
  instanceTypes := #[]
  staticTypes := #[]
  resolved := Array.replicate 7 none
  statics := none }

def pool5 : Array CpInfo := pool [(2, .class_ 4), (1, u "java/lang/Enum"), (0, u "name"), (0, u "Ljava/lang/String;"), (2, u "ordinal"), (0, u "I"), (1, .class_ 14), (1, u "java/lang/Object"), (4, u "hash"), (86, .class_ 108), (1, u "java/lang/Enum$EnumDesc"), (2, .class_ 112), (0, u "java/lang/constant/Constable"), (0, .class_ 114), (0, u "java/lang/Comparable"), (0, .class_ 116), (0, u "java/io/Serializable")] 87

/-- java/lang/Enum -/
def k5 : Class := { plain "java/lang/Enum" (some 0) with
  accessFlags := 1057
  interfaces := #[2, 3, 4]
  cf := some (fileOf pool5 2 #[.nestMembers #[106]] #[] 1057 12 #[111, 113, 115] #[{ accessFlags := 18, nameIndex := 5, descriptorIndex := 6, attributes := #[] }, { accessFlags := 18, nameIndex := 9, descriptorIndex := 10, attributes := #[] }, { accessFlags := 2, nameIndex := 19, descriptorIndex := 10, attributes := #[] }])
  fields := #[{ name := "name", type := (.object "java/lang/String"), accessFlags := 18, slot := 0, constantValue := 0 }, { name := "ordinal", type := .int, accessFlags := 18, slot := 1, constantValue := 0 }, { name := "hash", type := .int, accessFlags := 2, slot := 2, constantValue := 0 }]
  methods := #[]
  instanceTypes := #[(.object "java/lang/String"), .int, .int]
  staticTypes := #[]
  resolved := Array.replicate 204 none
  statics := none }

def pool6 : Array CpInfo := pool [(1, .class_ 2), (0, u "com/example/tagwire/tagwire/value/Type"), (2, u "I8"), (0, u "Lcom/example/tagwire/tagwire/value/Type;"), (2, u "I16"), (2, u "I32"), (2, u "I64"), (2, u "U8"), (2, u "U16"), (2, u "U32"), (2, u "U64"), (2, u "CHAR"), (2, u "STRING"), (0, .fieldref 1 35), (0, .nameAndType 36 6), (0, u "OBJECT"), (0, .fieldref 1 38), (0, .nameAndType 39 6), (0, u "LIST"), (0, .fieldref 1 41), (0, .nameAndType 42 6), (0, u "TUPLE"), (2, u "BYTES"), (2, u "F32"), (2, u "F64"), (2, u "NULL"), (2, u "BOOL"), (2, u "UUID"), (2, u "TIMESTAMP"), (2, u "$VALUES"), (0, u "[Lcom/example/tagwire/tagwire/value/Type;"), (6, .class_ 76), (1, u "java/lang/Enum"), (11, u "tag"), (0, u "I"), (2, u "longTag"), (2, u "typeName"), (0, u "Ljava/lang/String;"), (2, u "numberBytes"), (2, u "integer"), (0, u "Z"), (2, u "signed"), (2, u "minimum"), (0, u "J"), (2, u "maximum"), (10, u "BY_TAG"), (13, u "()Z"), (105, u "isContainer")] 7

def k6c0 : Code := { maxStack := 2, maxLocals := 1, code := prog_111_method_15_code, exceptionTable := #[], attributes := #[] }
def k6m0 : Method := { name := "isContainer", desc := "()Z", sig := { parameters := [], returnType := some .boolean }, accessFlags := 1, code := some k6c0 }
/-- com/example/tagwire/tagwire/value/Type -/
def k6 : Class := { plain "com/example/tagwire/tagwire/value/Type" (some 5) with
  accessFlags := 16433
  interfaces := #[]
  cf := some (fileOf pool6 1 #[] #[{ accessFlags := 1, nameIndex := 244, descriptorIndex := 138, attributes := #[] }] 16433 74 #[] #[{ accessFlags := 16409, nameIndex := 5, descriptorIndex := 6, attributes := #[] }, { accessFlags := 16409, nameIndex := 9, descriptorIndex := 6, attributes := #[] }, { accessFlags := 16409, nameIndex := 12, descriptorIndex := 6, attributes := #[] }, { accessFlags := 16409, nameIndex := 15, descriptorIndex := 6, attributes := #[] }, { accessFlags := 16409, nameIndex := 18, descriptorIndex := 6, attributes := #[] }, { accessFlags := 16409, nameIndex := 21, descriptorIndex := 6, attributes := #[] }, { accessFlags := 16409, nameIndex := 24, descriptorIndex := 6, attributes := #[] }, { accessFlags := 16409, nameIndex := 27, descriptorIndex := 6, attributes := #[] }, { accessFlags := 16409, nameIndex := 30, descriptorIndex := 6, attributes := #[] }, { accessFlags := 16409, nameIndex := 33, descriptorIndex := 6, attributes := #[] }, { accessFlags := 16409, nameIndex := 36, descriptorIndex := 6, attributes := #[] }, { accessFlags := 16409, nameIndex := 39, descriptorIndex := 6, attributes := #[] }, { accessFlags := 16409, nameIndex := 42, descriptorIndex := 6, attributes := #[] }, { accessFlags := 16409, nameIndex := 45, descriptorIndex := 6, attributes := #[] }, { accessFlags := 16409, nameIndex := 48, descriptorIndex := 6, attributes := #[] }, { accessFlags := 16409, nameIndex := 51, descriptorIndex := 6, attributes := #[] }, { accessFlags := 16409, nameIndex := 54, descriptorIndex := 6, attributes := #[] }, { accessFlags := 16409, nameIndex := 57, descriptorIndex := 6, attributes := #[] }, { accessFlags := 16409, nameIndex := 60, descriptorIndex := 6, attributes := #[] }, { accessFlags := 16409, nameIndex := 63, descriptorIndex := 6, attributes := #[] }, { accessFlags := 26, nameIndex := 124, descriptorIndex := 67, attributes := #[] }, { accessFlags := 18, nameIndex := 88, descriptorIndex := 89, attributes := #[] }, { accessFlags := 18, nameIndex := 92, descriptorIndex := 89, attributes := #[] }, { accessFlags := 18, nameIndex := 95, descriptorIndex := 96, attributes := #[] }, { accessFlags := 18, nameIndex := 99, descriptorIndex := 89, attributes := #[] }, { accessFlags := 18, nameIndex := 102, descriptorIndex := 103, attributes := #[] }, { accessFlags := 18, nameIndex := 106, descriptorIndex := 103, attributes := #[] }, { accessFlags := 18, nameIndex := 109, descriptorIndex := 110, attributes := #[] }, { accessFlags := 18, nameIndex := 113, descriptorIndex := 110, attributes := #[] }, { accessFlags := 4122, nameIndex := 66, descriptorIndex := 67, attributes := #[] }])
  fields := #[{ name := "I8", type := (.object "com/example/tagwire/tagwire/value/Type"), accessFlags := 16409, slot := 0, constantValue := 0 }, { name := "I16", type := (.object "com/example/tagwire/tagwire/value/Type"), accessFlags := 16409, slot := 1, constantValue := 0 }, { name := "I32", type := (.object "com/example/tagwire/tagwire/value/Type"), accessFlags := 16409, slot := 2, constantValue := 0 }, { name := "I64", type := (.object "com/example/tagwire/tagwire/value/Type"), accessFlags := 16409, slot := 3, constantValue := 0 }, { name := "U8", type := (.object "com/example/tagwire/tagwire/value/Type"), accessFlags := 16409, slot := 4, constantValue := 0 }, { name := "U16", type := (.object "com/example/tagwire/tagwire/value/Type"), accessFlags := 16409, slot := 5, constantValue := 0 }, { name := "U32", type := (.object "com/example/tagwire/tagwire/value/Type"), accessFlags := 16409, slot := 6, constantValue := 0 }, { name := "U64", type := (.object "com/example/tagwire/tagwire/value/Type"), accessFlags := 16409, slot := 7, constantValue := 0 }, { name := "CHAR", type := (.object "com/example/tagwire/tagwire/value/Type"), accessFlags := 16409, slot := 8, constantValue := 0 }, { name := "STRING", type := (.object "com/example/tagwire/tagwire/value/Type"), accessFlags := 16409, slot := 9, constantValue := 0 }, { name := "OBJECT", type := (.object "com/example/tagwire/tagwire/value/Type"), accessFlags := 16409, slot := 10, constantValue := 0 }, { name := "LIST", type := (.object "com/example/tagwire/tagwire/value/Type"), accessFlags := 16409, slot := 11, constantValue := 0 }, { name := "TUPLE", type := (.object "com/example/tagwire/tagwire/value/Type"), accessFlags := 16409, slot := 12, constantValue := 0 }, { name := "BYTES", type := (.object "com/example/tagwire/tagwire/value/Type"), accessFlags := 16409, slot := 13, constantValue := 0 }, { name := "F32", type := (.object "com/example/tagwire/tagwire/value/Type"), accessFlags := 16409, slot := 14, constantValue := 0 }, { name := "F64", type := (.object "com/example/tagwire/tagwire/value/Type"), accessFlags := 16409, slot := 15, constantValue := 0 }, { name := "NULL", type := (.object "com/example/tagwire/tagwire/value/Type"), accessFlags := 16409, slot := 16, constantValue := 0 }, { name := "BOOL", type := (.object "com/example/tagwire/tagwire/value/Type"), accessFlags := 16409, slot := 17, constantValue := 0 }, { name := "UUID", type := (.object "com/example/tagwire/tagwire/value/Type"), accessFlags := 16409, slot := 18, constantValue := 0 }, { name := "TIMESTAMP", type := (.object "com/example/tagwire/tagwire/value/Type"), accessFlags := 16409, slot := 19, constantValue := 0 }, { name := "BY_TAG", type := (.array (.object "com/example/tagwire/tagwire/value/Type")), accessFlags := 26, slot := 20, constantValue := 0 }, { name := "tag", type := .int, accessFlags := 18, slot := 3, constantValue := 0 }, { name := "longTag", type := .int, accessFlags := 18, slot := 4, constantValue := 0 }, { name := "typeName", type := (.object "java/lang/String"), accessFlags := 18, slot := 5, constantValue := 0 }, { name := "numberBytes", type := .int, accessFlags := 18, slot := 6, constantValue := 0 }, { name := "integer", type := .boolean, accessFlags := 18, slot := 7, constantValue := 0 }, { name := "signed", type := .boolean, accessFlags := 18, slot := 8, constantValue := 0 }, { name := "minimum", type := .long, accessFlags := 18, slot := 9, constantValue := 0 }, { name := "maximum", type := .long, accessFlags := 18, slot := 10, constantValue := 0 }, { name := "$VALUES", type := (.array (.object "com/example/tagwire/tagwire/value/Type")), accessFlags := 4122, slot := 21, constantValue := 0 }]
  methods := #[k6m0]
  instanceTypes := #[(.object "java/lang/String"), .int, .int, .int, .int, (.object "java/lang/String"), .int, .boolean, .boolean, .long, .long]
  staticTypes := #[(.object "com/example/tagwire/tagwire/value/Type"), (.object "com/example/tagwire/tagwire/value/Type"), (.object "com/example/tagwire/tagwire/value/Type"), (.object "com/example/tagwire/tagwire/value/Type"), (.object "com/example/tagwire/tagwire/value/Type"), (.object "com/example/tagwire/tagwire/value/Type"), (.object "com/example/tagwire/tagwire/value/Type"), (.object "com/example/tagwire/tagwire/value/Type"), (.object "com/example/tagwire/tagwire/value/Type"), (.object "com/example/tagwire/tagwire/value/Type"), (.object "com/example/tagwire/tagwire/value/Type"), (.object "com/example/tagwire/tagwire/value/Type"), (.object "com/example/tagwire/tagwire/value/Type"), (.object "com/example/tagwire/tagwire/value/Type"), (.object "com/example/tagwire/tagwire/value/Type"), (.object "com/example/tagwire/tagwire/value/Type"), (.object "com/example/tagwire/tagwire/value/Type"), (.object "com/example/tagwire/tagwire/value/Type"), (.object "com/example/tagwire/tagwire/value/Type"), (.object "com/example/tagwire/tagwire/value/Type"), (.array (.object "com/example/tagwire/tagwire/value/Type")), (.array (.object "com/example/tagwire/tagwire/value/Type"))]
  resolved := Array.replicate 252 none
  statics := some 0 }

def pool7 : Array CpInfo := pool [(1, u "java/lang/Cloneable"), (0, .class_ 1), (0, u "java/lang/Object"), (0, .class_ 3)] 3

/-- java/lang/Cloneable -/
def k7 : Class := { plain "java/lang/Cloneable" (some 0) with
  accessFlags := 1537
  interfaces := #[]
  cf := some (fileOf pool7 2 #[] #[] 1537 4 #[] #[])
  fields := #[]
  methods := #[]
  instanceTypes := #[]
  staticTypes := #[]
  resolved := Array.replicate 8 none
  statics := none }

/-- the primitive byte -/
def k8 : Class := { plain "byte" none with kind := .primitive 'B', accessFlags := 0x411 }
/-- [B -/
def k9 : Class := { plain "[B" (some 0) with kind := .array 8 .byte, interfaces := #[7, 4], accessFlags := 1041 }

/-- the primitive int -/
def k10 : Class := { plain "int" none with kind := .primitive 'I', accessFlags := 0x411 }
/-- [I -/
def k11 : Class := { plain "[I" (some 0) with kind := .array 10 .int, interfaces := #[7, 4], accessFlags := 1041 }

def heap : Heap := #[{ cls := 6, slots := #[.ref 1, .ref 10, .ref 8, .ref 5, .ref 17, .ref 16, .ref 13, .ref 7, .ref 9, .ref 18, .ref 2, .ref 3, .ref 4, .ref 19, .ref 6, .ref 12, .ref 15, .ref 14, .ref 20, .ref 11, .null, .null], vm := .statics 6 },
  { cls := 6, slots := #[.null, .int 0, .int 0, .int 0, .int 0, .null, .int 0, .int 0, .int 0, .long 0, .long 0], vm := .none },
  { cls := 6, slots := #[.null, .int 10, .int 0, .int 0, .int 0, .null, .int 0, .int 0, .int 0, .long 0, .long 0], vm := .none },
  { cls := 6, slots := #[.null, .int 11, .int 0, .int 0, .int 0, .null, .int 0, .int 0, .int 0, .long 0, .long 0], vm := .none },
  { cls := 6, slots := #[.null, .int 12, .int 0, .int 0, .int 0, .null, .int 0, .int 0, .int 0, .long 0, .long 0], vm := .none },
  { cls := 6, slots := #[.null, .int 3, .int 0, .int 0, .int 0, .null, .int 0, .int 0, .int 0, .long 0, .long 0], vm := .none },
  { cls := 6, slots := #[.null, .int 14, .int 0, .int 0, .int 0, .null, .int 0, .int 0, .int 0, .long 0, .long 0], vm := .none },
  { cls := 6, slots := #[.null, .int 7, .int 0, .int 0, .int 0, .null, .int 0, .int 0, .int 0, .long 0, .long 0], vm := .none },
  { cls := 6, slots := #[.null, .int 2, .int 0, .int 0, .int 0, .null, .int 0, .int 0, .int 0, .long 0, .long 0], vm := .none },
  { cls := 6, slots := #[.null, .int 8, .int 0, .int 0, .int 0, .null, .int 0, .int 0, .int 0, .long 0, .long 0], vm := .none },
  { cls := 6, slots := #[.null, .int 1, .int 0, .int 0, .int 0, .null, .int 0, .int 0, .int 0, .long 0, .long 0], vm := .none },
  { cls := 6, slots := #[.null, .int 19, .int 0, .int 0, .int 0, .null, .int 0, .int 0, .int 0, .long 0, .long 0], vm := .none },
  { cls := 6, slots := #[.null, .int 15, .int 0, .int 0, .int 0, .null, .int 0, .int 0, .int 0, .long 0, .long 0], vm := .none },
  { cls := 6, slots := #[.null, .int 6, .int 0, .int 0, .int 0, .null, .int 0, .int 0, .int 0, .long 0, .long 0], vm := .none },
  { cls := 6, slots := #[.null, .int 17, .int 0, .int 0, .int 0, .null, .int 0, .int 0, .int 0, .long 0, .long 0], vm := .none },
  { cls := 6, slots := #[.null, .int 16, .int 0, .int 0, .int 0, .null, .int 0, .int 0, .int 0, .long 0, .long 0], vm := .none },
  { cls := 6, slots := #[.null, .int 5, .int 0, .int 0, .int 0, .null, .int 0, .int 0, .int 0, .long 0, .long 0], vm := .none },
  { cls := 6, slots := #[.null, .int 4, .int 0, .int 0, .int 0, .null, .int 0, .int 0, .int 0, .long 0, .long 0], vm := .none },
  { cls := 6, slots := #[.null, .int 9, .int 0, .int 0, .int 0, .null, .int 0, .int 0, .int 0, .long 0, .long 0], vm := .none },
  { cls := 6, slots := #[.null, .int 13, .int 0, .int 0, .int 0, .null, .int 0, .int 0, .int 0, .long 0, .long 0], vm := .none },
  { cls := 6, slots := #[.null, .int 18, .int 0, .int 0, .int 0, .null, .int 0, .int 0, .int 0, .long 0, .long 0], vm := .none }]
def classes : Array Class := #[k0, k1, k2, k3, k4, k5, k6, k7, k8, k9, k10, k11]
def interned : List (Array UInt16 × Addr) := []
def slotsUsed : Nat := 242
def theMethod : MethodId := ⟨1, 2⟩
def args0 : Array Value := #[.int 5]
def aboutOver (below : List Frame) : State where
  vm := { classes := classes, interned := interned.toArray }
  heap := heap
  slotsUsed := slotsUsed
  threads := #[{ frames := .invoking theMethod args0 :: below }]
def below0 : List Frame := [.native { method := ⟨0, 0⟩, args := #[] }]
def about1 : State := aboutOver below0
def p0 : Program := .bare "" "" ""
def e0 : Env := launch0.env 0 0 0
theorem w_frames : about1.frames = Frame.invoking theMethod args0 :: below0 := rfl
set_option maxRecDepth 65536 in
theorem w_args : argsFit about1.vm theMethod args0 = true := by decide +kernel
set_option maxRecDepth 65536 in
theorem w_heap : heapFits about1 = true := by decide +kernel
set_option maxRecDepth 65536 in
theorem w_runnable : about1.curStatus? = some .runnable := by decide +kernel
set_option maxRecDepth 65536 in
theorem w_alone : about1.alone = true := by decide +kernel
set_option maxRecDepth 65536 in
theorem w_named : about1.methodNamed? x = some theMethod := by decide +kernel
set_option maxRecDepth 65536 in
theorem w_hears : about1.hears theMethod below0 = true := by decide +kernel
set_option maxRecDepth 65536 in
theorem w_ripe : about1.ripe theMethod args0 below0 = true := by decide +kernel
theorem w_running : about1.status = .running := rfl
set_option maxRecDepth 65536 in
theorem w_room : about1.hasRoom e0.platform room_1 = true :=
  launch0.hasRoom_least _ room_1 (by decide +kernel) (by decide +kernel) (by decide +kernel) (by decide +kernel) (by decide +kernel) (by decide +kernel)
theorem allAtoms_all (ts : List Jvm.Cond) (a : Array Jvm.Value) (st : Jvm.State) : (allAtoms ts).before a st = ts.all (fun c => c.before a st) := by
  induction ts with
  | nil => rfl
  | cons c t ih =>
    show (Jvm.Cond.and c (allAtoms t)).before a st = _
    rw [Jvm.Cond.before_and, ih, List.all_cons]
def words1 : List Jvm.Cond := Jvm.Cond.code x code maxLocals ret :: tables_1
/-- a 'code' word, met by the world's own term for the bytes: nothing is compared byte by byte -/
theorem code_word {y : MethodName} {bytes : ByteArray} {mx : Nat} {rt : Option FieldType} {a : Array Value} {s : State} {m : MethodId} {meth : Method} {c : Code} (h1 : s.methodNamed? y = some m) (h2 : s.vm.method? m = some meth) (h3 : meth.code = some c) (h4 : c.code = bytes)
    (h5 : (c.maxLocals == mx && c.exceptionTable.isEmpty && decide (c.maxStack ≤ mostOperands) && decide (meth.sig.returnType = rt) && !meth.locks && decide (parseMethodDescriptor y.desc = some meth.sig)) = true) : (Jvm.Cond.code y bytes mx rt).before a s = true := by
  simp only [Bool.and_eq_true, beq_iff_eq, Bool.not_eq_true', decide_eq_true_eq] at h5
  obtain ⟨⟨⟨⟨⟨g1, g2⟩, g3⟩, g4⟩, g5⟩, g6⟩ := h5
  simp [Cond.before, Cond.holds, Cond.value, h1, h2, h3, h4, g1, g2, g3, g4, g5, g6]
def isCode : Jvm.Cond → Bool
  | .code _ _ _ _ => true
  | _ => false
theorem all_split {L : List Jvm.Cond} {P : Jvm.Cond → Bool} (h1 : L.all (fun c => isCode c || P c) = true) (h2 : ∀ c ∈ L.filter isCode, P c = true) : L.all P = true := by
  refine List.all_eq_true.mpr fun c hc => ?_
  have h := List.all_eq_true.mp h1 c hc
  rcases Bool.eq_false_or_eq_true (isCode c) with hi | hi
  · exact h2 c (List.mem_filter.mpr ⟨hc, hi⟩)
  · simpa [hi] using h
set_option maxRecDepth 65536 in
theorem w_c0 : (Jvm.Cond.code x code maxLocals ret).before args0 about1 = true := code_word (m := ⟨1, 2⟩) (meth := k1m2) (c := k1c2) (by decide +kernel) rfl rfl rfl (by decide +kernel)
set_option maxRecDepth 65536 in
theorem w_c1 : (Jvm.Cond.code ({ cls := "com/example/tagwire/tagwire/value/TypeIsContainerPinLaw", name := "pick", desc := "(I)Lcom/example/tagwire/tagwire/value/Type;" } : Jvm.MethodName) method_2_code (1 : Nat) (Option.some (Jvm.ClassFile.FieldType.object "com/example/tagwire/tagwire/value/Type"))).before args0 about1 = true := code_word (m := ⟨1, 1⟩) (meth := k1m1) (c := k1c1) (by decide +kernel) rfl rfl rfl (by decide +kernel)
set_option maxRecDepth 65536 in
theorem w_c2 : (Jvm.Cond.code ({ cls := "com/example/tagwire/tagwire/value/Type", name := "isContainer", desc := "()Z" } : Jvm.MethodName) prog_111_method_15_code (1 : Nat) (Option.some Jvm.ClassFile.FieldType.boolean)).before args0 about1 = true := code_word (m := ⟨6, 0⟩) (meth := k6m0) (c := k6c0) (by decide +kernel) rfl rfl rfl (by decide +kernel)
def codes1 : List Jvm.Cond := [Jvm.Cond.code x code maxLocals ret, Jvm.Cond.code ({ cls := "com/example/tagwire/tagwire/value/TypeIsContainerPinLaw", name := "pick", desc := "(I)Lcom/example/tagwire/tagwire/value/Type;" } : Jvm.MethodName) method_2_code (1 : Nat) (Option.some (Jvm.ClassFile.FieldType.object "com/example/tagwire/tagwire/value/Type")), Jvm.Cond.code ({ cls := "com/example/tagwire/tagwire/value/Type", name := "isContainer", desc := "()Z" } : Jvm.MethodName) prog_111_method_15_code (1 : Nat) (Option.some Jvm.ClassFile.FieldType.boolean)]
set_option maxRecDepth 65536 in
theorem codes_eq : words1.filter isCode = codes1 := rfl
theorem w_codes : ∀ c ∈ words1.filter isCode, c.before args0 about1 = true := by
  rw [codes_eq]
  intro c hc
  simp only [codes1, List.mem_cons, List.not_mem_nil, or_false] at hc
  rcases hc with rfl | rfl | rfl
  · exact w_c0
  · exact w_c1
  · exact w_c2
set_option maxRecDepth 65536 in
theorem w_t1 : (words1.take 24).all (fun c => isCode c || c.before args0 about1) = true := by decide +kernel
set_option maxRecDepth 65536 in
theorem w_t2 : ((words1.drop 24).take 24).all (fun c => isCode c || c.before args0 about1) = true := by decide +kernel
set_option maxRecDepth 65536 in
theorem w_t3 : ((words1.drop 24).drop 24).all (fun c => isCode c || c.before args0 about1) = true := by decide +kernel
theorem w_tables : (allAtoms (Jvm.Cond.code x code maxLocals ret :: tables_1)).before args0 about1 = true := by
  rw [allAtoms_all]
  show words1.all (fun c => c.before args0 about1) = true
  refine all_split ?_ w_codes
  rw [← List.take_append_drop 24 words1, List.all_append, w_t1, ← List.take_append_drop 24 (words1.drop 24), List.all_append, w_t2, w_t3]
  rfl
set_option maxRecDepth 65536 in
theorem w_case : (Jvm.Cond.and given_1 narrow_1).before args0 about1 = true := by decide +kernel
theorem w_applies : (headSpec (Jvm.Cond.code x code maxLocals ret :: tables_1) room_1).applies x e0.platform about1 = true :=
  (Spec.applies_iff w_frames).mpr ⟨w_running, w_runnable, w_alone, w_named, w_hears, w_ripe, w_room, w_tables⟩
theorem atStart : AtStart classFile x code maxLocals ret World_1 tables_1 room_1 Calls_1 rest_1 Pre_1 launch0 p0 e0 about1 theMethod args0 below0 :=
  ⟨lists_1, trivial, launch0.admits_env _ _ _, launch0.least_env, fairChoices_fair.cas, fairChoices_fair.clock, w_frames, w_args, w_heap, w_applies, trivial, trivial, w_case⟩
end start1
theorem witness_1 : WitnessClaimed_1 := ⟨start1.p0, start1.e0, start1.about1, start1.theMethod, start1.args0, start1.below0, start1.atStart⟩
end Jvm.Pilot.@@N@@
