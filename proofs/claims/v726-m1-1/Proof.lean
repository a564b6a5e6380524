import JvmDerived
import JvmDerived.Pilot.@@N@@Statement
import JvmDerived.Pilot.@@N@@Code
set_option linter.unusedVariables false
set_option linter.unusedSimpArgs false
namespace Jvm.Pilot.@@N@@
open Jvm Jvm.ClassFile Sem Op Lib Jvm.Free Jvm.Stand Jvm.LawKit Jvm.RoadKit Bundle Jvm.Pilot.@@N@@.Jvm.D
/-- what a body still owes at the state U: that it comes to a return with Q, within kc cells and ks slots -/
def Ow (p : Program) (e : Env) (below : List Frame) (s : State) (Q : Option Value → Heap → List Loc → Prop) (kc ks : Nat) (U : State) : Prop :=
  ∃ s₂ o, Steps p.tables e below U s₂ ∧ s₂.status = .running ∧ Ended s₂ below o ∧ ∃ v L, o = .returned v ∧ Q v s₂.heap L ∧ FrameEnd s o s₂ L kc ks
def lsr64 (x : Int64) (y : Int32) : Int64 := ((x.toUInt64 >>> (y &&& 0x3f).toInt64.toUInt64).toInt64)
def lsr32 (x y : Int32) : Int32 := ((x.toUInt32 >>> (y &&& 31).toUInt32).toInt32)
section W
variable {p : Program} {l : Launch} {e : Env} {R : Room} {s : State} {m : MethodId} {args : Array Value} {below : List Frame} {meth : Method} {c : Code} {T : State} {locs : List Loc} {cells slots : Nat} {Q : Option Value → Heap → List Loc → Prop} {kc ks : Nat} {pc pc' : Nat} {Ls Ls' : Array Slot} {st : List Value} {Z : State} {a0 : Array Value} {h : Heap}
theorem Ow.go {U U' : State} (k : Steps p.tables e below U U') (o : Ow p e below s Q kc ks U') : Ow p e below s Q kc ks U := by
  obtain ⟨s₂, o', h1, h2⟩ := o
  exact ⟨s₂, o', k.trans h1, h2⟩
theorem Ow.via {U U' : State} (k : ∀ t, Steps p.tables e below U' t → Steps p.tables e below U t) (o : Ow p e below s Q kc ks U') : Ow p e below s Q kc ks U := Ow.go (k _ (Steps.refl _)) o
theorem Ow.enter {n : Nat} (q : entryFrame m args n = mkF m 0 Ls []) (k : Ow p e below s Q kc ks (T.setTop (mkF m 0 Ls []))) :
    ∃ s₂ o, Steps p.tables e below (T.setTop (entryFrame m args n)) s₂ ∧ s₂.status = .running ∧ Ended s₂ below o ∧ ∃ v L, o = .returned v ∧ Q v s₂.heap L ∧ FrameEnd s o s₂ L kc ks := by
  rw [q]; exact k
theorem Ow.join {U : State} (T' : State) (g' : JFrame) (f : Ow p e below s Q kc ks (T'.setTop g') → Ow p e below s Q kc ks U) (k : Ow p e below s Q kc ks (T'.setTop g')) : Ow p e below s Q kc ks U := f k
theorem w_iloadN (X : Stand p l e R s m args below meth c T locs cells slots) (hx : p.tables.exec = Jvm.exec) {k : Fin 4} {v : Int32} (hd : decode c.code pc = .ok (.iload_n k, 1)) (hl : Ls[k.val]? = some (.val (.int v))) (hp : pc + 1 = pc') (k : Ow p e below s Q kc ks (T.setTop (mkF m pc' Ls (.int v :: st)))) : Ow p e below s Q kc ks (T.setTop (mkF m pc Ls st)) := by
  subst hp; exact Ow.go (XS.iloadN X.here hx rfl hd hl (Steps.refl _)) k
theorem w_lloadN (X : Stand p l e R s m args below meth c T locs cells slots) (hx : p.tables.exec = Jvm.exec) {k : Fin 4} {v : Int64} (hd : decode c.code pc = .ok (.lload_n k, 1)) (hl : Ls[k.val]? = some (.val (.long v))) (hp : pc + 1 = pc') (k : Ow p e below s Q kc ks (T.setTop (mkF m pc' Ls (.long v :: st)))) : Ow p e below s Q kc ks (T.setTop (mkF m pc Ls st)) := by
  subst hp; exact Ow.go (XS.lloadN X.here hx rfl hd hl (Steps.refl _)) k
theorem w_lload (X : Stand p l e R s m args below meth c T locs cells slots) (hx : p.tables.exec = Jvm.exec) {k : Nat} {v : Int64} (hd : decode c.code pc = .ok (.lload k, 2)) (hl : Ls[k]? = some (.val (.long v))) (hp : pc + 2 = pc') (k : Ow p e below s Q kc ks (T.setTop (mkF m pc' Ls (.long v :: st)))) : Ow p e below s Q kc ks (T.setTop (mkF m pc Ls st)) := by
  subst hp; exact Ow.go (XS.lload X.here hx rfl hd hl (Steps.refl _)) k
theorem w_lstoreN (X : Stand p l e R s m args below meth c T locs cells slots) (hx : p.tables.exec = Jvm.exec) {k : Fin 4} {v : Int64} (hd : decode c.code pc = .ok (.lstore_n k, 1)) (Ls' : Array Slot) (hl : storeLocals Ls k.val (.long v) = some Ls') (hp : pc + 1 = pc') (k : Ow p e below s Q kc ks (T.setTop (mkF m pc' Ls' st))) : Ow p e below s Q kc ks (T.setTop (mkF m pc Ls (.long v :: st))) := by
  subst hp; exact Ow.go (XS.lstoreN X.here hx rfl hd rfl hl (Steps.refl _)) k
theorem w_lstore (X : Stand p l e R s m args below meth c T locs cells slots) (hx : p.tables.exec = Jvm.exec) {k : Nat} {v : Int64} (hd : decode c.code pc = .ok (.lstore k, 2)) (Ls' : Array Slot) (hl : storeLocals Ls k (.long v) = some Ls') (hp : pc + 2 = pc') (k : Ow p e below s Q kc ks (T.setTop (mkF m pc' Ls' st))) : Ow p e below s Q kc ks (T.setTop (mkF m pc Ls (.long v :: st))) := by
  subst hp; exact Ow.go (XS.lstore X.here hx rfl hd rfl hl (Steps.refl _)) k
theorem w_aloadN (X : Stand p l e R s m args below meth c T locs cells slots) (hx : p.tables.exec = Jvm.exec) {k : Fin 4} {v : Value} (hd : decode c.code pc = .ok (.aload_n k, 1)) (hl : Ls[k.val]? = some (.val v)) (hv : v.isRef = true) (hp : pc + 1 = pc') (k : Ow p e below s Q kc ks (T.setTop (mkF m pc' Ls (v :: st)))) : Ow p e below s Q kc ks (T.setTop (mkF m pc Ls st)) := by
  subst hp; exact Ow.go (XS.aloadN X.here hx rfl hd hl hv (Steps.refl _)) k
theorem w_aload (X : Stand p l e R s m args below meth c T locs cells slots) (hx : p.tables.exec = Jvm.exec) {k : Nat} {v : Value} (hd : decode c.code pc = .ok (.aload k, 2)) (hl : Ls[k]? = some (.val v)) (hv : v.isRef = true) (hp : pc + 2 = pc') (k : Ow p e below s Q kc ks (T.setTop (mkF m pc' Ls (v :: st)))) : Ow p e below s Q kc ks (T.setTop (mkF m pc Ls st)) := by
  subst hp; exact Ow.go (XS.aload X.here hx rfl hd hl hv (Steps.refl _)) k
theorem w_astore (X : Stand p l e R s m args below meth c T locs cells slots) (hx : p.tables.exec = Jvm.exec) {k : Nat} {v : Value} (hd : decode c.code pc = .ok (.astore k, 2)) (Ls' : Array Slot) (hl : storeLocals Ls k v = some Ls') (hv : v.isRef = true) (hp : pc + 2 = pc') (k : Ow p e below s Q kc ks (T.setTop (mkF m pc' Ls' st))) : Ow p e below s Q kc ks (T.setTop (mkF m pc Ls (v :: st))) := by
  subst hp; exact Ow.go (XS.astore X.here hx rfl hd rfl hv hl (Steps.refl _)) k
theorem w_iconst (X : Stand p l e R s m args below meth c T locs cells slots) (hx : p.tables.exec = Jvm.exec) {i : Int} (v : Int32) (hd : decode c.code pc = .ok (.iconst i, 1)) (hv : Int32.ofInt i = v) (hp : pc + 1 = pc') (k : Ow p e below s Q kc ks (T.setTop (mkF m pc' Ls (.int v :: st)))) : Ow p e below s Q kc ks (T.setTop (mkF m pc Ls st)) := by
  subst hp hv; exact Ow.go (XS.iconst X.here hx rfl hd (Steps.refl _)) k
theorem w_bipush (X : Stand p l e R s m args below meth c T locs cells slots) (hx : p.tables.exec = Jvm.exec) {i : Int} (v : Int32) (hd : decode c.code pc = .ok (.bipush i, 2)) (hv : (Int8.ofInt i).toInt32 = v) (hp : pc + 2 = pc') (k : Ow p e below s Q kc ks (T.setTop (mkF m pc' Ls (.int v :: st)))) : Ow p e below s Q kc ks (T.setTop (mkF m pc Ls st)) := by
  subst hp hv; exact Ow.go (XS.bipush X.here hx rfl hd (Steps.refl _)) k
theorem w_ldc2J (X : Stand p l e R s m args below meth c T locs cells slots) (hx : p.tables.exec = Jvm.exec) (hZ : Z.Warmed39 s.vm) {own : String} {index : Nat} {v : Int64} (hown : s.vm.findClass own = some m.cls) (w : (Cond.constantLong own index v).before a0 Z = true) (hd : decode c.code pc = .ok (.ldc2_w index, 3)) (hp : pc + 3 = pc') (k : Ow p e below s Q kc ks (T.setTop (mkF m pc' Ls (.long v :: st)))) : Ow p e below s Q kc ks (T.setTop (mkF m pc Ls st)) := by
  subst hp; exact Ow.via (X.ldc2Long hx hown (mvT hZ w) (g := mkF m pc Ls st) rfl hd) k
theorem w_ladd (X : Stand p l e R s m args below meth c T locs cells slots) (hx : p.tables.exec = Jvm.exec) {x y : Int64} (hd : decode c.code pc = .ok (.ladd, 1))  (hp : pc + 1 = pc') (k : Ow p e below s Q kc ks (T.setTop (mkF m pc' Ls (.long (x + y) :: st)))) : Ow p e below s Q kc ks (T.setTop (mkF m pc Ls (.long y :: .long x :: st))) := by
  subst hp; exact Ow.go (XS.ladd X.here hx rfl hd rfl (Steps.refl _)) k
theorem w_lsub (X : Stand p l e R s m args below meth c T locs cells slots) (hx : p.tables.exec = Jvm.exec) {x y : Int64} (hd : decode c.code pc = .ok (.lsub, 1))  (hp : pc + 1 = pc') (k : Ow p e below s Q kc ks (T.setTop (mkF m pc' Ls (.long (x - y) :: st)))) : Ow p e below s Q kc ks (T.setTop (mkF m pc Ls (.long y :: .long x :: st))) := by
  subst hp; exact Ow.go (XS.lsub X.here hx rfl hd rfl (Steps.refl _)) k
theorem w_imul (X : Stand p l e R s m args below meth c T locs cells slots) (hx : p.tables.exec = Jvm.exec) {x y : Int32} (hd : decode c.code pc = .ok (.imul, 1))  (hp : pc + 1 = pc') (k : Ow p e below s Q kc ks (T.setTop (mkF m pc' Ls (.int (x * y) :: st)))) : Ow p e below s Q kc ks (T.setTop (mkF m pc Ls (.int y :: .int x :: st))) := by
  subst hp; exact Ow.go (XS.imul X.here hx rfl hd rfl (Steps.refl _)) k
theorem w_lmul (X : Stand p l e R s m args below meth c T locs cells slots) (hx : p.tables.exec = Jvm.exec) {x y : Int64} (hd : decode c.code pc = .ok (.lmul, 1))  (hp : pc + 1 = pc') (k : Ow p e below s Q kc ks (T.setTop (mkF m pc' Ls (.long (x * y) :: st)))) : Ow p e below s Q kc ks (T.setTop (mkF m pc Ls (.long y :: .long x :: st))) := by
  subst hp; exact Ow.go (XS.lmul X.here hx rfl hd rfl (Steps.refl _)) k
theorem w_lxor (X : Stand p l e R s m args below meth c T locs cells slots) (hx : p.tables.exec = Jvm.exec) {x y : Int64} (hd : decode c.code pc = .ok (.lxor, 1))  (hp : pc + 1 = pc') (k : Ow p e below s Q kc ks (T.setTop (mkF m pc' Ls (.long (x ^^^ y) :: st)))) : Ow p e below s Q kc ks (T.setTop (mkF m pc Ls (.long y :: .long x :: st))) := by
  subst hp; exact Ow.go (XS.lxor X.here hx rfl hd rfl (Steps.refl _)) k
theorem w_lushr (X : Stand p l e R s m args below meth c T locs cells slots) (hx : p.tables.exec = Jvm.exec) {x : Int64} {y : Int32} (hd : decode c.code pc = .ok (.lushr, 1))  (hp : pc + 1 = pc') (k : Ow p e below s Q kc ks (T.setTop (mkF m pc' Ls (.long (lsr64 x y) :: st)))) : Ow p e below s Q kc ks (T.setTop (mkF m pc Ls (.int y :: .long x :: st))) := by
  subst hp; exact Ow.go (XS.lushr X.here hx rfl hd rfl (Steps.refl _)) k
theorem w_dup (X : Stand p l e R s m args below meth c T locs cells slots) (hx : p.tables.exec = Jvm.exec) {x : Value} (hd : decode c.code pc = .ok (.dup, 1)) (hc : x.category = 1) (hp : pc + 1 = pc') (k : Ow p e below s Q kc ks (T.setTop (mkF m pc' Ls (x :: x :: st)))) : Ow p e below s Q kc ks (T.setTop (mkF m pc Ls (x :: st))) := by
  subst hp; exact Ow.go (XS.dup X.here hx rfl hd rfl hc (Steps.refl _)) k
theorem w_goto (X : Stand p l e R s m args below meth c T locs cells slots) (hx : p.tables.exec = Jvm.exec) {o : Int} (hd : decode c.code pc = .ok (.goto o, 3)) (ho : 0 ≤ (pc : Int) + o) (hp : ((pc : Int) + o).toNat = pc') (k : Ow p e below s Q kc ks (T.setTop (mkF m pc' Ls st))) : Ow p e below s Q kc ks (T.setTop (mkF m pc Ls st)) := by
  exact Ow.go (XS.goto X.here hx rfl (pc0 := pc) rfl hd ho hp (Steps.refl _)) k
theorem w_if_ne (X : Stand p l e R s m args below meth c T locs cells slots) (hx : p.tables.exec = Jvm.exec) {x : Int32} {o : Int} {pcT pcF : Nat} (hd : decode c.code pc = .ok (.ifCond .ne o, 3)) (ho : 0 ≤ (pc : Int) + o) (ht : ((pc : Int) + o).toNat = pcT) (hp : pc + 3 = pcF) (k1 : ¬ (x = (0 : Int32)) → Ow p e below s Q kc ks (T.setTop (mkF m pcT Ls st))) (k2 : x = (0 : Int32) → Ow p e below s Q kc ks (T.setTop (mkF m pcF Ls st))) : Ow p e below s Q kc ks (T.setTop (mkF m pc Ls (.int x :: st))) := by
  subst hp
  by_cases q : x = (0 : Int32)
  · exact Ow.go (XS.ifNo X.here hx rfl hd rfl ((if0 _ _).trans (teq q).2) (Steps.refl _)) (k2 q)
  · exact Ow.go (XS.ifYes X.here hx rfl (pc0 := pc) rfl hd rfl ((if0 _ _).trans (feq q).2) ho ht (Steps.refl _)) (k1 q)
theorem w_lcmp_ne (X : Stand p l e R s m args below meth c T locs cells slots) (hx : p.tables.exec = Jvm.exec) {x y : Int64} {o : Int} {pc1 pcT pcF : Nat} (hd : decode c.code pc = .ok (.lcmp, 1)) (hd1 : decode c.code pc1 = .ok (.ifCond .ne o, 3)) (hp1 : pc + 1 = pc1) (ho : 0 ≤ (pc1 : Int) + o) (ht : ((pc1 : Int) + o).toNat = pcT) (hp : pc1 + 3 = pcF) (k1 : ¬ (x = y) → Ow p e below s Q kc ks (T.setTop (mkF m pcT Ls st))) (k2 : x = y → Ow p e below s Q kc ks (T.setTop (mkF m pcF Ls st))) : Ow p e below s Q kc ks (T.setTop (mkF m pc Ls (.long y :: .long x :: st))) := by
  subst hp1
  refine Ow.go (XS.lcmp X.here hx rfl hd rfl (Steps.refl _)) ?_
  exact w_if_ne X hx (x := lcmpW x y) hd1 ho ht hp (fun q => k1 (fun r => q ((lw_eq x y).mpr r))) (fun q => k2 ((lw_eq x y).mp q))
theorem w_lreturn (X : Stand p l e R s m args below meth c T locs cells slots) (hx : p.tables.exec = Jvm.exec) {z : Int64} (hret : meth.sig.returnType = some .long)  (hlk : meth.locks = false) (hc : cells ≤ kc) (hs : slots ≤ ks) (hd : decode c.code pc = .ok (.lreturn, 1)) (hq : Q (some (.long z)) T.heap locs) : Ow p e below s Q kc ks (T.setTop (mkF m pc Ls (.long z :: st))) := by
  obtain ⟨fs, hr, hrun, hended, hW, hsame⟩ := X.leave (v := some (.long z)) (fun h => by rw [hret] at h; cases h) hlk
  exact ⟨_, _, retOut X hx (t := .long) hret rfl (Or.inr (Or.inl ⟨rfl, rfl, _, rfl⟩)) hd hr, hrun, hended, _, _, rfl, hq, ⟨_, rfl⟩, hW, hsame.mono hc hs⟩
theorem w_zreturn (X : Stand p l e R s m args below meth c T locs cells slots) (hx : p.tables.exec = Jvm.exec) {z : Int32} (hret : meth.sig.returnType = some .boolean) (hz : z = 0 ∨ z = 1) (hlk : meth.locks = false) (hc : cells ≤ kc) (hs : slots ≤ ks) (hd : decode c.code pc = .ok (.ireturn, 1)) (hq : Q (some (.int z)) T.heap locs) : Ow p e below s Q kc ks (T.setTop (mkF m pc Ls (.int z :: st))) := by
  obtain ⟨fs, hr, hrun, hended, hW, hsame⟩ := X.leave (v := some (.int z)) (fun h => by rw [hret] at h; cases h) hlk
  exact ⟨_, _, retOut X hx (t := .boolean) hret (by rcases hz with rfl | rfl <;> rfl) (Or.inl ⟨rfl, Or.inr (Or.inl rfl), _, rfl⟩) hd hr, hrun, hended, _, _, rfl, hq, ⟨_, rfl⟩, hW, hsame.mono hc hs⟩
theorem w_return (X : Stand p l e R s m args below meth c T locs cells slots) (hx : p.tables.exec = Jvm.exec) (hret : meth.sig.returnType = none) (hlk : meth.locks = false) (hc : cells ≤ kc) (hs : slots ≤ ks) (hd : decode c.code pc = .ok (.return_, 1)) (hq : Q none T.heap locs) : Ow p e below s Q kc ks (T.setTop (mkF m pc Ls [])) := by
  obtain ⟨fs, hr, hrun, hended, hW, hsame⟩ := X.leave (v := none) (fun _ => rfl) hlk
  exact ⟨_, _, X.returnOut hx hret hd hr, hrun, hended, _, _, rfl, hq, ⟨_, rfl⟩, hW, hsame.mono hc hs⟩
theorem w_getfield (X : Stand p l e R s m args below meth c T locs cells slots) (hx : p.tables.exec = Jvm.exec) (hZ : Z.Warmed39 s.vm) {own R0 O n d host : String} {index : Nat} (hown : s.vm.findClass own = some m.cls) (w : (Cond.fieldLink own index R0 n d).before a0 Z = true ∨ (Cond.fieldLinkNest own index R0 n d host).before a0 Z = true) (via : Via Z R0 O n d) (eT : T.heap = h) {a : Addr} {v : Value} (F : Fld Z h a O n d v) (hd : decode c.code pc = .ok (.getfield index, 3)) (hp : pc + 3 = pc') (k : ∀ T', Stand p l e R s m args below meth c T' locs cells slots → T'.heap = h → Ow p e below s Q kc ks (T'.setTop (mkF m pc' Ls (v :: st)))) : Ow p e below s Q kc ks (T.setTop (mkF m pc Ls (.ref a :: st))) := by
  subst hp
  obtain ⟨T', X', e', st'⟩ := getF X hx hZ hown w via eT F (g := mkF m pc Ls (.ref a :: st)) rfl rfl hd
  exact Ow.via st' (k T' X' e')
theorem w_putfield (X : Stand p l e R s m args below meth c T locs cells slots) (hx : p.tables.exec = Jvm.exec) (hZ : Z.Warmed39 s.vm) {own R0 O n d host C : String} {index kk : Nat} {ty : FieldType} (hown : s.vm.findClass own = some m.cls) (w : (Cond.fieldLink own index R0 n d).before a0 Z = true ∨ (Cond.fieldLinkNest own index R0 n d host).before a0 Z = true) (via : Via Z R0 O n d) (eT : T.heap = h) {a : Addr} {v old : Value} (F : Fld Z h a O n d old) (E : Exa Z h a C) (L : (Cond.lays C O n d).before a0 Z = true ∨ ((Cond.laysFinal C O n d).before a0 Z = true ∧ own = O ∧ meth.name = "<init>")) (wi : (Cond.instantiable C kk).before a0 Z = true) (hty : parseFieldDescriptor d = some ty) (hn : narrow ty v = v) (hf : fits ty v = true) (hd : decode c.code pc = .ok (.putfield index, 3)) (hp : pc + 3 = pc') (k : ∀ T' h', Stand p l e R s m args below meth c T' (locs ++ [⟨a, RoadKit.slotOf Z O n d⟩]) cells slots → T'.heap = h' → Wr h h' a (RoadKit.slotOf Z O n d) v → Ow p e below s Q kc ks (T'.setTop (mkF m pc' Ls st))) : Ow p e below s Q kc ks (T.setTop (mkF m pc Ls (v :: .ref a :: st))) := by
  subst hp
  obtain ⟨T', h', X', e', W', st'⟩ := putF X hx hZ hown w via eT F E L wi hty hn hf (g := mkF m pc Ls (v :: .ref a :: st)) rfl rfl hd
  exact Ow.via st' (k T' h' X' e' W')
theorem w_new (X : Stand p l e R s m args below meth c T locs cells slots) (hx : p.tables.exec = Jvm.exec) (hZ : Z.Warmed39 s.vm) {own C : String} {index n : Nat} (hown : s.vm.findClass own = some m.cls) (w : (Cond.classLink own index C).before a0 Z = true) (wi : (Cond.instantiable C n).before a0 Z = true) (wz : (Cond.initialized C).before a0 Z = true) (eT : T.heap = h) (hd : decode c.code pc = .ok (.new index, 3)) (hc : cells + 1 ≤ R.cells) (hl : slots + n ≤ R.slots) (hp : pc + 3 = pc') (k : ∀ T' h' a, a = h.size → Stand p l e R s m args below meth c T' locs (cells + 1) (slots + n) → T'.heap = h' → Ext h h' → Exa Z h' a C → (∀ {O nm d : String} {ty : FieldType}, Laid Z a0 C O nm d → parseFieldDescriptor d = some ty → Fld Z h' a O nm d (defaultValue ty)) → Ow p e below s Q kc ks (T'.setTop (mkF m pc' Ls (.ref a :: st)))) : Ow p e below s Q kc ks (T.setTop (mkF m pc Ls st)) := by
  subst hp
  obtain ⟨T', h', X', e', E', A', D', -, st'⟩ := newO X hx hZ hown w wi wz eT (g := mkF m pc Ls st) rfl hd hc hl
  exact Ow.via st' (k T' h' _ rfl X' e' E' A' D')
theorem w_objinit (X : Stand p l e R s m args below meth c T locs cells slots) (hx : p.tables.exec = Jvm.exec) (hZ : Z.Warmed39 s.vm) {own : String} {idx : Nat} (hown : s.vm.findClass own = some m.cls) (w1 : (Cond.methodLink own idx Lib.objectInit).before a0 Z = true) (w2 : (Cond.instanceMethod Lib.objectInit).before a0 Z = true) (w3 : (Cond.code Lib.objectInit ⟨#[0xb1]⟩ 1 none).before a0 Z = true) (eT : T.heap = h) {a : Addr} (hd : decode c.code pc = .ok (.invokespecial idx, 3)) (hsz : Ls.size = c.maxLocals) (hf : 1 ≤ R.frames) {W : Nat} (hW : (st.map fun v => v.category).sum ≤ W) (hl : W + 12 ≤ R.locals) (hp : pc + 3 = pc') (k : ∀ T', Stand p l e R s m args below meth c T' locs cells slots → T'.heap = h → Ow p e below s Q kc ks (T'.setTop (mkF m pc' Ls st))) : Ow p e below s Q kc ks (T.setTop (mkF m pc Ls (.ref a :: st))) := by
  subst hp
  obtain ⟨T', X', e', st'⟩ := initO X hx hZ hown w1 w2 w3 eT (g := mkF m pc Ls (.ref a :: st)) rfl hsz rfl hd hf (W := W) (by show 2 * 0 + _ ≤ _; omega) hl
  exact Ow.via st' (k T' X' e')
theorem w_callS (X : Stand p l e R s m args below meth c T locs cells slots) (hx : p.tables.exec = Jvm.exec) (hZ : Z.Warmed39 s.vm) {own : String} {index : Nat} {y : MethodName} {bytes : ByteArray} {maxL : Nat} {ret : Option FieldType} (hown : s.vm.findClass own = some m.cls) (w1 : (Cond.methodLink own index y).before a0 Z = true) (w2 : (Cond.static y).before a0 Z = true) (w3 : (Cond.initialized y.cls).before a0 Z = true) (w4 : (Cond.code y bytes maxL ret).before a0 Z = true) (hy : y.cls ≠ "java/lang/invoke/MethodHandle" ∧ y.cls ≠ "java/lang/invoke/VarHandle") {rm : Room} {as' : Array Value} {Qf : Option Value → Heap → List Loc → Prop} {W : Nat} (hM : MetFree l y (head1 [Cond.code y bytes maxL ret] rm) (fun a U => a = as' ∧ Z.Warmed39 U.vm ∧ U.heap = h) (fun _ _ _ _ _ => True) (fun _ U o U' => ∃ v L, o = .returned v ∧ Qf v U'.heap L ∧ FrameEnd U o U' L rm.cells rm.slots)) (eT : T.heap = h) (hf : rm.frames + 1 ≤ R.frames) (hlo : W + (maxL + 11) + rm.locals ≤ R.locals) (hc : cells + rm.cells ≤ R.cells) (hs : slots + rm.slots ≤ R.slots) (hd : decode c.code pc = .ok (.invokestatic index, 3)) (hsz : Ls.size = c.maxLocals) {argsL rest : List Value} {ps : List FieldType} {r : Option FieldType} (pd : parseMethodDescriptor y.desc = some ⟨ps, r⟩) (hlen : argsL.length = ps.length) (hst : st = argsL.reverse ++ rest) (has : argsL.toArray = as') (hW : (rest.map fun v => v.category).sum ≤ W) (hp : pc + 3 = pc') (k : ∀ v T' L, Stand p l e R s m args below meth c T' (locs ++ L) (cells + rm.cells) (slots + rm.slots) → Qf v T'.heap L → Ow p e below s Q kc ks (T'.setTop (mkF m pc' Ls (v.toList ++ rest)))) : Ow p e below s Q kc ks (T.setTop (mkF m pc Ls st)) := by
  subst hp
  obtain ⟨v, vm₁, ⟨T', L', k', n'⟩, -, X', ⟨L, hq, l1, y1, z1⟩, st'⟩ := Jvm.LawKit.callS X hx hown (mvT hZ w1) (mvT hZ w2) (mvT hZ w3) (mvT hZ w4) hy (backOf (W := W) hM hZ w4 w3 hf hlo) (g := mkF m pc Ls st) rfl hsz (argsL := argsL) (rest := rest) (lenOf pd hlen) hst (by show 2 * 0 + _ ≤ _; omega) hd (fun _ _ => ⟨has, eT, hc, hs⟩)
  dsimp only [Pt.U, Pt.locs, Pt.cells, Pt.slots] at X' l1 y1 z1 st' hq
  subst l1 y1 z1
  exact Ow.via st' (k v T' L X' hq)
theorem w_callN (X : Stand p l e R s m args below meth c T locs cells slots) (hx : p.tables.exec = Jvm.exec) (hZ : Z.Warmed39 s.vm) {own : String} {index : Nat} {y : MethodName} {bytes : ByteArray} {maxL : Nat} (hy1 : y.name = "<init>") (hown : s.vm.findClass own = some m.cls) (w1 : (Cond.methodLink own index y).before a0 Z = true) (w2 : (Cond.instanceMethod y).before a0 Z = true) (w3 : (Cond.initialized y.cls).before a0 Z = true) (w4 : (Cond.code y bytes maxL none).before a0 Z = true) (hy : y.cls ≠ "java/lang/invoke/MethodHandle" ∧ y.cls ≠ "java/lang/invoke/VarHandle") {rm : Room} {as' : Array Value} {Qf : Option Value → Heap → List Loc → Prop} {W : Nat} (hM : MetFree l y (head1 [Cond.code y bytes maxL none] rm) (fun a U => a = as' ∧ Z.Warmed39 U.vm ∧ U.heap = h) (fun _ _ _ _ _ => True) (fun _ U o U' => ∃ v L, o = .returned v ∧ Qf v U'.heap L ∧ FrameEnd U o U' L rm.cells rm.slots)) (eT : T.heap = h) (hf : rm.frames + 1 ≤ R.frames) (hlo : W + (maxL + 11) + rm.locals ≤ R.locals) (hc : cells + rm.cells ≤ R.cells) (hs : slots + rm.slots ≤ R.slots) (hd : decode c.code pc = .ok (.invokespecial index, 3)) (hsz : Ls.size = c.maxLocals) {a : Addr} {argsL rest : List Value} {ps : List FieldType} {r : Option FieldType} (pd : parseMethodDescriptor y.desc = some ⟨ps, r⟩) (hlen : argsL.length = ps.length) (hst : st = argsL.reverse ++ .ref a :: rest) (has : (Value.ref a :: argsL).toArray = as') (hW : (rest.map fun v => v.category).sum ≤ W) (hp : pc + 3 = pc') (k : ∀ v T' L, Stand p l e R s m args below meth c T' (locs ++ L) (cells + rm.cells) (slots + rm.slots) → Qf v T'.heap L → Ow p e below s Q kc ks (T'.setTop (mkF m pc' Ls (v.toList ++ rest)))) : Ow p e below s Q kc ks (T.setTop (mkF m pc Ls st)) := by
  subst hp
  obtain ⟨v, vm₁, ⟨T', L', k', n'⟩, -, X', ⟨L, hq, l1, y1, z1⟩, st'⟩ := X.specialBack hx hy1 hown (mvT hZ w1) (mvT hZ w2) (mvT hZ w4) hy (backOf (W := W) hM hZ w4 w3 hf hlo) (g := mkF m pc Ls st) rfl hsz (Steps.refl _) (a := a) (argsL := argsL) (rest := rest) (lenOf pd hlen) hst (by show 2 * 0 + _ ≤ _; omega) hd (fun _ _ => ⟨has, eT, hc, hs⟩)
  dsimp only [Pt.U, Pt.locs, Pt.cells, Pt.slots] at X' l1 y1 z1 st' hq
  subst l1 y1 z1
  exact Ow.go st' (k v T' L X' hq)
theorem w_callV (X : Stand p l e R s m args below meth c T locs cells slots) (hx : p.tables.exec = Jvm.exec) (hZ : Z.Warmed39 s.vm) {own C : String} {index : Nat} {y z : MethodName} {bytes : ByteArray} {maxL : Nat} {ret : Option FieldType} (hown : s.vm.findClass own = some m.cls) (w1 : (Cond.methodLink own index y).before a0 Z = true) (w2 : (Cond.declares y).before a0 Z = true) (nf : NotFace s y) (w5 : (Cond.selects C y z).before a0 Z = true) (w6 : (Cond.instanceMethod z).before a0 Z = true) (w3 : (Cond.initialized z.cls).before a0 Z = true) (w4 : (Cond.code z bytes maxL ret).before a0 Z = true) (hy : y.cls ≠ "java/lang/invoke/MethodHandle" ∧ y.cls ≠ "java/lang/invoke/VarHandle") {rm : Room} {as' : Array Value} {Qf : Option Value → Heap → List Loc → Prop} {W : Nat} (hM : MetFree l z (head1 [Cond.code z bytes maxL ret] rm) (fun a U => a = as' ∧ Z.Warmed39 U.vm ∧ U.heap = h) (fun _ _ _ _ _ => True) (fun _ U o U' => ∃ v L, o = .returned v ∧ Qf v U'.heap L ∧ FrameEnd U o U' L rm.cells rm.slots)) (eT : T.heap = h) (hf : rm.frames + 1 ≤ R.frames) (hlo : W + (maxL + 11) + rm.locals ≤ R.locals) (hc : cells + rm.cells ≤ R.cells) (hs : slots + rm.slots ≤ R.slots) {a : Addr} (E : Exa Z h a C) (hd : decode c.code pc = .ok (.invokevirtual index, 3)) (hsz : Ls.size = c.maxLocals) {argsL rest : List Value} {ps : List FieldType} {r : Option FieldType} (pd : parseMethodDescriptor y.desc = some ⟨ps, r⟩) (hlen : argsL.length = ps.length) (hst : st = argsL.reverse ++ .ref a :: rest) (has : (Value.ref a :: argsL).toArray = as') (hW : (rest.map fun v => v.category).sum ≤ W) (hp : pc + 3 = pc') (k : ∀ v T' L, Stand p l e R s m args below meth c T' (locs ++ L) (cells + rm.cells) (slots + rm.slots) → Qf v T'.heap L → Ow p e below s Q kc ks (T'.setTop (mkF m pc' Ls (v.toList ++ rest)))) : Ow p e below s Q kc ks (T.setTop (mkF m pc Ls st)) := by
  subst hp
  obtain ⟨cB, kB, qa, qb, qc⟩ := isOf hZ eT E
  obtain ⟨v, vm₁, ⟨T', L', k', n'⟩, -, X', ⟨L, hq, l1, y1, z1⟩, st'⟩ := X.virtualBack hx (y := y) (z := z) hown (mvT hZ w1) (mvT hZ w2) nf (mvT hZ w5) (mvT hZ w6) hy (backOf (W := W) hM hZ w4 w3 hf hlo) qa qc (g := mkF m pc Ls st) rfl hsz (Steps.refl _) (argsL := argsL) (rest := rest) (lenOf pd hlen) hst (by show 2 * 0 + _ ≤ _; omega) hd (fun _ _ => ⟨has, eT, hc, hs⟩)
  dsimp only [Pt.U, Pt.locs, Pt.cells, Pt.slots] at X' l1 y1 z1 st' hq
  subst l1 y1 z1
  exact Ow.go st' (k v T' L X' hq)
end W
theorem d1_0 : decode prog_34_method_1_code 0 = .ok (.aload_n 0, 1) := by decide +kernel
theorem d1_1 : decode prog_34_method_1_code 1 = .ok (.invokespecial 1, 3) := by decide +kernel
theorem d1_4 : decode prog_34_method_1_code 4 = .ok (.aload_n 0, 1) := by decide +kernel
theorem d1_5 : decode prog_34_method_1_code 5 = .ok (.lload_n 1, 1) := by decide +kernel
theorem d1_6 : decode prog_34_method_1_code 6 = .ok (.putfield 7, 3) := by decide +kernel
theorem d1_9 : decode prog_34_method_1_code 9 = .ok (.return_, 1) := by decide +kernel
theorem ef_1 (m : MethodId) (a0 : Addr) (q1 : Int64) : entryFrame m #[(.ref a0), (.long q1)] 3 = mkF m 0 #[.val (.ref a0), .val (.long q1), .second] [] := by first | (simp [entryFrame, mkF, argsToLocals, Value.category]; done) | rfl
theorem pn_0 : plainName "com/example/vagabond/vagabond/SplitMix64" = true := by first | (simp [plainName, overriddenIn]; done) | decide +kernel
theorem d3_0 : decode prog_34_method_2_code 0 = .ok (.aload_n 0, 1) := by decide +kernel
theorem d3_1 : decode prog_34_method_2_code 1 = .ok (.dup, 1) := by decide +kernel
theorem d3_2 : decode prog_34_method_2_code 2 = .ok (.getfield 7, 3) := by decide +kernel
theorem d3_5 : decode prog_34_method_2_code 5 = .ok (.ldc2_w 13, 3) := by decide +kernel
theorem d3_8 : decode prog_34_method_2_code 8 = .ok (.ladd, 1) := by decide +kernel
theorem d3_9 : decode prog_34_method_2_code 9 = .ok (.putfield 7, 3) := by decide +kernel
theorem d3_12 : decode prog_34_method_2_code 12 = .ok (.aload_n 0, 1) := by decide +kernel
theorem d3_13 : decode prog_34_method_2_code 13 = .ok (.getfield 7, 3) := by decide +kernel
theorem d3_16 : decode prog_34_method_2_code 16 = .ok (.lstore_n 1, 1) := by decide +kernel
theorem d3_17 : decode prog_34_method_2_code 17 = .ok (.lload_n 1, 1) := by decide +kernel
theorem d3_18 : decode prog_34_method_2_code 18 = .ok (.lload_n 1, 1) := by decide +kernel
theorem d3_19 : decode prog_34_method_2_code 19 = .ok (.bipush 30, 2) := by decide +kernel
theorem d3_21 : decode prog_34_method_2_code 21 = .ok (.lushr, 1) := by decide +kernel
theorem d3_22 : decode prog_34_method_2_code 22 = .ok (.lxor, 1) := by decide +kernel
theorem d3_23 : decode prog_34_method_2_code 23 = .ok (.ldc2_w 15, 3) := by decide +kernel
theorem d3_26 : decode prog_34_method_2_code 26 = .ok (.lmul, 1) := by decide +kernel
theorem d3_27 : decode prog_34_method_2_code 27 = .ok (.lstore_n 1, 1) := by decide +kernel
theorem d3_28 : decode prog_34_method_2_code 28 = .ok (.lload_n 1, 1) := by decide +kernel
theorem d3_29 : decode prog_34_method_2_code 29 = .ok (.lload_n 1, 1) := by decide +kernel
theorem d3_30 : decode prog_34_method_2_code 30 = .ok (.bipush 27, 2) := by decide +kernel
theorem d3_32 : decode prog_34_method_2_code 32 = .ok (.lushr, 1) := by decide +kernel
theorem d3_33 : decode prog_34_method_2_code 33 = .ok (.lxor, 1) := by decide +kernel
theorem d3_34 : decode prog_34_method_2_code 34 = .ok (.ldc2_w 17, 3) := by decide +kernel
theorem d3_37 : decode prog_34_method_2_code 37 = .ok (.lmul, 1) := by decide +kernel
theorem d3_38 : decode prog_34_method_2_code 38 = .ok (.lstore_n 1, 1) := by decide +kernel
theorem d3_39 : decode prog_34_method_2_code 39 = .ok (.lload_n 1, 1) := by decide +kernel
theorem d3_40 : decode prog_34_method_2_code 40 = .ok (.lload_n 1, 1) := by decide +kernel
theorem d3_41 : decode prog_34_method_2_code 41 = .ok (.bipush 31, 2) := by decide +kernel
theorem d3_43 : decode prog_34_method_2_code 43 = .ok (.lushr, 1) := by decide +kernel
theorem d3_44 : decode prog_34_method_2_code 44 = .ok (.lxor, 1) := by decide +kernel
theorem d3_45 : decode prog_34_method_2_code 45 = .ok (.lreturn, 1) := by decide +kernel
theorem ef_3 (m : MethodId) (a0 : Addr) : entryFrame m #[(.ref a0)] 3 = mkF m 0 #[.val (.ref a0), .unset, .unset] [] := by first | (simp [entryFrame, mkF, argsToLocals, Value.category]; done) | rfl
theorem d6_0 : decode method_2_code 0 = .ok (.lload_n 0, 1) := by decide +kernel
theorem d6_1 : decode method_2_code 1 = .ok (.lstore_n 2, 1) := by decide +kernel
theorem d6_2 : decode method_2_code 2 = .ok (.lload_n 2, 1) := by decide +kernel
theorem d6_3 : decode method_2_code 3 = .ok (.ldc2_w 7, 3) := by decide +kernel
theorem d6_6 : decode method_2_code 6 = .ok (.lload_n 0, 1) := by decide +kernel
theorem d6_7 : decode method_2_code 7 = .ok (.lload_n 2, 1) := by decide +kernel
theorem d6_8 : decode method_2_code 8 = .ok (.lmul, 1) := by decide +kernel
theorem d6_9 : decode method_2_code 9 = .ok (.lsub, 1) := by decide +kernel
theorem d6_10 : decode method_2_code 10 = .ok (.lmul, 1) := by decide +kernel
theorem d6_11 : decode method_2_code 11 = .ok (.lstore_n 2, 1) := by decide +kernel
theorem d6_12 : decode method_2_code 12 = .ok (.lload_n 2, 1) := by decide +kernel
theorem d6_13 : decode method_2_code 13 = .ok (.ldc2_w 7, 3) := by decide +kernel
theorem d6_16 : decode method_2_code 16 = .ok (.lload_n 0, 1) := by decide +kernel
theorem d6_17 : decode method_2_code 17 = .ok (.lload_n 2, 1) := by decide +kernel
theorem d6_18 : decode method_2_code 18 = .ok (.lmul, 1) := by decide +kernel
theorem d6_19 : decode method_2_code 19 = .ok (.lsub, 1) := by decide +kernel
theorem d6_20 : decode method_2_code 20 = .ok (.lmul, 1) := by decide +kernel
theorem d6_21 : decode method_2_code 21 = .ok (.lstore_n 2, 1) := by decide +kernel
theorem d6_22 : decode method_2_code 22 = .ok (.lload_n 2, 1) := by decide +kernel
theorem d6_23 : decode method_2_code 23 = .ok (.ldc2_w 7, 3) := by decide +kernel
theorem d6_26 : decode method_2_code 26 = .ok (.lload_n 0, 1) := by decide +kernel
theorem d6_27 : decode method_2_code 27 = .ok (.lload_n 2, 1) := by decide +kernel
theorem d6_28 : decode method_2_code 28 = .ok (.lmul, 1) := by decide +kernel
theorem d6_29 : decode method_2_code 29 = .ok (.lsub, 1) := by decide +kernel
theorem d6_30 : decode method_2_code 30 = .ok (.lmul, 1) := by decide +kernel
theorem d6_31 : decode method_2_code 31 = .ok (.lstore_n 2, 1) := by decide +kernel
theorem d6_32 : decode method_2_code 32 = .ok (.lload_n 2, 1) := by decide +kernel
theorem d6_33 : decode method_2_code 33 = .ok (.ldc2_w 7, 3) := by decide +kernel
theorem d6_36 : decode method_2_code 36 = .ok (.lload_n 0, 1) := by decide +kernel
theorem d6_37 : decode method_2_code 37 = .ok (.lload_n 2, 1) := by decide +kernel
theorem d6_38 : decode method_2_code 38 = .ok (.lmul, 1) := by decide +kernel
theorem d6_39 : decode method_2_code 39 = .ok (.lsub, 1) := by decide +kernel
theorem d6_40 : decode method_2_code 40 = .ok (.lmul, 1) := by decide +kernel
theorem d6_41 : decode method_2_code 41 = .ok (.lstore_n 2, 1) := by decide +kernel
theorem d6_42 : decode method_2_code 42 = .ok (.lload_n 2, 1) := by decide +kernel
theorem d6_43 : decode method_2_code 43 = .ok (.ldc2_w 7, 3) := by decide +kernel
theorem d6_46 : decode method_2_code 46 = .ok (.lload_n 0, 1) := by decide +kernel
theorem d6_47 : decode method_2_code 47 = .ok (.lload_n 2, 1) := by decide +kernel
theorem d6_48 : decode method_2_code 48 = .ok (.lmul, 1) := by decide +kernel
theorem d6_49 : decode method_2_code 49 = .ok (.lsub, 1) := by decide +kernel
theorem d6_50 : decode method_2_code 50 = .ok (.lmul, 1) := by decide +kernel
theorem d6_51 : decode method_2_code 51 = .ok (.lstore_n 2, 1) := by decide +kernel
theorem d6_52 : decode method_2_code 52 = .ok (.lload_n 2, 1) := by decide +kernel
theorem d6_53 : decode method_2_code 53 = .ok (.lreturn, 1) := by decide +kernel
theorem ef_6 (m : MethodId) (q0 : Int64) : entryFrame m #[(.long q0)] 4 = mkF m 0 #[.val (.long q0), .second, .unset, .unset] [] := by first | (simp [entryFrame, mkF, argsToLocals, Value.category]; done) | rfl
theorem pn_1 : plainName "com/example/vagabond/vagabond/SplitMix64NextLongPinLaw" = true := by first | (simp [plainName, overriddenIn]; done) | decide +kernel
theorem d5_0 : decode method_3_code 0 = .ok (.lload_n 0, 1) := by decide +kernel
theorem d5_1 : decode method_3_code 1 = .ok (.lload_n 0, 1) := by decide +kernel
theorem d5_2 : decode method_3_code 2 = .ok (.iload_n 2, 1) := by decide +kernel
theorem d5_3 : decode method_3_code 3 = .ok (.lushr, 1) := by decide +kernel
theorem d5_4 : decode method_3_code 4 = .ok (.lxor, 1) := by decide +kernel
theorem d5_5 : decode method_3_code 5 = .ok (.lload_n 0, 1) := by decide +kernel
theorem d5_6 : decode method_3_code 6 = .ok (.iconst 2, 1) := by decide +kernel
theorem d5_7 : decode method_3_code 7 = .ok (.iload_n 2, 1) := by decide +kernel
theorem d5_8 : decode method_3_code 8 = .ok (.imul, 1) := by decide +kernel
theorem d5_9 : decode method_3_code 9 = .ok (.lushr, 1) := by decide +kernel
theorem d5_10 : decode method_3_code 10 = .ok (.lxor, 1) := by decide +kernel
theorem d5_11 : decode method_3_code 11 = .ok (.lreturn, 1) := by decide +kernel
theorem ef_5 (m : MethodId) (q0 : Int64) (p1 : Int32) : entryFrame m #[(.long q0), (.int p1)] 3 = mkF m 0 #[.val (.long q0), .second, .val (.int p1)] [] := by first | (simp [entryFrame, mkF, argsToLocals, Value.category]; done) | rfl
theorem d4_0 : decode method_4_code 0 = .ok (.lload_n 0, 1) := by decide +kernel
theorem d4_1 : decode method_4_code 1 = .ok (.bipush 31, 2) := by decide +kernel
theorem d4_3 : decode method_4_code 3 = .ok (.invokestatic 9, 3) := by decide +kernel
theorem pd_0 : parseMethodDescriptor "(JI)J" = some ⟨[.long, .int], some .long⟩ := by decide +kernel
theorem d4_6 : decode method_4_code 6 = .ok (.lstore_n 2, 1) := by decide +kernel
theorem d4_7 : decode method_4_code 7 = .ok (.lload_n 2, 1) := by decide +kernel
theorem d4_8 : decode method_4_code 8 = .ok (.ldc2_w 15, 3) := by decide +kernel
theorem d4_11 : decode method_4_code 11 = .ok (.invokestatic 17, 3) := by decide +kernel
theorem pd_1 : parseMethodDescriptor "(J)J" = some ⟨[.long], some .long⟩ := by decide +kernel
theorem d4_14 : decode method_4_code 14 = .ok (.lmul, 1) := by decide +kernel
theorem d4_15 : decode method_4_code 15 = .ok (.lstore_n 2, 1) := by decide +kernel
theorem d4_16 : decode method_4_code 16 = .ok (.lload_n 2, 1) := by decide +kernel
theorem d4_17 : decode method_4_code 17 = .ok (.bipush 27, 2) := by decide +kernel
theorem d4_19 : decode method_4_code 19 = .ok (.invokestatic 9, 3) := by decide +kernel
theorem d4_22 : decode method_4_code 22 = .ok (.lstore_n 2, 1) := by decide +kernel
theorem d4_23 : decode method_4_code 23 = .ok (.lload_n 2, 1) := by decide +kernel
theorem d4_24 : decode method_4_code 24 = .ok (.ldc2_w 21, 3) := by decide +kernel
theorem d4_27 : decode method_4_code 27 = .ok (.invokestatic 17, 3) := by decide +kernel
theorem d4_30 : decode method_4_code 30 = .ok (.lmul, 1) := by decide +kernel
theorem d4_31 : decode method_4_code 31 = .ok (.lstore_n 2, 1) := by decide +kernel
theorem d4_32 : decode method_4_code 32 = .ok (.lload_n 2, 1) := by decide +kernel
theorem d4_33 : decode method_4_code 33 = .ok (.bipush 30, 2) := by decide +kernel
theorem d4_35 : decode method_4_code 35 = .ok (.invokestatic 9, 3) := by decide +kernel
theorem d4_38 : decode method_4_code 38 = .ok (.lreturn, 1) := by decide +kernel
theorem ef_4 (m : MethodId) (q0 : Int64) : entryFrame m #[(.long q0)] 4 = mkF m 0 #[.val (.long q0), .second, .unset, .unset] [] := by first | (simp [entryFrame, mkF, argsToLocals, Value.category]; done) | rfl
def Q1 (Z : State) (a0 : Addr) (q1 : Int64) (h0 : Heap) (n0 : Nat) (v : Option Value) (h : Heap) (L : List Loc) : Prop := v = none ∧ Fr n0 L ∧ Keep h0 h [a0] ∧ Fld Z h a0 "com/example/vagabond/vagabond/SplitMix64" "state" "J" (.long q1)
set_option maxRecDepth 65536 in
set_option maxHeartbeats 40000000 in
theorem rm1 (l : Launch) (Z : State) (aw : Array Value) (hw : ∀ d ∈ tables_1, d.before aw Z = true) (ws : List Jvm.Cond) (a0 : Addr) (q1 : Int64) (h0 : Heap) (n0 : Nat) (F : Fld Z h0 a0 "com/example/vagabond/vagabond/SplitMix64" "state" "J" (.long (0 : Int64))) (E : Exa Z h0 a0 "com/example/vagabond/vagabond/SplitMix64") (g : n0 ≤ a0) :
    MetFree l (⟨"com/example/vagabond/vagabond/SplitMix64", "<init>", "(J)V"⟩ : MethodName) (head1 (Jvm.Cond.code (⟨"com/example/vagabond/vagabond/SplitMix64", "<init>", "(J)V"⟩ : MethodName) prog_34_method_1_code 3 none :: ws) ({ frames := 1, cells := 0, slots := 0, locals := 12 } : Room)) (fun a U => a = #[(.ref a0), (.long q1)] ∧ Z.Warmed39 U.vm ∧ U.heap = h0) (fun _ _ _ _ _ => True) (fun _ U o U' => ∃ v L, o = .returned v ∧ Q1 Z a0 q1 h0 n0 v U'.heap L ∧ FrameEnd U o U' L ({ frames := 1, cells := 0, slots := 0, locals := 12 } : Room).cells ({ frames := 1, cells := 0, slots := 0, locals := 12 } : Room).slots) := by
  refine MetFree.of_bodySF (plainFor_of_name pn_0) hisR ?_
  intro p e s m args below meth c s₁ Bd hml0 hP _hKK
  obtain ⟨rfl, hZ, hh⟩ := hP
  have hx := Bd.exec
  have hby := Bd.bytes
  have hml : c.maxLocals = 3 := hml0
  have hown : s.vm.findClass "com/example/vagabond/vagabond/SplitMix64" = some m.cls := findClass_of_methodNamed Bd.named
  have hnm := (name_of_methodNamed Bd.named Bd.method).1
  have X0 : Stand p l e ({ frames := 1, cells := 0, slots := 0, locals := 12 } : Room) s m #[(.ref a0), (.long q1)] below meth c s₁ [] 0 0 := Stand.of_body Bd
  have e0 : s₁.heap = h0 := by rw [← hh, Bd.state]; rfl
  refine Ow.enter (Q := Q1 Z a0 q1 h0 n0) (ef_1 m a0 q1) ?_
  show Ow p e below s _ _ _ (s₁.setTop (mkF m 0 #[.val (.ref a0), .val (.long q1), .second] []))
  refine w_aloadN X0 hx (Jvm.hb hby d1_0) rfl rfl (pc' := 1) rfl ?_
  refine w_objinit X0 hx hZ hown (hw _ (List.mem_of_getElem? (i := 7) rfl)) (hw _ (List.mem_of_getElem? (i := 8) rfl)) (hw _ (List.mem_of_getElem? (i := 9) rfl)) e0 (Jvm.hb hby d1_1) (by rw [hml]; rfl) (by decide) (W := 0) (Nat.le_of_eq rfl) (by decide) (pc' := 4) rfl ?_
  intro T21 X21 e21
  refine w_aloadN X21 hx (Jvm.hb hby d1_4) rfl rfl (pc' := 5) rfl ?_
  refine w_lloadN X21 hx (Jvm.hb hby d1_5) rfl (pc' := 6) rfl ?_
  refine w_putfield X21 hx hZ hown (host := "") (Or.inl (hw _ (List.mem_of_getElem? (i := 10) rfl))) Via.refl e21 F E (Or.inl (hw _ (List.mem_of_getElem? (i := 11) rfl))) (hw _ (List.mem_of_getElem? (i := 2) rfl)) (ty := .long) (by decide) rfl rfl (Jvm.hb hby d1_6) (pc' := 9) rfl ?_
  intro T22 h22 X22 e22 W22
  have N1 := Fr.snoc X22 (Fr.nil n0) g
  exact w_return X22 hx Bd.returns (BodyLoose.notSynchronized Bd) (Nat.le_of_ble_eq_true rfl) (Nat.le_of_ble_eq_true rfl) (Jvm.hb hby d1_9) ⟨rfl, N1, by rw [e22]; exact Keep.of_wr W22, by rw [e22]; exact F.same W22⟩
def mix_t0 (y : Int64) : Int64 := ((y ^^^ (lsr64 y (30 : Int32))) * (-4658895280553007687 : Int64))
def mix_t1 (y : Int64) : Int64 := (((mix_t0 y) ^^^ (lsr64 (mix_t0 y) (27 : Int32))) * (-7723592293110705685 : Int64))
def mix (y : Int64) : Int64 := ((mix_t1 y) ^^^ (lsr64 (mix_t1 y) (31 : Int32)))
def Q3 (Z : State) (a0 : Addr) (x0 : Int64) (h0 : Heap) (n0 : Nat) (v : Option Value) (h : Heap) (L : List Loc) : Prop := v = some (.long (mix (x0 + (-7046029254386353131 : Int64)))) ∧ Fr n0 L ∧ Keep h0 h [a0] ∧ Fld Z h a0 "com/example/vagabond/vagabond/SplitMix64" "state" "J" (.long (x0 + (-7046029254386353131 : Int64)))
set_option maxRecDepth 65536 in
set_option maxHeartbeats 40000000 in
theorem rm3 (l : Launch) (Z : State) (aw : Array Value) (hw : ∀ d ∈ tables_1, d.before aw Z = true) (ws : List Jvm.Cond) (a0 : Addr) (x0 : Int64) (h0 : Heap) (n0 : Nat) (F : Fld Z h0 a0 "com/example/vagabond/vagabond/SplitMix64" "state" "J" (.long x0)) (E : Exa Z h0 a0 "com/example/vagabond/vagabond/SplitMix64") (g : n0 ≤ a0) :
    MetFree l (⟨"com/example/vagabond/vagabond/SplitMix64", "nextLong", "()J"⟩ : MethodName) (head1 (Jvm.Cond.code (⟨"com/example/vagabond/vagabond/SplitMix64", "nextLong", "()J"⟩ : MethodName) prog_34_method_2_code 3 (some .long) :: ws) ({ frames := 0, cells := 0, slots := 0, locals := 0 } : Room)) (fun a U => a = #[(.ref a0)] ∧ Z.Warmed39 U.vm ∧ U.heap = h0) (fun _ _ _ _ _ => True) (fun _ U o U' => ∃ v L, o = .returned v ∧ Q3 Z a0 x0 h0 n0 v U'.heap L ∧ FrameEnd U o U' L ({ frames := 0, cells := 0, slots := 0, locals := 0 } : Room).cells ({ frames := 0, cells := 0, slots := 0, locals := 0 } : Room).slots) := by
  refine MetFree.of_bodySF (plainFor_of_name pn_0) hisR ?_
  intro p e s m args below meth c s₁ Bd hml0 hP _hKK
  obtain ⟨rfl, hZ, hh⟩ := hP
  have hx := Bd.exec
  have hby := Bd.bytes
  have hml : c.maxLocals = 3 := hml0
  have hown : s.vm.findClass "com/example/vagabond/vagabond/SplitMix64" = some m.cls := findClass_of_methodNamed Bd.named
  have hnm := (name_of_methodNamed Bd.named Bd.method).1
  have X0 : Stand p l e ({ frames := 0, cells := 0, slots := 0, locals := 0 } : Room) s m #[(.ref a0)] below meth c s₁ [] 0 0 := Stand.of_body Bd
  have e0 : s₁.heap = h0 := by rw [← hh, Bd.state]; rfl
  refine Ow.enter (Q := Q3 Z a0 x0 h0 n0) (ef_3 m a0) ?_
  show Ow p e below s _ _ _ (s₁.setTop (mkF m 0 #[.val (.ref a0), .unset, .unset] []))
  refine w_aloadN X0 hx (Jvm.hb hby d3_0) rfl rfl (pc' := 1) rfl ?_
  refine w_dup X0 hx (Jvm.hb hby d3_1) rfl (pc' := 2) rfl ?_
  refine w_getfield X0 hx hZ hown (host := "") (Or.inl (hw _ (List.mem_of_getElem? (i := 10) rfl))) Via.refl e0 F (Jvm.hb hby d3_2) (pc' := 5) rfl ?_
  intro T23 X23 e23
  refine w_ldc2J X23 hx hZ hown (hw _ (List.mem_of_getElem? (i := 17) rfl)) (Jvm.hb hby d3_5) (pc' := 8) rfl ?_
  refine w_ladd X23 hx (Jvm.hb hby d3_8) (pc' := 9) rfl ?_
  refine w_putfield X23 hx hZ hown (host := "") (Or.inl (hw _ (List.mem_of_getElem? (i := 10) rfl))) Via.refl e23 F E (Or.inl (hw _ (List.mem_of_getElem? (i := 11) rfl))) (hw _ (List.mem_of_getElem? (i := 2) rfl)) (ty := .long) (by decide) rfl rfl (Jvm.hb hby d3_9) (pc' := 12) rfl ?_
  intro T24 h24 X24 e24 W24
  have F1 := F.same W24
  refine w_aloadN X24 hx (Jvm.hb hby d3_12) rfl rfl (pc' := 13) rfl ?_
  refine w_getfield X24 hx hZ hown (host := "") (Or.inl (hw _ (List.mem_of_getElem? (i := 10) rfl))) Via.refl e24 F1 (Jvm.hb hby d3_13) (pc' := 16) rfl ?_
  intro T25 X25 e25
  refine w_lstoreN X25 hx (Jvm.hb hby d3_16) #[.val (.ref a0), .val (.long (x0 + (-7046029254386353131 : Int64))), .second] rfl  (pc' := 17) rfl ?_
  refine w_lloadN X25 hx (Jvm.hb hby d3_17) rfl (pc' := 18) rfl ?_
  refine w_lloadN X25 hx (Jvm.hb hby d3_18) rfl (pc' := 19) rfl ?_
  refine w_bipush X25 hx (30 : Int32) (Jvm.hb hby d3_19) (by decide) (pc' := 21) rfl ?_
  refine w_lushr X25 hx (Jvm.hb hby d3_21) (pc' := 22) rfl ?_
  refine w_lxor X25 hx (Jvm.hb hby d3_22) (pc' := 23) rfl ?_
  refine w_ldc2J X25 hx hZ hown (hw _ (List.mem_of_getElem? (i := 18) rfl)) (Jvm.hb hby d3_23) (pc' := 26) rfl ?_
  refine w_lmul X25 hx (Jvm.hb hby d3_26) (pc' := 27) rfl ?_
  refine w_lstoreN X25 hx (Jvm.hb hby d3_27) #[.val (.ref a0), .val (.long (mix_t0 (x0 + (-7046029254386353131 : Int64)))), .second] rfl  (pc' := 28) rfl ?_
  refine w_lloadN X25 hx (Jvm.hb hby d3_28) rfl (pc' := 29) rfl ?_
  refine w_lloadN X25 hx (Jvm.hb hby d3_29) rfl (pc' := 30) rfl ?_
  refine w_bipush X25 hx (27 : Int32) (Jvm.hb hby d3_30) (by decide) (pc' := 32) rfl ?_
  refine w_lushr X25 hx (Jvm.hb hby d3_32) (pc' := 33) rfl ?_
  refine w_lxor X25 hx (Jvm.hb hby d3_33) (pc' := 34) rfl ?_
  refine w_ldc2J X25 hx hZ hown (hw _ (List.mem_of_getElem? (i := 19) rfl)) (Jvm.hb hby d3_34) (pc' := 37) rfl ?_
  refine w_lmul X25 hx (Jvm.hb hby d3_37) (pc' := 38) rfl ?_
  refine w_lstoreN X25 hx (Jvm.hb hby d3_38) #[.val (.ref a0), .val (.long (mix_t1 (x0 + (-7046029254386353131 : Int64)))), .second] rfl  (pc' := 39) rfl ?_
  refine w_lloadN X25 hx (Jvm.hb hby d3_39) rfl (pc' := 40) rfl ?_
  refine w_lloadN X25 hx (Jvm.hb hby d3_40) rfl (pc' := 41) rfl ?_
  refine w_bipush X25 hx (31 : Int32) (Jvm.hb hby d3_41) (by decide) (pc' := 43) rfl ?_
  refine w_lushr X25 hx (Jvm.hb hby d3_43) (pc' := 44) rfl ?_
  refine w_lxor X25 hx (Jvm.hb hby d3_44) (pc' := 45) rfl ?_
  have N1 := Fr.snoc X24 (Fr.nil n0) g
  exact w_lreturn X25 hx Bd.returns (BodyLoose.notSynchronized Bd) (Nat.le_of_ble_eq_true rfl) (Nat.le_of_ble_eq_true rfl) (Jvm.hb hby d3_45) ⟨rfl, N1, by rw [e25]; exact Keep.of_wr W24, by rw [e25]; exact F1⟩
def inv_t0 (q0 : Int64) : Int64 := (q0 * ((2 : Int64) - (q0 * q0)))
def inv_t1 (q0 : Int64) : Int64 := ((inv_t0 q0) * ((2 : Int64) - (q0 * (inv_t0 q0))))
def inv_t2 (q0 : Int64) : Int64 := ((inv_t1 q0) * ((2 : Int64) - (q0 * (inv_t1 q0))))
def inv_t3 (q0 : Int64) : Int64 := ((inv_t2 q0) * ((2 : Int64) - (q0 * (inv_t2 q0))))
def inv_t4 (q0 : Int64) : Int64 := ((inv_t3 q0) * ((2 : Int64) - (q0 * (inv_t3 q0))))
/-- SplitMix64NextLongPinLaw.inverse -/
def inv (q0 : Int64) : Int64 := (inv_t4 q0)
def Q6 (q0 : Int64) (h0 : Heap) (v : Option Value) (h : Heap) (L : List Loc) : Prop := v = some (.long (inv q0)) ∧ h = h0 ∧ L = []
set_option maxRecDepth 65536 in
set_option maxHeartbeats 40000000 in
theorem rm6 (l : Launch) (Z : State) (aw : Array Value) (hw : ∀ d ∈ tables_1, d.before aw Z = true) (ws : List Jvm.Cond) (q0 : Int64) (h0 : Heap) :
    MetFree l (⟨"com/example/vagabond/vagabond/SplitMix64NextLongPinLaw", "inverse", "(J)J"⟩ : MethodName) (head1 (Jvm.Cond.code (⟨"com/example/vagabond/vagabond/SplitMix64NextLongPinLaw", "inverse", "(J)J"⟩ : MethodName) method_2_code 4 (some .long) :: ws) ({ frames := 0, cells := 0, slots := 0, locals := 0 } : Room)) (fun a U => a = #[(.long q0)] ∧ Z.Warmed39 U.vm ∧ U.heap = h0) (fun _ _ _ _ _ => True) (fun _ U o U' => ∃ v L, o = .returned v ∧ Q6 q0 h0 v U'.heap L ∧ FrameEnd U o U' L ({ frames := 0, cells := 0, slots := 0, locals := 0 } : Room).cells ({ frames := 0, cells := 0, slots := 0, locals := 0 } : Room).slots) := by
  refine MetFree.of_bodySF (plainFor_of_name pn_1) hisR ?_
  intro p e s m args below meth c s₁ Bd hml0 hP _hKK
  obtain ⟨rfl, hZ, hh⟩ := hP
  have hx := Bd.exec
  have hby := Bd.bytes
  have hml : c.maxLocals = 4 := hml0
  have hown : s.vm.findClass "com/example/vagabond/vagabond/SplitMix64NextLongPinLaw" = some m.cls := findClass_of_methodNamed Bd.named
  have hnm := (name_of_methodNamed Bd.named Bd.method).1
  have X0 : Stand p l e ({ frames := 0, cells := 0, slots := 0, locals := 0 } : Room) s m #[(.long q0)] below meth c s₁ [] 0 0 := Stand.of_body Bd
  have e0 : s₁.heap = h0 := by rw [← hh, Bd.state]; rfl
  refine Ow.enter (Q := Q6 q0 h0) (ef_6 m q0) ?_
  show Ow p e below s _ _ _ (s₁.setTop (mkF m 0 #[.val (.long q0), .second, .unset, .unset] []))
  refine w_lloadN X0 hx (Jvm.hb hby d6_0) rfl (pc' := 1) rfl ?_
  refine w_lstoreN X0 hx (Jvm.hb hby d6_1) #[.val (.long q0), .second, .val (.long q0), .second] rfl  (pc' := 2) rfl ?_
  refine w_lloadN X0 hx (Jvm.hb hby d6_2) rfl (pc' := 3) rfl ?_
  refine w_ldc2J X0 hx hZ hown (hw _ (List.mem_of_getElem? (i := 31) rfl)) (Jvm.hb hby d6_3) (pc' := 6) rfl ?_
  refine w_lloadN X0 hx (Jvm.hb hby d6_6) rfl (pc' := 7) rfl ?_
  refine w_lloadN X0 hx (Jvm.hb hby d6_7) rfl (pc' := 8) rfl ?_
  refine w_lmul X0 hx (Jvm.hb hby d6_8) (pc' := 9) rfl ?_
  refine w_lsub X0 hx (Jvm.hb hby d6_9) (pc' := 10) rfl ?_
  refine w_lmul X0 hx (Jvm.hb hby d6_10) (pc' := 11) rfl ?_
  refine w_lstoreN X0 hx (Jvm.hb hby d6_11) #[.val (.long q0), .second, .val (.long (inv_t0 q0)), .second] rfl  (pc' := 12) rfl ?_
  refine w_lloadN X0 hx (Jvm.hb hby d6_12) rfl (pc' := 13) rfl ?_
  refine w_ldc2J X0 hx hZ hown (hw _ (List.mem_of_getElem? (i := 31) rfl)) (Jvm.hb hby d6_13) (pc' := 16) rfl ?_
  refine w_lloadN X0 hx (Jvm.hb hby d6_16) rfl (pc' := 17) rfl ?_
  refine w_lloadN X0 hx (Jvm.hb hby d6_17) rfl (pc' := 18) rfl ?_
  refine w_lmul X0 hx (Jvm.hb hby d6_18) (pc' := 19) rfl ?_
  refine w_lsub X0 hx (Jvm.hb hby d6_19) (pc' := 20) rfl ?_
  refine w_lmul X0 hx (Jvm.hb hby d6_20) (pc' := 21) rfl ?_
  refine w_lstoreN X0 hx (Jvm.hb hby d6_21) #[.val (.long q0), .second, .val (.long (inv_t1 q0)), .second] rfl  (pc' := 22) rfl ?_
  refine w_lloadN X0 hx (Jvm.hb hby d6_22) rfl (pc' := 23) rfl ?_
  refine w_ldc2J X0 hx hZ hown (hw _ (List.mem_of_getElem? (i := 31) rfl)) (Jvm.hb hby d6_23) (pc' := 26) rfl ?_
  refine w_lloadN X0 hx (Jvm.hb hby d6_26) rfl (pc' := 27) rfl ?_
  refine w_lloadN X0 hx (Jvm.hb hby d6_27) rfl (pc' := 28) rfl ?_
  refine w_lmul X0 hx (Jvm.hb hby d6_28) (pc' := 29) rfl ?_
  refine w_lsub X0 hx (Jvm.hb hby d6_29) (pc' := 30) rfl ?_
  refine w_lmul X0 hx (Jvm.hb hby d6_30) (pc' := 31) rfl ?_
  refine w_lstoreN X0 hx (Jvm.hb hby d6_31) #[.val (.long q0), .second, .val (.long (inv_t2 q0)), .second] rfl  (pc' := 32) rfl ?_
  refine w_lloadN X0 hx (Jvm.hb hby d6_32) rfl (pc' := 33) rfl ?_
  refine w_ldc2J X0 hx hZ hown (hw _ (List.mem_of_getElem? (i := 31) rfl)) (Jvm.hb hby d6_33) (pc' := 36) rfl ?_
  refine w_lloadN X0 hx (Jvm.hb hby d6_36) rfl (pc' := 37) rfl ?_
  refine w_lloadN X0 hx (Jvm.hb hby d6_37) rfl (pc' := 38) rfl ?_
  refine w_lmul X0 hx (Jvm.hb hby d6_38) (pc' := 39) rfl ?_
  refine w_lsub X0 hx (Jvm.hb hby d6_39) (pc' := 40) rfl ?_
  refine w_lmul X0 hx (Jvm.hb hby d6_40) (pc' := 41) rfl ?_
  refine w_lstoreN X0 hx (Jvm.hb hby d6_41) #[.val (.long q0), .second, .val (.long (inv_t3 q0)), .second] rfl  (pc' := 42) rfl ?_
  refine w_lloadN X0 hx (Jvm.hb hby d6_42) rfl (pc' := 43) rfl ?_
  refine w_ldc2J X0 hx hZ hown (hw _ (List.mem_of_getElem? (i := 31) rfl)) (Jvm.hb hby d6_43) (pc' := 46) rfl ?_
  refine w_lloadN X0 hx (Jvm.hb hby d6_46) rfl (pc' := 47) rfl ?_
  refine w_lloadN X0 hx (Jvm.hb hby d6_47) rfl (pc' := 48) rfl ?_
  refine w_lmul X0 hx (Jvm.hb hby d6_48) (pc' := 49) rfl ?_
  refine w_lsub X0 hx (Jvm.hb hby d6_49) (pc' := 50) rfl ?_
  refine w_lmul X0 hx (Jvm.hb hby d6_50) (pc' := 51) rfl ?_
  refine w_lstoreN X0 hx (Jvm.hb hby d6_51) #[.val (.long q0), .second, .val (.long (inv_t4 q0)), .second] rfl  (pc' := 52) rfl ?_
  refine w_lloadN X0 hx (Jvm.hb hby d6_52) rfl (pc' := 53) rfl ?_
  exact w_lreturn X0 hx Bd.returns (BodyLoose.notSynchronized Bd) (Nat.le_of_ble_eq_true rfl) (Nat.le_of_ble_eq_true rfl) (Jvm.hb hby d6_53) ⟨congrArg (fun z => some (Value.long z)) (show (inv_t4 q0) = inv q0 from by unfold inv; rfl), e0, rfl⟩
/-- SplitMix64NextLongPinLaw.unshift -/
def unsh (q0 : Int64) (p1 : Int32) : Int64 := ((q0 ^^^ (lsr64 q0 p1)) ^^^ (lsr64 q0 ((2 : Int32) * p1)))
def Q5 (q0 : Int64) (p1 : Int32) (h0 : Heap) (v : Option Value) (h : Heap) (L : List Loc) : Prop := v = some (.long (unsh q0 p1)) ∧ h = h0 ∧ L = []
set_option maxRecDepth 65536 in
set_option maxHeartbeats 40000000 in
theorem rm5 (l : Launch) (Z : State) (aw : Array Value) (hw : ∀ d ∈ tables_1, d.before aw Z = true) (ws : List Jvm.Cond) (q0 : Int64) (p1 : Int32) (h0 : Heap) :
    MetFree l (⟨"com/example/vagabond/vagabond/SplitMix64NextLongPinLaw", "unshift", "(JI)J"⟩ : MethodName) (head1 (Jvm.Cond.code (⟨"com/example/vagabond/vagabond/SplitMix64NextLongPinLaw", "unshift", "(JI)J"⟩ : MethodName) method_3_code 3 (some .long) :: ws) ({ frames := 0, cells := 0, slots := 0, locals := 0 } : Room)) (fun a U => a = #[(.long q0), (.int p1)] ∧ Z.Warmed39 U.vm ∧ U.heap = h0) (fun _ _ _ _ _ => True) (fun _ U o U' => ∃ v L, o = .returned v ∧ Q5 q0 p1 h0 v U'.heap L ∧ FrameEnd U o U' L ({ frames := 0, cells := 0, slots := 0, locals := 0 } : Room).cells ({ frames := 0, cells := 0, slots := 0, locals := 0 } : Room).slots) := by
  refine MetFree.of_bodySF (plainFor_of_name pn_1) hisR ?_
  intro p e s m args below meth c s₁ Bd hml0 hP _hKK
  obtain ⟨rfl, hZ, hh⟩ := hP
  have hx := Bd.exec
  have hby := Bd.bytes
  have hml : c.maxLocals = 3 := hml0
  have hown : s.vm.findClass "com/example/vagabond/vagabond/SplitMix64NextLongPinLaw" = some m.cls := findClass_of_methodNamed Bd.named
  have hnm := (name_of_methodNamed Bd.named Bd.method).1
  have X0 : Stand p l e ({ frames := 0, cells := 0, slots := 0, locals := 0 } : Room) s m #[(.long q0), (.int p1)] below meth c s₁ [] 0 0 := Stand.of_body Bd
  have e0 : s₁.heap = h0 := by rw [← hh, Bd.state]; rfl
  refine Ow.enter (Q := Q5 q0 p1 h0) (ef_5 m q0 p1) ?_
  show Ow p e below s _ _ _ (s₁.setTop (mkF m 0 #[.val (.long q0), .second, .val (.int p1)] []))
  refine w_lloadN X0 hx (Jvm.hb hby d5_0) rfl (pc' := 1) rfl ?_
  refine w_lloadN X0 hx (Jvm.hb hby d5_1) rfl (pc' := 2) rfl ?_
  refine w_iloadN X0 hx (Jvm.hb hby d5_2) rfl (pc' := 3) rfl ?_
  refine w_lushr X0 hx (Jvm.hb hby d5_3) (pc' := 4) rfl ?_
  refine w_lxor X0 hx (Jvm.hb hby d5_4) (pc' := 5) rfl ?_
  refine w_lloadN X0 hx (Jvm.hb hby d5_5) rfl (pc' := 6) rfl ?_
  refine w_iconst X0 hx (2 : Int32) (Jvm.hb hby d5_6) (by decide) (pc' := 7) rfl ?_
  refine w_iloadN X0 hx (Jvm.hb hby d5_7) rfl (pc' := 8) rfl ?_
  refine w_imul X0 hx (Jvm.hb hby d5_8) (pc' := 9) rfl ?_
  refine w_lushr X0 hx (Jvm.hb hby d5_9) (pc' := 10) rfl ?_
  refine w_lxor X0 hx (Jvm.hb hby d5_10) (pc' := 11) rfl ?_
  exact w_lreturn X0 hx Bd.returns (BodyLoose.notSynchronized Bd) (Nat.le_of_ble_eq_true rfl) (Nat.le_of_ble_eq_true rfl) (Jvm.hb hby d5_11) ⟨congrArg (fun z => some (Value.long z)) (show ((q0 ^^^ (lsr64 q0 p1)) ^^^ (lsr64 q0 ((2 : Int32) * p1))) = unsh q0 p1 from by unfold unsh; rfl), e0, rfl⟩
def unmix_t0 (q0 : Int64) : Int64 := ((unsh q0 (31 : Int32)) * (inv (-7723592293110705685 : Int64)))
def unmix_t1 (q0 : Int64) : Int64 := (unsh (unmix_t0 q0) (27 : Int32))
def unmix_t2 (q0 : Int64) : Int64 := ((unmix_t1 q0) * (inv (-4658895280553007687 : Int64)))
/-- SplitMix64NextLongPinLaw.unmix -/
def unmix (q0 : Int64) : Int64 := (unsh (unmix_t2 q0) (30 : Int32))
def Q4 (q0 : Int64) (h0 : Heap) (v : Option Value) (h : Heap) (L : List Loc) : Prop := v = some (.long (unmix q0)) ∧ h = h0 ∧ L = []
set_option maxRecDepth 65536 in
set_option maxHeartbeats 40000000 in
theorem rm4 (l : Launch) (Z : State) (aw : Array Value) (hw : ∀ d ∈ tables_1, d.before aw Z = true) (ws : List Jvm.Cond) (q0 : Int64) (h0 : Heap) :
    MetFree l (⟨"com/example/vagabond/vagabond/SplitMix64NextLongPinLaw", "unmix", "(J)J"⟩ : MethodName) (head1 (Jvm.Cond.code (⟨"com/example/vagabond/vagabond/SplitMix64NextLongPinLaw", "unmix", "(J)J"⟩ : MethodName) method_4_code 4 (some .long) :: ws) ({ frames := 1, cells := 0, slots := 0, locals := 17 } : Room)) (fun a U => a = #[(.long q0)] ∧ Z.Warmed39 U.vm ∧ U.heap = h0) (fun _ _ _ _ _ => True) (fun _ U o U' => ∃ v L, o = .returned v ∧ Q4 q0 h0 v U'.heap L ∧ FrameEnd U o U' L ({ frames := 1, cells := 0, slots := 0, locals := 17 } : Room).cells ({ frames := 1, cells := 0, slots := 0, locals := 17 } : Room).slots) := by
  refine MetFree.of_bodySF (plainFor_of_name pn_1) hisR ?_
  intro p e s m args below meth c s₁ Bd hml0 hP _hKK
  obtain ⟨rfl, hZ, hh⟩ := hP
  have hx := Bd.exec
  have hby := Bd.bytes
  have hml : c.maxLocals = 4 := hml0
  have hown : s.vm.findClass "com/example/vagabond/vagabond/SplitMix64NextLongPinLaw" = some m.cls := findClass_of_methodNamed Bd.named
  have hnm := (name_of_methodNamed Bd.named Bd.method).1
  have X0 : Stand p l e ({ frames := 1, cells := 0, slots := 0, locals := 17 } : Room) s m #[(.long q0)] below meth c s₁ [] 0 0 := Stand.of_body Bd
  have e0 : s₁.heap = h0 := by rw [← hh, Bd.state]; rfl
  refine Ow.enter (Q := Q4 q0 h0) (ef_4 m q0) ?_
  show Ow p e below s _ _ _ (s₁.setTop (mkF m 0 #[.val (.long q0), .second, .unset, .unset] []))
  refine w_lloadN X0 hx (Jvm.hb hby d4_0) rfl (pc' := 1) rfl ?_
  refine w_bipush X0 hx (31 : Int32) (Jvm.hb hby d4_1) (by decide) (pc' := 3) rfl ?_
  refine w_callS X0 hx hZ hown (hw _ (List.mem_of_getElem? (i := 24) rfl)) (hw _ (List.mem_of_getElem? (i := 25) rfl)) (hw _ (List.mem_of_getElem? (i := 22) rfl)) (hw _ (List.mem_of_getElem? (i := 26) rfl)) (by decide) (W := 0) (rm5 l Z aw hw [] q0 (31 : Int32) h0) e0 (by decide) (by decide) (by decide) (by decide) (Jvm.hb hby d4_3) (by rw [hml]; rfl) (argsL := [(.long q0), (.int (31 : Int32))]) (rest := []) pd_0 rfl rfl rfl (Nat.le_of_eq rfl) (pc' := 6) rfl ?_
  rintro _ T26 L26 X26 ⟨rfl, e26, rfl⟩
  show Ow p e below s _ _ _ (T26.setTop (mkF m 6 #[.val (.long q0), .second, .unset, .unset] [(.long (unsh q0 (31 : Int32)))]))
  refine w_lstoreN X26 hx (Jvm.hb hby d4_6) #[.val (.long q0), .second, .val (.long (unsh q0 (31 : Int32))), .second] rfl  (pc' := 7) rfl ?_
  refine w_lloadN X26 hx (Jvm.hb hby d4_7) rfl (pc' := 8) rfl ?_
  refine w_ldc2J X26 hx hZ hown (hw _ (List.mem_of_getElem? (i := 27) rfl)) (Jvm.hb hby d4_8) (pc' := 11) rfl ?_
  refine w_callS X26 hx hZ hown (hw _ (List.mem_of_getElem? (i := 28) rfl)) (hw _ (List.mem_of_getElem? (i := 29) rfl)) (hw _ (List.mem_of_getElem? (i := 22) rfl)) (hw _ (List.mem_of_getElem? (i := 30) rfl)) (by decide) (W := 2) (rm6 l Z aw hw [] (-7723592293110705685 : Int64) h0) e26 (by decide) (by decide) (by decide) (by decide) (Jvm.hb hby d4_11) (by rw [hml]; rfl) (argsL := [(.long (-7723592293110705685 : Int64))]) (rest := [(.long (unsh q0 (31 : Int32)))]) pd_1 rfl rfl rfl (Nat.le_of_eq rfl) (pc' := 14) rfl ?_
  rintro _ T27 L27 X27 ⟨rfl, e27, rfl⟩
  show Ow p e below s _ _ _ (T27.setTop (mkF m 14 #[.val (.long q0), .second, .val (.long (unsh q0 (31 : Int32))), .second] [(.long (inv (-7723592293110705685 : Int64))), (.long (unsh q0 (31 : Int32)))]))
  refine w_lmul X27 hx (Jvm.hb hby d4_14) (pc' := 15) rfl ?_
  refine w_lstoreN X27 hx (Jvm.hb hby d4_15) #[.val (.long q0), .second, .val (.long (unmix_t0 q0)), .second] rfl  (pc' := 16) rfl ?_
  refine w_lloadN X27 hx (Jvm.hb hby d4_16) rfl (pc' := 17) rfl ?_
  refine w_bipush X27 hx (27 : Int32) (Jvm.hb hby d4_17) (by decide) (pc' := 19) rfl ?_
  refine w_callS X27 hx hZ hown (hw _ (List.mem_of_getElem? (i := 24) rfl)) (hw _ (List.mem_of_getElem? (i := 25) rfl)) (hw _ (List.mem_of_getElem? (i := 22) rfl)) (hw _ (List.mem_of_getElem? (i := 26) rfl)) (by decide) (W := 0) (rm5 l Z aw hw [] (unmix_t0 q0) (27 : Int32) h0) e27 (by decide) (by decide) (by decide) (by decide) (Jvm.hb hby d4_19) (by rw [hml]; rfl) (argsL := [(.long (unmix_t0 q0)), (.int (27 : Int32))]) (rest := []) pd_0 rfl rfl rfl (Nat.le_of_eq rfl) (pc' := 22) rfl ?_
  rintro _ T28 L28 X28 ⟨rfl, e28, rfl⟩
  show Ow p e below s _ _ _ (T28.setTop (mkF m 22 #[.val (.long q0), .second, .val (.long (unmix_t0 q0)), .second] [(.long (unsh (unmix_t0 q0) (27 : Int32)))]))
  refine w_lstoreN X28 hx (Jvm.hb hby d4_22) #[.val (.long q0), .second, .val (.long (unmix_t1 q0)), .second] rfl  (pc' := 23) rfl ?_
  refine w_lloadN X28 hx (Jvm.hb hby d4_23) rfl (pc' := 24) rfl ?_
  refine w_ldc2J X28 hx hZ hown (hw _ (List.mem_of_getElem? (i := 32) rfl)) (Jvm.hb hby d4_24) (pc' := 27) rfl ?_
  refine w_callS X28 hx hZ hown (hw _ (List.mem_of_getElem? (i := 28) rfl)) (hw _ (List.mem_of_getElem? (i := 29) rfl)) (hw _ (List.mem_of_getElem? (i := 22) rfl)) (hw _ (List.mem_of_getElem? (i := 30) rfl)) (by decide) (W := 2) (rm6 l Z aw hw [] (-4658895280553007687 : Int64) h0) e28 (by decide) (by decide) (by decide) (by decide) (Jvm.hb hby d4_27) (by rw [hml]; rfl) (argsL := [(.long (-4658895280553007687 : Int64))]) (rest := [(.long (unmix_t1 q0))]) pd_1 rfl rfl rfl (Nat.le_of_eq rfl) (pc' := 30) rfl ?_
  rintro _ T29 L29 X29 ⟨rfl, e29, rfl⟩
  show Ow p e below s _ _ _ (T29.setTop (mkF m 30 #[.val (.long q0), .second, .val (.long (unmix_t1 q0)), .second] [(.long (inv (-4658895280553007687 : Int64))), (.long (unmix_t1 q0))]))
  refine w_lmul X29 hx (Jvm.hb hby d4_30) (pc' := 31) rfl ?_
  refine w_lstoreN X29 hx (Jvm.hb hby d4_31) #[.val (.long q0), .second, .val (.long (unmix_t2 q0)), .second] rfl  (pc' := 32) rfl ?_
  refine w_lloadN X29 hx (Jvm.hb hby d4_32) rfl (pc' := 33) rfl ?_
  refine w_bipush X29 hx (30 : Int32) (Jvm.hb hby d4_33) (by decide) (pc' := 35) rfl ?_
  refine w_callS X29 hx hZ hown (hw _ (List.mem_of_getElem? (i := 24) rfl)) (hw _ (List.mem_of_getElem? (i := 25) rfl)) (hw _ (List.mem_of_getElem? (i := 22) rfl)) (hw _ (List.mem_of_getElem? (i := 26) rfl)) (by decide) (W := 0) (rm5 l Z aw hw [] (unmix_t2 q0) (30 : Int32) h0) e29 (by decide) (by decide) (by decide) (by decide) (Jvm.hb hby d4_35) (by rw [hml]; rfl) (argsL := [(.long (unmix_t2 q0)), (.int (30 : Int32))]) (rest := []) pd_0 rfl rfl rfl (Nat.le_of_eq rfl) (pc' := 38) rfl ?_
  rintro _ T30 L30 X30 ⟨rfl, e30, rfl⟩
  show Ow p e below s _ _ _ (T30.setTop (mkF m 38 #[.val (.long q0), .second, .val (.long (unmix_t2 q0)), .second] [(.long (unsh (unmix_t2 q0) (30 : Int32)))]))
  exact w_lreturn X30 hx Bd.returns (BodyLoose.notSynchronized Bd) (Nat.le_of_ble_eq_true rfl) (Nat.le_of_ble_eq_true rfl) (Jvm.hb hby d4_38) ⟨congrArg (fun z => some (Value.long z)) (show (unsh (unmix_t2 q0) (30 : Int32)) = unmix q0 from by unfold unmix; rfl), e30, rfl⟩
theorem own_sh (x : Int64) (k : Int32) (n : Nat) (hk : ((k &&& 0x3f).toInt64.toUInt64.toBitVec % 64#64).toNat = n) : (lsr64 x k).toBitVec = x.toBitVec >>> n := by
  subst hk; rfl
theorem own_i64 {x y : Int64} (h : x.toBitVec = y.toBitVec) : x = y := Int64.toBitVec_inj.mp h
theorem own_unx (z : BitVec 64) (k : Nat) (hk : 22 ≤ k) : (z ^^^ z >>> k) ^^^ (z ^^^ z >>> k) >>> k ^^^ (z ^^^ z >>> k) >>> (2 * k) = z := by
  apply BitVec.eq_of_getLsbD_eq
  intro i hi
  simp only [BitVec.getLsbD_xor, BitVec.getLsbD_ushiftRight]
  have e1 : k + (k + i) = 2 * k + i := by omega
  rw [BitVec.getLsbD_of_ge z (k + (2 * k + i)) (by omega), e1]
  cases z.getLsbD i <;> cases z.getLsbD (k + i) <;> cases z.getLsbD (2 * k + i) <;> rfl
theorem own_unsh (z : Int64) (k : Int32) (n : Nat) (hn : 22 ≤ n) (h1 : ((k &&& 0x3f).toInt64.toUInt64.toBitVec % 64#64).toNat = n) (h2 : ((((2 : Int32) * k) &&& 0x3f).toInt64.toUInt64.toBitVec % 64#64).toNat = 2 * n) : unsh (z ^^^ lsr64 z k) k = z := by
  apply own_i64
  unfold unsh
  simp only [Int64.toBitVec_xor, own_sh _ _ _ h1, own_sh _ _ _ h2]
  exact own_unx _ n hn
theorem own_inv1 : (-7723592293110705685 : Int64) * inv (-7723592293110705685 : Int64) = 1 := by decide +kernel
theorem own_inv2 : (-4658895280553007687 : Int64) * inv (-4658895280553007687 : Int64) = 1 := by decide +kernel
theorem own_unmix (y : Int64) : unmix (mix y) = y := by
  have h1 : unsh (mix y) 31 = mix_t1 y := by unfold mix; exact own_unsh _ 31 31 (by decide) (by decide) (by decide)
  have h2 : mix_t1 y * inv (-7723592293110705685 : Int64) = mix_t0 y ^^^ lsr64 (mix_t0 y) 27 := by unfold mix_t1; rw [Int64.mul_assoc, own_inv1, Int64.mul_one]
  have h3 : unsh (mix_t0 y ^^^ lsr64 (mix_t0 y) 27) 27 = mix_t0 y := own_unsh _ 27 27 (by decide) (by decide) (by decide)
  have h4 : mix_t0 y * inv (-4658895280553007687 : Int64) = y ^^^ lsr64 y 30 := by unfold mix_t0; rw [Int64.mul_assoc, own_inv2, Int64.mul_one]
  have h5 : unsh (y ^^^ lsr64 y 30) 30 = y := own_unsh _ 30 30 (by decide) (by decide) (by decide)
  simp only [unmix, unmix_t0, unmix_t1, unmix_t2, h1, h2, h3, h4, h5]
theorem own_law1 (q0 : Int64) : (unmix (mix (q0 + (-7046029254386353131 : Int64)))) = (q0 + (-7046029254386353131 : Int64)) := own_unmix _
theorem own_law2 (q0 : Int64) : (unmix (mix ((q0 + (-7046029254386353131 : Int64)) + (-7046029254386353131 : Int64)))) = (q0 + ((2 : Int64) * (-7046029254386353131 : Int64))) := by
  rw [own_unmix, Int64.add_assoc]; rfl
theorem own_law3 (q0 : Int64) : (unmix (mix (((q0 + (-7046029254386353131 : Int64)) + (-7046029254386353131 : Int64)) + (-7046029254386353131 : Int64)))) = (q0 + ((3 : Int64) * (-7046029254386353131 : Int64))) := by
  rw [own_unmix, Int64.add_assoc, Int64.add_assoc]; rfl
theorem pd_2 : parseMethodDescriptor "(J)V" = some ⟨[.long], none⟩ := by decide +kernel
theorem pd_3 : parseMethodDescriptor "()J" = some ⟨[], some .long⟩ := by decide +kernel
theorem ef_0 (m : MethodId) (q0 : Int64) : entryFrame m #[(.long q0)] maxLocals = mkF m 0 #[.val (.long q0), .second, .unset, .unset, .unset, .unset, .unset, .unset, .unset, .unset, .unset] [] := by first | (simp [entryFrame, mkF, argsToLocals, Value.category, maxLocals]; done) | rfl
def Q0 (q0 : Int64) (n0 : Nat) (v : Option Value) (h : Heap) (L : List Loc) : Prop := v = some (.int 1) ∧ Fr n0 L
set_option maxRecDepth 65536 in
set_option maxHeartbeats 40000000 in
theorem rm0 (l : Launch) (Z : State) (aw : Array Value) (hw : ∀ d ∈ tables_1, d.before aw Z = true) (ws : List Jvm.Cond) (q0 : Int64) (h0 : Heap) (n0 : Nat) (Z0 : n0 ≤ h0.size) :
    MetFree l x (head1 (Jvm.Cond.code x code maxLocals ret :: ws) room_1) (fun a U => a = #[(.long q0)] ∧ Z.Warmed39 U.vm ∧ U.heap = h0) (fun _ _ _ _ _ => True) (fun _ U o U' => ∃ v L, o = .returned v ∧ Q0 q0 n0 v U'.heap L ∧ FrameEnd U o U' L 16 128) := by
  refine MetFree.of_bodySF (plainFor_of_name pn_1) hisR ?_
  intro p e s m args below meth c s₁ Bd hml0 hP _hKK
  obtain ⟨rfl, hZ, hh⟩ := hP
  have hx := Bd.exec
  have hby := Bd.bytes
  have hml : c.maxLocals = 11 := hml0
  have hown : s.vm.findClass "com/example/vagabond/vagabond/SplitMix64NextLongPinLaw" = some m.cls := findClass_of_methodNamed Bd.named
  have hnm := (name_of_methodNamed Bd.named Bd.method).1
  have X0 : Stand p l e room_1 s m #[(.long q0)] below meth c s₁ [] 0 0 := Stand.of_body Bd
  have e0 : s₁.heap = h0 := by rw [← hh, Bd.state]; rfl
  refine Ow.enter (Q := Q0 q0 n0) (ef_0 m q0) ?_
  show Ow p e below s _ _ _ (s₁.setTop (mkF m 0 #[.val (.long q0), .second, .unset, .unset, .unset, .unset, .unset, .unset, .unset, .unset, .unset] []))
  refine w_ldc2J X0 hx hZ hown (hw _ (List.mem_of_getElem? (i := 0) rfl)) (Jvm.hb hby at_0) (pc' := 3) rfl ?_
  refine w_lstoreN X0 hx (Jvm.hb hby at_3) #[.val (.long q0), .second, .val (.long (-7046029254386353131 : Int64)), .second, .unset, .unset, .unset, .unset, .unset, .unset, .unset] rfl  (pc' := 4) rfl ?_
  refine w_new X0 hx hZ hown (hw _ (List.mem_of_getElem? (i := 1) rfl)) (hw _ (List.mem_of_getElem? (i := 2) rfl)) (hw _ (List.mem_of_getElem? (i := 3) rfl)) e0 (Jvm.hb hby at_4) (by decide) (by decide) (pc' := 7) rfl ?_
  intro T31 h31 a31 g31 X31 e31 E31 A31 D31
  have F0 : Fld Z h31 a31 "com/example/vagabond/vagabond/SplitMix64" "state" "J" (.long (0 : Int64)) := D31 (Or.inl (hw _ (List.mem_of_getElem? (i := 11) rfl))) (ty := .long) (by decide)
  have G : n0 ≤ a31 := Nat.le_trans Z0 (Nat.le_of_eq g31.symm)
  refine w_dup X31 hx (Jvm.hb hby at_7) rfl (pc' := 8) rfl ?_
  refine w_lloadN X31 hx (Jvm.hb hby at_8) rfl (pc' := 9) rfl ?_
  refine w_callN X31 hx hZ rfl hown (hw _ (List.mem_of_getElem? (i := 4) rfl)) (hw _ (List.mem_of_getElem? (i := 5) rfl)) (hw _ (List.mem_of_getElem? (i := 3) rfl)) (hw _ (List.mem_of_getElem? (i := 6) rfl)) (by decide) (W := 1) (rm1 l Z aw hw [] a31 q0 h31 n0 F0 A31 G) e31 (by decide) (by decide) (by decide) (by decide) (Jvm.hb hby at_9) (by rw [hml]; rfl) (a := a31) (argsL := [(.long q0)]) (rest := [(.ref a31)]) pd_2 rfl rfl rfl (Nat.le_of_eq rfl) (pc' := 12) rfl ?_
  rintro _ T32 L32 X32 ⟨rfl, N32, K32, F32⟩
  show Ow p e below s _ _ _ (T32.setTop (mkF m 12 #[.val (.long q0), .second, .val (.long (-7046029254386353131 : Int64)), .second, .unset, .unset, .unset, .unset, .unset, .unset, .unset] [(.ref a31)]))
  have E32 := A31.keep K32
  refine w_astore X32 hx (Jvm.hb hby at_12) #[.val (.long q0), .second, .val (.long (-7046029254386353131 : Int64)), .second, .val (.ref a31), .unset, .unset, .unset, .unset, .unset, .unset] rfl rfl (pc' := 14) rfl ?_
  refine w_aload X32 hx (Jvm.hb hby at_14) rfl rfl (pc' := 16) rfl ?_
  refine w_callV X32 hx hZ hown (hw _ (List.mem_of_getElem? (i := 12) rfl)) (hw _ (List.mem_of_getElem? (i := 13) rfl)) (notFace_of_selects (args := #[]) (mvT hZ (hw _ (List.mem_of_getElem? (i := 15) rfl)))) (hw _ (List.mem_of_getElem? (i := 15) rfl)) (hw _ (List.mem_of_getElem? (i := 14) rfl)) (hw _ (List.mem_of_getElem? (i := 3) rfl)) (hw _ (List.mem_of_getElem? (i := 16) rfl)) (by decide) (W := 0) (rm3 l Z aw hw [] a31 q0 T32.heap n0 F32 E32 G) rfl (by decide) (by decide) (by decide) (by decide) E32 (Jvm.hb hby at_16) (by rw [hml]; rfl) (argsL := []) (rest := []) pd_3 rfl rfl rfl (Nat.le_of_eq rfl) (pc' := 19) rfl ?_
  rintro _ T33 L33 X33 ⟨rfl, N33, K33, F33⟩
  show Ow p e below s _ _ _ (T33.setTop (mkF m 19 #[.val (.long q0), .second, .val (.long (-7046029254386353131 : Int64)), .second, .val (.ref a31), .unset, .unset, .unset, .unset, .unset, .unset] [(.long (mix (q0 + (-7046029254386353131 : Int64))))]))
  have E33 := E32.keep K33
  have M33 := Fr.app N32 N33
  refine w_lstore X33 hx (Jvm.hb hby at_19) #[.val (.long q0), .second, .val (.long (-7046029254386353131 : Int64)), .second, .val (.ref a31), .val (.long (mix (q0 + (-7046029254386353131 : Int64)))), .second, .unset, .unset, .unset, .unset] rfl  (pc' := 21) rfl ?_
  refine w_aload X33 hx (Jvm.hb hby at_21) rfl rfl (pc' := 23) rfl ?_
  refine w_callV X33 hx hZ hown (hw _ (List.mem_of_getElem? (i := 12) rfl)) (hw _ (List.mem_of_getElem? (i := 13) rfl)) (notFace_of_selects (args := #[]) (mvT hZ (hw _ (List.mem_of_getElem? (i := 15) rfl)))) (hw _ (List.mem_of_getElem? (i := 15) rfl)) (hw _ (List.mem_of_getElem? (i := 14) rfl)) (hw _ (List.mem_of_getElem? (i := 3) rfl)) (hw _ (List.mem_of_getElem? (i := 16) rfl)) (by decide) (W := 0) (rm3 l Z aw hw [] a31 (q0 + (-7046029254386353131 : Int64)) T33.heap n0 F33 E33 G) rfl (by decide) (by decide) (by decide) (by decide) E33 (Jvm.hb hby at_23) (by rw [hml]; rfl) (argsL := []) (rest := []) pd_3 rfl rfl rfl (Nat.le_of_eq rfl) (pc' := 26) rfl ?_
  rintro _ T34 L34 X34 ⟨rfl, N34, K34, F34⟩
  show Ow p e below s _ _ _ (T34.setTop (mkF m 26 #[.val (.long q0), .second, .val (.long (-7046029254386353131 : Int64)), .second, .val (.ref a31), .val (.long (mix (q0 + (-7046029254386353131 : Int64)))), .second, .unset, .unset, .unset, .unset] [(.long (mix ((q0 + (-7046029254386353131 : Int64)) + (-7046029254386353131 : Int64))))]))
  have E34 := E33.keep K34
  have M34 := Fr.app M33 N34
  refine w_lstore X34 hx (Jvm.hb hby at_26) #[.val (.long q0), .second, .val (.long (-7046029254386353131 : Int64)), .second, .val (.ref a31), .val (.long (mix (q0 + (-7046029254386353131 : Int64)))), .second, .val (.long (mix ((q0 + (-7046029254386353131 : Int64)) + (-7046029254386353131 : Int64)))), .second, .unset, .unset] rfl  (pc' := 28) rfl ?_
  refine w_aload X34 hx (Jvm.hb hby at_28) rfl rfl (pc' := 30) rfl ?_
  refine w_callV X34 hx hZ hown (hw _ (List.mem_of_getElem? (i := 12) rfl)) (hw _ (List.mem_of_getElem? (i := 13) rfl)) (notFace_of_selects (args := #[]) (mvT hZ (hw _ (List.mem_of_getElem? (i := 15) rfl)))) (hw _ (List.mem_of_getElem? (i := 15) rfl)) (hw _ (List.mem_of_getElem? (i := 14) rfl)) (hw _ (List.mem_of_getElem? (i := 3) rfl)) (hw _ (List.mem_of_getElem? (i := 16) rfl)) (by decide) (W := 0) (rm3 l Z aw hw [] a31 ((q0 + (-7046029254386353131 : Int64)) + (-7046029254386353131 : Int64)) T34.heap n0 F34 E34 G) rfl (by decide) (by decide) (by decide) (by decide) E34 (Jvm.hb hby at_30) (by rw [hml]; rfl) (argsL := []) (rest := []) pd_3 rfl rfl rfl (Nat.le_of_eq rfl) (pc' := 33) rfl ?_
  rintro _ T35 L35 X35 ⟨rfl, N35, K35, F35⟩
  show Ow p e below s _ _ _ (T35.setTop (mkF m 33 #[.val (.long q0), .second, .val (.long (-7046029254386353131 : Int64)), .second, .val (.ref a31), .val (.long (mix (q0 + (-7046029254386353131 : Int64)))), .second, .val (.long (mix ((q0 + (-7046029254386353131 : Int64)) + (-7046029254386353131 : Int64)))), .second, .unset, .unset] [(.long (mix (((q0 + (-7046029254386353131 : Int64)) + (-7046029254386353131 : Int64)) + (-7046029254386353131 : Int64))))]))
  have E35 := E34.keep K35
  have M35 := Fr.app M34 N35
  refine w_lstore X35 hx (Jvm.hb hby at_33) #[.val (.long q0), .second, .val (.long (-7046029254386353131 : Int64)), .second, .val (.ref a31), .val (.long (mix (q0 + (-7046029254386353131 : Int64)))), .second, .val (.long (mix ((q0 + (-7046029254386353131 : Int64)) + (-7046029254386353131 : Int64)))), .second, .val (.long (mix (((q0 + (-7046029254386353131 : Int64)) + (-7046029254386353131 : Int64)) + (-7046029254386353131 : Int64)))), .second] rfl  (pc' := 35) rfl ?_
  refine w_lload X35 hx (Jvm.hb hby at_35) rfl (pc' := 37) rfl ?_
  refine w_callS X35 hx hZ hown (hw _ (List.mem_of_getElem? (i := 20) rfl)) (hw _ (List.mem_of_getElem? (i := 21) rfl)) (hw _ (List.mem_of_getElem? (i := 22) rfl)) (hw _ (List.mem_of_getElem? (i := 23) rfl)) (by decide) (W := 0) (rm4 l Z aw hw [] (mix (q0 + (-7046029254386353131 : Int64))) T35.heap) rfl (by decide) (by decide) (by decide) (by decide) (Jvm.hb hby at_37) (by rw [hml]; rfl) (argsL := [(.long (mix (q0 + (-7046029254386353131 : Int64))))]) (rest := []) pd_1 rfl rfl rfl (Nat.le_of_eq rfl) (pc' := 40) rfl ?_
  rintro _ T36 L36 X36 ⟨rfl, e36, rfl⟩
  show Ow p e below s _ _ _ (T36.setTop (mkF m 40 #[.val (.long q0), .second, .val (.long (-7046029254386353131 : Int64)), .second, .val (.ref a31), .val (.long (mix (q0 + (-7046029254386353131 : Int64)))), .second, .val (.long (mix ((q0 + (-7046029254386353131 : Int64)) + (-7046029254386353131 : Int64)))), .second, .val (.long (mix (((q0 + (-7046029254386353131 : Int64)) + (-7046029254386353131 : Int64)) + (-7046029254386353131 : Int64)))), .second] [(.long (unmix (mix (q0 + (-7046029254386353131 : Int64)))))]))
  refine w_lloadN X36 hx (Jvm.hb hby at_40) rfl (pc' := 41) rfl ?_
  refine w_lloadN X36 hx (Jvm.hb hby at_41) rfl (pc' := 42) rfl ?_
  refine w_ladd X36 hx (Jvm.hb hby at_42) (pc' := 43) rfl ?_
  refine w_lcmp_ne X36 hx (Jvm.hb hby at_43) (Jvm.hb hby at_44) rfl (by decide) (pcT := 83) (by decide) (pcF := 47) rfl (fun q => absurd (own_law1 q0) q) (fun _ => ?_)
  refine w_lload X36 hx (Jvm.hb hby at_47) rfl (pc' := 49) rfl ?_
  refine w_callS X36 hx hZ hown (hw _ (List.mem_of_getElem? (i := 20) rfl)) (hw _ (List.mem_of_getElem? (i := 21) rfl)) (hw _ (List.mem_of_getElem? (i := 22) rfl)) (hw _ (List.mem_of_getElem? (i := 23) rfl)) (by decide) (W := 0) (rm4 l Z aw hw [] (mix ((q0 + (-7046029254386353131 : Int64)) + (-7046029254386353131 : Int64))) T35.heap) e36 (by decide) (by decide) (by decide) (by decide) (Jvm.hb hby at_49) (by rw [hml]; rfl) (argsL := [(.long (mix ((q0 + (-7046029254386353131 : Int64)) + (-7046029254386353131 : Int64))))]) (rest := []) pd_1 rfl rfl rfl (Nat.le_of_eq rfl) (pc' := 52) rfl ?_
  rintro _ T37 L37 X37 ⟨rfl, e37, rfl⟩
  show Ow p e below s _ _ _ (T37.setTop (mkF m 52 #[.val (.long q0), .second, .val (.long (-7046029254386353131 : Int64)), .second, .val (.ref a31), .val (.long (mix (q0 + (-7046029254386353131 : Int64)))), .second, .val (.long (mix ((q0 + (-7046029254386353131 : Int64)) + (-7046029254386353131 : Int64)))), .second, .val (.long (mix (((q0 + (-7046029254386353131 : Int64)) + (-7046029254386353131 : Int64)) + (-7046029254386353131 : Int64)))), .second] [(.long (unmix (mix ((q0 + (-7046029254386353131 : Int64)) + (-7046029254386353131 : Int64)))))]))
  refine w_lloadN X37 hx (Jvm.hb hby at_52) rfl (pc' := 53) rfl ?_
  refine w_ldc2J X37 hx hZ hown (hw _ (List.mem_of_getElem? (i := 31) rfl)) (Jvm.hb hby at_53) (pc' := 56) rfl ?_
  refine w_lloadN X37 hx (Jvm.hb hby at_56) rfl (pc' := 57) rfl ?_
  refine w_lmul X37 hx (Jvm.hb hby at_57) (pc' := 58) rfl ?_
  refine w_ladd X37 hx (Jvm.hb hby at_58) (pc' := 59) rfl ?_
  refine w_lcmp_ne X37 hx (Jvm.hb hby at_59) (Jvm.hb hby at_60) rfl (by decide) (pcT := 83) (by decide) (pcF := 63) rfl (fun q => absurd (own_law2 q0) q) (fun _ => ?_)
  refine w_lload X37 hx (Jvm.hb hby at_63) rfl (pc' := 65) rfl ?_
  refine w_callS X37 hx hZ hown (hw _ (List.mem_of_getElem? (i := 20) rfl)) (hw _ (List.mem_of_getElem? (i := 21) rfl)) (hw _ (List.mem_of_getElem? (i := 22) rfl)) (hw _ (List.mem_of_getElem? (i := 23) rfl)) (by decide) (W := 0) (rm4 l Z aw hw [] (mix (((q0 + (-7046029254386353131 : Int64)) + (-7046029254386353131 : Int64)) + (-7046029254386353131 : Int64))) T35.heap) e37 (by decide) (by decide) (by decide) (by decide) (Jvm.hb hby at_65) (by rw [hml]; rfl) (argsL := [(.long (mix (((q0 + (-7046029254386353131 : Int64)) + (-7046029254386353131 : Int64)) + (-7046029254386353131 : Int64))))]) (rest := []) pd_1 rfl rfl rfl (Nat.le_of_eq rfl) (pc' := 68) rfl ?_
  rintro _ T38 L38 X38 ⟨rfl, e38, rfl⟩
  show Ow p e below s _ _ _ (T38.setTop (mkF m 68 #[.val (.long q0), .second, .val (.long (-7046029254386353131 : Int64)), .second, .val (.ref a31), .val (.long (mix (q0 + (-7046029254386353131 : Int64)))), .second, .val (.long (mix ((q0 + (-7046029254386353131 : Int64)) + (-7046029254386353131 : Int64)))), .second, .val (.long (mix (((q0 + (-7046029254386353131 : Int64)) + (-7046029254386353131 : Int64)) + (-7046029254386353131 : Int64)))), .second] [(.long (unmix (mix (((q0 + (-7046029254386353131 : Int64)) + (-7046029254386353131 : Int64)) + (-7046029254386353131 : Int64)))))]))
  refine w_lloadN X38 hx (Jvm.hb hby at_68) rfl (pc' := 69) rfl ?_
  refine w_ldc2J X38 hx hZ hown (hw _ (List.mem_of_getElem? (i := 33) rfl)) (Jvm.hb hby at_69) (pc' := 72) rfl ?_
  refine w_lloadN X38 hx (Jvm.hb hby at_72) rfl (pc' := 73) rfl ?_
  refine w_lmul X38 hx (Jvm.hb hby at_73) (pc' := 74) rfl ?_
  refine w_ladd X38 hx (Jvm.hb hby at_74) (pc' := 75) rfl ?_
  refine w_lcmp_ne X38 hx (Jvm.hb hby at_75) (Jvm.hb hby at_76) rfl (by decide) (pcT := 83) (by decide) (pcF := 79) rfl (fun q => absurd (own_law3 q0) q) (fun _ => ?_)
  refine w_iconst X38 hx (1 : Int32) (Jvm.hb hby at_79) (by decide) (pc' := 80) rfl ?_
  refine w_goto X38 hx (Jvm.hb hby at_80) (by decide) (pc' := 84) (by decide) ?_
  exact w_zreturn X38 hx Bd.returns (Or.inr rfl) (BodyLoose.notSynchronized Bd) (Nat.le_of_ble_eq_true rfl) (Nat.le_of_ble_eq_true rfl) (Jvm.hb hby at_84) ⟨rfl, by simpa using M35⟩
set_option maxRecDepth 65536 in
set_option maxHeartbeats 40000000 in
theorem comes_1 {Post : Tables → Env → Array Value → State → Outcome → State → Prop} (hpost : ∀ tb e args s v u, (limb_1_1.after args s (.returned v) u = true ∧ limb_1_2.after args s (.returned v) u = true ∧ True) → FrameEnd s (.returned v) u (Jvm.fieldLocs frame_1_writes args s ++ Jvm.arrayLocs frame_1_arrays args s ++ Jvm.staticLocs frame_1_statics s) 16 128 → Post tb e args s (.returned v) u) :
    ArmFor flags0 classFile x code maxLocals ret World_1 tables_1 room_1 Calls_1 rest_1 Pre_1 Post := by
  intro l hfl _ _ p e ha hc hk s m args below hf hA hF happ hP
  obtain ⟨hcalls, hrest, hpre⟩ := hP
  obtain ⟨-, -, -, hnamed, -, -, -, hat⟩ := (Spec.applies_iff hf).mp happ
  obtain ⟨hg, hn⟩ := and_e (Cond.before_iff.mp (show (Jvm.Cond.and given_1 narrow_1).before args s = true from hpre))
  obtain ⟨g1, g2⟩ := and_e hg
  obtain ⟨w0, rfl⟩ : ∃ w0 : Value, args = #[w0] := by
    have hs : args.size = 1 := by simpa [Cond.value, given_1] using g1
    obtain ⟨L⟩ := args
    match L, hs with
    | [w0], _ => exact ⟨w0, rfl⟩
  have hw := fun d (hd : d ∈ tables_1) => atoms_spec (ws := Jvm.Cond.code x code maxLocals ret :: tables_1) hat d (List.mem_cons_of_mem _ hd)
  obtain ⟨i0, ei0⟩ := isL_v g2
  obtain rfl : w0 = (.long i0) := Option.some.inj ei0
  obtain ⟨n, o, h1, h2, h3, _, L, rfl, ⟨rfl, N⟩, hq⟩ := rm0 l s _ hw tables_1 i0 s.heap s.heap.size (Nat.le_refl _) p e ha hc hk s m _ below hf ((Spec.applies_iff_loose hf).mp happ).1 ⟨rfl, State.Warmed39.refl s, rfl⟩ trivial
  refine ⟨n, _, h1, h2, h3, hpost _ _ _ _ _ _ ⟨Cond.after_iff.mpr rfl, Cond.after_iff.mpr (eq_i res_at (Term.int_eval (1)) rfl), trivial⟩ ⟨hq.1, hq.2.1, (hq.2.2.sift fun y hy => Or.inr (N y hy)).mono (by decide) (by decide)⟩⟩
theorem main_1_1 : Claimed_1_1 := comes_1 fun _ _ _ _ _ _ h hF => ⟨h.1, hF⟩
theorem main_1_2 : Claimed_1_2 := comes_1 fun _ _ _ _ _ _ h hF => ⟨h.2.1, hF⟩
end Jvm.Pilot.@@N@@
namespace Jvm.Pilot.@@N@@
open Jvm Jvm.ClassFile Sem Op Lib Jvm.Free Jvm.Stand Jvm.Pilot.@@N@@.Jvm.D
/-! MADE BY PROGRAM (witnessworld.py) out of the Statement's table words and the real class files: 9 classes; the members and pool entries that the words name. The judged class is class 1, her method 4. -/
namespace start1
open Jvm.ClassFile
def u (s : String) : CpInfo := .utf8 (stringToUtf16 s)
/-- a pool by its gaps: so many unusable entries, then the entry; so many at the end -/
def gap : Nat → List CpInfo → List CpInfo
  | 0, r => r
  | n + 1, r => .unusable :: gap n r
def poolList (es : List (Nat × CpInfo)) (last : Nat) : List CpInfo := es.foldr (fun e r => gap e.1 (e.2 :: r)) (gap last [])
def pool (es : List (Nat × CpInfo)) (last : Nat) : Array CpInfo := ⟨poolList es last⟩
def fileOf (pool : Array CpInfo) (this : Nat) (attrs : Array Attribute := #[]) (ms : Array MethodInfo := #[]) (fl : Nat := 33) (sup : Nat := 0) (ifs : Array Nat := #[]) (fds : Array FieldInfo := #[]) : ClassFile where
  minorVersion := 0
  majorVersion := 65
  constantPool := pool
  accessFlags := fl
  thisClass := this
  superClass := sup
  interfaces := ifs
  fields := fds
  methods := ms
  attributes := attrs
def plain (name : String) (sup : Option ClassId) : Class where
  name := name
  kind := .ordinary
  loader := none
  accessFlags := 33
  super := sup
  interfaces := #[]
  cf := none
  fields := #[]
  methods := #[]
  instanceTypes := #[]
  staticTypes := #[]
  resolved := #[]
  callSites := []
  init := .initialized
  statics := none
  mirror := none

def pool0 : Array CpInfo := pool [(5, u "<init>"), (0, u "()V"), (1, .class_ 10), (1, u "java/lang/Object")] 113

def k0c0 : Code := { maxStack := 0, maxLocals := 1, code := object_method_1_code, exceptionTable := #[], attributes := #[] }
def k0m0 : Method := { name := "<init>", desc := "()V", sig := { parameters := [], returnType := none }, accessFlags := 1, code := some k0c0 }
/-- java/lang/Object -/
def k0 : Class := { plain "java/lang/Object" none with
  accessFlags := 33
  interfaces := #[]
  cf := some (fileOf pool0 8 #[] #[{ accessFlags := 1, nameIndex := 5, descriptorIndex := 6, attributes := #[] }] 33 0 #[] #[])
  fields := #[]
  methods := #[k0m0]
  instanceTypes := #[]
  staticTypes := #[]
  resolved := Array.replicate 124 none
  statics := none }

def pool1 : Array CpInfo := pool [(2, .class_ 4), (1, u "java/lang/Object"), (0, u "<init>"), (0, u "()V"), (0, .long 2), (1, .methodref 10 11), (0, .class_ 12), (0, .nameAndType 13 14), (0, u "com/example/vagabond/vagabond/SplitMix64NextLongPinLaw"), (0, u "unshift"), (0, u "(JI)J"), (0, .long 10723151780598845931), (1, .methodref 10 18), (0, .nameAndType 19 20), (0, u "inverse"), (0, u "(J)J"), (0, .long 13787848793156543929), (1, .long 11400714819323198485), (1, .class_ 26), (0, u "com/example/vagabond/vagabond/SplitMix64"), (0, .methodref 25 28), (0, .nameAndType 5 29), (0, u "(J)V"), (0, .methodref 25 31), (0, .nameAndType 32 33), (0, u "nextLong"), (0, u "()J"), (0, .methodref 10 35), (0, .nameAndType 36 20), (0, u "unmix"), (0, .long 3), (3, u "law"), (0, u "(J)Z")] 3

def k1m0 : Method := { name := "<init>", desc := "()V", sig := { parameters := [], returnType := none }, accessFlags := 1, code := none }
def k1c1 : Code := { maxStack := 8, maxLocals := 4, code := method_2_code, exceptionTable := #[], attributes := #[] }
def k1m1 : Method := { name := "inverse", desc := "(J)J", sig := { parameters := [.long], returnType := some .long }, accessFlags := 10, code := some k1c1 }
def k1c2 : Code := { maxStack := 6, maxLocals := 3, code := method_3_code, exceptionTable := #[], attributes := #[] }
def k1m2 : Method := { name := "unshift", desc := "(JI)J", sig := { parameters := [.long, .int], returnType := some .long }, accessFlags := 10, code := some k1c2 }
def k1c3 : Code := { maxStack := 4, maxLocals := 4, code := method_4_code, exceptionTable := #[], attributes := #[] }
def k1m3 : Method := { name := "unmix", desc := "(J)J", sig := { parameters := [.long], returnType := some .long }, accessFlags := 10, code := some k1c3 }
def k1c4 : Code := { maxStack := 8, maxLocals := 11, code := code, exceptionTable := #[], attributes := #[] }
def k1m4 : Method := { name := "law", desc := "(J)Z", sig := { parameters := [.long], returnType := some .boolean }, accessFlags := 9, code := some k1c4 }
/-- com/example/vagabond/vagabond/SplitMix64NextLongPinLaw -/
def k1 : Class := { plain "com/example/vagabond/vagabond/SplitMix64NextLongPinLaw" (some 0) with
  accessFlags := 49
  interfaces := #[]
  cf := some (fileOf pool1 10 #[] #[{ accessFlags := 1, nameIndex := 5, descriptorIndex := 6, attributes := #[] }, { accessFlags := 10, nameIndex := 19, descriptorIndex := 20, attributes := #[] }, { accessFlags := 10, nameIndex := 13, descriptorIndex := 14, attributes := #[] }, { accessFlags := 10, nameIndex := 36, descriptorIndex := 20, attributes := #[] }, { accessFlags := 9, nameIndex := 41, descriptorIndex := 42, attributes := #[] }] 49 2 #[] #[])
  fields := #[]
  methods := #[k1m0, k1m1, k1m2, k1m3, k1m4]
  instanceTypes := #[]
  staticTypes := #[]
  resolved := Array.replicate 46 none
  statics := none }

def pool2 : Array CpInfo := pool [(1, .methodref 2 3), (0, .class_ 4), (0, .nameAndType 5 6), (0, u "java/lang/Object"), (0, u "<init>"), (0, u "()V"), (0, .fieldref 8 9), (0, .class_ 10), (0, .nameAndType 11 12), (0, u "com/example/vagabond/vagabond/SplitMix64"), (0, u "state"), (0, u "J"), (0, .long 11400714819323198485), (1, .long 13787848793156543929), (1, .long 10723151780598845931), (3, u "nextLong"), (0, u "()J"), (6, u "STEP"), (1, u "UNIT"), (0, u "D"), (0, u "(J)V")] 9

def k2c0 : Code := { maxStack := 3, maxLocals := 3, code := prog_34_method_1_code, exceptionTable := #[], attributes := #[] }
def k2m0 : Method := { name := "<init>", desc := "(J)V", sig := { parameters := [.long], returnType := none }, accessFlags := 0, code := some k2c0 }
def k2c1 : Code := { maxStack := 5, maxLocals := 3, code := prog_34_method_2_code, exceptionTable := #[], attributes := #[] }
def k2m1 : Method := { name := "nextLong", desc := "()J", sig := { parameters := [], returnType := some .long }, accessFlags := 0, code := some k2c1 }
/-- com/example/vagabond/vagabond/SplitMix64 -/
def k2 : Class := { plain "com/example/vagabond/vagabond/SplitMix64" (some 0) with
  accessFlags := 48
  interfaces := #[]
  cf := some (fileOf pool2 8 #[] #[{ accessFlags := 0, nameIndex := 5, descriptorIndex := 33, attributes := #[] }, { accessFlags := 0, nameIndex := 21, descriptorIndex := 22, attributes := #[] }] 48 2 #[] #[{ accessFlags := 26, nameIndex := 29, descriptorIndex := 12, attributes := #[] }, { accessFlags := 26, nameIndex := 31, descriptorIndex := 32, attributes := #[] }, { accessFlags := 2, nameIndex := 11, descriptorIndex := 12, attributes := #[] }])
  fields := #[{ name := "STEP", type := .long, accessFlags := 26, slot := 0, constantValue := 0 }, { name := "UNIT", type := .double, accessFlags := 26, slot := 1, constantValue := 0 }, { name := "state", type := .long, accessFlags := 2, slot := 0, constantValue := 0 }]
  methods := #[k2m0, k2m1]
  instanceTypes := #[.long]
  staticTypes := #[.long, .double]
  resolved := Array.replicate 43 none
  statics := none }

def pool3 : Array CpInfo := pool [(1, u "java/lang/Cloneable"), (0, .class_ 1), (0, u "java/lang/Object"), (0, .class_ 3)] 3

/-- java/lang/Cloneable -/
def k3 : Class := { plain "java/lang/Cloneable" (some 0) with
  accessFlags := 1537
  interfaces := #[]
  cf := some (fileOf pool3 2 #[] #[] 1537 4 #[] #[])
  fields := #[]
  methods := #[]
  instanceTypes := #[]
  staticTypes := #[]
  resolved := Array.replicate 8 none
  statics := none }

def pool4 : Array CpInfo := pool [(1, u "java/io/Serializable"), (0, .class_ 1), (0, u "java/lang/Object"), (0, .class_ 3)] 3

/-- java/io/Serializable -/
def k4 : Class := { plain "java/io/Serializable" (some 0) with
  accessFlags := 1537
  interfaces := #[]
  cf := some (fileOf pool4 2 #[] #[] 1537 4 #[] #[])
  fields := #[]
  methods := #[]
  instanceTypes := #[]
  staticTypes := #[]
  resolved := Array.replicate 8 none
  statics := none }

/-- the primitive byte -/
def k5 : Class := { plain "byte" none with kind := .primitive 'B', accessFlags := 0x411 }
/-- [B -/
def k6 : Class := { plain "[B" (some 0) with kind := .array 5 .byte, interfaces := #[3, 4], accessFlags := 1041 }

/-- the primitive int -/
def k7 : Class := { plain "int" none with kind := .primitive 'I', accessFlags := 0x411 }
/-- [I -/
def k8 : Class := { plain "[I" (some 0) with kind := .array 7 .int, interfaces := #[3, 4], accessFlags := 1041 }

def heap : Heap := #[]
def classes : Array Class := #[k0, k1, k2, k3, k4, k5, k6, k7, k8]
def interned : List (Array UInt16 × Addr) := []
def slotsUsed : Nat := 0
def theMethod : MethodId := ⟨1, 4⟩
def args0 : Array Value := #[.long 5]
def aboutOver (below : List Frame) : State where
  vm := { classes := classes, interned := interned.toArray }
  heap := heap
  slotsUsed := slotsUsed
  threads := #[{ frames := .invoking theMethod args0 :: below }]
def below0 : List Frame := [.native { method := ⟨0, 0⟩, args := #[] }]
def about1 : State := aboutOver below0
def p0 : Program := .bare "" "" ""
def e0 : Env := launch0.env 0 0 0
theorem w_frames : about1.frames = Frame.invoking theMethod args0 :: below0 := rfl
set_option maxRecDepth 65536 in
theorem w_args : argsFit about1.vm theMethod args0 = true := by decide +kernel
set_option maxRecDepth 65536 in
theorem w_heap : heapFits about1 = true := by decide +kernel
set_option maxRecDepth 65536 in
theorem w_runnable : about1.curStatus? = some .runnable := by decide +kernel
set_option maxRecDepth 65536 in
theorem w_alone : about1.alone = true := by decide +kernel
set_option maxRecDepth 65536 in
theorem w_named : about1.methodNamed? x = some theMethod := by decide +kernel
set_option maxRecDepth 65536 in
theorem w_hears : about1.hears theMethod below0 = true := by decide +kernel
set_option maxRecDepth 65536 in
theorem w_ripe : about1.ripe theMethod args0 below0 = true := by decide +kernel
theorem w_running : about1.status = .running := rfl
set_option maxRecDepth 65536 in
theorem w_room : about1.hasRoom e0.platform room_1 = true :=
  launch0.hasRoom_least _ room_1 (by decide +kernel) (by decide +kernel) (by decide +kernel) (by decide +kernel) (by decide +kernel) (by decide +kernel)
theorem allAtoms_all (ts : List Jvm.Cond) (a : Array Jvm.Value) (st : Jvm.State) : (allAtoms ts).before a st = ts.all (fun c => c.before a st) := by
  induction ts with
  | nil => rfl
  | cons c t ih =>
    show (Jvm.Cond.and c (allAtoms t)).before a st = _
    rw [Jvm.Cond.before_and, ih, List.all_cons]
def words1 : List Jvm.Cond := Jvm.Cond.code x code maxLocals ret :: tables_1
/-- a 'code' word, met by the world's own term for the bytes: nothing is compared byte by byte -/
theorem code_word {y : MethodName} {bytes : ByteArray} {mx : Nat} {rt : Option FieldType} {a : Array Value} {s : State} {m : MethodId} {meth : Method} {c : Code} (h1 : s.methodNamed? y = some m) (h2 : s.vm.method? m = some meth) (h3 : meth.code = some c) (h4 : c.code = bytes)
    (h5 : (c.maxLocals == mx && c.exceptionTable.isEmpty && decide (c.maxStack ≤ mostOperands) && decide (meth.sig.returnType = rt) && !meth.locks && decide (parseMethodDescriptor y.desc = some meth.sig)) = true) : (Jvm.Cond.code y bytes mx rt).before a s = true := by
  simp only [Bool.and_eq_true, beq_iff_eq, Bool.not_eq_true', decide_eq_true_eq] at h5
  obtain ⟨⟨⟨⟨⟨g1, g2⟩, g3⟩, g4⟩, g5⟩, g6⟩ := h5
  simp [Cond.before, Cond.holds, Cond.value, h1, h2, h3, h4, g1, g2, g3, g4, g5, g6]
def isCode : Jvm.Cond → Bool
  | .code _ _ _ _ => true
  | _ => false
theorem all_split {L : List Jvm.Cond} {P : Jvm.Cond → Bool} (h1 : L.all (fun c => isCode c || P c) = true) (h2 : ∀ c ∈ L.filter isCode, P c = true) : L.all P = true := by
  refine List.all_eq_true.mpr fun c hc => ?_
  have h := List.all_eq_true.mp h1 c hc
  rcases Bool.eq_false_or_eq_true (isCode c) with hi | hi
  · exact h2 c (List.mem_filter.mpr ⟨hc, hi⟩)
  · simpa [hi] using h
set_option maxRecDepth 65536 in
theorem w_c0 : (Jvm.Cond.code x code maxLocals ret).before args0 about1 = true := code_word (m := ⟨1, 4⟩) (meth := k1m4) (c := k1c4) (by decide +kernel) rfl rfl rfl (by decide +kernel)
set_option maxRecDepth 65536 in
theorem w_c1 : (Jvm.Cond.code ({ cls := "com/example/vagabond/vagabond/SplitMix64", name := "<init>", desc := "(J)V" } : Jvm.MethodName) prog_34_method_1_code (3 : Nat) (Option.none : Option Jvm.ClassFile.FieldType)).before args0 about1 = true := code_word (m := ⟨2, 0⟩) (meth := k2m0) (c := k2c0) (by decide +kernel) rfl rfl rfl (by decide +kernel)
set_option maxRecDepth 65536 in
theorem w_c2 : (Jvm.Cond.code ({ cls := "java/lang/Object", name := "<init>", desc := "()V" } : Jvm.MethodName) object_method_1_code (1 : Nat) (Option.none : Option Jvm.ClassFile.FieldType)).before args0 about1 = true := code_word (m := ⟨0, 0⟩) (meth := k0m0) (c := k0c0) (by decide +kernel) rfl rfl rfl (by decide +kernel)
set_option maxRecDepth 65536 in
theorem w_c3 : (Jvm.Cond.code ({ cls := "com/example/vagabond/vagabond/SplitMix64", name := "nextLong", desc := "()J" } : Jvm.MethodName) prog_34_method_2_code (3 : Nat) (Option.some Jvm.ClassFile.FieldType.long)).before args0 about1 = true := code_word (m := ⟨2, 1⟩) (meth := k2m1) (c := k2c1) (by decide +kernel) rfl rfl rfl (by decide +kernel)
set_option maxRecDepth 65536 in
theorem w_c4 : (Jvm.Cond.code ({ cls := "com/example/vagabond/vagabond/SplitMix64NextLongPinLaw", name := "unmix", desc := "(J)J" } : Jvm.MethodName) method_4_code (4 : Nat) (Option.some Jvm.ClassFile.FieldType.long)).before args0 about1 = true := code_word (m := ⟨1, 3⟩) (meth := k1m3) (c := k1c3) (by decide +kernel) rfl rfl rfl (by decide +kernel)
set_option maxRecDepth 65536 in
theorem w_c5 : (Jvm.Cond.code ({ cls := "com/example/vagabond/vagabond/SplitMix64NextLongPinLaw", name := "unshift", desc := "(JI)J" } : Jvm.MethodName) method_3_code (3 : Nat) (Option.some Jvm.ClassFile.FieldType.long)).before args0 about1 = true := code_word (m := ⟨1, 2⟩) (meth := k1m2) (c := k1c2) (by decide +kernel) rfl rfl rfl (by decide +kernel)
set_option maxRecDepth 65536 in
theorem w_c6 : (Jvm.Cond.code ({ cls := "com/example/vagabond/vagabond/SplitMix64NextLongPinLaw", name := "inverse", desc := "(J)J" } : Jvm.MethodName) method_2_code (4 : Nat) (Option.some Jvm.ClassFile.FieldType.long)).before args0 about1 = true := code_word (m := ⟨1, 1⟩) (meth := k1m1) (c := k1c1) (by decide +kernel) rfl rfl rfl (by decide +kernel)
def codes1 : List Jvm.Cond := [Jvm.Cond.code x code maxLocals ret, Jvm.Cond.code ({ cls := "com/example/vagabond/vagabond/SplitMix64", name := "<init>", desc := "(J)V" } : Jvm.MethodName) prog_34_method_1_code (3 : Nat) (Option.none : Option Jvm.ClassFile.FieldType), Jvm.Cond.code ({ cls := "java/lang/Object", name := "<init>", desc := "()V" } : Jvm.MethodName) object_method_1_code (1 : Nat) (Option.none : Option Jvm.ClassFile.FieldType), Jvm.Cond.code ({ cls := "com/example/vagabond/vagabond/SplitMix64", name := "nextLong", desc := "()J" } : Jvm.MethodName) prog_34_method_2_code (3 : Nat) (Option.some Jvm.ClassFile.FieldType.long), Jvm.Cond.code ({ cls := "com/example/vagabond/vagabond/SplitMix64NextLongPinLaw", name := "unmix", desc := "(J)J" } : Jvm.MethodName) method_4_code (4 : Nat) (Option.some Jvm.ClassFile.FieldType.long), Jvm.Cond.code ({ cls := "com/example/vagabond/vagabond/SplitMix64NextLongPinLaw", name := "unshift", desc := "(JI)J" } : Jvm.MethodName) method_3_code (3 : Nat) (Option.some Jvm.ClassFile.FieldType.long), Jvm.Cond.code ({ cls := "com/example/vagabond/vagabond/SplitMix64NextLongPinLaw", name := "inverse", desc := "(J)J" } : Jvm.MethodName) method_2_code (4 : Nat) (Option.some Jvm.ClassFile.FieldType.long)]
set_option maxRecDepth 65536 in
theorem codes_eq : words1.filter isCode = codes1 := rfl
theorem w_codes : ∀ c ∈ words1.filter isCode, c.before args0 about1 = true := by
  rw [codes_eq]
  intro c hc
  simp only [codes1, List.mem_cons, List.not_mem_nil, or_false] at hc
  rcases hc with rfl | rfl | rfl | rfl | rfl | rfl | rfl
  · exact w_c0
  · exact w_c1
  · exact w_c2
  · exact w_c3
  · exact w_c4
  · exact w_c5
  · exact w_c6
set_option maxRecDepth 65536 in
theorem w_t1 : (words1.take 24).all (fun c => isCode c || c.before args0 about1) = true := by decide +kernel
set_option maxRecDepth 65536 in
theorem w_t2 : (words1.drop 24).all (fun c => isCode c || c.before args0 about1) = true := by decide +kernel
theorem w_tables : (allAtoms (Jvm.Cond.code x code maxLocals ret :: tables_1)).before args0 about1 = true := by
  rw [allAtoms_all]
  show words1.all (fun c => c.before args0 about1) = true
  refine all_split ?_ w_codes
  rw [← List.take_append_drop 24 words1, List.all_append, w_t1, w_t2]
  rfl
set_option maxRecDepth 65536 in
theorem w_case : (Jvm.Cond.and given_1 narrow_1).before args0 about1 = true := by decide +kernel
theorem w_applies : (headSpec (Jvm.Cond.code x code maxLocals ret :: tables_1) room_1).applies x e0.platform about1 = true :=
  (Spec.applies_iff w_frames).mpr ⟨w_running, w_runnable, w_alone, w_named, w_hears, w_ripe, w_room, w_tables⟩
theorem atStart : AtStart classFile x code maxLocals ret World_1 tables_1 room_1 Calls_1 rest_1 Pre_1 launch0 p0 e0 about1 theMethod args0 below0 :=
  ⟨lists_1, trivial, launch0.admits_env _ _ _, launch0.least_env, fairChoices_fair.cas, fairChoices_fair.clock, w_frames, w_args, w_heap, w_applies, trivial, trivial, w_case⟩
end start1
theorem witness_1 : WitnessClaimed_1 := ⟨start1.p0, start1.e0, start1.about1, start1.theMethod, start1.args0, start1.below0, start1.atStart⟩
end Jvm.Pilot.@@N@@
