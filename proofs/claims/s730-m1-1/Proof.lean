import JvmDerived
import JvmDerived.Pilot.@@N@@Statement
import JvmDerived.Pilot.@@N@@Code
set_option linter.unusedVariables false
set_option linter.unusedSimpArgs false
@@BLOCK:NumsL.lean.txt@@
namespace Jvm.OwnK
open Sem ClassFile Op Lib Jvm.Stand Jvm.Free Jvm.LawKit Jvm.RoadKit Bundle
/-- from the frame f at T the run ends, and P holds of its end -/
def Go (tb : Tables) (e : Env) (below : List Frame) (P : Outcome → State → Prop) (T : State) (f : JFrame) : Prop :=
  ∃ s₂ o, Steps tb e below (T.setTop f) s₂ ∧ s₂.status = .running ∧ Ended s₂ below o ∧ P o s₂
abbrev PQ (s : State) (Q : Option Value → Heap → List Loc → Prop) (C N : Nat) : Outcome → State → Prop := fun o U' => ∃ v L, o = .returned v ∧ Q v U'.heap L ∧ FrameEnd s o U' L C N
theorem Go.st {tb : Tables} {e : Env} {below : List Frame} {P : Outcome → State → Prop} {T T' : State} {f f' : JFrame} (h : ∀ t, Steps tb e below (T'.setTop f') t → Steps tb e below (T.setTop f) t) (k : Go tb e below P T' f') : Go tb e below P T f := by
  obtain ⟨s₂, o, h1, h2⟩ := k; exact ⟨s₂, o, h _ h1, h2⟩
theorem Go.st1 {tb : Tables} {e : Env} {below : List Frame} {P : Outcome → State → Prop} {T T' : State} {f f' : JFrame} (h : Steps tb e below (T.setTop f) (T'.setTop f')) (k : Go tb e below P T' f') : Go tb e below P T f :=
  Go.st (fun t q => h.trans q) k
theorem tI {x : Int32} {n : Int} (h : x.toInt = n) : x = Int32.ofInt n := by subst h; simp
section Steps
variable {p : Program} {l : Launch} {e : Env} {R : Room} {s : State} {m : MethodId} {args : Array Value} {below : List Frame} {meth : Method} {c : Code} {T : State} {locs : List Loc} {cells slots : Nat} {P : Outcome → State → Prop} {pc pc' : Nat} {Ls : Array Slot} {S : List Value} {Z : State} {a0 : Array Value} {h : Heap}
theorem iload (X : Stand p l e R s m args below meth c T locs cells slots) (hx : p.tables.exec = Jvm.exec) {j : Nat} {v : Int32} (hd : decode c.code pc = .ok (.iload j, 2)) (hp : pc' = pc + 2) (hl : Ls[j]? = some (.val (.int v)))
    (k : Go p.tables e below P T (mkF m pc' Ls (.int v :: S))) : Go p.tables e below P T (mkF m pc Ls (S)) := by
  subst hp; exact Go.st (fun t q => XS.iload X.here hx rfl hd  hl q) k
theorem iloadN (X : Stand p l e R s m args below meth c T locs cells slots) (hx : p.tables.exec = Jvm.exec) {j : Fin 4} {v : Int32} (hd : decode c.code pc = .ok (.iload_n j, 1)) (hp : pc' = pc + 1) (hl : Ls[j.val]? = some (.val (.int v)))
    (k : Go p.tables e below P T (mkF m pc' Ls (.int v :: S))) : Go p.tables e below P T (mkF m pc Ls (S)) := by
  subst hp; exact Go.st (fun t q => XS.iloadN X.here hx rfl hd  hl q) k
theorem lload (X : Stand p l e R s m args below meth c T locs cells slots) (hx : p.tables.exec = Jvm.exec) {j : Nat} {v : Int64} (hd : decode c.code pc = .ok (.lload j, 2)) (hp : pc' = pc + 2) (hl : Ls[j]? = some (.val (.long v)))
    (k : Go p.tables e below P T (mkF m pc' Ls (.long v :: S))) : Go p.tables e below P T (mkF m pc Ls (S)) := by
  subst hp; exact Go.st (fun t q => XT.lload X.here hx rfl hd  hl q) k
theorem lloadN (X : Stand p l e R s m args below meth c T locs cells slots) (hx : p.tables.exec = Jvm.exec) {j : Fin 4} {v : Int64} (hd : decode c.code pc = .ok (.lload_n j, 1)) (hp : pc' = pc + 1) (hl : Ls[j.val]? = some (.val (.long v)))
    (k : Go p.tables e below P T (mkF m pc' Ls (.long v :: S))) : Go p.tables e below P T (mkF m pc Ls (S)) := by
  subst hp; exact Go.st (fun t q => XT.lloadN X.here hx rfl hd  hl q) k
theorem istore (X : Stand p l e R s m args below meth c T locs cells slots) (hx : p.tables.exec = Jvm.exec) {j : Nat} {v : Int32} {Ls' : Array Slot} (hd : decode c.code pc = .ok (.istore j, 2)) (hp : pc' = pc + 2) (hl : storeLocals Ls j (.int v) = some Ls')
    (k : Go p.tables e below P T (mkF m pc' Ls' (S))) : Go p.tables e below P T (mkF m pc Ls (.int v :: S)) := by
  subst hp; exact Go.st (fun t q => XS.istore X.here hx rfl hd rfl hl q) k
theorem lstore (X : Stand p l e R s m args below meth c T locs cells slots) (hx : p.tables.exec = Jvm.exec) {j : Nat} {v : Int64} {Ls' : Array Slot} (hd : decode c.code pc = .ok (.lstore j, 2)) (hp : pc' = pc + 2) (hl : storeLocals Ls j (.long v) = some Ls')
    (k : Go p.tables e below P T (mkF m pc' Ls' (S))) : Go p.tables e below P T (mkF m pc Ls (.long v :: S)) := by
  subst hp; exact Go.st (fun t q => XT.lstore X.here hx rfl hd rfl hl q) k
theorem istoreG (X : Stand p l e R s m args below meth c T locs cells slots) (hx : p.tables.exec = Jvm.exec) {j : Nat} {v : Int32} {Ls' : Int32 → Array Slot} (hd : decode c.code pc = .ok (.istore j, 2)) (hp : pc' = pc + 2) (hl : ∀ u, storeLocals Ls j (.int u) = some (Ls' u))
    (k : ∀ u, u = v → Go p.tables e below P T (mkF m pc' (Ls' u) (S))) : Go p.tables e below P T (mkF m pc Ls (.int v :: S)) := istore X hx hd hp (hl v) (k v rfl)
theorem lstoreG (X : Stand p l e R s m args below meth c T locs cells slots) (hx : p.tables.exec = Jvm.exec) {j : Nat} {v : Int64} {Ls' : Int64 → Array Slot} (hd : decode c.code pc = .ok (.lstore j, 2)) (hp : pc' = pc + 2) (hl : ∀ u, storeLocals Ls j (.long u) = some (Ls' u))
    (k : ∀ u, u = v → Go p.tables e below P T (mkF m pc' (Ls' u) (S))) : Go p.tables e below P T (mkF m pc Ls (.long v :: S)) := lstore X hx hd hp (hl v) (k v rfl)
theorem iconst (X : Stand p l e R s m args below meth c T locs cells slots) (hx : p.tables.exec = Jvm.exec) {i : Int} {v : Int32} (hd : decode c.code pc = .ok (.iconst i, 1)) (hp : pc' = pc + 1) (hv : Int32.ofInt i = v)
    (k : Go p.tables e below P T (mkF m pc' Ls (.int v :: S))) : Go p.tables e below P T (mkF m pc Ls (S)) := by
  subst hp hv; exact Go.st (fun t q => XS.iconst X.here hx rfl hd q) k
theorem lconst (X : Stand p l e R s m args below meth c T locs cells slots) (hx : p.tables.exec = Jvm.exec) {i : Fin 2} {v : Int64} (hd : decode c.code pc = .ok (.lconst i, 1)) (hp : pc' = pc + 1) (hv : Int64.ofNat i = v)
    (k : Go p.tables e below P T (mkF m pc' Ls (.long v :: S))) : Go p.tables e below P T (mkF m pc Ls (S)) := by
  subst hp hv; exact Go.st (fun t q => XT.lconst X.here hx rfl hd q) k
theorem iadd (X : Stand p l e R s m args below meth c T locs cells slots) (hx : p.tables.exec = Jvm.exec) {x y : Int32} (hd : decode c.code pc = .ok (.iadd, 1)) (hp : pc' = pc + 1)
    (k : Go p.tables e below P T (mkF m pc' Ls (.int (x + y) :: S))) : Go p.tables e below P T (mkF m pc Ls (.int y :: .int x :: S)) := by
  subst hp; exact Go.st (fun t q => XS.iadd X.here hx rfl hd rfl  q) k
theorem isub (X : Stand p l e R s m args below meth c T locs cells slots) (hx : p.tables.exec = Jvm.exec) {x y : Int32} (hd : decode c.code pc = .ok (.isub, 1)) (hp : pc' = pc + 1)
    (k : Go p.tables e below P T (mkF m pc' Ls (.int (x - y) :: S))) : Go p.tables e below P T (mkF m pc Ls (.int y :: .int x :: S)) := by
  subst hp; exact Go.st (fun t q => XS.isub X.here hx rfl hd rfl  q) k
theorem iand (X : Stand p l e R s m args below meth c T locs cells slots) (hx : p.tables.exec = Jvm.exec) {x y : Int32} (hd : decode c.code pc = .ok (.iand, 1)) (hp : pc' = pc + 1)
    (k : Go p.tables e below P T (mkF m pc' Ls (.int (x &&& y) :: S))) : Go p.tables e below P T (mkF m pc Ls (.int y :: .int x :: S)) := by
  subst hp; exact Go.st (fun t q => XS.iand X.here hx rfl hd rfl  q) k
theorem ladd (X : Stand p l e R s m args below meth c T locs cells slots) (hx : p.tables.exec = Jvm.exec) {x y : Int64} (hd : decode c.code pc = .ok (.ladd, 1)) (hp : pc' = pc + 1)
    (k : Go p.tables e below P T (mkF m pc' Ls (.long (x + y) :: S))) : Go p.tables e below P T (mkF m pc Ls (.long y :: .long x :: S)) := by
  subst hp; exact Go.st (fun t q => XT.ladd X.here hx rfl hd rfl  q) k
theorem lsub (X : Stand p l e R s m args below meth c T locs cells slots) (hx : p.tables.exec = Jvm.exec) {x y : Int64} (hd : decode c.code pc = .ok (.lsub, 1)) (hp : pc' = pc + 1)
    (k : Go p.tables e below P T (mkF m pc' Ls (.long (x - y) :: S))) : Go p.tables e below P T (mkF m pc Ls (.long y :: .long x :: S)) := by
  subst hp; exact Go.st (fun t q => XT.lsub X.here hx rfl hd rfl  q) k
theorem lmul (X : Stand p l e R s m args below meth c T locs cells slots) (hx : p.tables.exec = Jvm.exec) {x y : Int64} (hd : decode c.code pc = .ok (.lmul, 1)) (hp : pc' = pc + 1)
    (k : Go p.tables e below P T (mkF m pc' Ls (.long (x * y) :: S))) : Go p.tables e below P T (mkF m pc Ls (.long y :: .long x :: S)) := by
  subst hp; exact Go.st (fun t q => XT.lmul X.here hx rfl hd rfl  q) k
theorem land (X : Stand p l e R s m args below meth c T locs cells slots) (hx : p.tables.exec = Jvm.exec) {x y : Int64} (hd : decode c.code pc = .ok (.land, 1)) (hp : pc' = pc + 1)
    (k : Go p.tables e below P T (mkF m pc' Ls (.long (x &&& y) :: S))) : Go p.tables e below P T (mkF m pc Ls (.long y :: .long x :: S)) := by
  subst hp; exact Go.st (fun t q => XT.land X.here hx rfl hd rfl  q) k
theorem ldiv (X : Stand p l e R s m args below meth c T locs cells slots) (hx : p.tables.exec = Jvm.exec) {x y : Int64} (hd : decode c.code pc = .ok (.ldiv, 1)) (hp : pc' = pc + 1) (hy : y ≠ 0)
    (k : Go p.tables e below P T (mkF m pc' Ls (.long (x / y) :: S))) : Go p.tables e below P T (mkF m pc Ls (.long y :: .long x :: S)) := by
  subst hp; exact Go.st (fun t q => XT.ldiv X.here hx rfl hd rfl hy q) k
theorem lrem (X : Stand p l e R s m args below meth c T locs cells slots) (hx : p.tables.exec = Jvm.exec) {x y : Int64} (hd : decode c.code pc = .ok (.lrem, 1)) (hp : pc' = pc + 1) (hy : y ≠ 0)
    (k : Go p.tables e below P T (mkF m pc' Ls (.long (x - (x / y) * y) :: S))) : Go p.tables e below P T (mkF m pc Ls (.long y :: .long x :: S)) := by
  subst hp; exact Go.st (fun t q => XT.lrem X.here hx rfl hd rfl hy q) k
theorem i2l (X : Stand p l e R s m args below meth c T locs cells slots) (hx : p.tables.exec = Jvm.exec) {x : Int32} (hd : decode c.code pc = .ok (.i2l, 1)) (hp : pc' = pc + 1)
    (k : Go p.tables e below P T (mkF m pc' Ls (.long (x.toInt64) :: S))) : Go p.tables e below P T (mkF m pc Ls (.int x :: S)) := by
  subst hp; exact Go.st (fun t q => XT.i2l X.here hx rfl hd rfl  q) k
theorem l2i (X : Stand p l e R s m args below meth c T locs cells slots) (hx : p.tables.exec = Jvm.exec) {x : Int64} (hd : decode c.code pc = .ok (.l2i, 1)) (hp : pc' = pc + 1)
    (k : Go p.tables e below P T (mkF m pc' Ls (.int (x.toInt32) :: S))) : Go p.tables e below P T (mkF m pc Ls (.long x :: S)) := by
  subst hp; exact Go.st (fun t q => XT.l2i X.here hx rfl hd rfl  q) k
theorem goto_ (X : Stand p l e R s m args below meth c T locs cells slots) (hx : p.tables.exec = Jvm.exec) {o : Int} (hd : decode c.code pc = .ok (.goto o, 3)) (ho : 0 ≤ (pc : Int) + o) (hp : ((pc : Int) + o).toNat = pc')
    (k : Go p.tables e below P T (mkF m pc' Ls (S))) : Go p.tables e below P T (mkF m pc Ls (S)) :=
  Go.st (fun t q => XS.goto X.here hx rfl rfl hd ho hp q) k
theorem h_lt (x y : Int32) : if_icmp.holds .lt x y = decide (x.toInt < y.toInt) := by simp [if_icmp.holds, Int32.lt_iff_toInt_lt]
theorem icmp_lt (X : Stand p l e R s m args below meth c T locs cells slots) (hx : p.tables.exec = Jvm.exec) {o : Int} {x y : Int32} {pcT : Nat} (hd : decode c.code pc = .ok (.if_icmp .lt o, 3)) (ho : 0 ≤ (pc : Int) + o) (hT : ((pc : Int) + o).toNat = pcT) (hp : pc' = pc + 3)
    (kt : x.toInt < y.toInt → Go p.tables e below P T (mkF m pcT Ls (S))) (kf : y.toInt ≤ x.toInt → Go p.tables e below P T (mkF m pc' Ls (S))) : Go p.tables e below P T (mkF m pc Ls (.int y :: .int x :: S)) := by
  subst hp
  by_cases q : x.toInt < y.toInt
  · exact Go.st (fun t r => XS.icmpYes X.here hx rfl rfl hd rfl (by rw [h_lt]; exact decide_eq_true q) ho hT r) (kt q)
  · exact Go.st (fun t r => XS.icmpNo X.here hx rfl hd rfl (by rw [h_lt]; exact decide_eq_false q) r) (kf (by omega))
theorem lcmp_lt (X : Stand p l e R s m args below meth c T locs cells slots) (hx : p.tables.exec = Jvm.exec) {o : Int} {x y : Int64} {pc1 pcT : Nat} (hd0 : decode c.code pc = .ok (.lcmp, 1)) (hp1 : pc1 = pc + 1) (hd : decode c.code pc1 = .ok (.ifCond .lt o, 3)) (ho : 0 ≤ (pc1 : Int) + o) (hT : ((pc1 : Int) + o).toNat = pcT) (hp : pc' = pc1 + 3)
    (kt : x.toInt < y.toInt → Go p.tables e below P T (mkF m pcT Ls (S))) (kf : y.toInt ≤ x.toInt → Go p.tables e below P T (mkF m pc' Ls (S))) : Go p.tables e below P T (mkF m pc Ls (.long y :: .long x :: S)) := by
  subst hp
  subst hp1
  refine Go.st (fun t r => XT.lcmp X.here hx rfl hd0 rfl r) ?_
  by_cases q : x.toInt < y.toInt
  · exact Go.st (fun t r => XS.ifYes X.here hx rfl rfl hd rfl (XT.ll_lt_t (Int64.lt_iff_toInt_lt.mpr q)) ho hT r) (kt q)
  · exact Go.st (fun t r => XS.ifNo X.here hx rfl hd rfl (XT.ll_lt_f (fun z => q (Int64.lt_iff_toInt_lt.mp z))) r) (kf (by omega))
theorem lcmp_ge (X : Stand p l e R s m args below meth c T locs cells slots) (hx : p.tables.exec = Jvm.exec) {o : Int} {x y : Int64} {pc1 pcT : Nat} (hd0 : decode c.code pc = .ok (.lcmp, 1)) (hp1 : pc1 = pc + 1) (hd : decode c.code pc1 = .ok (.ifCond .ge o, 3)) (ho : 0 ≤ (pc1 : Int) + o) (hT : ((pc1 : Int) + o).toNat = pcT) (hp : pc' = pc1 + 3)
    (kt : y.toInt ≤ x.toInt → Go p.tables e below P T (mkF m pcT Ls (S))) (kf : x.toInt < y.toInt → Go p.tables e below P T (mkF m pc' Ls (S))) : Go p.tables e below P T (mkF m pc Ls (.long y :: .long x :: S)) := by
  subst hp
  subst hp1
  refine Go.st (fun t r => XT.lcmp X.here hx rfl hd0 rfl r) ?_
  by_cases q : y.toInt ≤ x.toInt
  · exact Go.st (fun t r => XS.ifYes X.here hx rfl rfl hd rfl (XT.ll_ge_t (fun z => by have := Int64.lt_iff_toInt_lt.mp z; omega)) ho hT r) (kt q)
  · exact Go.st (fun t r => XS.ifNo X.here hx rfl hd rfl (XT.ll_ge_f (Int64.lt_iff_toInt_lt.mpr (by omega))) r) (kf (by omega))
theorem lcmp_gt (X : Stand p l e R s m args below meth c T locs cells slots) (hx : p.tables.exec = Jvm.exec) {o : Int} {x y : Int64} {pc1 pcT : Nat} (hd0 : decode c.code pc = .ok (.lcmp, 1)) (hp1 : pc1 = pc + 1) (hd : decode c.code pc1 = .ok (.ifCond .gt o, 3)) (ho : 0 ≤ (pc1 : Int) + o) (hT : ((pc1 : Int) + o).toNat = pcT) (hp : pc' = pc1 + 3)
    (kt : y.toInt < x.toInt → Go p.tables e below P T (mkF m pcT Ls (S))) (kf : x.toInt ≤ y.toInt → Go p.tables e below P T (mkF m pc' Ls (S))) : Go p.tables e below P T (mkF m pc Ls (.long y :: .long x :: S)) := by
  subst hp
  subst hp1
  refine Go.st (fun t r => XT.lcmp X.here hx rfl hd0 rfl r) ?_
  by_cases q : y.toInt < x.toInt
  · exact Go.st (fun t r => XS.ifYes X.here hx rfl rfl hd rfl (XT.ll_gt_t (Int64.lt_iff_toInt_lt.mpr q)) ho hT r) (kt q)
  · exact Go.st (fun t r => XS.ifNo X.here hx rfl hd rfl (XT.ll_gt_f (fun z => q (Int64.lt_iff_toInt_lt.mp z))) r) (kf (by omega))
theorem lcmp_le (X : Stand p l e R s m args below meth c T locs cells slots) (hx : p.tables.exec = Jvm.exec) {o : Int} {x y : Int64} {pc1 pcT : Nat} (hd0 : decode c.code pc = .ok (.lcmp, 1)) (hp1 : pc1 = pc + 1) (hd : decode c.code pc1 = .ok (.ifCond .le o, 3)) (ho : 0 ≤ (pc1 : Int) + o) (hT : ((pc1 : Int) + o).toNat = pcT) (hp : pc' = pc1 + 3)
    (kt : x.toInt ≤ y.toInt → Go p.tables e below P T (mkF m pcT Ls (S))) (kf : y.toInt < x.toInt → Go p.tables e below P T (mkF m pc' Ls (S))) : Go p.tables e below P T (mkF m pc Ls (.long y :: .long x :: S)) := by
  subst hp
  subst hp1
  refine Go.st (fun t r => XT.lcmp X.here hx rfl hd0 rfl r) ?_
  by_cases q : x.toInt ≤ y.toInt
  · exact Go.st (fun t r => XS.ifYes X.here hx rfl rfl hd rfl (XT.ll_le_t (fun z => by have := Int64.lt_iff_toInt_lt.mp z; omega)) ho hT r) (kt q)
  · exact Go.st (fun t r => XS.ifNo X.here hx rfl hd rfl (XT.ll_le_f (Int64.lt_iff_toInt_lt.mpr (by omega))) r) (kf (by omega))
theorem ldcI (X : Stand p l e R s m args below meth c T locs cells slots) (hx : p.tables.exec = Jvm.exec) (hZ : Z.Warmed39 s.vm) {own : String} (hown : s.vm.findClass own = some m.cls) {i : Nat} {v : Int32} (w : (Cond.constant own i v).before a0 Z = true) (hd : decode c.code pc = .ok (.ldc i, 2)) (hp : pc' = pc + 2)
    (k : Go p.tables e below P T (mkF m pc' Ls (.int v :: S))) : Go p.tables e below P T (mkF m pc Ls (S)) := by
  subst hp; exact Go.st (X.ldcInt hx hown (mv hZ w) (g := mkF m pc Ls S) rfl hd) k
theorem ldc2J (X : Stand p l e R s m args below meth c T locs cells slots) (hx : p.tables.exec = Jvm.exec) (hZ : Z.Warmed39 s.vm) {own : String} (hown : s.vm.findClass own = some m.cls) {i : Nat} {v : Int64} (w : (Cond.constantLong own i v).before a0 Z = true) (hd : decode c.code pc = .ok (.ldc2_w i, 3)) (hp : pc' = pc + 3)
    (k : Go p.tables e below P T (mkF m pc' Ls (.long v :: S))) : Go p.tables e below P T (mkF m pc Ls (S)) := by
  subst hp; exact Go.st (X.ldc2Long hx hown (mv hZ w) (g := mkF m pc Ls S) rfl hd) k
theorem callS_ (X : Stand p l e R s m args below meth c T locs cells slots) (hx : p.tables.exec = Jvm.exec) (hZ : Z.Warmed39 s.vm) {own : String} (hown : s.vm.findClass own = some m.cls) {y : MethodName} {i : Nat} {bytes : ByteArray} {maxL : Nat} {ret : Option FieldType} {rm : Room} {Q : Option Value → Heap → List Loc → Prop} {argsL S0 : List Value} (w1 : (Cond.methodLink own i y).before a0 Z = true) (w2 : (Cond.static y).before a0 Z = true) (w3 : (Cond.initialized y.cls).before a0 Z = true) (w4 : (Cond.code y bytes maxL ret).before a0 Z = true) (hy : y.cls ≠ "java/lang/invoke/MethodHandle" ∧ y.cls ≠ "java/lang/invoke/VarHandle") (hM : MetFree l y (head1 [Cond.code y bytes maxL ret] rm) (fun ar U => ar = argsL.toArray ∧ Z.Warmed39 U.vm ∧ U.heap = h) (fun _ _ _ _ _ => True) (fun _ U o U' => ∃ v L, o = .returned v ∧ Q v U'.heap L ∧ FrameEnd U o U' L rm.cells rm.slots)) (hf : rm.frames + 1 ≤ R.frames) {W : Nat} (hl : W + (maxL + 11) + rm.locals ≤ R.locals) (eT : T.heap = h) (hsize : Ls.size = c.maxLocals) {ps : List FieldType} {rt : Option FieldType} (hdesc : parseMethodDescriptor y.desc = some ⟨ps, rt⟩) (hlen : argsL.length = ps.length) (hS : S0 = argsL.reverse ++ S) (hW : (S.map fun v => v.category).sum ≤ W) (hd : decode c.code pc = .ok (.invokestatic i, 3)) (hp : pc' = pc + 3) (hc : cells + rm.cells ≤ R.cells) (hs : slots + rm.slots ≤ R.slots)
    (k : ∀ T' v L, Stand p l e R s m args below meth c T' (locs ++ L) (cells + rm.cells) (slots + rm.slots) → Q v T'.heap L → Go p.tables e below P T' (mkF m pc' Ls (v.toList ++ S))) : Go p.tables e below P T (mkF m pc Ls (S0)) := by
  subst hp hS
  obtain ⟨v, vm₁, ⟨T', L', k', n'⟩, -, X', ⟨L, hQ, l', y', z'⟩, st⟩ := Jvm.LawKit.callS X hx hown (mvT hZ w1) (mvT hZ w2) (mvT hZ w3) (mvT hZ w4) hy (backOf (W := W) hM hZ w4 w3 hf hl) (g := mkF m pc Ls (argsL.reverse ++ S)) rfl hsize (argsL := argsL) (rest := S) (lenOf hdesc hlen) rfl (by show 2 * 0 + _ ≤ _; simpa using hW) hd (fun _ _ => ⟨rfl, eT, hc, hs⟩)
  dsimp only [Pt.U, Pt.locs, Pt.cells, Pt.slots] at X' l' y' z' st hQ
  subst l' y' z'
  exact Go.st st (k T' v L X' hQ)
theorem met {y : MethodName} {bytes : ByteArray} {maxL : Nat} {ret : Option FieldType} {rm : Room} {as' : Array Value} {Q : Option Value → Heap → List Loc → Prop} {ws : List Jvm.Cond} {C N : Nat} (hpl : plainFor y = true) (ef : ∀ m, entryFrame m as' maxL = mkF m 0 Ls [])
    (body : ∀ (p : Program) (e : Env) (s : State) (m : MethodId) (below : List Frame) (meth : Method) (c : Code) (T : State), Stand p l e rm s m as' below meth c T [] 0 0 → p.tables.exec = Jvm.exec → Z.Warmed39 s.vm → c.code = bytes → c.maxLocals = maxL → s.vm.findClass y.cls = some m.cls → meth.name = y.name → meth.sig.returnType = ret → meth.locks = false → T.heap = h →
      Go p.tables e below (PQ s Q C N) T (mkF m 0 Ls [])) :
    MetFree l y (head1 (Cond.code y bytes maxL ret :: ws) rm) (fun a U => a = as' ∧ Z.Warmed39 U.vm ∧ U.heap = h) (fun _ _ _ _ _ => True) (fun _ U o U' => ∃ v L, o = .returned v ∧ Q v U'.heap L ∧ FrameEnd U o U' L C N) := by
  refine MetFree.of_bodySF hpl hisR ?_
  intro p e s m args below meth c s₁ Bd hml0 hP hK
  obtain ⟨rfl, hZ, hh⟩ := hP
  have e0 : s₁.heap = h := by rw [← hh, Bd.state]; rfl
  obtain ⟨s₂, o, h1, h2⟩ := body p e s m below meth c s₁ (Stand.of_body Bd) Bd.exec hZ Bd.bytes hml0 (findClass_of_methodNamed Bd.named) (name_of_methodNamed Bd.named Bd.method).1 Bd.returns Bd.notSynchronized e0
  exact ⟨s₂, o, castTop (ef m) h1, h2⟩
theorem ret_ (X : Stand p l e R s m args below meth c T locs cells slots) (hx : p.tables.exec = Jvm.exec) {Q : Option Value → Heap → List Loc → Prop} {C N : Nat} {w : Value} {t : FieldType} {i : Instr} (hret : meth.sig.returnType = some t) (hlk : meth.locks = false) (hn : narrow t w = w)
    (hi : (i = .ireturn ∧ (t = .int ∨ t = .boolean ∨ t = .byte ∨ t = .char ∨ t = .short) ∧ ∃ z, w = .int z) ∨ (i = .lreturn ∧ t = .long ∧ ∃ z, w = .long z) ∨ (i = .dreturn ∧ t = .double ∧ ∃ z, w = .double z) ∨ (i = .freturn ∧ t = .float ∧ ∃ z, w = .float z) ∨ (i = .areturn ∧ t.isReference = true ∧ w.isRef = true))
    (hd : decode c.code pc = .ok (i, 1)) (hC : cells ≤ C) (hN : slots ≤ N) (q : Q (some w) T.heap locs) : Go p.tables e below (PQ s Q C N) T (mkF m pc Ls (w :: S)) := by
  obtain ⟨fs, hr, hrun, hended, hW, hsame⟩ := X.leave (v := some w) (fun h => by rw [hret] at h; cases h) hlk
  exact ⟨_, _, retOut X hx hret hn hi hd hr, hrun, hended, _, _, rfl, q, ⟨_, rfl⟩, hW, hsame.mono hC hN⟩
theorem retI_ (X : Stand p l e R s m args below meth c T locs cells slots) (hx : p.tables.exec = Jvm.exec) {Q : Option Value → Heap → List Loc → Prop} {C N : Nat} {z : Int32} (hret : meth.sig.returnType = some .int) (hlk : meth.locks = false) (hd : decode c.code pc = .ok (.ireturn, 1)) (hC : cells ≤ C) (hN : slots ≤ N) (q : Q (some (.int z)) T.heap locs) : Go p.tables e below (PQ s Q C N) T (mkF m pc Ls (.int z :: S)) :=
  ret_ X hx hret hlk rfl (Or.inl ⟨rfl, Or.inl rfl, z, rfl⟩) hd hC hN q
theorem retL_ (X : Stand p l e R s m args below meth c T locs cells slots) (hx : p.tables.exec = Jvm.exec) {Q : Option Value → Heap → List Loc → Prop} {C N : Nat} {z : Int64} (hret : meth.sig.returnType = some .long) (hlk : meth.locks = false) (hd : decode c.code pc = .ok (.lreturn, 1)) (hC : cells ≤ C) (hN : slots ≤ N) (q : Q (some (.long z)) T.heap locs) : Go p.tables e below (PQ s Q C N) T (mkF m pc Ls (.long z :: S)) :=
  ret_ X hx hret hlk rfl (Or.inr (Or.inl ⟨rfl, rfl, z, rfl⟩)) hd hC hN q
theorem retN_ (X : Stand p l e R s m args below meth c T locs cells slots) (hx : p.tables.exec = Jvm.exec) {Q : Option Value → Heap → List Loc → Prop} {C N : Nat} {z : Int32} {t : FieldType} (hret : meth.sig.returnType = some t) (ht : t = .boolean ∨ t = .byte ∨ t = .char ∨ t = .short) (hlk : meth.locks = false) (hd : decode c.code pc = .ok (.ireturn, 1)) (hC : cells ≤ C) (hN : slots ≤ N) (q : Q (some (.int (nar t z))) T.heap locs) : Go p.tables e below (PQ s Q C N) T (mkF m pc Ls (.int z :: S)) := by
  obtain ⟨fs, hr, hrun, hended, hW, hsame⟩ := X.leave (v := some (.int (nar t z))) (fun h => by rw [hret] at h; cases h) hlk
  exact ⟨_, _, retN X hx hret ht hd hr, hrun, hended, _, _, rfl, q, ⟨_, rfl⟩, hW, hsame.mono hC hN⟩
end Steps
end Jvm.OwnK
namespace Jvm.Pilot.@@N@@
open Jvm Jvm.ClassFile Sem Op Lib Jvm.Free Jvm.Stand Jvm.LawKit Jvm.RoadKit Bundle Jvm.Pilot.@@N@@.Jvm.D
theorem own_ef_1 (p1 : Int64) (p2 : Int64)  (m : MethodId) : entryFrame m #[(.long p1), (.long p2)] 4 = mkF m 0 #[.val (.long p1), .second, .val (.long p2), .second] [] := by first | (simp [entryFrame, mkF, argsToLocals, Value.category]; done) | rfl
theorem own_d1_0 : decode jdk_29_method_70_code 0 = .ok (.lload_n 0, 1) := by decide +kernel
theorem own_d1_1 : decode jdk_29_method_70_code 1 = .ok (.lload_n 2, 1) := by decide +kernel
theorem own_d1_2 : decode jdk_29_method_70_code 2 = .ok (.lcmp, 1) := by decide +kernel
theorem own_d1_3 : decode jdk_29_method_70_code 3 = .ok (.ifCond .gt 7, 3) := by decide +kernel
theorem own_d1_10 : decode jdk_29_method_70_code 10 = .ok (.lload_n 2, 1) := by decide +kernel
theorem own_d1_11 : decode jdk_29_method_70_code 11 = .ok (.lreturn, 1) := by decide +kernel
theorem own_d1_6 : decode jdk_29_method_70_code 6 = .ok (.lload_n 0, 1) := by decide +kernel
theorem own_d1_7 : decode jdk_29_method_70_code 7 = .ok (.goto 4, 3) := by decide +kernel
theorem own_pl_1 : plainFor (⟨"java/lang/Math", "min", "(JJ)J"⟩ : MethodName) = true := Jvm.Free.JP.mathPlain rfl (by decide +kernel)
theorem own_ef_2 (p1 : Int32) (p2 : Int32)  (m : MethodId) : entryFrame m #[(.int p1), (.int p2)] 2 = mkF m 0 #[.val (.int p1), .val (.int p2)] [] := by first | (simp [entryFrame, mkF, argsToLocals, Value.category]; done) | rfl
theorem own_d2_0 : decode jdk_29_method_65_code 0 = .ok (.iload_n 0, 1) := by decide +kernel
theorem own_d2_1 : decode jdk_29_method_65_code 1 = .ok (.iload_n 1, 1) := by decide +kernel
theorem own_d2_2 : decode jdk_29_method_65_code 2 = .ok (.if_icmp .lt 7, 3) := by decide +kernel
theorem own_d2_9 : decode jdk_29_method_65_code 9 = .ok (.iload_n 1, 1) := by decide +kernel
theorem own_d2_10 : decode jdk_29_method_65_code 10 = .ok (.ireturn, 1) := by decide +kernel
theorem own_d2_5 : decode jdk_29_method_65_code 5 = .ok (.iload_n 0, 1) := by decide +kernel
theorem own_d2_6 : decode jdk_29_method_65_code 6 = .ok (.goto 4, 3) := by decide +kernel
theorem own_pl_2 : plainFor (⟨"java/lang/Math", "max", "(II)I"⟩ : MethodName) = true := Jvm.Free.JP.mathPlain rfl (by decide +kernel)
theorem own_ef_3 (p1 : Int32) (p2 : Int32) (p3 : Int32) (p4 : Int32)  (m : MethodId) : entryFrame m #[(.int p1), (.int p2), (.int p3), (.int p4)] 4 = mkF m 0 #[.val (.int p1), .val (.int p2), .val (.int p3), .val (.int p4)] [] := by first | (simp [entryFrame, mkF, argsToLocals, Value.category]; done) | rfl
theorem own_d3_0 : decode prog_34_method_4_code 0 = .ok (.iload_n 0, 1) := by decide +kernel
theorem own_d3_1 : decode prog_34_method_4_code 1 = .ok (.iload_n 1, 1) := by decide +kernel
theorem own_d3_2 : decode prog_34_method_4_code 2 = .ok (.iload_n 0, 1) := by decide +kernel
theorem own_d3_3 : decode prog_34_method_4_code 3 = .ok (.isub, 1) := by decide +kernel
theorem own_d3_4 : decode prog_34_method_4_code 4 = .ok (.i2l, 1) := by decide +kernel
theorem own_d3_5 : decode prog_34_method_4_code 5 = .ok (.iload_n 3, 1) := by decide +kernel
theorem own_d3_6 : decode prog_34_method_4_code 6 = .ok (.i2l, 1) := by decide +kernel
theorem own_d3_7 : decode prog_34_method_4_code 7 = .ok (.lmul, 1) := by decide +kernel
theorem own_d3_8 : decode prog_34_method_4_code 8 = .ok (.iload_n 2, 1) := by decide +kernel
theorem own_d3_9 : decode prog_34_method_4_code 9 = .ok (.i2l, 1) := by decide +kernel
theorem own_d3_10 : decode prog_34_method_4_code 10 = .ok (.ldiv, 1) := by decide +kernel
theorem own_d3_11 : decode prog_34_method_4_code 11 = .ok (.l2i, 1) := by decide +kernel
theorem own_d3_12 : decode prog_34_method_4_code 12 = .ok (.iadd, 1) := by decide +kernel
theorem own_d3_13 : decode prog_34_method_4_code 13 = .ok (.ireturn, 1) := by decide +kernel
theorem own_pl_3 : plainFor (⟨"com/example/strict_reach/strictreach/Workers", "start", "(IIII)I"⟩ : MethodName) = true := plainFor_of_name (by first | (simp [plainName, overriddenIn]; done) | decide +kernel)
theorem own_ef_0 (p0 : Int32) (p1 : Int32) (p2 : Int32) (p3 : Int32)  (m : MethodId) : entryFrame m #[(.int p0), (.int p1), (.int p2), (.int p3)] maxLocals = mkF m 0 #[.val (.int p0), .val (.int p1), .val (.int p2), .val (.int p3), .unset, .unset, .unset, .unset, .unset, .unset, .unset, .unset, .unset, .unset, .unset, .unset] [] := by first | (simp [entryFrame, mkF, argsToLocals, Value.category, maxLocals]; done) | rfl
theorem own_pd_2 : parseMethodDescriptor "(JJ)J" = some ⟨[.long, .long], some .long⟩ := by decide +kernel
theorem own_pd_0 : parseMethodDescriptor "(II)I" = some ⟨[.int, .int], some .int⟩ := by decide +kernel
theorem own_pd_1 : parseMethodDescriptor "(IIII)I" = some ⟨[.int, .int, .int, .int], some .int⟩ := by decide +kernel
theorem own_pl_0 : plainFor x = true := plainFor_of_name (by first | (simp [plainName, overriddenIn]; done) | decide +kernel)
section
open Jvm.Kit
theorem own_l64_max : (2147483647 : Int64).toInt = 2147483647 := by decide
theorem own_l64_1 : (1 : Int64).toInt = 1 := by decide
theorem own_i64_rg (x : Int64) : -2^63 ≤ x.toInt ∧ x.toInt < 2^63 := ⟨Int64.le_toInt x, Int64.toInt_lt x⟩
theorem own_i32_rg (x : Int32) : -2^31 ≤ x.toInt ∧ x.toInt < 2^31 := ⟨Int32.le_toInt x, Int32.toInt_lt x⟩
theorem own_msub (a : Int32) : ((2147483647 : Int64) - a.toInt64).toInt = 2147483647 - a.toInt := by
  have := own_i32_rg a
  rw [i64_sub] <;> rw [own_l64_max, i64_of_i32] <;> omega
theorem own_bound {a : Int32} {u : Int64} (hu : u = if (2147483647 : Int64).toInt < ((2147483647 : Int64) - a.toInt64).toInt then (2147483647 : Int64) else ((2147483647 : Int64) - a.toInt64)) : 0 ≤ u.toInt ∧ u.toInt ≤ 2147483647 ∧ u.toInt ≤ 2147483647 - a.toInt := by
  have h := own_msub a
  have := own_i32_rg a
  rw [h, own_l64_max] at hu
  split at hu
  · rw [hu, own_l64_max]; omega
  · rw [hu, h]; omega
theorem own_mask63 (x : Int64) : 0 ≤ (x &&& (2147483647 : Int64)).toInt ∧ (x &&& (2147483647 : Int64)).toInt ≤ 2147483647 := by
  rw [i64_mask x 2147483647 (k := 31) (by decide) (by decide)]; omega
theorem own_rem {x b u : Int64} (hb0 : 0 ≤ b.toInt) (hb1 : b.toInt ≤ 2147483647) (hx : 0 ≤ x.toInt) (hu : u = x - (x / (b + 1)) * (b + 1)) : 0 ≤ u.toInt ∧ u.toInt ≤ b.toInt := by
  have h1 : (b + 1).toInt = b.toInt + 1 := by rw [i64_add] <;> rw [own_l64_1] <;> omega
  rw [hu, i64_rem_nonneg hx, h1]
  have := Int.emod_nonneg x.toInt (show b.toInt + 1 ≠ 0 by omega)
  have := Int.emod_lt_of_pos x.toInt (show 0 < b.toInt + 1 by omega)
  omega
theorem own_nz {b : Int64} (hb0 : 0 ≤ b.toInt) (hb1 : b.toInt ≤ 2147483647) : b + 1 ≠ 0 := fun h => by
  have h1 : (b + 1).toInt = b.toInt + 1 := by rw [i64_add] <;> rw [own_l64_1] <;> omega
  rw [h] at h1
  have : (0 : Int64).toInt = 0 := by decide
  omega
theorem own_end {a : Int32} {len : Int64} {u : Int32} (h0 : 0 ≤ len.toInt) (h1 : len.toInt ≤ 2147483647 - a.toInt) (hu : u = (a.toInt64 + len).toInt32) : u.toInt = a.toInt + len.toInt := by
  have := own_i32_rg a
  have e : (a.toInt64 + len).toInt = a.toInt + len.toInt := by rw [i64_add] <;> rw [i64_of_i32] <;> omega
  rw [hu, i32_of_i64] <;> omega
theorem own_wide (a : Int32) : a.toInt64.toInt = a.toInt := i64_of_i32 a
theorem own_part {x : Int64} {parts u : Int32} (hp0 : 1 ≤ parts.toInt) (hx : 0 ≤ x.toInt) (hu : u = (x - (x / (parts.toInt64 + 1)) * (parts.toInt64 + 1)).toInt32) : 0 ≤ u.toInt ∧ u.toInt ≤ parts.toInt := by
  have := own_i32_rg parts
  have e := i64_of_i32 parts
  have h := own_rem (x := x) (b := parts.toInt64) (u := x - (x / (parts.toInt64 + 1)) * (parts.toInt64 + 1)) (by omega) (by omega) hx rfl
  rw [hu, i32_of_i64] <;> omega
theorem own_start {a e parts part u : Int32} {len : Int64} (h0 : 0 ≤ len.toInt) (h1 : len.toInt ≤ 2147483647) (he : e.toInt = a.toInt + len.toInt) (hp : 1 ≤ parts.toInt) (hq0 : 0 ≤ part.toInt) (hq1 : part.toInt ≤ parts.toInt)
    (hu : u = a + ((e - a).toInt64 * part.toInt64 / parts.toInt64).toInt32) : u.toInt = a.toInt + len.toInt * part.toInt / parts.toInt ∧ 0 ≤ len.toInt * part.toInt / parts.toInt ∧ len.toInt * part.toInt / parts.toInt ≤ len.toInt := by
  have ra := own_i32_rg a
  have rp := own_i32_rg parts
  have re := own_i32_rg e
  have d1 : (e - a).toInt = len.toInt := by rw [i32_sub] <;> omega
  have m1 : len.toInt * part.toInt ≤ len.toInt * parts.toInt := Int.mul_le_mul_of_nonneg_left hq1 h0
  have m0 : 0 ≤ len.toInt * part.toInt := Int.mul_nonneg h0 hq0
  have m2 : len.toInt * part.toInt ≤ 2147483647 * 2147483647 := Int.le_trans m1 (Int.le_trans (Int.mul_le_mul_of_nonneg_right h1 (by omega)) (Int.mul_le_mul_of_nonneg_left (by omega) (by omega)))
  have d2 : ((e - a).toInt64 * part.toInt64).toInt = len.toInt * part.toInt := by
    rw [i64_mul] <;> rw [i64_of_i32, i64_of_i32, d1] <;> omega
  have q0 : 0 ≤ len.toInt * part.toInt / parts.toInt := Int.ediv_nonneg m0 (by omega)
  have q1 : len.toInt * part.toInt / parts.toInt ≤ len.toInt := Int.ediv_le_of_le_mul (by omega) m1
  have d3 : ((e - a).toInt64 * part.toInt64 / parts.toInt64).toInt = len.toInt * part.toInt / parts.toInt := by
    rw [i64_div (by rw [i64_of_i32]; omega), d2, i64_of_i32, Int.tdiv_eq_ediv_of_nonneg m0]
  have d4 : ((e - a).toInt64 * part.toInt64 / parts.toInt64).toInt32.toInt = len.toInt * part.toInt / parts.toInt := by
    rw [i32_of_i64] <;> omega
  refine ⟨?_, q0, q1⟩
  rw [hu, i32_add] <;> omega
theorem own_fin {len k num : Int64} {parts part : Int32} (h0 : 0 ≤ len.toInt) (h1 : len.toInt ≤ 2147483647) (hp : 1 ≤ parts.toInt) (hq0 : 0 ≤ part.toInt) (hq1 : part.toInt ≤ parts.toInt) (hk : k.toInt = len.toInt * part.toInt / parts.toInt) (hk0 : 0 ≤ len.toInt * part.toInt / parts.toInt) (hk1 : len.toInt * part.toInt / parts.toInt ≤ len.toInt)
    (hn : num = len * part.toInt64) : (k * parts.toInt64).toInt ≤ num.toInt ∧ num.toInt < ((k + 1) * parts.toInt64).toInt := by
  have rp := own_i32_rg parts
  have m0 : 0 ≤ len.toInt * part.toInt := Int.mul_nonneg h0 hq0
  have m1 : len.toInt * part.toInt ≤ 2147483647 * 2147483647 := Int.le_trans (Int.mul_le_mul_of_nonneg_left (show part.toInt ≤ 2147483647 by omega) h0) (Int.mul_le_mul_of_nonneg_right h1 (by omega))
  have n1 : num.toInt = len.toInt * part.toInt := by rw [hn, i64_mul] <;> rw [i64_of_i32] <;> omega
  have k0 : 0 ≤ k.toInt := by omega
  have k2 : k.toInt ≤ 2147483647 := by omega
  have m3 : k.toInt * parts.toInt ≤ 2147483647 * 2147483647 := Int.le_trans (Int.mul_le_mul_of_nonneg_left (show parts.toInt ≤ 2147483647 by omega) k0) (Int.mul_le_mul_of_nonneg_right k2 (by omega))
  have m4 : 0 ≤ k.toInt * parts.toInt := Int.mul_nonneg k0 (by omega)
  have e1 : (k * parts.toInt64).toInt = k.toInt * parts.toInt := by rw [i64_mul] <;> rw [i64_of_i32] <;> omega
  have e2 : (k + 1).toInt = k.toInt + 1 := by rw [i64_add] <;> rw [own_l64_1] <;> omega
  have e4 : (k.toInt + 1) * parts.toInt = k.toInt * parts.toInt + parts.toInt := by rw [Int.add_mul, Int.one_mul]
  have e3 : ((k + 1) * parts.toInt64).toInt = (k.toInt + 1) * parts.toInt := by rw [i64_mul] <;> rw [i64_of_i32, e2] <;> omega
  rw [e1, e3, n1, hk]
  constructor
  · exact Int.ediv_mul_le _ (by omega)
  · exact Int.lt_ediv_add_one_mul_self _ (by omega)
end
theorem own_parts {x u : Int32} (hu : u = if (1 : Int32).toInt < (x &&& (2147483647 : Int32)).toInt then (x &&& (2147483647 : Int32)) else (1 : Int32)) : 1 ≤ u.toInt := by
  have h1 : (1 : Int32).toInt = 1 := by decide
  rw [h1] at hu
  split at hu <;> rw [hu] <;> omega
theorem own_nz32 {x : Int32} (h : 1 ≤ x.toInt) : x.toInt64 ≠ 0 := fun q => by
  have e := own_wide x
  rw [q] at e
  have : (0 : Int64).toInt = 0 := by decide
  omega
theorem own_ksub {u a : Int32} {k : Int64} {q : Int} (h : u.toInt = a.toInt + q) (hk : k = u.toInt64 - a.toInt64) : k.toInt = q := by
  have := own_i32_rg a
  have := own_i32_rg u
  rw [hk, Jvm.Kit.i64_sub] <;> rw [own_wide, own_wide] <;> omega

def own_Q1 (h0 : Heap) (p1 : Int64) (p2 : Int64) (v : Option Value) (h : Heap) (L : List Loc) : Prop := v = some (.long (if p2.toInt < p1.toInt then p2 else p1)) ∧ h = h0 ∧ L = []
set_option maxRecDepth 65536 in
set_option maxHeartbeats 40000000 in
theorem own_m1 (l : Launch) (Z : State) (a0 : Array Value) (hw : ∀ d ∈ tables_1, d.before a0 Z = true) (h0 : Heap) (p1 : Int64) (p2 : Int64)  :
    MetFree l (⟨"java/lang/Math", "min", "(JJ)J"⟩ : MethodName) (head1 [Jvm.Cond.code (⟨"java/lang/Math", "min", "(JJ)J"⟩ : MethodName) jdk_29_method_70_code 4 (some .long)] ({ frames := 0, cells := 0, slots := 0, locals := 0 } : Room)) (fun a U => a = #[(.long p1), (.long p2)] ∧ Z.Warmed39 U.vm ∧ U.heap = h0) (fun _ _ _ _ _ => True) (fun _ U o U' => ∃ v L, o = .returned v ∧ (own_Q1 h0 p1 p2 ) v U'.heap L ∧ FrameEnd U o U' L ({ frames := 0, cells := 0, slots := 0, locals := 0 } : Room).cells ({ frames := 0, cells := 0, slots := 0, locals := 0 } : Room).slots) := by
  refine OwnK.met (Q := (own_Q1 h0 p1 p2 )) (C := ({ frames := 0, cells := 0, slots := 0, locals := 0 } : Room).cells) (N := ({ frames := 0, cells := 0, slots := 0, locals := 0 } : Room).slots) own_pl_1 (own_ef_1 p1 p2) ?_
  intro p e s m below meth c T0 X0 hx hZ hby hml hown hnm hret hlk e0
  refine OwnK.lloadN X0 hx (hb hby own_d1_0) (pc' := 1) rfl (v := p1) rfl ?_
  refine OwnK.lloadN X0 hx (hb hby own_d1_1) (pc' := 2) rfl (v := p2) rfl ?_
  refine OwnK.lcmp_gt X0 hx (hb hby own_d1_2) (pc1 := 3) rfl (hb hby own_d1_3) (by decide) (pcT := 10) (by decide) (pc' := 6) rfl (fun (hc1 : p2.toInt < p1.toInt) => ?_) (fun (hc1 : p1.toInt ≤ p2.toInt) => ?_)
  · refine OwnK.lloadN X0 hx (hb hby own_d1_10) (pc' := 11) rfl (v := p2) rfl ?_
    refine OwnK.retL_ X0 hx hret hlk (hb hby own_d1_11) (by decide) (by decide) ?_
    exact ⟨by first | rw [if_pos (by assumption)] | rw [if_neg (by omega)], e0, rfl⟩
  · refine OwnK.lloadN X0 hx (hb hby own_d1_6) (pc' := 7) rfl (v := p1) rfl ?_
    refine OwnK.goto_ X0 hx (hb hby own_d1_7) (by decide) (pc' := 11) (by decide) ?_
    refine OwnK.retL_ X0 hx hret hlk (hb hby own_d1_11) (by decide) (by decide) ?_
    exact ⟨by first | rw [if_pos (by assumption)] | rw [if_neg (by omega)], e0, rfl⟩
def own_Q2 (h0 : Heap) (p1 : Int32) (p2 : Int32) (v : Option Value) (h : Heap) (L : List Loc) : Prop := v = some (.int (if p1.toInt < p2.toInt then p2 else p1)) ∧ h = h0 ∧ L = []
set_option maxRecDepth 65536 in
set_option maxHeartbeats 40000000 in
theorem own_m2 (l : Launch) (Z : State) (a0 : Array Value) (hw : ∀ d ∈ tables_1, d.before a0 Z = true) (h0 : Heap) (p1 : Int32) (p2 : Int32)  :
    MetFree l (⟨"java/lang/Math", "max", "(II)I"⟩ : MethodName) (head1 [Jvm.Cond.code (⟨"java/lang/Math", "max", "(II)I"⟩ : MethodName) jdk_29_method_65_code 2 (some .int)] ({ frames := 0, cells := 0, slots := 0, locals := 0 } : Room)) (fun a U => a = #[(.int p1), (.int p2)] ∧ Z.Warmed39 U.vm ∧ U.heap = h0) (fun _ _ _ _ _ => True) (fun _ U o U' => ∃ v L, o = .returned v ∧ (own_Q2 h0 p1 p2 ) v U'.heap L ∧ FrameEnd U o U' L ({ frames := 0, cells := 0, slots := 0, locals := 0 } : Room).cells ({ frames := 0, cells := 0, slots := 0, locals := 0 } : Room).slots) := by
  refine OwnK.met (Q := (own_Q2 h0 p1 p2 )) (C := ({ frames := 0, cells := 0, slots := 0, locals := 0 } : Room).cells) (N := ({ frames := 0, cells := 0, slots := 0, locals := 0 } : Room).slots) own_pl_2 (own_ef_2 p1 p2) ?_
  intro p e s m below meth c T0 X0 hx hZ hby hml hown hnm hret hlk e0
  refine OwnK.iloadN X0 hx (hb hby own_d2_0) (pc' := 1) rfl (v := p1) rfl ?_
  refine OwnK.iloadN X0 hx (hb hby own_d2_1) (pc' := 2) rfl (v := p2) rfl ?_
  refine OwnK.icmp_lt X0 hx (hb hby own_d2_2) (by decide) (pcT := 9) (by decide) (pc' := 5) rfl (fun (hc1 : p1.toInt < p2.toInt) => ?_) (fun (hc1 : p2.toInt ≤ p1.toInt) => ?_)
  · refine OwnK.iloadN X0 hx (hb hby own_d2_9) (pc' := 10) rfl (v := p2) rfl ?_
    refine OwnK.retI_ X0 hx hret hlk (hb hby own_d2_10) (by decide) (by decide) ?_
    exact ⟨by first | rw [if_pos (by assumption)] | rw [if_neg (by omega)], e0, rfl⟩
  · refine OwnK.iloadN X0 hx (hb hby own_d2_5) (pc' := 6) rfl (v := p1) rfl ?_
    refine OwnK.goto_ X0 hx (hb hby own_d2_6) (by decide) (pc' := 10) (by decide) ?_
    refine OwnK.retI_ X0 hx hret hlk (hb hby own_d2_10) (by decide) (by decide) ?_
    exact ⟨by first | rw [if_pos (by assumption)] | rw [if_neg (by omega)], e0, rfl⟩
def own_Q3 (h0 : Heap) (p1 : Int32) (p2 : Int32) (p3 : Int32) (p4 : Int32) (v : Option Value) (h : Heap) (L : List Loc) : Prop := v = some (.int (p1 + ((p2 - p1).toInt64 * p4.toInt64 / p3.toInt64).toInt32)) ∧ h = h0 ∧ L = []
set_option maxRecDepth 65536 in
set_option maxHeartbeats 40000000 in
theorem own_m3 (l : Launch) (Z : State) (a0 : Array Value) (hw : ∀ d ∈ tables_1, d.before a0 Z = true) (h0 : Heap) (p1 : Int32) (p2 : Int32) (p3 : Int32) (p4 : Int32)  (hnz : p3.toInt64 ≠ 0) :
    MetFree l (⟨"com/example/strict_reach/strictreach/Workers", "start", "(IIII)I"⟩ : MethodName) (head1 [Jvm.Cond.code (⟨"com/example/strict_reach/strictreach/Workers", "start", "(IIII)I"⟩ : MethodName) prog_34_method_4_code 4 (some .int)] ({ frames := 0, cells := 0, slots := 0, locals := 0 } : Room)) (fun a U => a = #[(.int p1), (.int p2), (.int p3), (.int p4)] ∧ Z.Warmed39 U.vm ∧ U.heap = h0) (fun _ _ _ _ _ => True) (fun _ U o U' => ∃ v L, o = .returned v ∧ (own_Q3 h0 p1 p2 p3 p4 ) v U'.heap L ∧ FrameEnd U o U' L ({ frames := 0, cells := 0, slots := 0, locals := 0 } : Room).cells ({ frames := 0, cells := 0, slots := 0, locals := 0 } : Room).slots) := by
  refine OwnK.met (Q := (own_Q3 h0 p1 p2 p3 p4 )) (C := ({ frames := 0, cells := 0, slots := 0, locals := 0 } : Room).cells) (N := ({ frames := 0, cells := 0, slots := 0, locals := 0 } : Room).slots) own_pl_3 (own_ef_3 p1 p2 p3 p4) ?_
  intro p e s m below meth c T0 X0 hx hZ hby hml hown hnm hret hlk e0
  refine OwnK.iloadN X0 hx (hb hby own_d3_0) (pc' := 1) rfl (v := p1) rfl ?_
  refine OwnK.iloadN X0 hx (hb hby own_d3_1) (pc' := 2) rfl (v := p2) rfl ?_
  refine OwnK.iloadN X0 hx (hb hby own_d3_2) (pc' := 3) rfl (v := p1) rfl ?_
  refine OwnK.isub X0 hx (hb hby own_d3_3) (pc' := 4) rfl ?_
  refine OwnK.i2l X0 hx (hb hby own_d3_4) (pc' := 5) rfl ?_
  refine OwnK.iloadN X0 hx (hb hby own_d3_5) (pc' := 6) rfl (v := p4) rfl ?_
  refine OwnK.i2l X0 hx (hb hby own_d3_6) (pc' := 7) rfl ?_
  refine OwnK.lmul X0 hx (hb hby own_d3_7) (pc' := 8) rfl ?_
  refine OwnK.iloadN X0 hx (hb hby own_d3_8) (pc' := 9) rfl (v := p3) rfl ?_
  refine OwnK.i2l X0 hx (hb hby own_d3_9) (pc' := 10) rfl ?_
  refine OwnK.ldiv X0 hx (hb hby own_d3_10) (pc' := 11) rfl hnz ?_
  refine OwnK.l2i X0 hx (hb hby own_d3_11) (pc' := 12) rfl ?_
  refine OwnK.iadd X0 hx (hb hby own_d3_12) (pc' := 13) rfl ?_
  refine OwnK.retI_ X0 hx hret hlk (hb hby own_d3_13) (by decide) (by decide) ?_
  exact ⟨by rfl, e0, rfl⟩
set_option maxRecDepth 65536 in
set_option maxHeartbeats 40000000 in
theorem own_law (l : Launch) (Z : State) (a0 : Array Value) (hw : ∀ d ∈ tables_1, d.before a0 Z = true) (ws : List Jvm.Cond) (h0 : Heap) (n0 : Nat) (Z0 : n0 ≤ h0.size) (p0 : Int32) (p1 : Int32) (p2 : Int32) (p3 : Int32)  :
    MetFree l x (head1 (Jvm.Cond.code x code maxLocals ret :: ws) room_1) (fun a U => a = #[(.int p0), (.int p1), (.int p2), (.int p3)] ∧ Z.Warmed39 U.vm ∧ U.heap = h0) (fun _ _ _ _ _ => True) (fun _ U o U' => ∃ v L, o = .returned v ∧ (fun (v : Option Value) (_ : Heap) (L : List Loc) => v = some (.int (1 : Int32)) ∧ Fr n0 L) v U'.heap L ∧ FrameEnd U o U' L 0 0) := by
  refine OwnK.met (Q := (fun (v : Option Value) (_ : Heap) (L : List Loc) => v = some (.int (1 : Int32)) ∧ Fr n0 L)) (C := 0) (N := 0) own_pl_0 (own_ef_0 p0 p1 p2 p3) ?_
  intro p e s m below meth c T0 X0 hx hZ hby hml hown hnm hret hlk e0
  have N0 := Fr.nil n0
  refine OwnK.ldc2J X0 hx hZ hown (hw _ (List.mem_of_getElem? (i := 0) rfl)) (hb hby at_0) (pc' := 3) rfl ?_
  refine OwnK.iloadN X0 hx (hb hby at_3) (pc' := 4) rfl (v := p0) rfl ?_
  refine OwnK.i2l X0 hx (hb hby at_4) (pc' := 5) rfl ?_
  refine OwnK.lsub X0 hx (hb hby at_5) (pc' := 6) rfl ?_
  refine OwnK.ldc2J X0 hx hZ hown (hw _ (List.mem_of_getElem? (i := 0) rfl)) (hb hby at_6) (pc' := 9) rfl ?_
  refine OwnK.callS_ X0 hx hZ hown (y := (⟨"java/lang/Math", "min", "(JJ)J"⟩ : MethodName)) (hw _ (List.mem_of_getElem? (i := 1) rfl)) (hw _ (List.mem_of_getElem? (i := 2) rfl)) (hw _ (List.mem_of_getElem? (i := 3) rfl)) (hw _ (List.mem_of_getElem? (i := 4) rfl)) (by decide) (own_m1 l Z a0 hw h0 ((2147483647 : Int64) - (p0.toInt64)) (2147483647 : Int64)  ) (by decide) (W := 0) (by decide) e0 (by rw [hml]; rfl) own_pd_2 (argsL := [(.long ((2147483647 : Int64) - (p0.toInt64))), (.long (2147483647 : Int64))]) rfl (S := []) rfl (by decide) (hb hby at_9) (pc' := 12) rfl (by decide) (by decide) (fun T1 v1 L1 X1 hQ1 => ?_)
  obtain ⟨rfl, e1, rfl⟩ := hQ1
  have N2 := Fr.app N0 (Fr.nil n0)
  refine OwnK.lstoreG X1 hx (hb hby at_12) (pc' := 14) rfl (Ls' := fun u => #[.val (.int p0), .val (.int p1), .val (.int p2), .val (.int p3), .val (.long u), .second, .unset, .unset, .unset, .unset, .unset, .unset, .unset, .unset, .unset, .unset]) (fun u => rfl) (fun u3 (hu3 : u3 = (if (2147483647 : Int64).toInt < ((2147483647 : Int64) - (p0.toInt64)).toInt then (2147483647 : Int64) else ((2147483647 : Int64) - (p0.toInt64)))) => ?_)
  obtain ⟨hb0, hb1, hb2⟩ := own_bound hu3
  refine OwnK.iloadN X1 hx (hb hby at_14) (pc' := 15) rfl (v := p1) rfl ?_
  refine OwnK.i2l X1 hx (hb hby at_15) (pc' := 16) rfl ?_
  refine OwnK.ldc2J X1 hx hZ hown (hw _ (List.mem_of_getElem? (i := 0) rfl)) (hb hby at_16) (pc' := 19) rfl ?_
  refine OwnK.land X1 hx (hb hby at_19) (pc' := 20) rfl ?_
  refine OwnK.lload X1 hx (hb hby at_20) (pc' := 22) rfl (v := u3) rfl ?_
  refine OwnK.lconst X1 hx (hb hby at_22) (pc' := 23) rfl (v := (1 : Int64)) (by decide) ?_
  refine OwnK.ladd X1 hx (hb hby at_23) (pc' := 24) rfl ?_
  refine OwnK.lrem X1 hx (hb hby at_24) (pc' := 25) rfl (own_nz hb0 hb1) ?_
  refine OwnK.lstoreG X1 hx (hb hby at_25) (pc' := 27) rfl (Ls' := fun u => #[.val (.int p0), .val (.int p1), .val (.int p2), .val (.int p3), .val (.long u3), .second, .val (.long u), .second, .unset, .unset, .unset, .unset, .unset, .unset, .unset, .unset]) (fun u => rfl) (fun u4 (hu4 : u4 = (((p1.toInt64) &&& (2147483647 : Int64)) - (((p1.toInt64) &&& (2147483647 : Int64)) / (u3 + (1 : Int64))) * (u3 + (1 : Int64)))) => ?_)
  obtain ⟨hl0, hl1⟩ := own_rem hb0 hb1 (own_mask63 _).1 hu4
  refine OwnK.iloadN X1 hx (hb hby at_27) (pc' := 28) rfl (v := p0) rfl ?_
  refine OwnK.i2l X1 hx (hb hby at_28) (pc' := 29) rfl ?_
  refine OwnK.lload X1 hx (hb hby at_29) (pc' := 31) rfl (v := u4) rfl ?_
  refine OwnK.ladd X1 hx (hb hby at_31) (pc' := 32) rfl ?_
  refine OwnK.l2i X1 hx (hb hby at_32) (pc' := 33) rfl ?_
  refine OwnK.istoreG X1 hx (hb hby at_33) (pc' := 35) rfl (Ls' := fun u => #[.val (.int p0), .val (.int p1), .val (.int p2), .val (.int p3), .val (.long u3), .second, .val (.long u4), .second, .val (.int u), .unset, .unset, .unset, .unset, .unset, .unset, .unset]) (fun u => rfl) (fun u5 (hu5 : u5 = (((p0.toInt64) + u4).toInt32)) => ?_)
  have hend := own_end hl0 (by omega) hu5
  refine OwnK.iconst X1 hx (hb hby at_35) (pc' := 36) rfl (v := (1 : Int32)) (by decide) ?_
  refine OwnK.iloadN X1 hx (hb hby at_36) (pc' := 37) rfl (v := p2) rfl ?_
  refine OwnK.ldcI X1 hx hZ hown (hw _ (List.mem_of_getElem? (i := 5) rfl)) (hb hby at_37) (pc' := 39) rfl ?_
  refine OwnK.iand X1 hx (hb hby at_39) (pc' := 40) rfl ?_
  refine OwnK.callS_ X1 hx hZ hown (y := (⟨"java/lang/Math", "max", "(II)I"⟩ : MethodName)) (hw _ (List.mem_of_getElem? (i := 6) rfl)) (hw _ (List.mem_of_getElem? (i := 7) rfl)) (hw _ (List.mem_of_getElem? (i := 3) rfl)) (hw _ (List.mem_of_getElem? (i := 8) rfl)) (by decide) (own_m2 l Z a0 hw h0 (1 : Int32) (p2 &&& (2147483647 : Int32))  ) (by decide) (W := 0) (by decide) e1 (by rw [hml]; rfl) own_pd_0 (argsL := [(.int (1 : Int32)), (.int (p2 &&& (2147483647 : Int32)))]) rfl (S := []) rfl (by decide) (hb hby at_40) (pc' := 43) rfl (by decide) (by decide) (fun T6 v6 L6 X6 hQ6 => ?_)
  obtain ⟨rfl, e6, rfl⟩ := hQ6
  have N7 := Fr.app N2 (Fr.nil n0)
  refine OwnK.istoreG X6 hx (hb hby at_43) (pc' := 45) rfl (Ls' := fun u => #[.val (.int p0), .val (.int p1), .val (.int p2), .val (.int p3), .val (.long u3), .second, .val (.long u4), .second, .val (.int u5), .val (.int u), .unset, .unset, .unset, .unset, .unset, .unset]) (fun u => rfl) (fun u8 (hu8 : u8 = (if (1 : Int32).toInt < (p2 &&& (2147483647 : Int32)).toInt then (p2 &&& (2147483647 : Int32)) else (1 : Int32))) => ?_)
  have hparts := own_parts hu8
  refine OwnK.iloadN X6 hx (hb hby at_45) (pc' := 46) rfl (v := p3) rfl ?_
  refine OwnK.i2l X6 hx (hb hby at_46) (pc' := 47) rfl ?_
  refine OwnK.ldc2J X6 hx hZ hown (hw _ (List.mem_of_getElem? (i := 0) rfl)) (hb hby at_47) (pc' := 50) rfl ?_
  refine OwnK.land X6 hx (hb hby at_50) (pc' := 51) rfl ?_
  refine OwnK.iload X6 hx (hb hby at_51) (pc' := 53) rfl (v := u8) rfl ?_
  refine OwnK.i2l X6 hx (hb hby at_53) (pc' := 54) rfl ?_
  refine OwnK.lconst X6 hx (hb hby at_54) (pc' := 55) rfl (v := (1 : Int64)) (by decide) ?_
  refine OwnK.ladd X6 hx (hb hby at_55) (pc' := 56) rfl ?_
  refine OwnK.lrem X6 hx (hb hby at_56) (pc' := 57) rfl (own_nz (by rw [own_wide]; omega) (by rw [own_wide]; have := own_i32_rg u8; omega)) ?_
  refine OwnK.l2i X6 hx (hb hby at_57) (pc' := 58) rfl ?_
  refine OwnK.istoreG X6 hx (hb hby at_58) (pc' := 60) rfl (Ls' := fun u => #[.val (.int p0), .val (.int p1), .val (.int p2), .val (.int p3), .val (.long u3), .second, .val (.long u4), .second, .val (.int u5), .val (.int u8), .val (.int u), .unset, .unset, .unset, .unset, .unset]) (fun u => rfl) (fun u9 (hu9 : u9 = ((((p3.toInt64) &&& (2147483647 : Int64)) - (((p3.toInt64) &&& (2147483647 : Int64)) / ((u8.toInt64) + (1 : Int64))) * ((u8.toInt64) + (1 : Int64))).toInt32)) => ?_)
  obtain ⟨hq0, hq1⟩ := own_part hparts (own_mask63 _).1 hu9
  refine OwnK.iloadN X6 hx (hb hby at_60) (pc' := 61) rfl (v := p0) rfl ?_
  refine OwnK.iload X6 hx (hb hby at_61) (pc' := 63) rfl (v := u5) rfl ?_
  refine OwnK.iload X6 hx (hb hby at_63) (pc' := 65) rfl (v := u8) rfl ?_
  refine OwnK.iload X6 hx (hb hby at_65) (pc' := 67) rfl (v := u9) rfl ?_
  refine OwnK.callS_ X6 hx hZ hown (y := (⟨"com/example/strict_reach/strictreach/Workers", "start", "(IIII)I"⟩ : MethodName)) (hw _ (List.mem_of_getElem? (i := 9) rfl)) (hw _ (List.mem_of_getElem? (i := 10) rfl)) (hw _ (List.mem_of_getElem? (i := 11) rfl)) (hw _ (List.mem_of_getElem? (i := 12) rfl)) (by decide) (own_m3 l Z a0 hw h0 p0 u5 u8 u9 (own_nz32 hparts) ) (by decide) (W := 0) (by decide) e6 (by rw [hml]; rfl) own_pd_1 (argsL := [(.int p0), (.int u5), (.int u8), (.int u9)]) rfl (S := []) rfl (by decide) (hb hby at_67) (pc' := 70) rfl (by decide) (by decide) (fun T10 v10 L10 X10 hQ10 => ?_)
  obtain ⟨rfl, e10, rfl⟩ := hQ10
  have N11 := Fr.app N7 (Fr.nil n0)
  refine OwnK.istoreG X10 hx (hb hby at_70) (pc' := 72) rfl (Ls' := fun u => #[.val (.int p0), .val (.int p1), .val (.int p2), .val (.int p3), .val (.long u3), .second, .val (.long u4), .second, .val (.int u5), .val (.int u8), .val (.int u9), .val (.int u), .unset, .unset, .unset, .unset]) (fun u => rfl) (fun u12 (hu12 : u12 = (p0 + ((u5 - p0).toInt64 * u9.toInt64 / u8.toInt64).toInt32)) => ?_)
  obtain ⟨hs0, hs1, hs2⟩ := own_start hl0 (by omega) hend hparts hq0 hq1 hu12
  refine OwnK.iload X10 hx (hb hby at_72) (pc' := 74) rfl (v := u12) rfl ?_
  refine OwnK.i2l X10 hx (hb hby at_74) (pc' := 75) rfl ?_
  refine OwnK.iloadN X10 hx (hb hby at_75) (pc' := 76) rfl (v := p0) rfl ?_
  refine OwnK.i2l X10 hx (hb hby at_76) (pc' := 77) rfl ?_
  refine OwnK.lsub X10 hx (hb hby at_77) (pc' := 78) rfl ?_
  refine OwnK.lstoreG X10 hx (hb hby at_78) (pc' := 80) rfl (Ls' := fun u => #[.val (.int p0), .val (.int p1), .val (.int p2), .val (.int p3), .val (.long u3), .second, .val (.long u4), .second, .val (.int u5), .val (.int u8), .val (.int u9), .val (.int u12), .val (.long u), .second, .unset, .unset]) (fun u => rfl) (fun u13 (hu13 : u13 = ((u12.toInt64) - (p0.toInt64))) => ?_)
  have hk := own_ksub hs0 hu13
  refine OwnK.lload X10 hx (hb hby at_80) (pc' := 82) rfl (v := u13) rfl ?_
  refine OwnK.lconst X10 hx (hb hby at_82) (pc' := 83) rfl (v := (0 : Int64)) (by decide) ?_
  refine OwnK.lcmp_lt X10 hx (hb hby at_83) (pc1 := 84) rfl (hb hby at_84) (by decide) (pcT := 95) (by decide) (pc' := 87) rfl (fun (hc83 : u13.toInt < 0) => by omega) (fun hc83 => ?_)
  refine OwnK.lload X10 hx (hb hby at_87) (pc' := 89) rfl (v := u13) rfl ?_
  refine OwnK.lload X10 hx (hb hby at_89) (pc' := 91) rfl (v := u4) rfl ?_
  refine OwnK.lcmp_le X10 hx (hb hby at_91) (pc1 := 92) rfl (hb hby at_92) (by decide) (pcT := 97) (by decide) (pc' := 95) rfl (fun hc91 => ?_) (fun (hc91 : u4.toInt < u13.toInt) => by omega)
  refine OwnK.lload X10 hx (hb hby at_97) (pc' := 99) rfl (v := u4) rfl ?_
  refine OwnK.iload X10 hx (hb hby at_99) (pc' := 101) rfl (v := u9) rfl ?_
  refine OwnK.i2l X10 hx (hb hby at_101) (pc' := 102) rfl ?_
  refine OwnK.lmul X10 hx (hb hby at_102) (pc' := 103) rfl ?_
  refine OwnK.lstoreG X10 hx (hb hby at_103) (pc' := 105) rfl (Ls' := fun u => #[.val (.int p0), .val (.int p1), .val (.int p2), .val (.int p3), .val (.long u3), .second, .val (.long u4), .second, .val (.int u5), .val (.int u8), .val (.int u9), .val (.int u12), .val (.long u13), .second, .val (.long u), .second]) (fun u => rfl) (fun u14 (hu14 : u14 = (u4 * (u9.toInt64))) => ?_)
  obtain ⟨hf0, hf1⟩ := own_fin hl0 (by omega) hparts hq0 hq1 hk hs1 hs2 hu14
  refine OwnK.lload X10 hx (hb hby at_105) (pc' := 107) rfl (v := u13) rfl ?_
  refine OwnK.iload X10 hx (hb hby at_107) (pc' := 109) rfl (v := u8) rfl ?_
  refine OwnK.i2l X10 hx (hb hby at_109) (pc' := 110) rfl ?_
  refine OwnK.lmul X10 hx (hb hby at_110) (pc' := 111) rfl ?_
  refine OwnK.lload X10 hx (hb hby at_111) (pc' := 113) rfl (v := u14) rfl ?_
  refine OwnK.lcmp_gt X10 hx (hb hby at_113) (pc1 := 114) rfl (hb hby at_114) (by decide) (pcT := 135) (by decide) (pc' := 117) rfl (fun (hc113 : u14.toInt < (u13 * (u8.toInt64)).toInt) => by omega) (fun hc113 => ?_)
  refine OwnK.lload X10 hx (hb hby at_117) (pc' := 119) rfl (v := u14) rfl ?_
  refine OwnK.lload X10 hx (hb hby at_119) (pc' := 121) rfl (v := u13) rfl ?_
  refine OwnK.lconst X10 hx (hb hby at_121) (pc' := 122) rfl (v := (1 : Int64)) (by decide) ?_
  refine OwnK.ladd X10 hx (hb hby at_122) (pc' := 123) rfl ?_
  refine OwnK.iload X10 hx (hb hby at_123) (pc' := 125) rfl (v := u8) rfl ?_
  refine OwnK.i2l X10 hx (hb hby at_125) (pc' := 126) rfl ?_
  refine OwnK.lmul X10 hx (hb hby at_126) (pc' := 127) rfl ?_
  refine OwnK.lcmp_ge X10 hx (hb hby at_127) (pc1 := 128) rfl (hb hby at_128) (by decide) (pcT := 135) (by decide) (pc' := 131) rfl (fun (hc127 : ((u13 + (1 : Int64)) * (u8.toInt64)).toInt ≤ u14.toInt) => by omega) (fun hc127 => ?_)
  refine OwnK.iconst X10 hx (hb hby at_131) (pc' := 132) rfl (v := (1 : Int32)) (by decide) ?_
  refine OwnK.goto_ X10 hx (hb hby at_132) (by decide) (pc' := 136) (by decide) ?_
  refine OwnK.retN_ X10 hx hret (by simp) hlk (hb hby at_136) (by decide) (by decide) ?_
  exact ⟨rfl, N11⟩
set_option maxRecDepth 65536 in
set_option maxHeartbeats 40000000 in
theorem comes_1 {Post : Tables → Env → Array Value → State → Outcome → State → Prop} (hpost : ∀ tb e args s v u, (limb_1_1.after args s (.returned v) u = true ∧ limb_1_2.after args s (.returned v) u = true ∧ True) → FrameEnd s (.returned v) u (Jvm.fieldLocs frame_1_writes args s ++ Jvm.arrayLocs frame_1_arrays args s ++ Jvm.staticLocs frame_1_statics s) 0 0 → Post tb e args s (.returned v) u) :
    ArmFor flags0 classFile x code maxLocals ret World_1 tables_1 room_1 Calls_1 rest_1 Pre_1 Post := by
  intro l hfl _ _ p e ha hc hk s m args below hf hA hF happ hP
  obtain ⟨hcalls, hrest, hpre⟩ := hP
  obtain ⟨-, -, -, hnamed, -, -, -, hat⟩ := (Spec.applies_iff hf).mp happ
  obtain ⟨hg, hn⟩ := and_e (Cond.before_iff.mp (show (Jvm.Cond.and given_1 narrow_1).before args s = true from hpre))
  obtain ⟨hcnt, hg0⟩ := and_e hg
  obtain ⟨ha0, hg1⟩ := and_e hg0
  obtain ⟨ha1, hg2⟩ := and_e hg1
  obtain ⟨ha2, hg3⟩ := and_e hg2
  have ha3 := hg3
  obtain ⟨w0, w1, w2, w3, rfl⟩ : ∃ w0 w1 w2 w3 : Value, args = #[w0, w1, w2, w3] := by
    have hs : args.size = 4 := by simpa [Cond.value, given_1] using hcnt
    obtain ⟨L⟩ := args
    match L, hs with
    | [w0, w1, w2, w3], _ => exact ⟨w0, w1, w2, w3, rfl⟩
  have hw := fun d (hd : d ∈ tables_1) => atoms_spec (ws := Jvm.Cond.code x code maxLocals ret :: tables_1) hat d (List.mem_cons_of_mem _ hd)
  have hfit : Fit s := fun {y c} hc i hi => by
    obtain ⟨ha, rfl⟩ := Array.getElem?_eq_some_iff.mp hc
    have q := List.all_eq_true.mp ((Array.all_eq_true_iff_forall_mem.mp hF) _ (Array.getElem_mem ha)) i (List.mem_range.mpr hi)
    simpa [Array.getElem?_eq_getElem hi] using q
  obtain ⟨i0, e0⟩ := is_v ha0
  obtain rfl : w0 = (.int i0) := Option.some.inj e0
  obtain ⟨i1, e1⟩ := is_v ha1
  obtain rfl : w1 = (.int i1) := Option.some.inj e1
  obtain ⟨i2, e2⟩ := is_v ha2
  obtain rfl : w2 = (.int i2) := Option.some.inj e2
  obtain ⟨i3, e3⟩ := is_v ha3
  obtain rfl : w3 = (.int i3) := Option.some.inj e3
  obtain ⟨n, o, h1, h2, h3, _, L, rfl, ⟨rfl, N⟩, hq⟩ := own_law l s _ hw tables_1 s.heap s.heap.size (Nat.le_refl _) i0 i1 i2 i3  p e ha hc hk s m _ below hf ((Spec.applies_iff_loose hf).mp happ).1 ⟨rfl, State.Warmed39.refl s, rfl⟩ trivial
  refine ⟨n, _, h1, h2, h3, hpost _ _ _ _ _ _ ⟨Cond.after_iff.mpr rfl, Cond.after_iff.mpr (eq_i res_at (Term.int_eval (1)) rfl), trivial⟩ ⟨hq.1, hq.2.1, (hq.2.2.sift fun y hy => Or.inr (N y hy)).mono (by decide) (by decide)⟩⟩
theorem main_1_1 : Claimed_1_1 := comes_1 fun _ _ _ _ _ _ h hF => ⟨h.1, hF⟩
theorem main_1_2 : Claimed_1_2 := comes_1 fun _ _ _ _ _ _ h hF => ⟨h.2.1, hF⟩
end Jvm.Pilot.@@N@@
namespace Jvm.Pilot.@@N@@
open Jvm Jvm.ClassFile Sem Op Lib Jvm.Free Jvm.Stand Jvm.Pilot.@@N@@.Jvm.D
/-! MADE BY PROGRAM (witnessworld.py) out of the Statement's table words and the real class files: 11 classes; the members and pool entries that the words name. The judged class is class 1, her method 1. -/
namespace start1
open Jvm.ClassFile
def u (s : String) : CpInfo := .utf8 (stringToUtf16 s)
/-- a pool by its gaps: so many unusable entries, then the entry; so many at the end -/
def gap : Nat → List CpInfo → List CpInfo
  | 0, r => r
  | n + 1, r => .unusable :: gap n r
def poolList (es : List (Nat × CpInfo)) (last : Nat) : List CpInfo := es.foldr (fun e r => gap e.1 (e.2 :: r)) (gap last [])
def pool (es : List (Nat × CpInfo)) (last : Nat) : Array CpInfo := ⟨poolList es last⟩
def fileOf (pool : Array CpInfo) (this : Nat) (attrs : Array Attribute := #[]) (ms : Array MethodInfo := #[]) (fl : Nat := 33) (sup : Nat := 0) (ifs : Array Nat := #[]) (fds : Array FieldInfo := #[]) : ClassFile where
  minorVersion := 0
  majorVersion := 65
  constantPool := pool
  accessFlags := fl
  thisClass := this
  superClass := sup
  interfaces := ifs
  fields := fds
  methods := ms
  attributes := attrs
def plain (name : String) (sup : Option ClassId) : Class where
  name := name
  kind := .ordinary
  loader := none
  accessFlags := 33
  super := sup
  interfaces := #[]
  cf := none
  fields := #[]
  methods := #[]
  instanceTypes := #[]
  staticTypes := #[]
  resolved := #[]
  callSites := []
  init := .initialized
  statics := none
  mirror := none

def pool0 : Array CpInfo := pool [(5, u "<init>"), (0, u "()V"), (1, .class_ 10), (1, u "java/lang/Object")] 113

def k0m0 : Method := { name := "<init>", desc := "()V", sig := { parameters := [], returnType := none }, accessFlags := 1, code := none }
/-- java/lang/Object -/
def k0 : Class := { plain "java/lang/Object" none with
  accessFlags := 33
  interfaces := #[]
  cf := some (fileOf pool0 8 #[] #[{ accessFlags := 1, nameIndex := 5, descriptorIndex := 6, attributes := #[] }] 33 0 #[] #[])
  fields := #[]
  methods := #[k0m0]
  instanceTypes := #[]
  staticTypes := #[]
  resolved := Array.replicate 124 none
  statics := none }

def pool1 : Array CpInfo := pool [(2, .class_ 4), (1, u "java/lang/Object"), (0, u "<init>"), (0, u "()V"), (2, .long 2147483647), (1, .methodref 12 13), (0, .class_ 14), (0, .nameAndType 15 16), (0, u "java/lang/Math"), (0, u "min"), (0, u "(JJ)J"), (0, .integer 2147483647), (0, .methodref 12 19), (0, .nameAndType 20 21), (0, u "max"), (0, u "(II)I"), (0, .methodref 23 24), (0, .class_ 25), (0, .nameAndType 26 27), (0, u "com/example/strict_reach/strictreach/Workers"), (0, u "start"), (0, u "(IIII)I"), (0, .class_ 29), (0, u "com/example/strict_reach/strictreach/WorkersStartPinLaw"), (2, u "law"), (0, u "(IIII)Z")] 3

def k1m0 : Method := { name := "<init>", desc := "()V", sig := { parameters := [], returnType := none }, accessFlags := 2, code := none }
def k1c1 : Code := { maxStack := 6, maxLocals := 16, code := code, exceptionTable := #[], attributes := #[] }
def k1m1 : Method := { name := "law", desc := "(IIII)Z", sig := { parameters := [.int, .int, .int, .int], returnType := some .boolean }, accessFlags := 9, code := some k1c1 }
/-- com/example/strict_reach/strictreach/WorkersStartPinLaw -/
def k1 : Class := { plain "com/example/strict_reach/strictreach/WorkersStartPinLaw" (some 0) with
  accessFlags := 49
  interfaces := #[]
  cf := some (fileOf pool1 28 #[] #[{ accessFlags := 2, nameIndex := 5, descriptorIndex := 6, attributes := #[] }, { accessFlags := 9, nameIndex := 32, descriptorIndex := 33, attributes := #[] }] 49 2 #[] #[])
  fields := #[]
  methods := #[k1m0, k1m1]
  instanceTypes := #[]
  staticTypes := #[]
  resolved := Array.replicate 37 none
  statics := none }

def pool2 : Array CpInfo := pool [(1, .class_ 2), (0, u "java/lang/Math"), (1, .class_ 6), (1, u "java/lang/Object"), (0, u "<init>"), (0, u "()V"), (89, .class_ 100), (1, u "java/lang/Math$RandomNumberGeneratorHolder"), (20, u "(JJ)J"), (50, u "negativeZeroFloatBits"), (0, u "J"), (2, u "negativeZeroDoubleBits"), (21, u "max"), (2, u "min"), (43, u "$assertionsDisabled"), (0, u "Z"), (88, u "(II)I"), (2, u "twoToTheDoubleScaleDown"), (0, u "D"), (4, u "twoToTheDoubleScaleUp"), (9, u "E"), (3, u "PI"), (2, u "TAU"), (2, u "DEGREES_TO_RADIANS"), (0, u "RADIANS_TO_DEGREES")] 94

def k2m0 : Method := { name := "<init>", desc := "()V", sig := { parameters := [], returnType := none }, accessFlags := 2, code := none }
def k2c1 : Code := { maxStack := 2, maxLocals := 2, code := jdk_29_method_65_code, exceptionTable := #[], attributes := #[] }
def k2m1 : Method := { name := "max", desc := "(II)I", sig := { parameters := [.int, .int], returnType := some .int }, accessFlags := 9, code := some k2c1 }
def k2c2 : Code := { maxStack := 4, maxLocals := 4, code := jdk_29_method_70_code, exceptionTable := #[], attributes := #[] }
def k2m2 : Method := { name := "min", desc := "(JJ)J", sig := { parameters := [.long, .long], returnType := some .long }, accessFlags := 9, code := some k2c2 }
/-- java/lang/Math -/
def k2 : Class := { plain "java/lang/Math" (some 0) with
  accessFlags := 49
  interfaces := #[]
  cf := some (fileOf pool2 1 #[.nestMembers #[98]] #[{ accessFlags := 2, nameIndex := 7, descriptorIndex := 8, attributes := #[] }, { accessFlags := 9, nameIndex := 198, descriptorIndex := 335, attributes := #[] }, { accessFlags := 9, nameIndex := 201, descriptorIndex := 121, attributes := #[] }] 49 4 #[] #[{ accessFlags := 25, nameIndex := 354, descriptorIndex := 339, attributes := #[] }, { accessFlags := 25, nameIndex := 358, descriptorIndex := 339, attributes := #[] }, { accessFlags := 25, nameIndex := 361, descriptorIndex := 339, attributes := #[] }, { accessFlags := 26, nameIndex := 364, descriptorIndex := 339, attributes := #[] }, { accessFlags := 26, nameIndex := 365, descriptorIndex := 339, attributes := #[] }, { accessFlags := 26, nameIndex := 172, descriptorIndex := 173, attributes := #[] }, { accessFlags := 26, nameIndex := 176, descriptorIndex := 173, attributes := #[] }, { accessFlags := 8, nameIndex := 344, descriptorIndex := 339, attributes := #[] }, { accessFlags := 8, nameIndex := 338, descriptorIndex := 339, attributes := #[] }, { accessFlags := 4120, nameIndex := 245, descriptorIndex := 246, attributes := #[] }])
  fields := #[{ name := "E", type := .double, accessFlags := 25, slot := 0, constantValue := 0 }, { name := "PI", type := .double, accessFlags := 25, slot := 1, constantValue := 0 }, { name := "TAU", type := .double, accessFlags := 25, slot := 2, constantValue := 0 }, { name := "DEGREES_TO_RADIANS", type := .double, accessFlags := 26, slot := 3, constantValue := 0 }, { name := "RADIANS_TO_DEGREES", type := .double, accessFlags := 26, slot := 4, constantValue := 0 }, { name := "negativeZeroFloatBits", type := .long, accessFlags := 26, slot := 5, constantValue := 0 }, { name := "negativeZeroDoubleBits", type := .long, accessFlags := 26, slot := 6, constantValue := 0 }, { name := "twoToTheDoubleScaleUp", type := .double, accessFlags := 8, slot := 7, constantValue := 0 }, { name := "twoToTheDoubleScaleDown", type := .double, accessFlags := 8, slot := 8, constantValue := 0 }, { name := "$assertionsDisabled", type := .boolean, accessFlags := 4120, slot := 9, constantValue := 0 }]
  methods := #[k2m0, k2m1, k2m2]
  instanceTypes := #[]
  staticTypes := #[.double, .double, .double, .double, .double, .long, .long, .double, .double, .boolean]
  resolved := Array.replicate 460 none
  statics := none }

def pool3 : Array CpInfo := pool [(1, .class_ 2), (0, u "java/lang/AutoCloseable"), (0, .class_ 4), (0, u "java/lang/Object")] 7

/-- java/lang/AutoCloseable -/
def k3 : Class := { plain "java/lang/AutoCloseable" (some 0) with
  accessFlags := 1537
  interfaces := #[]
  cf := some (fileOf pool3 1 #[] #[] 1537 3 #[] #[])
  fields := #[]
  methods := #[]
  instanceTypes := #[]
  staticTypes := #[]
  resolved := Array.replicate 12 none
  statics := none }

def pool4 : Array CpInfo := pool [(2, .class_ 4), (1, u "java/lang/Object"), (12, .class_ 19), (1, u "com/example/strict_reach/strictreach/Workers"), (0, u "count"), (0, u "I"), (2, u "others"), (0, u "Ljava/util/concurrent/ExecutorService;"), (2, u "POOLS"), (0, u "Ljava/util/concurrent/atomic/AtomicInteger;"), (43, .class_ 75), (1, u "com/example/strict_reach/strictreach/Workers$Part"), (1, .class_ 78), (0, u "com/example/strict_reach/strictreach/Workers$Stage"), (87, u "start"), (0, u "(IIII)I"), (1, .class_ 171), (1, u "com/example/strict_reach/strictreach/Workers$Item"), (11, .class_ 184), (0, u "java/lang/AutoCloseable"), (0, u "MIN_PART_SIZE"), (2, u "PARTS_PER_WORKER")] 62

def k4c0 : Code := { maxStack := 5, maxLocals := 4, code := prog_34_method_4_code, exceptionTable := #[], attributes := #[] }
def k4m0 : Method := { name := "start", desc := "(IIII)I", sig := { parameters := [.int, .int, .int, .int], returnType := some .int }, accessFlags := 8, code := some k4c0 }
/-- com/example/strict_reach/strictreach/Workers -/
def k4 : Class := { plain "com/example/strict_reach/strictreach/Workers" (some 0) with
  accessFlags := 32
  interfaces := #[3]
  cf := some (fileOf pool4 17 #[.nestMembers #[77, 169, 73]] #[{ accessFlags := 8, nameIndex := 166, descriptorIndex := 167, attributes := #[] }] 32 2 #[183] #[{ accessFlags := 26, nameIndex := 185, descriptorIndex := 21, attributes := #[] }, { accessFlags := 26, nameIndex := 188, descriptorIndex := 21, attributes := #[] }, { accessFlags := 26, nameIndex := 28, descriptorIndex := 29, attributes := #[] }, { accessFlags := 18, nameIndex := 20, descriptorIndex := 21, attributes := #[] }, { accessFlags := 18, nameIndex := 24, descriptorIndex := 25, attributes := #[] }])
  fields := #[{ name := "MIN_PART_SIZE", type := .int, accessFlags := 26, slot := 0, constantValue := 0 }, { name := "PARTS_PER_WORKER", type := .int, accessFlags := 26, slot := 1, constantValue := 0 }, { name := "POOLS", type := (.object "java/util/concurrent/atomic/AtomicInteger"), accessFlags := 26, slot := 2, constantValue := 0 }, { name := "count", type := .int, accessFlags := 18, slot := 0, constantValue := 0 }, { name := "others", type := (.object "java/util/concurrent/ExecutorService"), accessFlags := 18, slot := 1, constantValue := 0 }]
  methods := #[k4m0]
  instanceTypes := #[.int, (.object "java/util/concurrent/ExecutorService")]
  staticTypes := #[.int, .int, (.object "java/util/concurrent/atomic/AtomicInteger")]
  resolved := Array.replicate 251 none
  statics := none }

def pool5 : Array CpInfo := pool [(1, u "java/lang/Cloneable"), (0, .class_ 1), (0, u "java/lang/Object"), (0, .class_ 3)] 3

/-- java/lang/Cloneable -/
def k5 : Class := { plain "java/lang/Cloneable" (some 0) with
  accessFlags := 1537
  interfaces := #[]
  cf := some (fileOf pool5 2 #[] #[] 1537 4 #[] #[])
  fields := #[]
  methods := #[]
  instanceTypes := #[]
  staticTypes := #[]
  resolved := Array.replicate 8 none
  statics := none }

def pool6 : Array CpInfo := pool [(1, u "java/io/Serializable"), (0, .class_ 1), (0, u "java/lang/Object"), (0, .class_ 3)] 3

/-- java/io/Serializable -/
def k6 : Class := { plain "java/io/Serializable" (some 0) with
  accessFlags := 1537
  interfaces := #[]
  cf := some (fileOf pool6 2 #[] #[] 1537 4 #[] #[])
  fields := #[]
  methods := #[]
  instanceTypes := #[]
  staticTypes := #[]
  resolved := Array.replicate 8 none
  statics := none }

/-- the primitive byte -/
def k7 : Class := { plain "byte" none with kind := .primitive 'B', accessFlags := 0x411 }
/-- [B -/
def k8 : Class := { plain "[B" (some 0) with kind := .array 7 .byte, interfaces := #[5, 6], accessFlags := 1041 }

/-- the primitive int -/
def k9 : Class := { plain "int" none with kind := .primitive 'I', accessFlags := 0x411 }
/-- [I -/
def k10 : Class := { plain "[I" (some 0) with kind := .array 9 .int, interfaces := #[5, 6], accessFlags := 1041 }

def heap : Heap := #[]
def classes : Array Class := #[k0, k1, k2, k3, k4, k5, k6, k7, k8, k9, k10]
def interned : List (Array UInt16 × Addr) := []
def slotsUsed : Nat := 0
def theMethod : MethodId := ⟨1, 1⟩
def args0 : Array Value := #[.int 5, .int 9, .int 3, .int 2]
def aboutOver (below : List Frame) : State where
  vm := { classes := classes, interned := interned.toArray }
  heap := heap
  slotsUsed := slotsUsed
  threads := #[{ frames := .invoking theMethod args0 :: below }]
def below0 : List Frame := [.native { method := ⟨0, 0⟩, args := #[] }]
def about1 : State := aboutOver below0
def p0 : Program := .bare "" "" ""
def e0 : Env := launch0.env 0 0 0
theorem w_frames : about1.frames = Frame.invoking theMethod args0 :: below0 := rfl
set_option maxRecDepth 65536 in
theorem w_args : argsFit about1.vm theMethod args0 = true := by decide +kernel
set_option maxRecDepth 65536 in
theorem w_heap : heapFits about1 = true := by decide +kernel
set_option maxRecDepth 65536 in
theorem w_runnable : about1.curStatus? = some .runnable := by decide +kernel
set_option maxRecDepth 65536 in
theorem w_alone : about1.alone = true := by decide +kernel
set_option maxRecDepth 65536 in
theorem w_named : about1.methodNamed? x = some theMethod := by decide +kernel
set_option maxRecDepth 65536 in
theorem w_hears : about1.hears theMethod below0 = true := by decide +kernel
set_option maxRecDepth 65536 in
theorem w_ripe : about1.ripe theMethod args0 below0 = true := by decide +kernel
theorem w_running : about1.status = .running := rfl
set_option maxRecDepth 65536 in
theorem w_room : about1.hasRoom e0.platform room_1 = true :=
  launch0.hasRoom_least _ room_1 (by decide +kernel) (by decide +kernel) (by decide +kernel) (by decide +kernel) (by decide +kernel) (by decide +kernel)
theorem allAtoms_all (ts : List Jvm.Cond) (a : Array Jvm.Value) (st : Jvm.State) : (allAtoms ts).before a st = ts.all (fun c => c.before a st) := by
  induction ts with
  | nil => rfl
  | cons c t ih =>
    show (Jvm.Cond.and c (allAtoms t)).before a st = _
    rw [Jvm.Cond.before_and, ih, List.all_cons]
def words1 : List Jvm.Cond := Jvm.Cond.code x code maxLocals ret :: tables_1
/-- a 'code' word, met by the world's own term for the bytes: nothing is compared byte by byte -/
theorem code_word {y : MethodName} {bytes : ByteArray} {mx : Nat} {rt : Option FieldType} {a : Array Value} {s : State} {m : MethodId} {meth : Method} {c : Code} (h1 : s.methodNamed? y = some m) (h2 : s.vm.method? m = some meth) (h3 : meth.code = some c) (h4 : c.code = bytes)
    (h5 : (c.maxLocals == mx && c.exceptionTable.isEmpty && decide (c.maxStack ≤ mostOperands) && decide (meth.sig.returnType = rt) && !meth.locks && decide (parseMethodDescriptor y.desc = some meth.sig)) = true) : (Jvm.Cond.code y bytes mx rt).before a s = true := by
  simp only [Bool.and_eq_true, beq_iff_eq, Bool.not_eq_true', decide_eq_true_eq] at h5
  obtain ⟨⟨⟨⟨⟨g1, g2⟩, g3⟩, g4⟩, g5⟩, g6⟩ := h5
  simp [Cond.before, Cond.holds, Cond.value, h1, h2, h3, h4, g1, g2, g3, g4, g5, g6]
def isCode : Jvm.Cond → Bool
  | .code _ _ _ _ => true
  | _ => false
theorem all_split {L : List Jvm.Cond} {P : Jvm.Cond → Bool} (h1 : L.all (fun c => isCode c || P c) = true) (h2 : ∀ c ∈ L.filter isCode, P c = true) : L.all P = true := by
  refine List.all_eq_true.mpr fun c hc => ?_
  have h := List.all_eq_true.mp h1 c hc
  rcases Bool.eq_false_or_eq_true (isCode c) with hi | hi
  · exact h2 c (List.mem_filter.mpr ⟨hc, hi⟩)
  · simpa [hi] using h
set_option maxRecDepth 65536 in
theorem w_c0 : (Jvm.Cond.code x code maxLocals ret).before args0 about1 = true := code_word (m := ⟨1, 1⟩) (meth := k1m1) (c := k1c1) (by decide +kernel) rfl rfl rfl (by decide +kernel)
set_option maxRecDepth 65536 in
theorem w_c1 : (Jvm.Cond.code ({ cls := "java/lang/Math", name := "min", desc := "(JJ)J" } : Jvm.MethodName) jdk_29_method_70_code (4 : Nat) (Option.some Jvm.ClassFile.FieldType.long)).before args0 about1 = true := code_word (m := ⟨2, 2⟩) (meth := k2m2) (c := k2c2) (by decide +kernel) rfl rfl rfl (by decide +kernel)
set_option maxRecDepth 65536 in
theorem w_c2 : (Jvm.Cond.code ({ cls := "java/lang/Math", name := "max", desc := "(II)I" } : Jvm.MethodName) jdk_29_method_65_code (2 : Nat) (Option.some Jvm.ClassFile.FieldType.int)).before args0 about1 = true := code_word (m := ⟨2, 1⟩) (meth := k2m1) (c := k2c1) (by decide +kernel) rfl rfl rfl (by decide +kernel)
set_option maxRecDepth 65536 in
theorem w_c3 : (Jvm.Cond.code ({ cls := "com/example/strict_reach/strictreach/Workers", name := "start", desc := "(IIII)I" } : Jvm.MethodName) prog_34_method_4_code (4 : Nat) (Option.some Jvm.ClassFile.FieldType.int)).before args0 about1 = true := code_word (m := ⟨4, 0⟩) (meth := k4m0) (c := k4c0) (by decide +kernel) rfl rfl rfl (by decide +kernel)
def codes1 : List Jvm.Cond := [Jvm.Cond.code x code maxLocals ret, Jvm.Cond.code ({ cls := "java/lang/Math", name := "min", desc := "(JJ)J" } : Jvm.MethodName) jdk_29_method_70_code (4 : Nat) (Option.some Jvm.ClassFile.FieldType.long), Jvm.Cond.code ({ cls := "java/lang/Math", name := "max", desc := "(II)I" } : Jvm.MethodName) jdk_29_method_65_code (2 : Nat) (Option.some Jvm.ClassFile.FieldType.int), Jvm.Cond.code ({ cls := "com/example/strict_reach/strictreach/Workers", name := "start", desc := "(IIII)I" } : Jvm.MethodName) prog_34_method_4_code (4 : Nat) (Option.some Jvm.ClassFile.FieldType.int)]
set_option maxRecDepth 65536 in
theorem codes_eq : words1.filter isCode = codes1 := rfl
theorem w_codes : ∀ c ∈ words1.filter isCode, c.before args0 about1 = true := by
  rw [codes_eq]
  intro c hc
  simp only [codes1, List.mem_cons, List.not_mem_nil, or_false] at hc
  rcases hc with rfl | rfl | rfl | rfl
  · exact w_c0
  · exact w_c1
  · exact w_c2
  · exact w_c3
set_option maxRecDepth 65536 in
theorem w_t1 : words1.all (fun c => isCode c || c.before args0 about1) = true := by decide +kernel
theorem w_tables : (allAtoms (Jvm.Cond.code x code maxLocals ret :: tables_1)).before args0 about1 = true := by
  rw [allAtoms_all]
  show words1.all (fun c => c.before args0 about1) = true
  refine all_split ?_ w_codes
  rw [w_t1]
set_option maxRecDepth 65536 in
theorem w_case : (Jvm.Cond.and given_1 narrow_1).before args0 about1 = true := by decide +kernel
theorem w_applies : (headSpec (Jvm.Cond.code x code maxLocals ret :: tables_1) room_1).applies x e0.platform about1 = true :=
  (Spec.applies_iff w_frames).mpr ⟨w_running, w_runnable, w_alone, w_named, w_hears, w_ripe, w_room, w_tables⟩
theorem atStart : AtStart classFile x code maxLocals ret World_1 tables_1 room_1 Calls_1 rest_1 Pre_1 launch0 p0 e0 about1 theMethod args0 below0 :=
  ⟨lists_1, trivial, launch0.admits_env _ _ _, launch0.least_env, fairChoices_fair.cas, fairChoices_fair.clock, w_frames, w_args, w_heap, w_applies, trivial, trivial, w_case⟩
end start1
theorem witness_1 : WitnessClaimed_1 := ⟨start1.p0, start1.e0, start1.about1, start1.theMethod, start1.args0, start1.below0, start1.atStart⟩
end Jvm.Pilot.@@N@@
