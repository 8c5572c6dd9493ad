import JvmDerived
import JvmDerived.Pilot.@@N@@Statement
import JvmDerived.Pilot.@@N@@Code
set_option linter.unusedVariables false
set_option linter.unusedSimpArgs false
@@BLOCK:NumsL.lean.txt@@
namespace Jvm.OwnK
open Sem ClassFile Op Lib Jvm.Stand Jvm.Free Jvm.LawKit Jvm.RoadKit Bundle
/-- from the frame f at T the run ends, and P holds of its end -/
def Go (tb : Tables) (e : Env) (below : List Frame) (P : Outcome → State → Prop) (T : State) (f : JFrame) : Prop :=
  ∃ s₂ o, Steps tb e below (T.setTop f) s₂ ∧ s₂.status = .running ∧ Ended s₂ below o ∧ P o s₂
abbrev PQ (s : State) (Q : Option Value → Heap → List Loc → Prop) (C N : Nat) : Outcome → State → Prop := fun o U' => ∃ v L, o = .returned v ∧ Q v U'.heap L ∧ FrameEnd s o U' L C N
theorem Go.st {tb : Tables} {e : Env} {below : List Frame} {P : Outcome → State → Prop} {T T' : State} {f f' : JFrame} (h : ∀ t, Steps tb e below (T'.setTop f') t → Steps tb e below (T.setTop f) t) (k : Go tb e below P T' f') : Go tb e below P T f := by
  obtain ⟨s₂, o, h1, h2⟩ := k; exact ⟨s₂, o, h _ h1, h2⟩
theorem Go.st1 {tb : Tables} {e : Env} {below : List Frame} {P : Outcome → State → Prop} {T T' : State} {f f' : JFrame} (h : Steps tb e below (T.setTop f) (T'.setTop f')) (k : Go tb e below P T' f') : Go tb e below P T f :=
  Go.st (fun t q => h.trans q) k
theorem tI {x : Int32} {n : Int} (h : x.toInt = n) : x = Int32.ofInt n := by subst h; simp
section Steps
variable {p : Program} {l : Launch} {e : Env} {R : Room} {s : State} {m : MethodId} {args : Array Value} {below : List Frame} {meth : Method} {c : Code} {T : State} {locs : List Loc} {cells slots : Nat} {P : Outcome → State → Prop} {pc pc' : Nat} {Ls : Array Slot} {S : List Value} {Z : State} {a0 : Array Value} {h : Heap}
theorem iload (X : Stand p l e R s m args below meth c T locs cells slots) (hx : p.tables.exec = Jvm.exec) {j : Nat} {v : Int32} (hd : decode c.code pc = .ok (.iload j, 2)) (hp : pc' = pc + 2) (hl : Ls[j]? = some (.val (.int v)))
    (k : Go p.tables e below P T (mkF m pc' Ls (.int v :: S))) : Go p.tables e below P T (mkF m pc Ls (S)) := by
  subst hp; exact Go.st (fun t q => XS.iload X.here hx rfl hd  hl q) k
theorem iloadN (X : Stand p l e R s m args below meth c T locs cells slots) (hx : p.tables.exec = Jvm.exec) {j : Fin 4} {v : Int32} (hd : decode c.code pc = .ok (.iload_n j, 1)) (hp : pc' = pc + 1) (hl : Ls[j.val]? = some (.val (.int v)))
    (k : Go p.tables e below P T (mkF m pc' Ls (.int v :: S))) : Go p.tables e below P T (mkF m pc Ls (S)) := by
  subst hp; exact Go.st (fun t q => XS.iloadN X.here hx rfl hd  hl q) k
theorem aload (X : Stand p l e R s m args below meth c T locs cells slots) (hx : p.tables.exec = Jvm.exec) {j : Nat} {v : Value} (hd : decode c.code pc = .ok (.aload j, 2)) (hp : pc' = pc + 2) (hl : Ls[j]? = some (.val v)) (hv : v.isRef = true)
    (k : Go p.tables e below P T (mkF m pc' Ls (v :: S))) : Go p.tables e below P T (mkF m pc Ls (S)) := by
  subst hp; exact Go.st (fun t q => XS.aload X.here hx rfl hd  hl hv q) k
theorem aloadN (X : Stand p l e R s m args below meth c T locs cells slots) (hx : p.tables.exec = Jvm.exec) {j : Fin 4} {v : Value} (hd : decode c.code pc = .ok (.aload_n j, 1)) (hp : pc' = pc + 1) (hl : Ls[j.val]? = some (.val v)) (hv : v.isRef = true)
    (k : Go p.tables e below P T (mkF m pc' Ls (v :: S))) : Go p.tables e below P T (mkF m pc Ls (S)) := by
  subst hp; exact Go.st (fun t q => XS.aloadN X.here hx rfl hd  hl hv q) k
theorem istore (X : Stand p l e R s m args below meth c T locs cells slots) (hx : p.tables.exec = Jvm.exec) {j : Nat} {v : Int32} {Ls' : Array Slot} (hd : decode c.code pc = .ok (.istore j, 2)) (hp : pc' = pc + 2) (hl : storeLocals Ls j (.int v) = some Ls')
    (k : Go p.tables e below P T (mkF m pc' Ls' (S))) : Go p.tables e below P T (mkF m pc Ls (.int v :: S)) := by
  subst hp; exact Go.st (fun t q => XS.istore X.here hx rfl hd rfl hl q) k
theorem istoreN (X : Stand p l e R s m args below meth c T locs cells slots) (hx : p.tables.exec = Jvm.exec) {j : Fin 4} {v : Int32} {Ls' : Array Slot} (hd : decode c.code pc = .ok (.istore_n j, 1)) (hp : pc' = pc + 1) (hl : storeLocals Ls j.val (.int v) = some Ls')
    (k : Go p.tables e below P T (mkF m pc' Ls' (S))) : Go p.tables e below P T (mkF m pc Ls (.int v :: S)) := by
  subst hp; exact Go.st (fun t q => XS.istoreN X.here hx rfl hd rfl hl q) k
theorem astore (X : Stand p l e R s m args below meth c T locs cells slots) (hx : p.tables.exec = Jvm.exec) {j : Nat} {v : Value} {Ls' : Array Slot} (hd : decode c.code pc = .ok (.astore j, 2)) (hp : pc' = pc + 2) (hv : v.isRef = true) (hl : storeLocals Ls j v = some Ls')
    (k : Go p.tables e below P T (mkF m pc' Ls' (S))) : Go p.tables e below P T (mkF m pc Ls (v :: S)) := by
  subst hp; exact Go.st (fun t q => XS.astore X.here hx rfl hd rfl hv hl q) k
theorem istoreG (X : Stand p l e R s m args below meth c T locs cells slots) (hx : p.tables.exec = Jvm.exec) {j : Nat} {v : Int32} {Ls' : Int32 → Array Slot} (hd : decode c.code pc = .ok (.istore j, 2)) (hp : pc' = pc + 2) (hl : ∀ u, storeLocals Ls j (.int u) = some (Ls' u))
    (k : ∀ u, u = v → Go p.tables e below P T (mkF m pc' (Ls' u) (S))) : Go p.tables e below P T (mkF m pc Ls (.int v :: S)) := istore X hx hd hp (hl v) (k v rfl)
theorem iconst (X : Stand p l e R s m args below meth c T locs cells slots) (hx : p.tables.exec = Jvm.exec) {i : Int} {v : Int32} (hd : decode c.code pc = .ok (.iconst i, 1)) (hp : pc' = pc + 1) (hv : Int32.ofInt i = v)
    (k : Go p.tables e below P T (mkF m pc' Ls (.int v :: S))) : Go p.tables e below P T (mkF m pc Ls (S)) := by
  subst hp hv; exact Go.st (fun t q => XS.iconst X.here hx rfl hd q) k
theorem bipush (X : Stand p l e R s m args below meth c T locs cells slots) (hx : p.tables.exec = Jvm.exec) {i : Int} {v : Int32} (hd : decode c.code pc = .ok (.bipush i, 2)) (hp : pc' = pc + 2) (hv : (Int8.ofInt i).toInt32 = v)
    (k : Go p.tables e below P T (mkF m pc' Ls (.int v :: S))) : Go p.tables e below P T (mkF m pc Ls (S)) := by
  subst hp hv; exact Go.st (fun t q => XS.bipush X.here hx rfl hd q) k
theorem sipush (X : Stand p l e R s m args below meth c T locs cells slots) (hx : p.tables.exec = Jvm.exec) {i : Int} {v : Int32} (hd : decode c.code pc = .ok (.sipush i, 3)) (hp : pc' = pc + 3) (hv : (Int16.ofInt i).toInt32 = v)
    (k : Go p.tables e below P T (mkF m pc' Ls (.int v :: S))) : Go p.tables e below P T (mkF m pc Ls (S)) := by
  subst hp hv; exact Go.st (fun t q => XS.sipush X.here hx rfl hd q) k
theorem iadd (X : Stand p l e R s m args below meth c T locs cells slots) (hx : p.tables.exec = Jvm.exec) {x y : Int32} (hd : decode c.code pc = .ok (.iadd, 1)) (hp : pc' = pc + 1)
    (k : Go p.tables e below P T (mkF m pc' Ls (.int (x + y) :: S))) : Go p.tables e below P T (mkF m pc Ls (.int y :: .int x :: S)) := by
  subst hp; exact Go.st (fun t q => XS.iadd X.here hx rfl hd rfl  q) k
theorem isub (X : Stand p l e R s m args below meth c T locs cells slots) (hx : p.tables.exec = Jvm.exec) {x y : Int32} (hd : decode c.code pc = .ok (.isub, 1)) (hp : pc' = pc + 1)
    (k : Go p.tables e below P T (mkF m pc' Ls (.int (x - y) :: S))) : Go p.tables e below P T (mkF m pc Ls (.int y :: .int x :: S)) := by
  subst hp; exact Go.st (fun t q => XS.isub X.here hx rfl hd rfl  q) k
theorem iand (X : Stand p l e R s m args below meth c T locs cells slots) (hx : p.tables.exec = Jvm.exec) {x y : Int32} (hd : decode c.code pc = .ok (.iand, 1)) (hp : pc' = pc + 1)
    (k : Go p.tables e below P T (mkF m pc' Ls (.int (x &&& y) :: S))) : Go p.tables e below P T (mkF m pc Ls (.int y :: .int x :: S)) := by
  subst hp; exact Go.st (fun t q => XS.iand X.here hx rfl hd rfl  q) k
theorem ior (X : Stand p l e R s m args below meth c T locs cells slots) (hx : p.tables.exec = Jvm.exec) {x y : Int32} (hd : decode c.code pc = .ok (.ior, 1)) (hp : pc' = pc + 1)
    (k : Go p.tables e below P T (mkF m pc' Ls (.int (x ||| y) :: S))) : Go p.tables e below P T (mkF m pc Ls (.int y :: .int x :: S)) := by
  subst hp; exact Go.st (fun t q => XT.ior X.here hx rfl hd rfl  q) k
theorem ishl (X : Stand p l e R s m args below meth c T locs cells slots) (hx : p.tables.exec = Jvm.exec) {x y : Int32} (hd : decode c.code pc = .ok (.ishl, 1)) (hp : pc' = pc + 1)
    (k : Go p.tables e below P T (mkF m pc' Ls (.int (x <<< (y &&& 31)) :: S))) : Go p.tables e below P T (mkF m pc Ls (.int y :: .int x :: S)) := by
  subst hp; exact Go.st (fun t q => XT.ishl X.here hx rfl hd rfl  q) k
theorem iushr (X : Stand p l e R s m args below meth c T locs cells slots) (hx : p.tables.exec = Jvm.exec) {x y : Int32} (hd : decode c.code pc = .ok (.iushr, 1)) (hp : pc' = pc + 1)
    (k : Go p.tables e below P T (mkF m pc' Ls (.int (XT.ushr x y) :: S))) : Go p.tables e below P T (mkF m pc Ls (.int y :: .int x :: S)) := by
  subst hp; exact Go.st (fun t q => XT.iushr X.here hx rfl hd rfl  q) k
theorem iaddL (X : Stand p l e R s m args below meth c T locs cells slots) (hx : p.tables.exec = Jvm.exec) {x y z : Int32} (hd : decode c.code pc = .ok (.iadd, 1)) (hp : pc' = pc + 1) (hz : (x + y) = z)
    (k : Go p.tables e below P T (mkF m pc' Ls (.int z :: S))) : Go p.tables e below P T (mkF m pc Ls (.int y :: .int x :: S)) := by
  subst hz; exact iadd X hx hd hp k
theorem isubL (X : Stand p l e R s m args below meth c T locs cells slots) (hx : p.tables.exec = Jvm.exec) {x y z : Int32} (hd : decode c.code pc = .ok (.isub, 1)) (hp : pc' = pc + 1) (hz : (x - y) = z)
    (k : Go p.tables e below P T (mkF m pc' Ls (.int z :: S))) : Go p.tables e below P T (mkF m pc Ls (.int y :: .int x :: S)) := by
  subst hz; exact isub X hx hd hp k
theorem irem (X : Stand p l e R s m args below meth c T locs cells slots) (hx : p.tables.exec = Jvm.exec) {x y : Int32} (hd : decode c.code pc = .ok (.irem, 1)) (hp : pc' = pc + 1) (hy : y ≠ 0)
    (k : Go p.tables e below P T (mkF m pc' Ls (.int (x % y) :: S))) : Go p.tables e below P T (mkF m pc Ls (.int y :: .int x :: S)) := by
  subst hp; exact Go.st (fun t q => iremM X hx rfl hd rfl hy q) k
theorem i2b (X : Stand p l e R s m args below meth c T locs cells slots) (hx : p.tables.exec = Jvm.exec) {x : Int32} (hd : decode c.code pc = .ok (.i2b, 1)) (hp : pc' = pc + 1)
    (k : Go p.tables e below P T (mkF m pc' Ls (.int (x.toInt8.toInt32) :: S))) : Go p.tables e below P T (mkF m pc Ls (.int x :: S)) := by
  subst hp; exact Go.st (fun t q => XT.i2b X.here hx rfl hd rfl  q) k
theorem iinc (X : Stand p l e R s m args below meth c T locs cells slots) (hx : p.tables.exec = Jvm.exec) {j : Nat} {i : Int} {x v : Int32} {Ls' : Array Slot} (hd : decode c.code pc = .ok (.iinc j i, 3)) (hp : pc' = pc + 3) (hv : Int32.ofInt i = v) (hl : Ls[j]? = some (.val (.int x))) (hl' : storeLocals Ls j (.int (x + v)) = some Ls')
    (k : Go p.tables e below P T (mkF m pc' Ls' (S))) : Go p.tables e below P T (mkF m pc Ls (S)) := by
  subst hp hv; exact Go.st (fun t q => XS.iinc X.here hx rfl hd hl hl' q) k
theorem iincL (X : Stand p l e R s m args below meth c T locs cells slots) (hx : p.tables.exec = Jvm.exec) {j : Nat} {i : Int} {x v : Int32} {Ls' : Array Slot} (hd : decode c.code pc = .ok (.iinc j i, 3)) (hp : pc' = pc + 3) (hl : Ls[j]? = some (.val (.int x))) (hv : x + Int32.ofInt i = v) (hl' : storeLocals Ls j (.int v) = some Ls')
    (k : Go p.tables e below P T (mkF m pc' Ls' (S))) : Go p.tables e below P T (mkF m pc Ls (S)) := by
  subst hv; exact iinc X hx hd hp rfl hl hl' k
theorem goto_ (X : Stand p l e R s m args below meth c T locs cells slots) (hx : p.tables.exec = Jvm.exec) {o : Int} (hd : decode c.code pc = .ok (.goto o, 3)) (ho : 0 ≤ (pc : Int) + o) (hp : ((pc : Int) + o).toNat = pc')
    (k : Go p.tables e below P T (mkF m pc' Ls (S))) : Go p.tables e below P T (mkF m pc Ls (S)) :=
  Go.st (fun t q => XS.goto X.here hx rfl rfl hd ho hp q) k
theorem h_lt (x y : Int32) : if_icmp.holds .lt x y = decide (x.toInt < y.toInt) := by simp [if_icmp.holds, Int32.lt_iff_toInt_lt]
theorem h_ge (x y : Int32) : if_icmp.holds .ge x y = decide (y.toInt ≤ x.toInt) := by simp [if_icmp.holds, Int32.le_iff_toInt_le]
theorem h_gt (x y : Int32) : if_icmp.holds .gt x y = decide (y.toInt < x.toInt) := by simp [if_icmp.holds, Int32.lt_iff_toInt_lt]
theorem h_le (x y : Int32) : if_icmp.holds .le x y = decide (x.toInt ≤ y.toInt) := by simp [if_icmp.holds, Int32.le_iff_toInt_le]
theorem h_ne (x y : Int32) : if_icmp.holds .ne x y = decide (¬ x.toInt = y.toInt) := by rw [Bool.eq_iff_iff]; simp [if_icmp.holds, Int32.toInt_inj]
theorem z_any (cd : ClassFile.Cond) (x : Int32) : ifCond.holds cd x = if_icmp.holds cd x 0 := by cases cd <;> simp [ifCond.holds, if_icmp.holds]
theorem z0 : (0 : Int32).toInt = 0 := by decide
theorem icmp_lt (X : Stand p l e R s m args below meth c T locs cells slots) (hx : p.tables.exec = Jvm.exec) {o : Int} {x y : Int32} {pcT : Nat} (hd : decode c.code pc = .ok (.if_icmp .lt o, 3)) (ho : 0 ≤ (pc : Int) + o) (hT : ((pc : Int) + o).toNat = pcT) (hp : pc' = pc + 3)
    (kt : x.toInt < y.toInt → Go p.tables e below P T (mkF m pcT Ls (S))) (kf : y.toInt ≤ x.toInt → Go p.tables e below P T (mkF m pc' Ls (S))) : Go p.tables e below P T (mkF m pc Ls (.int y :: .int x :: S)) := by
  subst hp
  by_cases q : x.toInt < y.toInt
  · exact Go.st (fun t r => XS.icmpYes X.here hx rfl rfl hd rfl (by rw [h_lt]; exact decide_eq_true q) ho hT r) (kt q)
  · exact Go.st (fun t r => XS.icmpNo X.here hx rfl hd rfl (by rw [h_lt]; exact decide_eq_false q) r) (kf (by omega))
theorem icmp_ge (X : Stand p l e R s m args below meth c T locs cells slots) (hx : p.tables.exec = Jvm.exec) {o : Int} {x y : Int32} {pcT : Nat} (hd : decode c.code pc = .ok (.if_icmp .ge o, 3)) (ho : 0 ≤ (pc : Int) + o) (hT : ((pc : Int) + o).toNat = pcT) (hp : pc' = pc + 3)
    (kt : y.toInt ≤ x.toInt → Go p.tables e below P T (mkF m pcT Ls (S))) (kf : x.toInt < y.toInt → Go p.tables e below P T (mkF m pc' Ls (S))) : Go p.tables e below P T (mkF m pc Ls (.int y :: .int x :: S)) := by
  subst hp
  by_cases q : y.toInt ≤ x.toInt
  · exact Go.st (fun t r => XS.icmpYes X.here hx rfl rfl hd rfl (by rw [h_ge]; exact decide_eq_true q) ho hT r) (kt q)
  · exact Go.st (fun t r => XS.icmpNo X.here hx rfl hd rfl (by rw [h_ge]; exact decide_eq_false q) r) (kf (by omega))
theorem icmp_gt (X : Stand p l e R s m args below meth c T locs cells slots) (hx : p.tables.exec = Jvm.exec) {o : Int} {x y : Int32} {pcT : Nat} (hd : decode c.code pc = .ok (.if_icmp .gt o, 3)) (ho : 0 ≤ (pc : Int) + o) (hT : ((pc : Int) + o).toNat = pcT) (hp : pc' = pc + 3)
    (kt : y.toInt < x.toInt → Go p.tables e below P T (mkF m pcT Ls (S))) (kf : x.toInt ≤ y.toInt → Go p.tables e below P T (mkF m pc' Ls (S))) : Go p.tables e below P T (mkF m pc Ls (.int y :: .int x :: S)) := by
  subst hp
  by_cases q : y.toInt < x.toInt
  · exact Go.st (fun t r => XS.icmpYes X.here hx rfl rfl hd rfl (by rw [h_gt]; exact decide_eq_true q) ho hT r) (kt q)
  · exact Go.st (fun t r => XS.icmpNo X.here hx rfl hd rfl (by rw [h_gt]; exact decide_eq_false q) r) (kf (by omega))
theorem icmp_le (X : Stand p l e R s m args below meth c T locs cells slots) (hx : p.tables.exec = Jvm.exec) {o : Int} {x y : Int32} {pcT : Nat} (hd : decode c.code pc = .ok (.if_icmp .le o, 3)) (ho : 0 ≤ (pc : Int) + o) (hT : ((pc : Int) + o).toNat = pcT) (hp : pc' = pc + 3)
    (kt : x.toInt ≤ y.toInt → Go p.tables e below P T (mkF m pcT Ls (S))) (kf : y.toInt < x.toInt → Go p.tables e below P T (mkF m pc' Ls (S))) : Go p.tables e below P T (mkF m pc Ls (.int y :: .int x :: S)) := by
  subst hp
  by_cases q : x.toInt ≤ y.toInt
  · exact Go.st (fun t r => XS.icmpYes X.here hx rfl rfl hd rfl (by rw [h_le]; exact decide_eq_true q) ho hT r) (kt q)
  · exact Go.st (fun t r => XS.icmpNo X.here hx rfl hd rfl (by rw [h_le]; exact decide_eq_false q) r) (kf (by omega))
theorem icmp_ne (X : Stand p l e R s m args below meth c T locs cells slots) (hx : p.tables.exec = Jvm.exec) {o : Int} {x y : Int32} {pcT : Nat} (hd : decode c.code pc = .ok (.if_icmp .ne o, 3)) (ho : 0 ≤ (pc : Int) + o) (hT : ((pc : Int) + o).toNat = pcT) (hp : pc' = pc + 3)
    (kt : ¬ x.toInt = y.toInt → Go p.tables e below P T (mkF m pcT Ls (S))) (kf : x.toInt = y.toInt → Go p.tables e below P T (mkF m pc' Ls (S))) : Go p.tables e below P T (mkF m pc Ls (.int y :: .int x :: S)) := by
  subst hp
  by_cases q : ¬ x.toInt = y.toInt
  · exact Go.st (fun t r => XS.icmpYes X.here hx rfl rfl hd rfl (by rw [h_ne]; exact decide_eq_true q) ho hT r) (kt q)
  · exact Go.st (fun t r => XS.icmpNo X.here hx rfl hd rfl (by rw [h_ne]; exact decide_eq_false q) r) (kf (by omega))
theorem if_ne (X : Stand p l e R s m args below meth c T locs cells slots) (hx : p.tables.exec = Jvm.exec) {o : Int} {x : Int32} {pcT : Nat} (hd : decode c.code pc = .ok (.ifCond .ne o, 3)) (ho : 0 ≤ (pc : Int) + o) (hT : ((pc : Int) + o).toNat = pcT) (hp : pc' = pc + 3)
    (kt : ¬ x.toInt = 0 → Go p.tables e below P T (mkF m pcT Ls (S))) (kf : x.toInt = 0 → Go p.tables e below P T (mkF m pc' Ls (S))) : Go p.tables e below P T (mkF m pc Ls (.int x :: S)) := by
  subst hp
  by_cases q : ¬ x.toInt = 0
  · exact Go.st (fun t r => XS.ifYes X.here hx rfl rfl hd rfl (by rw [z_any, h_ne, z0]; exact decide_eq_true q) ho hT r) (kt q)
  · exact Go.st (fun t r => XS.ifNo X.here hx rfl hd rfl (by rw [z_any, h_ne, z0]; exact decide_eq_false q) r) (kf (by omega))
theorem ldcI (X : Stand p l e R s m args below meth c T locs cells slots) (hx : p.tables.exec = Jvm.exec) (hZ : Z.Warmed39 s.vm) {own : String} (hown : s.vm.findClass own = some m.cls) {i : Nat} {v : Int32} (w : (Cond.constant own i v).before a0 Z = true) (hd : decode c.code pc = .ok (.ldc i, 2)) (hp : pc' = pc + 2)
    (k : Go p.tables e below P T (mkF m pc' Ls (.int v :: S))) : Go p.tables e below P T (mkF m pc Ls (S)) := by
  subst hp; exact Go.st (X.ldcInt hx hown (mv hZ w) (g := mkF m pc Ls S) rfl hd) k
theorem jin {j z : Int32} (h0 : 0 ≤ j.toInt) (h1 : j.toInt < z.toInt) : ¬ j < 0 ∧ j < z := ⟨fun q => by have := Int32.lt_iff_toInt_lt.mp q; rw [z0] at this; omega, Int32.lt_iff_toInt_lt.mpr h1⟩
theorem jnat {j : Int32} {i : Nat} (h : j.toInt = i) : j.toNatClampNeg = i := by
  have q : ¬ j < 0 := fun q => by have := Int32.lt_iff_toInt_lt.mp q; rw [z0] at this; omega
  have := nat_of q; omega
theorem newP_ (X : Stand p l e R s m args below meth c T locs cells slots) (hx : p.tables.exec = Jvm.exec) (hZ : Z.Warmed39 s.vm) {aty : ArrayType} (w : (Cond.arrayClass (newarray.typeOf aty)).before a0 Z = true) (eT : T.heap = h) (hd : decode c.code pc = .ok (.newarray aty, 2)) (hp : pc' = pc + 2) {n : Int32} (hn : 0 ≤ n.toInt) {cap : Nat} (hcap : n.toInt ≤ cap) (hb : cap * 8 ≤ 536870912) (hc : cells + 1 ≤ R.cells) (hl : slots + cap ≤ R.slots) {ad : String} (had : "[" ++ (newarray.typeOf aty).toString = ad)
    (k : ∀ T' h' a cA, Stand p l e R s m args below meth c T' locs (cells + 1) (slots + cap) → T'.heap = h' → a = h.size → Ext h h' → Arv Z h' a cA (newarray.typeOf aty) n [] (defaultValue (newarray.typeOf aty)) → Exa Z h' a ad → Go p.tables e below P T' (mkF m pc' Ls (.ref a :: S))) : Go p.tables e below P T (mkF m pc Ls (.int n :: S)) := by
  subst hp
  have hn' : ¬ n < 0 := fun z => by have := Int32.lt_iff_toInt_lt.mp z; rw [z0] at this; omega
  obtain ⟨T', h', cA, X', e', E', A', Q', st⟩ := newPE X hx hZ w eT (g := mkF m pc Ls (.int n :: S)) rfl hd rfl hn' (cap := cap) (by have := nat_of hn'; omega) hb hc hl had
  exact Go.st st (k T' h' _ cA X' e' rfl E' (Arv.new A' hn') Q')
theorem baload (X : Stand p l e R s m args below meth c T locs cells slots) (hx : p.tables.exec = Jvm.exec) (hZ : Z.Warmed39 s.vm) (eT : T.heap = h) {a : Addr} {kA : ClassId} {z j : Int32} {vs : List Value} {dv v : Value} (A : Arv Z h a kA .byte z vs dv) (h0 : 0 ≤ j.toInt) (h1 : j.toInt < z.toInt) (hv : vs.getD j.toNatClampNeg dv = v) (hd : decode c.code pc = .ok (.baload, 1)) (hp : pc' = pc + 1)
    (k : Go p.tables e below P T (mkF m pc' Ls (v :: S))) : Go p.tables e below P T (mkF m pc Ls (.int j :: .ref a :: S)) := by
  subst hp
  obtain ⟨cl, Ar, -, Sz, Nz, H, -⟩ := A
  have hin := inb_of Sz (jin h0 h1)
  exact Go.st (fun t q => X.baloadBytes hx (j := j) (v := v) (by rw [eT]; exact Ar.1) (State.isArrayOf_alike hZ.alike Ar.2.1) Ar.2.2 hin (H.at hin hv) (g := mkF m pc Ls (.int j :: .ref a :: S)) rfl rfl hd t q) k
theorem bastore (X : Stand p l e R s m args below meth c T locs cells slots) (hx : p.tables.exec = Jvm.exec) (hZ : Z.Warmed39 s.vm) (eT : T.heap = h) {a : Addr} {kA : ClassId} {z j : Int32} {x : Int32} {vs : List Value} {dv : Value} (A : Arv Z h a kA .byte z vs dv) {i : Nat} (hi : j.toInt = i) (hz : (i : Int) < z.toInt) (hl : i < vs.length) (hd : decode c.code pc = .ok (.bastore, 1)) (hp : pc' = pc + 1)
    (k : ∀ T' h', Stand p l e R s m args below meth c T' (locs ++ [⟨a, j.toNatClampNeg⟩]) cells slots → T'.heap = h' → Wr h h' a j.toNatClampNeg (.int (nar .byte x)) → Arv Z h' a kA .byte z (vs.set i (.int (nar .byte x))) dv → Go p.tables e below P T' (mkF m pc' Ls (S))) : Go p.tables e below P T (mkF m pc Ls (.int x :: .int j :: .ref a :: S)) := by
  subst hp
  obtain ⟨cl, Ar, q1, Sz, Nz, H, G⟩ := A
  have hin := inb_of Sz (jin (j := j) (z := z) (by omega) (by omega))
  obtain ⟨T', h', X', e', W', st⟩ := stB X hx hZ eT Ar (j := j) hin (g := mkF m pc Ls (.int x :: .int j :: .ref a :: S)) rfl rfl hd
  exact Go.st st (k T' h' X' e' W' (Arv.set Ar q1 Sz Nz H G (fits_nar_byte _) W' i (jnat hi) hl))
theorem callS_ (X : Stand p l e R s m args below meth c T locs cells slots) (hx : p.tables.exec = Jvm.exec) (hZ : Z.Warmed39 s.vm) {own : String} (hown : s.vm.findClass own = some m.cls) {y : MethodName} {i : Nat} {bytes : ByteArray} {maxL : Nat} {ret : Option FieldType} {rm : Room} {Q : Option Value → Heap → List Loc → Prop} {argsL S0 : List Value} (w1 : (Cond.methodLink own i y).before a0 Z = true) (w2 : (Cond.static y).before a0 Z = true) (w3 : (Cond.initialized y.cls).before a0 Z = true) (w4 : (Cond.code y bytes maxL ret).before a0 Z = true) (hy : y.cls ≠ "java/lang/invoke/MethodHandle" ∧ y.cls ≠ "java/lang/invoke/VarHandle") (hM : MetFree l y (head1 [Cond.code y bytes maxL ret] rm) (fun ar U => ar = argsL.toArray ∧ Z.Warmed39 U.vm ∧ U.heap = h) (fun _ _ _ _ _ => True) (fun _ U o U' => ∃ v L, o = .returned v ∧ Q v U'.heap L ∧ FrameEnd U o U' L rm.cells rm.slots)) (hf : rm.frames + 1 ≤ R.frames) {W : Nat} (hl : W + (maxL + 11) + rm.locals ≤ R.locals) (eT : T.heap = h) (hsize : Ls.size = c.maxLocals) {ps : List FieldType} {rt : Option FieldType} (hdesc : parseMethodDescriptor y.desc = some ⟨ps, rt⟩) (hlen : argsL.length = ps.length) (hS : S0 = argsL.reverse ++ S) (hW : (S.map fun v => v.category).sum ≤ W) (hd : decode c.code pc = .ok (.invokestatic i, 3)) (hp : pc' = pc + 3) (hc : cells + rm.cells ≤ R.cells) (hs : slots + rm.slots ≤ R.slots)
    (k : ∀ T' v L, Stand p l e R s m args below meth c T' (locs ++ L) (cells + rm.cells) (slots + rm.slots) → Q v T'.heap L → Go p.tables e below P T' (mkF m pc' Ls (v.toList ++ S))) : Go p.tables e below P T (mkF m pc Ls (S0)) := by
  subst hp hS
  obtain ⟨v, vm₁, ⟨T', L', k', n'⟩, -, X', ⟨L, hQ, l', y', z'⟩, st⟩ := Jvm.LawKit.callS X hx hown (mvT hZ w1) (mvT hZ w2) (mvT hZ w3) (mvT hZ w4) hy (backOf (W := W) hM hZ w4 w3 hf hl) (g := mkF m pc Ls (argsL.reverse ++ S)) rfl hsize (argsL := argsL) (rest := S) (lenOf hdesc hlen) rfl (by show 2 * 0 + _ ≤ _; simpa using hW) hd (fun _ _ => ⟨rfl, eT, hc, hs⟩)
  dsimp only [Pt.U, Pt.locs, Pt.cells, Pt.slots] at X' l' y' z' st hQ
  subst l' y' z'
  exact Go.st st (k T' v L X' hQ)
theorem met {y : MethodName} {bytes : ByteArray} {maxL : Nat} {ret : Option FieldType} {rm : Room} {as' : Array Value} {Q : Option Value → Heap → List Loc → Prop} {ws : List Jvm.Cond} {C N : Nat} (hpl : plainFor y = true) (ef : ∀ m, entryFrame m as' maxL = mkF m 0 Ls [])
    (body : ∀ (p : Program) (e : Env) (s : State) (m : MethodId) (below : List Frame) (meth : Method) (c : Code) (T : State), Stand p l e rm s m as' below meth c T [] 0 0 → p.tables.exec = Jvm.exec → Z.Warmed39 s.vm → c.code = bytes → c.maxLocals = maxL → s.vm.findClass y.cls = some m.cls → meth.name = y.name → meth.sig.returnType = ret → meth.locks = false → T.heap = h →
      Go p.tables e below (PQ s Q C N) T (mkF m 0 Ls [])) :
    MetFree l y (head1 (Cond.code y bytes maxL ret :: ws) rm) (fun a U => a = as' ∧ Z.Warmed39 U.vm ∧ U.heap = h) (fun _ _ _ _ _ => True) (fun _ U o U' => ∃ v L, o = .returned v ∧ Q v U'.heap L ∧ FrameEnd U o U' L C N) := by
  refine MetFree.of_bodySF hpl hisR ?_
  intro p e s m args below meth c s₁ Bd hml0 hP hK
  obtain ⟨rfl, hZ, hh⟩ := hP
  have e0 : s₁.heap = h := by rw [← hh, Bd.state]; rfl
  obtain ⟨s₂, o, h1, h2⟩ := body p e s m below meth c s₁ (Stand.of_body Bd) Bd.exec hZ Bd.bytes hml0 (findClass_of_methodNamed Bd.named) (name_of_methodNamed Bd.named Bd.method).1 Bd.returns Bd.notSynchronized e0
  exact ⟨s₂, o, castTop (ef m) h1, h2⟩
theorem ret_ (X : Stand p l e R s m args below meth c T locs cells slots) (hx : p.tables.exec = Jvm.exec) {Q : Option Value → Heap → List Loc → Prop} {C N : Nat} {w : Value} {t : FieldType} {i : Instr} (hret : meth.sig.returnType = some t) (hlk : meth.locks = false) (hn : narrow t w = w)
    (hi : (i = .ireturn ∧ (t = .int ∨ t = .boolean ∨ t = .byte ∨ t = .char ∨ t = .short) ∧ ∃ z, w = .int z) ∨ (i = .lreturn ∧ t = .long ∧ ∃ z, w = .long z) ∨ (i = .dreturn ∧ t = .double ∧ ∃ z, w = .double z) ∨ (i = .freturn ∧ t = .float ∧ ∃ z, w = .float z) ∨ (i = .areturn ∧ t.isReference = true ∧ w.isRef = true))
    (hd : decode c.code pc = .ok (i, 1)) (hC : cells ≤ C) (hN : slots ≤ N) (q : Q (some w) T.heap locs) : Go p.tables e below (PQ s Q C N) T (mkF m pc Ls (w :: S)) := by
  obtain ⟨fs, hr, hrun, hended, hW, hsame⟩ := X.leave (v := some w) (fun h => by rw [hret] at h; cases h) hlk
  exact ⟨_, _, retOut X hx hret hn hi hd hr, hrun, hended, _, _, rfl, q, ⟨_, rfl⟩, hW, hsame.mono hC hN⟩
theorem retI_ (X : Stand p l e R s m args below meth c T locs cells slots) (hx : p.tables.exec = Jvm.exec) {Q : Option Value → Heap → List Loc → Prop} {C N : Nat} {z : Int32} (hret : meth.sig.returnType = some .int) (hlk : meth.locks = false) (hd : decode c.code pc = .ok (.ireturn, 1)) (hC : cells ≤ C) (hN : slots ≤ N) (q : Q (some (.int z)) T.heap locs) : Go p.tables e below (PQ s Q C N) T (mkF m pc Ls (.int z :: S)) :=
  ret_ X hx hret hlk rfl (Or.inl ⟨rfl, Or.inl rfl, z, rfl⟩) hd hC hN q
theorem retN_ (X : Stand p l e R s m args below meth c T locs cells slots) (hx : p.tables.exec = Jvm.exec) {Q : Option Value → Heap → List Loc → Prop} {C N : Nat} {z : Int32} {t : FieldType} (hret : meth.sig.returnType = some t) (ht : t = .boolean ∨ t = .byte ∨ t = .char ∨ t = .short) (hlk : meth.locks = false) (hd : decode c.code pc = .ok (.ireturn, 1)) (hC : cells ≤ C) (hN : slots ≤ N) (q : Q (some (.int (nar t z))) T.heap locs) : Go p.tables e below (PQ s Q C N) T (mkF m pc Ls (.int z :: S)) := by
  obtain ⟨fs, hr, hrun, hended, hW, hsame⟩ := X.leave (v := some (.int (nar t z))) (fun h => by rw [hret] at h; cases h) hlk
  exact ⟨_, _, retN X hx hret ht hd hr, hrun, hended, _, _, rfl, q, ⟨_, rfl⟩, hW, hsame.mono hC hN⟩
end Steps
end Jvm.OwnK
namespace Jvm.Pilot.@@N@@
open Jvm Jvm.ClassFile Sem Op Lib Jvm.Free Jvm.Stand Jvm.LawKit Jvm.RoadKit Bundle Jvm.Pilot.@@N@@.Jvm.D
theorem own_ef_3 (p1 : Int32)  (m : MethodId) : entryFrame m #[(.int p1)] 1 = mkF m 0 #[.val (.int p1)] [] := by first | (simp [entryFrame, mkF, argsToLocals, Value.category]; done) | rfl
theorem own_d3_0 : decode method_3_code 0 = .ok (.iload_n 0, 1) := by decide +kernel
theorem own_d3_1 : decode method_3_code 1 = .ok (.sipush 192, 3) := by decide +kernel
theorem own_d3_4 : decode method_3_code 4 = .ok (.iand, 1) := by decide +kernel
theorem own_d3_5 : decode method_3_code 5 = .ok (.sipush 128, 3) := by decide +kernel
theorem own_d3_8 : decode method_3_code 8 = .ok (.if_icmp .ne 7, 3) := by decide +kernel
theorem own_d3_15 : decode method_3_code 15 = .ok (.iconst 0, 1) := by decide +kernel
theorem own_d3_16 : decode method_3_code 16 = .ok (.ireturn, 1) := by decide +kernel
theorem own_d3_11 : decode method_3_code 11 = .ok (.iconst 1, 1) := by decide +kernel
theorem own_d3_12 : decode method_3_code 12 = .ok (.goto 4, 3) := by decide +kernel
theorem own_pl_3 : plainFor (⟨"com/example/entryway/entryway/Utf8SequenceEndPinLaw", "cont", "(I)Z"⟩ : MethodName) = true := plainFor_of_name (by first | (simp [plainName, overriddenIn]; done) | decide +kernel)
theorem own_ef_1 (p1 : Addr) (p2 : Int32) (p3 : Int32)  (m : MethodId) : entryFrame m #[(.ref p1), (.int p2), (.int p3)] 9 = mkF m 0 #[.val (.ref p1), .val (.int p2), .val (.int p3), .unset, .unset, .unset, .unset, .unset, .unset] [] := by first | (simp [entryFrame, mkF, argsToLocals, Value.category]; done) | rfl
theorem own_d1_0 : decode prog_68_method_2_code 0 = .ok (.aload_n 0, 1) := by decide +kernel
theorem own_d1_1 : decode prog_68_method_2_code 1 = .ok (.iload_n 1, 1) := by decide +kernel
theorem own_d1_2 : decode prog_68_method_2_code 2 = .ok (.baload, 1) := by decide +kernel
theorem own_d1_3 : decode prog_68_method_2_code 3 = .ok (.sipush 255, 3) := by decide +kernel
theorem own_d1_6 : decode prog_68_method_2_code 6 = .ok (.iand, 1) := by decide +kernel
theorem own_d1_7 : decode prog_68_method_2_code 7 = .ok (.istore_n 3, 1) := by decide +kernel
theorem own_d1_8 : decode prog_68_method_2_code 8 = .ok (.sipush 128, 3) := by decide +kernel
theorem own_d1_11 : decode prog_68_method_2_code 11 = .ok (.istore 5, 2) := by decide +kernel
theorem own_d1_13 : decode prog_68_method_2_code 13 = .ok (.sipush 191, 3) := by decide +kernel
theorem own_d1_16 : decode prog_68_method_2_code 16 = .ok (.istore 6, 2) := by decide +kernel
theorem own_d1_18 : decode prog_68_method_2_code 18 = .ok (.iload_n 3, 1) := by decide +kernel
theorem own_d1_19 : decode prog_68_method_2_code 19 = .ok (.sipush 194, 3) := by decide +kernel
theorem own_d1_22 : decode prog_68_method_2_code 22 = .ok (.if_icmp .lt 16, 3) := by decide +kernel
theorem own_d1_38 : decode prog_68_method_2_code 38 = .ok (.iload_n 3, 1) := by decide +kernel
theorem own_d1_39 : decode prog_68_method_2_code 39 = .ok (.sipush 224, 3) := by decide +kernel
theorem own_d1_42 : decode prog_68_method_2_code 42 = .ok (.if_icmp .lt 43, 3) := by decide +kernel
theorem own_d1_85 : decode prog_68_method_2_code 85 = .ok (.iload_n 3, 1) := by decide +kernel
theorem own_d1_86 : decode prog_68_method_2_code 86 = .ok (.sipush 240, 3) := by decide +kernel
theorem own_d1_89 : decode prog_68_method_2_code 89 = .ok (.if_icmp .lt 43, 3) := by decide +kernel
theorem own_d1_132 : decode prog_68_method_2_code 132 = .ok (.iconst (-1), 1) := by decide +kernel
theorem own_d1_133 : decode prog_68_method_2_code 133 = .ok (.ireturn, 1) := by decide +kernel
theorem own_d1_92 : decode prog_68_method_2_code 92 = .ok (.iload_n 3, 1) := by decide +kernel
theorem own_d1_93 : decode prog_68_method_2_code 93 = .ok (.sipush 244, 3) := by decide +kernel
theorem own_d1_96 : decode prog_68_method_2_code 96 = .ok (.if_icmp .gt 36, 3) := by decide +kernel
theorem own_d1_99 : decode prog_68_method_2_code 99 = .ok (.iconst 3, 1) := by decide +kernel
theorem own_d1_100 : decode prog_68_method_2_code 100 = .ok (.istore 4, 2) := by decide +kernel
theorem own_d1_102 : decode prog_68_method_2_code 102 = .ok (.iload_n 3, 1) := by decide +kernel
theorem own_d1_103 : decode prog_68_method_2_code 103 = .ok (.sipush 240, 3) := by decide +kernel
theorem own_d1_106 : decode prog_68_method_2_code 106 = .ok (.if_icmp .ne 11, 3) := by decide +kernel
theorem own_d1_117 : decode prog_68_method_2_code 117 = .ok (.iload_n 3, 1) := by decide +kernel
theorem own_d1_118 : decode prog_68_method_2_code 118 = .ok (.sipush 244, 3) := by decide +kernel
theorem own_d1_121 : decode prog_68_method_2_code 121 = .ok (.if_icmp .ne 13, 3) := by decide +kernel
theorem own_d1_134 : decode prog_68_method_2_code 134 = .ok (.iload_n 2, 1) := by decide +kernel
theorem own_d1_135 : decode prog_68_method_2_code 135 = .ok (.iload_n 1, 1) := by decide +kernel
theorem own_d1_136 : decode prog_68_method_2_code 136 = .ok (.isub, 1) := by decide +kernel
theorem own_d1_137 : decode prog_68_method_2_code 137 = .ok (.iload 4, 2) := by decide +kernel
theorem own_d1_139 : decode prog_68_method_2_code 139 = .ok (.if_icmp .gt 5, 3) := by decide +kernel
theorem own_d1_144 : decode prog_68_method_2_code 144 = .ok (.iconst 1, 1) := by decide +kernel
theorem own_d1_145 : decode prog_68_method_2_code 145 = .ok (.istore 7, 2) := by decide +kernel
theorem own_d1_147 : decode prog_68_method_2_code 147 = .ok (.iload 7, 2) := by decide +kernel
theorem own_d1_149 : decode prog_68_method_2_code 149 = .ok (.iload 4, 2) := by decide +kernel
theorem own_d1_151 : decode prog_68_method_2_code 151 = .ok (.if_icmp .gt 47, 3) := by decide +kernel
theorem own_d1_154 : decode prog_68_method_2_code 154 = .ok (.aload_n 0, 1) := by decide +kernel
theorem own_d1_155 : decode prog_68_method_2_code 155 = .ok (.iload_n 1, 1) := by decide +kernel
theorem own_d1_156 : decode prog_68_method_2_code 156 = .ok (.iload 7, 2) := by decide +kernel
theorem own_d1_158 : decode prog_68_method_2_code 158 = .ok (.iadd, 1) := by decide +kernel
theorem own_d1_159 : decode prog_68_method_2_code 159 = .ok (.baload, 1) := by decide +kernel
theorem own_d1_160 : decode prog_68_method_2_code 160 = .ok (.sipush 255, 3) := by decide +kernel
theorem own_d1_163 : decode prog_68_method_2_code 163 = .ok (.iand, 1) := by decide +kernel
theorem own_d1_164 : decode prog_68_method_2_code 164 = .ok (.istore 8, 2) := by decide +kernel
theorem own_d1_166 : decode prog_68_method_2_code 166 = .ok (.iload 8, 2) := by decide +kernel
theorem own_d1_168 : decode prog_68_method_2_code 168 = .ok (.iload 5, 2) := by decide +kernel
theorem own_d1_170 : decode prog_68_method_2_code 170 = .ok (.if_icmp .lt 10, 3) := by decide +kernel
theorem own_d1_180 : decode prog_68_method_2_code 180 = .ok (.iconst (-1), 1) := by decide +kernel
theorem own_d1_181 : decode prog_68_method_2_code 181 = .ok (.ireturn, 1) := by decide +kernel
theorem own_d1_173 : decode prog_68_method_2_code 173 = .ok (.iload 8, 2) := by decide +kernel
theorem own_d1_175 : decode prog_68_method_2_code 175 = .ok (.iload 6, 2) := by decide +kernel
theorem own_d1_177 : decode prog_68_method_2_code 177 = .ok (.if_icmp .le 5, 3) := by decide +kernel
theorem own_d1_182 : decode prog_68_method_2_code 182 = .ok (.sipush 128, 3) := by decide +kernel
theorem own_d1_185 : decode prog_68_method_2_code 185 = .ok (.istore 5, 2) := by decide +kernel
theorem own_d1_187 : decode prog_68_method_2_code 187 = .ok (.sipush 191, 3) := by decide +kernel
theorem own_d1_190 : decode prog_68_method_2_code 190 = .ok (.istore 6, 2) := by decide +kernel
theorem own_d1_192 : decode prog_68_method_2_code 192 = .ok (.iinc 7 1, 3) := by decide +kernel
theorem own_d1_195 : decode prog_68_method_2_code 195 = .ok (.goto (-48), 3) := by decide +kernel
theorem own_d1_198 : decode prog_68_method_2_code 198 = .ok (.iload_n 1, 1) := by decide +kernel
theorem own_d1_199 : decode prog_68_method_2_code 199 = .ok (.iload 4, 2) := by decide +kernel
theorem own_d1_201 : decode prog_68_method_2_code 201 = .ok (.iadd, 1) := by decide +kernel
theorem own_d1_202 : decode prog_68_method_2_code 202 = .ok (.iconst 1, 1) := by decide +kernel
theorem own_d1_203 : decode prog_68_method_2_code 203 = .ok (.iadd, 1) := by decide +kernel
theorem own_d1_204 : decode prog_68_method_2_code 204 = .ok (.ireturn, 1) := by decide +kernel
theorem own_d1_142 : decode prog_68_method_2_code 142 = .ok (.iconst (-1), 1) := by decide +kernel
theorem own_d1_143 : decode prog_68_method_2_code 143 = .ok (.ireturn, 1) := by decide +kernel
theorem own_d1_124 : decode prog_68_method_2_code 124 = .ok (.sipush 143, 3) := by decide +kernel
theorem own_d1_127 : decode prog_68_method_2_code 127 = .ok (.istore 6, 2) := by decide +kernel
theorem own_d1_129 : decode prog_68_method_2_code 129 = .ok (.goto 5, 3) := by decide +kernel
theorem own_d1_109 : decode prog_68_method_2_code 109 = .ok (.sipush 144, 3) := by decide +kernel
theorem own_d1_112 : decode prog_68_method_2_code 112 = .ok (.istore 5, 2) := by decide +kernel
theorem own_d1_114 : decode prog_68_method_2_code 114 = .ok (.goto 20, 3) := by decide +kernel
theorem own_d1_45 : decode prog_68_method_2_code 45 = .ok (.iload_n 3, 1) := by decide +kernel
theorem own_d1_46 : decode prog_68_method_2_code 46 = .ok (.sipush 239, 3) := by decide +kernel
theorem own_d1_49 : decode prog_68_method_2_code 49 = .ok (.if_icmp .gt 36, 3) := by decide +kernel
theorem own_d1_52 : decode prog_68_method_2_code 52 = .ok (.iconst 2, 1) := by decide +kernel
theorem own_d1_53 : decode prog_68_method_2_code 53 = .ok (.istore 4, 2) := by decide +kernel
theorem own_d1_55 : decode prog_68_method_2_code 55 = .ok (.iload_n 3, 1) := by decide +kernel
theorem own_d1_56 : decode prog_68_method_2_code 56 = .ok (.sipush 224, 3) := by decide +kernel
theorem own_d1_59 : decode prog_68_method_2_code 59 = .ok (.if_icmp .ne 11, 3) := by decide +kernel
theorem own_d1_70 : decode prog_68_method_2_code 70 = .ok (.iload_n 3, 1) := by decide +kernel
theorem own_d1_71 : decode prog_68_method_2_code 71 = .ok (.sipush 237, 3) := by decide +kernel
theorem own_d1_74 : decode prog_68_method_2_code 74 = .ok (.if_icmp .ne 60, 3) := by decide +kernel
theorem own_d1_77 : decode prog_68_method_2_code 77 = .ok (.sipush 159, 3) := by decide +kernel
theorem own_d1_80 : decode prog_68_method_2_code 80 = .ok (.istore 6, 2) := by decide +kernel
theorem own_d1_82 : decode prog_68_method_2_code 82 = .ok (.goto 52, 3) := by decide +kernel
theorem own_d1_62 : decode prog_68_method_2_code 62 = .ok (.sipush 160, 3) := by decide +kernel
theorem own_d1_65 : decode prog_68_method_2_code 65 = .ok (.istore 5, 2) := by decide +kernel
theorem own_d1_67 : decode prog_68_method_2_code 67 = .ok (.goto 67, 3) := by decide +kernel
theorem own_d1_25 : decode prog_68_method_2_code 25 = .ok (.iload_n 3, 1) := by decide +kernel
theorem own_d1_26 : decode prog_68_method_2_code 26 = .ok (.sipush 223, 3) := by decide +kernel
theorem own_d1_29 : decode prog_68_method_2_code 29 = .ok (.if_icmp .gt 9, 3) := by decide +kernel
theorem own_d1_32 : decode prog_68_method_2_code 32 = .ok (.iconst 1, 1) := by decide +kernel
theorem own_d1_33 : decode prog_68_method_2_code 33 = .ok (.istore 4, 2) := by decide +kernel
theorem own_d1_35 : decode prog_68_method_2_code 35 = .ok (.goto 99, 3) := by decide +kernel
theorem own_pl_1 : plainFor (⟨"com/example/entryway/entryway/Utf8", "sequenceEnd", "([BII)I"⟩ : MethodName) = true := plainFor_of_name (by first | (simp [plainName, overriddenIn]; done) | decide +kernel)
theorem own_ef_2 (p1 : Int32) (p2 : Int32) (p3 : Int32) (p4 : Int32) (p5 : Int32) (p6 : Int32)  (m : MethodId) : entryFrame m #[(.int p1), (.int p2), (.int p3), (.int p4), (.int p5), (.int p6)] 9 = mkF m 0 #[.val (.int p1), .val (.int p2), .val (.int p3), .val (.int p4), .val (.int p5), .val (.int p6), .unset, .unset, .unset] [] := by first | (simp [entryFrame, mkF, argsToLocals, Value.category]; done) | rfl
theorem own_d2_0 : decode method_4_code 0 = .ok (.iload_n 0, 1) := by decide +kernel
theorem own_d2_1 : decode method_4_code 1 = .ok (.sipush 192, 3) := by decide +kernel
theorem own_d2_4 : decode method_4_code 4 = .ok (.if_icmp .lt 27, 3) := by decide +kernel
theorem own_d2_31 : decode method_4_code 31 = .ok (.iload_n 0, 1) := by decide +kernel
theorem own_d2_32 : decode method_4_code 32 = .ok (.sipush 224, 3) := by decide +kernel
theorem own_d2_35 : decode method_4_code 35 = .ok (.if_icmp .lt 27, 3) := by decide +kernel
theorem own_d2_62 : decode method_4_code 62 = .ok (.iload_n 0, 1) := by decide +kernel
theorem own_d2_63 : decode method_4_code 63 = .ok (.sipush 240, 3) := by decide +kernel
theorem own_d2_66 : decode method_4_code 66 = .ok (.if_icmp .lt 26, 3) := by decide +kernel
theorem own_d2_92 : decode method_4_code 92 = .ok (.iconst (-1), 1) := by decide +kernel
theorem own_d2_93 : decode method_4_code 93 = .ok (.ireturn, 1) := by decide +kernel
theorem own_d2_69 : decode method_4_code 69 = .ok (.iload_n 0, 1) := by decide +kernel
theorem own_d2_70 : decode method_4_code 70 = .ok (.sipush 247, 3) := by decide +kernel
theorem own_d2_73 : decode method_4_code 73 = .ok (.if_icmp .gt 19, 3) := by decide +kernel
theorem own_d2_76 : decode method_4_code 76 = .ok (.iconst 4, 1) := by decide +kernel
theorem own_d2_77 : decode method_4_code 77 = .ok (.istore 6, 2) := by decide +kernel
theorem own_d2_79 : decode method_4_code 79 = .ok (.iload_n 0, 1) := by decide +kernel
theorem own_d2_80 : decode method_4_code 80 = .ok (.bipush 7, 2) := by decide +kernel
theorem own_d2_82 : decode method_4_code 82 = .ok (.iand, 1) := by decide +kernel
theorem own_d2_83 : decode method_4_code 83 = .ok (.istore 7, 2) := by decide +kernel
theorem own_d2_85 : decode method_4_code 85 = .ok (.ldc 20, 2) := by decide +kernel
theorem own_d2_87 : decode method_4_code 87 = .ok (.istore 8, 2) := by decide +kernel
theorem own_d2_89 : decode method_4_code 89 = .ok (.goto 5, 3) := by decide +kernel
theorem own_d2_94 : decode method_4_code 94 = .ok (.iload 5, 2) := by decide +kernel
theorem own_d2_96 : decode method_4_code 96 = .ok (.iload 4, 2) := by decide +kernel
theorem own_d2_98 : decode method_4_code 98 = .ok (.isub, 1) := by decide +kernel
theorem own_d2_99 : decode method_4_code 99 = .ok (.iload 6, 2) := by decide +kernel
theorem own_d2_101 : decode method_4_code 101 = .ok (.if_icmp .ge 5, 3) := by decide +kernel
theorem own_d2_106 : decode method_4_code 106 = .ok (.iload_n 1, 1) := by decide +kernel
theorem own_d2_107 : decode method_4_code 107 = .ok (.invokestatic 21, 3) := by decide +kernel
theorem own_pd_0 : parseMethodDescriptor "(I)Z" = some ⟨[.int], some .boolean⟩ := by decide +kernel
theorem own_d2_110 : decode method_4_code 110 = .ok (.ifCond .ne 5, 3) := by decide +kernel
theorem own_d2_115 : decode method_4_code 115 = .ok (.iload 7, 2) := by decide +kernel
theorem own_d2_117 : decode method_4_code 117 = .ok (.bipush 6, 2) := by decide +kernel
theorem own_d2_119 : decode method_4_code 119 = .ok (.ishl, 1) := by decide +kernel
theorem own_d2_120 : decode method_4_code 120 = .ok (.iload_n 1, 1) := by decide +kernel
theorem own_d2_121 : decode method_4_code 121 = .ok (.bipush 63, 2) := by decide +kernel
theorem own_d2_123 : decode method_4_code 123 = .ok (.iand, 1) := by decide +kernel
theorem own_d2_124 : decode method_4_code 124 = .ok (.ior, 1) := by decide +kernel
theorem own_d2_125 : decode method_4_code 125 = .ok (.istore 7, 2) := by decide +kernel
theorem own_d2_127 : decode method_4_code 127 = .ok (.iload 6, 2) := by decide +kernel
theorem own_d2_129 : decode method_4_code 129 = .ok (.iconst 3, 1) := by decide +kernel
theorem own_d2_130 : decode method_4_code 130 = .ok (.if_icmp .lt 24, 3) := by decide +kernel
theorem own_d2_133 : decode method_4_code 133 = .ok (.iload_n 2, 1) := by decide +kernel
theorem own_d2_134 : decode method_4_code 134 = .ok (.invokestatic 21, 3) := by decide +kernel
theorem own_d2_137 : decode method_4_code 137 = .ok (.ifCond .ne 5, 3) := by decide +kernel
theorem own_d2_142 : decode method_4_code 142 = .ok (.iload 7, 2) := by decide +kernel
theorem own_d2_144 : decode method_4_code 144 = .ok (.bipush 6, 2) := by decide +kernel
theorem own_d2_146 : decode method_4_code 146 = .ok (.ishl, 1) := by decide +kernel
theorem own_d2_147 : decode method_4_code 147 = .ok (.iload_n 2, 1) := by decide +kernel
theorem own_d2_148 : decode method_4_code 148 = .ok (.bipush 63, 2) := by decide +kernel
theorem own_d2_150 : decode method_4_code 150 = .ok (.iand, 1) := by decide +kernel
theorem own_d2_151 : decode method_4_code 151 = .ok (.ior, 1) := by decide +kernel
theorem own_d2_152 : decode method_4_code 152 = .ok (.istore 7, 2) := by decide +kernel
theorem own_d2_154 : decode method_4_code 154 = .ok (.iload 6, 2) := by decide +kernel
theorem own_d2_156 : decode method_4_code 156 = .ok (.iconst 4, 1) := by decide +kernel
theorem own_d2_157 : decode method_4_code 157 = .ok (.if_icmp .lt 24, 3) := by decide +kernel
theorem own_d2_160 : decode method_4_code 160 = .ok (.iload_n 3, 1) := by decide +kernel
theorem own_d2_161 : decode method_4_code 161 = .ok (.invokestatic 21, 3) := by decide +kernel
theorem own_d2_164 : decode method_4_code 164 = .ok (.ifCond .ne 5, 3) := by decide +kernel
theorem own_d2_169 : decode method_4_code 169 = .ok (.iload 7, 2) := by decide +kernel
theorem own_d2_171 : decode method_4_code 171 = .ok (.bipush 6, 2) := by decide +kernel
theorem own_d2_173 : decode method_4_code 173 = .ok (.ishl, 1) := by decide +kernel
theorem own_d2_174 : decode method_4_code 174 = .ok (.iload_n 3, 1) := by decide +kernel
theorem own_d2_175 : decode method_4_code 175 = .ok (.bipush 63, 2) := by decide +kernel
theorem own_d2_177 : decode method_4_code 177 = .ok (.iand, 1) := by decide +kernel
theorem own_d2_178 : decode method_4_code 178 = .ok (.ior, 1) := by decide +kernel
theorem own_d2_179 : decode method_4_code 179 = .ok (.istore 7, 2) := by decide +kernel
theorem own_d2_181 : decode method_4_code 181 = .ok (.iload 7, 2) := by decide +kernel
theorem own_d2_183 : decode method_4_code 183 = .ok (.iload 8, 2) := by decide +kernel
theorem own_d2_185 : decode method_4_code 185 = .ok (.if_icmp .lt 10, 3) := by decide +kernel
theorem own_d2_195 : decode method_4_code 195 = .ok (.iconst (-1), 1) := by decide +kernel
theorem own_d2_196 : decode method_4_code 196 = .ok (.ireturn, 1) := by decide +kernel
theorem own_d2_188 : decode method_4_code 188 = .ok (.iload 7, 2) := by decide +kernel
theorem own_d2_190 : decode method_4_code 190 = .ok (.ldc 25, 2) := by decide +kernel
theorem own_d2_192 : decode method_4_code 192 = .ok (.if_icmp .le 5, 3) := by decide +kernel
theorem own_d2_197 : decode method_4_code 197 = .ok (.iload 7, 2) := by decide +kernel
theorem own_d2_199 : decode method_4_code 199 = .ok (.ldc 26, 2) := by decide +kernel
theorem own_d2_201 : decode method_4_code 201 = .ok (.if_icmp .lt 12, 3) := by decide +kernel
theorem own_d2_213 : decode method_4_code 213 = .ok (.iload 4, 2) := by decide +kernel
theorem own_d2_215 : decode method_4_code 215 = .ok (.iload 6, 2) := by decide +kernel
theorem own_d2_217 : decode method_4_code 217 = .ok (.iadd, 1) := by decide +kernel
theorem own_d2_218 : decode method_4_code 218 = .ok (.ireturn, 1) := by decide +kernel
theorem own_d2_204 : decode method_4_code 204 = .ok (.iload 7, 2) := by decide +kernel
theorem own_d2_206 : decode method_4_code 206 = .ok (.ldc 27, 2) := by decide +kernel
theorem own_d2_208 : decode method_4_code 208 = .ok (.if_icmp .gt 5, 3) := by decide +kernel
theorem own_d2_211 : decode method_4_code 211 = .ok (.iconst (-1), 1) := by decide +kernel
theorem own_d2_212 : decode method_4_code 212 = .ok (.ireturn, 1) := by decide +kernel
theorem own_d2_167 : decode method_4_code 167 = .ok (.iconst (-1), 1) := by decide +kernel
theorem own_d2_168 : decode method_4_code 168 = .ok (.ireturn, 1) := by decide +kernel
theorem own_d2_140 : decode method_4_code 140 = .ok (.iconst (-1), 1) := by decide +kernel
theorem own_d2_141 : decode method_4_code 141 = .ok (.ireturn, 1) := by decide +kernel
theorem own_d2_113 : decode method_4_code 113 = .ok (.iconst (-1), 1) := by decide +kernel
theorem own_d2_114 : decode method_4_code 114 = .ok (.ireturn, 1) := by decide +kernel
theorem own_d2_104 : decode method_4_code 104 = .ok (.iconst (-1), 1) := by decide +kernel
theorem own_d2_105 : decode method_4_code 105 = .ok (.ireturn, 1) := by decide +kernel
theorem own_d2_38 : decode method_4_code 38 = .ok (.iload_n 0, 1) := by decide +kernel
theorem own_d2_39 : decode method_4_code 39 = .ok (.sipush 239, 3) := by decide +kernel
theorem own_d2_42 : decode method_4_code 42 = .ok (.if_icmp .gt 20, 3) := by decide +kernel
theorem own_d2_45 : decode method_4_code 45 = .ok (.iconst 3, 1) := by decide +kernel
theorem own_d2_46 : decode method_4_code 46 = .ok (.istore 6, 2) := by decide +kernel
theorem own_d2_48 : decode method_4_code 48 = .ok (.iload_n 0, 1) := by decide +kernel
theorem own_d2_49 : decode method_4_code 49 = .ok (.bipush 15, 2) := by decide +kernel
theorem own_d2_51 : decode method_4_code 51 = .ok (.iand, 1) := by decide +kernel
theorem own_d2_52 : decode method_4_code 52 = .ok (.istore 7, 2) := by decide +kernel
theorem own_d2_54 : decode method_4_code 54 = .ok (.sipush 2048, 3) := by decide +kernel
theorem own_d2_57 : decode method_4_code 57 = .ok (.istore 8, 2) := by decide +kernel
theorem own_d2_59 : decode method_4_code 59 = .ok (.goto 35, 3) := by decide +kernel
theorem own_d2_7 : decode method_4_code 7 = .ok (.iload_n 0, 1) := by decide +kernel
theorem own_d2_8 : decode method_4_code 8 = .ok (.sipush 223, 3) := by decide +kernel
theorem own_d2_11 : decode method_4_code 11 = .ok (.if_icmp .gt 20, 3) := by decide +kernel
theorem own_d2_14 : decode method_4_code 14 = .ok (.iconst 2, 1) := by decide +kernel
theorem own_d2_15 : decode method_4_code 15 = .ok (.istore 6, 2) := by decide +kernel
theorem own_d2_17 : decode method_4_code 17 = .ok (.iload_n 0, 1) := by decide +kernel
theorem own_d2_18 : decode method_4_code 18 = .ok (.bipush 31, 2) := by decide +kernel
theorem own_d2_20 : decode method_4_code 20 = .ok (.iand, 1) := by decide +kernel
theorem own_d2_21 : decode method_4_code 21 = .ok (.istore 7, 2) := by decide +kernel
theorem own_d2_23 : decode method_4_code 23 = .ok (.sipush 128, 3) := by decide +kernel
theorem own_d2_26 : decode method_4_code 26 = .ok (.istore 8, 2) := by decide +kernel
theorem own_d2_28 : decode method_4_code 28 = .ok (.goto 66, 3) := by decide +kernel
theorem own_pl_2 : plainFor (⟨"com/example/entryway/entryway/Utf8SequenceEndPinLaw", "expected", "(IIIIII)I"⟩ : MethodName) = true := plainFor_of_name (by first | (simp [plainName, overriddenIn]; done) | decide +kernel)
theorem own_ef_0 (p0 : Int32) (p1 : Int32) (p2 : Int32) (p3 : Int32) (p4 : Int32) (p5 : Int32)  (m : MethodId) : entryFrame m #[(.int p0), (.int p1), (.int p2), (.int p3), (.int p4), (.int p5)] maxLocals = mkF m 0 #[.val (.int p0), .val (.int p1), .val (.int p2), .val (.int p3), .val (.int p4), .val (.int p5), .unset, .unset, .unset, .unset, .unset] [] := by first | (simp [entryFrame, mkF, argsToLocals, Value.category, maxLocals]; done) | rfl
theorem own_pd_2 : parseMethodDescriptor "([BII)I" = some ⟨[(.array .byte), .int, .int], some .int⟩ := by decide +kernel
theorem own_pd_1 : parseMethodDescriptor "(IIIIII)I" = some ⟨[.int, .int, .int, .int, .int, .int], some .int⟩ := by decide +kernel
theorem own_pl_0 : plainFor x = true := plainFor_of_name (by first | (simp [plainName, overriddenIn]; done) | decide +kernel)
theorem own_pos {v : Int32} (h0 : 0 ≤ v.toInt) : v.toInt = ((v.toBitVec.toNat : Nat) : Int) := by
  have h : v.toInt = v.toBitVec.toInt := rfl
  rw [h] at h0 ⊢
  rw [BitVec.toInt_eq_toNat_cond] at *
  have := v.toBitVec.isLt
  split at h0 <;> omega
theorem own_small {v : Int32} (h : v.toBitVec.toNat < 2 ^ 31) : v.toInt = ((v.toBitVec.toNat : Nat) : Int) := by
  have h' : v.toInt = v.toBitVec.toInt := rfl
  rw [h', BitVec.toInt_eq_toNat_cond]
  split <;> omega
def own_n (x0 x1 x2 x3 len : Int) : Int := if (194 ≤ x0 ∧ x0 ≤ 223 ∧ 2 ≤ len ∧ 128 ≤ x1 ∧ x1 ≤ 191) then 2 else if (224 ≤ x0 ∧ x0 ≤ 239 ∧ 3 ≤ len ∧ 128 ≤ x1 ∧ x1 ≤ 191 ∧ (x0 = 224 → 160 ≤ x1) ∧ (x0 = 237 → x1 ≤ 159) ∧ 128 ≤ x2 ∧ x2 ≤ 191) then 3 else if (240 ≤ x0 ∧ x0 ≤ 244 ∧ 4 ≤ len ∧ 128 ≤ x1 ∧ x1 ≤ 191 ∧ (x0 = 240 → 144 ≤ x1) ∧ (x0 = 244 → x1 ≤ 143) ∧ 128 ≤ x2 ∧ x2 ≤ 191 ∧ 128 ≤ x3 ∧ x3 ≤ 191) then 4 else 0
theorem own_n2 {x0 x1 x2 x3 len : Int} (h : (194 ≤ x0 ∧ x0 ≤ 223 ∧ 2 ≤ len ∧ 128 ≤ x1 ∧ x1 ≤ 191)) : own_n x0 x1 x2 x3 len = 2 := if_pos h
theorem own_n3 {x0 x1 x2 x3 len : Int} (h : (224 ≤ x0 ∧ x0 ≤ 239 ∧ 3 ≤ len ∧ 128 ≤ x1 ∧ x1 ≤ 191 ∧ (x0 = 224 → 160 ≤ x1) ∧ (x0 = 237 → x1 ≤ 159) ∧ 128 ≤ x2 ∧ x2 ≤ 191)) : own_n x0 x1 x2 x3 len = 3 := (if_neg (by omega)).trans (if_pos h)
theorem own_n4 {x0 x1 x2 x3 len : Int} (h : (240 ≤ x0 ∧ x0 ≤ 244 ∧ 4 ≤ len ∧ 128 ≤ x1 ∧ x1 ≤ 191 ∧ (x0 = 240 → 144 ≤ x1) ∧ (x0 = 244 → x1 ≤ 143) ∧ 128 ≤ x2 ∧ x2 ≤ 191 ∧ 128 ≤ x3 ∧ x3 ≤ 191)) : own_n x0 x1 x2 x3 len = 4 := (if_neg (by omega)).trans ((if_neg (by omega)).trans (if_pos h))
theorem own_n0 {x0 x1 x2 x3 len : Int} (h2 : ¬ (194 ≤ x0 ∧ x0 ≤ 223 ∧ 2 ≤ len ∧ 128 ≤ x1 ∧ x1 ≤ 191)) (h3 : ¬ (224 ≤ x0 ∧ x0 ≤ 239 ∧ 3 ≤ len ∧ 128 ≤ x1 ∧ x1 ≤ 191 ∧ (x0 = 224 → 160 ≤ x1) ∧ (x0 = 237 → x1 ≤ 159) ∧ 128 ≤ x2 ∧ x2 ≤ 191)) (h4 : ¬ (240 ≤ x0 ∧ x0 ≤ 244 ∧ 4 ≤ len ∧ 128 ≤ x1 ∧ x1 ≤ 191 ∧ (x0 = 240 → 144 ≤ x1) ∧ (x0 = 244 → x1 ≤ 143) ∧ 128 ≤ x2 ∧ x2 ≤ 191 ∧ 128 ≤ x3 ∧ x3 ≤ 191)) : own_n x0 x1 x2 x3 len = 0 := (if_neg h2).trans ((if_neg h3).trans (if_neg h4))
def own_res (st n : Int) : Int32 := Int32.ofInt (if n = 0 then -1 else st + n)
theorem own_res0 {st n : Int} (h : n = 0) : (-1 : Int32) = own_res st n := by unfold own_res; rw [if_pos h]; rfl
theorem own_resk {st n : Int} {z : Int32} (h : n ≠ 0) (hz : z.toInt = st + n) : z = own_res st n := by
  unfold own_res; rw [if_neg h, ← hz]; simp
theorem own_cont1 : nar .boolean (1 : Int32) = 1 := by decide
theorem own_cont0 : nar .boolean (0 : Int32) = 0 := by decide
theorem own_b255 (x : Int32) : (x.toInt8.toInt32 &&& (255 : Int32)) = x &&& (255 : Int32) := by
  refine Int32.toInt_inj.mp ?_
  rw [Jvm.Kit.i32_mask _ 255 (k := 8) (by decide) (by decide), Jvm.Kit.i32_mask _ 255 (k := 8) (by decide) (by decide)]
  rw [Int8.toInt_toInt32, Int32.toInt_toInt8, Int.emod_def]
  have := Int.bmod_emod (x := x.toInt) (m := 2 ^ 8)
  omega
theorem own_m255 (x : Int32) : 0 ≤ (x &&& (255 : Int32)).toInt ∧ (x &&& (255 : Int32)).toInt ≤ 255 := by
  rw [Jvm.Kit.i32_mask _ 255 (k := 8) (by decide) (by decide)]; omega
theorem own_narb (x : Int32) : nar .byte x.toInt8.toInt32 = x.toInt8.toInt32 := by
  show (x.toInt8.toInt32).toInt8.toInt32 = _
  simp
theorem own_addk {p : Int32} (h0 : 0 ≤ p.toInt) (h1 : p.toInt ≤ 5) (k : Int32) (hk0 : 0 ≤ k.toInt) (hk1 : k.toInt ≤ 5) : (p + k).toInt = p.toInt + k.toInt := XT.add32 (by unfold XT.fits32; omega)
theorem own_subk {p q : Int32} (h0 : 0 ≤ p.toInt) (h1 : p.toInt ≤ 6) (hk0 : 0 ≤ q.toInt) (hk1 : q.toInt ≤ 6) : (p - q).toInt = p.toInt - q.toInt := XT.sub32 (by unfold XT.fits32; omega)
theorem own_c192 {x : Int32} (h0 : 0 ≤ x.toInt) (h1 : x.toInt ≤ 255) : (x &&& (192 : Int32)).toInt = x.toInt / 64 * 64 := by
  obtain ⟨n, hn⟩ : ∃ n : Nat, x.toInt = n := ⟨x.toInt.toNat, by omega⟩
  have e : x = Int32.ofNat n := Int32.toInt_inj.mp (by rw [hn, Int32.toInt_ofNat_of_lt (by omega)])
  have key : ∀ k : Nat, k < 256 → (Int32.ofNat k &&& (192 : Int32)).toInt = (k : Int) / 64 * 64 := by decide +kernel
  rw [hn, e]; exact key n (by omega)
theorem own_cp {c x : Int32} (h0 : 0 ≤ c.toInt) (h1 : c.toInt < 65536) : ((c <<< ((6 : Int32) &&& 31)) ||| (x &&& (63 : Int32))).toInt = c.toInt * 64 + x.toInt % 64 := by
  have e1 : (c <<< ((6 : Int32) &&& 31)).toInt = c.toInt * 2 ^ 6 := Jvm.Kit.i32_shl c ((6 : Int32) &&& 31) (k := 6) (by decide) (by omega) (by omega)
  have e2 := Jvm.Kit.i32_mask x 63 (k := 6) (by decide) (by decide)
  generalize (c <<< ((6 : Int32) &&& 31)) = a at *
  generalize (x &&& (63 : Int32)) = b at *
  have pa := own_pos (v := a) (by omega)
  have pb := own_pos (v := b) (by omega)
  have ob : (a ||| b).toBitVec.toNat = a.toBitVec.toNat ||| b.toBitVec.toNat := by rw [Int32.toBitVec_or, BitVec.toNat_or]
  have dis : a.toBitVec.toNat ||| b.toBitVec.toNat = a.toBitVec.toNat + b.toBitVec.toNat := by
    obtain ⟨q, hq⟩ : ∃ q, a.toBitVec.toNat = 2 ^ 6 * q := ⟨a.toBitVec.toNat / 64, by omega⟩
    rw [hq, ← Nat.two_pow_add_eq_or_of_lt (show b.toBitVec.toNat < 2 ^ 6 by omega)]
  rw [own_small (by rw [ob, dis]; omega), ob, dis]
  omega
theorem own_m1 (x : Int32) : (x &&& (1 : Int32)) = 0 ∨ (x &&& (1 : Int32)) = 1 := by
  have h := Jvm.Kit.i32_mask x 1 (k := 1) (by decide) (by decide)
  have q : (x &&& (1 : Int32)).toInt = 0 ∨ (x &&& (1 : Int32)).toInt = 1 := by omega
  rcases q with q | q
  · exact Or.inl (Int32.toInt_inj.mp (by rw [q]; decide))
  · exact Or.inr (Int32.toInt_inj.mp (by rw [q]; decide))
theorem own_rem65 (x n u : Int32) (k : Int) (hk : n.toInt = k) (hp : 0 < k) (hu : u = (x &&& (65535 : Int32)) % n) : 0 ≤ u.toInt ∧ u.toInt < k := by
  have h := Jvm.Kit.i32_mask x 65535 (k := 16) (by decide) (by decide)
  have e := Jvm.Kit.i32_rem_nonneg (x := x &&& 65535) (y := n) (by omega)
  rw [hk] at e
  rw [hu, e]
  exact ⟨Int.emod_nonneg _ (by omega), Int.emod_lt_of_pos _ hp⟩
theorem own_l0 {x u : Int32} (hu : u = (x &&& (65535 : Int32)) % (6 : Int32)) : 0 ≤ u.toInt ∧ u.toInt < 6 := own_rem65 x 6 u 6 (by decide) (by decide) hu
theorem own_l1 {x u : Int32} (hu : u = (x &&& (65535 : Int32)) % (5 : Int32)) : 0 ≤ u.toInt ∧ u.toInt < 5 := own_rem65 x 5 u 5 (by decide) (by decide) hu
theorem own_e0 {u : Int32} (h : 0 ≤ u.toInt ∧ u.toInt < 6) : ((0 : Int32)).toInt ≤ ((0 : Int32) + u).toInt ∧ ((0 : Int32) + u).toInt ≤ 5 := by
  rw [Int32.zero_add]; exact ⟨h.1, by omega⟩
theorem own_e1 {u : Int32} (h : 0 ≤ u.toInt ∧ u.toInt < 5) : ((1 : Int32)).toInt ≤ ((1 : Int32) + u).toInt ∧ ((1 : Int32) + u).toInt ≤ 5 := by
  rw [XT.add32 (by show XT.fits32 (1 + u.toInt); unfold XT.fits32; omega)]
  show (1 : Int) ≤ 1 + u.toInt ∧ 1 + u.toInt ≤ 5
  omega

def own_Qmet3 (h0 : Heap) (p1 : Int32) (v : Option Value) (h : Heap) (L : List Loc) : Prop := v = some (.int (if 128 ≤ p1.toInt ∧ p1.toInt ≤ 191 then 1 else 0)) ∧ h = h0 ∧ L = []
set_option maxRecDepth 65536 in
set_option maxHeartbeats 40000000 in
theorem own_met3 (l : Launch) (Z : State) (a0 : Array Value) (hw : ∀ d ∈ tables_1, d.before a0 Z = true) (h0 : Heap) (p1 : Int32)  (hp : 0 ≤ p1.toInt ∧ p1.toInt ≤ 255) :
    MetFree l (⟨"com/example/entryway/entryway/Utf8SequenceEndPinLaw", "cont", "(I)Z"⟩ : MethodName) (head1 [Jvm.Cond.code (⟨"com/example/entryway/entryway/Utf8SequenceEndPinLaw", "cont", "(I)Z"⟩ : MethodName) method_3_code 1 (some .boolean)] ({ frames := 0, cells := 0, slots := 0, locals := 0 } : Room)) (fun a U => a = #[(.int p1)] ∧ Z.Warmed39 U.vm ∧ U.heap = h0) (fun _ _ _ _ _ => True) (fun _ U o U' => ∃ v L, o = .returned v ∧ (own_Qmet3 h0 p1 ) v U'.heap L ∧ FrameEnd U o U' L ({ frames := 0, cells := 0, slots := 0, locals := 0 } : Room).cells ({ frames := 0, cells := 0, slots := 0, locals := 0 } : Room).slots) := by
  refine OwnK.met (Q := (own_Qmet3 h0 p1 )) (C := ({ frames := 0, cells := 0, slots := 0, locals := 0 } : Room).cells) (N := ({ frames := 0, cells := 0, slots := 0, locals := 0 } : Room).slots) own_pl_3 (own_ef_3 p1) ?_
  intro p e s m below meth c T0 X0 hx hZ hby hml hown hnm hret hlk e0
  have hk := own_c192 hp.1 hp.2
  refine OwnK.iloadN X0 hx (hb hby own_d3_0) (pc' := 1) rfl (v := p1) rfl ?_
  refine OwnK.sipush X0 hx (hb hby own_d3_1) (pc' := 4) rfl (v := (192 : Int32)) (by decide) ?_
  refine OwnK.iand X0 hx (hb hby own_d3_4) (pc' := 5) rfl ?_
  refine OwnK.sipush X0 hx (hb hby own_d3_5) (pc' := 8) rfl (v := (128 : Int32)) (by decide) ?_
  refine OwnK.icmp_ne X0 hx (hb hby own_d3_8) (by decide) (pcT := 15) (by decide) (pc' := 11) rfl (fun (hc1 : ¬ (p1 &&& (192 : Int32)).toInt = 128) => ?_) (fun (hc1 : (p1 &&& (192 : Int32)).toInt = 128) => ?_)
  · refine OwnK.iconst X0 hx (hb hby own_d3_15) (pc' := 16) rfl (v := (0 : Int32)) (by decide) ?_
    refine OwnK.retN_ X0 hx hret (by simp) hlk (hb hby own_d3_16) (by decide) (by decide) ?_
    exact ⟨by first | rw [if_pos (by omega), own_cont1] | rw [if_neg (by omega), own_cont0], e0, rfl⟩
  · refine OwnK.iconst X0 hx (hb hby own_d3_11) (pc' := 12) rfl (v := (1 : Int32)) (by decide) ?_
    refine OwnK.goto_ X0 hx (hb hby own_d3_12) (by decide) (pc' := 16) (by decide) ?_
    refine OwnK.retN_ X0 hx hret (by simp) hlk (hb hby own_d3_16) (by decide) (by decide) ?_
    exact ⟨by first | rw [if_pos (by omega), own_cont1] | rw [if_neg (by omega), own_cont0], e0, rfl⟩
def own_Qmet1 (h0 : Heap) (p1 : Addr) (p2 : Int32) (p3 : Int32) (kA : ClassId) (vs : List Value) (i : Nat) (y0 y1 y2 y3 : Int32) (v : Option Value) (h : Heap) (L : List Loc) : Prop := v = some (.int (own_res p2.toInt (own_n (y0 &&& (255 : Int32)).toInt (y1 &&& (255 : Int32)).toInt (y2 &&& (255 : Int32)).toInt (y3 &&& (255 : Int32)).toInt (p3.toInt - p2.toInt)))) ∧ h = h0 ∧ L = []
set_option maxRecDepth 65536 in
set_option maxHeartbeats 40000000 in
theorem own_met1 (l : Launch) (Z : State) (a0 : Array Value) (hw : ∀ d ∈ tables_1, d.before a0 Z = true) (h0 : Heap) (p1 : Addr) (p2 : Int32) (p3 : Int32) (kA : ClassId) (vs : List Value) (i : Nat) (y0 y1 y2 y3 : Int32) (V0 : Arv Z h0 p1 kA .byte (5 : Int32) vs (.int (0 : Int32))) (hi : p2.toInt = i) (hi1 : i ≤ 1) (he : p2.toInt ≤ p3.toInt ∧ p3.toInt ≤ 5) (hv0 : vs.getD i (.int (0 : Int32)) = .int y0) (hv1 : vs.getD (i + 1) (.int (0 : Int32)) = .int y1) (hv2 : vs.getD (i + 2) (.int (0 : Int32)) = .int y2) (hv3 : vs.getD (i + 3) (.int (0 : Int32)) = .int y3) :
    MetFree l (⟨"com/example/entryway/entryway/Utf8", "sequenceEnd", "([BII)I"⟩ : MethodName) (head1 [Jvm.Cond.code (⟨"com/example/entryway/entryway/Utf8", "sequenceEnd", "([BII)I"⟩ : MethodName) prog_68_method_2_code 9 (some .int)] ({ frames := 0, cells := 0, slots := 0, locals := 0 } : Room)) (fun a U => a = #[(.ref p1), (.int p2), (.int p3)] ∧ Z.Warmed39 U.vm ∧ U.heap = h0) (fun _ _ _ _ _ => True) (fun _ U o U' => ∃ v L, o = .returned v ∧ (own_Qmet1 h0 p1 p2 p3 kA vs i y0 y1 y2 y3) v U'.heap L ∧ FrameEnd U o U' L ({ frames := 0, cells := 0, slots := 0, locals := 0 } : Room).cells ({ frames := 0, cells := 0, slots := 0, locals := 0 } : Room).slots) := by
  refine OwnK.met (Q := (own_Qmet1 h0 p1 p2 p3 kA vs i y0 y1 y2 y3)) (C := ({ frames := 0, cells := 0, slots := 0, locals := 0 } : Room).cells) (N := ({ frames := 0, cells := 0, slots := 0, locals := 0 } : Room).slots) own_pl_1 (own_ef_1 p1 p2 p3) ?_
  intro p e s m below meth c T0 X0 hx hZ hby hml hown hnm hret hlk e0
  have hsub := own_subk (p := p3) (q := p2) (by omega) (by omega) (by omega) (by omega)
  have hm0 := own_m255 y0
  have hm1 := own_m255 y1
  have hm2 := own_m255 y2
  have hm3 := own_m255 y3
  refine OwnK.aloadN X0 hx (hb hby own_d1_0) (pc' := 1) rfl (v := (.ref p1)) rfl rfl ?_
  refine OwnK.iloadN X0 hx (hb hby own_d1_1) (pc' := 2) rfl (v := p2) rfl ?_
  refine OwnK.baload X0 hx hZ e0 V0 (by omega) (by show _ < (5 : Int); omega) (v := (.int y0)) (by rw [OwnK.jnat hi]; exact hv0) (hb hby own_d1_2) (pc' := 3) rfl ?_
  refine OwnK.sipush X0 hx (hb hby own_d1_3) (pc' := 6) rfl (v := (255 : Int32)) (by decide) ?_
  refine OwnK.iand X0 hx (hb hby own_d1_6) (pc' := 7) rfl ?_
  refine OwnK.istoreN X0 hx (hb hby own_d1_7) (pc' := 8) rfl (Ls' := #[.val (.ref p1), .val (.int p2), .val (.int p3), .val (.int (y0 &&& (255 : Int32))), .unset, .unset, .unset, .unset, .unset]) rfl ?_
  refine OwnK.sipush X0 hx (hb hby own_d1_8) (pc' := 11) rfl (v := (128 : Int32)) (by decide) ?_
  refine OwnK.istore X0 hx (hb hby own_d1_11) (pc' := 13) rfl (Ls' := #[.val (.ref p1), .val (.int p2), .val (.int p3), .val (.int (y0 &&& (255 : Int32))), .unset, .val (.int (128 : Int32)), .unset, .unset, .unset]) rfl ?_
  refine OwnK.sipush X0 hx (hb hby own_d1_13) (pc' := 16) rfl (v := (191 : Int32)) (by decide) ?_
  refine OwnK.istore X0 hx (hb hby own_d1_16) (pc' := 18) rfl (Ls' := #[.val (.ref p1), .val (.int p2), .val (.int p3), .val (.int (y0 &&& (255 : Int32))), .unset, .val (.int (128 : Int32)), .val (.int (191 : Int32)), .unset, .unset]) rfl ?_
  refine OwnK.iloadN X0 hx (hb hby own_d1_18) (pc' := 19) rfl (v := (y0 &&& (255 : Int32))) rfl ?_
  refine OwnK.sipush X0 hx (hb hby own_d1_19) (pc' := 22) rfl (v := (194 : Int32)) (by decide) ?_
  refine OwnK.icmp_lt X0 hx (hb hby own_d1_22) (by decide) (pcT := 38) (by decide) (pc' := 25) rfl (fun (hc1 : (y0 &&& (255 : Int32)).toInt < 194) => ?_) (fun (hc1 : 194 ≤ (y0 &&& (255 : Int32)).toInt) => ?_)
  · refine OwnK.iloadN X0 hx (hb hby own_d1_38) (pc' := 39) rfl (v := (y0 &&& (255 : Int32))) rfl ?_
    refine OwnK.sipush X0 hx (hb hby own_d1_39) (pc' := 42) rfl (v := (224 : Int32)) (by decide) ?_
    refine OwnK.icmp_lt X0 hx (hb hby own_d1_42) (by decide) (pcT := 85) (by decide) (pc' := 45) rfl (fun (hc2 : (y0 &&& (255 : Int32)).toInt < 224) => ?_) (fun (hc2 : 224 ≤ (y0 &&& (255 : Int32)).toInt) => ?_)
    · refine OwnK.iloadN X0 hx (hb hby own_d1_85) (pc' := 86) rfl (v := (y0 &&& (255 : Int32))) rfl ?_
      refine OwnK.sipush X0 hx (hb hby own_d1_86) (pc' := 89) rfl (v := (240 : Int32)) (by decide) ?_
      refine OwnK.icmp_lt X0 hx (hb hby own_d1_89) (by decide) (pcT := 132) (by decide) (pc' := 92) rfl (fun (hc3 : (y0 &&& (255 : Int32)).toInt < 240) => ?_) (fun (hc3 : 240 ≤ (y0 &&& (255 : Int32)).toInt) => ?_)
      · refine OwnK.iconst X0 hx (hb hby own_d1_132) (pc' := 133) rfl (v := (-1 : Int32)) (by decide) ?_
        refine OwnK.retI_ X0 hx hret hlk (hb hby own_d1_133) (by decide) (by decide) ?_
        exact ⟨congrArg (fun q => some (Value.int q)) (own_res0 (own_n0 (by omega) (by omega) (by omega))), e0, rfl⟩
      · refine OwnK.iloadN X0 hx (hb hby own_d1_92) (pc' := 93) rfl (v := (y0 &&& (255 : Int32))) rfl ?_
        refine OwnK.sipush X0 hx (hb hby own_d1_93) (pc' := 96) rfl (v := (244 : Int32)) (by decide) ?_
        refine OwnK.icmp_gt X0 hx (hb hby own_d1_96) (by decide) (pcT := 132) (by decide) (pc' := 99) rfl (fun (hc4 : 244 < (y0 &&& (255 : Int32)).toInt) => ?_) (fun (hc4 : (y0 &&& (255 : Int32)).toInt ≤ 244) => ?_)
        · refine OwnK.iconst X0 hx (hb hby own_d1_132) (pc' := 133) rfl (v := (-1 : Int32)) (by decide) ?_
          refine OwnK.retI_ X0 hx hret hlk (hb hby own_d1_133) (by decide) (by decide) ?_
          exact ⟨congrArg (fun q => some (Value.int q)) (own_res0 (own_n0 (by omega) (by omega) (by omega))), e0, rfl⟩
        · refine OwnK.iconst X0 hx (hb hby own_d1_99) (pc' := 100) rfl (v := (3 : Int32)) (by decide) ?_
          refine OwnK.istore X0 hx (hb hby own_d1_100) (pc' := 102) rfl (Ls' := #[.val (.ref p1), .val (.int p2), .val (.int p3), .val (.int (y0 &&& (255 : Int32))), .val (.int (3 : Int32)), .val (.int (128 : Int32)), .val (.int (191 : Int32)), .unset, .unset]) rfl ?_
          refine OwnK.iloadN X0 hx (hb hby own_d1_102) (pc' := 103) rfl (v := (y0 &&& (255 : Int32))) rfl ?_
          refine OwnK.sipush X0 hx (hb hby own_d1_103) (pc' := 106) rfl (v := (240 : Int32)) (by decide) ?_
          refine OwnK.icmp_ne X0 hx (hb hby own_d1_106) (by decide) (pcT := 117) (by decide) (pc' := 109) rfl (fun (hc5 : ¬ (y0 &&& (255 : Int32)).toInt = 240) => ?_) (fun (hc5 : (y0 &&& (255 : Int32)).toInt = 240) => ?_)
          · refine OwnK.iloadN X0 hx (hb hby own_d1_117) (pc' := 118) rfl (v := (y0 &&& (255 : Int32))) rfl ?_
            refine OwnK.sipush X0 hx (hb hby own_d1_118) (pc' := 121) rfl (v := (244 : Int32)) (by decide) ?_
            refine OwnK.icmp_ne X0 hx (hb hby own_d1_121) (by decide) (pcT := 134) (by decide) (pc' := 124) rfl (fun (hc6 : ¬ (y0 &&& (255 : Int32)).toInt = 244) => ?_) (fun (hc6 : (y0 &&& (255 : Int32)).toInt = 244) => ?_)
            · refine OwnK.iloadN X0 hx (hb hby own_d1_134) (pc' := 135) rfl (v := p3) rfl ?_
              refine OwnK.iloadN X0 hx (hb hby own_d1_135) (pc' := 136) rfl (v := p2) rfl ?_
              refine OwnK.isub X0 hx (hb hby own_d1_136) (pc' := 137) rfl ?_
              refine OwnK.iload X0 hx (hb hby own_d1_137) (pc' := 139) rfl (v := (3 : Int32)) rfl ?_
              refine OwnK.icmp_gt X0 hx (hb hby own_d1_139) (by decide) (pcT := 144) (by decide) (pc' := 142) rfl (fun (hc7 : 3 < (p3 - p2).toInt) => ?_) (fun (hc7 : (p3 - p2).toInt ≤ 3) => ?_)
              · refine OwnK.iconst X0 hx (hb hby own_d1_144) (pc' := 145) rfl (v := (1 : Int32)) (by decide) ?_
                refine OwnK.istore X0 hx (hb hby own_d1_145) (pc' := 147) rfl (Ls' := #[.val (.ref p1), .val (.int p2), .val (.int p3), .val (.int (y0 &&& (255 : Int32))), .val (.int (3 : Int32)), .val (.int (128 : Int32)), .val (.int (191 : Int32)), .val (.int (1 : Int32)), .unset]) rfl ?_
                refine OwnK.iload X0 hx (hb hby own_d1_147) (pc' := 149) rfl (v := (1 : Int32)) rfl ?_
                refine OwnK.iload X0 hx (hb hby own_d1_149) (pc' := 151) rfl (v := (3 : Int32)) rfl ?_
                refine OwnK.icmp_gt X0 hx (hb hby own_d1_151) (by decide) (pcT := 198) (by decide) (pc' := 154) rfl (fun (hc151 : 3 < 1) => absurd hc151 (by decide)) (fun hc151 => ?_)
                refine OwnK.aloadN X0 hx (hb hby own_d1_154) (pc' := 155) rfl (v := (.ref p1)) rfl rfl ?_
                refine OwnK.iloadN X0 hx (hb hby own_d1_155) (pc' := 156) rfl (v := p2) rfl ?_
                refine OwnK.iload X0 hx (hb hby own_d1_156) (pc' := 158) rfl (v := (1 : Int32)) rfl ?_
                refine OwnK.iadd X0 hx (hb hby own_d1_158) (pc' := 159) rfl ?_
                have hj1 : (p2 + (1 : Int32)).toInt = ((i + 1 : Nat) : Int) := by rw [own_addk (by omega) (by omega) (1 : Int32) (by decide) (by decide), show ((1 : Int32)).toInt = 1 from by decide]; omega
                refine OwnK.baload X0 hx hZ e0 V0 (by omega) (by show _ < (5 : Int); omega) (v := (.int y1)) (by rw [OwnK.jnat hj1]; exact hv1) (hb hby own_d1_159) (pc' := 160) rfl ?_
                refine OwnK.sipush X0 hx (hb hby own_d1_160) (pc' := 163) rfl (v := (255 : Int32)) (by decide) ?_
                refine OwnK.iand X0 hx (hb hby own_d1_163) (pc' := 164) rfl ?_
                refine OwnK.istore X0 hx (hb hby own_d1_164) (pc' := 166) rfl (Ls' := #[.val (.ref p1), .val (.int p2), .val (.int p3), .val (.int (y0 &&& (255 : Int32))), .val (.int (3 : Int32)), .val (.int (128 : Int32)), .val (.int (191 : Int32)), .val (.int (1 : Int32)), .val (.int (y1 &&& (255 : Int32)))]) rfl ?_
                refine OwnK.iload X0 hx (hb hby own_d1_166) (pc' := 168) rfl (v := (y1 &&& (255 : Int32))) rfl ?_
                refine OwnK.iload X0 hx (hb hby own_d1_168) (pc' := 170) rfl (v := (128 : Int32)) rfl ?_
                refine OwnK.icmp_lt X0 hx (hb hby own_d1_170) (by decide) (pcT := 180) (by decide) (pc' := 173) rfl (fun (hc8 : (y1 &&& (255 : Int32)).toInt < 128) => ?_) (fun (hc8 : 128 ≤ (y1 &&& (255 : Int32)).toInt) => ?_)
                · refine OwnK.iconst X0 hx (hb hby own_d1_180) (pc' := 181) rfl (v := (-1 : Int32)) (by decide) ?_
                  refine OwnK.retI_ X0 hx hret hlk (hb hby own_d1_181) (by decide) (by decide) ?_
                  exact ⟨congrArg (fun q => some (Value.int q)) (own_res0 (own_n0 (by omega) (by omega) (by omega))), e0, rfl⟩
                · refine OwnK.iload X0 hx (hb hby own_d1_173) (pc' := 175) rfl (v := (y1 &&& (255 : Int32))) rfl ?_
                  refine OwnK.iload X0 hx (hb hby own_d1_175) (pc' := 177) rfl (v := (191 : Int32)) rfl ?_
                  refine OwnK.icmp_le X0 hx (hb hby own_d1_177) (by decide) (pcT := 182) (by decide) (pc' := 180) rfl (fun (hc9 : (y1 &&& (255 : Int32)).toInt ≤ 191) => ?_) (fun (hc9 : 191 < (y1 &&& (255 : Int32)).toInt) => ?_)
                  · refine OwnK.sipush X0 hx (hb hby own_d1_182) (pc' := 185) rfl (v := (128 : Int32)) (by decide) ?_
                    refine OwnK.istore X0 hx (hb hby own_d1_185) (pc' := 187) rfl (Ls' := #[.val (.ref p1), .val (.int p2), .val (.int p3), .val (.int (y0 &&& (255 : Int32))), .val (.int (3 : Int32)), .val (.int (128 : Int32)), .val (.int (191 : Int32)), .val (.int (1 : Int32)), .val (.int (y1 &&& (255 : Int32)))]) rfl ?_
                    refine OwnK.sipush X0 hx (hb hby own_d1_187) (pc' := 190) rfl (v := (191 : Int32)) (by decide) ?_
                    refine OwnK.istore X0 hx (hb hby own_d1_190) (pc' := 192) rfl (Ls' := #[.val (.ref p1), .val (.int p2), .val (.int p3), .val (.int (y0 &&& (255 : Int32))), .val (.int (3 : Int32)), .val (.int (128 : Int32)), .val (.int (191 : Int32)), .val (.int (1 : Int32)), .val (.int (y1 &&& (255 : Int32)))]) rfl ?_
                    refine OwnK.iincL X0 hx (hb hby own_d1_192) (pc' := 195) rfl (x := (1 : Int32)) rfl (v := (2 : Int32)) (by decide) (Ls' := #[.val (.ref p1), .val (.int p2), .val (.int p3), .val (.int (y0 &&& (255 : Int32))), .val (.int (3 : Int32)), .val (.int (128 : Int32)), .val (.int (191 : Int32)), .val (.int (2 : Int32)), .val (.int (y1 &&& (255 : Int32)))]) rfl ?_
                    refine OwnK.goto_ X0 hx (hb hby own_d1_195) (by decide) (pc' := 147) (by decide) ?_
                    refine OwnK.iload X0 hx (hb hby own_d1_147) (pc' := 149) rfl (v := (2 : Int32)) rfl ?_
                    refine OwnK.iload X0 hx (hb hby own_d1_149) (pc' := 151) rfl (v := (3 : Int32)) rfl ?_
                    refine OwnK.icmp_gt X0 hx (hb hby own_d1_151) (by decide) (pcT := 198) (by decide) (pc' := 154) rfl (fun (hc151 : 3 < 2) => absurd hc151 (by decide)) (fun hc151 => ?_)
                    refine OwnK.aloadN X0 hx (hb hby own_d1_154) (pc' := 155) rfl (v := (.ref p1)) rfl rfl ?_
                    refine OwnK.iloadN X0 hx (hb hby own_d1_155) (pc' := 156) rfl (v := p2) rfl ?_
                    refine OwnK.iload X0 hx (hb hby own_d1_156) (pc' := 158) rfl (v := (2 : Int32)) rfl ?_
                    refine OwnK.iadd X0 hx (hb hby own_d1_158) (pc' := 159) rfl ?_
                    have hj2 : (p2 + (2 : Int32)).toInt = ((i + 2 : Nat) : Int) := by rw [own_addk (by omega) (by omega) (2 : Int32) (by decide) (by decide), show ((2 : Int32)).toInt = 2 from by decide]; omega
                    refine OwnK.baload X0 hx hZ e0 V0 (by omega) (by show _ < (5 : Int); omega) (v := (.int y2)) (by rw [OwnK.jnat hj2]; exact hv2) (hb hby own_d1_159) (pc' := 160) rfl ?_
                    refine OwnK.sipush X0 hx (hb hby own_d1_160) (pc' := 163) rfl (v := (255 : Int32)) (by decide) ?_
                    refine OwnK.iand X0 hx (hb hby own_d1_163) (pc' := 164) rfl ?_
                    refine OwnK.istore X0 hx (hb hby own_d1_164) (pc' := 166) rfl (Ls' := #[.val (.ref p1), .val (.int p2), .val (.int p3), .val (.int (y0 &&& (255 : Int32))), .val (.int (3 : Int32)), .val (.int (128 : Int32)), .val (.int (191 : Int32)), .val (.int (2 : Int32)), .val (.int (y2 &&& (255 : Int32)))]) rfl ?_
                    refine OwnK.iload X0 hx (hb hby own_d1_166) (pc' := 168) rfl (v := (y2 &&& (255 : Int32))) rfl ?_
                    refine OwnK.iload X0 hx (hb hby own_d1_168) (pc' := 170) rfl (v := (128 : Int32)) rfl ?_
                    refine OwnK.icmp_lt X0 hx (hb hby own_d1_170) (by decide) (pcT := 180) (by decide) (pc' := 173) rfl (fun (hc10 : (y2 &&& (255 : Int32)).toInt < 128) => ?_) (fun (hc10 : 128 ≤ (y2 &&& (255 : Int32)).toInt) => ?_)
                    · refine OwnK.iconst X0 hx (hb hby own_d1_180) (pc' := 181) rfl (v := (-1 : Int32)) (by decide) ?_
                      refine OwnK.retI_ X0 hx hret hlk (hb hby own_d1_181) (by decide) (by decide) ?_
                      exact ⟨congrArg (fun q => some (Value.int q)) (own_res0 (own_n0 (by omega) (by omega) (by omega))), e0, rfl⟩
                    · refine OwnK.iload X0 hx (hb hby own_d1_173) (pc' := 175) rfl (v := (y2 &&& (255 : Int32))) rfl ?_
                      refine OwnK.iload X0 hx (hb hby own_d1_175) (pc' := 177) rfl (v := (191 : Int32)) rfl ?_
                      refine OwnK.icmp_le X0 hx (hb hby own_d1_177) (by decide) (pcT := 182) (by decide) (pc' := 180) rfl (fun (hc11 : (y2 &&& (255 : Int32)).toInt ≤ 191) => ?_) (fun (hc11 : 191 < (y2 &&& (255 : Int32)).toInt) => ?_)
                      · refine OwnK.sipush X0 hx (hb hby own_d1_182) (pc' := 185) rfl (v := (128 : Int32)) (by decide) ?_
                        refine OwnK.istore X0 hx (hb hby own_d1_185) (pc' := 187) rfl (Ls' := #[.val (.ref p1), .val (.int p2), .val (.int p3), .val (.int (y0 &&& (255 : Int32))), .val (.int (3 : Int32)), .val (.int (128 : Int32)), .val (.int (191 : Int32)), .val (.int (2 : Int32)), .val (.int (y2 &&& (255 : Int32)))]) rfl ?_
                        refine OwnK.sipush X0 hx (hb hby own_d1_187) (pc' := 190) rfl (v := (191 : Int32)) (by decide) ?_
                        refine OwnK.istore X0 hx (hb hby own_d1_190) (pc' := 192) rfl (Ls' := #[.val (.ref p1), .val (.int p2), .val (.int p3), .val (.int (y0 &&& (255 : Int32))), .val (.int (3 : Int32)), .val (.int (128 : Int32)), .val (.int (191 : Int32)), .val (.int (2 : Int32)), .val (.int (y2 &&& (255 : Int32)))]) rfl ?_
                        refine OwnK.iincL X0 hx (hb hby own_d1_192) (pc' := 195) rfl (x := (2 : Int32)) rfl (v := (3 : Int32)) (by decide) (Ls' := #[.val (.ref p1), .val (.int p2), .val (.int p3), .val (.int (y0 &&& (255 : Int32))), .val (.int (3 : Int32)), .val (.int (128 : Int32)), .val (.int (191 : Int32)), .val (.int (3 : Int32)), .val (.int (y2 &&& (255 : Int32)))]) rfl ?_
                        refine OwnK.goto_ X0 hx (hb hby own_d1_195) (by decide) (pc' := 147) (by decide) ?_
                        refine OwnK.iload X0 hx (hb hby own_d1_147) (pc' := 149) rfl (v := (3 : Int32)) rfl ?_
                        refine OwnK.iload X0 hx (hb hby own_d1_149) (pc' := 151) rfl (v := (3 : Int32)) rfl ?_
                        refine OwnK.icmp_gt X0 hx (hb hby own_d1_151) (by decide) (pcT := 198) (by decide) (pc' := 154) rfl (fun (hc151 : 3 < 3) => absurd hc151 (by decide)) (fun hc151 => ?_)
                        refine OwnK.aloadN X0 hx (hb hby own_d1_154) (pc' := 155) rfl (v := (.ref p1)) rfl rfl ?_
                        refine OwnK.iloadN X0 hx (hb hby own_d1_155) (pc' := 156) rfl (v := p2) rfl ?_
                        refine OwnK.iload X0 hx (hb hby own_d1_156) (pc' := 158) rfl (v := (3 : Int32)) rfl ?_
                        refine OwnK.iadd X0 hx (hb hby own_d1_158) (pc' := 159) rfl ?_
                        have hj3 : (p2 + (3 : Int32)).toInt = ((i + 3 : Nat) : Int) := by rw [own_addk (by omega) (by omega) (3 : Int32) (by decide) (by decide), show ((3 : Int32)).toInt = 3 from by decide]; omega
                        refine OwnK.baload X0 hx hZ e0 V0 (by omega) (by show _ < (5 : Int); omega) (v := (.int y3)) (by rw [OwnK.jnat hj3]; exact hv3) (hb hby own_d1_159) (pc' := 160) rfl ?_
                        refine OwnK.sipush X0 hx (hb hby own_d1_160) (pc' := 163) rfl (v := (255 : Int32)) (by decide) ?_
                        refine OwnK.iand X0 hx (hb hby own_d1_163) (pc' := 164) rfl ?_
                        refine OwnK.istore X0 hx (hb hby own_d1_164) (pc' := 166) rfl (Ls' := #[.val (.ref p1), .val (.int p2), .val (.int p3), .val (.int (y0 &&& (255 : Int32))), .val (.int (3 : Int32)), .val (.int (128 : Int32)), .val (.int (191 : Int32)), .val (.int (3 : Int32)), .val (.int (y3 &&& (255 : Int32)))]) rfl ?_
                        refine OwnK.iload X0 hx (hb hby own_d1_166) (pc' := 168) rfl (v := (y3 &&& (255 : Int32))) rfl ?_
                        refine OwnK.iload X0 hx (hb hby own_d1_168) (pc' := 170) rfl (v := (128 : Int32)) rfl ?_
                        refine OwnK.icmp_lt X0 hx (hb hby own_d1_170) (by decide) (pcT := 180) (by decide) (pc' := 173) rfl (fun (hc12 : (y3 &&& (255 : Int32)).toInt < 128) => ?_) (fun (hc12 : 128 ≤ (y3 &&& (255 : Int32)).toInt) => ?_)
                        · refine OwnK.iconst X0 hx (hb hby own_d1_180) (pc' := 181) rfl (v := (-1 : Int32)) (by decide) ?_
                          refine OwnK.retI_ X0 hx hret hlk (hb hby own_d1_181) (by decide) (by decide) ?_
                          exact ⟨congrArg (fun q => some (Value.int q)) (own_res0 (own_n0 (by omega) (by omega) (by omega))), e0, rfl⟩
                        · refine OwnK.iload X0 hx (hb hby own_d1_173) (pc' := 175) rfl (v := (y3 &&& (255 : Int32))) rfl ?_
                          refine OwnK.iload X0 hx (hb hby own_d1_175) (pc' := 177) rfl (v := (191 : Int32)) rfl ?_
                          refine OwnK.icmp_le X0 hx (hb hby own_d1_177) (by decide) (pcT := 182) (by decide) (pc' := 180) rfl (fun (hc13 : (y3 &&& (255 : Int32)).toInt ≤ 191) => ?_) (fun (hc13 : 191 < (y3 &&& (255 : Int32)).toInt) => ?_)
                          · refine OwnK.sipush X0 hx (hb hby own_d1_182) (pc' := 185) rfl (v := (128 : Int32)) (by decide) ?_
                            refine OwnK.istore X0 hx (hb hby own_d1_185) (pc' := 187) rfl (Ls' := #[.val (.ref p1), .val (.int p2), .val (.int p3), .val (.int (y0 &&& (255 : Int32))), .val (.int (3 : Int32)), .val (.int (128 : Int32)), .val (.int (191 : Int32)), .val (.int (3 : Int32)), .val (.int (y3 &&& (255 : Int32)))]) rfl ?_
                            refine OwnK.sipush X0 hx (hb hby own_d1_187) (pc' := 190) rfl (v := (191 : Int32)) (by decide) ?_
                            refine OwnK.istore X0 hx (hb hby own_d1_190) (pc' := 192) rfl (Ls' := #[.val (.ref p1), .val (.int p2), .val (.int p3), .val (.int (y0 &&& (255 : Int32))), .val (.int (3 : Int32)), .val (.int (128 : Int32)), .val (.int (191 : Int32)), .val (.int (3 : Int32)), .val (.int (y3 &&& (255 : Int32)))]) rfl ?_
                            refine OwnK.iincL X0 hx (hb hby own_d1_192) (pc' := 195) rfl (x := (3 : Int32)) rfl (v := (4 : Int32)) (by decide) (Ls' := #[.val (.ref p1), .val (.int p2), .val (.int p3), .val (.int (y0 &&& (255 : Int32))), .val (.int (3 : Int32)), .val (.int (128 : Int32)), .val (.int (191 : Int32)), .val (.int (4 : Int32)), .val (.int (y3 &&& (255 : Int32)))]) rfl ?_
                            refine OwnK.goto_ X0 hx (hb hby own_d1_195) (by decide) (pc' := 147) (by decide) ?_
                            refine OwnK.iload X0 hx (hb hby own_d1_147) (pc' := 149) rfl (v := (4 : Int32)) rfl ?_
                            refine OwnK.iload X0 hx (hb hby own_d1_149) (pc' := 151) rfl (v := (3 : Int32)) rfl ?_
                            refine OwnK.icmp_gt X0 hx (hb hby own_d1_151) (by decide) (pcT := 198) (by decide) (pc' := 154) rfl (fun hc151 => ?_) (fun (hc151 : 4 ≤ 3) => absurd hc151 (by decide))
                            refine OwnK.iloadN X0 hx (hb hby own_d1_198) (pc' := 199) rfl (v := p2) rfl ?_
                            refine OwnK.iload X0 hx (hb hby own_d1_199) (pc' := 201) rfl (v := (3 : Int32)) rfl ?_
                            refine OwnK.iadd X0 hx (hb hby own_d1_201) (pc' := 202) rfl ?_
                            refine OwnK.iconst X0 hx (hb hby own_d1_202) (pc' := 203) rfl (v := (1 : Int32)) (by decide) ?_
                            refine OwnK.iadd X0 hx (hb hby own_d1_203) (pc' := 204) rfl ?_
                            refine OwnK.retI_ X0 hx hret hlk (hb hby own_d1_204) (by decide) (by decide) ?_
                            have hr3 := own_addk (p := p2) (by omega) (by omega) (3 : Int32) (by decide) (by decide)
                            have hs3 := own_addk (p := p2 + (3 : Int32)) (by rw [hr3]; show 0 ≤ _ + (3 : Int); omega) (by rw [hr3]; show _ + (3 : Int) ≤ 5; omega) (1 : Int32) (by decide) (by decide)
                            rw [hr3, show ((3 : Int32)).toInt = 3 from by decide, show ((1 : Int32)).toInt = 1 from by decide] at hs3
                            have hn3 := own_n4 (x0 := (y0 &&& (255 : Int32)).toInt) (x1 := (y1 &&& (255 : Int32)).toInt) (x2 := (y2 &&& (255 : Int32)).toInt) (x3 := (y3 &&& (255 : Int32)).toInt) (len := p3.toInt - p2.toInt) (by omega)
                            exact ⟨congrArg (fun q => some (Value.int q)) (own_resk (by omega) (by omega)), e0, rfl⟩
                          · refine OwnK.iconst X0 hx (hb hby own_d1_180) (pc' := 181) rfl (v := (-1 : Int32)) (by decide) ?_
                            refine OwnK.retI_ X0 hx hret hlk (hb hby own_d1_181) (by decide) (by decide) ?_
                            exact ⟨congrArg (fun q => some (Value.int q)) (own_res0 (own_n0 (by omega) (by omega) (by omega))), e0, rfl⟩
                      · refine OwnK.iconst X0 hx (hb hby own_d1_180) (pc' := 181) rfl (v := (-1 : Int32)) (by decide) ?_
                        refine OwnK.retI_ X0 hx hret hlk (hb hby own_d1_181) (by decide) (by decide) ?_
                        exact ⟨congrArg (fun q => some (Value.int q)) (own_res0 (own_n0 (by omega) (by omega) (by omega))), e0, rfl⟩
                  · refine OwnK.iconst X0 hx (hb hby own_d1_180) (pc' := 181) rfl (v := (-1 : Int32)) (by decide) ?_
                    refine OwnK.retI_ X0 hx hret hlk (hb hby own_d1_181) (by decide) (by decide) ?_
                    exact ⟨congrArg (fun q => some (Value.int q)) (own_res0 (own_n0 (by omega) (by omega) (by omega))), e0, rfl⟩
              · refine OwnK.iconst X0 hx (hb hby own_d1_142) (pc' := 143) rfl (v := (-1 : Int32)) (by decide) ?_
                refine OwnK.retI_ X0 hx hret hlk (hb hby own_d1_143) (by decide) (by decide) ?_
                exact ⟨congrArg (fun q => some (Value.int q)) (own_res0 (own_n0 (by omega) (by omega) (by omega))), e0, rfl⟩
            · refine OwnK.sipush X0 hx (hb hby own_d1_124) (pc' := 127) rfl (v := (143 : Int32)) (by decide) ?_
              refine OwnK.istore X0 hx (hb hby own_d1_127) (pc' := 129) rfl (Ls' := #[.val (.ref p1), .val (.int p2), .val (.int p3), .val (.int (y0 &&& (255 : Int32))), .val (.int (3 : Int32)), .val (.int (128 : Int32)), .val (.int (143 : Int32)), .unset, .unset]) rfl ?_
              refine OwnK.goto_ X0 hx (hb hby own_d1_129) (by decide) (pc' := 134) (by decide) ?_
              refine OwnK.iloadN X0 hx (hb hby own_d1_134) (pc' := 135) rfl (v := p3) rfl ?_
              refine OwnK.iloadN X0 hx (hb hby own_d1_135) (pc' := 136) rfl (v := p2) rfl ?_
              refine OwnK.isub X0 hx (hb hby own_d1_136) (pc' := 137) rfl ?_
              refine OwnK.iload X0 hx (hb hby own_d1_137) (pc' := 139) rfl (v := (3 : Int32)) rfl ?_
              refine OwnK.icmp_gt X0 hx (hb hby own_d1_139) (by decide) (pcT := 144) (by decide) (pc' := 142) rfl (fun (hc14 : 3 < (p3 - p2).toInt) => ?_) (fun (hc14 : (p3 - p2).toInt ≤ 3) => ?_)
              · refine OwnK.iconst X0 hx (hb hby own_d1_144) (pc' := 145) rfl (v := (1 : Int32)) (by decide) ?_
                refine OwnK.istore X0 hx (hb hby own_d1_145) (pc' := 147) rfl (Ls' := #[.val (.ref p1), .val (.int p2), .val (.int p3), .val (.int (y0 &&& (255 : Int32))), .val (.int (3 : Int32)), .val (.int (128 : Int32)), .val (.int (143 : Int32)), .val (.int (1 : Int32)), .unset]) rfl ?_
                refine OwnK.iload X0 hx (hb hby own_d1_147) (pc' := 149) rfl (v := (1 : Int32)) rfl ?_
                refine OwnK.iload X0 hx (hb hby own_d1_149) (pc' := 151) rfl (v := (3 : Int32)) rfl ?_
                refine OwnK.icmp_gt X0 hx (hb hby own_d1_151) (by decide) (pcT := 198) (by decide) (pc' := 154) rfl (fun (hc151 : 3 < 1) => absurd hc151 (by decide)) (fun hc151 => ?_)
                refine OwnK.aloadN X0 hx (hb hby own_d1_154) (pc' := 155) rfl (v := (.ref p1)) rfl rfl ?_
                refine OwnK.iloadN X0 hx (hb hby own_d1_155) (pc' := 156) rfl (v := p2) rfl ?_
                refine OwnK.iload X0 hx (hb hby own_d1_156) (pc' := 158) rfl (v := (1 : Int32)) rfl ?_
                refine OwnK.iadd X0 hx (hb hby own_d1_158) (pc' := 159) rfl ?_
                have hj1 : (p2 + (1 : Int32)).toInt = ((i + 1 : Nat) : Int) := by rw [own_addk (by omega) (by omega) (1 : Int32) (by decide) (by decide), show ((1 : Int32)).toInt = 1 from by decide]; omega
                refine OwnK.baload X0 hx hZ e0 V0 (by omega) (by show _ < (5 : Int); omega) (v := (.int y1)) (by rw [OwnK.jnat hj1]; exact hv1) (hb hby own_d1_159) (pc' := 160) rfl ?_
                refine OwnK.sipush X0 hx (hb hby own_d1_160) (pc' := 163) rfl (v := (255 : Int32)) (by decide) ?_
                refine OwnK.iand X0 hx (hb hby own_d1_163) (pc' := 164) rfl ?_
                refine OwnK.istore X0 hx (hb hby own_d1_164) (pc' := 166) rfl (Ls' := #[.val (.ref p1), .val (.int p2), .val (.int p3), .val (.int (y0 &&& (255 : Int32))), .val (.int (3 : Int32)), .val (.int (128 : Int32)), .val (.int (143 : Int32)), .val (.int (1 : Int32)), .val (.int (y1 &&& (255 : Int32)))]) rfl ?_
                refine OwnK.iload X0 hx (hb hby own_d1_166) (pc' := 168) rfl (v := (y1 &&& (255 : Int32))) rfl ?_
                refine OwnK.iload X0 hx (hb hby own_d1_168) (pc' := 170) rfl (v := (128 : Int32)) rfl ?_
                refine OwnK.icmp_lt X0 hx (hb hby own_d1_170) (by decide) (pcT := 180) (by decide) (pc' := 173) rfl (fun (hc15 : (y1 &&& (255 : Int32)).toInt < 128) => ?_) (fun (hc15 : 128 ≤ (y1 &&& (255 : Int32)).toInt) => ?_)
                · refine OwnK.iconst X0 hx (hb hby own_d1_180) (pc' := 181) rfl (v := (-1 : Int32)) (by decide) ?_
                  refine OwnK.retI_ X0 hx hret hlk (hb hby own_d1_181) (by decide) (by decide) ?_
                  exact ⟨congrArg (fun q => some (Value.int q)) (own_res0 (own_n0 (by omega) (by omega) (by omega))), e0, rfl⟩
                · refine OwnK.iload X0 hx (hb hby own_d1_173) (pc' := 175) rfl (v := (y1 &&& (255 : Int32))) rfl ?_
                  refine OwnK.iload X0 hx (hb hby own_d1_175) (pc' := 177) rfl (v := (143 : Int32)) rfl ?_
                  refine OwnK.icmp_le X0 hx (hb hby own_d1_177) (by decide) (pcT := 182) (by decide) (pc' := 180) rfl (fun (hc16 : (y1 &&& (255 : Int32)).toInt ≤ 143) => ?_) (fun (hc16 : 143 < (y1 &&& (255 : Int32)).toInt) => ?_)
                  · refine OwnK.sipush X0 hx (hb hby own_d1_182) (pc' := 185) rfl (v := (128 : Int32)) (by decide) ?_
                    refine OwnK.istore X0 hx (hb hby own_d1_185) (pc' := 187) rfl (Ls' := #[.val (.ref p1), .val (.int p2), .val (.int p3), .val (.int (y0 &&& (255 : Int32))), .val (.int (3 : Int32)), .val (.int (128 : Int32)), .val (.int (143 : Int32)), .val (.int (1 : Int32)), .val (.int (y1 &&& (255 : Int32)))]) rfl ?_
                    refine OwnK.sipush X0 hx (hb hby own_d1_187) (pc' := 190) rfl (v := (191 : Int32)) (by decide) ?_
                    refine OwnK.istore X0 hx (hb hby own_d1_190) (pc' := 192) rfl (Ls' := #[.val (.ref p1), .val (.int p2), .val (.int p3), .val (.int (y0 &&& (255 : Int32))), .val (.int (3 : Int32)), .val (.int (128 : Int32)), .val (.int (191 : Int32)), .val (.int (1 : Int32)), .val (.int (y1 &&& (255 : Int32)))]) rfl ?_
                    refine OwnK.iincL X0 hx (hb hby own_d1_192) (pc' := 195) rfl (x := (1 : Int32)) rfl (v := (2 : Int32)) (by decide) (Ls' := #[.val (.ref p1), .val (.int p2), .val (.int p3), .val (.int (y0 &&& (255 : Int32))), .val (.int (3 : Int32)), .val (.int (128 : Int32)), .val (.int (191 : Int32)), .val (.int (2 : Int32)), .val (.int (y1 &&& (255 : Int32)))]) rfl ?_
                    refine OwnK.goto_ X0 hx (hb hby own_d1_195) (by decide) (pc' := 147) (by decide) ?_
                    refine OwnK.iload X0 hx (hb hby own_d1_147) (pc' := 149) rfl (v := (2 : Int32)) rfl ?_
                    refine OwnK.iload X0 hx (hb hby own_d1_149) (pc' := 151) rfl (v := (3 : Int32)) rfl ?_
                    refine OwnK.icmp_gt X0 hx (hb hby own_d1_151) (by decide) (pcT := 198) (by decide) (pc' := 154) rfl (fun (hc151 : 3 < 2) => absurd hc151 (by decide)) (fun hc151 => ?_)
                    refine OwnK.aloadN X0 hx (hb hby own_d1_154) (pc' := 155) rfl (v := (.ref p1)) rfl rfl ?_
                    refine OwnK.iloadN X0 hx (hb hby own_d1_155) (pc' := 156) rfl (v := p2) rfl ?_
                    refine OwnK.iload X0 hx (hb hby own_d1_156) (pc' := 158) rfl (v := (2 : Int32)) rfl ?_
                    refine OwnK.iadd X0 hx (hb hby own_d1_158) (pc' := 159) rfl ?_
                    have hj2 : (p2 + (2 : Int32)).toInt = ((i + 2 : Nat) : Int) := by rw [own_addk (by omega) (by omega) (2 : Int32) (by decide) (by decide), show ((2 : Int32)).toInt = 2 from by decide]; omega
                    refine OwnK.baload X0 hx hZ e0 V0 (by omega) (by show _ < (5 : Int); omega) (v := (.int y2)) (by rw [OwnK.jnat hj2]; exact hv2) (hb hby own_d1_159) (pc' := 160) rfl ?_
                    refine OwnK.sipush X0 hx (hb hby own_d1_160) (pc' := 163) rfl (v := (255 : Int32)) (by decide) ?_
                    refine OwnK.iand X0 hx (hb hby own_d1_163) (pc' := 164) rfl ?_
                    refine OwnK.istore X0 hx (hb hby own_d1_164) (pc' := 166) rfl (Ls' := #[.val (.ref p1), .val (.int p2), .val (.int p3), .val (.int (y0 &&& (255 : Int32))), .val (.int (3 : Int32)), .val (.int (128 : Int32)), .val (.int (191 : Int32)), .val (.int (2 : Int32)), .val (.int (y2 &&& (255 : Int32)))]) rfl ?_
                    refine OwnK.iload X0 hx (hb hby own_d1_166) (pc' := 168) rfl (v := (y2 &&& (255 : Int32))) rfl ?_
                    refine OwnK.iload X0 hx (hb hby own_d1_168) (pc' := 170) rfl (v := (128 : Int32)) rfl ?_
                    refine OwnK.icmp_lt X0 hx (hb hby own_d1_170) (by decide) (pcT := 180) (by decide) (pc' := 173) rfl (fun (hc17 : (y2 &&& (255 : Int32)).toInt < 128) => ?_) (fun (hc17 : 128 ≤ (y2 &&& (255 : Int32)).toInt) => ?_)
                    · refine OwnK.iconst X0 hx (hb hby own_d1_180) (pc' := 181) rfl (v := (-1 : Int32)) (by decide) ?_
                      refine OwnK.retI_ X0 hx hret hlk (hb hby own_d1_181) (by decide) (by decide) ?_
                      exact ⟨congrArg (fun q => some (Value.int q)) (own_res0 (own_n0 (by omega) (by omega) (by omega))), e0, rfl⟩
                    · refine OwnK.iload X0 hx (hb hby own_d1_173) (pc' := 175) rfl (v := (y2 &&& (255 : Int32))) rfl ?_
                      refine OwnK.iload X0 hx (hb hby own_d1_175) (pc' := 177) rfl (v := (191 : Int32)) rfl ?_
                      refine OwnK.icmp_le X0 hx (hb hby own_d1_177) (by decide) (pcT := 182) (by decide) (pc' := 180) rfl (fun (hc18 : (y2 &&& (255 : Int32)).toInt ≤ 191) => ?_) (fun (hc18 : 191 < (y2 &&& (255 : Int32)).toInt) => ?_)
                      · refine OwnK.sipush X0 hx (hb hby own_d1_182) (pc' := 185) rfl (v := (128 : Int32)) (by decide) ?_
                        refine OwnK.istore X0 hx (hb hby own_d1_185) (pc' := 187) rfl (Ls' := #[.val (.ref p1), .val (.int p2), .val (.int p3), .val (.int (y0 &&& (255 : Int32))), .val (.int (3 : Int32)), .val (.int (128 : Int32)), .val (.int (191 : Int32)), .val (.int (2 : Int32)), .val (.int (y2 &&& (255 : Int32)))]) rfl ?_
                        refine OwnK.sipush X0 hx (hb hby own_d1_187) (pc' := 190) rfl (v := (191 : Int32)) (by decide) ?_
                        refine OwnK.istore X0 hx (hb hby own_d1_190) (pc' := 192) rfl (Ls' := #[.val (.ref p1), .val (.int p2), .val (.int p3), .val (.int (y0 &&& (255 : Int32))), .val (.int (3 : Int32)), .val (.int (128 : Int32)), .val (.int (191 : Int32)), .val (.int (2 : Int32)), .val (.int (y2 &&& (255 : Int32)))]) rfl ?_
                        refine OwnK.iincL X0 hx (hb hby own_d1_192) (pc' := 195) rfl (x := (2 : Int32)) rfl (v := (3 : Int32)) (by decide) (Ls' := #[.val (.ref p1), .val (.int p2), .val (.int p3), .val (.int (y0 &&& (255 : Int32))), .val (.int (3 : Int32)), .val (.int (128 : Int32)), .val (.int (191 : Int32)), .val (.int (3 : Int32)), .val (.int (y2 &&& (255 : Int32)))]) rfl ?_
                        refine OwnK.goto_ X0 hx (hb hby own_d1_195) (by decide) (pc' := 147) (by decide) ?_
                        refine OwnK.iload X0 hx (hb hby own_d1_147) (pc' := 149) rfl (v := (3 : Int32)) rfl ?_
                        refine OwnK.iload X0 hx (hb hby own_d1_149) (pc' := 151) rfl (v := (3 : Int32)) rfl ?_
                        refine OwnK.icmp_gt X0 hx (hb hby own_d1_151) (by decide) (pcT := 198) (by decide) (pc' := 154) rfl (fun (hc151 : 3 < 3) => absurd hc151 (by decide)) (fun hc151 => ?_)
                        refine OwnK.aloadN X0 hx (hb hby own_d1_154) (pc' := 155) rfl (v := (.ref p1)) rfl rfl ?_
                        refine OwnK.iloadN X0 hx (hb hby own_d1_155) (pc' := 156) rfl (v := p2) rfl ?_
                        refine OwnK.iload X0 hx (hb hby own_d1_156) (pc' := 158) rfl (v := (3 : Int32)) rfl ?_
                        refine OwnK.iadd X0 hx (hb hby own_d1_158) (pc' := 159) rfl ?_
                        have hj3 : (p2 + (3 : Int32)).toInt = ((i + 3 : Nat) : Int) := by rw [own_addk (by omega) (by omega) (3 : Int32) (by decide) (by decide), show ((3 : Int32)).toInt = 3 from by decide]; omega
                        refine OwnK.baload X0 hx hZ e0 V0 (by omega) (by show _ < (5 : Int); omega) (v := (.int y3)) (by rw [OwnK.jnat hj3]; exact hv3) (hb hby own_d1_159) (pc' := 160) rfl ?_
                        refine OwnK.sipush X0 hx (hb hby own_d1_160) (pc' := 163) rfl (v := (255 : Int32)) (by decide) ?_
                        refine OwnK.iand X0 hx (hb hby own_d1_163) (pc' := 164) rfl ?_
                        refine OwnK.istore X0 hx (hb hby own_d1_164) (pc' := 166) rfl (Ls' := #[.val (.ref p1), .val (.int p2), .val (.int p3), .val (.int (y0 &&& (255 : Int32))), .val (.int (3 : Int32)), .val (.int (128 : Int32)), .val (.int (191 : Int32)), .val (.int (3 : Int32)), .val (.int (y3 &&& (255 : Int32)))]) rfl ?_
                        refine OwnK.iload X0 hx (hb hby own_d1_166) (pc' := 168) rfl (v := (y3 &&& (255 : Int32))) rfl ?_
                        refine OwnK.iload X0 hx (hb hby own_d1_168) (pc' := 170) rfl (v := (128 : Int32)) rfl ?_
                        refine OwnK.icmp_lt X0 hx (hb hby own_d1_170) (by decide) (pcT := 180) (by decide) (pc' := 173) rfl (fun (hc19 : (y3 &&& (255 : Int32)).toInt < 128) => ?_) (fun (hc19 : 128 ≤ (y3 &&& (255 : Int32)).toInt) => ?_)
                        · refine OwnK.iconst X0 hx (hb hby own_d1_180) (pc' := 181) rfl (v := (-1 : Int32)) (by decide) ?_
                          refine OwnK.retI_ X0 hx hret hlk (hb hby own_d1_181) (by decide) (by decide) ?_
                          exact ⟨congrArg (fun q => some (Value.int q)) (own_res0 (own_n0 (by omega) (by omega) (by omega))), e0, rfl⟩
                        · refine OwnK.iload X0 hx (hb hby own_d1_173) (pc' := 175) rfl (v := (y3 &&& (255 : Int32))) rfl ?_
                          refine OwnK.iload X0 hx (hb hby own_d1_175) (pc' := 177) rfl (v := (191 : Int32)) rfl ?_
                          refine OwnK.icmp_le X0 hx (hb hby own_d1_177) (by decide) (pcT := 182) (by decide) (pc' := 180) rfl (fun (hc20 : (y3 &&& (255 : Int32)).toInt ≤ 191) => ?_) (fun (hc20 : 191 < (y3 &&& (255 : Int32)).toInt) => ?_)
                          · refine OwnK.sipush X0 hx (hb hby own_d1_182) (pc' := 185) rfl (v := (128 : Int32)) (by decide) ?_
                            refine OwnK.istore X0 hx (hb hby own_d1_185) (pc' := 187) rfl (Ls' := #[.val (.ref p1), .val (.int p2), .val (.int p3), .val (.int (y0 &&& (255 : Int32))), .val (.int (3 : Int32)), .val (.int (128 : Int32)), .val (.int (191 : Int32)), .val (.int (3 : Int32)), .val (.int (y3 &&& (255 : Int32)))]) rfl ?_
                            refine OwnK.sipush X0 hx (hb hby own_d1_187) (pc' := 190) rfl (v := (191 : Int32)) (by decide) ?_
                            refine OwnK.istore X0 hx (hb hby own_d1_190) (pc' := 192) rfl (Ls' := #[.val (.ref p1), .val (.int p2), .val (.int p3), .val (.int (y0 &&& (255 : Int32))), .val (.int (3 : Int32)), .val (.int (128 : Int32)), .val (.int (191 : Int32)), .val (.int (3 : Int32)), .val (.int (y3 &&& (255 : Int32)))]) rfl ?_
                            refine OwnK.iincL X0 hx (hb hby own_d1_192) (pc' := 195) rfl (x := (3 : Int32)) rfl (v := (4 : Int32)) (by decide) (Ls' := #[.val (.ref p1), .val (.int p2), .val (.int p3), .val (.int (y0 &&& (255 : Int32))), .val (.int (3 : Int32)), .val (.int (128 : Int32)), .val (.int (191 : Int32)), .val (.int (4 : Int32)), .val (.int (y3 &&& (255 : Int32)))]) rfl ?_
                            refine OwnK.goto_ X0 hx (hb hby own_d1_195) (by decide) (pc' := 147) (by decide) ?_
                            refine OwnK.iload X0 hx (hb hby own_d1_147) (pc' := 149) rfl (v := (4 : Int32)) rfl ?_
                            refine OwnK.iload X0 hx (hb hby own_d1_149) (pc' := 151) rfl (v := (3 : Int32)) rfl ?_
                            refine OwnK.icmp_gt X0 hx (hb hby own_d1_151) (by decide) (pcT := 198) (by decide) (pc' := 154) rfl (fun hc151 => ?_) (fun (hc151 : 4 ≤ 3) => absurd hc151 (by decide))
                            refine OwnK.iloadN X0 hx (hb hby own_d1_198) (pc' := 199) rfl (v := p2) rfl ?_
                            refine OwnK.iload X0 hx (hb hby own_d1_199) (pc' := 201) rfl (v := (3 : Int32)) rfl ?_
                            refine OwnK.iadd X0 hx (hb hby own_d1_201) (pc' := 202) rfl ?_
                            refine OwnK.iconst X0 hx (hb hby own_d1_202) (pc' := 203) rfl (v := (1 : Int32)) (by decide) ?_
                            refine OwnK.iadd X0 hx (hb hby own_d1_203) (pc' := 204) rfl ?_
                            refine OwnK.retI_ X0 hx hret hlk (hb hby own_d1_204) (by decide) (by decide) ?_
                            have hr3 := own_addk (p := p2) (by omega) (by omega) (3 : Int32) (by decide) (by decide)
                            have hs3 := own_addk (p := p2 + (3 : Int32)) (by rw [hr3]; show 0 ≤ _ + (3 : Int); omega) (by rw [hr3]; show _ + (3 : Int) ≤ 5; omega) (1 : Int32) (by decide) (by decide)
                            rw [hr3, show ((3 : Int32)).toInt = 3 from by decide, show ((1 : Int32)).toInt = 1 from by decide] at hs3
                            have hn3 := own_n4 (x0 := (y0 &&& (255 : Int32)).toInt) (x1 := (y1 &&& (255 : Int32)).toInt) (x2 := (y2 &&& (255 : Int32)).toInt) (x3 := (y3 &&& (255 : Int32)).toInt) (len := p3.toInt - p2.toInt) (by omega)
                            exact ⟨congrArg (fun q => some (Value.int q)) (own_resk (by omega) (by omega)), e0, rfl⟩
                          · refine OwnK.iconst X0 hx (hb hby own_d1_180) (pc' := 181) rfl (v := (-1 : Int32)) (by decide) ?_
                            refine OwnK.retI_ X0 hx hret hlk (hb hby own_d1_181) (by decide) (by decide) ?_
                            exact ⟨congrArg (fun q => some (Value.int q)) (own_res0 (own_n0 (by omega) (by omega) (by omega))), e0, rfl⟩
                      · refine OwnK.iconst X0 hx (hb hby own_d1_180) (pc' := 181) rfl (v := (-1 : Int32)) (by decide) ?_
                        refine OwnK.retI_ X0 hx hret hlk (hb hby own_d1_181) (by decide) (by decide) ?_
                        exact ⟨congrArg (fun q => some (Value.int q)) (own_res0 (own_n0 (by omega) (by omega) (by omega))), e0, rfl⟩
                  · refine OwnK.iconst X0 hx (hb hby own_d1_180) (pc' := 181) rfl (v := (-1 : Int32)) (by decide) ?_
                    refine OwnK.retI_ X0 hx hret hlk (hb hby own_d1_181) (by decide) (by decide) ?_
                    exact ⟨congrArg (fun q => some (Value.int q)) (own_res0 (own_n0 (by omega) (by omega) (by omega))), e0, rfl⟩
              · refine OwnK.iconst X0 hx (hb hby own_d1_142) (pc' := 143) rfl (v := (-1 : Int32)) (by decide) ?_
                refine OwnK.retI_ X0 hx hret hlk (hb hby own_d1_143) (by decide) (by decide) ?_
                exact ⟨congrArg (fun q => some (Value.int q)) (own_res0 (own_n0 (by omega) (by omega) (by omega))), e0, rfl⟩
          · refine OwnK.sipush X0 hx (hb hby own_d1_109) (pc' := 112) rfl (v := (144 : Int32)) (by decide) ?_
            refine OwnK.istore X0 hx (hb hby own_d1_112) (pc' := 114) rfl (Ls' := #[.val (.ref p1), .val (.int p2), .val (.int p3), .val (.int (y0 &&& (255 : Int32))), .val (.int (3 : Int32)), .val (.int (144 : Int32)), .val (.int (191 : Int32)), .unset, .unset]) rfl ?_
            refine OwnK.goto_ X0 hx (hb hby own_d1_114) (by decide) (pc' := 134) (by decide) ?_
            refine OwnK.iloadN X0 hx (hb hby own_d1_134) (pc' := 135) rfl (v := p3) rfl ?_
            refine OwnK.iloadN X0 hx (hb hby own_d1_135) (pc' := 136) rfl (v := p2) rfl ?_
            refine OwnK.isub X0 hx (hb hby own_d1_136) (pc' := 137) rfl ?_
            refine OwnK.iload X0 hx (hb hby own_d1_137) (pc' := 139) rfl (v := (3 : Int32)) rfl ?_
            refine OwnK.icmp_gt X0 hx (hb hby own_d1_139) (by decide) (pcT := 144) (by decide) (pc' := 142) rfl (fun (hc21 : 3 < (p3 - p2).toInt) => ?_) (fun (hc21 : (p3 - p2).toInt ≤ 3) => ?_)
            · refine OwnK.iconst X0 hx (hb hby own_d1_144) (pc' := 145) rfl (v := (1 : Int32)) (by decide) ?_
              refine OwnK.istore X0 hx (hb hby own_d1_145) (pc' := 147) rfl (Ls' := #[.val (.ref p1), .val (.int p2), .val (.int p3), .val (.int (y0 &&& (255 : Int32))), .val (.int (3 : Int32)), .val (.int (144 : Int32)), .val (.int (191 : Int32)), .val (.int (1 : Int32)), .unset]) rfl ?_
              refine OwnK.iload X0 hx (hb hby own_d1_147) (pc' := 149) rfl (v := (1 : Int32)) rfl ?_
              refine OwnK.iload X0 hx (hb hby own_d1_149) (pc' := 151) rfl (v := (3 : Int32)) rfl ?_
              refine OwnK.icmp_gt X0 hx (hb hby own_d1_151) (by decide) (pcT := 198) (by decide) (pc' := 154) rfl (fun (hc151 : 3 < 1) => absurd hc151 (by decide)) (fun hc151 => ?_)
              refine OwnK.aloadN X0 hx (hb hby own_d1_154) (pc' := 155) rfl (v := (.ref p1)) rfl rfl ?_
              refine OwnK.iloadN X0 hx (hb hby own_d1_155) (pc' := 156) rfl (v := p2) rfl ?_
              refine OwnK.iload X0 hx (hb hby own_d1_156) (pc' := 158) rfl (v := (1 : Int32)) rfl ?_
              refine OwnK.iadd X0 hx (hb hby own_d1_158) (pc' := 159) rfl ?_
              have hj1 : (p2 + (1 : Int32)).toInt = ((i + 1 : Nat) : Int) := by rw [own_addk (by omega) (by omega) (1 : Int32) (by decide) (by decide), show ((1 : Int32)).toInt = 1 from by decide]; omega
              refine OwnK.baload X0 hx hZ e0 V0 (by omega) (by show _ < (5 : Int); omega) (v := (.int y1)) (by rw [OwnK.jnat hj1]; exact hv1) (hb hby own_d1_159) (pc' := 160) rfl ?_
              refine OwnK.sipush X0 hx (hb hby own_d1_160) (pc' := 163) rfl (v := (255 : Int32)) (by decide) ?_
              refine OwnK.iand X0 hx (hb hby own_d1_163) (pc' := 164) rfl ?_
              refine OwnK.istore X0 hx (hb hby own_d1_164) (pc' := 166) rfl (Ls' := #[.val (.ref p1), .val (.int p2), .val (.int p3), .val (.int (y0 &&& (255 : Int32))), .val (.int (3 : Int32)), .val (.int (144 : Int32)), .val (.int (191 : Int32)), .val (.int (1 : Int32)), .val (.int (y1 &&& (255 : Int32)))]) rfl ?_
              refine OwnK.iload X0 hx (hb hby own_d1_166) (pc' := 168) rfl (v := (y1 &&& (255 : Int32))) rfl ?_
              refine OwnK.iload X0 hx (hb hby own_d1_168) (pc' := 170) rfl (v := (144 : Int32)) rfl ?_
              refine OwnK.icmp_lt X0 hx (hb hby own_d1_170) (by decide) (pcT := 180) (by decide) (pc' := 173) rfl (fun (hc22 : (y1 &&& (255 : Int32)).toInt < 144) => ?_) (fun (hc22 : 144 ≤ (y1 &&& (255 : Int32)).toInt) => ?_)
              · refine OwnK.iconst X0 hx (hb hby own_d1_180) (pc' := 181) rfl (v := (-1 : Int32)) (by decide) ?_
                refine OwnK.retI_ X0 hx hret hlk (hb hby own_d1_181) (by decide) (by decide) ?_
                exact ⟨congrArg (fun q => some (Value.int q)) (own_res0 (own_n0 (by omega) (by omega) (by omega))), e0, rfl⟩
              · refine OwnK.iload X0 hx (hb hby own_d1_173) (pc' := 175) rfl (v := (y1 &&& (255 : Int32))) rfl ?_
                refine OwnK.iload X0 hx (hb hby own_d1_175) (pc' := 177) rfl (v := (191 : Int32)) rfl ?_
                refine OwnK.icmp_le X0 hx (hb hby own_d1_177) (by decide) (pcT := 182) (by decide) (pc' := 180) rfl (fun (hc23 : (y1 &&& (255 : Int32)).toInt ≤ 191) => ?_) (fun (hc23 : 191 < (y1 &&& (255 : Int32)).toInt) => ?_)
                · refine OwnK.sipush X0 hx (hb hby own_d1_182) (pc' := 185) rfl (v := (128 : Int32)) (by decide) ?_
                  refine OwnK.istore X0 hx (hb hby own_d1_185) (pc' := 187) rfl (Ls' := #[.val (.ref p1), .val (.int p2), .val (.int p3), .val (.int (y0 &&& (255 : Int32))), .val (.int (3 : Int32)), .val (.int (128 : Int32)), .val (.int (191 : Int32)), .val (.int (1 : Int32)), .val (.int (y1 &&& (255 : Int32)))]) rfl ?_
                  refine OwnK.sipush X0 hx (hb hby own_d1_187) (pc' := 190) rfl (v := (191 : Int32)) (by decide) ?_
                  refine OwnK.istore X0 hx (hb hby own_d1_190) (pc' := 192) rfl (Ls' := #[.val (.ref p1), .val (.int p2), .val (.int p3), .val (.int (y0 &&& (255 : Int32))), .val (.int (3 : Int32)), .val (.int (128 : Int32)), .val (.int (191 : Int32)), .val (.int (1 : Int32)), .val (.int (y1 &&& (255 : Int32)))]) rfl ?_
                  refine OwnK.iincL X0 hx (hb hby own_d1_192) (pc' := 195) rfl (x := (1 : Int32)) rfl (v := (2 : Int32)) (by decide) (Ls' := #[.val (.ref p1), .val (.int p2), .val (.int p3), .val (.int (y0 &&& (255 : Int32))), .val (.int (3 : Int32)), .val (.int (128 : Int32)), .val (.int (191 : Int32)), .val (.int (2 : Int32)), .val (.int (y1 &&& (255 : Int32)))]) rfl ?_
                  refine OwnK.goto_ X0 hx (hb hby own_d1_195) (by decide) (pc' := 147) (by decide) ?_
                  refine OwnK.iload X0 hx (hb hby own_d1_147) (pc' := 149) rfl (v := (2 : Int32)) rfl ?_
                  refine OwnK.iload X0 hx (hb hby own_d1_149) (pc' := 151) rfl (v := (3 : Int32)) rfl ?_
                  refine OwnK.icmp_gt X0 hx (hb hby own_d1_151) (by decide) (pcT := 198) (by decide) (pc' := 154) rfl (fun (hc151 : 3 < 2) => absurd hc151 (by decide)) (fun hc151 => ?_)
                  refine OwnK.aloadN X0 hx (hb hby own_d1_154) (pc' := 155) rfl (v := (.ref p1)) rfl rfl ?_
                  refine OwnK.iloadN X0 hx (hb hby own_d1_155) (pc' := 156) rfl (v := p2) rfl ?_
                  refine OwnK.iload X0 hx (hb hby own_d1_156) (pc' := 158) rfl (v := (2 : Int32)) rfl ?_
                  refine OwnK.iadd X0 hx (hb hby own_d1_158) (pc' := 159) rfl ?_
                  have hj2 : (p2 + (2 : Int32)).toInt = ((i + 2 : Nat) : Int) := by rw [own_addk (by omega) (by omega) (2 : Int32) (by decide) (by decide), show ((2 : Int32)).toInt = 2 from by decide]; omega
                  refine OwnK.baload X0 hx hZ e0 V0 (by omega) (by show _ < (5 : Int); omega) (v := (.int y2)) (by rw [OwnK.jnat hj2]; exact hv2) (hb hby own_d1_159) (pc' := 160) rfl ?_
                  refine OwnK.sipush X0 hx (hb hby own_d1_160) (pc' := 163) rfl (v := (255 : Int32)) (by decide) ?_
                  refine OwnK.iand X0 hx (hb hby own_d1_163) (pc' := 164) rfl ?_
                  refine OwnK.istore X0 hx (hb hby own_d1_164) (pc' := 166) rfl (Ls' := #[.val (.ref p1), .val (.int p2), .val (.int p3), .val (.int (y0 &&& (255 : Int32))), .val (.int (3 : Int32)), .val (.int (128 : Int32)), .val (.int (191 : Int32)), .val (.int (2 : Int32)), .val (.int (y2 &&& (255 : Int32)))]) rfl ?_
                  refine OwnK.iload X0 hx (hb hby own_d1_166) (pc' := 168) rfl (v := (y2 &&& (255 : Int32))) rfl ?_
                  refine OwnK.iload X0 hx (hb hby own_d1_168) (pc' := 170) rfl (v := (128 : Int32)) rfl ?_
                  refine OwnK.icmp_lt X0 hx (hb hby own_d1_170) (by decide) (pcT := 180) (by decide) (pc' := 173) rfl (fun (hc24 : (y2 &&& (255 : Int32)).toInt < 128) => ?_) (fun (hc24 : 128 ≤ (y2 &&& (255 : Int32)).toInt) => ?_)
                  · refine OwnK.iconst X0 hx (hb hby own_d1_180) (pc' := 181) rfl (v := (-1 : Int32)) (by decide) ?_
                    refine OwnK.retI_ X0 hx hret hlk (hb hby own_d1_181) (by decide) (by decide) ?_
                    exact ⟨congrArg (fun q => some (Value.int q)) (own_res0 (own_n0 (by omega) (by omega) (by omega))), e0, rfl⟩
                  · refine OwnK.iload X0 hx (hb hby own_d1_173) (pc' := 175) rfl (v := (y2 &&& (255 : Int32))) rfl ?_
                    refine OwnK.iload X0 hx (hb hby own_d1_175) (pc' := 177) rfl (v := (191 : Int32)) rfl ?_
                    refine OwnK.icmp_le X0 hx (hb hby own_d1_177) (by decide) (pcT := 182) (by decide) (pc' := 180) rfl (fun (hc25 : (y2 &&& (255 : Int32)).toInt ≤ 191) => ?_) (fun (hc25 : 191 < (y2 &&& (255 : Int32)).toInt) => ?_)
                    · refine OwnK.sipush X0 hx (hb hby own_d1_182) (pc' := 185) rfl (v := (128 : Int32)) (by decide) ?_
                      refine OwnK.istore X0 hx (hb hby own_d1_185) (pc' := 187) rfl (Ls' := #[.val (.ref p1), .val (.int p2), .val (.int p3), .val (.int (y0 &&& (255 : Int32))), .val (.int (3 : Int32)), .val (.int (128 : Int32)), .val (.int (191 : Int32)), .val (.int (2 : Int32)), .val (.int (y2 &&& (255 : Int32)))]) rfl ?_
                      refine OwnK.sipush X0 hx (hb hby own_d1_187) (pc' := 190) rfl (v := (191 : Int32)) (by decide) ?_
                      refine OwnK.istore X0 hx (hb hby own_d1_190) (pc' := 192) rfl (Ls' := #[.val (.ref p1), .val (.int p2), .val (.int p3), .val (.int (y0 &&& (255 : Int32))), .val (.int (3 : Int32)), .val (.int (128 : Int32)), .val (.int (191 : Int32)), .val (.int (2 : Int32)), .val (.int (y2 &&& (255 : Int32)))]) rfl ?_
                      refine OwnK.iincL X0 hx (hb hby own_d1_192) (pc' := 195) rfl (x := (2 : Int32)) rfl (v := (3 : Int32)) (by decide) (Ls' := #[.val (.ref p1), .val (.int p2), .val (.int p3), .val (.int (y0 &&& (255 : Int32))), .val (.int (3 : Int32)), .val (.int (128 : Int32)), .val (.int (191 : Int32)), .val (.int (3 : Int32)), .val (.int (y2 &&& (255 : Int32)))]) rfl ?_
                      refine OwnK.goto_ X0 hx (hb hby own_d1_195) (by decide) (pc' := 147) (by decide) ?_
                      refine OwnK.iload X0 hx (hb hby own_d1_147) (pc' := 149) rfl (v := (3 : Int32)) rfl ?_
                      refine OwnK.iload X0 hx (hb hby own_d1_149) (pc' := 151) rfl (v := (3 : Int32)) rfl ?_
                      refine OwnK.icmp_gt X0 hx (hb hby own_d1_151) (by decide) (pcT := 198) (by decide) (pc' := 154) rfl (fun (hc151 : 3 < 3) => absurd hc151 (by decide)) (fun hc151 => ?_)
                      refine OwnK.aloadN X0 hx (hb hby own_d1_154) (pc' := 155) rfl (v := (.ref p1)) rfl rfl ?_
                      refine OwnK.iloadN X0 hx (hb hby own_d1_155) (pc' := 156) rfl (v := p2) rfl ?_
                      refine OwnK.iload X0 hx (hb hby own_d1_156) (pc' := 158) rfl (v := (3 : Int32)) rfl ?_
                      refine OwnK.iadd X0 hx (hb hby own_d1_158) (pc' := 159) rfl ?_
                      have hj3 : (p2 + (3 : Int32)).toInt = ((i + 3 : Nat) : Int) := by rw [own_addk (by omega) (by omega) (3 : Int32) (by decide) (by decide), show ((3 : Int32)).toInt = 3 from by decide]; omega
                      refine OwnK.baload X0 hx hZ e0 V0 (by omega) (by show _ < (5 : Int); omega) (v := (.int y3)) (by rw [OwnK.jnat hj3]; exact hv3) (hb hby own_d1_159) (pc' := 160) rfl ?_
                      refine OwnK.sipush X0 hx (hb hby own_d1_160) (pc' := 163) rfl (v := (255 : Int32)) (by decide) ?_
                      refine OwnK.iand X0 hx (hb hby own_d1_163) (pc' := 164) rfl ?_
                      refine OwnK.istore X0 hx (hb hby own_d1_164) (pc' := 166) rfl (Ls' := #[.val (.ref p1), .val (.int p2), .val (.int p3), .val (.int (y0 &&& (255 : Int32))), .val (.int (3 : Int32)), .val (.int (128 : Int32)), .val (.int (191 : Int32)), .val (.int (3 : Int32)), .val (.int (y3 &&& (255 : Int32)))]) rfl ?_
                      refine OwnK.iload X0 hx (hb hby own_d1_166) (pc' := 168) rfl (v := (y3 &&& (255 : Int32))) rfl ?_
                      refine OwnK.iload X0 hx (hb hby own_d1_168) (pc' := 170) rfl (v := (128 : Int32)) rfl ?_
                      refine OwnK.icmp_lt X0 hx (hb hby own_d1_170) (by decide) (pcT := 180) (by decide) (pc' := 173) rfl (fun (hc26 : (y3 &&& (255 : Int32)).toInt < 128) => ?_) (fun (hc26 : 128 ≤ (y3 &&& (255 : Int32)).toInt) => ?_)
                      · refine OwnK.iconst X0 hx (hb hby own_d1_180) (pc' := 181) rfl (v := (-1 : Int32)) (by decide) ?_
                        refine OwnK.retI_ X0 hx hret hlk (hb hby own_d1_181) (by decide) (by decide) ?_
                        exact ⟨congrArg (fun q => some (Value.int q)) (own_res0 (own_n0 (by omega) (by omega) (by omega))), e0, rfl⟩
                      · refine OwnK.iload X0 hx (hb hby own_d1_173) (pc' := 175) rfl (v := (y3 &&& (255 : Int32))) rfl ?_
                        refine OwnK.iload X0 hx (hb hby own_d1_175) (pc' := 177) rfl (v := (191 : Int32)) rfl ?_
                        refine OwnK.icmp_le X0 hx (hb hby own_d1_177) (by decide) (pcT := 182) (by decide) (pc' := 180) rfl (fun (hc27 : (y3 &&& (255 : Int32)).toInt ≤ 191) => ?_) (fun (hc27 : 191 < (y3 &&& (255 : Int32)).toInt) => ?_)
                        · refine OwnK.sipush X0 hx (hb hby own_d1_182) (pc' := 185) rfl (v := (128 : Int32)) (by decide) ?_
                          refine OwnK.istore X0 hx (hb hby own_d1_185) (pc' := 187) rfl (Ls' := #[.val (.ref p1), .val (.int p2), .val (.int p3), .val (.int (y0 &&& (255 : Int32))), .val (.int (3 : Int32)), .val (.int (128 : Int32)), .val (.int (191 : Int32)), .val (.int (3 : Int32)), .val (.int (y3 &&& (255 : Int32)))]) rfl ?_
                          refine OwnK.sipush X0 hx (hb hby own_d1_187) (pc' := 190) rfl (v := (191 : Int32)) (by decide) ?_
                          refine OwnK.istore X0 hx (hb hby own_d1_190) (pc' := 192) rfl (Ls' := #[.val (.ref p1), .val (.int p2), .val (.int p3), .val (.int (y0 &&& (255 : Int32))), .val (.int (3 : Int32)), .val (.int (128 : Int32)), .val (.int (191 : Int32)), .val (.int (3 : Int32)), .val (.int (y3 &&& (255 : Int32)))]) rfl ?_
                          refine OwnK.iincL X0 hx (hb hby own_d1_192) (pc' := 195) rfl (x := (3 : Int32)) rfl (v := (4 : Int32)) (by decide) (Ls' := #[.val (.ref p1), .val (.int p2), .val (.int p3), .val (.int (y0 &&& (255 : Int32))), .val (.int (3 : Int32)), .val (.int (128 : Int32)), .val (.int (191 : Int32)), .val (.int (4 : Int32)), .val (.int (y3 &&& (255 : Int32)))]) rfl ?_
                          refine OwnK.goto_ X0 hx (hb hby own_d1_195) (by decide) (pc' := 147) (by decide) ?_
                          refine OwnK.iload X0 hx (hb hby own_d1_147) (pc' := 149) rfl (v := (4 : Int32)) rfl ?_
                          refine OwnK.iload X0 hx (hb hby own_d1_149) (pc' := 151) rfl (v := (3 : Int32)) rfl ?_
                          refine OwnK.icmp_gt X0 hx (hb hby own_d1_151) (by decide) (pcT := 198) (by decide) (pc' := 154) rfl (fun hc151 => ?_) (fun (hc151 : 4 ≤ 3) => absurd hc151 (by decide))
                          refine OwnK.iloadN X0 hx (hb hby own_d1_198) (pc' := 199) rfl (v := p2) rfl ?_
                          refine OwnK.iload X0 hx (hb hby own_d1_199) (pc' := 201) rfl (v := (3 : Int32)) rfl ?_
                          refine OwnK.iadd X0 hx (hb hby own_d1_201) (pc' := 202) rfl ?_
                          refine OwnK.iconst X0 hx (hb hby own_d1_202) (pc' := 203) rfl (v := (1 : Int32)) (by decide) ?_
                          refine OwnK.iadd X0 hx (hb hby own_d1_203) (pc' := 204) rfl ?_
                          refine OwnK.retI_ X0 hx hret hlk (hb hby own_d1_204) (by decide) (by decide) ?_
                          have hr3 := own_addk (p := p2) (by omega) (by omega) (3 : Int32) (by decide) (by decide)
                          have hs3 := own_addk (p := p2 + (3 : Int32)) (by rw [hr3]; show 0 ≤ _ + (3 : Int); omega) (by rw [hr3]; show _ + (3 : Int) ≤ 5; omega) (1 : Int32) (by decide) (by decide)
                          rw [hr3, show ((3 : Int32)).toInt = 3 from by decide, show ((1 : Int32)).toInt = 1 from by decide] at hs3
                          have hn3 := own_n4 (x0 := (y0 &&& (255 : Int32)).toInt) (x1 := (y1 &&& (255 : Int32)).toInt) (x2 := (y2 &&& (255 : Int32)).toInt) (x3 := (y3 &&& (255 : Int32)).toInt) (len := p3.toInt - p2.toInt) (by omega)
                          exact ⟨congrArg (fun q => some (Value.int q)) (own_resk (by omega) (by omega)), e0, rfl⟩
                        · refine OwnK.iconst X0 hx (hb hby own_d1_180) (pc' := 181) rfl (v := (-1 : Int32)) (by decide) ?_
                          refine OwnK.retI_ X0 hx hret hlk (hb hby own_d1_181) (by decide) (by decide) ?_
                          exact ⟨congrArg (fun q => some (Value.int q)) (own_res0 (own_n0 (by omega) (by omega) (by omega))), e0, rfl⟩
                    · refine OwnK.iconst X0 hx (hb hby own_d1_180) (pc' := 181) rfl (v := (-1 : Int32)) (by decide) ?_
                      refine OwnK.retI_ X0 hx hret hlk (hb hby own_d1_181) (by decide) (by decide) ?_
                      exact ⟨congrArg (fun q => some (Value.int q)) (own_res0 (own_n0 (by omega) (by omega) (by omega))), e0, rfl⟩
                · refine OwnK.iconst X0 hx (hb hby own_d1_180) (pc' := 181) rfl (v := (-1 : Int32)) (by decide) ?_
                  refine OwnK.retI_ X0 hx hret hlk (hb hby own_d1_181) (by decide) (by decide) ?_
                  exact ⟨congrArg (fun q => some (Value.int q)) (own_res0 (own_n0 (by omega) (by omega) (by omega))), e0, rfl⟩
            · refine OwnK.iconst X0 hx (hb hby own_d1_142) (pc' := 143) rfl (v := (-1 : Int32)) (by decide) ?_
              refine OwnK.retI_ X0 hx hret hlk (hb hby own_d1_143) (by decide) (by decide) ?_
              exact ⟨congrArg (fun q => some (Value.int q)) (own_res0 (own_n0 (by omega) (by omega) (by omega))), e0, rfl⟩
    · refine OwnK.iloadN X0 hx (hb hby own_d1_45) (pc' := 46) rfl (v := (y0 &&& (255 : Int32))) rfl ?_
      refine OwnK.sipush X0 hx (hb hby own_d1_46) (pc' := 49) rfl (v := (239 : Int32)) (by decide) ?_
      refine OwnK.icmp_gt X0 hx (hb hby own_d1_49) (by decide) (pcT := 85) (by decide) (pc' := 52) rfl (fun (hc28 : 239 < (y0 &&& (255 : Int32)).toInt) => ?_) (fun (hc28 : (y0 &&& (255 : Int32)).toInt ≤ 239) => ?_)
      · refine OwnK.iloadN X0 hx (hb hby own_d1_85) (pc' := 86) rfl (v := (y0 &&& (255 : Int32))) rfl ?_
        refine OwnK.sipush X0 hx (hb hby own_d1_86) (pc' := 89) rfl (v := (240 : Int32)) (by decide) ?_
        refine OwnK.icmp_lt X0 hx (hb hby own_d1_89) (by decide) (pcT := 132) (by decide) (pc' := 92) rfl (fun (hc29 : (y0 &&& (255 : Int32)).toInt < 240) => ?_) (fun (hc29 : 240 ≤ (y0 &&& (255 : Int32)).toInt) => ?_)
        · refine OwnK.iconst X0 hx (hb hby own_d1_132) (pc' := 133) rfl (v := (-1 : Int32)) (by decide) ?_
          refine OwnK.retI_ X0 hx hret hlk (hb hby own_d1_133) (by decide) (by decide) ?_
          exact ⟨congrArg (fun q => some (Value.int q)) (own_res0 (own_n0 (by omega) (by omega) (by omega))), e0, rfl⟩
        · refine OwnK.iloadN X0 hx (hb hby own_d1_92) (pc' := 93) rfl (v := (y0 &&& (255 : Int32))) rfl ?_
          refine OwnK.sipush X0 hx (hb hby own_d1_93) (pc' := 96) rfl (v := (244 : Int32)) (by decide) ?_
          refine OwnK.icmp_gt X0 hx (hb hby own_d1_96) (by decide) (pcT := 132) (by decide) (pc' := 99) rfl (fun (hc30 : 244 < (y0 &&& (255 : Int32)).toInt) => ?_) (fun (hc30 : (y0 &&& (255 : Int32)).toInt ≤ 244) => ?_)
          · refine OwnK.iconst X0 hx (hb hby own_d1_132) (pc' := 133) rfl (v := (-1 : Int32)) (by decide) ?_
            refine OwnK.retI_ X0 hx hret hlk (hb hby own_d1_133) (by decide) (by decide) ?_
            exact ⟨congrArg (fun q => some (Value.int q)) (own_res0 (own_n0 (by omega) (by omega) (by omega))), e0, rfl⟩
          · refine OwnK.iconst X0 hx (hb hby own_d1_99) (pc' := 100) rfl (v := (3 : Int32)) (by decide) ?_
            refine OwnK.istore X0 hx (hb hby own_d1_100) (pc' := 102) rfl (Ls' := #[.val (.ref p1), .val (.int p2), .val (.int p3), .val (.int (y0 &&& (255 : Int32))), .val (.int (3 : Int32)), .val (.int (128 : Int32)), .val (.int (191 : Int32)), .unset, .unset]) rfl ?_
            refine OwnK.iloadN X0 hx (hb hby own_d1_102) (pc' := 103) rfl (v := (y0 &&& (255 : Int32))) rfl ?_
            refine OwnK.sipush X0 hx (hb hby own_d1_103) (pc' := 106) rfl (v := (240 : Int32)) (by decide) ?_
            refine OwnK.icmp_ne X0 hx (hb hby own_d1_106) (by decide) (pcT := 117) (by decide) (pc' := 109) rfl (fun (hc31 : ¬ (y0 &&& (255 : Int32)).toInt = 240) => ?_) (fun (hc31 : (y0 &&& (255 : Int32)).toInt = 240) => ?_)
            · refine OwnK.iloadN X0 hx (hb hby own_d1_117) (pc' := 118) rfl (v := (y0 &&& (255 : Int32))) rfl ?_
              refine OwnK.sipush X0 hx (hb hby own_d1_118) (pc' := 121) rfl (v := (244 : Int32)) (by decide) ?_
              refine OwnK.icmp_ne X0 hx (hb hby own_d1_121) (by decide) (pcT := 134) (by decide) (pc' := 124) rfl (fun (hc32 : ¬ (y0 &&& (255 : Int32)).toInt = 244) => ?_) (fun (hc32 : (y0 &&& (255 : Int32)).toInt = 244) => ?_)
              · refine OwnK.iloadN X0 hx (hb hby own_d1_134) (pc' := 135) rfl (v := p3) rfl ?_
                refine OwnK.iloadN X0 hx (hb hby own_d1_135) (pc' := 136) rfl (v := p2) rfl ?_
                refine OwnK.isub X0 hx (hb hby own_d1_136) (pc' := 137) rfl ?_
                refine OwnK.iload X0 hx (hb hby own_d1_137) (pc' := 139) rfl (v := (3 : Int32)) rfl ?_
                refine OwnK.icmp_gt X0 hx (hb hby own_d1_139) (by decide) (pcT := 144) (by decide) (pc' := 142) rfl (fun (hc33 : 3 < (p3 - p2).toInt) => ?_) (fun (hc33 : (p3 - p2).toInt ≤ 3) => ?_)
                · refine OwnK.iconst X0 hx (hb hby own_d1_144) (pc' := 145) rfl (v := (1 : Int32)) (by decide) ?_
                  refine OwnK.istore X0 hx (hb hby own_d1_145) (pc' := 147) rfl (Ls' := #[.val (.ref p1), .val (.int p2), .val (.int p3), .val (.int (y0 &&& (255 : Int32))), .val (.int (3 : Int32)), .val (.int (128 : Int32)), .val (.int (191 : Int32)), .val (.int (1 : Int32)), .unset]) rfl ?_
                  refine OwnK.iload X0 hx (hb hby own_d1_147) (pc' := 149) rfl (v := (1 : Int32)) rfl ?_
                  refine OwnK.iload X0 hx (hb hby own_d1_149) (pc' := 151) rfl (v := (3 : Int32)) rfl ?_
                  refine OwnK.icmp_gt X0 hx (hb hby own_d1_151) (by decide) (pcT := 198) (by decide) (pc' := 154) rfl (fun (hc151 : 3 < 1) => absurd hc151 (by decide)) (fun hc151 => ?_)
                  refine OwnK.aloadN X0 hx (hb hby own_d1_154) (pc' := 155) rfl (v := (.ref p1)) rfl rfl ?_
                  refine OwnK.iloadN X0 hx (hb hby own_d1_155) (pc' := 156) rfl (v := p2) rfl ?_
                  refine OwnK.iload X0 hx (hb hby own_d1_156) (pc' := 158) rfl (v := (1 : Int32)) rfl ?_
                  refine OwnK.iadd X0 hx (hb hby own_d1_158) (pc' := 159) rfl ?_
                  have hj1 : (p2 + (1 : Int32)).toInt = ((i + 1 : Nat) : Int) := by rw [own_addk (by omega) (by omega) (1 : Int32) (by decide) (by decide), show ((1 : Int32)).toInt = 1 from by decide]; omega
                  refine OwnK.baload X0 hx hZ e0 V0 (by omega) (by show _ < (5 : Int); omega) (v := (.int y1)) (by rw [OwnK.jnat hj1]; exact hv1) (hb hby own_d1_159) (pc' := 160) rfl ?_
                  refine OwnK.sipush X0 hx (hb hby own_d1_160) (pc' := 163) rfl (v := (255 : Int32)) (by decide) ?_
                  refine OwnK.iand X0 hx (hb hby own_d1_163) (pc' := 164) rfl ?_
                  refine OwnK.istore X0 hx (hb hby own_d1_164) (pc' := 166) rfl (Ls' := #[.val (.ref p1), .val (.int p2), .val (.int p3), .val (.int (y0 &&& (255 : Int32))), .val (.int (3 : Int32)), .val (.int (128 : Int32)), .val (.int (191 : Int32)), .val (.int (1 : Int32)), .val (.int (y1 &&& (255 : Int32)))]) rfl ?_
                  refine OwnK.iload X0 hx (hb hby own_d1_166) (pc' := 168) rfl (v := (y1 &&& (255 : Int32))) rfl ?_
                  refine OwnK.iload X0 hx (hb hby own_d1_168) (pc' := 170) rfl (v := (128 : Int32)) rfl ?_
                  refine OwnK.icmp_lt X0 hx (hb hby own_d1_170) (by decide) (pcT := 180) (by decide) (pc' := 173) rfl (fun (hc34 : (y1 &&& (255 : Int32)).toInt < 128) => ?_) (fun (hc34 : 128 ≤ (y1 &&& (255 : Int32)).toInt) => ?_)
                  · refine OwnK.iconst X0 hx (hb hby own_d1_180) (pc' := 181) rfl (v := (-1 : Int32)) (by decide) ?_
                    refine OwnK.retI_ X0 hx hret hlk (hb hby own_d1_181) (by decide) (by decide) ?_
                    exact ⟨congrArg (fun q => some (Value.int q)) (own_res0 (own_n0 (by omega) (by omega) (by omega))), e0, rfl⟩
                  · refine OwnK.iload X0 hx (hb hby own_d1_173) (pc' := 175) rfl (v := (y1 &&& (255 : Int32))) rfl ?_
                    refine OwnK.iload X0 hx (hb hby own_d1_175) (pc' := 177) rfl (v := (191 : Int32)) rfl ?_
                    refine OwnK.icmp_le X0 hx (hb hby own_d1_177) (by decide) (pcT := 182) (by decide) (pc' := 180) rfl (fun (hc35 : (y1 &&& (255 : Int32)).toInt ≤ 191) => ?_) (fun (hc35 : 191 < (y1 &&& (255 : Int32)).toInt) => ?_)
                    · refine OwnK.sipush X0 hx (hb hby own_d1_182) (pc' := 185) rfl (v := (128 : Int32)) (by decide) ?_
                      refine OwnK.istore X0 hx (hb hby own_d1_185) (pc' := 187) rfl (Ls' := #[.val (.ref p1), .val (.int p2), .val (.int p3), .val (.int (y0 &&& (255 : Int32))), .val (.int (3 : Int32)), .val (.int (128 : Int32)), .val (.int (191 : Int32)), .val (.int (1 : Int32)), .val (.int (y1 &&& (255 : Int32)))]) rfl ?_
                      refine OwnK.sipush X0 hx (hb hby own_d1_187) (pc' := 190) rfl (v := (191 : Int32)) (by decide) ?_
                      refine OwnK.istore X0 hx (hb hby own_d1_190) (pc' := 192) rfl (Ls' := #[.val (.ref p1), .val (.int p2), .val (.int p3), .val (.int (y0 &&& (255 : Int32))), .val (.int (3 : Int32)), .val (.int (128 : Int32)), .val (.int (191 : Int32)), .val (.int (1 : Int32)), .val (.int (y1 &&& (255 : Int32)))]) rfl ?_
                      refine OwnK.iincL X0 hx (hb hby own_d1_192) (pc' := 195) rfl (x := (1 : Int32)) rfl (v := (2 : Int32)) (by decide) (Ls' := #[.val (.ref p1), .val (.int p2), .val (.int p3), .val (.int (y0 &&& (255 : Int32))), .val (.int (3 : Int32)), .val (.int (128 : Int32)), .val (.int (191 : Int32)), .val (.int (2 : Int32)), .val (.int (y1 &&& (255 : Int32)))]) rfl ?_
                      refine OwnK.goto_ X0 hx (hb hby own_d1_195) (by decide) (pc' := 147) (by decide) ?_
                      refine OwnK.iload X0 hx (hb hby own_d1_147) (pc' := 149) rfl (v := (2 : Int32)) rfl ?_
                      refine OwnK.iload X0 hx (hb hby own_d1_149) (pc' := 151) rfl (v := (3 : Int32)) rfl ?_
                      refine OwnK.icmp_gt X0 hx (hb hby own_d1_151) (by decide) (pcT := 198) (by decide) (pc' := 154) rfl (fun (hc151 : 3 < 2) => absurd hc151 (by decide)) (fun hc151 => ?_)
                      refine OwnK.aloadN X0 hx (hb hby own_d1_154) (pc' := 155) rfl (v := (.ref p1)) rfl rfl ?_
                      refine OwnK.iloadN X0 hx (hb hby own_d1_155) (pc' := 156) rfl (v := p2) rfl ?_
                      refine OwnK.iload X0 hx (hb hby own_d1_156) (pc' := 158) rfl (v := (2 : Int32)) rfl ?_
                      refine OwnK.iadd X0 hx (hb hby own_d1_158) (pc' := 159) rfl ?_
                      have hj2 : (p2 + (2 : Int32)).toInt = ((i + 2 : Nat) : Int) := by rw [own_addk (by omega) (by omega) (2 : Int32) (by decide) (by decide), show ((2 : Int32)).toInt = 2 from by decide]; omega
                      refine OwnK.baload X0 hx hZ e0 V0 (by omega) (by show _ < (5 : Int); omega) (v := (.int y2)) (by rw [OwnK.jnat hj2]; exact hv2) (hb hby own_d1_159) (pc' := 160) rfl ?_
                      refine OwnK.sipush X0 hx (hb hby own_d1_160) (pc' := 163) rfl (v := (255 : Int32)) (by decide) ?_
                      refine OwnK.iand X0 hx (hb hby own_d1_163) (pc' := 164) rfl ?_
                      refine OwnK.istore X0 hx (hb hby own_d1_164) (pc' := 166) rfl (Ls' := #[.val (.ref p1), .val (.int p2), .val (.int p3), .val (.int (y0 &&& (255 : Int32))), .val (.int (3 : Int32)), .val (.int (128 : Int32)), .val (.int (191 : Int32)), .val (.int (2 : Int32)), .val (.int (y2 &&& (255 : Int32)))]) rfl ?_
                      refine OwnK.iload X0 hx (hb hby own_d1_166) (pc' := 168) rfl (v := (y2 &&& (255 : Int32))) rfl ?_
                      refine OwnK.iload X0 hx (hb hby own_d1_168) (pc' := 170) rfl (v := (128 : Int32)) rfl ?_
                      refine OwnK.icmp_lt X0 hx (hb hby own_d1_170) (by decide) (pcT := 180) (by decide) (pc' := 173) rfl (fun (hc36 : (y2 &&& (255 : Int32)).toInt < 128) => ?_) (fun (hc36 : 128 ≤ (y2 &&& (255 : Int32)).toInt) => ?_)
                      · refine OwnK.iconst X0 hx (hb hby own_d1_180) (pc' := 181) rfl (v := (-1 : Int32)) (by decide) ?_
                        refine OwnK.retI_ X0 hx hret hlk (hb hby own_d1_181) (by decide) (by decide) ?_
                        exact ⟨congrArg (fun q => some (Value.int q)) (own_res0 (own_n0 (by omega) (by omega) (by omega))), e0, rfl⟩
                      · refine OwnK.iload X0 hx (hb hby own_d1_173) (pc' := 175) rfl (v := (y2 &&& (255 : Int32))) rfl ?_
                        refine OwnK.iload X0 hx (hb hby own_d1_175) (pc' := 177) rfl (v := (191 : Int32)) rfl ?_
                        refine OwnK.icmp_le X0 hx (hb hby own_d1_177) (by decide) (pcT := 182) (by decide) (pc' := 180) rfl (fun (hc37 : (y2 &&& (255 : Int32)).toInt ≤ 191) => ?_) (fun (hc37 : 191 < (y2 &&& (255 : Int32)).toInt) => ?_)
                        · refine OwnK.sipush X0 hx (hb hby own_d1_182) (pc' := 185) rfl (v := (128 : Int32)) (by decide) ?_
                          refine OwnK.istore X0 hx (hb hby own_d1_185) (pc' := 187) rfl (Ls' := #[.val (.ref p1), .val (.int p2), .val (.int p3), .val (.int (y0 &&& (255 : Int32))), .val (.int (3 : Int32)), .val (.int (128 : Int32)), .val (.int (191 : Int32)), .val (.int (2 : Int32)), .val (.int (y2 &&& (255 : Int32)))]) rfl ?_
                          refine OwnK.sipush X0 hx (hb hby own_d1_187) (pc' := 190) rfl (v := (191 : Int32)) (by decide) ?_
                          refine OwnK.istore X0 hx (hb hby own_d1_190) (pc' := 192) rfl (Ls' := #[.val (.ref p1), .val (.int p2), .val (.int p3), .val (.int (y0 &&& (255 : Int32))), .val (.int (3 : Int32)), .val (.int (128 : Int32)), .val (.int (191 : Int32)), .val (.int (2 : Int32)), .val (.int (y2 &&& (255 : Int32)))]) rfl ?_
                          refine OwnK.iincL X0 hx (hb hby own_d1_192) (pc' := 195) rfl (x := (2 : Int32)) rfl (v := (3 : Int32)) (by decide) (Ls' := #[.val (.ref p1), .val (.int p2), .val (.int p3), .val (.int (y0 &&& (255 : Int32))), .val (.int (3 : Int32)), .val (.int (128 : Int32)), .val (.int (191 : Int32)), .val (.int (3 : Int32)), .val (.int (y2 &&& (255 : Int32)))]) rfl ?_
                          refine OwnK.goto_ X0 hx (hb hby own_d1_195) (by decide) (pc' := 147) (by decide) ?_
                          refine OwnK.iload X0 hx (hb hby own_d1_147) (pc' := 149) rfl (v := (3 : Int32)) rfl ?_
                          refine OwnK.iload X0 hx (hb hby own_d1_149) (pc' := 151) rfl (v := (3 : Int32)) rfl ?_
                          refine OwnK.icmp_gt X0 hx (hb hby own_d1_151) (by decide) (pcT := 198) (by decide) (pc' := 154) rfl (fun (hc151 : 3 < 3) => absurd hc151 (by decide)) (fun hc151 => ?_)
                          refine OwnK.aloadN X0 hx (hb hby own_d1_154) (pc' := 155) rfl (v := (.ref p1)) rfl rfl ?_
                          refine OwnK.iloadN X0 hx (hb hby own_d1_155) (pc' := 156) rfl (v := p2) rfl ?_
                          refine OwnK.iload X0 hx (hb hby own_d1_156) (pc' := 158) rfl (v := (3 : Int32)) rfl ?_
                          refine OwnK.iadd X0 hx (hb hby own_d1_158) (pc' := 159) rfl ?_
                          have hj3 : (p2 + (3 : Int32)).toInt = ((i + 3 : Nat) : Int) := by rw [own_addk (by omega) (by omega) (3 : Int32) (by decide) (by decide), show ((3 : Int32)).toInt = 3 from by decide]; omega
                          refine OwnK.baload X0 hx hZ e0 V0 (by omega) (by show _ < (5 : Int); omega) (v := (.int y3)) (by rw [OwnK.jnat hj3]; exact hv3) (hb hby own_d1_159) (pc' := 160) rfl ?_
                          refine OwnK.sipush X0 hx (hb hby own_d1_160) (pc' := 163) rfl (v := (255 : Int32)) (by decide) ?_
                          refine OwnK.iand X0 hx (hb hby own_d1_163) (pc' := 164) rfl ?_
                          refine OwnK.istore X0 hx (hb hby own_d1_164) (pc' := 166) rfl (Ls' := #[.val (.ref p1), .val (.int p2), .val (.int p3), .val (.int (y0 &&& (255 : Int32))), .val (.int (3 : Int32)), .val (.int (128 : Int32)), .val (.int (191 : Int32)), .val (.int (3 : Int32)), .val (.int (y3 &&& (255 : Int32)))]) rfl ?_
                          refine OwnK.iload X0 hx (hb hby own_d1_166) (pc' := 168) rfl (v := (y3 &&& (255 : Int32))) rfl ?_
                          refine OwnK.iload X0 hx (hb hby own_d1_168) (pc' := 170) rfl (v := (128 : Int32)) rfl ?_
                          refine OwnK.icmp_lt X0 hx (hb hby own_d1_170) (by decide) (pcT := 180) (by decide) (pc' := 173) rfl (fun (hc38 : (y3 &&& (255 : Int32)).toInt < 128) => ?_) (fun (hc38 : 128 ≤ (y3 &&& (255 : Int32)).toInt) => ?_)
                          · refine OwnK.iconst X0 hx (hb hby own_d1_180) (pc' := 181) rfl (v := (-1 : Int32)) (by decide) ?_
                            refine OwnK.retI_ X0 hx hret hlk (hb hby own_d1_181) (by decide) (by decide) ?_
                            exact ⟨congrArg (fun q => some (Value.int q)) (own_res0 (own_n0 (by omega) (by omega) (by omega))), e0, rfl⟩
                          · refine OwnK.iload X0 hx (hb hby own_d1_173) (pc' := 175) rfl (v := (y3 &&& (255 : Int32))) rfl ?_
                            refine OwnK.iload X0 hx (hb hby own_d1_175) (pc' := 177) rfl (v := (191 : Int32)) rfl ?_
                            refine OwnK.icmp_le X0 hx (hb hby own_d1_177) (by decide) (pcT := 182) (by decide) (pc' := 180) rfl (fun (hc39 : (y3 &&& (255 : Int32)).toInt ≤ 191) => ?_) (fun (hc39 : 191 < (y3 &&& (255 : Int32)).toInt) => ?_)
                            · refine OwnK.sipush X0 hx (hb hby own_d1_182) (pc' := 185) rfl (v := (128 : Int32)) (by decide) ?_
                              refine OwnK.istore X0 hx (hb hby own_d1_185) (pc' := 187) rfl (Ls' := #[.val (.ref p1), .val (.int p2), .val (.int p3), .val (.int (y0 &&& (255 : Int32))), .val (.int (3 : Int32)), .val (.int (128 : Int32)), .val (.int (191 : Int32)), .val (.int (3 : Int32)), .val (.int (y3 &&& (255 : Int32)))]) rfl ?_
                              refine OwnK.sipush X0 hx (hb hby own_d1_187) (pc' := 190) rfl (v := (191 : Int32)) (by decide) ?_
                              refine OwnK.istore X0 hx (hb hby own_d1_190) (pc' := 192) rfl (Ls' := #[.val (.ref p1), .val (.int p2), .val (.int p3), .val (.int (y0 &&& (255 : Int32))), .val (.int (3 : Int32)), .val (.int (128 : Int32)), .val (.int (191 : Int32)), .val (.int (3 : Int32)), .val (.int (y3 &&& (255 : Int32)))]) rfl ?_
                              refine OwnK.iincL X0 hx (hb hby own_d1_192) (pc' := 195) rfl (x := (3 : Int32)) rfl (v := (4 : Int32)) (by decide) (Ls' := #[.val (.ref p1), .val (.int p2), .val (.int p3), .val (.int (y0 &&& (255 : Int32))), .val (.int (3 : Int32)), .val (.int (128 : Int32)), .val (.int (191 : Int32)), .val (.int (4 : Int32)), .val (.int (y3 &&& (255 : Int32)))]) rfl ?_
                              refine OwnK.goto_ X0 hx (hb hby own_d1_195) (by decide) (pc' := 147) (by decide) ?_
                              refine OwnK.iload X0 hx (hb hby own_d1_147) (pc' := 149) rfl (v := (4 : Int32)) rfl ?_
                              refine OwnK.iload X0 hx (hb hby own_d1_149) (pc' := 151) rfl (v := (3 : Int32)) rfl ?_
                              refine OwnK.icmp_gt X0 hx (hb hby own_d1_151) (by decide) (pcT := 198) (by decide) (pc' := 154) rfl (fun hc151 => ?_) (fun (hc151 : 4 ≤ 3) => absurd hc151 (by decide))
                              refine OwnK.iloadN X0 hx (hb hby own_d1_198) (pc' := 199) rfl (v := p2) rfl ?_
                              refine OwnK.iload X0 hx (hb hby own_d1_199) (pc' := 201) rfl (v := (3 : Int32)) rfl ?_
                              refine OwnK.iadd X0 hx (hb hby own_d1_201) (pc' := 202) rfl ?_
                              refine OwnK.iconst X0 hx (hb hby own_d1_202) (pc' := 203) rfl (v := (1 : Int32)) (by decide) ?_
                              refine OwnK.iadd X0 hx (hb hby own_d1_203) (pc' := 204) rfl ?_
                              refine OwnK.retI_ X0 hx hret hlk (hb hby own_d1_204) (by decide) (by decide) ?_
                              have hr3 := own_addk (p := p2) (by omega) (by omega) (3 : Int32) (by decide) (by decide)
                              have hs3 := own_addk (p := p2 + (3 : Int32)) (by rw [hr3]; show 0 ≤ _ + (3 : Int); omega) (by rw [hr3]; show _ + (3 : Int) ≤ 5; omega) (1 : Int32) (by decide) (by decide)
                              rw [hr3, show ((3 : Int32)).toInt = 3 from by decide, show ((1 : Int32)).toInt = 1 from by decide] at hs3
                              have hn3 := own_n4 (x0 := (y0 &&& (255 : Int32)).toInt) (x1 := (y1 &&& (255 : Int32)).toInt) (x2 := (y2 &&& (255 : Int32)).toInt) (x3 := (y3 &&& (255 : Int32)).toInt) (len := p3.toInt - p2.toInt) (by omega)
                              exact ⟨congrArg (fun q => some (Value.int q)) (own_resk (by omega) (by omega)), e0, rfl⟩
                            · refine OwnK.iconst X0 hx (hb hby own_d1_180) (pc' := 181) rfl (v := (-1 : Int32)) (by decide) ?_
                              refine OwnK.retI_ X0 hx hret hlk (hb hby own_d1_181) (by decide) (by decide) ?_
                              exact ⟨congrArg (fun q => some (Value.int q)) (own_res0 (own_n0 (by omega) (by omega) (by omega))), e0, rfl⟩
                        · refine OwnK.iconst X0 hx (hb hby own_d1_180) (pc' := 181) rfl (v := (-1 : Int32)) (by decide) ?_
                          refine OwnK.retI_ X0 hx hret hlk (hb hby own_d1_181) (by decide) (by decide) ?_
                          exact ⟨congrArg (fun q => some (Value.int q)) (own_res0 (own_n0 (by omega) (by omega) (by omega))), e0, rfl⟩
                    · refine OwnK.iconst X0 hx (hb hby own_d1_180) (pc' := 181) rfl (v := (-1 : Int32)) (by decide) ?_
                      refine OwnK.retI_ X0 hx hret hlk (hb hby own_d1_181) (by decide) (by decide) ?_
                      exact ⟨congrArg (fun q => some (Value.int q)) (own_res0 (own_n0 (by omega) (by omega) (by omega))), e0, rfl⟩
                · refine OwnK.iconst X0 hx (hb hby own_d1_142) (pc' := 143) rfl (v := (-1 : Int32)) (by decide) ?_
                  refine OwnK.retI_ X0 hx hret hlk (hb hby own_d1_143) (by decide) (by decide) ?_
                  exact ⟨congrArg (fun q => some (Value.int q)) (own_res0 (own_n0 (by omega) (by omega) (by omega))), e0, rfl⟩
              · refine OwnK.sipush X0 hx (hb hby own_d1_124) (pc' := 127) rfl (v := (143 : Int32)) (by decide) ?_
                refine OwnK.istore X0 hx (hb hby own_d1_127) (pc' := 129) rfl (Ls' := #[.val (.ref p1), .val (.int p2), .val (.int p3), .val (.int (y0 &&& (255 : Int32))), .val (.int (3 : Int32)), .val (.int (128 : Int32)), .val (.int (143 : Int32)), .unset, .unset]) rfl ?_
                refine OwnK.goto_ X0 hx (hb hby own_d1_129) (by decide) (pc' := 134) (by decide) ?_
                refine OwnK.iloadN X0 hx (hb hby own_d1_134) (pc' := 135) rfl (v := p3) rfl ?_
                refine OwnK.iloadN X0 hx (hb hby own_d1_135) (pc' := 136) rfl (v := p2) rfl ?_
                refine OwnK.isub X0 hx (hb hby own_d1_136) (pc' := 137) rfl ?_
                refine OwnK.iload X0 hx (hb hby own_d1_137) (pc' := 139) rfl (v := (3 : Int32)) rfl ?_
                refine OwnK.icmp_gt X0 hx (hb hby own_d1_139) (by decide) (pcT := 144) (by decide) (pc' := 142) rfl (fun (hc40 : 3 < (p3 - p2).toInt) => ?_) (fun (hc40 : (p3 - p2).toInt ≤ 3) => ?_)
                · refine OwnK.iconst X0 hx (hb hby own_d1_144) (pc' := 145) rfl (v := (1 : Int32)) (by decide) ?_
                  refine OwnK.istore X0 hx (hb hby own_d1_145) (pc' := 147) rfl (Ls' := #[.val (.ref p1), .val (.int p2), .val (.int p3), .val (.int (y0 &&& (255 : Int32))), .val (.int (3 : Int32)), .val (.int (128 : Int32)), .val (.int (143 : Int32)), .val (.int (1 : Int32)), .unset]) rfl ?_
                  refine OwnK.iload X0 hx (hb hby own_d1_147) (pc' := 149) rfl (v := (1 : Int32)) rfl ?_
                  refine OwnK.iload X0 hx (hb hby own_d1_149) (pc' := 151) rfl (v := (3 : Int32)) rfl ?_
                  refine OwnK.icmp_gt X0 hx (hb hby own_d1_151) (by decide) (pcT := 198) (by decide) (pc' := 154) rfl (fun (hc151 : 3 < 1) => absurd hc151 (by decide)) (fun hc151 => ?_)
                  refine OwnK.aloadN X0 hx (hb hby own_d1_154) (pc' := 155) rfl (v := (.ref p1)) rfl rfl ?_
                  refine OwnK.iloadN X0 hx (hb hby own_d1_155) (pc' := 156) rfl (v := p2) rfl ?_
                  refine OwnK.iload X0 hx (hb hby own_d1_156) (pc' := 158) rfl (v := (1 : Int32)) rfl ?_
                  refine OwnK.iadd X0 hx (hb hby own_d1_158) (pc' := 159) rfl ?_
                  have hj1 : (p2 + (1 : Int32)).toInt = ((i + 1 : Nat) : Int) := by rw [own_addk (by omega) (by omega) (1 : Int32) (by decide) (by decide), show ((1 : Int32)).toInt = 1 from by decide]; omega
                  refine OwnK.baload X0 hx hZ e0 V0 (by omega) (by show _ < (5 : Int); omega) (v := (.int y1)) (by rw [OwnK.jnat hj1]; exact hv1) (hb hby own_d1_159) (pc' := 160) rfl ?_
                  refine OwnK.sipush X0 hx (hb hby own_d1_160) (pc' := 163) rfl (v := (255 : Int32)) (by decide) ?_
                  refine OwnK.iand X0 hx (hb hby own_d1_163) (pc' := 164) rfl ?_
                  refine OwnK.istore X0 hx (hb hby own_d1_164) (pc' := 166) rfl (Ls' := #[.val (.ref p1), .val (.int p2), .val (.int p3), .val (.int (y0 &&& (255 : Int32))), .val (.int (3 : Int32)), .val (.int (128 : Int32)), .val (.int (143 : Int32)), .val (.int (1 : Int32)), .val (.int (y1 &&& (255 : Int32)))]) rfl ?_
                  refine OwnK.iload X0 hx (hb hby own_d1_166) (pc' := 168) rfl (v := (y1 &&& (255 : Int32))) rfl ?_
                  refine OwnK.iload X0 hx (hb hby own_d1_168) (pc' := 170) rfl (v := (128 : Int32)) rfl ?_
                  refine OwnK.icmp_lt X0 hx (hb hby own_d1_170) (by decide) (pcT := 180) (by decide) (pc' := 173) rfl (fun (hc41 : (y1 &&& (255 : Int32)).toInt < 128) => ?_) (fun (hc41 : 128 ≤ (y1 &&& (255 : Int32)).toInt) => ?_)
                  · refine OwnK.iconst X0 hx (hb hby own_d1_180) (pc' := 181) rfl (v := (-1 : Int32)) (by decide) ?_
                    refine OwnK.retI_ X0 hx hret hlk (hb hby own_d1_181) (by decide) (by decide) ?_
                    exact ⟨congrArg (fun q => some (Value.int q)) (own_res0 (own_n0 (by omega) (by omega) (by omega))), e0, rfl⟩
                  · refine OwnK.iload X0 hx (hb hby own_d1_173) (pc' := 175) rfl (v := (y1 &&& (255 : Int32))) rfl ?_
                    refine OwnK.iload X0 hx (hb hby own_d1_175) (pc' := 177) rfl (v := (143 : Int32)) rfl ?_
                    refine OwnK.icmp_le X0 hx (hb hby own_d1_177) (by decide) (pcT := 182) (by decide) (pc' := 180) rfl (fun (hc42 : (y1 &&& (255 : Int32)).toInt ≤ 143) => ?_) (fun (hc42 : 143 < (y1 &&& (255 : Int32)).toInt) => ?_)
                    · refine OwnK.sipush X0 hx (hb hby own_d1_182) (pc' := 185) rfl (v := (128 : Int32)) (by decide) ?_
                      refine OwnK.istore X0 hx (hb hby own_d1_185) (pc' := 187) rfl (Ls' := #[.val (.ref p1), .val (.int p2), .val (.int p3), .val (.int (y0 &&& (255 : Int32))), .val (.int (3 : Int32)), .val (.int (128 : Int32)), .val (.int (143 : Int32)), .val (.int (1 : Int32)), .val (.int (y1 &&& (255 : Int32)))]) rfl ?_
                      refine OwnK.sipush X0 hx (hb hby own_d1_187) (pc' := 190) rfl (v := (191 : Int32)) (by decide) ?_
                      refine OwnK.istore X0 hx (hb hby own_d1_190) (pc' := 192) rfl (Ls' := #[.val (.ref p1), .val (.int p2), .val (.int p3), .val (.int (y0 &&& (255 : Int32))), .val (.int (3 : Int32)), .val (.int (128 : Int32)), .val (.int (191 : Int32)), .val (.int (1 : Int32)), .val (.int (y1 &&& (255 : Int32)))]) rfl ?_
                      refine OwnK.iincL X0 hx (hb hby own_d1_192) (pc' := 195) rfl (x := (1 : Int32)) rfl (v := (2 : Int32)) (by decide) (Ls' := #[.val (.ref p1), .val (.int p2), .val (.int p3), .val (.int (y0 &&& (255 : Int32))), .val (.int (3 : Int32)), .val (.int (128 : Int32)), .val (.int (191 : Int32)), .val (.int (2 : Int32)), .val (.int (y1 &&& (255 : Int32)))]) rfl ?_
                      refine OwnK.goto_ X0 hx (hb hby own_d1_195) (by decide) (pc' := 147) (by decide) ?_
                      refine OwnK.iload X0 hx (hb hby own_d1_147) (pc' := 149) rfl (v := (2 : Int32)) rfl ?_
                      refine OwnK.iload X0 hx (hb hby own_d1_149) (pc' := 151) rfl (v := (3 : Int32)) rfl ?_
                      refine OwnK.icmp_gt X0 hx (hb hby own_d1_151) (by decide) (pcT := 198) (by decide) (pc' := 154) rfl (fun (hc151 : 3 < 2) => absurd hc151 (by decide)) (fun hc151 => ?_)
                      refine OwnK.aloadN X0 hx (hb hby own_d1_154) (pc' := 155) rfl (v := (.ref p1)) rfl rfl ?_
                      refine OwnK.iloadN X0 hx (hb hby own_d1_155) (pc' := 156) rfl (v := p2) rfl ?_
                      refine OwnK.iload X0 hx (hb hby own_d1_156) (pc' := 158) rfl (v := (2 : Int32)) rfl ?_
                      refine OwnK.iadd X0 hx (hb hby own_d1_158) (pc' := 159) rfl ?_
                      have hj2 : (p2 + (2 : Int32)).toInt = ((i + 2 : Nat) : Int) := by rw [own_addk (by omega) (by omega) (2 : Int32) (by decide) (by decide), show ((2 : Int32)).toInt = 2 from by decide]; omega
                      refine OwnK.baload X0 hx hZ e0 V0 (by omega) (by show _ < (5 : Int); omega) (v := (.int y2)) (by rw [OwnK.jnat hj2]; exact hv2) (hb hby own_d1_159) (pc' := 160) rfl ?_
                      refine OwnK.sipush X0 hx (hb hby own_d1_160) (pc' := 163) rfl (v := (255 : Int32)) (by decide) ?_
                      refine OwnK.iand X0 hx (hb hby own_d1_163) (pc' := 164) rfl ?_
                      refine OwnK.istore X0 hx (hb hby own_d1_164) (pc' := 166) rfl (Ls' := #[.val (.ref p1), .val (.int p2), .val (.int p3), .val (.int (y0 &&& (255 : Int32))), .val (.int (3 : Int32)), .val (.int (128 : Int32)), .val (.int (191 : Int32)), .val (.int (2 : Int32)), .val (.int (y2 &&& (255 : Int32)))]) rfl ?_
                      refine OwnK.iload X0 hx (hb hby own_d1_166) (pc' := 168) rfl (v := (y2 &&& (255 : Int32))) rfl ?_
                      refine OwnK.iload X0 hx (hb hby own_d1_168) (pc' := 170) rfl (v := (128 : Int32)) rfl ?_
                      refine OwnK.icmp_lt X0 hx (hb hby own_d1_170) (by decide) (pcT := 180) (by decide) (pc' := 173) rfl (fun (hc43 : (y2 &&& (255 : Int32)).toInt < 128) => ?_) (fun (hc43 : 128 ≤ (y2 &&& (255 : Int32)).toInt) => ?_)
                      · refine OwnK.iconst X0 hx (hb hby own_d1_180) (pc' := 181) rfl (v := (-1 : Int32)) (by decide) ?_
                        refine OwnK.retI_ X0 hx hret hlk (hb hby own_d1_181) (by decide) (by decide) ?_
                        exact ⟨congrArg (fun q => some (Value.int q)) (own_res0 (own_n0 (by omega) (by omega) (by omega))), e0, rfl⟩
                      · refine OwnK.iload X0 hx (hb hby own_d1_173) (pc' := 175) rfl (v := (y2 &&& (255 : Int32))) rfl ?_
                        refine OwnK.iload X0 hx (hb hby own_d1_175) (pc' := 177) rfl (v := (191 : Int32)) rfl ?_
                        refine OwnK.icmp_le X0 hx (hb hby own_d1_177) (by decide) (pcT := 182) (by decide) (pc' := 180) rfl (fun (hc44 : (y2 &&& (255 : Int32)).toInt ≤ 191) => ?_) (fun (hc44 : 191 < (y2 &&& (255 : Int32)).toInt) => ?_)
                        · refine OwnK.sipush X0 hx (hb hby own_d1_182) (pc' := 185) rfl (v := (128 : Int32)) (by decide) ?_
                          refine OwnK.istore X0 hx (hb hby own_d1_185) (pc' := 187) rfl (Ls' := #[.val (.ref p1), .val (.int p2), .val (.int p3), .val (.int (y0 &&& (255 : Int32))), .val (.int (3 : Int32)), .val (.int (128 : Int32)), .val (.int (191 : Int32)), .val (.int (2 : Int32)), .val (.int (y2 &&& (255 : Int32)))]) rfl ?_
                          refine OwnK.sipush X0 hx (hb hby own_d1_187) (pc' := 190) rfl (v := (191 : Int32)) (by decide) ?_
                          refine OwnK.istore X0 hx (hb hby own_d1_190) (pc' := 192) rfl (Ls' := #[.val (.ref p1), .val (.int p2), .val (.int p3), .val (.int (y0 &&& (255 : Int32))), .val (.int (3 : Int32)), .val (.int (128 : Int32)), .val (.int (191 : Int32)), .val (.int (2 : Int32)), .val (.int (y2 &&& (255 : Int32)))]) rfl ?_
                          refine OwnK.iincL X0 hx (hb hby own_d1_192) (pc' := 195) rfl (x := (2 : Int32)) rfl (v := (3 : Int32)) (by decide) (Ls' := #[.val (.ref p1), .val (.int p2), .val (.int p3), .val (.int (y0 &&& (255 : Int32))), .val (.int (3 : Int32)), .val (.int (128 : Int32)), .val (.int (191 : Int32)), .val (.int (3 : Int32)), .val (.int (y2 &&& (255 : Int32)))]) rfl ?_
                          refine OwnK.goto_ X0 hx (hb hby own_d1_195) (by decide) (pc' := 147) (by decide) ?_
                          refine OwnK.iload X0 hx (hb hby own_d1_147) (pc' := 149) rfl (v := (3 : Int32)) rfl ?_
                          refine OwnK.iload X0 hx (hb hby own_d1_149) (pc' := 151) rfl (v := (3 : Int32)) rfl ?_
                          refine OwnK.icmp_gt X0 hx (hb hby own_d1_151) (by decide) (pcT := 198) (by decide) (pc' := 154) rfl (fun (hc151 : 3 < 3) => absurd hc151 (by decide)) (fun hc151 => ?_)
                          refine OwnK.aloadN X0 hx (hb hby own_d1_154) (pc' := 155) rfl (v := (.ref p1)) rfl rfl ?_
                          refine OwnK.iloadN X0 hx (hb hby own_d1_155) (pc' := 156) rfl (v := p2) rfl ?_
                          refine OwnK.iload X0 hx (hb hby own_d1_156) (pc' := 158) rfl (v := (3 : Int32)) rfl ?_
                          refine OwnK.iadd X0 hx (hb hby own_d1_158) (pc' := 159) rfl ?_
                          have hj3 : (p2 + (3 : Int32)).toInt = ((i + 3 : Nat) : Int) := by rw [own_addk (by omega) (by omega) (3 : Int32) (by decide) (by decide), show ((3 : Int32)).toInt = 3 from by decide]; omega
                          refine OwnK.baload X0 hx hZ e0 V0 (by omega) (by show _ < (5 : Int); omega) (v := (.int y3)) (by rw [OwnK.jnat hj3]; exact hv3) (hb hby own_d1_159) (pc' := 160) rfl ?_
                          refine OwnK.sipush X0 hx (hb hby own_d1_160) (pc' := 163) rfl (v := (255 : Int32)) (by decide) ?_
                          refine OwnK.iand X0 hx (hb hby own_d1_163) (pc' := 164) rfl ?_
                          refine OwnK.istore X0 hx (hb hby own_d1_164) (pc' := 166) rfl (Ls' := #[.val (.ref p1), .val (.int p2), .val (.int p3), .val (.int (y0 &&& (255 : Int32))), .val (.int (3 : Int32)), .val (.int (128 : Int32)), .val (.int (191 : Int32)), .val (.int (3 : Int32)), .val (.int (y3 &&& (255 : Int32)))]) rfl ?_
                          refine OwnK.iload X0 hx (hb hby own_d1_166) (pc' := 168) rfl (v := (y3 &&& (255 : Int32))) rfl ?_
                          refine OwnK.iload X0 hx (hb hby own_d1_168) (pc' := 170) rfl (v := (128 : Int32)) rfl ?_
                          refine OwnK.icmp_lt X0 hx (hb hby own_d1_170) (by decide) (pcT := 180) (by decide) (pc' := 173) rfl (fun (hc45 : (y3 &&& (255 : Int32)).toInt < 128) => ?_) (fun (hc45 : 128 ≤ (y3 &&& (255 : Int32)).toInt) => ?_)
                          · refine OwnK.iconst X0 hx (hb hby own_d1_180) (pc' := 181) rfl (v := (-1 : Int32)) (by decide) ?_
                            refine OwnK.retI_ X0 hx hret hlk (hb hby own_d1_181) (by decide) (by decide) ?_
                            exact ⟨congrArg (fun q => some (Value.int q)) (own_res0 (own_n0 (by omega) (by omega) (by omega))), e0, rfl⟩
                          · refine OwnK.iload X0 hx (hb hby own_d1_173) (pc' := 175) rfl (v := (y3 &&& (255 : Int32))) rfl ?_
                            refine OwnK.iload X0 hx (hb hby own_d1_175) (pc' := 177) rfl (v := (191 : Int32)) rfl ?_
                            refine OwnK.icmp_le X0 hx (hb hby own_d1_177) (by decide) (pcT := 182) (by decide) (pc' := 180) rfl (fun (hc46 : (y3 &&& (255 : Int32)).toInt ≤ 191) => ?_) (fun (hc46 : 191 < (y3 &&& (255 : Int32)).toInt) => ?_)
                            · refine OwnK.sipush X0 hx (hb hby own_d1_182) (pc' := 185) rfl (v := (128 : Int32)) (by decide) ?_
                              refine OwnK.istore X0 hx (hb hby own_d1_185) (pc' := 187) rfl (Ls' := #[.val (.ref p1), .val (.int p2), .val (.int p3), .val (.int (y0 &&& (255 : Int32))), .val (.int (3 : Int32)), .val (.int (128 : Int32)), .val (.int (191 : Int32)), .val (.int (3 : Int32)), .val (.int (y3 &&& (255 : Int32)))]) rfl ?_
                              refine OwnK.sipush X0 hx (hb hby own_d1_187) (pc' := 190) rfl (v := (191 : Int32)) (by decide) ?_
                              refine OwnK.istore X0 hx (hb hby own_d1_190) (pc' := 192) rfl (Ls' := #[.val (.ref p1), .val (.int p2), .val (.int p3), .val (.int (y0 &&& (255 : Int32))), .val (.int (3 : Int32)), .val (.int (128 : Int32)), .val (.int (191 : Int32)), .val (.int (3 : Int32)), .val (.int (y3 &&& (255 : Int32)))]) rfl ?_
                              refine OwnK.iincL X0 hx (hb hby own_d1_192) (pc' := 195) rfl (x := (3 : Int32)) rfl (v := (4 : Int32)) (by decide) (Ls' := #[.val (.ref p1), .val (.int p2), .val (.int p3), .val (.int (y0 &&& (255 : Int32))), .val (.int (3 : Int32)), .val (.int (128 : Int32)), .val (.int (191 : Int32)), .val (.int (4 : Int32)), .val (.int (y3 &&& (255 : Int32)))]) rfl ?_
                              refine OwnK.goto_ X0 hx (hb hby own_d1_195) (by decide) (pc' := 147) (by decide) ?_
                              refine OwnK.iload X0 hx (hb hby own_d1_147) (pc' := 149) rfl (v := (4 : Int32)) rfl ?_
                              refine OwnK.iload X0 hx (hb hby own_d1_149) (pc' := 151) rfl (v := (3 : Int32)) rfl ?_
                              refine OwnK.icmp_gt X0 hx (hb hby own_d1_151) (by decide) (pcT := 198) (by decide) (pc' := 154) rfl (fun hc151 => ?_) (fun (hc151 : 4 ≤ 3) => absurd hc151 (by decide))
                              refine OwnK.iloadN X0 hx (hb hby own_d1_198) (pc' := 199) rfl (v := p2) rfl ?_
                              refine OwnK.iload X0 hx (hb hby own_d1_199) (pc' := 201) rfl (v := (3 : Int32)) rfl ?_
                              refine OwnK.iadd X0 hx (hb hby own_d1_201) (pc' := 202) rfl ?_
                              refine OwnK.iconst X0 hx (hb hby own_d1_202) (pc' := 203) rfl (v := (1 : Int32)) (by decide) ?_
                              refine OwnK.iadd X0 hx (hb hby own_d1_203) (pc' := 204) rfl ?_
                              refine OwnK.retI_ X0 hx hret hlk (hb hby own_d1_204) (by decide) (by decide) ?_
                              have hr3 := own_addk (p := p2) (by omega) (by omega) (3 : Int32) (by decide) (by decide)
                              have hs3 := own_addk (p := p2 + (3 : Int32)) (by rw [hr3]; show 0 ≤ _ + (3 : Int); omega) (by rw [hr3]; show _ + (3 : Int) ≤ 5; omega) (1 : Int32) (by decide) (by decide)
                              rw [hr3, show ((3 : Int32)).toInt = 3 from by decide, show ((1 : Int32)).toInt = 1 from by decide] at hs3
                              have hn3 := own_n4 (x0 := (y0 &&& (255 : Int32)).toInt) (x1 := (y1 &&& (255 : Int32)).toInt) (x2 := (y2 &&& (255 : Int32)).toInt) (x3 := (y3 &&& (255 : Int32)).toInt) (len := p3.toInt - p2.toInt) (by omega)
                              exact ⟨congrArg (fun q => some (Value.int q)) (own_resk (by omega) (by omega)), e0, rfl⟩
                            · refine OwnK.iconst X0 hx (hb hby own_d1_180) (pc' := 181) rfl (v := (-1 : Int32)) (by decide) ?_
                              refine OwnK.retI_ X0 hx hret hlk (hb hby own_d1_181) (by decide) (by decide) ?_
                              exact ⟨congrArg (fun q => some (Value.int q)) (own_res0 (own_n0 (by omega) (by omega) (by omega))), e0, rfl⟩
                        · refine OwnK.iconst X0 hx (hb hby own_d1_180) (pc' := 181) rfl (v := (-1 : Int32)) (by decide) ?_
                          refine OwnK.retI_ X0 hx hret hlk (hb hby own_d1_181) (by decide) (by decide) ?_
                          exact ⟨congrArg (fun q => some (Value.int q)) (own_res0 (own_n0 (by omega) (by omega) (by omega))), e0, rfl⟩
                    · refine OwnK.iconst X0 hx (hb hby own_d1_180) (pc' := 181) rfl (v := (-1 : Int32)) (by decide) ?_
                      refine OwnK.retI_ X0 hx hret hlk (hb hby own_d1_181) (by decide) (by decide) ?_
                      exact ⟨congrArg (fun q => some (Value.int q)) (own_res0 (own_n0 (by omega) (by omega) (by omega))), e0, rfl⟩
                · refine OwnK.iconst X0 hx (hb hby own_d1_142) (pc' := 143) rfl (v := (-1 : Int32)) (by decide) ?_
                  refine OwnK.retI_ X0 hx hret hlk (hb hby own_d1_143) (by decide) (by decide) ?_
                  exact ⟨congrArg (fun q => some (Value.int q)) (own_res0 (own_n0 (by omega) (by omega) (by omega))), e0, rfl⟩
            · refine OwnK.sipush X0 hx (hb hby own_d1_109) (pc' := 112) rfl (v := (144 : Int32)) (by decide) ?_
              refine OwnK.istore X0 hx (hb hby own_d1_112) (pc' := 114) rfl (Ls' := #[.val (.ref p1), .val (.int p2), .val (.int p3), .val (.int (y0 &&& (255 : Int32))), .val (.int (3 : Int32)), .val (.int (144 : Int32)), .val (.int (191 : Int32)), .unset, .unset]) rfl ?_
              refine OwnK.goto_ X0 hx (hb hby own_d1_114) (by decide) (pc' := 134) (by decide) ?_
              refine OwnK.iloadN X0 hx (hb hby own_d1_134) (pc' := 135) rfl (v := p3) rfl ?_
              refine OwnK.iloadN X0 hx (hb hby own_d1_135) (pc' := 136) rfl (v := p2) rfl ?_
              refine OwnK.isub X0 hx (hb hby own_d1_136) (pc' := 137) rfl ?_
              refine OwnK.iload X0 hx (hb hby own_d1_137) (pc' := 139) rfl (v := (3 : Int32)) rfl ?_
              refine OwnK.icmp_gt X0 hx (hb hby own_d1_139) (by decide) (pcT := 144) (by decide) (pc' := 142) rfl (fun (hc47 : 3 < (p3 - p2).toInt) => ?_) (fun (hc47 : (p3 - p2).toInt ≤ 3) => ?_)
              · refine OwnK.iconst X0 hx (hb hby own_d1_144) (pc' := 145) rfl (v := (1 : Int32)) (by decide) ?_
                refine OwnK.istore X0 hx (hb hby own_d1_145) (pc' := 147) rfl (Ls' := #[.val (.ref p1), .val (.int p2), .val (.int p3), .val (.int (y0 &&& (255 : Int32))), .val (.int (3 : Int32)), .val (.int (144 : Int32)), .val (.int (191 : Int32)), .val (.int (1 : Int32)), .unset]) rfl ?_
                refine OwnK.iload X0 hx (hb hby own_d1_147) (pc' := 149) rfl (v := (1 : Int32)) rfl ?_
                refine OwnK.iload X0 hx (hb hby own_d1_149) (pc' := 151) rfl (v := (3 : Int32)) rfl ?_
                refine OwnK.icmp_gt X0 hx (hb hby own_d1_151) (by decide) (pcT := 198) (by decide) (pc' := 154) rfl (fun (hc151 : 3 < 1) => absurd hc151 (by decide)) (fun hc151 => ?_)
                refine OwnK.aloadN X0 hx (hb hby own_d1_154) (pc' := 155) rfl (v := (.ref p1)) rfl rfl ?_
                refine OwnK.iloadN X0 hx (hb hby own_d1_155) (pc' := 156) rfl (v := p2) rfl ?_
                refine OwnK.iload X0 hx (hb hby own_d1_156) (pc' := 158) rfl (v := (1 : Int32)) rfl ?_
                refine OwnK.iadd X0 hx (hb hby own_d1_158) (pc' := 159) rfl ?_
                have hj1 : (p2 + (1 : Int32)).toInt = ((i + 1 : Nat) : Int) := by rw [own_addk (by omega) (by omega) (1 : Int32) (by decide) (by decide), show ((1 : Int32)).toInt = 1 from by decide]; omega
                refine OwnK.baload X0 hx hZ e0 V0 (by omega) (by show _ < (5 : Int); omega) (v := (.int y1)) (by rw [OwnK.jnat hj1]; exact hv1) (hb hby own_d1_159) (pc' := 160) rfl ?_
                refine OwnK.sipush X0 hx (hb hby own_d1_160) (pc' := 163) rfl (v := (255 : Int32)) (by decide) ?_
                refine OwnK.iand X0 hx (hb hby own_d1_163) (pc' := 164) rfl ?_
                refine OwnK.istore X0 hx (hb hby own_d1_164) (pc' := 166) rfl (Ls' := #[.val (.ref p1), .val (.int p2), .val (.int p3), .val (.int (y0 &&& (255 : Int32))), .val (.int (3 : Int32)), .val (.int (144 : Int32)), .val (.int (191 : Int32)), .val (.int (1 : Int32)), .val (.int (y1 &&& (255 : Int32)))]) rfl ?_
                refine OwnK.iload X0 hx (hb hby own_d1_166) (pc' := 168) rfl (v := (y1 &&& (255 : Int32))) rfl ?_
                refine OwnK.iload X0 hx (hb hby own_d1_168) (pc' := 170) rfl (v := (144 : Int32)) rfl ?_
                refine OwnK.icmp_lt X0 hx (hb hby own_d1_170) (by decide) (pcT := 180) (by decide) (pc' := 173) rfl (fun (hc48 : (y1 &&& (255 : Int32)).toInt < 144) => ?_) (fun (hc48 : 144 ≤ (y1 &&& (255 : Int32)).toInt) => ?_)
                · refine OwnK.iconst X0 hx (hb hby own_d1_180) (pc' := 181) rfl (v := (-1 : Int32)) (by decide) ?_
                  refine OwnK.retI_ X0 hx hret hlk (hb hby own_d1_181) (by decide) (by decide) ?_
                  exact ⟨congrArg (fun q => some (Value.int q)) (own_res0 (own_n0 (by omega) (by omega) (by omega))), e0, rfl⟩
                · refine OwnK.iload X0 hx (hb hby own_d1_173) (pc' := 175) rfl (v := (y1 &&& (255 : Int32))) rfl ?_
                  refine OwnK.iload X0 hx (hb hby own_d1_175) (pc' := 177) rfl (v := (191 : Int32)) rfl ?_
                  refine OwnK.icmp_le X0 hx (hb hby own_d1_177) (by decide) (pcT := 182) (by decide) (pc' := 180) rfl (fun (hc49 : (y1 &&& (255 : Int32)).toInt ≤ 191) => ?_) (fun (hc49 : 191 < (y1 &&& (255 : Int32)).toInt) => ?_)
                  · refine OwnK.sipush X0 hx (hb hby own_d1_182) (pc' := 185) rfl (v := (128 : Int32)) (by decide) ?_
                    refine OwnK.istore X0 hx (hb hby own_d1_185) (pc' := 187) rfl (Ls' := #[.val (.ref p1), .val (.int p2), .val (.int p3), .val (.int (y0 &&& (255 : Int32))), .val (.int (3 : Int32)), .val (.int (128 : Int32)), .val (.int (191 : Int32)), .val (.int (1 : Int32)), .val (.int (y1 &&& (255 : Int32)))]) rfl ?_
                    refine OwnK.sipush X0 hx (hb hby own_d1_187) (pc' := 190) rfl (v := (191 : Int32)) (by decide) ?_
                    refine OwnK.istore X0 hx (hb hby own_d1_190) (pc' := 192) rfl (Ls' := #[.val (.ref p1), .val (.int p2), .val (.int p3), .val (.int (y0 &&& (255 : Int32))), .val (.int (3 : Int32)), .val (.int (128 : Int32)), .val (.int (191 : Int32)), .val (.int (1 : Int32)), .val (.int (y1 &&& (255 : Int32)))]) rfl ?_
                    refine OwnK.iincL X0 hx (hb hby own_d1_192) (pc' := 195) rfl (x := (1 : Int32)) rfl (v := (2 : Int32)) (by decide) (Ls' := #[.val (.ref p1), .val (.int p2), .val (.int p3), .val (.int (y0 &&& (255 : Int32))), .val (.int (3 : Int32)), .val (.int (128 : Int32)), .val (.int (191 : Int32)), .val (.int (2 : Int32)), .val (.int (y1 &&& (255 : Int32)))]) rfl ?_
                    refine OwnK.goto_ X0 hx (hb hby own_d1_195) (by decide) (pc' := 147) (by decide) ?_
                    refine OwnK.iload X0 hx (hb hby own_d1_147) (pc' := 149) rfl (v := (2 : Int32)) rfl ?_
                    refine OwnK.iload X0 hx (hb hby own_d1_149) (pc' := 151) rfl (v := (3 : Int32)) rfl ?_
                    refine OwnK.icmp_gt X0 hx (hb hby own_d1_151) (by decide) (pcT := 198) (by decide) (pc' := 154) rfl (fun (hc151 : 3 < 2) => absurd hc151 (by decide)) (fun hc151 => ?_)
                    refine OwnK.aloadN X0 hx (hb hby own_d1_154) (pc' := 155) rfl (v := (.ref p1)) rfl rfl ?_
                    refine OwnK.iloadN X0 hx (hb hby own_d1_155) (pc' := 156) rfl (v := p2) rfl ?_
                    refine OwnK.iload X0 hx (hb hby own_d1_156) (pc' := 158) rfl (v := (2 : Int32)) rfl ?_
                    refine OwnK.iadd X0 hx (hb hby own_d1_158) (pc' := 159) rfl ?_
                    have hj2 : (p2 + (2 : Int32)).toInt = ((i + 2 : Nat) : Int) := by rw [own_addk (by omega) (by omega) (2 : Int32) (by decide) (by decide), show ((2 : Int32)).toInt = 2 from by decide]; omega
                    refine OwnK.baload X0 hx hZ e0 V0 (by omega) (by show _ < (5 : Int); omega) (v := (.int y2)) (by rw [OwnK.jnat hj2]; exact hv2) (hb hby own_d1_159) (pc' := 160) rfl ?_
                    refine OwnK.sipush X0 hx (hb hby own_d1_160) (pc' := 163) rfl (v := (255 : Int32)) (by decide) ?_
                    refine OwnK.iand X0 hx (hb hby own_d1_163) (pc' := 164) rfl ?_
                    refine OwnK.istore X0 hx (hb hby own_d1_164) (pc' := 166) rfl (Ls' := #[.val (.ref p1), .val (.int p2), .val (.int p3), .val (.int (y0 &&& (255 : Int32))), .val (.int (3 : Int32)), .val (.int (128 : Int32)), .val (.int (191 : Int32)), .val (.int (2 : Int32)), .val (.int (y2 &&& (255 : Int32)))]) rfl ?_
                    refine OwnK.iload X0 hx (hb hby own_d1_166) (pc' := 168) rfl (v := (y2 &&& (255 : Int32))) rfl ?_
                    refine OwnK.iload X0 hx (hb hby own_d1_168) (pc' := 170) rfl (v := (128 : Int32)) rfl ?_
                    refine OwnK.icmp_lt X0 hx (hb hby own_d1_170) (by decide) (pcT := 180) (by decide) (pc' := 173) rfl (fun (hc50 : (y2 &&& (255 : Int32)).toInt < 128) => ?_) (fun (hc50 : 128 ≤ (y2 &&& (255 : Int32)).toInt) => ?_)
                    · refine OwnK.iconst X0 hx (hb hby own_d1_180) (pc' := 181) rfl (v := (-1 : Int32)) (by decide) ?_
                      refine OwnK.retI_ X0 hx hret hlk (hb hby own_d1_181) (by decide) (by decide) ?_
                      exact ⟨congrArg (fun q => some (Value.int q)) (own_res0 (own_n0 (by omega) (by omega) (by omega))), e0, rfl⟩
                    · refine OwnK.iload X0 hx (hb hby own_d1_173) (pc' := 175) rfl (v := (y2 &&& (255 : Int32))) rfl ?_
                      refine OwnK.iload X0 hx (hb hby own_d1_175) (pc' := 177) rfl (v := (191 : Int32)) rfl ?_
                      refine OwnK.icmp_le X0 hx (hb hby own_d1_177) (by decide) (pcT := 182) (by decide) (pc' := 180) rfl (fun (hc51 : (y2 &&& (255 : Int32)).toInt ≤ 191) => ?_) (fun (hc51 : 191 < (y2 &&& (255 : Int32)).toInt) => ?_)
                      · refine OwnK.sipush X0 hx (hb hby own_d1_182) (pc' := 185) rfl (v := (128 : Int32)) (by decide) ?_
                        refine OwnK.istore X0 hx (hb hby own_d1_185) (pc' := 187) rfl (Ls' := #[.val (.ref p1), .val (.int p2), .val (.int p3), .val (.int (y0 &&& (255 : Int32))), .val (.int (3 : Int32)), .val (.int (128 : Int32)), .val (.int (191 : Int32)), .val (.int (2 : Int32)), .val (.int (y2 &&& (255 : Int32)))]) rfl ?_
                        refine OwnK.sipush X0 hx (hb hby own_d1_187) (pc' := 190) rfl (v := (191 : Int32)) (by decide) ?_
                        refine OwnK.istore X0 hx (hb hby own_d1_190) (pc' := 192) rfl (Ls' := #[.val (.ref p1), .val (.int p2), .val (.int p3), .val (.int (y0 &&& (255 : Int32))), .val (.int (3 : Int32)), .val (.int (128 : Int32)), .val (.int (191 : Int32)), .val (.int (2 : Int32)), .val (.int (y2 &&& (255 : Int32)))]) rfl ?_
                        refine OwnK.iincL X0 hx (hb hby own_d1_192) (pc' := 195) rfl (x := (2 : Int32)) rfl (v := (3 : Int32)) (by decide) (Ls' := #[.val (.ref p1), .val (.int p2), .val (.int p3), .val (.int (y0 &&& (255 : Int32))), .val (.int (3 : Int32)), .val (.int (128 : Int32)), .val (.int (191 : Int32)), .val (.int (3 : Int32)), .val (.int (y2 &&& (255 : Int32)))]) rfl ?_
                        refine OwnK.goto_ X0 hx (hb hby own_d1_195) (by decide) (pc' := 147) (by decide) ?_
                        refine OwnK.iload X0 hx (hb hby own_d1_147) (pc' := 149) rfl (v := (3 : Int32)) rfl ?_
                        refine OwnK.iload X0 hx (hb hby own_d1_149) (pc' := 151) rfl (v := (3 : Int32)) rfl ?_
                        refine OwnK.icmp_gt X0 hx (hb hby own_d1_151) (by decide) (pcT := 198) (by decide) (pc' := 154) rfl (fun (hc151 : 3 < 3) => absurd hc151 (by decide)) (fun hc151 => ?_)
                        refine OwnK.aloadN X0 hx (hb hby own_d1_154) (pc' := 155) rfl (v := (.ref p1)) rfl rfl ?_
                        refine OwnK.iloadN X0 hx (hb hby own_d1_155) (pc' := 156) rfl (v := p2) rfl ?_
                        refine OwnK.iload X0 hx (hb hby own_d1_156) (pc' := 158) rfl (v := (3 : Int32)) rfl ?_
                        refine OwnK.iadd X0 hx (hb hby own_d1_158) (pc' := 159) rfl ?_
                        have hj3 : (p2 + (3 : Int32)).toInt = ((i + 3 : Nat) : Int) := by rw [own_addk (by omega) (by omega) (3 : Int32) (by decide) (by decide), show ((3 : Int32)).toInt = 3 from by decide]; omega
                        refine OwnK.baload X0 hx hZ e0 V0 (by omega) (by show _ < (5 : Int); omega) (v := (.int y3)) (by rw [OwnK.jnat hj3]; exact hv3) (hb hby own_d1_159) (pc' := 160) rfl ?_
                        refine OwnK.sipush X0 hx (hb hby own_d1_160) (pc' := 163) rfl (v := (255 : Int32)) (by decide) ?_
                        refine OwnK.iand X0 hx (hb hby own_d1_163) (pc' := 164) rfl ?_
                        refine OwnK.istore X0 hx (hb hby own_d1_164) (pc' := 166) rfl (Ls' := #[.val (.ref p1), .val (.int p2), .val (.int p3), .val (.int (y0 &&& (255 : Int32))), .val (.int (3 : Int32)), .val (.int (128 : Int32)), .val (.int (191 : Int32)), .val (.int (3 : Int32)), .val (.int (y3 &&& (255 : Int32)))]) rfl ?_
                        refine OwnK.iload X0 hx (hb hby own_d1_166) (pc' := 168) rfl (v := (y3 &&& (255 : Int32))) rfl ?_
                        refine OwnK.iload X0 hx (hb hby own_d1_168) (pc' := 170) rfl (v := (128 : Int32)) rfl ?_
                        refine OwnK.icmp_lt X0 hx (hb hby own_d1_170) (by decide) (pcT := 180) (by decide) (pc' := 173) rfl (fun (hc52 : (y3 &&& (255 : Int32)).toInt < 128) => ?_) (fun (hc52 : 128 ≤ (y3 &&& (255 : Int32)).toInt) => ?_)
                        · refine OwnK.iconst X0 hx (hb hby own_d1_180) (pc' := 181) rfl (v := (-1 : Int32)) (by decide) ?_
                          refine OwnK.retI_ X0 hx hret hlk (hb hby own_d1_181) (by decide) (by decide) ?_
                          exact ⟨congrArg (fun q => some (Value.int q)) (own_res0 (own_n0 (by omega) (by omega) (by omega))), e0, rfl⟩
                        · refine OwnK.iload X0 hx (hb hby own_d1_173) (pc' := 175) rfl (v := (y3 &&& (255 : Int32))) rfl ?_
                          refine OwnK.iload X0 hx (hb hby own_d1_175) (pc' := 177) rfl (v := (191 : Int32)) rfl ?_
                          refine OwnK.icmp_le X0 hx (hb hby own_d1_177) (by decide) (pcT := 182) (by decide) (pc' := 180) rfl (fun (hc53 : (y3 &&& (255 : Int32)).toInt ≤ 191) => ?_) (fun (hc53 : 191 < (y3 &&& (255 : Int32)).toInt) => ?_)
                          · refine OwnK.sipush X0 hx (hb hby own_d1_182) (pc' := 185) rfl (v := (128 : Int32)) (by decide) ?_
                            refine OwnK.istore X0 hx (hb hby own_d1_185) (pc' := 187) rfl (Ls' := #[.val (.ref p1), .val (.int p2), .val (.int p3), .val (.int (y0 &&& (255 : Int32))), .val (.int (3 : Int32)), .val (.int (128 : Int32)), .val (.int (191 : Int32)), .val (.int (3 : Int32)), .val (.int (y3 &&& (255 : Int32)))]) rfl ?_
                            refine OwnK.sipush X0 hx (hb hby own_d1_187) (pc' := 190) rfl (v := (191 : Int32)) (by decide) ?_
                            refine OwnK.istore X0 hx (hb hby own_d1_190) (pc' := 192) rfl (Ls' := #[.val (.ref p1), .val (.int p2), .val (.int p3), .val (.int (y0 &&& (255 : Int32))), .val (.int (3 : Int32)), .val (.int (128 : Int32)), .val (.int (191 : Int32)), .val (.int (3 : Int32)), .val (.int (y3 &&& (255 : Int32)))]) rfl ?_
                            refine OwnK.iincL X0 hx (hb hby own_d1_192) (pc' := 195) rfl (x := (3 : Int32)) rfl (v := (4 : Int32)) (by decide) (Ls' := #[.val (.ref p1), .val (.int p2), .val (.int p3), .val (.int (y0 &&& (255 : Int32))), .val (.int (3 : Int32)), .val (.int (128 : Int32)), .val (.int (191 : Int32)), .val (.int (4 : Int32)), .val (.int (y3 &&& (255 : Int32)))]) rfl ?_
                            refine OwnK.goto_ X0 hx (hb hby own_d1_195) (by decide) (pc' := 147) (by decide) ?_
                            refine OwnK.iload X0 hx (hb hby own_d1_147) (pc' := 149) rfl (v := (4 : Int32)) rfl ?_
                            refine OwnK.iload X0 hx (hb hby own_d1_149) (pc' := 151) rfl (v := (3 : Int32)) rfl ?_
                            refine OwnK.icmp_gt X0 hx (hb hby own_d1_151) (by decide) (pcT := 198) (by decide) (pc' := 154) rfl (fun hc151 => ?_) (fun (hc151 : 4 ≤ 3) => absurd hc151 (by decide))
                            refine OwnK.iloadN X0 hx (hb hby own_d1_198) (pc' := 199) rfl (v := p2) rfl ?_
                            refine OwnK.iload X0 hx (hb hby own_d1_199) (pc' := 201) rfl (v := (3 : Int32)) rfl ?_
                            refine OwnK.iadd X0 hx (hb hby own_d1_201) (pc' := 202) rfl ?_
                            refine OwnK.iconst X0 hx (hb hby own_d1_202) (pc' := 203) rfl (v := (1 : Int32)) (by decide) ?_
                            refine OwnK.iadd X0 hx (hb hby own_d1_203) (pc' := 204) rfl ?_
                            refine OwnK.retI_ X0 hx hret hlk (hb hby own_d1_204) (by decide) (by decide) ?_
                            have hr3 := own_addk (p := p2) (by omega) (by omega) (3 : Int32) (by decide) (by decide)
                            have hs3 := own_addk (p := p2 + (3 : Int32)) (by rw [hr3]; show 0 ≤ _ + (3 : Int); omega) (by rw [hr3]; show _ + (3 : Int) ≤ 5; omega) (1 : Int32) (by decide) (by decide)
                            rw [hr3, show ((3 : Int32)).toInt = 3 from by decide, show ((1 : Int32)).toInt = 1 from by decide] at hs3
                            have hn3 := own_n4 (x0 := (y0 &&& (255 : Int32)).toInt) (x1 := (y1 &&& (255 : Int32)).toInt) (x2 := (y2 &&& (255 : Int32)).toInt) (x3 := (y3 &&& (255 : Int32)).toInt) (len := p3.toInt - p2.toInt) (by omega)
                            exact ⟨congrArg (fun q => some (Value.int q)) (own_resk (by omega) (by omega)), e0, rfl⟩
                          · refine OwnK.iconst X0 hx (hb hby own_d1_180) (pc' := 181) rfl (v := (-1 : Int32)) (by decide) ?_
                            refine OwnK.retI_ X0 hx hret hlk (hb hby own_d1_181) (by decide) (by decide) ?_
                            exact ⟨congrArg (fun q => some (Value.int q)) (own_res0 (own_n0 (by omega) (by omega) (by omega))), e0, rfl⟩
                      · refine OwnK.iconst X0 hx (hb hby own_d1_180) (pc' := 181) rfl (v := (-1 : Int32)) (by decide) ?_
                        refine OwnK.retI_ X0 hx hret hlk (hb hby own_d1_181) (by decide) (by decide) ?_
                        exact ⟨congrArg (fun q => some (Value.int q)) (own_res0 (own_n0 (by omega) (by omega) (by omega))), e0, rfl⟩
                  · refine OwnK.iconst X0 hx (hb hby own_d1_180) (pc' := 181) rfl (v := (-1 : Int32)) (by decide) ?_
                    refine OwnK.retI_ X0 hx hret hlk (hb hby own_d1_181) (by decide) (by decide) ?_
                    exact ⟨congrArg (fun q => some (Value.int q)) (own_res0 (own_n0 (by omega) (by omega) (by omega))), e0, rfl⟩
              · refine OwnK.iconst X0 hx (hb hby own_d1_142) (pc' := 143) rfl (v := (-1 : Int32)) (by decide) ?_
                refine OwnK.retI_ X0 hx hret hlk (hb hby own_d1_143) (by decide) (by decide) ?_
                exact ⟨congrArg (fun q => some (Value.int q)) (own_res0 (own_n0 (by omega) (by omega) (by omega))), e0, rfl⟩
      · refine OwnK.iconst X0 hx (hb hby own_d1_52) (pc' := 53) rfl (v := (2 : Int32)) (by decide) ?_
        refine OwnK.istore X0 hx (hb hby own_d1_53) (pc' := 55) rfl (Ls' := #[.val (.ref p1), .val (.int p2), .val (.int p3), .val (.int (y0 &&& (255 : Int32))), .val (.int (2 : Int32)), .val (.int (128 : Int32)), .val (.int (191 : Int32)), .unset, .unset]) rfl ?_
        refine OwnK.iloadN X0 hx (hb hby own_d1_55) (pc' := 56) rfl (v := (y0 &&& (255 : Int32))) rfl ?_
        refine OwnK.sipush X0 hx (hb hby own_d1_56) (pc' := 59) rfl (v := (224 : Int32)) (by decide) ?_
        refine OwnK.icmp_ne X0 hx (hb hby own_d1_59) (by decide) (pcT := 70) (by decide) (pc' := 62) rfl (fun (hc54 : ¬ (y0 &&& (255 : Int32)).toInt = 224) => ?_) (fun (hc54 : (y0 &&& (255 : Int32)).toInt = 224) => ?_)
        · refine OwnK.iloadN X0 hx (hb hby own_d1_70) (pc' := 71) rfl (v := (y0 &&& (255 : Int32))) rfl ?_
          refine OwnK.sipush X0 hx (hb hby own_d1_71) (pc' := 74) rfl (v := (237 : Int32)) (by decide) ?_
          refine OwnK.icmp_ne X0 hx (hb hby own_d1_74) (by decide) (pcT := 134) (by decide) (pc' := 77) rfl (fun (hc55 : ¬ (y0 &&& (255 : Int32)).toInt = 237) => ?_) (fun (hc55 : (y0 &&& (255 : Int32)).toInt = 237) => ?_)
          · refine OwnK.iloadN X0 hx (hb hby own_d1_134) (pc' := 135) rfl (v := p3) rfl ?_
            refine OwnK.iloadN X0 hx (hb hby own_d1_135) (pc' := 136) rfl (v := p2) rfl ?_
            refine OwnK.isub X0 hx (hb hby own_d1_136) (pc' := 137) rfl ?_
            refine OwnK.iload X0 hx (hb hby own_d1_137) (pc' := 139) rfl (v := (2 : Int32)) rfl ?_
            refine OwnK.icmp_gt X0 hx (hb hby own_d1_139) (by decide) (pcT := 144) (by decide) (pc' := 142) rfl (fun (hc56 : 2 < (p3 - p2).toInt) => ?_) (fun (hc56 : (p3 - p2).toInt ≤ 2) => ?_)
            · refine OwnK.iconst X0 hx (hb hby own_d1_144) (pc' := 145) rfl (v := (1 : Int32)) (by decide) ?_
              refine OwnK.istore X0 hx (hb hby own_d1_145) (pc' := 147) rfl (Ls' := #[.val (.ref p1), .val (.int p2), .val (.int p3), .val (.int (y0 &&& (255 : Int32))), .val (.int (2 : Int32)), .val (.int (128 : Int32)), .val (.int (191 : Int32)), .val (.int (1 : Int32)), .unset]) rfl ?_
              refine OwnK.iload X0 hx (hb hby own_d1_147) (pc' := 149) rfl (v := (1 : Int32)) rfl ?_
              refine OwnK.iload X0 hx (hb hby own_d1_149) (pc' := 151) rfl (v := (2 : Int32)) rfl ?_
              refine OwnK.icmp_gt X0 hx (hb hby own_d1_151) (by decide) (pcT := 198) (by decide) (pc' := 154) rfl (fun (hc151 : 2 < 1) => absurd hc151 (by decide)) (fun hc151 => ?_)
              refine OwnK.aloadN X0 hx (hb hby own_d1_154) (pc' := 155) rfl (v := (.ref p1)) rfl rfl ?_
              refine OwnK.iloadN X0 hx (hb hby own_d1_155) (pc' := 156) rfl (v := p2) rfl ?_
              refine OwnK.iload X0 hx (hb hby own_d1_156) (pc' := 158) rfl (v := (1 : Int32)) rfl ?_
              refine OwnK.iadd X0 hx (hb hby own_d1_158) (pc' := 159) rfl ?_
              have hj1 : (p2 + (1 : Int32)).toInt = ((i + 1 : Nat) : Int) := by rw [own_addk (by omega) (by omega) (1 : Int32) (by decide) (by decide), show ((1 : Int32)).toInt = 1 from by decide]; omega
              refine OwnK.baload X0 hx hZ e0 V0 (by omega) (by show _ < (5 : Int); omega) (v := (.int y1)) (by rw [OwnK.jnat hj1]; exact hv1) (hb hby own_d1_159) (pc' := 160) rfl ?_
              refine OwnK.sipush X0 hx (hb hby own_d1_160) (pc' := 163) rfl (v := (255 : Int32)) (by decide) ?_
              refine OwnK.iand X0 hx (hb hby own_d1_163) (pc' := 164) rfl ?_
              refine OwnK.istore X0 hx (hb hby own_d1_164) (pc' := 166) rfl (Ls' := #[.val (.ref p1), .val (.int p2), .val (.int p3), .val (.int (y0 &&& (255 : Int32))), .val (.int (2 : Int32)), .val (.int (128 : Int32)), .val (.int (191 : Int32)), .val (.int (1 : Int32)), .val (.int (y1 &&& (255 : Int32)))]) rfl ?_
              refine OwnK.iload X0 hx (hb hby own_d1_166) (pc' := 168) rfl (v := (y1 &&& (255 : Int32))) rfl ?_
              refine OwnK.iload X0 hx (hb hby own_d1_168) (pc' := 170) rfl (v := (128 : Int32)) rfl ?_
              refine OwnK.icmp_lt X0 hx (hb hby own_d1_170) (by decide) (pcT := 180) (by decide) (pc' := 173) rfl (fun (hc57 : (y1 &&& (255 : Int32)).toInt < 128) => ?_) (fun (hc57 : 128 ≤ (y1 &&& (255 : Int32)).toInt) => ?_)
              · refine OwnK.iconst X0 hx (hb hby own_d1_180) (pc' := 181) rfl (v := (-1 : Int32)) (by decide) ?_
                refine OwnK.retI_ X0 hx hret hlk (hb hby own_d1_181) (by decide) (by decide) ?_
                exact ⟨congrArg (fun q => some (Value.int q)) (own_res0 (own_n0 (by omega) (by omega) (by omega))), e0, rfl⟩
              · refine OwnK.iload X0 hx (hb hby own_d1_173) (pc' := 175) rfl (v := (y1 &&& (255 : Int32))) rfl ?_
                refine OwnK.iload X0 hx (hb hby own_d1_175) (pc' := 177) rfl (v := (191 : Int32)) rfl ?_
                refine OwnK.icmp_le X0 hx (hb hby own_d1_177) (by decide) (pcT := 182) (by decide) (pc' := 180) rfl (fun (hc58 : (y1 &&& (255 : Int32)).toInt ≤ 191) => ?_) (fun (hc58 : 191 < (y1 &&& (255 : Int32)).toInt) => ?_)
                · refine OwnK.sipush X0 hx (hb hby own_d1_182) (pc' := 185) rfl (v := (128 : Int32)) (by decide) ?_
                  refine OwnK.istore X0 hx (hb hby own_d1_185) (pc' := 187) rfl (Ls' := #[.val (.ref p1), .val (.int p2), .val (.int p3), .val (.int (y0 &&& (255 : Int32))), .val (.int (2 : Int32)), .val (.int (128 : Int32)), .val (.int (191 : Int32)), .val (.int (1 : Int32)), .val (.int (y1 &&& (255 : Int32)))]) rfl ?_
                  refine OwnK.sipush X0 hx (hb hby own_d1_187) (pc' := 190) rfl (v := (191 : Int32)) (by decide) ?_
                  refine OwnK.istore X0 hx (hb hby own_d1_190) (pc' := 192) rfl (Ls' := #[.val (.ref p1), .val (.int p2), .val (.int p3), .val (.int (y0 &&& (255 : Int32))), .val (.int (2 : Int32)), .val (.int (128 : Int32)), .val (.int (191 : Int32)), .val (.int (1 : Int32)), .val (.int (y1 &&& (255 : Int32)))]) rfl ?_
                  refine OwnK.iincL X0 hx (hb hby own_d1_192) (pc' := 195) rfl (x := (1 : Int32)) rfl (v := (2 : Int32)) (by decide) (Ls' := #[.val (.ref p1), .val (.int p2), .val (.int p3), .val (.int (y0 &&& (255 : Int32))), .val (.int (2 : Int32)), .val (.int (128 : Int32)), .val (.int (191 : Int32)), .val (.int (2 : Int32)), .val (.int (y1 &&& (255 : Int32)))]) rfl ?_
                  refine OwnK.goto_ X0 hx (hb hby own_d1_195) (by decide) (pc' := 147) (by decide) ?_
                  refine OwnK.iload X0 hx (hb hby own_d1_147) (pc' := 149) rfl (v := (2 : Int32)) rfl ?_
                  refine OwnK.iload X0 hx (hb hby own_d1_149) (pc' := 151) rfl (v := (2 : Int32)) rfl ?_
                  refine OwnK.icmp_gt X0 hx (hb hby own_d1_151) (by decide) (pcT := 198) (by decide) (pc' := 154) rfl (fun (hc151 : 2 < 2) => absurd hc151 (by decide)) (fun hc151 => ?_)
                  refine OwnK.aloadN X0 hx (hb hby own_d1_154) (pc' := 155) rfl (v := (.ref p1)) rfl rfl ?_
                  refine OwnK.iloadN X0 hx (hb hby own_d1_155) (pc' := 156) rfl (v := p2) rfl ?_
                  refine OwnK.iload X0 hx (hb hby own_d1_156) (pc' := 158) rfl (v := (2 : Int32)) rfl ?_
                  refine OwnK.iadd X0 hx (hb hby own_d1_158) (pc' := 159) rfl ?_
                  have hj2 : (p2 + (2 : Int32)).toInt = ((i + 2 : Nat) : Int) := by rw [own_addk (by omega) (by omega) (2 : Int32) (by decide) (by decide), show ((2 : Int32)).toInt = 2 from by decide]; omega
                  refine OwnK.baload X0 hx hZ e0 V0 (by omega) (by show _ < (5 : Int); omega) (v := (.int y2)) (by rw [OwnK.jnat hj2]; exact hv2) (hb hby own_d1_159) (pc' := 160) rfl ?_
                  refine OwnK.sipush X0 hx (hb hby own_d1_160) (pc' := 163) rfl (v := (255 : Int32)) (by decide) ?_
                  refine OwnK.iand X0 hx (hb hby own_d1_163) (pc' := 164) rfl ?_
                  refine OwnK.istore X0 hx (hb hby own_d1_164) (pc' := 166) rfl (Ls' := #[.val (.ref p1), .val (.int p2), .val (.int p3), .val (.int (y0 &&& (255 : Int32))), .val (.int (2 : Int32)), .val (.int (128 : Int32)), .val (.int (191 : Int32)), .val (.int (2 : Int32)), .val (.int (y2 &&& (255 : Int32)))]) rfl ?_
                  refine OwnK.iload X0 hx (hb hby own_d1_166) (pc' := 168) rfl (v := (y2 &&& (255 : Int32))) rfl ?_
                  refine OwnK.iload X0 hx (hb hby own_d1_168) (pc' := 170) rfl (v := (128 : Int32)) rfl ?_
                  refine OwnK.icmp_lt X0 hx (hb hby own_d1_170) (by decide) (pcT := 180) (by decide) (pc' := 173) rfl (fun (hc59 : (y2 &&& (255 : Int32)).toInt < 128) => ?_) (fun (hc59 : 128 ≤ (y2 &&& (255 : Int32)).toInt) => ?_)
                  · refine OwnK.iconst X0 hx (hb hby own_d1_180) (pc' := 181) rfl (v := (-1 : Int32)) (by decide) ?_
                    refine OwnK.retI_ X0 hx hret hlk (hb hby own_d1_181) (by decide) (by decide) ?_
                    exact ⟨congrArg (fun q => some (Value.int q)) (own_res0 (own_n0 (by omega) (by omega) (by omega))), e0, rfl⟩
                  · refine OwnK.iload X0 hx (hb hby own_d1_173) (pc' := 175) rfl (v := (y2 &&& (255 : Int32))) rfl ?_
                    refine OwnK.iload X0 hx (hb hby own_d1_175) (pc' := 177) rfl (v := (191 : Int32)) rfl ?_
                    refine OwnK.icmp_le X0 hx (hb hby own_d1_177) (by decide) (pcT := 182) (by decide) (pc' := 180) rfl (fun (hc60 : (y2 &&& (255 : Int32)).toInt ≤ 191) => ?_) (fun (hc60 : 191 < (y2 &&& (255 : Int32)).toInt) => ?_)
                    · refine OwnK.sipush X0 hx (hb hby own_d1_182) (pc' := 185) rfl (v := (128 : Int32)) (by decide) ?_
                      refine OwnK.istore X0 hx (hb hby own_d1_185) (pc' := 187) rfl (Ls' := #[.val (.ref p1), .val (.int p2), .val (.int p3), .val (.int (y0 &&& (255 : Int32))), .val (.int (2 : Int32)), .val (.int (128 : Int32)), .val (.int (191 : Int32)), .val (.int (2 : Int32)), .val (.int (y2 &&& (255 : Int32)))]) rfl ?_
                      refine OwnK.sipush X0 hx (hb hby own_d1_187) (pc' := 190) rfl (v := (191 : Int32)) (by decide) ?_
                      refine OwnK.istore X0 hx (hb hby own_d1_190) (pc' := 192) rfl (Ls' := #[.val (.ref p1), .val (.int p2), .val (.int p3), .val (.int (y0 &&& (255 : Int32))), .val (.int (2 : Int32)), .val (.int (128 : Int32)), .val (.int (191 : Int32)), .val (.int (2 : Int32)), .val (.int (y2 &&& (255 : Int32)))]) rfl ?_
                      refine OwnK.iincL X0 hx (hb hby own_d1_192) (pc' := 195) rfl (x := (2 : Int32)) rfl (v := (3 : Int32)) (by decide) (Ls' := #[.val (.ref p1), .val (.int p2), .val (.int p3), .val (.int (y0 &&& (255 : Int32))), .val (.int (2 : Int32)), .val (.int (128 : Int32)), .val (.int (191 : Int32)), .val (.int (3 : Int32)), .val (.int (y2 &&& (255 : Int32)))]) rfl ?_
                      refine OwnK.goto_ X0 hx (hb hby own_d1_195) (by decide) (pc' := 147) (by decide) ?_
                      refine OwnK.iload X0 hx (hb hby own_d1_147) (pc' := 149) rfl (v := (3 : Int32)) rfl ?_
                      refine OwnK.iload X0 hx (hb hby own_d1_149) (pc' := 151) rfl (v := (2 : Int32)) rfl ?_
                      refine OwnK.icmp_gt X0 hx (hb hby own_d1_151) (by decide) (pcT := 198) (by decide) (pc' := 154) rfl (fun hc151 => ?_) (fun (hc151 : 3 ≤ 2) => absurd hc151 (by decide))
                      refine OwnK.iloadN X0 hx (hb hby own_d1_198) (pc' := 199) rfl (v := p2) rfl ?_
                      refine OwnK.iload X0 hx (hb hby own_d1_199) (pc' := 201) rfl (v := (2 : Int32)) rfl ?_
                      refine OwnK.iadd X0 hx (hb hby own_d1_201) (pc' := 202) rfl ?_
                      refine OwnK.iconst X0 hx (hb hby own_d1_202) (pc' := 203) rfl (v := (1 : Int32)) (by decide) ?_
                      refine OwnK.iadd X0 hx (hb hby own_d1_203) (pc' := 204) rfl ?_
                      refine OwnK.retI_ X0 hx hret hlk (hb hby own_d1_204) (by decide) (by decide) ?_
                      have hr2 := own_addk (p := p2) (by omega) (by omega) (2 : Int32) (by decide) (by decide)
                      have hs2 := own_addk (p := p2 + (2 : Int32)) (by rw [hr2]; show 0 ≤ _ + (2 : Int); omega) (by rw [hr2]; show _ + (2 : Int) ≤ 5; omega) (1 : Int32) (by decide) (by decide)
                      rw [hr2, show ((2 : Int32)).toInt = 2 from by decide, show ((1 : Int32)).toInt = 1 from by decide] at hs2
                      have hn2 := own_n3 (x0 := (y0 &&& (255 : Int32)).toInt) (x1 := (y1 &&& (255 : Int32)).toInt) (x2 := (y2 &&& (255 : Int32)).toInt) (x3 := (y3 &&& (255 : Int32)).toInt) (len := p3.toInt - p2.toInt) (by omega)
                      exact ⟨congrArg (fun q => some (Value.int q)) (own_resk (by omega) (by omega)), e0, rfl⟩
                    · refine OwnK.iconst X0 hx (hb hby own_d1_180) (pc' := 181) rfl (v := (-1 : Int32)) (by decide) ?_
                      refine OwnK.retI_ X0 hx hret hlk (hb hby own_d1_181) (by decide) (by decide) ?_
                      exact ⟨congrArg (fun q => some (Value.int q)) (own_res0 (own_n0 (by omega) (by omega) (by omega))), e0, rfl⟩
                · refine OwnK.iconst X0 hx (hb hby own_d1_180) (pc' := 181) rfl (v := (-1 : Int32)) (by decide) ?_
                  refine OwnK.retI_ X0 hx hret hlk (hb hby own_d1_181) (by decide) (by decide) ?_
                  exact ⟨congrArg (fun q => some (Value.int q)) (own_res0 (own_n0 (by omega) (by omega) (by omega))), e0, rfl⟩
            · refine OwnK.iconst X0 hx (hb hby own_d1_142) (pc' := 143) rfl (v := (-1 : Int32)) (by decide) ?_
              refine OwnK.retI_ X0 hx hret hlk (hb hby own_d1_143) (by decide) (by decide) ?_
              exact ⟨congrArg (fun q => some (Value.int q)) (own_res0 (own_n0 (by omega) (by omega) (by omega))), e0, rfl⟩
          · refine OwnK.sipush X0 hx (hb hby own_d1_77) (pc' := 80) rfl (v := (159 : Int32)) (by decide) ?_
            refine OwnK.istore X0 hx (hb hby own_d1_80) (pc' := 82) rfl (Ls' := #[.val (.ref p1), .val (.int p2), .val (.int p3), .val (.int (y0 &&& (255 : Int32))), .val (.int (2 : Int32)), .val (.int (128 : Int32)), .val (.int (159 : Int32)), .unset, .unset]) rfl ?_
            refine OwnK.goto_ X0 hx (hb hby own_d1_82) (by decide) (pc' := 134) (by decide) ?_
            refine OwnK.iloadN X0 hx (hb hby own_d1_134) (pc' := 135) rfl (v := p3) rfl ?_
            refine OwnK.iloadN X0 hx (hb hby own_d1_135) (pc' := 136) rfl (v := p2) rfl ?_
            refine OwnK.isub X0 hx (hb hby own_d1_136) (pc' := 137) rfl ?_
            refine OwnK.iload X0 hx (hb hby own_d1_137) (pc' := 139) rfl (v := (2 : Int32)) rfl ?_
            refine OwnK.icmp_gt X0 hx (hb hby own_d1_139) (by decide) (pcT := 144) (by decide) (pc' := 142) rfl (fun (hc61 : 2 < (p3 - p2).toInt) => ?_) (fun (hc61 : (p3 - p2).toInt ≤ 2) => ?_)
            · refine OwnK.iconst X0 hx (hb hby own_d1_144) (pc' := 145) rfl (v := (1 : Int32)) (by decide) ?_
              refine OwnK.istore X0 hx (hb hby own_d1_145) (pc' := 147) rfl (Ls' := #[.val (.ref p1), .val (.int p2), .val (.int p3), .val (.int (y0 &&& (255 : Int32))), .val (.int (2 : Int32)), .val (.int (128 : Int32)), .val (.int (159 : Int32)), .val (.int (1 : Int32)), .unset]) rfl ?_
              refine OwnK.iload X0 hx (hb hby own_d1_147) (pc' := 149) rfl (v := (1 : Int32)) rfl ?_
              refine OwnK.iload X0 hx (hb hby own_d1_149) (pc' := 151) rfl (v := (2 : Int32)) rfl ?_
              refine OwnK.icmp_gt X0 hx (hb hby own_d1_151) (by decide) (pcT := 198) (by decide) (pc' := 154) rfl (fun (hc151 : 2 < 1) => absurd hc151 (by decide)) (fun hc151 => ?_)
              refine OwnK.aloadN X0 hx (hb hby own_d1_154) (pc' := 155) rfl (v := (.ref p1)) rfl rfl ?_
              refine OwnK.iloadN X0 hx (hb hby own_d1_155) (pc' := 156) rfl (v := p2) rfl ?_
              refine OwnK.iload X0 hx (hb hby own_d1_156) (pc' := 158) rfl (v := (1 : Int32)) rfl ?_
              refine OwnK.iadd X0 hx (hb hby own_d1_158) (pc' := 159) rfl ?_
              have hj1 : (p2 + (1 : Int32)).toInt = ((i + 1 : Nat) : Int) := by rw [own_addk (by omega) (by omega) (1 : Int32) (by decide) (by decide), show ((1 : Int32)).toInt = 1 from by decide]; omega
              refine OwnK.baload X0 hx hZ e0 V0 (by omega) (by show _ < (5 : Int); omega) (v := (.int y1)) (by rw [OwnK.jnat hj1]; exact hv1) (hb hby own_d1_159) (pc' := 160) rfl ?_
              refine OwnK.sipush X0 hx (hb hby own_d1_160) (pc' := 163) rfl (v := (255 : Int32)) (by decide) ?_
              refine OwnK.iand X0 hx (hb hby own_d1_163) (pc' := 164) rfl ?_
              refine OwnK.istore X0 hx (hb hby own_d1_164) (pc' := 166) rfl (Ls' := #[.val (.ref p1), .val (.int p2), .val (.int p3), .val (.int (y0 &&& (255 : Int32))), .val (.int (2 : Int32)), .val (.int (128 : Int32)), .val (.int (159 : Int32)), .val (.int (1 : Int32)), .val (.int (y1 &&& (255 : Int32)))]) rfl ?_
              refine OwnK.iload X0 hx (hb hby own_d1_166) (pc' := 168) rfl (v := (y1 &&& (255 : Int32))) rfl ?_
              refine OwnK.iload X0 hx (hb hby own_d1_168) (pc' := 170) rfl (v := (128 : Int32)) rfl ?_
              refine OwnK.icmp_lt X0 hx (hb hby own_d1_170) (by decide) (pcT := 180) (by decide) (pc' := 173) rfl (fun (hc62 : (y1 &&& (255 : Int32)).toInt < 128) => ?_) (fun (hc62 : 128 ≤ (y1 &&& (255 : Int32)).toInt) => ?_)
              · refine OwnK.iconst X0 hx (hb hby own_d1_180) (pc' := 181) rfl (v := (-1 : Int32)) (by decide) ?_
                refine OwnK.retI_ X0 hx hret hlk (hb hby own_d1_181) (by decide) (by decide) ?_
                exact ⟨congrArg (fun q => some (Value.int q)) (own_res0 (own_n0 (by omega) (by omega) (by omega))), e0, rfl⟩
              · refine OwnK.iload X0 hx (hb hby own_d1_173) (pc' := 175) rfl (v := (y1 &&& (255 : Int32))) rfl ?_
                refine OwnK.iload X0 hx (hb hby own_d1_175) (pc' := 177) rfl (v := (159 : Int32)) rfl ?_
                refine OwnK.icmp_le X0 hx (hb hby own_d1_177) (by decide) (pcT := 182) (by decide) (pc' := 180) rfl (fun (hc63 : (y1 &&& (255 : Int32)).toInt ≤ 159) => ?_) (fun (hc63 : 159 < (y1 &&& (255 : Int32)).toInt) => ?_)
                · refine OwnK.sipush X0 hx (hb hby own_d1_182) (pc' := 185) rfl (v := (128 : Int32)) (by decide) ?_
                  refine OwnK.istore X0 hx (hb hby own_d1_185) (pc' := 187) rfl (Ls' := #[.val (.ref p1), .val (.int p2), .val (.int p3), .val (.int (y0 &&& (255 : Int32))), .val (.int (2 : Int32)), .val (.int (128 : Int32)), .val (.int (159 : Int32)), .val (.int (1 : Int32)), .val (.int (y1 &&& (255 : Int32)))]) rfl ?_
                  refine OwnK.sipush X0 hx (hb hby own_d1_187) (pc' := 190) rfl (v := (191 : Int32)) (by decide) ?_
                  refine OwnK.istore X0 hx (hb hby own_d1_190) (pc' := 192) rfl (Ls' := #[.val (.ref p1), .val (.int p2), .val (.int p3), .val (.int (y0 &&& (255 : Int32))), .val (.int (2 : Int32)), .val (.int (128 : Int32)), .val (.int (191 : Int32)), .val (.int (1 : Int32)), .val (.int (y1 &&& (255 : Int32)))]) rfl ?_
                  refine OwnK.iincL X0 hx (hb hby own_d1_192) (pc' := 195) rfl (x := (1 : Int32)) rfl (v := (2 : Int32)) (by decide) (Ls' := #[.val (.ref p1), .val (.int p2), .val (.int p3), .val (.int (y0 &&& (255 : Int32))), .val (.int (2 : Int32)), .val (.int (128 : Int32)), .val (.int (191 : Int32)), .val (.int (2 : Int32)), .val (.int (y1 &&& (255 : Int32)))]) rfl ?_
                  refine OwnK.goto_ X0 hx (hb hby own_d1_195) (by decide) (pc' := 147) (by decide) ?_
                  refine OwnK.iload X0 hx (hb hby own_d1_147) (pc' := 149) rfl (v := (2 : Int32)) rfl ?_
                  refine OwnK.iload X0 hx (hb hby own_d1_149) (pc' := 151) rfl (v := (2 : Int32)) rfl ?_
                  refine OwnK.icmp_gt X0 hx (hb hby own_d1_151) (by decide) (pcT := 198) (by decide) (pc' := 154) rfl (fun (hc151 : 2 < 2) => absurd hc151 (by decide)) (fun hc151 => ?_)
                  refine OwnK.aloadN X0 hx (hb hby own_d1_154) (pc' := 155) rfl (v := (.ref p1)) rfl rfl ?_
                  refine OwnK.iloadN X0 hx (hb hby own_d1_155) (pc' := 156) rfl (v := p2) rfl ?_
                  refine OwnK.iload X0 hx (hb hby own_d1_156) (pc' := 158) rfl (v := (2 : Int32)) rfl ?_
                  refine OwnK.iadd X0 hx (hb hby own_d1_158) (pc' := 159) rfl ?_
                  have hj2 : (p2 + (2 : Int32)).toInt = ((i + 2 : Nat) : Int) := by rw [own_addk (by omega) (by omega) (2 : Int32) (by decide) (by decide), show ((2 : Int32)).toInt = 2 from by decide]; omega
                  refine OwnK.baload X0 hx hZ e0 V0 (by omega) (by show _ < (5 : Int); omega) (v := (.int y2)) (by rw [OwnK.jnat hj2]; exact hv2) (hb hby own_d1_159) (pc' := 160) rfl ?_
                  refine OwnK.sipush X0 hx (hb hby own_d1_160) (pc' := 163) rfl (v := (255 : Int32)) (by decide) ?_
                  refine OwnK.iand X0 hx (hb hby own_d1_163) (pc' := 164) rfl ?_
                  refine OwnK.istore X0 hx (hb hby own_d1_164) (pc' := 166) rfl (Ls' := #[.val (.ref p1), .val (.int p2), .val (.int p3), .val (.int (y0 &&& (255 : Int32))), .val (.int (2 : Int32)), .val (.int (128 : Int32)), .val (.int (191 : Int32)), .val (.int (2 : Int32)), .val (.int (y2 &&& (255 : Int32)))]) rfl ?_
                  refine OwnK.iload X0 hx (hb hby own_d1_166) (pc' := 168) rfl (v := (y2 &&& (255 : Int32))) rfl ?_
                  refine OwnK.iload X0 hx (hb hby own_d1_168) (pc' := 170) rfl (v := (128 : Int32)) rfl ?_
                  refine OwnK.icmp_lt X0 hx (hb hby own_d1_170) (by decide) (pcT := 180) (by decide) (pc' := 173) rfl (fun (hc64 : (y2 &&& (255 : Int32)).toInt < 128) => ?_) (fun (hc64 : 128 ≤ (y2 &&& (255 : Int32)).toInt) => ?_)
                  · refine OwnK.iconst X0 hx (hb hby own_d1_180) (pc' := 181) rfl (v := (-1 : Int32)) (by decide) ?_
                    refine OwnK.retI_ X0 hx hret hlk (hb hby own_d1_181) (by decide) (by decide) ?_
                    exact ⟨congrArg (fun q => some (Value.int q)) (own_res0 (own_n0 (by omega) (by omega) (by omega))), e0, rfl⟩
                  · refine OwnK.iload X0 hx (hb hby own_d1_173) (pc' := 175) rfl (v := (y2 &&& (255 : Int32))) rfl ?_
                    refine OwnK.iload X0 hx (hb hby own_d1_175) (pc' := 177) rfl (v := (191 : Int32)) rfl ?_
                    refine OwnK.icmp_le X0 hx (hb hby own_d1_177) (by decide) (pcT := 182) (by decide) (pc' := 180) rfl (fun (hc65 : (y2 &&& (255 : Int32)).toInt ≤ 191) => ?_) (fun (hc65 : 191 < (y2 &&& (255 : Int32)).toInt) => ?_)
                    · refine OwnK.sipush X0 hx (hb hby own_d1_182) (pc' := 185) rfl (v := (128 : Int32)) (by decide) ?_
                      refine OwnK.istore X0 hx (hb hby own_d1_185) (pc' := 187) rfl (Ls' := #[.val (.ref p1), .val (.int p2), .val (.int p3), .val (.int (y0 &&& (255 : Int32))), .val (.int (2 : Int32)), .val (.int (128 : Int32)), .val (.int (191 : Int32)), .val (.int (2 : Int32)), .val (.int (y2 &&& (255 : Int32)))]) rfl ?_
                      refine OwnK.sipush X0 hx (hb hby own_d1_187) (pc' := 190) rfl (v := (191 : Int32)) (by decide) ?_
                      refine OwnK.istore X0 hx (hb hby own_d1_190) (pc' := 192) rfl (Ls' := #[.val (.ref p1), .val (.int p2), .val (.int p3), .val (.int (y0 &&& (255 : Int32))), .val (.int (2 : Int32)), .val (.int (128 : Int32)), .val (.int (191 : Int32)), .val (.int (2 : Int32)), .val (.int (y2 &&& (255 : Int32)))]) rfl ?_
                      refine OwnK.iincL X0 hx (hb hby own_d1_192) (pc' := 195) rfl (x := (2 : Int32)) rfl (v := (3 : Int32)) (by decide) (Ls' := #[.val (.ref p1), .val (.int p2), .val (.int p3), .val (.int (y0 &&& (255 : Int32))), .val (.int (2 : Int32)), .val (.int (128 : Int32)), .val (.int (191 : Int32)), .val (.int (3 : Int32)), .val (.int (y2 &&& (255 : Int32)))]) rfl ?_
                      refine OwnK.goto_ X0 hx (hb hby own_d1_195) (by decide) (pc' := 147) (by decide) ?_
                      refine OwnK.iload X0 hx (hb hby own_d1_147) (pc' := 149) rfl (v := (3 : Int32)) rfl ?_
                      refine OwnK.iload X0 hx (hb hby own_d1_149) (pc' := 151) rfl (v := (2 : Int32)) rfl ?_
                      refine OwnK.icmp_gt X0 hx (hb hby own_d1_151) (by decide) (pcT := 198) (by decide) (pc' := 154) rfl (fun hc151 => ?_) (fun (hc151 : 3 ≤ 2) => absurd hc151 (by decide))
                      refine OwnK.iloadN X0 hx (hb hby own_d1_198) (pc' := 199) rfl (v := p2) rfl ?_
                      refine OwnK.iload X0 hx (hb hby own_d1_199) (pc' := 201) rfl (v := (2 : Int32)) rfl ?_
                      refine OwnK.iadd X0 hx (hb hby own_d1_201) (pc' := 202) rfl ?_
                      refine OwnK.iconst X0 hx (hb hby own_d1_202) (pc' := 203) rfl (v := (1 : Int32)) (by decide) ?_
                      refine OwnK.iadd X0 hx (hb hby own_d1_203) (pc' := 204) rfl ?_
                      refine OwnK.retI_ X0 hx hret hlk (hb hby own_d1_204) (by decide) (by decide) ?_
                      have hr2 := own_addk (p := p2) (by omega) (by omega) (2 : Int32) (by decide) (by decide)
                      have hs2 := own_addk (p := p2 + (2 : Int32)) (by rw [hr2]; show 0 ≤ _ + (2 : Int); omega) (by rw [hr2]; show _ + (2 : Int) ≤ 5; omega) (1 : Int32) (by decide) (by decide)
                      rw [hr2, show ((2 : Int32)).toInt = 2 from by decide, show ((1 : Int32)).toInt = 1 from by decide] at hs2
                      have hn2 := own_n3 (x0 := (y0 &&& (255 : Int32)).toInt) (x1 := (y1 &&& (255 : Int32)).toInt) (x2 := (y2 &&& (255 : Int32)).toInt) (x3 := (y3 &&& (255 : Int32)).toInt) (len := p3.toInt - p2.toInt) (by omega)
                      exact ⟨congrArg (fun q => some (Value.int q)) (own_resk (by omega) (by omega)), e0, rfl⟩
                    · refine OwnK.iconst X0 hx (hb hby own_d1_180) (pc' := 181) rfl (v := (-1 : Int32)) (by decide) ?_
                      refine OwnK.retI_ X0 hx hret hlk (hb hby own_d1_181) (by decide) (by decide) ?_
                      exact ⟨congrArg (fun q => some (Value.int q)) (own_res0 (own_n0 (by omega) (by omega) (by omega))), e0, rfl⟩
                · refine OwnK.iconst X0 hx (hb hby own_d1_180) (pc' := 181) rfl (v := (-1 : Int32)) (by decide) ?_
                  refine OwnK.retI_ X0 hx hret hlk (hb hby own_d1_181) (by decide) (by decide) ?_
                  exact ⟨congrArg (fun q => some (Value.int q)) (own_res0 (own_n0 (by omega) (by omega) (by omega))), e0, rfl⟩
            · refine OwnK.iconst X0 hx (hb hby own_d1_142) (pc' := 143) rfl (v := (-1 : Int32)) (by decide) ?_
              refine OwnK.retI_ X0 hx hret hlk (hb hby own_d1_143) (by decide) (by decide) ?_
              exact ⟨congrArg (fun q => some (Value.int q)) (own_res0 (own_n0 (by omega) (by omega) (by omega))), e0, rfl⟩
        · refine OwnK.sipush X0 hx (hb hby own_d1_62) (pc' := 65) rfl (v := (160 : Int32)) (by decide) ?_
          refine OwnK.istore X0 hx (hb hby own_d1_65) (pc' := 67) rfl (Ls' := #[.val (.ref p1), .val (.int p2), .val (.int p3), .val (.int (y0 &&& (255 : Int32))), .val (.int (2 : Int32)), .val (.int (160 : Int32)), .val (.int (191 : Int32)), .unset, .unset]) rfl ?_
          refine OwnK.goto_ X0 hx (hb hby own_d1_67) (by decide) (pc' := 134) (by decide) ?_
          refine OwnK.iloadN X0 hx (hb hby own_d1_134) (pc' := 135) rfl (v := p3) rfl ?_
          refine OwnK.iloadN X0 hx (hb hby own_d1_135) (pc' := 136) rfl (v := p2) rfl ?_
          refine OwnK.isub X0 hx (hb hby own_d1_136) (pc' := 137) rfl ?_
          refine OwnK.iload X0 hx (hb hby own_d1_137) (pc' := 139) rfl (v := (2 : Int32)) rfl ?_
          refine OwnK.icmp_gt X0 hx (hb hby own_d1_139) (by decide) (pcT := 144) (by decide) (pc' := 142) rfl (fun (hc66 : 2 < (p3 - p2).toInt) => ?_) (fun (hc66 : (p3 - p2).toInt ≤ 2) => ?_)
          · refine OwnK.iconst X0 hx (hb hby own_d1_144) (pc' := 145) rfl (v := (1 : Int32)) (by decide) ?_
            refine OwnK.istore X0 hx (hb hby own_d1_145) (pc' := 147) rfl (Ls' := #[.val (.ref p1), .val (.int p2), .val (.int p3), .val (.int (y0 &&& (255 : Int32))), .val (.int (2 : Int32)), .val (.int (160 : Int32)), .val (.int (191 : Int32)), .val (.int (1 : Int32)), .unset]) rfl ?_
            refine OwnK.iload X0 hx (hb hby own_d1_147) (pc' := 149) rfl (v := (1 : Int32)) rfl ?_
            refine OwnK.iload X0 hx (hb hby own_d1_149) (pc' := 151) rfl (v := (2 : Int32)) rfl ?_
            refine OwnK.icmp_gt X0 hx (hb hby own_d1_151) (by decide) (pcT := 198) (by decide) (pc' := 154) rfl (fun (hc151 : 2 < 1) => absurd hc151 (by decide)) (fun hc151 => ?_)
            refine OwnK.aloadN X0 hx (hb hby own_d1_154) (pc' := 155) rfl (v := (.ref p1)) rfl rfl ?_
            refine OwnK.iloadN X0 hx (hb hby own_d1_155) (pc' := 156) rfl (v := p2) rfl ?_
            refine OwnK.iload X0 hx (hb hby own_d1_156) (pc' := 158) rfl (v := (1 : Int32)) rfl ?_
            refine OwnK.iadd X0 hx (hb hby own_d1_158) (pc' := 159) rfl ?_
            have hj1 : (p2 + (1 : Int32)).toInt = ((i + 1 : Nat) : Int) := by rw [own_addk (by omega) (by omega) (1 : Int32) (by decide) (by decide), show ((1 : Int32)).toInt = 1 from by decide]; omega
            refine OwnK.baload X0 hx hZ e0 V0 (by omega) (by show _ < (5 : Int); omega) (v := (.int y1)) (by rw [OwnK.jnat hj1]; exact hv1) (hb hby own_d1_159) (pc' := 160) rfl ?_
            refine OwnK.sipush X0 hx (hb hby own_d1_160) (pc' := 163) rfl (v := (255 : Int32)) (by decide) ?_
            refine OwnK.iand X0 hx (hb hby own_d1_163) (pc' := 164) rfl ?_
            refine OwnK.istore X0 hx (hb hby own_d1_164) (pc' := 166) rfl (Ls' := #[.val (.ref p1), .val (.int p2), .val (.int p3), .val (.int (y0 &&& (255 : Int32))), .val (.int (2 : Int32)), .val (.int (160 : Int32)), .val (.int (191 : Int32)), .val (.int (1 : Int32)), .val (.int (y1 &&& (255 : Int32)))]) rfl ?_
            refine OwnK.iload X0 hx (hb hby own_d1_166) (pc' := 168) rfl (v := (y1 &&& (255 : Int32))) rfl ?_
            refine OwnK.iload X0 hx (hb hby own_d1_168) (pc' := 170) rfl (v := (160 : Int32)) rfl ?_
            refine OwnK.icmp_lt X0 hx (hb hby own_d1_170) (by decide) (pcT := 180) (by decide) (pc' := 173) rfl (fun (hc67 : (y1 &&& (255 : Int32)).toInt < 160) => ?_) (fun (hc67 : 160 ≤ (y1 &&& (255 : Int32)).toInt) => ?_)
            · refine OwnK.iconst X0 hx (hb hby own_d1_180) (pc' := 181) rfl (v := (-1 : Int32)) (by decide) ?_
              refine OwnK.retI_ X0 hx hret hlk (hb hby own_d1_181) (by decide) (by decide) ?_
              exact ⟨congrArg (fun q => some (Value.int q)) (own_res0 (own_n0 (by omega) (by omega) (by omega))), e0, rfl⟩
            · refine OwnK.iload X0 hx (hb hby own_d1_173) (pc' := 175) rfl (v := (y1 &&& (255 : Int32))) rfl ?_
              refine OwnK.iload X0 hx (hb hby own_d1_175) (pc' := 177) rfl (v := (191 : Int32)) rfl ?_
              refine OwnK.icmp_le X0 hx (hb hby own_d1_177) (by decide) (pcT := 182) (by decide) (pc' := 180) rfl (fun (hc68 : (y1 &&& (255 : Int32)).toInt ≤ 191) => ?_) (fun (hc68 : 191 < (y1 &&& (255 : Int32)).toInt) => ?_)
              · refine OwnK.sipush X0 hx (hb hby own_d1_182) (pc' := 185) rfl (v := (128 : Int32)) (by decide) ?_
                refine OwnK.istore X0 hx (hb hby own_d1_185) (pc' := 187) rfl (Ls' := #[.val (.ref p1), .val (.int p2), .val (.int p3), .val (.int (y0 &&& (255 : Int32))), .val (.int (2 : Int32)), .val (.int (128 : Int32)), .val (.int (191 : Int32)), .val (.int (1 : Int32)), .val (.int (y1 &&& (255 : Int32)))]) rfl ?_
                refine OwnK.sipush X0 hx (hb hby own_d1_187) (pc' := 190) rfl (v := (191 : Int32)) (by decide) ?_
                refine OwnK.istore X0 hx (hb hby own_d1_190) (pc' := 192) rfl (Ls' := #[.val (.ref p1), .val (.int p2), .val (.int p3), .val (.int (y0 &&& (255 : Int32))), .val (.int (2 : Int32)), .val (.int (128 : Int32)), .val (.int (191 : Int32)), .val (.int (1 : Int32)), .val (.int (y1 &&& (255 : Int32)))]) rfl ?_
                refine OwnK.iincL X0 hx (hb hby own_d1_192) (pc' := 195) rfl (x := (1 : Int32)) rfl (v := (2 : Int32)) (by decide) (Ls' := #[.val (.ref p1), .val (.int p2), .val (.int p3), .val (.int (y0 &&& (255 : Int32))), .val (.int (2 : Int32)), .val (.int (128 : Int32)), .val (.int (191 : Int32)), .val (.int (2 : Int32)), .val (.int (y1 &&& (255 : Int32)))]) rfl ?_
                refine OwnK.goto_ X0 hx (hb hby own_d1_195) (by decide) (pc' := 147) (by decide) ?_
                refine OwnK.iload X0 hx (hb hby own_d1_147) (pc' := 149) rfl (v := (2 : Int32)) rfl ?_
                refine OwnK.iload X0 hx (hb hby own_d1_149) (pc' := 151) rfl (v := (2 : Int32)) rfl ?_
                refine OwnK.icmp_gt X0 hx (hb hby own_d1_151) (by decide) (pcT := 198) (by decide) (pc' := 154) rfl (fun (hc151 : 2 < 2) => absurd hc151 (by decide)) (fun hc151 => ?_)
                refine OwnK.aloadN X0 hx (hb hby own_d1_154) (pc' := 155) rfl (v := (.ref p1)) rfl rfl ?_
                refine OwnK.iloadN X0 hx (hb hby own_d1_155) (pc' := 156) rfl (v := p2) rfl ?_
                refine OwnK.iload X0 hx (hb hby own_d1_156) (pc' := 158) rfl (v := (2 : Int32)) rfl ?_
                refine OwnK.iadd X0 hx (hb hby own_d1_158) (pc' := 159) rfl ?_
                have hj2 : (p2 + (2 : Int32)).toInt = ((i + 2 : Nat) : Int) := by rw [own_addk (by omega) (by omega) (2 : Int32) (by decide) (by decide), show ((2 : Int32)).toInt = 2 from by decide]; omega
                refine OwnK.baload X0 hx hZ e0 V0 (by omega) (by show _ < (5 : Int); omega) (v := (.int y2)) (by rw [OwnK.jnat hj2]; exact hv2) (hb hby own_d1_159) (pc' := 160) rfl ?_
                refine OwnK.sipush X0 hx (hb hby own_d1_160) (pc' := 163) rfl (v := (255 : Int32)) (by decide) ?_
                refine OwnK.iand X0 hx (hb hby own_d1_163) (pc' := 164) rfl ?_
                refine OwnK.istore X0 hx (hb hby own_d1_164) (pc' := 166) rfl (Ls' := #[.val (.ref p1), .val (.int p2), .val (.int p3), .val (.int (y0 &&& (255 : Int32))), .val (.int (2 : Int32)), .val (.int (128 : Int32)), .val (.int (191 : Int32)), .val (.int (2 : Int32)), .val (.int (y2 &&& (255 : Int32)))]) rfl ?_
                refine OwnK.iload X0 hx (hb hby own_d1_166) (pc' := 168) rfl (v := (y2 &&& (255 : Int32))) rfl ?_
                refine OwnK.iload X0 hx (hb hby own_d1_168) (pc' := 170) rfl (v := (128 : Int32)) rfl ?_
                refine OwnK.icmp_lt X0 hx (hb hby own_d1_170) (by decide) (pcT := 180) (by decide) (pc' := 173) rfl (fun (hc69 : (y2 &&& (255 : Int32)).toInt < 128) => ?_) (fun (hc69 : 128 ≤ (y2 &&& (255 : Int32)).toInt) => ?_)
                · refine OwnK.iconst X0 hx (hb hby own_d1_180) (pc' := 181) rfl (v := (-1 : Int32)) (by decide) ?_
                  refine OwnK.retI_ X0 hx hret hlk (hb hby own_d1_181) (by decide) (by decide) ?_
                  exact ⟨congrArg (fun q => some (Value.int q)) (own_res0 (own_n0 (by omega) (by omega) (by omega))), e0, rfl⟩
                · refine OwnK.iload X0 hx (hb hby own_d1_173) (pc' := 175) rfl (v := (y2 &&& (255 : Int32))) rfl ?_
                  refine OwnK.iload X0 hx (hb hby own_d1_175) (pc' := 177) rfl (v := (191 : Int32)) rfl ?_
                  refine OwnK.icmp_le X0 hx (hb hby own_d1_177) (by decide) (pcT := 182) (by decide) (pc' := 180) rfl (fun (hc70 : (y2 &&& (255 : Int32)).toInt ≤ 191) => ?_) (fun (hc70 : 191 < (y2 &&& (255 : Int32)).toInt) => ?_)
                  · refine OwnK.sipush X0 hx (hb hby own_d1_182) (pc' := 185) rfl (v := (128 : Int32)) (by decide) ?_
                    refine OwnK.istore X0 hx (hb hby own_d1_185) (pc' := 187) rfl (Ls' := #[.val (.ref p1), .val (.int p2), .val (.int p3), .val (.int (y0 &&& (255 : Int32))), .val (.int (2 : Int32)), .val (.int (128 : Int32)), .val (.int (191 : Int32)), .val (.int (2 : Int32)), .val (.int (y2 &&& (255 : Int32)))]) rfl ?_
                    refine OwnK.sipush X0 hx (hb hby own_d1_187) (pc' := 190) rfl (v := (191 : Int32)) (by decide) ?_
                    refine OwnK.istore X0 hx (hb hby own_d1_190) (pc' := 192) rfl (Ls' := #[.val (.ref p1), .val (.int p2), .val (.int p3), .val (.int (y0 &&& (255 : Int32))), .val (.int (2 : Int32)), .val (.int (128 : Int32)), .val (.int (191 : Int32)), .val (.int (2 : Int32)), .val (.int (y2 &&& (255 : Int32)))]) rfl ?_
                    refine OwnK.iincL X0 hx (hb hby own_d1_192) (pc' := 195) rfl (x := (2 : Int32)) rfl (v := (3 : Int32)) (by decide) (Ls' := #[.val (.ref p1), .val (.int p2), .val (.int p3), .val (.int (y0 &&& (255 : Int32))), .val (.int (2 : Int32)), .val (.int (128 : Int32)), .val (.int (191 : Int32)), .val (.int (3 : Int32)), .val (.int (y2 &&& (255 : Int32)))]) rfl ?_
                    refine OwnK.goto_ X0 hx (hb hby own_d1_195) (by decide) (pc' := 147) (by decide) ?_
                    refine OwnK.iload X0 hx (hb hby own_d1_147) (pc' := 149) rfl (v := (3 : Int32)) rfl ?_
                    refine OwnK.iload X0 hx (hb hby own_d1_149) (pc' := 151) rfl (v := (2 : Int32)) rfl ?_
                    refine OwnK.icmp_gt X0 hx (hb hby own_d1_151) (by decide) (pcT := 198) (by decide) (pc' := 154) rfl (fun hc151 => ?_) (fun (hc151 : 3 ≤ 2) => absurd hc151 (by decide))
                    refine OwnK.iloadN X0 hx (hb hby own_d1_198) (pc' := 199) rfl (v := p2) rfl ?_
                    refine OwnK.iload X0 hx (hb hby own_d1_199) (pc' := 201) rfl (v := (2 : Int32)) rfl ?_
                    refine OwnK.iadd X0 hx (hb hby own_d1_201) (pc' := 202) rfl ?_
                    refine OwnK.iconst X0 hx (hb hby own_d1_202) (pc' := 203) rfl (v := (1 : Int32)) (by decide) ?_
                    refine OwnK.iadd X0 hx (hb hby own_d1_203) (pc' := 204) rfl ?_
                    refine OwnK.retI_ X0 hx hret hlk (hb hby own_d1_204) (by decide) (by decide) ?_
                    have hr2 := own_addk (p := p2) (by omega) (by omega) (2 : Int32) (by decide) (by decide)
                    have hs2 := own_addk (p := p2 + (2 : Int32)) (by rw [hr2]; show 0 ≤ _ + (2 : Int); omega) (by rw [hr2]; show _ + (2 : Int) ≤ 5; omega) (1 : Int32) (by decide) (by decide)
                    rw [hr2, show ((2 : Int32)).toInt = 2 from by decide, show ((1 : Int32)).toInt = 1 from by decide] at hs2
                    have hn2 := own_n3 (x0 := (y0 &&& (255 : Int32)).toInt) (x1 := (y1 &&& (255 : Int32)).toInt) (x2 := (y2 &&& (255 : Int32)).toInt) (x3 := (y3 &&& (255 : Int32)).toInt) (len := p3.toInt - p2.toInt) (by omega)
                    exact ⟨congrArg (fun q => some (Value.int q)) (own_resk (by omega) (by omega)), e0, rfl⟩
                  · refine OwnK.iconst X0 hx (hb hby own_d1_180) (pc' := 181) rfl (v := (-1 : Int32)) (by decide) ?_
                    refine OwnK.retI_ X0 hx hret hlk (hb hby own_d1_181) (by decide) (by decide) ?_
                    exact ⟨congrArg (fun q => some (Value.int q)) (own_res0 (own_n0 (by omega) (by omega) (by omega))), e0, rfl⟩
              · refine OwnK.iconst X0 hx (hb hby own_d1_180) (pc' := 181) rfl (v := (-1 : Int32)) (by decide) ?_
                refine OwnK.retI_ X0 hx hret hlk (hb hby own_d1_181) (by decide) (by decide) ?_
                exact ⟨congrArg (fun q => some (Value.int q)) (own_res0 (own_n0 (by omega) (by omega) (by omega))), e0, rfl⟩
          · refine OwnK.iconst X0 hx (hb hby own_d1_142) (pc' := 143) rfl (v := (-1 : Int32)) (by decide) ?_
            refine OwnK.retI_ X0 hx hret hlk (hb hby own_d1_143) (by decide) (by decide) ?_
            exact ⟨congrArg (fun q => some (Value.int q)) (own_res0 (own_n0 (by omega) (by omega) (by omega))), e0, rfl⟩
  · refine OwnK.iloadN X0 hx (hb hby own_d1_25) (pc' := 26) rfl (v := (y0 &&& (255 : Int32))) rfl ?_
    refine OwnK.sipush X0 hx (hb hby own_d1_26) (pc' := 29) rfl (v := (223 : Int32)) (by decide) ?_
    refine OwnK.icmp_gt X0 hx (hb hby own_d1_29) (by decide) (pcT := 38) (by decide) (pc' := 32) rfl (fun (hc71 : 223 < (y0 &&& (255 : Int32)).toInt) => ?_) (fun (hc71 : (y0 &&& (255 : Int32)).toInt ≤ 223) => ?_)
    · refine OwnK.iloadN X0 hx (hb hby own_d1_38) (pc' := 39) rfl (v := (y0 &&& (255 : Int32))) rfl ?_
      refine OwnK.sipush X0 hx (hb hby own_d1_39) (pc' := 42) rfl (v := (224 : Int32)) (by decide) ?_
      refine OwnK.icmp_lt X0 hx (hb hby own_d1_42) (by decide) (pcT := 85) (by decide) (pc' := 45) rfl (fun (hc72 : (y0 &&& (255 : Int32)).toInt < 224) => ?_) (fun (hc72 : 224 ≤ (y0 &&& (255 : Int32)).toInt) => ?_)
      · refine OwnK.iloadN X0 hx (hb hby own_d1_85) (pc' := 86) rfl (v := (y0 &&& (255 : Int32))) rfl ?_
        refine OwnK.sipush X0 hx (hb hby own_d1_86) (pc' := 89) rfl (v := (240 : Int32)) (by decide) ?_
        refine OwnK.icmp_lt X0 hx (hb hby own_d1_89) (by decide) (pcT := 132) (by decide) (pc' := 92) rfl (fun (hc73 : (y0 &&& (255 : Int32)).toInt < 240) => ?_) (fun (hc73 : 240 ≤ (y0 &&& (255 : Int32)).toInt) => ?_)
        · refine OwnK.iconst X0 hx (hb hby own_d1_132) (pc' := 133) rfl (v := (-1 : Int32)) (by decide) ?_
          refine OwnK.retI_ X0 hx hret hlk (hb hby own_d1_133) (by decide) (by decide) ?_
          exact ⟨congrArg (fun q => some (Value.int q)) (own_res0 (own_n0 (by omega) (by omega) (by omega))), e0, rfl⟩
        · refine OwnK.iloadN X0 hx (hb hby own_d1_92) (pc' := 93) rfl (v := (y0 &&& (255 : Int32))) rfl ?_
          refine OwnK.sipush X0 hx (hb hby own_d1_93) (pc' := 96) rfl (v := (244 : Int32)) (by decide) ?_
          refine OwnK.icmp_gt X0 hx (hb hby own_d1_96) (by decide) (pcT := 132) (by decide) (pc' := 99) rfl (fun (hc74 : 244 < (y0 &&& (255 : Int32)).toInt) => ?_) (fun (hc74 : (y0 &&& (255 : Int32)).toInt ≤ 244) => ?_)
          · refine OwnK.iconst X0 hx (hb hby own_d1_132) (pc' := 133) rfl (v := (-1 : Int32)) (by decide) ?_
            refine OwnK.retI_ X0 hx hret hlk (hb hby own_d1_133) (by decide) (by decide) ?_
            exact ⟨congrArg (fun q => some (Value.int q)) (own_res0 (own_n0 (by omega) (by omega) (by omega))), e0, rfl⟩
          · refine OwnK.iconst X0 hx (hb hby own_d1_99) (pc' := 100) rfl (v := (3 : Int32)) (by decide) ?_
            refine OwnK.istore X0 hx (hb hby own_d1_100) (pc' := 102) rfl (Ls' := #[.val (.ref p1), .val (.int p2), .val (.int p3), .val (.int (y0 &&& (255 : Int32))), .val (.int (3 : Int32)), .val (.int (128 : Int32)), .val (.int (191 : Int32)), .unset, .unset]) rfl ?_
            refine OwnK.iloadN X0 hx (hb hby own_d1_102) (pc' := 103) rfl (v := (y0 &&& (255 : Int32))) rfl ?_
            refine OwnK.sipush X0 hx (hb hby own_d1_103) (pc' := 106) rfl (v := (240 : Int32)) (by decide) ?_
            refine OwnK.icmp_ne X0 hx (hb hby own_d1_106) (by decide) (pcT := 117) (by decide) (pc' := 109) rfl (fun (hc75 : ¬ (y0 &&& (255 : Int32)).toInt = 240) => ?_) (fun (hc75 : (y0 &&& (255 : Int32)).toInt = 240) => ?_)
            · refine OwnK.iloadN X0 hx (hb hby own_d1_117) (pc' := 118) rfl (v := (y0 &&& (255 : Int32))) rfl ?_
              refine OwnK.sipush X0 hx (hb hby own_d1_118) (pc' := 121) rfl (v := (244 : Int32)) (by decide) ?_
              refine OwnK.icmp_ne X0 hx (hb hby own_d1_121) (by decide) (pcT := 134) (by decide) (pc' := 124) rfl (fun (hc76 : ¬ (y0 &&& (255 : Int32)).toInt = 244) => ?_) (fun (hc76 : (y0 &&& (255 : Int32)).toInt = 244) => ?_)
              · refine OwnK.iloadN X0 hx (hb hby own_d1_134) (pc' := 135) rfl (v := p3) rfl ?_
                refine OwnK.iloadN X0 hx (hb hby own_d1_135) (pc' := 136) rfl (v := p2) rfl ?_
                refine OwnK.isub X0 hx (hb hby own_d1_136) (pc' := 137) rfl ?_
                refine OwnK.iload X0 hx (hb hby own_d1_137) (pc' := 139) rfl (v := (3 : Int32)) rfl ?_
                refine OwnK.icmp_gt X0 hx (hb hby own_d1_139) (by decide) (pcT := 144) (by decide) (pc' := 142) rfl (fun (hc77 : 3 < (p3 - p2).toInt) => ?_) (fun (hc77 : (p3 - p2).toInt ≤ 3) => ?_)
                · refine OwnK.iconst X0 hx (hb hby own_d1_144) (pc' := 145) rfl (v := (1 : Int32)) (by decide) ?_
                  refine OwnK.istore X0 hx (hb hby own_d1_145) (pc' := 147) rfl (Ls' := #[.val (.ref p1), .val (.int p2), .val (.int p3), .val (.int (y0 &&& (255 : Int32))), .val (.int (3 : Int32)), .val (.int (128 : Int32)), .val (.int (191 : Int32)), .val (.int (1 : Int32)), .unset]) rfl ?_
                  refine OwnK.iload X0 hx (hb hby own_d1_147) (pc' := 149) rfl (v := (1 : Int32)) rfl ?_
                  refine OwnK.iload X0 hx (hb hby own_d1_149) (pc' := 151) rfl (v := (3 : Int32)) rfl ?_
                  refine OwnK.icmp_gt X0 hx (hb hby own_d1_151) (by decide) (pcT := 198) (by decide) (pc' := 154) rfl (fun (hc151 : 3 < 1) => absurd hc151 (by decide)) (fun hc151 => ?_)
                  refine OwnK.aloadN X0 hx (hb hby own_d1_154) (pc' := 155) rfl (v := (.ref p1)) rfl rfl ?_
                  refine OwnK.iloadN X0 hx (hb hby own_d1_155) (pc' := 156) rfl (v := p2) rfl ?_
                  refine OwnK.iload X0 hx (hb hby own_d1_156) (pc' := 158) rfl (v := (1 : Int32)) rfl ?_
                  refine OwnK.iadd X0 hx (hb hby own_d1_158) (pc' := 159) rfl ?_
                  have hj1 : (p2 + (1 : Int32)).toInt = ((i + 1 : Nat) : Int) := by rw [own_addk (by omega) (by omega) (1 : Int32) (by decide) (by decide), show ((1 : Int32)).toInt = 1 from by decide]; omega
                  refine OwnK.baload X0 hx hZ e0 V0 (by omega) (by show _ < (5 : Int); omega) (v := (.int y1)) (by rw [OwnK.jnat hj1]; exact hv1) (hb hby own_d1_159) (pc' := 160) rfl ?_
                  refine OwnK.sipush X0 hx (hb hby own_d1_160) (pc' := 163) rfl (v := (255 : Int32)) (by decide) ?_
                  refine OwnK.iand X0 hx (hb hby own_d1_163) (pc' := 164) rfl ?_
                  refine OwnK.istore X0 hx (hb hby own_d1_164) (pc' := 166) rfl (Ls' := #[.val (.ref p1), .val (.int p2), .val (.int p3), .val (.int (y0 &&& (255 : Int32))), .val (.int (3 : Int32)), .val (.int (128 : Int32)), .val (.int (191 : Int32)), .val (.int (1 : Int32)), .val (.int (y1 &&& (255 : Int32)))]) rfl ?_
                  refine OwnK.iload X0 hx (hb hby own_d1_166) (pc' := 168) rfl (v := (y1 &&& (255 : Int32))) rfl ?_
                  refine OwnK.iload X0 hx (hb hby own_d1_168) (pc' := 170) rfl (v := (128 : Int32)) rfl ?_
                  refine OwnK.icmp_lt X0 hx (hb hby own_d1_170) (by decide) (pcT := 180) (by decide) (pc' := 173) rfl (fun (hc78 : (y1 &&& (255 : Int32)).toInt < 128) => ?_) (fun (hc78 : 128 ≤ (y1 &&& (255 : Int32)).toInt) => ?_)
                  · refine OwnK.iconst X0 hx (hb hby own_d1_180) (pc' := 181) rfl (v := (-1 : Int32)) (by decide) ?_
                    refine OwnK.retI_ X0 hx hret hlk (hb hby own_d1_181) (by decide) (by decide) ?_
                    exact ⟨congrArg (fun q => some (Value.int q)) (own_res0 (own_n0 (by omega) (by omega) (by omega))), e0, rfl⟩
                  · refine OwnK.iload X0 hx (hb hby own_d1_173) (pc' := 175) rfl (v := (y1 &&& (255 : Int32))) rfl ?_
                    refine OwnK.iload X0 hx (hb hby own_d1_175) (pc' := 177) rfl (v := (191 : Int32)) rfl ?_
                    refine OwnK.icmp_le X0 hx (hb hby own_d1_177) (by decide) (pcT := 182) (by decide) (pc' := 180) rfl (fun (hc79 : (y1 &&& (255 : Int32)).toInt ≤ 191) => ?_) (fun (hc79 : 191 < (y1 &&& (255 : Int32)).toInt) => ?_)
                    · refine OwnK.sipush X0 hx (hb hby own_d1_182) (pc' := 185) rfl (v := (128 : Int32)) (by decide) ?_
                      refine OwnK.istore X0 hx (hb hby own_d1_185) (pc' := 187) rfl (Ls' := #[.val (.ref p1), .val (.int p2), .val (.int p3), .val (.int (y0 &&& (255 : Int32))), .val (.int (3 : Int32)), .val (.int (128 : Int32)), .val (.int (191 : Int32)), .val (.int (1 : Int32)), .val (.int (y1 &&& (255 : Int32)))]) rfl ?_
                      refine OwnK.sipush X0 hx (hb hby own_d1_187) (pc' := 190) rfl (v := (191 : Int32)) (by decide) ?_
                      refine OwnK.istore X0 hx (hb hby own_d1_190) (pc' := 192) rfl (Ls' := #[.val (.ref p1), .val (.int p2), .val (.int p3), .val (.int (y0 &&& (255 : Int32))), .val (.int (3 : Int32)), .val (.int (128 : Int32)), .val (.int (191 : Int32)), .val (.int (1 : Int32)), .val (.int (y1 &&& (255 : Int32)))]) rfl ?_
                      refine OwnK.iincL X0 hx (hb hby own_d1_192) (pc' := 195) rfl (x := (1 : Int32)) rfl (v := (2 : Int32)) (by decide) (Ls' := #[.val (.ref p1), .val (.int p2), .val (.int p3), .val (.int (y0 &&& (255 : Int32))), .val (.int (3 : Int32)), .val (.int (128 : Int32)), .val (.int (191 : Int32)), .val (.int (2 : Int32)), .val (.int (y1 &&& (255 : Int32)))]) rfl ?_
                      refine OwnK.goto_ X0 hx (hb hby own_d1_195) (by decide) (pc' := 147) (by decide) ?_
                      refine OwnK.iload X0 hx (hb hby own_d1_147) (pc' := 149) rfl (v := (2 : Int32)) rfl ?_
                      refine OwnK.iload X0 hx (hb hby own_d1_149) (pc' := 151) rfl (v := (3 : Int32)) rfl ?_
                      refine OwnK.icmp_gt X0 hx (hb hby own_d1_151) (by decide) (pcT := 198) (by decide) (pc' := 154) rfl (fun (hc151 : 3 < 2) => absurd hc151 (by decide)) (fun hc151 => ?_)
                      refine OwnK.aloadN X0 hx (hb hby own_d1_154) (pc' := 155) rfl (v := (.ref p1)) rfl rfl ?_
                      refine OwnK.iloadN X0 hx (hb hby own_d1_155) (pc' := 156) rfl (v := p2) rfl ?_
                      refine OwnK.iload X0 hx (hb hby own_d1_156) (pc' := 158) rfl (v := (2 : Int32)) rfl ?_
                      refine OwnK.iadd X0 hx (hb hby own_d1_158) (pc' := 159) rfl ?_
                      have hj2 : (p2 + (2 : Int32)).toInt = ((i + 2 : Nat) : Int) := by rw [own_addk (by omega) (by omega) (2 : Int32) (by decide) (by decide), show ((2 : Int32)).toInt = 2 from by decide]; omega
                      refine OwnK.baload X0 hx hZ e0 V0 (by omega) (by show _ < (5 : Int); omega) (v := (.int y2)) (by rw [OwnK.jnat hj2]; exact hv2) (hb hby own_d1_159) (pc' := 160) rfl ?_
                      refine OwnK.sipush X0 hx (hb hby own_d1_160) (pc' := 163) rfl (v := (255 : Int32)) (by decide) ?_
                      refine OwnK.iand X0 hx (hb hby own_d1_163) (pc' := 164) rfl ?_
                      refine OwnK.istore X0 hx (hb hby own_d1_164) (pc' := 166) rfl (Ls' := #[.val (.ref p1), .val (.int p2), .val (.int p3), .val (.int (y0 &&& (255 : Int32))), .val (.int (3 : Int32)), .val (.int (128 : Int32)), .val (.int (191 : Int32)), .val (.int (2 : Int32)), .val (.int (y2 &&& (255 : Int32)))]) rfl ?_
                      refine OwnK.iload X0 hx (hb hby own_d1_166) (pc' := 168) rfl (v := (y2 &&& (255 : Int32))) rfl ?_
                      refine OwnK.iload X0 hx (hb hby own_d1_168) (pc' := 170) rfl (v := (128 : Int32)) rfl ?_
                      refine OwnK.icmp_lt X0 hx (hb hby own_d1_170) (by decide) (pcT := 180) (by decide) (pc' := 173) rfl (fun (hc80 : (y2 &&& (255 : Int32)).toInt < 128) => ?_) (fun (hc80 : 128 ≤ (y2 &&& (255 : Int32)).toInt) => ?_)
                      · refine OwnK.iconst X0 hx (hb hby own_d1_180) (pc' := 181) rfl (v := (-1 : Int32)) (by decide) ?_
                        refine OwnK.retI_ X0 hx hret hlk (hb hby own_d1_181) (by decide) (by decide) ?_
                        exact ⟨congrArg (fun q => some (Value.int q)) (own_res0 (own_n0 (by omega) (by omega) (by omega))), e0, rfl⟩
                      · refine OwnK.iload X0 hx (hb hby own_d1_173) (pc' := 175) rfl (v := (y2 &&& (255 : Int32))) rfl ?_
                        refine OwnK.iload X0 hx (hb hby own_d1_175) (pc' := 177) rfl (v := (191 : Int32)) rfl ?_
                        refine OwnK.icmp_le X0 hx (hb hby own_d1_177) (by decide) (pcT := 182) (by decide) (pc' := 180) rfl (fun (hc81 : (y2 &&& (255 : Int32)).toInt ≤ 191) => ?_) (fun (hc81 : 191 < (y2 &&& (255 : Int32)).toInt) => ?_)
                        · refine OwnK.sipush X0 hx (hb hby own_d1_182) (pc' := 185) rfl (v := (128 : Int32)) (by decide) ?_
                          refine OwnK.istore X0 hx (hb hby own_d1_185) (pc' := 187) rfl (Ls' := #[.val (.ref p1), .val (.int p2), .val (.int p3), .val (.int (y0 &&& (255 : Int32))), .val (.int (3 : Int32)), .val (.int (128 : Int32)), .val (.int (191 : Int32)), .val (.int (2 : Int32)), .val (.int (y2 &&& (255 : Int32)))]) rfl ?_
                          refine OwnK.sipush X0 hx (hb hby own_d1_187) (pc' := 190) rfl (v := (191 : Int32)) (by decide) ?_
                          refine OwnK.istore X0 hx (hb hby own_d1_190) (pc' := 192) rfl (Ls' := #[.val (.ref p1), .val (.int p2), .val (.int p3), .val (.int (y0 &&& (255 : Int32))), .val (.int (3 : Int32)), .val (.int (128 : Int32)), .val (.int (191 : Int32)), .val (.int (2 : Int32)), .val (.int (y2 &&& (255 : Int32)))]) rfl ?_
                          refine OwnK.iincL X0 hx (hb hby own_d1_192) (pc' := 195) rfl (x := (2 : Int32)) rfl (v := (3 : Int32)) (by decide) (Ls' := #[.val (.ref p1), .val (.int p2), .val (.int p3), .val (.int (y0 &&& (255 : Int32))), .val (.int (3 : Int32)), .val (.int (128 : Int32)), .val (.int (191 : Int32)), .val (.int (3 : Int32)), .val (.int (y2 &&& (255 : Int32)))]) rfl ?_
                          refine OwnK.goto_ X0 hx (hb hby own_d1_195) (by decide) (pc' := 147) (by decide) ?_
                          refine OwnK.iload X0 hx (hb hby own_d1_147) (pc' := 149) rfl (v := (3 : Int32)) rfl ?_
                          refine OwnK.iload X0 hx (hb hby own_d1_149) (pc' := 151) rfl (v := (3 : Int32)) rfl ?_
                          refine OwnK.icmp_gt X0 hx (hb hby own_d1_151) (by decide) (pcT := 198) (by decide) (pc' := 154) rfl (fun (hc151 : 3 < 3) => absurd hc151 (by decide)) (fun hc151 => ?_)
                          refine OwnK.aloadN X0 hx (hb hby own_d1_154) (pc' := 155) rfl (v := (.ref p1)) rfl rfl ?_
                          refine OwnK.iloadN X0 hx (hb hby own_d1_155) (pc' := 156) rfl (v := p2) rfl ?_
                          refine OwnK.iload X0 hx (hb hby own_d1_156) (pc' := 158) rfl (v := (3 : Int32)) rfl ?_
                          refine OwnK.iadd X0 hx (hb hby own_d1_158) (pc' := 159) rfl ?_
                          have hj3 : (p2 + (3 : Int32)).toInt = ((i + 3 : Nat) : Int) := by rw [own_addk (by omega) (by omega) (3 : Int32) (by decide) (by decide), show ((3 : Int32)).toInt = 3 from by decide]; omega
                          refine OwnK.baload X0 hx hZ e0 V0 (by omega) (by show _ < (5 : Int); omega) (v := (.int y3)) (by rw [OwnK.jnat hj3]; exact hv3) (hb hby own_d1_159) (pc' := 160) rfl ?_
                          refine OwnK.sipush X0 hx (hb hby own_d1_160) (pc' := 163) rfl (v := (255 : Int32)) (by decide) ?_
                          refine OwnK.iand X0 hx (hb hby own_d1_163) (pc' := 164) rfl ?_
                          refine OwnK.istore X0 hx (hb hby own_d1_164) (pc' := 166) rfl (Ls' := #[.val (.ref p1), .val (.int p2), .val (.int p3), .val (.int (y0 &&& (255 : Int32))), .val (.int (3 : Int32)), .val (.int (128 : Int32)), .val (.int (191 : Int32)), .val (.int (3 : Int32)), .val (.int (y3 &&& (255 : Int32)))]) rfl ?_
                          refine OwnK.iload X0 hx (hb hby own_d1_166) (pc' := 168) rfl (v := (y3 &&& (255 : Int32))) rfl ?_
                          refine OwnK.iload X0 hx (hb hby own_d1_168) (pc' := 170) rfl (v := (128 : Int32)) rfl ?_
                          refine OwnK.icmp_lt X0 hx (hb hby own_d1_170) (by decide) (pcT := 180) (by decide) (pc' := 173) rfl (fun (hc82 : (y3 &&& (255 : Int32)).toInt < 128) => ?_) (fun (hc82 : 128 ≤ (y3 &&& (255 : Int32)).toInt) => ?_)
                          · refine OwnK.iconst X0 hx (hb hby own_d1_180) (pc' := 181) rfl (v := (-1 : Int32)) (by decide) ?_
                            refine OwnK.retI_ X0 hx hret hlk (hb hby own_d1_181) (by decide) (by decide) ?_
                            exact ⟨congrArg (fun q => some (Value.int q)) (own_res0 (own_n0 (by omega) (by omega) (by omega))), e0, rfl⟩
                          · refine OwnK.iload X0 hx (hb hby own_d1_173) (pc' := 175) rfl (v := (y3 &&& (255 : Int32))) rfl ?_
                            refine OwnK.iload X0 hx (hb hby own_d1_175) (pc' := 177) rfl (v := (191 : Int32)) rfl ?_
                            refine OwnK.icmp_le X0 hx (hb hby own_d1_177) (by decide) (pcT := 182) (by decide) (pc' := 180) rfl (fun (hc83 : (y3 &&& (255 : Int32)).toInt ≤ 191) => ?_) (fun (hc83 : 191 < (y3 &&& (255 : Int32)).toInt) => ?_)
                            · refine OwnK.sipush X0 hx (hb hby own_d1_182) (pc' := 185) rfl (v := (128 : Int32)) (by decide) ?_
                              refine OwnK.istore X0 hx (hb hby own_d1_185) (pc' := 187) rfl (Ls' := #[.val (.ref p1), .val (.int p2), .val (.int p3), .val (.int (y0 &&& (255 : Int32))), .val (.int (3 : Int32)), .val (.int (128 : Int32)), .val (.int (191 : Int32)), .val (.int (3 : Int32)), .val (.int (y3 &&& (255 : Int32)))]) rfl ?_
                              refine OwnK.sipush X0 hx (hb hby own_d1_187) (pc' := 190) rfl (v := (191 : Int32)) (by decide) ?_
                              refine OwnK.istore X0 hx (hb hby own_d1_190) (pc' := 192) rfl (Ls' := #[.val (.ref p1), .val (.int p2), .val (.int p3), .val (.int (y0 &&& (255 : Int32))), .val (.int (3 : Int32)), .val (.int (128 : Int32)), .val (.int (191 : Int32)), .val (.int (3 : Int32)), .val (.int (y3 &&& (255 : Int32)))]) rfl ?_
                              refine OwnK.iincL X0 hx (hb hby own_d1_192) (pc' := 195) rfl (x := (3 : Int32)) rfl (v := (4 : Int32)) (by decide) (Ls' := #[.val (.ref p1), .val (.int p2), .val (.int p3), .val (.int (y0 &&& (255 : Int32))), .val (.int (3 : Int32)), .val (.int (128 : Int32)), .val (.int (191 : Int32)), .val (.int (4 : Int32)), .val (.int (y3 &&& (255 : Int32)))]) rfl ?_
                              refine OwnK.goto_ X0 hx (hb hby own_d1_195) (by decide) (pc' := 147) (by decide) ?_
                              refine OwnK.iload X0 hx (hb hby own_d1_147) (pc' := 149) rfl (v := (4 : Int32)) rfl ?_
                              refine OwnK.iload X0 hx (hb hby own_d1_149) (pc' := 151) rfl (v := (3 : Int32)) rfl ?_
                              refine OwnK.icmp_gt X0 hx (hb hby own_d1_151) (by decide) (pcT := 198) (by decide) (pc' := 154) rfl (fun hc151 => ?_) (fun (hc151 : 4 ≤ 3) => absurd hc151 (by decide))
                              refine OwnK.iloadN X0 hx (hb hby own_d1_198) (pc' := 199) rfl (v := p2) rfl ?_
                              refine OwnK.iload X0 hx (hb hby own_d1_199) (pc' := 201) rfl (v := (3 : Int32)) rfl ?_
                              refine OwnK.iadd X0 hx (hb hby own_d1_201) (pc' := 202) rfl ?_
                              refine OwnK.iconst X0 hx (hb hby own_d1_202) (pc' := 203) rfl (v := (1 : Int32)) (by decide) ?_
                              refine OwnK.iadd X0 hx (hb hby own_d1_203) (pc' := 204) rfl ?_
                              refine OwnK.retI_ X0 hx hret hlk (hb hby own_d1_204) (by decide) (by decide) ?_
                              have hr3 := own_addk (p := p2) (by omega) (by omega) (3 : Int32) (by decide) (by decide)
                              have hs3 := own_addk (p := p2 + (3 : Int32)) (by rw [hr3]; show 0 ≤ _ + (3 : Int); omega) (by rw [hr3]; show _ + (3 : Int) ≤ 5; omega) (1 : Int32) (by decide) (by decide)
                              rw [hr3, show ((3 : Int32)).toInt = 3 from by decide, show ((1 : Int32)).toInt = 1 from by decide] at hs3
                              have hn3 := own_n4 (x0 := (y0 &&& (255 : Int32)).toInt) (x1 := (y1 &&& (255 : Int32)).toInt) (x2 := (y2 &&& (255 : Int32)).toInt) (x3 := (y3 &&& (255 : Int32)).toInt) (len := p3.toInt - p2.toInt) (by omega)
                              exact ⟨congrArg (fun q => some (Value.int q)) (own_resk (by omega) (by omega)), e0, rfl⟩
                            · refine OwnK.iconst X0 hx (hb hby own_d1_180) (pc' := 181) rfl (v := (-1 : Int32)) (by decide) ?_
                              refine OwnK.retI_ X0 hx hret hlk (hb hby own_d1_181) (by decide) (by decide) ?_
                              exact ⟨congrArg (fun q => some (Value.int q)) (own_res0 (own_n0 (by omega) (by omega) (by omega))), e0, rfl⟩
                        · refine OwnK.iconst X0 hx (hb hby own_d1_180) (pc' := 181) rfl (v := (-1 : Int32)) (by decide) ?_
                          refine OwnK.retI_ X0 hx hret hlk (hb hby own_d1_181) (by decide) (by decide) ?_
                          exact ⟨congrArg (fun q => some (Value.int q)) (own_res0 (own_n0 (by omega) (by omega) (by omega))), e0, rfl⟩
                    · refine OwnK.iconst X0 hx (hb hby own_d1_180) (pc' := 181) rfl (v := (-1 : Int32)) (by decide) ?_
                      refine OwnK.retI_ X0 hx hret hlk (hb hby own_d1_181) (by decide) (by decide) ?_
                      exact ⟨congrArg (fun q => some (Value.int q)) (own_res0 (own_n0 (by omega) (by omega) (by omega))), e0, rfl⟩
                · refine OwnK.iconst X0 hx (hb hby own_d1_142) (pc' := 143) rfl (v := (-1 : Int32)) (by decide) ?_
                  refine OwnK.retI_ X0 hx hret hlk (hb hby own_d1_143) (by decide) (by decide) ?_
                  exact ⟨congrArg (fun q => some (Value.int q)) (own_res0 (own_n0 (by omega) (by omega) (by omega))), e0, rfl⟩
              · refine OwnK.sipush X0 hx (hb hby own_d1_124) (pc' := 127) rfl (v := (143 : Int32)) (by decide) ?_
                refine OwnK.istore X0 hx (hb hby own_d1_127) (pc' := 129) rfl (Ls' := #[.val (.ref p1), .val (.int p2), .val (.int p3), .val (.int (y0 &&& (255 : Int32))), .val (.int (3 : Int32)), .val (.int (128 : Int32)), .val (.int (143 : Int32)), .unset, .unset]) rfl ?_
                refine OwnK.goto_ X0 hx (hb hby own_d1_129) (by decide) (pc' := 134) (by decide) ?_
                refine OwnK.iloadN X0 hx (hb hby own_d1_134) (pc' := 135) rfl (v := p3) rfl ?_
                refine OwnK.iloadN X0 hx (hb hby own_d1_135) (pc' := 136) rfl (v := p2) rfl ?_
                refine OwnK.isub X0 hx (hb hby own_d1_136) (pc' := 137) rfl ?_
                refine OwnK.iload X0 hx (hb hby own_d1_137) (pc' := 139) rfl (v := (3 : Int32)) rfl ?_
                refine OwnK.icmp_gt X0 hx (hb hby own_d1_139) (by decide) (pcT := 144) (by decide) (pc' := 142) rfl (fun (hc84 : 3 < (p3 - p2).toInt) => ?_) (fun (hc84 : (p3 - p2).toInt ≤ 3) => ?_)
                · refine OwnK.iconst X0 hx (hb hby own_d1_144) (pc' := 145) rfl (v := (1 : Int32)) (by decide) ?_
                  refine OwnK.istore X0 hx (hb hby own_d1_145) (pc' := 147) rfl (Ls' := #[.val (.ref p1), .val (.int p2), .val (.int p3), .val (.int (y0 &&& (255 : Int32))), .val (.int (3 : Int32)), .val (.int (128 : Int32)), .val (.int (143 : Int32)), .val (.int (1 : Int32)), .unset]) rfl ?_
                  refine OwnK.iload X0 hx (hb hby own_d1_147) (pc' := 149) rfl (v := (1 : Int32)) rfl ?_
                  refine OwnK.iload X0 hx (hb hby own_d1_149) (pc' := 151) rfl (v := (3 : Int32)) rfl ?_
                  refine OwnK.icmp_gt X0 hx (hb hby own_d1_151) (by decide) (pcT := 198) (by decide) (pc' := 154) rfl (fun (hc151 : 3 < 1) => absurd hc151 (by decide)) (fun hc151 => ?_)
                  refine OwnK.aloadN X0 hx (hb hby own_d1_154) (pc' := 155) rfl (v := (.ref p1)) rfl rfl ?_
                  refine OwnK.iloadN X0 hx (hb hby own_d1_155) (pc' := 156) rfl (v := p2) rfl ?_
                  refine OwnK.iload X0 hx (hb hby own_d1_156) (pc' := 158) rfl (v := (1 : Int32)) rfl ?_
                  refine OwnK.iadd X0 hx (hb hby own_d1_158) (pc' := 159) rfl ?_
                  have hj1 : (p2 + (1 : Int32)).toInt = ((i + 1 : Nat) : Int) := by rw [own_addk (by omega) (by omega) (1 : Int32) (by decide) (by decide), show ((1 : Int32)).toInt = 1 from by decide]; omega
                  refine OwnK.baload X0 hx hZ e0 V0 (by omega) (by show _ < (5 : Int); omega) (v := (.int y1)) (by rw [OwnK.jnat hj1]; exact hv1) (hb hby own_d1_159) (pc' := 160) rfl ?_
                  refine OwnK.sipush X0 hx (hb hby own_d1_160) (pc' := 163) rfl (v := (255 : Int32)) (by decide) ?_
                  refine OwnK.iand X0 hx (hb hby own_d1_163) (pc' := 164) rfl ?_
                  refine OwnK.istore X0 hx (hb hby own_d1_164) (pc' := 166) rfl (Ls' := #[.val (.ref p1), .val (.int p2), .val (.int p3), .val (.int (y0 &&& (255 : Int32))), .val (.int (3 : Int32)), .val (.int (128 : Int32)), .val (.int (143 : Int32)), .val (.int (1 : Int32)), .val (.int (y1 &&& (255 : Int32)))]) rfl ?_
                  refine OwnK.iload X0 hx (hb hby own_d1_166) (pc' := 168) rfl (v := (y1 &&& (255 : Int32))) rfl ?_
                  refine OwnK.iload X0 hx (hb hby own_d1_168) (pc' := 170) rfl (v := (128 : Int32)) rfl ?_
                  refine OwnK.icmp_lt X0 hx (hb hby own_d1_170) (by decide) (pcT := 180) (by decide) (pc' := 173) rfl (fun (hc85 : (y1 &&& (255 : Int32)).toInt < 128) => ?_) (fun (hc85 : 128 ≤ (y1 &&& (255 : Int32)).toInt) => ?_)
                  · refine OwnK.iconst X0 hx (hb hby own_d1_180) (pc' := 181) rfl (v := (-1 : Int32)) (by decide) ?_
                    refine OwnK.retI_ X0 hx hret hlk (hb hby own_d1_181) (by decide) (by decide) ?_
                    exact ⟨congrArg (fun q => some (Value.int q)) (own_res0 (own_n0 (by omega) (by omega) (by omega))), e0, rfl⟩
                  · refine OwnK.iload X0 hx (hb hby own_d1_173) (pc' := 175) rfl (v := (y1 &&& (255 : Int32))) rfl ?_
                    refine OwnK.iload X0 hx (hb hby own_d1_175) (pc' := 177) rfl (v := (143 : Int32)) rfl ?_
                    refine OwnK.icmp_le X0 hx (hb hby own_d1_177) (by decide) (pcT := 182) (by decide) (pc' := 180) rfl (fun (hc86 : (y1 &&& (255 : Int32)).toInt ≤ 143) => ?_) (fun (hc86 : 143 < (y1 &&& (255 : Int32)).toInt) => ?_)
                    · refine OwnK.sipush X0 hx (hb hby own_d1_182) (pc' := 185) rfl (v := (128 : Int32)) (by decide) ?_
                      refine OwnK.istore X0 hx (hb hby own_d1_185) (pc' := 187) rfl (Ls' := #[.val (.ref p1), .val (.int p2), .val (.int p3), .val (.int (y0 &&& (255 : Int32))), .val (.int (3 : Int32)), .val (.int (128 : Int32)), .val (.int (143 : Int32)), .val (.int (1 : Int32)), .val (.int (y1 &&& (255 : Int32)))]) rfl ?_
                      refine OwnK.sipush X0 hx (hb hby own_d1_187) (pc' := 190) rfl (v := (191 : Int32)) (by decide) ?_
                      refine OwnK.istore X0 hx (hb hby own_d1_190) (pc' := 192) rfl (Ls' := #[.val (.ref p1), .val (.int p2), .val (.int p3), .val (.int (y0 &&& (255 : Int32))), .val (.int (3 : Int32)), .val (.int (128 : Int32)), .val (.int (191 : Int32)), .val (.int (1 : Int32)), .val (.int (y1 &&& (255 : Int32)))]) rfl ?_
                      refine OwnK.iincL X0 hx (hb hby own_d1_192) (pc' := 195) rfl (x := (1 : Int32)) rfl (v := (2 : Int32)) (by decide) (Ls' := #[.val (.ref p1), .val (.int p2), .val (.int p3), .val (.int (y0 &&& (255 : Int32))), .val (.int (3 : Int32)), .val (.int (128 : Int32)), .val (.int (191 : Int32)), .val (.int (2 : Int32)), .val (.int (y1 &&& (255 : Int32)))]) rfl ?_
                      refine OwnK.goto_ X0 hx (hb hby own_d1_195) (by decide) (pc' := 147) (by decide) ?_
                      refine OwnK.iload X0 hx (hb hby own_d1_147) (pc' := 149) rfl (v := (2 : Int32)) rfl ?_
                      refine OwnK.iload X0 hx (hb hby own_d1_149) (pc' := 151) rfl (v := (3 : Int32)) rfl ?_
                      refine OwnK.icmp_gt X0 hx (hb hby own_d1_151) (by decide) (pcT := 198) (by decide) (pc' := 154) rfl (fun (hc151 : 3 < 2) => absurd hc151 (by decide)) (fun hc151 => ?_)
                      refine OwnK.aloadN X0 hx (hb hby own_d1_154) (pc' := 155) rfl (v := (.ref p1)) rfl rfl ?_
                      refine OwnK.iloadN X0 hx (hb hby own_d1_155) (pc' := 156) rfl (v := p2) rfl ?_
                      refine OwnK.iload X0 hx (hb hby own_d1_156) (pc' := 158) rfl (v := (2 : Int32)) rfl ?_
                      refine OwnK.iadd X0 hx (hb hby own_d1_158) (pc' := 159) rfl ?_
                      have hj2 : (p2 + (2 : Int32)).toInt = ((i + 2 : Nat) : Int) := by rw [own_addk (by omega) (by omega) (2 : Int32) (by decide) (by decide), show ((2 : Int32)).toInt = 2 from by decide]; omega
                      refine OwnK.baload X0 hx hZ e0 V0 (by omega) (by show _ < (5 : Int); omega) (v := (.int y2)) (by rw [OwnK.jnat hj2]; exact hv2) (hb hby own_d1_159) (pc' := 160) rfl ?_
                      refine OwnK.sipush X0 hx (hb hby own_d1_160) (pc' := 163) rfl (v := (255 : Int32)) (by decide) ?_
                      refine OwnK.iand X0 hx (hb hby own_d1_163) (pc' := 164) rfl ?_
                      refine OwnK.istore X0 hx (hb hby own_d1_164) (pc' := 166) rfl (Ls' := #[.val (.ref p1), .val (.int p2), .val (.int p3), .val (.int (y0 &&& (255 : Int32))), .val (.int (3 : Int32)), .val (.int (128 : Int32)), .val (.int (191 : Int32)), .val (.int (2 : Int32)), .val (.int (y2 &&& (255 : Int32)))]) rfl ?_
                      refine OwnK.iload X0 hx (hb hby own_d1_166) (pc' := 168) rfl (v := (y2 &&& (255 : Int32))) rfl ?_
                      refine OwnK.iload X0 hx (hb hby own_d1_168) (pc' := 170) rfl (v := (128 : Int32)) rfl ?_
                      refine OwnK.icmp_lt X0 hx (hb hby own_d1_170) (by decide) (pcT := 180) (by decide) (pc' := 173) rfl (fun (hc87 : (y2 &&& (255 : Int32)).toInt < 128) => ?_) (fun (hc87 : 128 ≤ (y2 &&& (255 : Int32)).toInt) => ?_)
                      · refine OwnK.iconst X0 hx (hb hby own_d1_180) (pc' := 181) rfl (v := (-1 : Int32)) (by decide) ?_
                        refine OwnK.retI_ X0 hx hret hlk (hb hby own_d1_181) (by decide) (by decide) ?_
                        exact ⟨congrArg (fun q => some (Value.int q)) (own_res0 (own_n0 (by omega) (by omega) (by omega))), e0, rfl⟩
                      · refine OwnK.iload X0 hx (hb hby own_d1_173) (pc' := 175) rfl (v := (y2 &&& (255 : Int32))) rfl ?_
                        refine OwnK.iload X0 hx (hb hby own_d1_175) (pc' := 177) rfl (v := (191 : Int32)) rfl ?_
                        refine OwnK.icmp_le X0 hx (hb hby own_d1_177) (by decide) (pcT := 182) (by decide) (pc' := 180) rfl (fun (hc88 : (y2 &&& (255 : Int32)).toInt ≤ 191) => ?_) (fun (hc88 : 191 < (y2 &&& (255 : Int32)).toInt) => ?_)
                        · refine OwnK.sipush X0 hx (hb hby own_d1_182) (pc' := 185) rfl (v := (128 : Int32)) (by decide) ?_
                          refine OwnK.istore X0 hx (hb hby own_d1_185) (pc' := 187) rfl (Ls' := #[.val (.ref p1), .val (.int p2), .val (.int p3), .val (.int (y0 &&& (255 : Int32))), .val (.int (3 : Int32)), .val (.int (128 : Int32)), .val (.int (191 : Int32)), .val (.int (2 : Int32)), .val (.int (y2 &&& (255 : Int32)))]) rfl ?_
                          refine OwnK.sipush X0 hx (hb hby own_d1_187) (pc' := 190) rfl (v := (191 : Int32)) (by decide) ?_
                          refine OwnK.istore X0 hx (hb hby own_d1_190) (pc' := 192) rfl (Ls' := #[.val (.ref p1), .val (.int p2), .val (.int p3), .val (.int (y0 &&& (255 : Int32))), .val (.int (3 : Int32)), .val (.int (128 : Int32)), .val (.int (191 : Int32)), .val (.int (2 : Int32)), .val (.int (y2 &&& (255 : Int32)))]) rfl ?_
                          refine OwnK.iincL X0 hx (hb hby own_d1_192) (pc' := 195) rfl (x := (2 : Int32)) rfl (v := (3 : Int32)) (by decide) (Ls' := #[.val (.ref p1), .val (.int p2), .val (.int p3), .val (.int (y0 &&& (255 : Int32))), .val (.int (3 : Int32)), .val (.int (128 : Int32)), .val (.int (191 : Int32)), .val (.int (3 : Int32)), .val (.int (y2 &&& (255 : Int32)))]) rfl ?_
                          refine OwnK.goto_ X0 hx (hb hby own_d1_195) (by decide) (pc' := 147) (by decide) ?_
                          refine OwnK.iload X0 hx (hb hby own_d1_147) (pc' := 149) rfl (v := (3 : Int32)) rfl ?_
                          refine OwnK.iload X0 hx (hb hby own_d1_149) (pc' := 151) rfl (v := (3 : Int32)) rfl ?_
                          refine OwnK.icmp_gt X0 hx (hb hby own_d1_151) (by decide) (pcT := 198) (by decide) (pc' := 154) rfl (fun (hc151 : 3 < 3) => absurd hc151 (by decide)) (fun hc151 => ?_)
                          refine OwnK.aloadN X0 hx (hb hby own_d1_154) (pc' := 155) rfl (v := (.ref p1)) rfl rfl ?_
                          refine OwnK.iloadN X0 hx (hb hby own_d1_155) (pc' := 156) rfl (v := p2) rfl ?_
                          refine OwnK.iload X0 hx (hb hby own_d1_156) (pc' := 158) rfl (v := (3 : Int32)) rfl ?_
                          refine OwnK.iadd X0 hx (hb hby own_d1_158) (pc' := 159) rfl ?_
                          have hj3 : (p2 + (3 : Int32)).toInt = ((i + 3 : Nat) : Int) := by rw [own_addk (by omega) (by omega) (3 : Int32) (by decide) (by decide), show ((3 : Int32)).toInt = 3 from by decide]; omega
                          refine OwnK.baload X0 hx hZ e0 V0 (by omega) (by show _ < (5 : Int); omega) (v := (.int y3)) (by rw [OwnK.jnat hj3]; exact hv3) (hb hby own_d1_159) (pc' := 160) rfl ?_
                          refine OwnK.sipush X0 hx (hb hby own_d1_160) (pc' := 163) rfl (v := (255 : Int32)) (by decide) ?_
                          refine OwnK.iand X0 hx (hb hby own_d1_163) (pc' := 164) rfl ?_
                          refine OwnK.istore X0 hx (hb hby own_d1_164) (pc' := 166) rfl (Ls' := #[.val (.ref p1), .val (.int p2), .val (.int p3), .val (.int (y0 &&& (255 : Int32))), .val (.int (3 : Int32)), .val (.int (128 : Int32)), .val (.int (191 : Int32)), .val (.int (3 : Int32)), .val (.int (y3 &&& (255 : Int32)))]) rfl ?_
                          refine OwnK.iload X0 hx (hb hby own_d1_166) (pc' := 168) rfl (v := (y3 &&& (255 : Int32))) rfl ?_
                          refine OwnK.iload X0 hx (hb hby own_d1_168) (pc' := 170) rfl (v := (128 : Int32)) rfl ?_
                          refine OwnK.icmp_lt X0 hx (hb hby own_d1_170) (by decide) (pcT := 180) (by decide) (pc' := 173) rfl (fun (hc89 : (y3 &&& (255 : Int32)).toInt < 128) => ?_) (fun (hc89 : 128 ≤ (y3 &&& (255 : Int32)).toInt) => ?_)
                          · refine OwnK.iconst X0 hx (hb hby own_d1_180) (pc' := 181) rfl (v := (-1 : Int32)) (by decide) ?_
                            refine OwnK.retI_ X0 hx hret hlk (hb hby own_d1_181) (by decide) (by decide) ?_
                            exact ⟨congrArg (fun q => some (Value.int q)) (own_res0 (own_n0 (by omega) (by omega) (by omega))), e0, rfl⟩
                          · refine OwnK.iload X0 hx (hb hby own_d1_173) (pc' := 175) rfl (v := (y3 &&& (255 : Int32))) rfl ?_
                            refine OwnK.iload X0 hx (hb hby own_d1_175) (pc' := 177) rfl (v := (191 : Int32)) rfl ?_
                            refine OwnK.icmp_le X0 hx (hb hby own_d1_177) (by decide) (pcT := 182) (by decide) (pc' := 180) rfl (fun (hc90 : (y3 &&& (255 : Int32)).toInt ≤ 191) => ?_) (fun (hc90 : 191 < (y3 &&& (255 : Int32)).toInt) => ?_)
                            · refine OwnK.sipush X0 hx (hb hby own_d1_182) (pc' := 185) rfl (v := (128 : Int32)) (by decide) ?_
                              refine OwnK.istore X0 hx (hb hby own_d1_185) (pc' := 187) rfl (Ls' := #[.val (.ref p1), .val (.int p2), .val (.int p3), .val (.int (y0 &&& (255 : Int32))), .val (.int (3 : Int32)), .val (.int (128 : Int32)), .val (.int (191 : Int32)), .val (.int (3 : Int32)), .val (.int (y3 &&& (255 : Int32)))]) rfl ?_
                              refine OwnK.sipush X0 hx (hb hby own_d1_187) (pc' := 190) rfl (v := (191 : Int32)) (by decide) ?_
                              refine OwnK.istore X0 hx (hb hby own_d1_190) (pc' := 192) rfl (Ls' := #[.val (.ref p1), .val (.int p2), .val (.int p3), .val (.int (y0 &&& (255 : Int32))), .val (.int (3 : Int32)), .val (.int (128 : Int32)), .val (.int (191 : Int32)), .val (.int (3 : Int32)), .val (.int (y3 &&& (255 : Int32)))]) rfl ?_
                              refine OwnK.iincL X0 hx (hb hby own_d1_192) (pc' := 195) rfl (x := (3 : Int32)) rfl (v := (4 : Int32)) (by decide) (Ls' := #[.val (.ref p1), .val (.int p2), .val (.int p3), .val (.int (y0 &&& (255 : Int32))), .val (.int (3 : Int32)), .val (.int (128 : Int32)), .val (.int (191 : Int32)), .val (.int (4 : Int32)), .val (.int (y3 &&& (255 : Int32)))]) rfl ?_
                              refine OwnK.goto_ X0 hx (hb hby own_d1_195) (by decide) (pc' := 147) (by decide) ?_
                              refine OwnK.iload X0 hx (hb hby own_d1_147) (pc' := 149) rfl (v := (4 : Int32)) rfl ?_
                              refine OwnK.iload X0 hx (hb hby own_d1_149) (pc' := 151) rfl (v := (3 : Int32)) rfl ?_
                              refine OwnK.icmp_gt X0 hx (hb hby own_d1_151) (by decide) (pcT := 198) (by decide) (pc' := 154) rfl (fun hc151 => ?_) (fun (hc151 : 4 ≤ 3) => absurd hc151 (by decide))
                              refine OwnK.iloadN X0 hx (hb hby own_d1_198) (pc' := 199) rfl (v := p2) rfl ?_
                              refine OwnK.iload X0 hx (hb hby own_d1_199) (pc' := 201) rfl (v := (3 : Int32)) rfl ?_
                              refine OwnK.iadd X0 hx (hb hby own_d1_201) (pc' := 202) rfl ?_
                              refine OwnK.iconst X0 hx (hb hby own_d1_202) (pc' := 203) rfl (v := (1 : Int32)) (by decide) ?_
                              refine OwnK.iadd X0 hx (hb hby own_d1_203) (pc' := 204) rfl ?_
                              refine OwnK.retI_ X0 hx hret hlk (hb hby own_d1_204) (by decide) (by decide) ?_
                              have hr3 := own_addk (p := p2) (by omega) (by omega) (3 : Int32) (by decide) (by decide)
                              have hs3 := own_addk (p := p2 + (3 : Int32)) (by rw [hr3]; show 0 ≤ _ + (3 : Int); omega) (by rw [hr3]; show _ + (3 : Int) ≤ 5; omega) (1 : Int32) (by decide) (by decide)
                              rw [hr3, show ((3 : Int32)).toInt = 3 from by decide, show ((1 : Int32)).toInt = 1 from by decide] at hs3
                              have hn3 := own_n4 (x0 := (y0 &&& (255 : Int32)).toInt) (x1 := (y1 &&& (255 : Int32)).toInt) (x2 := (y2 &&& (255 : Int32)).toInt) (x3 := (y3 &&& (255 : Int32)).toInt) (len := p3.toInt - p2.toInt) (by omega)
                              exact ⟨congrArg (fun q => some (Value.int q)) (own_resk (by omega) (by omega)), e0, rfl⟩
                            · refine OwnK.iconst X0 hx (hb hby own_d1_180) (pc' := 181) rfl (v := (-1 : Int32)) (by decide) ?_
                              refine OwnK.retI_ X0 hx hret hlk (hb hby own_d1_181) (by decide) (by decide) ?_
                              exact ⟨congrArg (fun q => some (Value.int q)) (own_res0 (own_n0 (by omega) (by omega) (by omega))), e0, rfl⟩
                        · refine OwnK.iconst X0 hx (hb hby own_d1_180) (pc' := 181) rfl (v := (-1 : Int32)) (by decide) ?_
                          refine OwnK.retI_ X0 hx hret hlk (hb hby own_d1_181) (by decide) (by decide) ?_
                          exact ⟨congrArg (fun q => some (Value.int q)) (own_res0 (own_n0 (by omega) (by omega) (by omega))), e0, rfl⟩
                    · refine OwnK.iconst X0 hx (hb hby own_d1_180) (pc' := 181) rfl (v := (-1 : Int32)) (by decide) ?_
                      refine OwnK.retI_ X0 hx hret hlk (hb hby own_d1_181) (by decide) (by decide) ?_
                      exact ⟨congrArg (fun q => some (Value.int q)) (own_res0 (own_n0 (by omega) (by omega) (by omega))), e0, rfl⟩
                · refine OwnK.iconst X0 hx (hb hby own_d1_142) (pc' := 143) rfl (v := (-1 : Int32)) (by decide) ?_
                  refine OwnK.retI_ X0 hx hret hlk (hb hby own_d1_143) (by decide) (by decide) ?_
                  exact ⟨congrArg (fun q => some (Value.int q)) (own_res0 (own_n0 (by omega) (by omega) (by omega))), e0, rfl⟩
            · refine OwnK.sipush X0 hx (hb hby own_d1_109) (pc' := 112) rfl (v := (144 : Int32)) (by decide) ?_
              refine OwnK.istore X0 hx (hb hby own_d1_112) (pc' := 114) rfl (Ls' := #[.val (.ref p1), .val (.int p2), .val (.int p3), .val (.int (y0 &&& (255 : Int32))), .val (.int (3 : Int32)), .val (.int (144 : Int32)), .val (.int (191 : Int32)), .unset, .unset]) rfl ?_
              refine OwnK.goto_ X0 hx (hb hby own_d1_114) (by decide) (pc' := 134) (by decide) ?_
              refine OwnK.iloadN X0 hx (hb hby own_d1_134) (pc' := 135) rfl (v := p3) rfl ?_
              refine OwnK.iloadN X0 hx (hb hby own_d1_135) (pc' := 136) rfl (v := p2) rfl ?_
              refine OwnK.isub X0 hx (hb hby own_d1_136) (pc' := 137) rfl ?_
              refine OwnK.iload X0 hx (hb hby own_d1_137) (pc' := 139) rfl (v := (3 : Int32)) rfl ?_
              refine OwnK.icmp_gt X0 hx (hb hby own_d1_139) (by decide) (pcT := 144) (by decide) (pc' := 142) rfl (fun (hc91 : 3 < (p3 - p2).toInt) => ?_) (fun (hc91 : (p3 - p2).toInt ≤ 3) => ?_)
              · refine OwnK.iconst X0 hx (hb hby own_d1_144) (pc' := 145) rfl (v := (1 : Int32)) (by decide) ?_
                refine OwnK.istore X0 hx (hb hby own_d1_145) (pc' := 147) rfl (Ls' := #[.val (.ref p1), .val (.int p2), .val (.int p3), .val (.int (y0 &&& (255 : Int32))), .val (.int (3 : Int32)), .val (.int (144 : Int32)), .val (.int (191 : Int32)), .val (.int (1 : Int32)), .unset]) rfl ?_
                refine OwnK.iload X0 hx (hb hby own_d1_147) (pc' := 149) rfl (v := (1 : Int32)) rfl ?_
                refine OwnK.iload X0 hx (hb hby own_d1_149) (pc' := 151) rfl (v := (3 : Int32)) rfl ?_
                refine OwnK.icmp_gt X0 hx (hb hby own_d1_151) (by decide) (pcT := 198) (by decide) (pc' := 154) rfl (fun (hc151 : 3 < 1) => absurd hc151 (by decide)) (fun hc151 => ?_)
                refine OwnK.aloadN X0 hx (hb hby own_d1_154) (pc' := 155) rfl (v := (.ref p1)) rfl rfl ?_
                refine OwnK.iloadN X0 hx (hb hby own_d1_155) (pc' := 156) rfl (v := p2) rfl ?_
                refine OwnK.iload X0 hx (hb hby own_d1_156) (pc' := 158) rfl (v := (1 : Int32)) rfl ?_
                refine OwnK.iadd X0 hx (hb hby own_d1_158) (pc' := 159) rfl ?_
                have hj1 : (p2 + (1 : Int32)).toInt = ((i + 1 : Nat) : Int) := by rw [own_addk (by omega) (by omega) (1 : Int32) (by decide) (by decide), show ((1 : Int32)).toInt = 1 from by decide]; omega
                refine OwnK.baload X0 hx hZ e0 V0 (by omega) (by show _ < (5 : Int); omega) (v := (.int y1)) (by rw [OwnK.jnat hj1]; exact hv1) (hb hby own_d1_159) (pc' := 160) rfl ?_
                refine OwnK.sipush X0 hx (hb hby own_d1_160) (pc' := 163) rfl (v := (255 : Int32)) (by decide) ?_
                refine OwnK.iand X0 hx (hb hby own_d1_163) (pc' := 164) rfl ?_
                refine OwnK.istore X0 hx (hb hby own_d1_164) (pc' := 166) rfl (Ls' := #[.val (.ref p1), .val (.int p2), .val (.int p3), .val (.int (y0 &&& (255 : Int32))), .val (.int (3 : Int32)), .val (.int (144 : Int32)), .val (.int (191 : Int32)), .val (.int (1 : Int32)), .val (.int (y1 &&& (255 : Int32)))]) rfl ?_
                refine OwnK.iload X0 hx (hb hby own_d1_166) (pc' := 168) rfl (v := (y1 &&& (255 : Int32))) rfl ?_
                refine OwnK.iload X0 hx (hb hby own_d1_168) (pc' := 170) rfl (v := (144 : Int32)) rfl ?_
                refine OwnK.icmp_lt X0 hx (hb hby own_d1_170) (by decide) (pcT := 180) (by decide) (pc' := 173) rfl (fun (hc92 : (y1 &&& (255 : Int32)).toInt < 144) => ?_) (fun (hc92 : 144 ≤ (y1 &&& (255 : Int32)).toInt) => ?_)
                · refine OwnK.iconst X0 hx (hb hby own_d1_180) (pc' := 181) rfl (v := (-1 : Int32)) (by decide) ?_
                  refine OwnK.retI_ X0 hx hret hlk (hb hby own_d1_181) (by decide) (by decide) ?_
                  exact ⟨congrArg (fun q => some (Value.int q)) (own_res0 (own_n0 (by omega) (by omega) (by omega))), e0, rfl⟩
                · refine OwnK.iload X0 hx (hb hby own_d1_173) (pc' := 175) rfl (v := (y1 &&& (255 : Int32))) rfl ?_
                  refine OwnK.iload X0 hx (hb hby own_d1_175) (pc' := 177) rfl (v := (191 : Int32)) rfl ?_
                  refine OwnK.icmp_le X0 hx (hb hby own_d1_177) (by decide) (pcT := 182) (by decide) (pc' := 180) rfl (fun (hc93 : (y1 &&& (255 : Int32)).toInt ≤ 191) => ?_) (fun (hc93 : 191 < (y1 &&& (255 : Int32)).toInt) => ?_)
                  · refine OwnK.sipush X0 hx (hb hby own_d1_182) (pc' := 185) rfl (v := (128 : Int32)) (by decide) ?_
                    refine OwnK.istore X0 hx (hb hby own_d1_185) (pc' := 187) rfl (Ls' := #[.val (.ref p1), .val (.int p2), .val (.int p3), .val (.int (y0 &&& (255 : Int32))), .val (.int (3 : Int32)), .val (.int (128 : Int32)), .val (.int (191 : Int32)), .val (.int (1 : Int32)), .val (.int (y1 &&& (255 : Int32)))]) rfl ?_
                    refine OwnK.sipush X0 hx (hb hby own_d1_187) (pc' := 190) rfl (v := (191 : Int32)) (by decide) ?_
                    refine OwnK.istore X0 hx (hb hby own_d1_190) (pc' := 192) rfl (Ls' := #[.val (.ref p1), .val (.int p2), .val (.int p3), .val (.int (y0 &&& (255 : Int32))), .val (.int (3 : Int32)), .val (.int (128 : Int32)), .val (.int (191 : Int32)), .val (.int (1 : Int32)), .val (.int (y1 &&& (255 : Int32)))]) rfl ?_
                    refine OwnK.iincL X0 hx (hb hby own_d1_192) (pc' := 195) rfl (x := (1 : Int32)) rfl (v := (2 : Int32)) (by decide) (Ls' := #[.val (.ref p1), .val (.int p2), .val (.int p3), .val (.int (y0 &&& (255 : Int32))), .val (.int (3 : Int32)), .val (.int (128 : Int32)), .val (.int (191 : Int32)), .val (.int (2 : Int32)), .val (.int (y1 &&& (255 : Int32)))]) rfl ?_
                    refine OwnK.goto_ X0 hx (hb hby own_d1_195) (by decide) (pc' := 147) (by decide) ?_
                    refine OwnK.iload X0 hx (hb hby own_d1_147) (pc' := 149) rfl (v := (2 : Int32)) rfl ?_
                    refine OwnK.iload X0 hx (hb hby own_d1_149) (pc' := 151) rfl (v := (3 : Int32)) rfl ?_
                    refine OwnK.icmp_gt X0 hx (hb hby own_d1_151) (by decide) (pcT := 198) (by decide) (pc' := 154) rfl (fun (hc151 : 3 < 2) => absurd hc151 (by decide)) (fun hc151 => ?_)
                    refine OwnK.aloadN X0 hx (hb hby own_d1_154) (pc' := 155) rfl (v := (.ref p1)) rfl rfl ?_
                    refine OwnK.iloadN X0 hx (hb hby own_d1_155) (pc' := 156) rfl (v := p2) rfl ?_
                    refine OwnK.iload X0 hx (hb hby own_d1_156) (pc' := 158) rfl (v := (2 : Int32)) rfl ?_
                    refine OwnK.iadd X0 hx (hb hby own_d1_158) (pc' := 159) rfl ?_
                    have hj2 : (p2 + (2 : Int32)).toInt = ((i + 2 : Nat) : Int) := by rw [own_addk (by omega) (by omega) (2 : Int32) (by decide) (by decide), show ((2 : Int32)).toInt = 2 from by decide]; omega
                    refine OwnK.baload X0 hx hZ e0 V0 (by omega) (by show _ < (5 : Int); omega) (v := (.int y2)) (by rw [OwnK.jnat hj2]; exact hv2) (hb hby own_d1_159) (pc' := 160) rfl ?_
                    refine OwnK.sipush X0 hx (hb hby own_d1_160) (pc' := 163) rfl (v := (255 : Int32)) (by decide) ?_
                    refine OwnK.iand X0 hx (hb hby own_d1_163) (pc' := 164) rfl ?_
                    refine OwnK.istore X0 hx (hb hby own_d1_164) (pc' := 166) rfl (Ls' := #[.val (.ref p1), .val (.int p2), .val (.int p3), .val (.int (y0 &&& (255 : Int32))), .val (.int (3 : Int32)), .val (.int (128 : Int32)), .val (.int (191 : Int32)), .val (.int (2 : Int32)), .val (.int (y2 &&& (255 : Int32)))]) rfl ?_
                    refine OwnK.iload X0 hx (hb hby own_d1_166) (pc' := 168) rfl (v := (y2 &&& (255 : Int32))) rfl ?_
                    refine OwnK.iload X0 hx (hb hby own_d1_168) (pc' := 170) rfl (v := (128 : Int32)) rfl ?_
                    refine OwnK.icmp_lt X0 hx (hb hby own_d1_170) (by decide) (pcT := 180) (by decide) (pc' := 173) rfl (fun (hc94 : (y2 &&& (255 : Int32)).toInt < 128) => ?_) (fun (hc94 : 128 ≤ (y2 &&& (255 : Int32)).toInt) => ?_)
                    · refine OwnK.iconst X0 hx (hb hby own_d1_180) (pc' := 181) rfl (v := (-1 : Int32)) (by decide) ?_
                      refine OwnK.retI_ X0 hx hret hlk (hb hby own_d1_181) (by decide) (by decide) ?_
                      exact ⟨congrArg (fun q => some (Value.int q)) (own_res0 (own_n0 (by omega) (by omega) (by omega))), e0, rfl⟩
                    · refine OwnK.iload X0 hx (hb hby own_d1_173) (pc' := 175) rfl (v := (y2 &&& (255 : Int32))) rfl ?_
                      refine OwnK.iload X0 hx (hb hby own_d1_175) (pc' := 177) rfl (v := (191 : Int32)) rfl ?_
                      refine OwnK.icmp_le X0 hx (hb hby own_d1_177) (by decide) (pcT := 182) (by decide) (pc' := 180) rfl (fun (hc95 : (y2 &&& (255 : Int32)).toInt ≤ 191) => ?_) (fun (hc95 : 191 < (y2 &&& (255 : Int32)).toInt) => ?_)
                      · refine OwnK.sipush X0 hx (hb hby own_d1_182) (pc' := 185) rfl (v := (128 : Int32)) (by decide) ?_
                        refine OwnK.istore X0 hx (hb hby own_d1_185) (pc' := 187) rfl (Ls' := #[.val (.ref p1), .val (.int p2), .val (.int p3), .val (.int (y0 &&& (255 : Int32))), .val (.int (3 : Int32)), .val (.int (128 : Int32)), .val (.int (191 : Int32)), .val (.int (2 : Int32)), .val (.int (y2 &&& (255 : Int32)))]) rfl ?_
                        refine OwnK.sipush X0 hx (hb hby own_d1_187) (pc' := 190) rfl (v := (191 : Int32)) (by decide) ?_
                        refine OwnK.istore X0 hx (hb hby own_d1_190) (pc' := 192) rfl (Ls' := #[.val (.ref p1), .val (.int p2), .val (.int p3), .val (.int (y0 &&& (255 : Int32))), .val (.int (3 : Int32)), .val (.int (128 : Int32)), .val (.int (191 : Int32)), .val (.int (2 : Int32)), .val (.int (y2 &&& (255 : Int32)))]) rfl ?_
                        refine OwnK.iincL X0 hx (hb hby own_d1_192) (pc' := 195) rfl (x := (2 : Int32)) rfl (v := (3 : Int32)) (by decide) (Ls' := #[.val (.ref p1), .val (.int p2), .val (.int p3), .val (.int (y0 &&& (255 : Int32))), .val (.int (3 : Int32)), .val (.int (128 : Int32)), .val (.int (191 : Int32)), .val (.int (3 : Int32)), .val (.int (y2 &&& (255 : Int32)))]) rfl ?_
                        refine OwnK.goto_ X0 hx (hb hby own_d1_195) (by decide) (pc' := 147) (by decide) ?_
                        refine OwnK.iload X0 hx (hb hby own_d1_147) (pc' := 149) rfl (v := (3 : Int32)) rfl ?_
                        refine OwnK.iload X0 hx (hb hby own_d1_149) (pc' := 151) rfl (v := (3 : Int32)) rfl ?_
                        refine OwnK.icmp_gt X0 hx (hb hby own_d1_151) (by decide) (pcT := 198) (by decide) (pc' := 154) rfl (fun (hc151 : 3 < 3) => absurd hc151 (by decide)) (fun hc151 => ?_)
                        refine OwnK.aloadN X0 hx (hb hby own_d1_154) (pc' := 155) rfl (v := (.ref p1)) rfl rfl ?_
                        refine OwnK.iloadN X0 hx (hb hby own_d1_155) (pc' := 156) rfl (v := p2) rfl ?_
                        refine OwnK.iload X0 hx (hb hby own_d1_156) (pc' := 158) rfl (v := (3 : Int32)) rfl ?_
                        refine OwnK.iadd X0 hx (hb hby own_d1_158) (pc' := 159) rfl ?_
                        have hj3 : (p2 + (3 : Int32)).toInt = ((i + 3 : Nat) : Int) := by rw [own_addk (by omega) (by omega) (3 : Int32) (by decide) (by decide), show ((3 : Int32)).toInt = 3 from by decide]; omega
                        refine OwnK.baload X0 hx hZ e0 V0 (by omega) (by show _ < (5 : Int); omega) (v := (.int y3)) (by rw [OwnK.jnat hj3]; exact hv3) (hb hby own_d1_159) (pc' := 160) rfl ?_
                        refine OwnK.sipush X0 hx (hb hby own_d1_160) (pc' := 163) rfl (v := (255 : Int32)) (by decide) ?_
                        refine OwnK.iand X0 hx (hb hby own_d1_163) (pc' := 164) rfl ?_
                        refine OwnK.istore X0 hx (hb hby own_d1_164) (pc' := 166) rfl (Ls' := #[.val (.ref p1), .val (.int p2), .val (.int p3), .val (.int (y0 &&& (255 : Int32))), .val (.int (3 : Int32)), .val (.int (128 : Int32)), .val (.int (191 : Int32)), .val (.int (3 : Int32)), .val (.int (y3 &&& (255 : Int32)))]) rfl ?_
                        refine OwnK.iload X0 hx (hb hby own_d1_166) (pc' := 168) rfl (v := (y3 &&& (255 : Int32))) rfl ?_
                        refine OwnK.iload X0 hx (hb hby own_d1_168) (pc' := 170) rfl (v := (128 : Int32)) rfl ?_
                        refine OwnK.icmp_lt X0 hx (hb hby own_d1_170) (by decide) (pcT := 180) (by decide) (pc' := 173) rfl (fun (hc96 : (y3 &&& (255 : Int32)).toInt < 128) => ?_) (fun (hc96 : 128 ≤ (y3 &&& (255 : Int32)).toInt) => ?_)
                        · refine OwnK.iconst X0 hx (hb hby own_d1_180) (pc' := 181) rfl (v := (-1 : Int32)) (by decide) ?_
                          refine OwnK.retI_ X0 hx hret hlk (hb hby own_d1_181) (by decide) (by decide) ?_
                          exact ⟨congrArg (fun q => some (Value.int q)) (own_res0 (own_n0 (by omega) (by omega) (by omega))), e0, rfl⟩
                        · refine OwnK.iload X0 hx (hb hby own_d1_173) (pc' := 175) rfl (v := (y3 &&& (255 : Int32))) rfl ?_
                          refine OwnK.iload X0 hx (hb hby own_d1_175) (pc' := 177) rfl (v := (191 : Int32)) rfl ?_
                          refine OwnK.icmp_le X0 hx (hb hby own_d1_177) (by decide) (pcT := 182) (by decide) (pc' := 180) rfl (fun (hc97 : (y3 &&& (255 : Int32)).toInt ≤ 191) => ?_) (fun (hc97 : 191 < (y3 &&& (255 : Int32)).toInt) => ?_)
                          · refine OwnK.sipush X0 hx (hb hby own_d1_182) (pc' := 185) rfl (v := (128 : Int32)) (by decide) ?_
                            refine OwnK.istore X0 hx (hb hby own_d1_185) (pc' := 187) rfl (Ls' := #[.val (.ref p1), .val (.int p2), .val (.int p3), .val (.int (y0 &&& (255 : Int32))), .val (.int (3 : Int32)), .val (.int (128 : Int32)), .val (.int (191 : Int32)), .val (.int (3 : Int32)), .val (.int (y3 &&& (255 : Int32)))]) rfl ?_
                            refine OwnK.sipush X0 hx (hb hby own_d1_187) (pc' := 190) rfl (v := (191 : Int32)) (by decide) ?_
                            refine OwnK.istore X0 hx (hb hby own_d1_190) (pc' := 192) rfl (Ls' := #[.val (.ref p1), .val (.int p2), .val (.int p3), .val (.int (y0 &&& (255 : Int32))), .val (.int (3 : Int32)), .val (.int (128 : Int32)), .val (.int (191 : Int32)), .val (.int (3 : Int32)), .val (.int (y3 &&& (255 : Int32)))]) rfl ?_
                            refine OwnK.iincL X0 hx (hb hby own_d1_192) (pc' := 195) rfl (x := (3 : Int32)) rfl (v := (4 : Int32)) (by decide) (Ls' := #[.val (.ref p1), .val (.int p2), .val (.int p3), .val (.int (y0 &&& (255 : Int32))), .val (.int (3 : Int32)), .val (.int (128 : Int32)), .val (.int (191 : Int32)), .val (.int (4 : Int32)), .val (.int (y3 &&& (255 : Int32)))]) rfl ?_
                            refine OwnK.goto_ X0 hx (hb hby own_d1_195) (by decide) (pc' := 147) (by decide) ?_
                            refine OwnK.iload X0 hx (hb hby own_d1_147) (pc' := 149) rfl (v := (4 : Int32)) rfl ?_
                            refine OwnK.iload X0 hx (hb hby own_d1_149) (pc' := 151) rfl (v := (3 : Int32)) rfl ?_
                            refine OwnK.icmp_gt X0 hx (hb hby own_d1_151) (by decide) (pcT := 198) (by decide) (pc' := 154) rfl (fun hc151 => ?_) (fun (hc151 : 4 ≤ 3) => absurd hc151 (by decide))
                            refine OwnK.iloadN X0 hx (hb hby own_d1_198) (pc' := 199) rfl (v := p2) rfl ?_
                            refine OwnK.iload X0 hx (hb hby own_d1_199) (pc' := 201) rfl (v := (3 : Int32)) rfl ?_
                            refine OwnK.iadd X0 hx (hb hby own_d1_201) (pc' := 202) rfl ?_
                            refine OwnK.iconst X0 hx (hb hby own_d1_202) (pc' := 203) rfl (v := (1 : Int32)) (by decide) ?_
                            refine OwnK.iadd X0 hx (hb hby own_d1_203) (pc' := 204) rfl ?_
                            refine OwnK.retI_ X0 hx hret hlk (hb hby own_d1_204) (by decide) (by decide) ?_
                            have hr3 := own_addk (p := p2) (by omega) (by omega) (3 : Int32) (by decide) (by decide)
                            have hs3 := own_addk (p := p2 + (3 : Int32)) (by rw [hr3]; show 0 ≤ _ + (3 : Int); omega) (by rw [hr3]; show _ + (3 : Int) ≤ 5; omega) (1 : Int32) (by decide) (by decide)
                            rw [hr3, show ((3 : Int32)).toInt = 3 from by decide, show ((1 : Int32)).toInt = 1 from by decide] at hs3
                            have hn3 := own_n4 (x0 := (y0 &&& (255 : Int32)).toInt) (x1 := (y1 &&& (255 : Int32)).toInt) (x2 := (y2 &&& (255 : Int32)).toInt) (x3 := (y3 &&& (255 : Int32)).toInt) (len := p3.toInt - p2.toInt) (by omega)
                            exact ⟨congrArg (fun q => some (Value.int q)) (own_resk (by omega) (by omega)), e0, rfl⟩
                          · refine OwnK.iconst X0 hx (hb hby own_d1_180) (pc' := 181) rfl (v := (-1 : Int32)) (by decide) ?_
                            refine OwnK.retI_ X0 hx hret hlk (hb hby own_d1_181) (by decide) (by decide) ?_
                            exact ⟨congrArg (fun q => some (Value.int q)) (own_res0 (own_n0 (by omega) (by omega) (by omega))), e0, rfl⟩
                      · refine OwnK.iconst X0 hx (hb hby own_d1_180) (pc' := 181) rfl (v := (-1 : Int32)) (by decide) ?_
                        refine OwnK.retI_ X0 hx hret hlk (hb hby own_d1_181) (by decide) (by decide) ?_
                        exact ⟨congrArg (fun q => some (Value.int q)) (own_res0 (own_n0 (by omega) (by omega) (by omega))), e0, rfl⟩
                  · refine OwnK.iconst X0 hx (hb hby own_d1_180) (pc' := 181) rfl (v := (-1 : Int32)) (by decide) ?_
                    refine OwnK.retI_ X0 hx hret hlk (hb hby own_d1_181) (by decide) (by decide) ?_
                    exact ⟨congrArg (fun q => some (Value.int q)) (own_res0 (own_n0 (by omega) (by omega) (by omega))), e0, rfl⟩
              · refine OwnK.iconst X0 hx (hb hby own_d1_142) (pc' := 143) rfl (v := (-1 : Int32)) (by decide) ?_
                refine OwnK.retI_ X0 hx hret hlk (hb hby own_d1_143) (by decide) (by decide) ?_
                exact ⟨congrArg (fun q => some (Value.int q)) (own_res0 (own_n0 (by omega) (by omega) (by omega))), e0, rfl⟩
      · refine OwnK.iloadN X0 hx (hb hby own_d1_45) (pc' := 46) rfl (v := (y0 &&& (255 : Int32))) rfl ?_
        refine OwnK.sipush X0 hx (hb hby own_d1_46) (pc' := 49) rfl (v := (239 : Int32)) (by decide) ?_
        refine OwnK.icmp_gt X0 hx (hb hby own_d1_49) (by decide) (pcT := 85) (by decide) (pc' := 52) rfl (fun (hc98 : 239 < (y0 &&& (255 : Int32)).toInt) => ?_) (fun (hc98 : (y0 &&& (255 : Int32)).toInt ≤ 239) => ?_)
        · refine OwnK.iloadN X0 hx (hb hby own_d1_85) (pc' := 86) rfl (v := (y0 &&& (255 : Int32))) rfl ?_
          refine OwnK.sipush X0 hx (hb hby own_d1_86) (pc' := 89) rfl (v := (240 : Int32)) (by decide) ?_
          refine OwnK.icmp_lt X0 hx (hb hby own_d1_89) (by decide) (pcT := 132) (by decide) (pc' := 92) rfl (fun (hc99 : (y0 &&& (255 : Int32)).toInt < 240) => ?_) (fun (hc99 : 240 ≤ (y0 &&& (255 : Int32)).toInt) => ?_)
          · refine OwnK.iconst X0 hx (hb hby own_d1_132) (pc' := 133) rfl (v := (-1 : Int32)) (by decide) ?_
            refine OwnK.retI_ X0 hx hret hlk (hb hby own_d1_133) (by decide) (by decide) ?_
            exact ⟨congrArg (fun q => some (Value.int q)) (own_res0 (own_n0 (by omega) (by omega) (by omega))), e0, rfl⟩
          · refine OwnK.iloadN X0 hx (hb hby own_d1_92) (pc' := 93) rfl (v := (y0 &&& (255 : Int32))) rfl ?_
            refine OwnK.sipush X0 hx (hb hby own_d1_93) (pc' := 96) rfl (v := (244 : Int32)) (by decide) ?_
            refine OwnK.icmp_gt X0 hx (hb hby own_d1_96) (by decide) (pcT := 132) (by decide) (pc' := 99) rfl (fun (hc100 : 244 < (y0 &&& (255 : Int32)).toInt) => ?_) (fun (hc100 : (y0 &&& (255 : Int32)).toInt ≤ 244) => ?_)
            · refine OwnK.iconst X0 hx (hb hby own_d1_132) (pc' := 133) rfl (v := (-1 : Int32)) (by decide) ?_
              refine OwnK.retI_ X0 hx hret hlk (hb hby own_d1_133) (by decide) (by decide) ?_
              exact ⟨congrArg (fun q => some (Value.int q)) (own_res0 (own_n0 (by omega) (by omega) (by omega))), e0, rfl⟩
            · refine OwnK.iconst X0 hx (hb hby own_d1_99) (pc' := 100) rfl (v := (3 : Int32)) (by decide) ?_
              refine OwnK.istore X0 hx (hb hby own_d1_100) (pc' := 102) rfl (Ls' := #[.val (.ref p1), .val (.int p2), .val (.int p3), .val (.int (y0 &&& (255 : Int32))), .val (.int (3 : Int32)), .val (.int (128 : Int32)), .val (.int (191 : Int32)), .unset, .unset]) rfl ?_
              refine OwnK.iloadN X0 hx (hb hby own_d1_102) (pc' := 103) rfl (v := (y0 &&& (255 : Int32))) rfl ?_
              refine OwnK.sipush X0 hx (hb hby own_d1_103) (pc' := 106) rfl (v := (240 : Int32)) (by decide) ?_
              refine OwnK.icmp_ne X0 hx (hb hby own_d1_106) (by decide) (pcT := 117) (by decide) (pc' := 109) rfl (fun (hc101 : ¬ (y0 &&& (255 : Int32)).toInt = 240) => ?_) (fun (hc101 : (y0 &&& (255 : Int32)).toInt = 240) => ?_)
              · refine OwnK.iloadN X0 hx (hb hby own_d1_117) (pc' := 118) rfl (v := (y0 &&& (255 : Int32))) rfl ?_
                refine OwnK.sipush X0 hx (hb hby own_d1_118) (pc' := 121) rfl (v := (244 : Int32)) (by decide) ?_
                refine OwnK.icmp_ne X0 hx (hb hby own_d1_121) (by decide) (pcT := 134) (by decide) (pc' := 124) rfl (fun (hc102 : ¬ (y0 &&& (255 : Int32)).toInt = 244) => ?_) (fun (hc102 : (y0 &&& (255 : Int32)).toInt = 244) => ?_)
                · refine OwnK.iloadN X0 hx (hb hby own_d1_134) (pc' := 135) rfl (v := p3) rfl ?_
                  refine OwnK.iloadN X0 hx (hb hby own_d1_135) (pc' := 136) rfl (v := p2) rfl ?_
                  refine OwnK.isub X0 hx (hb hby own_d1_136) (pc' := 137) rfl ?_
                  refine OwnK.iload X0 hx (hb hby own_d1_137) (pc' := 139) rfl (v := (3 : Int32)) rfl ?_
                  refine OwnK.icmp_gt X0 hx (hb hby own_d1_139) (by decide) (pcT := 144) (by decide) (pc' := 142) rfl (fun (hc103 : 3 < (p3 - p2).toInt) => ?_) (fun (hc103 : (p3 - p2).toInt ≤ 3) => ?_)
                  · refine OwnK.iconst X0 hx (hb hby own_d1_144) (pc' := 145) rfl (v := (1 : Int32)) (by decide) ?_
                    refine OwnK.istore X0 hx (hb hby own_d1_145) (pc' := 147) rfl (Ls' := #[.val (.ref p1), .val (.int p2), .val (.int p3), .val (.int (y0 &&& (255 : Int32))), .val (.int (3 : Int32)), .val (.int (128 : Int32)), .val (.int (191 : Int32)), .val (.int (1 : Int32)), .unset]) rfl ?_
                    refine OwnK.iload X0 hx (hb hby own_d1_147) (pc' := 149) rfl (v := (1 : Int32)) rfl ?_
                    refine OwnK.iload X0 hx (hb hby own_d1_149) (pc' := 151) rfl (v := (3 : Int32)) rfl ?_
                    refine OwnK.icmp_gt X0 hx (hb hby own_d1_151) (by decide) (pcT := 198) (by decide) (pc' := 154) rfl (fun (hc151 : 3 < 1) => absurd hc151 (by decide)) (fun hc151 => ?_)
                    refine OwnK.aloadN X0 hx (hb hby own_d1_154) (pc' := 155) rfl (v := (.ref p1)) rfl rfl ?_
                    refine OwnK.iloadN X0 hx (hb hby own_d1_155) (pc' := 156) rfl (v := p2) rfl ?_
                    refine OwnK.iload X0 hx (hb hby own_d1_156) (pc' := 158) rfl (v := (1 : Int32)) rfl ?_
                    refine OwnK.iadd X0 hx (hb hby own_d1_158) (pc' := 159) rfl ?_
                    have hj1 : (p2 + (1 : Int32)).toInt = ((i + 1 : Nat) : Int) := by rw [own_addk (by omega) (by omega) (1 : Int32) (by decide) (by decide), show ((1 : Int32)).toInt = 1 from by decide]; omega
                    refine OwnK.baload X0 hx hZ e0 V0 (by omega) (by show _ < (5 : Int); omega) (v := (.int y1)) (by rw [OwnK.jnat hj1]; exact hv1) (hb hby own_d1_159) (pc' := 160) rfl ?_
                    refine OwnK.sipush X0 hx (hb hby own_d1_160) (pc' := 163) rfl (v := (255 : Int32)) (by decide) ?_
                    refine OwnK.iand X0 hx (hb hby own_d1_163) (pc' := 164) rfl ?_
                    refine OwnK.istore X0 hx (hb hby own_d1_164) (pc' := 166) rfl (Ls' := #[.val (.ref p1), .val (.int p2), .val (.int p3), .val (.int (y0 &&& (255 : Int32))), .val (.int (3 : Int32)), .val (.int (128 : Int32)), .val (.int (191 : Int32)), .val (.int (1 : Int32)), .val (.int (y1 &&& (255 : Int32)))]) rfl ?_
                    refine OwnK.iload X0 hx (hb hby own_d1_166) (pc' := 168) rfl (v := (y1 &&& (255 : Int32))) rfl ?_
                    refine OwnK.iload X0 hx (hb hby own_d1_168) (pc' := 170) rfl (v := (128 : Int32)) rfl ?_
                    refine OwnK.icmp_lt X0 hx (hb hby own_d1_170) (by decide) (pcT := 180) (by decide) (pc' := 173) rfl (fun (hc104 : (y1 &&& (255 : Int32)).toInt < 128) => ?_) (fun (hc104 : 128 ≤ (y1 &&& (255 : Int32)).toInt) => ?_)
                    · refine OwnK.iconst X0 hx (hb hby own_d1_180) (pc' := 181) rfl (v := (-1 : Int32)) (by decide) ?_
                      refine OwnK.retI_ X0 hx hret hlk (hb hby own_d1_181) (by decide) (by decide) ?_
                      exact ⟨congrArg (fun q => some (Value.int q)) (own_res0 (own_n0 (by omega) (by omega) (by omega))), e0, rfl⟩
                    · refine OwnK.iload X0 hx (hb hby own_d1_173) (pc' := 175) rfl (v := (y1 &&& (255 : Int32))) rfl ?_
                      refine OwnK.iload X0 hx (hb hby own_d1_175) (pc' := 177) rfl (v := (191 : Int32)) rfl ?_
                      refine OwnK.icmp_le X0 hx (hb hby own_d1_177) (by decide) (pcT := 182) (by decide) (pc' := 180) rfl (fun (hc105 : (y1 &&& (255 : Int32)).toInt ≤ 191) => ?_) (fun (hc105 : 191 < (y1 &&& (255 : Int32)).toInt) => ?_)
                      · refine OwnK.sipush X0 hx (hb hby own_d1_182) (pc' := 185) rfl (v := (128 : Int32)) (by decide) ?_
                        refine OwnK.istore X0 hx (hb hby own_d1_185) (pc' := 187) rfl (Ls' := #[.val (.ref p1), .val (.int p2), .val (.int p3), .val (.int (y0 &&& (255 : Int32))), .val (.int (3 : Int32)), .val (.int (128 : Int32)), .val (.int (191 : Int32)), .val (.int (1 : Int32)), .val (.int (y1 &&& (255 : Int32)))]) rfl ?_
                        refine OwnK.sipush X0 hx (hb hby own_d1_187) (pc' := 190) rfl (v := (191 : Int32)) (by decide) ?_
                        refine OwnK.istore X0 hx (hb hby own_d1_190) (pc' := 192) rfl (Ls' := #[.val (.ref p1), .val (.int p2), .val (.int p3), .val (.int (y0 &&& (255 : Int32))), .val (.int (3 : Int32)), .val (.int (128 : Int32)), .val (.int (191 : Int32)), .val (.int (1 : Int32)), .val (.int (y1 &&& (255 : Int32)))]) rfl ?_
                        refine OwnK.iincL X0 hx (hb hby own_d1_192) (pc' := 195) rfl (x := (1 : Int32)) rfl (v := (2 : Int32)) (by decide) (Ls' := #[.val (.ref p1), .val (.int p2), .val (.int p3), .val (.int (y0 &&& (255 : Int32))), .val (.int (3 : Int32)), .val (.int (128 : Int32)), .val (.int (191 : Int32)), .val (.int (2 : Int32)), .val (.int (y1 &&& (255 : Int32)))]) rfl ?_
                        refine OwnK.goto_ X0 hx (hb hby own_d1_195) (by decide) (pc' := 147) (by decide) ?_
                        refine OwnK.iload X0 hx (hb hby own_d1_147) (pc' := 149) rfl (v := (2 : Int32)) rfl ?_
                        refine OwnK.iload X0 hx (hb hby own_d1_149) (pc' := 151) rfl (v := (3 : Int32)) rfl ?_
                        refine OwnK.icmp_gt X0 hx (hb hby own_d1_151) (by decide) (pcT := 198) (by decide) (pc' := 154) rfl (fun (hc151 : 3 < 2) => absurd hc151 (by decide)) (fun hc151 => ?_)
                        refine OwnK.aloadN X0 hx (hb hby own_d1_154) (pc' := 155) rfl (v := (.ref p1)) rfl rfl ?_
                        refine OwnK.iloadN X0 hx (hb hby own_d1_155) (pc' := 156) rfl (v := p2) rfl ?_
                        refine OwnK.iload X0 hx (hb hby own_d1_156) (pc' := 158) rfl (v := (2 : Int32)) rfl ?_
                        refine OwnK.iadd X0 hx (hb hby own_d1_158) (pc' := 159) rfl ?_
                        have hj2 : (p2 + (2 : Int32)).toInt = ((i + 2 : Nat) : Int) := by rw [own_addk (by omega) (by omega) (2 : Int32) (by decide) (by decide), show ((2 : Int32)).toInt = 2 from by decide]; omega
                        refine OwnK.baload X0 hx hZ e0 V0 (by omega) (by show _ < (5 : Int); omega) (v := (.int y2)) (by rw [OwnK.jnat hj2]; exact hv2) (hb hby own_d1_159) (pc' := 160) rfl ?_
                        refine OwnK.sipush X0 hx (hb hby own_d1_160) (pc' := 163) rfl (v := (255 : Int32)) (by decide) ?_
                        refine OwnK.iand X0 hx (hb hby own_d1_163) (pc' := 164) rfl ?_
                        refine OwnK.istore X0 hx (hb hby own_d1_164) (pc' := 166) rfl (Ls' := #[.val (.ref p1), .val (.int p2), .val (.int p3), .val (.int (y0 &&& (255 : Int32))), .val (.int (3 : Int32)), .val (.int (128 : Int32)), .val (.int (191 : Int32)), .val (.int (2 : Int32)), .val (.int (y2 &&& (255 : Int32)))]) rfl ?_
                        refine OwnK.iload X0 hx (hb hby own_d1_166) (pc' := 168) rfl (v := (y2 &&& (255 : Int32))) rfl ?_
                        refine OwnK.iload X0 hx (hb hby own_d1_168) (pc' := 170) rfl (v := (128 : Int32)) rfl ?_
                        refine OwnK.icmp_lt X0 hx (hb hby own_d1_170) (by decide) (pcT := 180) (by decide) (pc' := 173) rfl (fun (hc106 : (y2 &&& (255 : Int32)).toInt < 128) => ?_) (fun (hc106 : 128 ≤ (y2 &&& (255 : Int32)).toInt) => ?_)
                        · refine OwnK.iconst X0 hx (hb hby own_d1_180) (pc' := 181) rfl (v := (-1 : Int32)) (by decide) ?_
                          refine OwnK.retI_ X0 hx hret hlk (hb hby own_d1_181) (by decide) (by decide) ?_
                          exact ⟨congrArg (fun q => some (Value.int q)) (own_res0 (own_n0 (by omega) (by omega) (by omega))), e0, rfl⟩
                        · refine OwnK.iload X0 hx (hb hby own_d1_173) (pc' := 175) rfl (v := (y2 &&& (255 : Int32))) rfl ?_
                          refine OwnK.iload X0 hx (hb hby own_d1_175) (pc' := 177) rfl (v := (191 : Int32)) rfl ?_
                          refine OwnK.icmp_le X0 hx (hb hby own_d1_177) (by decide) (pcT := 182) (by decide) (pc' := 180) rfl (fun (hc107 : (y2 &&& (255 : Int32)).toInt ≤ 191) => ?_) (fun (hc107 : 191 < (y2 &&& (255 : Int32)).toInt) => ?_)
                          · refine OwnK.sipush X0 hx (hb hby own_d1_182) (pc' := 185) rfl (v := (128 : Int32)) (by decide) ?_
                            refine OwnK.istore X0 hx (hb hby own_d1_185) (pc' := 187) rfl (Ls' := #[.val (.ref p1), .val (.int p2), .val (.int p3), .val (.int (y0 &&& (255 : Int32))), .val (.int (3 : Int32)), .val (.int (128 : Int32)), .val (.int (191 : Int32)), .val (.int (2 : Int32)), .val (.int (y2 &&& (255 : Int32)))]) rfl ?_
                            refine OwnK.sipush X0 hx (hb hby own_d1_187) (pc' := 190) rfl (v := (191 : Int32)) (by decide) ?_
                            refine OwnK.istore X0 hx (hb hby own_d1_190) (pc' := 192) rfl (Ls' := #[.val (.ref p1), .val (.int p2), .val (.int p3), .val (.int (y0 &&& (255 : Int32))), .val (.int (3 : Int32)), .val (.int (128 : Int32)), .val (.int (191 : Int32)), .val (.int (2 : Int32)), .val (.int (y2 &&& (255 : Int32)))]) rfl ?_
                            refine OwnK.iincL X0 hx (hb hby own_d1_192) (pc' := 195) rfl (x := (2 : Int32)) rfl (v := (3 : Int32)) (by decide) (Ls' := #[.val (.ref p1), .val (.int p2), .val (.int p3), .val (.int (y0 &&& (255 : Int32))), .val (.int (3 : Int32)), .val (.int (128 : Int32)), .val (.int (191 : Int32)), .val (.int (3 : Int32)), .val (.int (y2 &&& (255 : Int32)))]) rfl ?_
                            refine OwnK.goto_ X0 hx (hb hby own_d1_195) (by decide) (pc' := 147) (by decide) ?_
                            refine OwnK.iload X0 hx (hb hby own_d1_147) (pc' := 149) rfl (v := (3 : Int32)) rfl ?_
                            refine OwnK.iload X0 hx (hb hby own_d1_149) (pc' := 151) rfl (v := (3 : Int32)) rfl ?_
                            refine OwnK.icmp_gt X0 hx (hb hby own_d1_151) (by decide) (pcT := 198) (by decide) (pc' := 154) rfl (fun (hc151 : 3 < 3) => absurd hc151 (by decide)) (fun hc151 => ?_)
                            refine OwnK.aloadN X0 hx (hb hby own_d1_154) (pc' := 155) rfl (v := (.ref p1)) rfl rfl ?_
                            refine OwnK.iloadN X0 hx (hb hby own_d1_155) (pc' := 156) rfl (v := p2) rfl ?_
                            refine OwnK.iload X0 hx (hb hby own_d1_156) (pc' := 158) rfl (v := (3 : Int32)) rfl ?_
                            refine OwnK.iadd X0 hx (hb hby own_d1_158) (pc' := 159) rfl ?_
                            have hj3 : (p2 + (3 : Int32)).toInt = ((i + 3 : Nat) : Int) := by rw [own_addk (by omega) (by omega) (3 : Int32) (by decide) (by decide), show ((3 : Int32)).toInt = 3 from by decide]; omega
                            refine OwnK.baload X0 hx hZ e0 V0 (by omega) (by show _ < (5 : Int); omega) (v := (.int y3)) (by rw [OwnK.jnat hj3]; exact hv3) (hb hby own_d1_159) (pc' := 160) rfl ?_
                            refine OwnK.sipush X0 hx (hb hby own_d1_160) (pc' := 163) rfl (v := (255 : Int32)) (by decide) ?_
                            refine OwnK.iand X0 hx (hb hby own_d1_163) (pc' := 164) rfl ?_
                            refine OwnK.istore X0 hx (hb hby own_d1_164) (pc' := 166) rfl (Ls' := #[.val (.ref p1), .val (.int p2), .val (.int p3), .val (.int (y0 &&& (255 : Int32))), .val (.int (3 : Int32)), .val (.int (128 : Int32)), .val (.int (191 : Int32)), .val (.int (3 : Int32)), .val (.int (y3 &&& (255 : Int32)))]) rfl ?_
                            refine OwnK.iload X0 hx (hb hby own_d1_166) (pc' := 168) rfl (v := (y3 &&& (255 : Int32))) rfl ?_
                            refine OwnK.iload X0 hx (hb hby own_d1_168) (pc' := 170) rfl (v := (128 : Int32)) rfl ?_
                            refine OwnK.icmp_lt X0 hx (hb hby own_d1_170) (by decide) (pcT := 180) (by decide) (pc' := 173) rfl (fun (hc108 : (y3 &&& (255 : Int32)).toInt < 128) => ?_) (fun (hc108 : 128 ≤ (y3 &&& (255 : Int32)).toInt) => ?_)
                            · refine OwnK.iconst X0 hx (hb hby own_d1_180) (pc' := 181) rfl (v := (-1 : Int32)) (by decide) ?_
                              refine OwnK.retI_ X0 hx hret hlk (hb hby own_d1_181) (by decide) (by decide) ?_
                              exact ⟨congrArg (fun q => some (Value.int q)) (own_res0 (own_n0 (by omega) (by omega) (by omega))), e0, rfl⟩
                            · refine OwnK.iload X0 hx (hb hby own_d1_173) (pc' := 175) rfl (v := (y3 &&& (255 : Int32))) rfl ?_
                              refine OwnK.iload X0 hx (hb hby own_d1_175) (pc' := 177) rfl (v := (191 : Int32)) rfl ?_
                              refine OwnK.icmp_le X0 hx (hb hby own_d1_177) (by decide) (pcT := 182) (by decide) (pc' := 180) rfl (fun (hc109 : (y3 &&& (255 : Int32)).toInt ≤ 191) => ?_) (fun (hc109 : 191 < (y3 &&& (255 : Int32)).toInt) => ?_)
                              · refine OwnK.sipush X0 hx (hb hby own_d1_182) (pc' := 185) rfl (v := (128 : Int32)) (by decide) ?_
                                refine OwnK.istore X0 hx (hb hby own_d1_185) (pc' := 187) rfl (Ls' := #[.val (.ref p1), .val (.int p2), .val (.int p3), .val (.int (y0 &&& (255 : Int32))), .val (.int (3 : Int32)), .val (.int (128 : Int32)), .val (.int (191 : Int32)), .val (.int (3 : Int32)), .val (.int (y3 &&& (255 : Int32)))]) rfl ?_
                                refine OwnK.sipush X0 hx (hb hby own_d1_187) (pc' := 190) rfl (v := (191 : Int32)) (by decide) ?_
                                refine OwnK.istore X0 hx (hb hby own_d1_190) (pc' := 192) rfl (Ls' := #[.val (.ref p1), .val (.int p2), .val (.int p3), .val (.int (y0 &&& (255 : Int32))), .val (.int (3 : Int32)), .val (.int (128 : Int32)), .val (.int (191 : Int32)), .val (.int (3 : Int32)), .val (.int (y3 &&& (255 : Int32)))]) rfl ?_
                                refine OwnK.iincL X0 hx (hb hby own_d1_192) (pc' := 195) rfl (x := (3 : Int32)) rfl (v := (4 : Int32)) (by decide) (Ls' := #[.val (.ref p1), .val (.int p2), .val (.int p3), .val (.int (y0 &&& (255 : Int32))), .val (.int (3 : Int32)), .val (.int (128 : Int32)), .val (.int (191 : Int32)), .val (.int (4 : Int32)), .val (.int (y3 &&& (255 : Int32)))]) rfl ?_
                                refine OwnK.goto_ X0 hx (hb hby own_d1_195) (by decide) (pc' := 147) (by decide) ?_
                                refine OwnK.iload X0 hx (hb hby own_d1_147) (pc' := 149) rfl (v := (4 : Int32)) rfl ?_
                                refine OwnK.iload X0 hx (hb hby own_d1_149) (pc' := 151) rfl (v := (3 : Int32)) rfl ?_
                                refine OwnK.icmp_gt X0 hx (hb hby own_d1_151) (by decide) (pcT := 198) (by decide) (pc' := 154) rfl (fun hc151 => ?_) (fun (hc151 : 4 ≤ 3) => absurd hc151 (by decide))
                                refine OwnK.iloadN X0 hx (hb hby own_d1_198) (pc' := 199) rfl (v := p2) rfl ?_
                                refine OwnK.iload X0 hx (hb hby own_d1_199) (pc' := 201) rfl (v := (3 : Int32)) rfl ?_
                                refine OwnK.iadd X0 hx (hb hby own_d1_201) (pc' := 202) rfl ?_
                                refine OwnK.iconst X0 hx (hb hby own_d1_202) (pc' := 203) rfl (v := (1 : Int32)) (by decide) ?_
                                refine OwnK.iadd X0 hx (hb hby own_d1_203) (pc' := 204) rfl ?_
                                refine OwnK.retI_ X0 hx hret hlk (hb hby own_d1_204) (by decide) (by decide) ?_
                                have hr3 := own_addk (p := p2) (by omega) (by omega) (3 : Int32) (by decide) (by decide)
                                have hs3 := own_addk (p := p2 + (3 : Int32)) (by rw [hr3]; show 0 ≤ _ + (3 : Int); omega) (by rw [hr3]; show _ + (3 : Int) ≤ 5; omega) (1 : Int32) (by decide) (by decide)
                                rw [hr3, show ((3 : Int32)).toInt = 3 from by decide, show ((1 : Int32)).toInt = 1 from by decide] at hs3
                                have hn3 := own_n4 (x0 := (y0 &&& (255 : Int32)).toInt) (x1 := (y1 &&& (255 : Int32)).toInt) (x2 := (y2 &&& (255 : Int32)).toInt) (x3 := (y3 &&& (255 : Int32)).toInt) (len := p3.toInt - p2.toInt) (by omega)
                                exact ⟨congrArg (fun q => some (Value.int q)) (own_resk (by omega) (by omega)), e0, rfl⟩
                              · refine OwnK.iconst X0 hx (hb hby own_d1_180) (pc' := 181) rfl (v := (-1 : Int32)) (by decide) ?_
                                refine OwnK.retI_ X0 hx hret hlk (hb hby own_d1_181) (by decide) (by decide) ?_
                                exact ⟨congrArg (fun q => some (Value.int q)) (own_res0 (own_n0 (by omega) (by omega) (by omega))), e0, rfl⟩
                          · refine OwnK.iconst X0 hx (hb hby own_d1_180) (pc' := 181) rfl (v := (-1 : Int32)) (by decide) ?_
                            refine OwnK.retI_ X0 hx hret hlk (hb hby own_d1_181) (by decide) (by decide) ?_
                            exact ⟨congrArg (fun q => some (Value.int q)) (own_res0 (own_n0 (by omega) (by omega) (by omega))), e0, rfl⟩
                      · refine OwnK.iconst X0 hx (hb hby own_d1_180) (pc' := 181) rfl (v := (-1 : Int32)) (by decide) ?_
                        refine OwnK.retI_ X0 hx hret hlk (hb hby own_d1_181) (by decide) (by decide) ?_
                        exact ⟨congrArg (fun q => some (Value.int q)) (own_res0 (own_n0 (by omega) (by omega) (by omega))), e0, rfl⟩
                  · refine OwnK.iconst X0 hx (hb hby own_d1_142) (pc' := 143) rfl (v := (-1 : Int32)) (by decide) ?_
                    refine OwnK.retI_ X0 hx hret hlk (hb hby own_d1_143) (by decide) (by decide) ?_
                    exact ⟨congrArg (fun q => some (Value.int q)) (own_res0 (own_n0 (by omega) (by omega) (by omega))), e0, rfl⟩
                · refine OwnK.sipush X0 hx (hb hby own_d1_124) (pc' := 127) rfl (v := (143 : Int32)) (by decide) ?_
                  refine OwnK.istore X0 hx (hb hby own_d1_127) (pc' := 129) rfl (Ls' := #[.val (.ref p1), .val (.int p2), .val (.int p3), .val (.int (y0 &&& (255 : Int32))), .val (.int (3 : Int32)), .val (.int (128 : Int32)), .val (.int (143 : Int32)), .unset, .unset]) rfl ?_
                  refine OwnK.goto_ X0 hx (hb hby own_d1_129) (by decide) (pc' := 134) (by decide) ?_
                  refine OwnK.iloadN X0 hx (hb hby own_d1_134) (pc' := 135) rfl (v := p3) rfl ?_
                  refine OwnK.iloadN X0 hx (hb hby own_d1_135) (pc' := 136) rfl (v := p2) rfl ?_
                  refine OwnK.isub X0 hx (hb hby own_d1_136) (pc' := 137) rfl ?_
                  refine OwnK.iload X0 hx (hb hby own_d1_137) (pc' := 139) rfl (v := (3 : Int32)) rfl ?_
                  refine OwnK.icmp_gt X0 hx (hb hby own_d1_139) (by decide) (pcT := 144) (by decide) (pc' := 142) rfl (fun (hc110 : 3 < (p3 - p2).toInt) => ?_) (fun (hc110 : (p3 - p2).toInt ≤ 3) => ?_)
                  · refine OwnK.iconst X0 hx (hb hby own_d1_144) (pc' := 145) rfl (v := (1 : Int32)) (by decide) ?_
                    refine OwnK.istore X0 hx (hb hby own_d1_145) (pc' := 147) rfl (Ls' := #[.val (.ref p1), .val (.int p2), .val (.int p3), .val (.int (y0 &&& (255 : Int32))), .val (.int (3 : Int32)), .val (.int (128 : Int32)), .val (.int (143 : Int32)), .val (.int (1 : Int32)), .unset]) rfl ?_
                    refine OwnK.iload X0 hx (hb hby own_d1_147) (pc' := 149) rfl (v := (1 : Int32)) rfl ?_
                    refine OwnK.iload X0 hx (hb hby own_d1_149) (pc' := 151) rfl (v := (3 : Int32)) rfl ?_
                    refine OwnK.icmp_gt X0 hx (hb hby own_d1_151) (by decide) (pcT := 198) (by decide) (pc' := 154) rfl (fun (hc151 : 3 < 1) => absurd hc151 (by decide)) (fun hc151 => ?_)
                    refine OwnK.aloadN X0 hx (hb hby own_d1_154) (pc' := 155) rfl (v := (.ref p1)) rfl rfl ?_
                    refine OwnK.iloadN X0 hx (hb hby own_d1_155) (pc' := 156) rfl (v := p2) rfl ?_
                    refine OwnK.iload X0 hx (hb hby own_d1_156) (pc' := 158) rfl (v := (1 : Int32)) rfl ?_
                    refine OwnK.iadd X0 hx (hb hby own_d1_158) (pc' := 159) rfl ?_
                    have hj1 : (p2 + (1 : Int32)).toInt = ((i + 1 : Nat) : Int) := by rw [own_addk (by omega) (by omega) (1 : Int32) (by decide) (by decide), show ((1 : Int32)).toInt = 1 from by decide]; omega
                    refine OwnK.baload X0 hx hZ e0 V0 (by omega) (by show _ < (5 : Int); omega) (v := (.int y1)) (by rw [OwnK.jnat hj1]; exact hv1) (hb hby own_d1_159) (pc' := 160) rfl ?_
                    refine OwnK.sipush X0 hx (hb hby own_d1_160) (pc' := 163) rfl (v := (255 : Int32)) (by decide) ?_
                    refine OwnK.iand X0 hx (hb hby own_d1_163) (pc' := 164) rfl ?_
                    refine OwnK.istore X0 hx (hb hby own_d1_164) (pc' := 166) rfl (Ls' := #[.val (.ref p1), .val (.int p2), .val (.int p3), .val (.int (y0 &&& (255 : Int32))), .val (.int (3 : Int32)), .val (.int (128 : Int32)), .val (.int (143 : Int32)), .val (.int (1 : Int32)), .val (.int (y1 &&& (255 : Int32)))]) rfl ?_
                    refine OwnK.iload X0 hx (hb hby own_d1_166) (pc' := 168) rfl (v := (y1 &&& (255 : Int32))) rfl ?_
                    refine OwnK.iload X0 hx (hb hby own_d1_168) (pc' := 170) rfl (v := (128 : Int32)) rfl ?_
                    refine OwnK.icmp_lt X0 hx (hb hby own_d1_170) (by decide) (pcT := 180) (by decide) (pc' := 173) rfl (fun (hc111 : (y1 &&& (255 : Int32)).toInt < 128) => ?_) (fun (hc111 : 128 ≤ (y1 &&& (255 : Int32)).toInt) => ?_)
                    · refine OwnK.iconst X0 hx (hb hby own_d1_180) (pc' := 181) rfl (v := (-1 : Int32)) (by decide) ?_
                      refine OwnK.retI_ X0 hx hret hlk (hb hby own_d1_181) (by decide) (by decide) ?_
                      exact ⟨congrArg (fun q => some (Value.int q)) (own_res0 (own_n0 (by omega) (by omega) (by omega))), e0, rfl⟩
                    · refine OwnK.iload X0 hx (hb hby own_d1_173) (pc' := 175) rfl (v := (y1 &&& (255 : Int32))) rfl ?_
                      refine OwnK.iload X0 hx (hb hby own_d1_175) (pc' := 177) rfl (v := (143 : Int32)) rfl ?_
                      refine OwnK.icmp_le X0 hx (hb hby own_d1_177) (by decide) (pcT := 182) (by decide) (pc' := 180) rfl (fun (hc112 : (y1 &&& (255 : Int32)).toInt ≤ 143) => ?_) (fun (hc112 : 143 < (y1 &&& (255 : Int32)).toInt) => ?_)
                      · refine OwnK.sipush X0 hx (hb hby own_d1_182) (pc' := 185) rfl (v := (128 : Int32)) (by decide) ?_
                        refine OwnK.istore X0 hx (hb hby own_d1_185) (pc' := 187) rfl (Ls' := #[.val (.ref p1), .val (.int p2), .val (.int p3), .val (.int (y0 &&& (255 : Int32))), .val (.int (3 : Int32)), .val (.int (128 : Int32)), .val (.int (143 : Int32)), .val (.int (1 : Int32)), .val (.int (y1 &&& (255 : Int32)))]) rfl ?_
                        refine OwnK.sipush X0 hx (hb hby own_d1_187) (pc' := 190) rfl (v := (191 : Int32)) (by decide) ?_
                        refine OwnK.istore X0 hx (hb hby own_d1_190) (pc' := 192) rfl (Ls' := #[.val (.ref p1), .val (.int p2), .val (.int p3), .val (.int (y0 &&& (255 : Int32))), .val (.int (3 : Int32)), .val (.int (128 : Int32)), .val (.int (191 : Int32)), .val (.int (1 : Int32)), .val (.int (y1 &&& (255 : Int32)))]) rfl ?_
                        refine OwnK.iincL X0 hx (hb hby own_d1_192) (pc' := 195) rfl (x := (1 : Int32)) rfl (v := (2 : Int32)) (by decide) (Ls' := #[.val (.ref p1), .val (.int p2), .val (.int p3), .val (.int (y0 &&& (255 : Int32))), .val (.int (3 : Int32)), .val (.int (128 : Int32)), .val (.int (191 : Int32)), .val (.int (2 : Int32)), .val (.int (y1 &&& (255 : Int32)))]) rfl ?_
                        refine OwnK.goto_ X0 hx (hb hby own_d1_195) (by decide) (pc' := 147) (by decide) ?_
                        refine OwnK.iload X0 hx (hb hby own_d1_147) (pc' := 149) rfl (v := (2 : Int32)) rfl ?_
                        refine OwnK.iload X0 hx (hb hby own_d1_149) (pc' := 151) rfl (v := (3 : Int32)) rfl ?_
                        refine OwnK.icmp_gt X0 hx (hb hby own_d1_151) (by decide) (pcT := 198) (by decide) (pc' := 154) rfl (fun (hc151 : 3 < 2) => absurd hc151 (by decide)) (fun hc151 => ?_)
                        refine OwnK.aloadN X0 hx (hb hby own_d1_154) (pc' := 155) rfl (v := (.ref p1)) rfl rfl ?_
                        refine OwnK.iloadN X0 hx (hb hby own_d1_155) (pc' := 156) rfl (v := p2) rfl ?_
                        refine OwnK.iload X0 hx (hb hby own_d1_156) (pc' := 158) rfl (v := (2 : Int32)) rfl ?_
                        refine OwnK.iadd X0 hx (hb hby own_d1_158) (pc' := 159) rfl ?_
                        have hj2 : (p2 + (2 : Int32)).toInt = ((i + 2 : Nat) : Int) := by rw [own_addk (by omega) (by omega) (2 : Int32) (by decide) (by decide), show ((2 : Int32)).toInt = 2 from by decide]; omega
                        refine OwnK.baload X0 hx hZ e0 V0 (by omega) (by show _ < (5 : Int); omega) (v := (.int y2)) (by rw [OwnK.jnat hj2]; exact hv2) (hb hby own_d1_159) (pc' := 160) rfl ?_
                        refine OwnK.sipush X0 hx (hb hby own_d1_160) (pc' := 163) rfl (v := (255 : Int32)) (by decide) ?_
                        refine OwnK.iand X0 hx (hb hby own_d1_163) (pc' := 164) rfl ?_
                        refine OwnK.istore X0 hx (hb hby own_d1_164) (pc' := 166) rfl (Ls' := #[.val (.ref p1), .val (.int p2), .val (.int p3), .val (.int (y0 &&& (255 : Int32))), .val (.int (3 : Int32)), .val (.int (128 : Int32)), .val (.int (191 : Int32)), .val (.int (2 : Int32)), .val (.int (y2 &&& (255 : Int32)))]) rfl ?_
                        refine OwnK.iload X0 hx (hb hby own_d1_166) (pc' := 168) rfl (v := (y2 &&& (255 : Int32))) rfl ?_
                        refine OwnK.iload X0 hx (hb hby own_d1_168) (pc' := 170) rfl (v := (128 : Int32)) rfl ?_
                        refine OwnK.icmp_lt X0 hx (hb hby own_d1_170) (by decide) (pcT := 180) (by decide) (pc' := 173) rfl (fun (hc113 : (y2 &&& (255 : Int32)).toInt < 128) => ?_) (fun (hc113 : 128 ≤ (y2 &&& (255 : Int32)).toInt) => ?_)
                        · refine OwnK.iconst X0 hx (hb hby own_d1_180) (pc' := 181) rfl (v := (-1 : Int32)) (by decide) ?_
                          refine OwnK.retI_ X0 hx hret hlk (hb hby own_d1_181) (by decide) (by decide) ?_
                          exact ⟨congrArg (fun q => some (Value.int q)) (own_res0 (own_n0 (by omega) (by omega) (by omega))), e0, rfl⟩
                        · refine OwnK.iload X0 hx (hb hby own_d1_173) (pc' := 175) rfl (v := (y2 &&& (255 : Int32))) rfl ?_
                          refine OwnK.iload X0 hx (hb hby own_d1_175) (pc' := 177) rfl (v := (191 : Int32)) rfl ?_
                          refine OwnK.icmp_le X0 hx (hb hby own_d1_177) (by decide) (pcT := 182) (by decide) (pc' := 180) rfl (fun (hc114 : (y2 &&& (255 : Int32)).toInt ≤ 191) => ?_) (fun (hc114 : 191 < (y2 &&& (255 : Int32)).toInt) => ?_)
                          · refine OwnK.sipush X0 hx (hb hby own_d1_182) (pc' := 185) rfl (v := (128 : Int32)) (by decide) ?_
                            refine OwnK.istore X0 hx (hb hby own_d1_185) (pc' := 187) rfl (Ls' := #[.val (.ref p1), .val (.int p2), .val (.int p3), .val (.int (y0 &&& (255 : Int32))), .val (.int (3 : Int32)), .val (.int (128 : Int32)), .val (.int (191 : Int32)), .val (.int (2 : Int32)), .val (.int (y2 &&& (255 : Int32)))]) rfl ?_
                            refine OwnK.sipush X0 hx (hb hby own_d1_187) (pc' := 190) rfl (v := (191 : Int32)) (by decide) ?_
                            refine OwnK.istore X0 hx (hb hby own_d1_190) (pc' := 192) rfl (Ls' := #[.val (.ref p1), .val (.int p2), .val (.int p3), .val (.int (y0 &&& (255 : Int32))), .val (.int (3 : Int32)), .val (.int (128 : Int32)), .val (.int (191 : Int32)), .val (.int (2 : Int32)), .val (.int (y2 &&& (255 : Int32)))]) rfl ?_
                            refine OwnK.iincL X0 hx (hb hby own_d1_192) (pc' := 195) rfl (x := (2 : Int32)) rfl (v := (3 : Int32)) (by decide) (Ls' := #[.val (.ref p1), .val (.int p2), .val (.int p3), .val (.int (y0 &&& (255 : Int32))), .val (.int (3 : Int32)), .val (.int (128 : Int32)), .val (.int (191 : Int32)), .val (.int (3 : Int32)), .val (.int (y2 &&& (255 : Int32)))]) rfl ?_
                            refine OwnK.goto_ X0 hx (hb hby own_d1_195) (by decide) (pc' := 147) (by decide) ?_
                            refine OwnK.iload X0 hx (hb hby own_d1_147) (pc' := 149) rfl (v := (3 : Int32)) rfl ?_
                            refine OwnK.iload X0 hx (hb hby own_d1_149) (pc' := 151) rfl (v := (3 : Int32)) rfl ?_
                            refine OwnK.icmp_gt X0 hx (hb hby own_d1_151) (by decide) (pcT := 198) (by decide) (pc' := 154) rfl (fun (hc151 : 3 < 3) => absurd hc151 (by decide)) (fun hc151 => ?_)
                            refine OwnK.aloadN X0 hx (hb hby own_d1_154) (pc' := 155) rfl (v := (.ref p1)) rfl rfl ?_
                            refine OwnK.iloadN X0 hx (hb hby own_d1_155) (pc' := 156) rfl (v := p2) rfl ?_
                            refine OwnK.iload X0 hx (hb hby own_d1_156) (pc' := 158) rfl (v := (3 : Int32)) rfl ?_
                            refine OwnK.iadd X0 hx (hb hby own_d1_158) (pc' := 159) rfl ?_
                            have hj3 : (p2 + (3 : Int32)).toInt = ((i + 3 : Nat) : Int) := by rw [own_addk (by omega) (by omega) (3 : Int32) (by decide) (by decide), show ((3 : Int32)).toInt = 3 from by decide]; omega
                            refine OwnK.baload X0 hx hZ e0 V0 (by omega) (by show _ < (5 : Int); omega) (v := (.int y3)) (by rw [OwnK.jnat hj3]; exact hv3) (hb hby own_d1_159) (pc' := 160) rfl ?_
                            refine OwnK.sipush X0 hx (hb hby own_d1_160) (pc' := 163) rfl (v := (255 : Int32)) (by decide) ?_
                            refine OwnK.iand X0 hx (hb hby own_d1_163) (pc' := 164) rfl ?_
                            refine OwnK.istore X0 hx (hb hby own_d1_164) (pc' := 166) rfl (Ls' := #[.val (.ref p1), .val (.int p2), .val (.int p3), .val (.int (y0 &&& (255 : Int32))), .val (.int (3 : Int32)), .val (.int (128 : Int32)), .val (.int (191 : Int32)), .val (.int (3 : Int32)), .val (.int (y3 &&& (255 : Int32)))]) rfl ?_
                            refine OwnK.iload X0 hx (hb hby own_d1_166) (pc' := 168) rfl (v := (y3 &&& (255 : Int32))) rfl ?_
                            refine OwnK.iload X0 hx (hb hby own_d1_168) (pc' := 170) rfl (v := (128 : Int32)) rfl ?_
                            refine OwnK.icmp_lt X0 hx (hb hby own_d1_170) (by decide) (pcT := 180) (by decide) (pc' := 173) rfl (fun (hc115 : (y3 &&& (255 : Int32)).toInt < 128) => ?_) (fun (hc115 : 128 ≤ (y3 &&& (255 : Int32)).toInt) => ?_)
                            · refine OwnK.iconst X0 hx (hb hby own_d1_180) (pc' := 181) rfl (v := (-1 : Int32)) (by decide) ?_
                              refine OwnK.retI_ X0 hx hret hlk (hb hby own_d1_181) (by decide) (by decide) ?_
                              exact ⟨congrArg (fun q => some (Value.int q)) (own_res0 (own_n0 (by omega) (by omega) (by omega))), e0, rfl⟩
                            · refine OwnK.iload X0 hx (hb hby own_d1_173) (pc' := 175) rfl (v := (y3 &&& (255 : Int32))) rfl ?_
                              refine OwnK.iload X0 hx (hb hby own_d1_175) (pc' := 177) rfl (v := (191 : Int32)) rfl ?_
                              refine OwnK.icmp_le X0 hx (hb hby own_d1_177) (by decide) (pcT := 182) (by decide) (pc' := 180) rfl (fun (hc116 : (y3 &&& (255 : Int32)).toInt ≤ 191) => ?_) (fun (hc116 : 191 < (y3 &&& (255 : Int32)).toInt) => ?_)
                              · refine OwnK.sipush X0 hx (hb hby own_d1_182) (pc' := 185) rfl (v := (128 : Int32)) (by decide) ?_
                                refine OwnK.istore X0 hx (hb hby own_d1_185) (pc' := 187) rfl (Ls' := #[.val (.ref p1), .val (.int p2), .val (.int p3), .val (.int (y0 &&& (255 : Int32))), .val (.int (3 : Int32)), .val (.int (128 : Int32)), .val (.int (191 : Int32)), .val (.int (3 : Int32)), .val (.int (y3 &&& (255 : Int32)))]) rfl ?_
                                refine OwnK.sipush X0 hx (hb hby own_d1_187) (pc' := 190) rfl (v := (191 : Int32)) (by decide) ?_
                                refine OwnK.istore X0 hx (hb hby own_d1_190) (pc' := 192) rfl (Ls' := #[.val (.ref p1), .val (.int p2), .val (.int p3), .val (.int (y0 &&& (255 : Int32))), .val (.int (3 : Int32)), .val (.int (128 : Int32)), .val (.int (191 : Int32)), .val (.int (3 : Int32)), .val (.int (y3 &&& (255 : Int32)))]) rfl ?_
                                refine OwnK.iincL X0 hx (hb hby own_d1_192) (pc' := 195) rfl (x := (3 : Int32)) rfl (v := (4 : Int32)) (by decide) (Ls' := #[.val (.ref p1), .val (.int p2), .val (.int p3), .val (.int (y0 &&& (255 : Int32))), .val (.int (3 : Int32)), .val (.int (128 : Int32)), .val (.int (191 : Int32)), .val (.int (4 : Int32)), .val (.int (y3 &&& (255 : Int32)))]) rfl ?_
                                refine OwnK.goto_ X0 hx (hb hby own_d1_195) (by decide) (pc' := 147) (by decide) ?_
                                refine OwnK.iload X0 hx (hb hby own_d1_147) (pc' := 149) rfl (v := (4 : Int32)) rfl ?_
                                refine OwnK.iload X0 hx (hb hby own_d1_149) (pc' := 151) rfl (v := (3 : Int32)) rfl ?_
                                refine OwnK.icmp_gt X0 hx (hb hby own_d1_151) (by decide) (pcT := 198) (by decide) (pc' := 154) rfl (fun hc151 => ?_) (fun (hc151 : 4 ≤ 3) => absurd hc151 (by decide))
                                refine OwnK.iloadN X0 hx (hb hby own_d1_198) (pc' := 199) rfl (v := p2) rfl ?_
                                refine OwnK.iload X0 hx (hb hby own_d1_199) (pc' := 201) rfl (v := (3 : Int32)) rfl ?_
                                refine OwnK.iadd X0 hx (hb hby own_d1_201) (pc' := 202) rfl ?_
                                refine OwnK.iconst X0 hx (hb hby own_d1_202) (pc' := 203) rfl (v := (1 : Int32)) (by decide) ?_
                                refine OwnK.iadd X0 hx (hb hby own_d1_203) (pc' := 204) rfl ?_
                                refine OwnK.retI_ X0 hx hret hlk (hb hby own_d1_204) (by decide) (by decide) ?_
                                have hr3 := own_addk (p := p2) (by omega) (by omega) (3 : Int32) (by decide) (by decide)
                                have hs3 := own_addk (p := p2 + (3 : Int32)) (by rw [hr3]; show 0 ≤ _ + (3 : Int); omega) (by rw [hr3]; show _ + (3 : Int) ≤ 5; omega) (1 : Int32) (by decide) (by decide)
                                rw [hr3, show ((3 : Int32)).toInt = 3 from by decide, show ((1 : Int32)).toInt = 1 from by decide] at hs3
                                have hn3 := own_n4 (x0 := (y0 &&& (255 : Int32)).toInt) (x1 := (y1 &&& (255 : Int32)).toInt) (x2 := (y2 &&& (255 : Int32)).toInt) (x3 := (y3 &&& (255 : Int32)).toInt) (len := p3.toInt - p2.toInt) (by omega)
                                exact ⟨congrArg (fun q => some (Value.int q)) (own_resk (by omega) (by omega)), e0, rfl⟩
                              · refine OwnK.iconst X0 hx (hb hby own_d1_180) (pc' := 181) rfl (v := (-1 : Int32)) (by decide) ?_
                                refine OwnK.retI_ X0 hx hret hlk (hb hby own_d1_181) (by decide) (by decide) ?_
                                exact ⟨congrArg (fun q => some (Value.int q)) (own_res0 (own_n0 (by omega) (by omega) (by omega))), e0, rfl⟩
                          · refine OwnK.iconst X0 hx (hb hby own_d1_180) (pc' := 181) rfl (v := (-1 : Int32)) (by decide) ?_
                            refine OwnK.retI_ X0 hx hret hlk (hb hby own_d1_181) (by decide) (by decide) ?_
                            exact ⟨congrArg (fun q => some (Value.int q)) (own_res0 (own_n0 (by omega) (by omega) (by omega))), e0, rfl⟩
                      · refine OwnK.iconst X0 hx (hb hby own_d1_180) (pc' := 181) rfl (v := (-1 : Int32)) (by decide) ?_
                        refine OwnK.retI_ X0 hx hret hlk (hb hby own_d1_181) (by decide) (by decide) ?_
                        exact ⟨congrArg (fun q => some (Value.int q)) (own_res0 (own_n0 (by omega) (by omega) (by omega))), e0, rfl⟩
                  · refine OwnK.iconst X0 hx (hb hby own_d1_142) (pc' := 143) rfl (v := (-1 : Int32)) (by decide) ?_
                    refine OwnK.retI_ X0 hx hret hlk (hb hby own_d1_143) (by decide) (by decide) ?_
                    exact ⟨congrArg (fun q => some (Value.int q)) (own_res0 (own_n0 (by omega) (by omega) (by omega))), e0, rfl⟩
              · refine OwnK.sipush X0 hx (hb hby own_d1_109) (pc' := 112) rfl (v := (144 : Int32)) (by decide) ?_
                refine OwnK.istore X0 hx (hb hby own_d1_112) (pc' := 114) rfl (Ls' := #[.val (.ref p1), .val (.int p2), .val (.int p3), .val (.int (y0 &&& (255 : Int32))), .val (.int (3 : Int32)), .val (.int (144 : Int32)), .val (.int (191 : Int32)), .unset, .unset]) rfl ?_
                refine OwnK.goto_ X0 hx (hb hby own_d1_114) (by decide) (pc' := 134) (by decide) ?_
                refine OwnK.iloadN X0 hx (hb hby own_d1_134) (pc' := 135) rfl (v := p3) rfl ?_
                refine OwnK.iloadN X0 hx (hb hby own_d1_135) (pc' := 136) rfl (v := p2) rfl ?_
                refine OwnK.isub X0 hx (hb hby own_d1_136) (pc' := 137) rfl ?_
                refine OwnK.iload X0 hx (hb hby own_d1_137) (pc' := 139) rfl (v := (3 : Int32)) rfl ?_
                refine OwnK.icmp_gt X0 hx (hb hby own_d1_139) (by decide) (pcT := 144) (by decide) (pc' := 142) rfl (fun (hc117 : 3 < (p3 - p2).toInt) => ?_) (fun (hc117 : (p3 - p2).toInt ≤ 3) => ?_)
                · refine OwnK.iconst X0 hx (hb hby own_d1_144) (pc' := 145) rfl (v := (1 : Int32)) (by decide) ?_
                  refine OwnK.istore X0 hx (hb hby own_d1_145) (pc' := 147) rfl (Ls' := #[.val (.ref p1), .val (.int p2), .val (.int p3), .val (.int (y0 &&& (255 : Int32))), .val (.int (3 : Int32)), .val (.int (144 : Int32)), .val (.int (191 : Int32)), .val (.int (1 : Int32)), .unset]) rfl ?_
                  refine OwnK.iload X0 hx (hb hby own_d1_147) (pc' := 149) rfl (v := (1 : Int32)) rfl ?_
                  refine OwnK.iload X0 hx (hb hby own_d1_149) (pc' := 151) rfl (v := (3 : Int32)) rfl ?_
                  refine OwnK.icmp_gt X0 hx (hb hby own_d1_151) (by decide) (pcT := 198) (by decide) (pc' := 154) rfl (fun (hc151 : 3 < 1) => absurd hc151 (by decide)) (fun hc151 => ?_)
                  refine OwnK.aloadN X0 hx (hb hby own_d1_154) (pc' := 155) rfl (v := (.ref p1)) rfl rfl ?_
                  refine OwnK.iloadN X0 hx (hb hby own_d1_155) (pc' := 156) rfl (v := p2) rfl ?_
                  refine OwnK.iload X0 hx (hb hby own_d1_156) (pc' := 158) rfl (v := (1 : Int32)) rfl ?_
                  refine OwnK.iadd X0 hx (hb hby own_d1_158) (pc' := 159) rfl ?_
                  have hj1 : (p2 + (1 : Int32)).toInt = ((i + 1 : Nat) : Int) := by rw [own_addk (by omega) (by omega) (1 : Int32) (by decide) (by decide), show ((1 : Int32)).toInt = 1 from by decide]; omega
                  refine OwnK.baload X0 hx hZ e0 V0 (by omega) (by show _ < (5 : Int); omega) (v := (.int y1)) (by rw [OwnK.jnat hj1]; exact hv1) (hb hby own_d1_159) (pc' := 160) rfl ?_
                  refine OwnK.sipush X0 hx (hb hby own_d1_160) (pc' := 163) rfl (v := (255 : Int32)) (by decide) ?_
                  refine OwnK.iand X0 hx (hb hby own_d1_163) (pc' := 164) rfl ?_
                  refine OwnK.istore X0 hx (hb hby own_d1_164) (pc' := 166) rfl (Ls' := #[.val (.ref p1), .val (.int p2), .val (.int p3), .val (.int (y0 &&& (255 : Int32))), .val (.int (3 : Int32)), .val (.int (144 : Int32)), .val (.int (191 : Int32)), .val (.int (1 : Int32)), .val (.int (y1 &&& (255 : Int32)))]) rfl ?_
                  refine OwnK.iload X0 hx (hb hby own_d1_166) (pc' := 168) rfl (v := (y1 &&& (255 : Int32))) rfl ?_
                  refine OwnK.iload X0 hx (hb hby own_d1_168) (pc' := 170) rfl (v := (144 : Int32)) rfl ?_
                  refine OwnK.icmp_lt X0 hx (hb hby own_d1_170) (by decide) (pcT := 180) (by decide) (pc' := 173) rfl (fun (hc118 : (y1 &&& (255 : Int32)).toInt < 144) => ?_) (fun (hc118 : 144 ≤ (y1 &&& (255 : Int32)).toInt) => ?_)
                  · refine OwnK.iconst X0 hx (hb hby own_d1_180) (pc' := 181) rfl (v := (-1 : Int32)) (by decide) ?_
                    refine OwnK.retI_ X0 hx hret hlk (hb hby own_d1_181) (by decide) (by decide) ?_
                    exact ⟨congrArg (fun q => some (Value.int q)) (own_res0 (own_n0 (by omega) (by omega) (by omega))), e0, rfl⟩
                  · refine OwnK.iload X0 hx (hb hby own_d1_173) (pc' := 175) rfl (v := (y1 &&& (255 : Int32))) rfl ?_
                    refine OwnK.iload X0 hx (hb hby own_d1_175) (pc' := 177) rfl (v := (191 : Int32)) rfl ?_
                    refine OwnK.icmp_le X0 hx (hb hby own_d1_177) (by decide) (pcT := 182) (by decide) (pc' := 180) rfl (fun (hc119 : (y1 &&& (255 : Int32)).toInt ≤ 191) => ?_) (fun (hc119 : 191 < (y1 &&& (255 : Int32)).toInt) => ?_)
                    · refine OwnK.sipush X0 hx (hb hby own_d1_182) (pc' := 185) rfl (v := (128 : Int32)) (by decide) ?_
                      refine OwnK.istore X0 hx (hb hby own_d1_185) (pc' := 187) rfl (Ls' := #[.val (.ref p1), .val (.int p2), .val (.int p3), .val (.int (y0 &&& (255 : Int32))), .val (.int (3 : Int32)), .val (.int (128 : Int32)), .val (.int (191 : Int32)), .val (.int (1 : Int32)), .val (.int (y1 &&& (255 : Int32)))]) rfl ?_
                      refine OwnK.sipush X0 hx (hb hby own_d1_187) (pc' := 190) rfl (v := (191 : Int32)) (by decide) ?_
                      refine OwnK.istore X0 hx (hb hby own_d1_190) (pc' := 192) rfl (Ls' := #[.val (.ref p1), .val (.int p2), .val (.int p3), .val (.int (y0 &&& (255 : Int32))), .val (.int (3 : Int32)), .val (.int (128 : Int32)), .val (.int (191 : Int32)), .val (.int (1 : Int32)), .val (.int (y1 &&& (255 : Int32)))]) rfl ?_
                      refine OwnK.iincL X0 hx (hb hby own_d1_192) (pc' := 195) rfl (x := (1 : Int32)) rfl (v := (2 : Int32)) (by decide) (Ls' := #[.val (.ref p1), .val (.int p2), .val (.int p3), .val (.int (y0 &&& (255 : Int32))), .val (.int (3 : Int32)), .val (.int (128 : Int32)), .val (.int (191 : Int32)), .val (.int (2 : Int32)), .val (.int (y1 &&& (255 : Int32)))]) rfl ?_
                      refine OwnK.goto_ X0 hx (hb hby own_d1_195) (by decide) (pc' := 147) (by decide) ?_
                      refine OwnK.iload X0 hx (hb hby own_d1_147) (pc' := 149) rfl (v := (2 : Int32)) rfl ?_
                      refine OwnK.iload X0 hx (hb hby own_d1_149) (pc' := 151) rfl (v := (3 : Int32)) rfl ?_
                      refine OwnK.icmp_gt X0 hx (hb hby own_d1_151) (by decide) (pcT := 198) (by decide) (pc' := 154) rfl (fun (hc151 : 3 < 2) => absurd hc151 (by decide)) (fun hc151 => ?_)
                      refine OwnK.aloadN X0 hx (hb hby own_d1_154) (pc' := 155) rfl (v := (.ref p1)) rfl rfl ?_
                      refine OwnK.iloadN X0 hx (hb hby own_d1_155) (pc' := 156) rfl (v := p2) rfl ?_
                      refine OwnK.iload X0 hx (hb hby own_d1_156) (pc' := 158) rfl (v := (2 : Int32)) rfl ?_
                      refine OwnK.iadd X0 hx (hb hby own_d1_158) (pc' := 159) rfl ?_
                      have hj2 : (p2 + (2 : Int32)).toInt = ((i + 2 : Nat) : Int) := by rw [own_addk (by omega) (by omega) (2 : Int32) (by decide) (by decide), show ((2 : Int32)).toInt = 2 from by decide]; omega
                      refine OwnK.baload X0 hx hZ e0 V0 (by omega) (by show _ < (5 : Int); omega) (v := (.int y2)) (by rw [OwnK.jnat hj2]; exact hv2) (hb hby own_d1_159) (pc' := 160) rfl ?_
                      refine OwnK.sipush X0 hx (hb hby own_d1_160) (pc' := 163) rfl (v := (255 : Int32)) (by decide) ?_
                      refine OwnK.iand X0 hx (hb hby own_d1_163) (pc' := 164) rfl ?_
                      refine OwnK.istore X0 hx (hb hby own_d1_164) (pc' := 166) rfl (Ls' := #[.val (.ref p1), .val (.int p2), .val (.int p3), .val (.int (y0 &&& (255 : Int32))), .val (.int (3 : Int32)), .val (.int (128 : Int32)), .val (.int (191 : Int32)), .val (.int (2 : Int32)), .val (.int (y2 &&& (255 : Int32)))]) rfl ?_
                      refine OwnK.iload X0 hx (hb hby own_d1_166) (pc' := 168) rfl (v := (y2 &&& (255 : Int32))) rfl ?_
                      refine OwnK.iload X0 hx (hb hby own_d1_168) (pc' := 170) rfl (v := (128 : Int32)) rfl ?_
                      refine OwnK.icmp_lt X0 hx (hb hby own_d1_170) (by decide) (pcT := 180) (by decide) (pc' := 173) rfl (fun (hc120 : (y2 &&& (255 : Int32)).toInt < 128) => ?_) (fun (hc120 : 128 ≤ (y2 &&& (255 : Int32)).toInt) => ?_)
                      · refine OwnK.iconst X0 hx (hb hby own_d1_180) (pc' := 181) rfl (v := (-1 : Int32)) (by decide) ?_
                        refine OwnK.retI_ X0 hx hret hlk (hb hby own_d1_181) (by decide) (by decide) ?_
                        exact ⟨congrArg (fun q => some (Value.int q)) (own_res0 (own_n0 (by omega) (by omega) (by omega))), e0, rfl⟩
                      · refine OwnK.iload X0 hx (hb hby own_d1_173) (pc' := 175) rfl (v := (y2 &&& (255 : Int32))) rfl ?_
                        refine OwnK.iload X0 hx (hb hby own_d1_175) (pc' := 177) rfl (v := (191 : Int32)) rfl ?_
                        refine OwnK.icmp_le X0 hx (hb hby own_d1_177) (by decide) (pcT := 182) (by decide) (pc' := 180) rfl (fun (hc121 : (y2 &&& (255 : Int32)).toInt ≤ 191) => ?_) (fun (hc121 : 191 < (y2 &&& (255 : Int32)).toInt) => ?_)
                        · refine OwnK.sipush X0 hx (hb hby own_d1_182) (pc' := 185) rfl (v := (128 : Int32)) (by decide) ?_
                          refine OwnK.istore X0 hx (hb hby own_d1_185) (pc' := 187) rfl (Ls' := #[.val (.ref p1), .val (.int p2), .val (.int p3), .val (.int (y0 &&& (255 : Int32))), .val (.int (3 : Int32)), .val (.int (128 : Int32)), .val (.int (191 : Int32)), .val (.int (2 : Int32)), .val (.int (y2 &&& (255 : Int32)))]) rfl ?_
                          refine OwnK.sipush X0 hx (hb hby own_d1_187) (pc' := 190) rfl (v := (191 : Int32)) (by decide) ?_
                          refine OwnK.istore X0 hx (hb hby own_d1_190) (pc' := 192) rfl (Ls' := #[.val (.ref p1), .val (.int p2), .val (.int p3), .val (.int (y0 &&& (255 : Int32))), .val (.int (3 : Int32)), .val (.int (128 : Int32)), .val (.int (191 : Int32)), .val (.int (2 : Int32)), .val (.int (y2 &&& (255 : Int32)))]) rfl ?_
                          refine OwnK.iincL X0 hx (hb hby own_d1_192) (pc' := 195) rfl (x := (2 : Int32)) rfl (v := (3 : Int32)) (by decide) (Ls' := #[.val (.ref p1), .val (.int p2), .val (.int p3), .val (.int (y0 &&& (255 : Int32))), .val (.int (3 : Int32)), .val (.int (128 : Int32)), .val (.int (191 : Int32)), .val (.int (3 : Int32)), .val (.int (y2 &&& (255 : Int32)))]) rfl ?_
                          refine OwnK.goto_ X0 hx (hb hby own_d1_195) (by decide) (pc' := 147) (by decide) ?_
                          refine OwnK.iload X0 hx (hb hby own_d1_147) (pc' := 149) rfl (v := (3 : Int32)) rfl ?_
                          refine OwnK.iload X0 hx (hb hby own_d1_149) (pc' := 151) rfl (v := (3 : Int32)) rfl ?_
                          refine OwnK.icmp_gt X0 hx (hb hby own_d1_151) (by decide) (pcT := 198) (by decide) (pc' := 154) rfl (fun (hc151 : 3 < 3) => absurd hc151 (by decide)) (fun hc151 => ?_)
                          refine OwnK.aloadN X0 hx (hb hby own_d1_154) (pc' := 155) rfl (v := (.ref p1)) rfl rfl ?_
                          refine OwnK.iloadN X0 hx (hb hby own_d1_155) (pc' := 156) rfl (v := p2) rfl ?_
                          refine OwnK.iload X0 hx (hb hby own_d1_156) (pc' := 158) rfl (v := (3 : Int32)) rfl ?_
                          refine OwnK.iadd X0 hx (hb hby own_d1_158) (pc' := 159) rfl ?_
                          have hj3 : (p2 + (3 : Int32)).toInt = ((i + 3 : Nat) : Int) := by rw [own_addk (by omega) (by omega) (3 : Int32) (by decide) (by decide), show ((3 : Int32)).toInt = 3 from by decide]; omega
                          refine OwnK.baload X0 hx hZ e0 V0 (by omega) (by show _ < (5 : Int); omega) (v := (.int y3)) (by rw [OwnK.jnat hj3]; exact hv3) (hb hby own_d1_159) (pc' := 160) rfl ?_
                          refine OwnK.sipush X0 hx (hb hby own_d1_160) (pc' := 163) rfl (v := (255 : Int32)) (by decide) ?_
                          refine OwnK.iand X0 hx (hb hby own_d1_163) (pc' := 164) rfl ?_
                          refine OwnK.istore X0 hx (hb hby own_d1_164) (pc' := 166) rfl (Ls' := #[.val (.ref p1), .val (.int p2), .val (.int p3), .val (.int (y0 &&& (255 : Int32))), .val (.int (3 : Int32)), .val (.int (128 : Int32)), .val (.int (191 : Int32)), .val (.int (3 : Int32)), .val (.int (y3 &&& (255 : Int32)))]) rfl ?_
                          refine OwnK.iload X0 hx (hb hby own_d1_166) (pc' := 168) rfl (v := (y3 &&& (255 : Int32))) rfl ?_
                          refine OwnK.iload X0 hx (hb hby own_d1_168) (pc' := 170) rfl (v := (128 : Int32)) rfl ?_
                          refine OwnK.icmp_lt X0 hx (hb hby own_d1_170) (by decide) (pcT := 180) (by decide) (pc' := 173) rfl (fun (hc122 : (y3 &&& (255 : Int32)).toInt < 128) => ?_) (fun (hc122 : 128 ≤ (y3 &&& (255 : Int32)).toInt) => ?_)
                          · refine OwnK.iconst X0 hx (hb hby own_d1_180) (pc' := 181) rfl (v := (-1 : Int32)) (by decide) ?_
                            refine OwnK.retI_ X0 hx hret hlk (hb hby own_d1_181) (by decide) (by decide) ?_
                            exact ⟨congrArg (fun q => some (Value.int q)) (own_res0 (own_n0 (by omega) (by omega) (by omega))), e0, rfl⟩
                          · refine OwnK.iload X0 hx (hb hby own_d1_173) (pc' := 175) rfl (v := (y3 &&& (255 : Int32))) rfl ?_
                            refine OwnK.iload X0 hx (hb hby own_d1_175) (pc' := 177) rfl (v := (191 : Int32)) rfl ?_
                            refine OwnK.icmp_le X0 hx (hb hby own_d1_177) (by decide) (pcT := 182) (by decide) (pc' := 180) rfl (fun (hc123 : (y3 &&& (255 : Int32)).toInt ≤ 191) => ?_) (fun (hc123 : 191 < (y3 &&& (255 : Int32)).toInt) => ?_)
                            · refine OwnK.sipush X0 hx (hb hby own_d1_182) (pc' := 185) rfl (v := (128 : Int32)) (by decide) ?_
                              refine OwnK.istore X0 hx (hb hby own_d1_185) (pc' := 187) rfl (Ls' := #[.val (.ref p1), .val (.int p2), .val (.int p3), .val (.int (y0 &&& (255 : Int32))), .val (.int (3 : Int32)), .val (.int (128 : Int32)), .val (.int (191 : Int32)), .val (.int (3 : Int32)), .val (.int (y3 &&& (255 : Int32)))]) rfl ?_
                              refine OwnK.sipush X0 hx (hb hby own_d1_187) (pc' := 190) rfl (v := (191 : Int32)) (by decide) ?_
                              refine OwnK.istore X0 hx (hb hby own_d1_190) (pc' := 192) rfl (Ls' := #[.val (.ref p1), .val (.int p2), .val (.int p3), .val (.int (y0 &&& (255 : Int32))), .val (.int (3 : Int32)), .val (.int (128 : Int32)), .val (.int (191 : Int32)), .val (.int (3 : Int32)), .val (.int (y3 &&& (255 : Int32)))]) rfl ?_
                              refine OwnK.iincL X0 hx (hb hby own_d1_192) (pc' := 195) rfl (x := (3 : Int32)) rfl (v := (4 : Int32)) (by decide) (Ls' := #[.val (.ref p1), .val (.int p2), .val (.int p3), .val (.int (y0 &&& (255 : Int32))), .val (.int (3 : Int32)), .val (.int (128 : Int32)), .val (.int (191 : Int32)), .val (.int (4 : Int32)), .val (.int (y3 &&& (255 : Int32)))]) rfl ?_
                              refine OwnK.goto_ X0 hx (hb hby own_d1_195) (by decide) (pc' := 147) (by decide) ?_
                              refine OwnK.iload X0 hx (hb hby own_d1_147) (pc' := 149) rfl (v := (4 : Int32)) rfl ?_
                              refine OwnK.iload X0 hx (hb hby own_d1_149) (pc' := 151) rfl (v := (3 : Int32)) rfl ?_
                              refine OwnK.icmp_gt X0 hx (hb hby own_d1_151) (by decide) (pcT := 198) (by decide) (pc' := 154) rfl (fun hc151 => ?_) (fun (hc151 : 4 ≤ 3) => absurd hc151 (by decide))
                              refine OwnK.iloadN X0 hx (hb hby own_d1_198) (pc' := 199) rfl (v := p2) rfl ?_
                              refine OwnK.iload X0 hx (hb hby own_d1_199) (pc' := 201) rfl (v := (3 : Int32)) rfl ?_
                              refine OwnK.iadd X0 hx (hb hby own_d1_201) (pc' := 202) rfl ?_
                              refine OwnK.iconst X0 hx (hb hby own_d1_202) (pc' := 203) rfl (v := (1 : Int32)) (by decide) ?_
                              refine OwnK.iadd X0 hx (hb hby own_d1_203) (pc' := 204) rfl ?_
                              refine OwnK.retI_ X0 hx hret hlk (hb hby own_d1_204) (by decide) (by decide) ?_
                              have hr3 := own_addk (p := p2) (by omega) (by omega) (3 : Int32) (by decide) (by decide)
                              have hs3 := own_addk (p := p2 + (3 : Int32)) (by rw [hr3]; show 0 ≤ _ + (3 : Int); omega) (by rw [hr3]; show _ + (3 : Int) ≤ 5; omega) (1 : Int32) (by decide) (by decide)
                              rw [hr3, show ((3 : Int32)).toInt = 3 from by decide, show ((1 : Int32)).toInt = 1 from by decide] at hs3
                              have hn3 := own_n4 (x0 := (y0 &&& (255 : Int32)).toInt) (x1 := (y1 &&& (255 : Int32)).toInt) (x2 := (y2 &&& (255 : Int32)).toInt) (x3 := (y3 &&& (255 : Int32)).toInt) (len := p3.toInt - p2.toInt) (by omega)
                              exact ⟨congrArg (fun q => some (Value.int q)) (own_resk (by omega) (by omega)), e0, rfl⟩
                            · refine OwnK.iconst X0 hx (hb hby own_d1_180) (pc' := 181) rfl (v := (-1 : Int32)) (by decide) ?_
                              refine OwnK.retI_ X0 hx hret hlk (hb hby own_d1_181) (by decide) (by decide) ?_
                              exact ⟨congrArg (fun q => some (Value.int q)) (own_res0 (own_n0 (by omega) (by omega) (by omega))), e0, rfl⟩
                        · refine OwnK.iconst X0 hx (hb hby own_d1_180) (pc' := 181) rfl (v := (-1 : Int32)) (by decide) ?_
                          refine OwnK.retI_ X0 hx hret hlk (hb hby own_d1_181) (by decide) (by decide) ?_
                          exact ⟨congrArg (fun q => some (Value.int q)) (own_res0 (own_n0 (by omega) (by omega) (by omega))), e0, rfl⟩
                    · refine OwnK.iconst X0 hx (hb hby own_d1_180) (pc' := 181) rfl (v := (-1 : Int32)) (by decide) ?_
                      refine OwnK.retI_ X0 hx hret hlk (hb hby own_d1_181) (by decide) (by decide) ?_
                      exact ⟨congrArg (fun q => some (Value.int q)) (own_res0 (own_n0 (by omega) (by omega) (by omega))), e0, rfl⟩
                · refine OwnK.iconst X0 hx (hb hby own_d1_142) (pc' := 143) rfl (v := (-1 : Int32)) (by decide) ?_
                  refine OwnK.retI_ X0 hx hret hlk (hb hby own_d1_143) (by decide) (by decide) ?_
                  exact ⟨congrArg (fun q => some (Value.int q)) (own_res0 (own_n0 (by omega) (by omega) (by omega))), e0, rfl⟩
        · refine OwnK.iconst X0 hx (hb hby own_d1_52) (pc' := 53) rfl (v := (2 : Int32)) (by decide) ?_
          refine OwnK.istore X0 hx (hb hby own_d1_53) (pc' := 55) rfl (Ls' := #[.val (.ref p1), .val (.int p2), .val (.int p3), .val (.int (y0 &&& (255 : Int32))), .val (.int (2 : Int32)), .val (.int (128 : Int32)), .val (.int (191 : Int32)), .unset, .unset]) rfl ?_
          refine OwnK.iloadN X0 hx (hb hby own_d1_55) (pc' := 56) rfl (v := (y0 &&& (255 : Int32))) rfl ?_
          refine OwnK.sipush X0 hx (hb hby own_d1_56) (pc' := 59) rfl (v := (224 : Int32)) (by decide) ?_
          refine OwnK.icmp_ne X0 hx (hb hby own_d1_59) (by decide) (pcT := 70) (by decide) (pc' := 62) rfl (fun (hc124 : ¬ (y0 &&& (255 : Int32)).toInt = 224) => ?_) (fun (hc124 : (y0 &&& (255 : Int32)).toInt = 224) => ?_)
          · refine OwnK.iloadN X0 hx (hb hby own_d1_70) (pc' := 71) rfl (v := (y0 &&& (255 : Int32))) rfl ?_
            refine OwnK.sipush X0 hx (hb hby own_d1_71) (pc' := 74) rfl (v := (237 : Int32)) (by decide) ?_
            refine OwnK.icmp_ne X0 hx (hb hby own_d1_74) (by decide) (pcT := 134) (by decide) (pc' := 77) rfl (fun (hc125 : ¬ (y0 &&& (255 : Int32)).toInt = 237) => ?_) (fun (hc125 : (y0 &&& (255 : Int32)).toInt = 237) => ?_)
            · refine OwnK.iloadN X0 hx (hb hby own_d1_134) (pc' := 135) rfl (v := p3) rfl ?_
              refine OwnK.iloadN X0 hx (hb hby own_d1_135) (pc' := 136) rfl (v := p2) rfl ?_
              refine OwnK.isub X0 hx (hb hby own_d1_136) (pc' := 137) rfl ?_
              refine OwnK.iload X0 hx (hb hby own_d1_137) (pc' := 139) rfl (v := (2 : Int32)) rfl ?_
              refine OwnK.icmp_gt X0 hx (hb hby own_d1_139) (by decide) (pcT := 144) (by decide) (pc' := 142) rfl (fun (hc126 : 2 < (p3 - p2).toInt) => ?_) (fun (hc126 : (p3 - p2).toInt ≤ 2) => ?_)
              · refine OwnK.iconst X0 hx (hb hby own_d1_144) (pc' := 145) rfl (v := (1 : Int32)) (by decide) ?_
                refine OwnK.istore X0 hx (hb hby own_d1_145) (pc' := 147) rfl (Ls' := #[.val (.ref p1), .val (.int p2), .val (.int p3), .val (.int (y0 &&& (255 : Int32))), .val (.int (2 : Int32)), .val (.int (128 : Int32)), .val (.int (191 : Int32)), .val (.int (1 : Int32)), .unset]) rfl ?_
                refine OwnK.iload X0 hx (hb hby own_d1_147) (pc' := 149) rfl (v := (1 : Int32)) rfl ?_
                refine OwnK.iload X0 hx (hb hby own_d1_149) (pc' := 151) rfl (v := (2 : Int32)) rfl ?_
                refine OwnK.icmp_gt X0 hx (hb hby own_d1_151) (by decide) (pcT := 198) (by decide) (pc' := 154) rfl (fun (hc151 : 2 < 1) => absurd hc151 (by decide)) (fun hc151 => ?_)
                refine OwnK.aloadN X0 hx (hb hby own_d1_154) (pc' := 155) rfl (v := (.ref p1)) rfl rfl ?_
                refine OwnK.iloadN X0 hx (hb hby own_d1_155) (pc' := 156) rfl (v := p2) rfl ?_
                refine OwnK.iload X0 hx (hb hby own_d1_156) (pc' := 158) rfl (v := (1 : Int32)) rfl ?_
                refine OwnK.iadd X0 hx (hb hby own_d1_158) (pc' := 159) rfl ?_
                have hj1 : (p2 + (1 : Int32)).toInt = ((i + 1 : Nat) : Int) := by rw [own_addk (by omega) (by omega) (1 : Int32) (by decide) (by decide), show ((1 : Int32)).toInt = 1 from by decide]; omega
                refine OwnK.baload X0 hx hZ e0 V0 (by omega) (by show _ < (5 : Int); omega) (v := (.int y1)) (by rw [OwnK.jnat hj1]; exact hv1) (hb hby own_d1_159) (pc' := 160) rfl ?_
                refine OwnK.sipush X0 hx (hb hby own_d1_160) (pc' := 163) rfl (v := (255 : Int32)) (by decide) ?_
                refine OwnK.iand X0 hx (hb hby own_d1_163) (pc' := 164) rfl ?_
                refine OwnK.istore X0 hx (hb hby own_d1_164) (pc' := 166) rfl (Ls' := #[.val (.ref p1), .val (.int p2), .val (.int p3), .val (.int (y0 &&& (255 : Int32))), .val (.int (2 : Int32)), .val (.int (128 : Int32)), .val (.int (191 : Int32)), .val (.int (1 : Int32)), .val (.int (y1 &&& (255 : Int32)))]) rfl ?_
                refine OwnK.iload X0 hx (hb hby own_d1_166) (pc' := 168) rfl (v := (y1 &&& (255 : Int32))) rfl ?_
                refine OwnK.iload X0 hx (hb hby own_d1_168) (pc' := 170) rfl (v := (128 : Int32)) rfl ?_
                refine OwnK.icmp_lt X0 hx (hb hby own_d1_170) (by decide) (pcT := 180) (by decide) (pc' := 173) rfl (fun (hc127 : (y1 &&& (255 : Int32)).toInt < 128) => ?_) (fun (hc127 : 128 ≤ (y1 &&& (255 : Int32)).toInt) => ?_)
                · refine OwnK.iconst X0 hx (hb hby own_d1_180) (pc' := 181) rfl (v := (-1 : Int32)) (by decide) ?_
                  refine OwnK.retI_ X0 hx hret hlk (hb hby own_d1_181) (by decide) (by decide) ?_
                  exact ⟨congrArg (fun q => some (Value.int q)) (own_res0 (own_n0 (by omega) (by omega) (by omega))), e0, rfl⟩
                · refine OwnK.iload X0 hx (hb hby own_d1_173) (pc' := 175) rfl (v := (y1 &&& (255 : Int32))) rfl ?_
                  refine OwnK.iload X0 hx (hb hby own_d1_175) (pc' := 177) rfl (v := (191 : Int32)) rfl ?_
                  refine OwnK.icmp_le X0 hx (hb hby own_d1_177) (by decide) (pcT := 182) (by decide) (pc' := 180) rfl (fun (hc128 : (y1 &&& (255 : Int32)).toInt ≤ 191) => ?_) (fun (hc128 : 191 < (y1 &&& (255 : Int32)).toInt) => ?_)
                  · refine OwnK.sipush X0 hx (hb hby own_d1_182) (pc' := 185) rfl (v := (128 : Int32)) (by decide) ?_
                    refine OwnK.istore X0 hx (hb hby own_d1_185) (pc' := 187) rfl (Ls' := #[.val (.ref p1), .val (.int p2), .val (.int p3), .val (.int (y0 &&& (255 : Int32))), .val (.int (2 : Int32)), .val (.int (128 : Int32)), .val (.int (191 : Int32)), .val (.int (1 : Int32)), .val (.int (y1 &&& (255 : Int32)))]) rfl ?_
                    refine OwnK.sipush X0 hx (hb hby own_d1_187) (pc' := 190) rfl (v := (191 : Int32)) (by decide) ?_
                    refine OwnK.istore X0 hx (hb hby own_d1_190) (pc' := 192) rfl (Ls' := #[.val (.ref p1), .val (.int p2), .val (.int p3), .val (.int (y0 &&& (255 : Int32))), .val (.int (2 : Int32)), .val (.int (128 : Int32)), .val (.int (191 : Int32)), .val (.int (1 : Int32)), .val (.int (y1 &&& (255 : Int32)))]) rfl ?_
                    refine OwnK.iincL X0 hx (hb hby own_d1_192) (pc' := 195) rfl (x := (1 : Int32)) rfl (v := (2 : Int32)) (by decide) (Ls' := #[.val (.ref p1), .val (.int p2), .val (.int p3), .val (.int (y0 &&& (255 : Int32))), .val (.int (2 : Int32)), .val (.int (128 : Int32)), .val (.int (191 : Int32)), .val (.int (2 : Int32)), .val (.int (y1 &&& (255 : Int32)))]) rfl ?_
                    refine OwnK.goto_ X0 hx (hb hby own_d1_195) (by decide) (pc' := 147) (by decide) ?_
                    refine OwnK.iload X0 hx (hb hby own_d1_147) (pc' := 149) rfl (v := (2 : Int32)) rfl ?_
                    refine OwnK.iload X0 hx (hb hby own_d1_149) (pc' := 151) rfl (v := (2 : Int32)) rfl ?_
                    refine OwnK.icmp_gt X0 hx (hb hby own_d1_151) (by decide) (pcT := 198) (by decide) (pc' := 154) rfl (fun (hc151 : 2 < 2) => absurd hc151 (by decide)) (fun hc151 => ?_)
                    refine OwnK.aloadN X0 hx (hb hby own_d1_154) (pc' := 155) rfl (v := (.ref p1)) rfl rfl ?_
                    refine OwnK.iloadN X0 hx (hb hby own_d1_155) (pc' := 156) rfl (v := p2) rfl ?_
                    refine OwnK.iload X0 hx (hb hby own_d1_156) (pc' := 158) rfl (v := (2 : Int32)) rfl ?_
                    refine OwnK.iadd X0 hx (hb hby own_d1_158) (pc' := 159) rfl ?_
                    have hj2 : (p2 + (2 : Int32)).toInt = ((i + 2 : Nat) : Int) := by rw [own_addk (by omega) (by omega) (2 : Int32) (by decide) (by decide), show ((2 : Int32)).toInt = 2 from by decide]; omega
                    refine OwnK.baload X0 hx hZ e0 V0 (by omega) (by show _ < (5 : Int); omega) (v := (.int y2)) (by rw [OwnK.jnat hj2]; exact hv2) (hb hby own_d1_159) (pc' := 160) rfl ?_
                    refine OwnK.sipush X0 hx (hb hby own_d1_160) (pc' := 163) rfl (v := (255 : Int32)) (by decide) ?_
                    refine OwnK.iand X0 hx (hb hby own_d1_163) (pc' := 164) rfl ?_
                    refine OwnK.istore X0 hx (hb hby own_d1_164) (pc' := 166) rfl (Ls' := #[.val (.ref p1), .val (.int p2), .val (.int p3), .val (.int (y0 &&& (255 : Int32))), .val (.int (2 : Int32)), .val (.int (128 : Int32)), .val (.int (191 : Int32)), .val (.int (2 : Int32)), .val (.int (y2 &&& (255 : Int32)))]) rfl ?_
                    refine OwnK.iload X0 hx (hb hby own_d1_166) (pc' := 168) rfl (v := (y2 &&& (255 : Int32))) rfl ?_
                    refine OwnK.iload X0 hx (hb hby own_d1_168) (pc' := 170) rfl (v := (128 : Int32)) rfl ?_
                    refine OwnK.icmp_lt X0 hx (hb hby own_d1_170) (by decide) (pcT := 180) (by decide) (pc' := 173) rfl (fun (hc129 : (y2 &&& (255 : Int32)).toInt < 128) => ?_) (fun (hc129 : 128 ≤ (y2 &&& (255 : Int32)).toInt) => ?_)
                    · refine OwnK.iconst X0 hx (hb hby own_d1_180) (pc' := 181) rfl (v := (-1 : Int32)) (by decide) ?_
                      refine OwnK.retI_ X0 hx hret hlk (hb hby own_d1_181) (by decide) (by decide) ?_
                      exact ⟨congrArg (fun q => some (Value.int q)) (own_res0 (own_n0 (by omega) (by omega) (by omega))), e0, rfl⟩
                    · refine OwnK.iload X0 hx (hb hby own_d1_173) (pc' := 175) rfl (v := (y2 &&& (255 : Int32))) rfl ?_
                      refine OwnK.iload X0 hx (hb hby own_d1_175) (pc' := 177) rfl (v := (191 : Int32)) rfl ?_
                      refine OwnK.icmp_le X0 hx (hb hby own_d1_177) (by decide) (pcT := 182) (by decide) (pc' := 180) rfl (fun (hc130 : (y2 &&& (255 : Int32)).toInt ≤ 191) => ?_) (fun (hc130 : 191 < (y2 &&& (255 : Int32)).toInt) => ?_)
                      · refine OwnK.sipush X0 hx (hb hby own_d1_182) (pc' := 185) rfl (v := (128 : Int32)) (by decide) ?_
                        refine OwnK.istore X0 hx (hb hby own_d1_185) (pc' := 187) rfl (Ls' := #[.val (.ref p1), .val (.int p2), .val (.int p3), .val (.int (y0 &&& (255 : Int32))), .val (.int (2 : Int32)), .val (.int (128 : Int32)), .val (.int (191 : Int32)), .val (.int (2 : Int32)), .val (.int (y2 &&& (255 : Int32)))]) rfl ?_
                        refine OwnK.sipush X0 hx (hb hby own_d1_187) (pc' := 190) rfl (v := (191 : Int32)) (by decide) ?_
                        refine OwnK.istore X0 hx (hb hby own_d1_190) (pc' := 192) rfl (Ls' := #[.val (.ref p1), .val (.int p2), .val (.int p3), .val (.int (y0 &&& (255 : Int32))), .val (.int (2 : Int32)), .val (.int (128 : Int32)), .val (.int (191 : Int32)), .val (.int (2 : Int32)), .val (.int (y2 &&& (255 : Int32)))]) rfl ?_
                        refine OwnK.iincL X0 hx (hb hby own_d1_192) (pc' := 195) rfl (x := (2 : Int32)) rfl (v := (3 : Int32)) (by decide) (Ls' := #[.val (.ref p1), .val (.int p2), .val (.int p3), .val (.int (y0 &&& (255 : Int32))), .val (.int (2 : Int32)), .val (.int (128 : Int32)), .val (.int (191 : Int32)), .val (.int (3 : Int32)), .val (.int (y2 &&& (255 : Int32)))]) rfl ?_
                        refine OwnK.goto_ X0 hx (hb hby own_d1_195) (by decide) (pc' := 147) (by decide) ?_
                        refine OwnK.iload X0 hx (hb hby own_d1_147) (pc' := 149) rfl (v := (3 : Int32)) rfl ?_
                        refine OwnK.iload X0 hx (hb hby own_d1_149) (pc' := 151) rfl (v := (2 : Int32)) rfl ?_
                        refine OwnK.icmp_gt X0 hx (hb hby own_d1_151) (by decide) (pcT := 198) (by decide) (pc' := 154) rfl (fun hc151 => ?_) (fun (hc151 : 3 ≤ 2) => absurd hc151 (by decide))
                        refine OwnK.iloadN X0 hx (hb hby own_d1_198) (pc' := 199) rfl (v := p2) rfl ?_
                        refine OwnK.iload X0 hx (hb hby own_d1_199) (pc' := 201) rfl (v := (2 : Int32)) rfl ?_
                        refine OwnK.iadd X0 hx (hb hby own_d1_201) (pc' := 202) rfl ?_
                        refine OwnK.iconst X0 hx (hb hby own_d1_202) (pc' := 203) rfl (v := (1 : Int32)) (by decide) ?_
                        refine OwnK.iadd X0 hx (hb hby own_d1_203) (pc' := 204) rfl ?_
                        refine OwnK.retI_ X0 hx hret hlk (hb hby own_d1_204) (by decide) (by decide) ?_
                        have hr2 := own_addk (p := p2) (by omega) (by omega) (2 : Int32) (by decide) (by decide)
                        have hs2 := own_addk (p := p2 + (2 : Int32)) (by rw [hr2]; show 0 ≤ _ + (2 : Int); omega) (by rw [hr2]; show _ + (2 : Int) ≤ 5; omega) (1 : Int32) (by decide) (by decide)
                        rw [hr2, show ((2 : Int32)).toInt = 2 from by decide, show ((1 : Int32)).toInt = 1 from by decide] at hs2
                        have hn2 := own_n3 (x0 := (y0 &&& (255 : Int32)).toInt) (x1 := (y1 &&& (255 : Int32)).toInt) (x2 := (y2 &&& (255 : Int32)).toInt) (x3 := (y3 &&& (255 : Int32)).toInt) (len := p3.toInt - p2.toInt) (by omega)
                        exact ⟨congrArg (fun q => some (Value.int q)) (own_resk (by omega) (by omega)), e0, rfl⟩
                      · refine OwnK.iconst X0 hx (hb hby own_d1_180) (pc' := 181) rfl (v := (-1 : Int32)) (by decide) ?_
                        refine OwnK.retI_ X0 hx hret hlk (hb hby own_d1_181) (by decide) (by decide) ?_
                        exact ⟨congrArg (fun q => some (Value.int q)) (own_res0 (own_n0 (by omega) (by omega) (by omega))), e0, rfl⟩
                  · refine OwnK.iconst X0 hx (hb hby own_d1_180) (pc' := 181) rfl (v := (-1 : Int32)) (by decide) ?_
                    refine OwnK.retI_ X0 hx hret hlk (hb hby own_d1_181) (by decide) (by decide) ?_
                    exact ⟨congrArg (fun q => some (Value.int q)) (own_res0 (own_n0 (by omega) (by omega) (by omega))), e0, rfl⟩
              · refine OwnK.iconst X0 hx (hb hby own_d1_142) (pc' := 143) rfl (v := (-1 : Int32)) (by decide) ?_
                refine OwnK.retI_ X0 hx hret hlk (hb hby own_d1_143) (by decide) (by decide) ?_
                exact ⟨congrArg (fun q => some (Value.int q)) (own_res0 (own_n0 (by omega) (by omega) (by omega))), e0, rfl⟩
            · refine OwnK.sipush X0 hx (hb hby own_d1_77) (pc' := 80) rfl (v := (159 : Int32)) (by decide) ?_
              refine OwnK.istore X0 hx (hb hby own_d1_80) (pc' := 82) rfl (Ls' := #[.val (.ref p1), .val (.int p2), .val (.int p3), .val (.int (y0 &&& (255 : Int32))), .val (.int (2 : Int32)), .val (.int (128 : Int32)), .val (.int (159 : Int32)), .unset, .unset]) rfl ?_
              refine OwnK.goto_ X0 hx (hb hby own_d1_82) (by decide) (pc' := 134) (by decide) ?_
              refine OwnK.iloadN X0 hx (hb hby own_d1_134) (pc' := 135) rfl (v := p3) rfl ?_
              refine OwnK.iloadN X0 hx (hb hby own_d1_135) (pc' := 136) rfl (v := p2) rfl ?_
              refine OwnK.isub X0 hx (hb hby own_d1_136) (pc' := 137) rfl ?_
              refine OwnK.iload X0 hx (hb hby own_d1_137) (pc' := 139) rfl (v := (2 : Int32)) rfl ?_
              refine OwnK.icmp_gt X0 hx (hb hby own_d1_139) (by decide) (pcT := 144) (by decide) (pc' := 142) rfl (fun (hc131 : 2 < (p3 - p2).toInt) => ?_) (fun (hc131 : (p3 - p2).toInt ≤ 2) => ?_)
              · refine OwnK.iconst X0 hx (hb hby own_d1_144) (pc' := 145) rfl (v := (1 : Int32)) (by decide) ?_
                refine OwnK.istore X0 hx (hb hby own_d1_145) (pc' := 147) rfl (Ls' := #[.val (.ref p1), .val (.int p2), .val (.int p3), .val (.int (y0 &&& (255 : Int32))), .val (.int (2 : Int32)), .val (.int (128 : Int32)), .val (.int (159 : Int32)), .val (.int (1 : Int32)), .unset]) rfl ?_
                refine OwnK.iload X0 hx (hb hby own_d1_147) (pc' := 149) rfl (v := (1 : Int32)) rfl ?_
                refine OwnK.iload X0 hx (hb hby own_d1_149) (pc' := 151) rfl (v := (2 : Int32)) rfl ?_
                refine OwnK.icmp_gt X0 hx (hb hby own_d1_151) (by decide) (pcT := 198) (by decide) (pc' := 154) rfl (fun (hc151 : 2 < 1) => absurd hc151 (by decide)) (fun hc151 => ?_)
                refine OwnK.aloadN X0 hx (hb hby own_d1_154) (pc' := 155) rfl (v := (.ref p1)) rfl rfl ?_
                refine OwnK.iloadN X0 hx (hb hby own_d1_155) (pc' := 156) rfl (v := p2) rfl ?_
                refine OwnK.iload X0 hx (hb hby own_d1_156) (pc' := 158) rfl (v := (1 : Int32)) rfl ?_
                refine OwnK.iadd X0 hx (hb hby own_d1_158) (pc' := 159) rfl ?_
                have hj1 : (p2 + (1 : Int32)).toInt = ((i + 1 : Nat) : Int) := by rw [own_addk (by omega) (by omega) (1 : Int32) (by decide) (by decide), show ((1 : Int32)).toInt = 1 from by decide]; omega
                refine OwnK.baload X0 hx hZ e0 V0 (by omega) (by show _ < (5 : Int); omega) (v := (.int y1)) (by rw [OwnK.jnat hj1]; exact hv1) (hb hby own_d1_159) (pc' := 160) rfl ?_
                refine OwnK.sipush X0 hx (hb hby own_d1_160) (pc' := 163) rfl (v := (255 : Int32)) (by decide) ?_
                refine OwnK.iand X0 hx (hb hby own_d1_163) (pc' := 164) rfl ?_
                refine OwnK.istore X0 hx (hb hby own_d1_164) (pc' := 166) rfl (Ls' := #[.val (.ref p1), .val (.int p2), .val (.int p3), .val (.int (y0 &&& (255 : Int32))), .val (.int (2 : Int32)), .val (.int (128 : Int32)), .val (.int (159 : Int32)), .val (.int (1 : Int32)), .val (.int (y1 &&& (255 : Int32)))]) rfl ?_
                refine OwnK.iload X0 hx (hb hby own_d1_166) (pc' := 168) rfl (v := (y1 &&& (255 : Int32))) rfl ?_
                refine OwnK.iload X0 hx (hb hby own_d1_168) (pc' := 170) rfl (v := (128 : Int32)) rfl ?_
                refine OwnK.icmp_lt X0 hx (hb hby own_d1_170) (by decide) (pcT := 180) (by decide) (pc' := 173) rfl (fun (hc132 : (y1 &&& (255 : Int32)).toInt < 128) => ?_) (fun (hc132 : 128 ≤ (y1 &&& (255 : Int32)).toInt) => ?_)
                · refine OwnK.iconst X0 hx (hb hby own_d1_180) (pc' := 181) rfl (v := (-1 : Int32)) (by decide) ?_
                  refine OwnK.retI_ X0 hx hret hlk (hb hby own_d1_181) (by decide) (by decide) ?_
                  exact ⟨congrArg (fun q => some (Value.int q)) (own_res0 (own_n0 (by omega) (by omega) (by omega))), e0, rfl⟩
                · refine OwnK.iload X0 hx (hb hby own_d1_173) (pc' := 175) rfl (v := (y1 &&& (255 : Int32))) rfl ?_
                  refine OwnK.iload X0 hx (hb hby own_d1_175) (pc' := 177) rfl (v := (159 : Int32)) rfl ?_
                  refine OwnK.icmp_le X0 hx (hb hby own_d1_177) (by decide) (pcT := 182) (by decide) (pc' := 180) rfl (fun (hc133 : (y1 &&& (255 : Int32)).toInt ≤ 159) => ?_) (fun (hc133 : 159 < (y1 &&& (255 : Int32)).toInt) => ?_)
                  · refine OwnK.sipush X0 hx (hb hby own_d1_182) (pc' := 185) rfl (v := (128 : Int32)) (by decide) ?_
                    refine OwnK.istore X0 hx (hb hby own_d1_185) (pc' := 187) rfl (Ls' := #[.val (.ref p1), .val (.int p2), .val (.int p3), .val (.int (y0 &&& (255 : Int32))), .val (.int (2 : Int32)), .val (.int (128 : Int32)), .val (.int (159 : Int32)), .val (.int (1 : Int32)), .val (.int (y1 &&& (255 : Int32)))]) rfl ?_
                    refine OwnK.sipush X0 hx (hb hby own_d1_187) (pc' := 190) rfl (v := (191 : Int32)) (by decide) ?_
                    refine OwnK.istore X0 hx (hb hby own_d1_190) (pc' := 192) rfl (Ls' := #[.val (.ref p1), .val (.int p2), .val (.int p3), .val (.int (y0 &&& (255 : Int32))), .val (.int (2 : Int32)), .val (.int (128 : Int32)), .val (.int (191 : Int32)), .val (.int (1 : Int32)), .val (.int (y1 &&& (255 : Int32)))]) rfl ?_
                    refine OwnK.iincL X0 hx (hb hby own_d1_192) (pc' := 195) rfl (x := (1 : Int32)) rfl (v := (2 : Int32)) (by decide) (Ls' := #[.val (.ref p1), .val (.int p2), .val (.int p3), .val (.int (y0 &&& (255 : Int32))), .val (.int (2 : Int32)), .val (.int (128 : Int32)), .val (.int (191 : Int32)), .val (.int (2 : Int32)), .val (.int (y1 &&& (255 : Int32)))]) rfl ?_
                    refine OwnK.goto_ X0 hx (hb hby own_d1_195) (by decide) (pc' := 147) (by decide) ?_
                    refine OwnK.iload X0 hx (hb hby own_d1_147) (pc' := 149) rfl (v := (2 : Int32)) rfl ?_
                    refine OwnK.iload X0 hx (hb hby own_d1_149) (pc' := 151) rfl (v := (2 : Int32)) rfl ?_
                    refine OwnK.icmp_gt X0 hx (hb hby own_d1_151) (by decide) (pcT := 198) (by decide) (pc' := 154) rfl (fun (hc151 : 2 < 2) => absurd hc151 (by decide)) (fun hc151 => ?_)
                    refine OwnK.aloadN X0 hx (hb hby own_d1_154) (pc' := 155) rfl (v := (.ref p1)) rfl rfl ?_
                    refine OwnK.iloadN X0 hx (hb hby own_d1_155) (pc' := 156) rfl (v := p2) rfl ?_
                    refine OwnK.iload X0 hx (hb hby own_d1_156) (pc' := 158) rfl (v := (2 : Int32)) rfl ?_
                    refine OwnK.iadd X0 hx (hb hby own_d1_158) (pc' := 159) rfl ?_
                    have hj2 : (p2 + (2 : Int32)).toInt = ((i + 2 : Nat) : Int) := by rw [own_addk (by omega) (by omega) (2 : Int32) (by decide) (by decide), show ((2 : Int32)).toInt = 2 from by decide]; omega
                    refine OwnK.baload X0 hx hZ e0 V0 (by omega) (by show _ < (5 : Int); omega) (v := (.int y2)) (by rw [OwnK.jnat hj2]; exact hv2) (hb hby own_d1_159) (pc' := 160) rfl ?_
                    refine OwnK.sipush X0 hx (hb hby own_d1_160) (pc' := 163) rfl (v := (255 : Int32)) (by decide) ?_
                    refine OwnK.iand X0 hx (hb hby own_d1_163) (pc' := 164) rfl ?_
                    refine OwnK.istore X0 hx (hb hby own_d1_164) (pc' := 166) rfl (Ls' := #[.val (.ref p1), .val (.int p2), .val (.int p3), .val (.int (y0 &&& (255 : Int32))), .val (.int (2 : Int32)), .val (.int (128 : Int32)), .val (.int (191 : Int32)), .val (.int (2 : Int32)), .val (.int (y2 &&& (255 : Int32)))]) rfl ?_
                    refine OwnK.iload X0 hx (hb hby own_d1_166) (pc' := 168) rfl (v := (y2 &&& (255 : Int32))) rfl ?_
                    refine OwnK.iload X0 hx (hb hby own_d1_168) (pc' := 170) rfl (v := (128 : Int32)) rfl ?_
                    refine OwnK.icmp_lt X0 hx (hb hby own_d1_170) (by decide) (pcT := 180) (by decide) (pc' := 173) rfl (fun (hc134 : (y2 &&& (255 : Int32)).toInt < 128) => ?_) (fun (hc134 : 128 ≤ (y2 &&& (255 : Int32)).toInt) => ?_)
                    · refine OwnK.iconst X0 hx (hb hby own_d1_180) (pc' := 181) rfl (v := (-1 : Int32)) (by decide) ?_
                      refine OwnK.retI_ X0 hx hret hlk (hb hby own_d1_181) (by decide) (by decide) ?_
                      exact ⟨congrArg (fun q => some (Value.int q)) (own_res0 (own_n0 (by omega) (by omega) (by omega))), e0, rfl⟩
                    · refine OwnK.iload X0 hx (hb hby own_d1_173) (pc' := 175) rfl (v := (y2 &&& (255 : Int32))) rfl ?_
                      refine OwnK.iload X0 hx (hb hby own_d1_175) (pc' := 177) rfl (v := (191 : Int32)) rfl ?_
                      refine OwnK.icmp_le X0 hx (hb hby own_d1_177) (by decide) (pcT := 182) (by decide) (pc' := 180) rfl (fun (hc135 : (y2 &&& (255 : Int32)).toInt ≤ 191) => ?_) (fun (hc135 : 191 < (y2 &&& (255 : Int32)).toInt) => ?_)
                      · refine OwnK.sipush X0 hx (hb hby own_d1_182) (pc' := 185) rfl (v := (128 : Int32)) (by decide) ?_
                        refine OwnK.istore X0 hx (hb hby own_d1_185) (pc' := 187) rfl (Ls' := #[.val (.ref p1), .val (.int p2), .val (.int p3), .val (.int (y0 &&& (255 : Int32))), .val (.int (2 : Int32)), .val (.int (128 : Int32)), .val (.int (191 : Int32)), .val (.int (2 : Int32)), .val (.int (y2 &&& (255 : Int32)))]) rfl ?_
                        refine OwnK.sipush X0 hx (hb hby own_d1_187) (pc' := 190) rfl (v := (191 : Int32)) (by decide) ?_
                        refine OwnK.istore X0 hx (hb hby own_d1_190) (pc' := 192) rfl (Ls' := #[.val (.ref p1), .val (.int p2), .val (.int p3), .val (.int (y0 &&& (255 : Int32))), .val (.int (2 : Int32)), .val (.int (128 : Int32)), .val (.int (191 : Int32)), .val (.int (2 : Int32)), .val (.int (y2 &&& (255 : Int32)))]) rfl ?_
                        refine OwnK.iincL X0 hx (hb hby own_d1_192) (pc' := 195) rfl (x := (2 : Int32)) rfl (v := (3 : Int32)) (by decide) (Ls' := #[.val (.ref p1), .val (.int p2), .val (.int p3), .val (.int (y0 &&& (255 : Int32))), .val (.int (2 : Int32)), .val (.int (128 : Int32)), .val (.int (191 : Int32)), .val (.int (3 : Int32)), .val (.int (y2 &&& (255 : Int32)))]) rfl ?_
                        refine OwnK.goto_ X0 hx (hb hby own_d1_195) (by decide) (pc' := 147) (by decide) ?_
                        refine OwnK.iload X0 hx (hb hby own_d1_147) (pc' := 149) rfl (v := (3 : Int32)) rfl ?_
                        refine OwnK.iload X0 hx (hb hby own_d1_149) (pc' := 151) rfl (v := (2 : Int32)) rfl ?_
                        refine OwnK.icmp_gt X0 hx (hb hby own_d1_151) (by decide) (pcT := 198) (by decide) (pc' := 154) rfl (fun hc151 => ?_) (fun (hc151 : 3 ≤ 2) => absurd hc151 (by decide))
                        refine OwnK.iloadN X0 hx (hb hby own_d1_198) (pc' := 199) rfl (v := p2) rfl ?_
                        refine OwnK.iload X0 hx (hb hby own_d1_199) (pc' := 201) rfl (v := (2 : Int32)) rfl ?_
                        refine OwnK.iadd X0 hx (hb hby own_d1_201) (pc' := 202) rfl ?_
                        refine OwnK.iconst X0 hx (hb hby own_d1_202) (pc' := 203) rfl (v := (1 : Int32)) (by decide) ?_
                        refine OwnK.iadd X0 hx (hb hby own_d1_203) (pc' := 204) rfl ?_
                        refine OwnK.retI_ X0 hx hret hlk (hb hby own_d1_204) (by decide) (by decide) ?_
                        have hr2 := own_addk (p := p2) (by omega) (by omega) (2 : Int32) (by decide) (by decide)
                        have hs2 := own_addk (p := p2 + (2 : Int32)) (by rw [hr2]; show 0 ≤ _ + (2 : Int); omega) (by rw [hr2]; show _ + (2 : Int) ≤ 5; omega) (1 : Int32) (by decide) (by decide)
                        rw [hr2, show ((2 : Int32)).toInt = 2 from by decide, show ((1 : Int32)).toInt = 1 from by decide] at hs2
                        have hn2 := own_n3 (x0 := (y0 &&& (255 : Int32)).toInt) (x1 := (y1 &&& (255 : Int32)).toInt) (x2 := (y2 &&& (255 : Int32)).toInt) (x3 := (y3 &&& (255 : Int32)).toInt) (len := p3.toInt - p2.toInt) (by omega)
                        exact ⟨congrArg (fun q => some (Value.int q)) (own_resk (by omega) (by omega)), e0, rfl⟩
                      · refine OwnK.iconst X0 hx (hb hby own_d1_180) (pc' := 181) rfl (v := (-1 : Int32)) (by decide) ?_
                        refine OwnK.retI_ X0 hx hret hlk (hb hby own_d1_181) (by decide) (by decide) ?_
                        exact ⟨congrArg (fun q => some (Value.int q)) (own_res0 (own_n0 (by omega) (by omega) (by omega))), e0, rfl⟩
                  · refine OwnK.iconst X0 hx (hb hby own_d1_180) (pc' := 181) rfl (v := (-1 : Int32)) (by decide) ?_
                    refine OwnK.retI_ X0 hx hret hlk (hb hby own_d1_181) (by decide) (by decide) ?_
                    exact ⟨congrArg (fun q => some (Value.int q)) (own_res0 (own_n0 (by omega) (by omega) (by omega))), e0, rfl⟩
              · refine OwnK.iconst X0 hx (hb hby own_d1_142) (pc' := 143) rfl (v := (-1 : Int32)) (by decide) ?_
                refine OwnK.retI_ X0 hx hret hlk (hb hby own_d1_143) (by decide) (by decide) ?_
                exact ⟨congrArg (fun q => some (Value.int q)) (own_res0 (own_n0 (by omega) (by omega) (by omega))), e0, rfl⟩
          · refine OwnK.sipush X0 hx (hb hby own_d1_62) (pc' := 65) rfl (v := (160 : Int32)) (by decide) ?_
            refine OwnK.istore X0 hx (hb hby own_d1_65) (pc' := 67) rfl (Ls' := #[.val (.ref p1), .val (.int p2), .val (.int p3), .val (.int (y0 &&& (255 : Int32))), .val (.int (2 : Int32)), .val (.int (160 : Int32)), .val (.int (191 : Int32)), .unset, .unset]) rfl ?_
            refine OwnK.goto_ X0 hx (hb hby own_d1_67) (by decide) (pc' := 134) (by decide) ?_
            refine OwnK.iloadN X0 hx (hb hby own_d1_134) (pc' := 135) rfl (v := p3) rfl ?_
            refine OwnK.iloadN X0 hx (hb hby own_d1_135) (pc' := 136) rfl (v := p2) rfl ?_
            refine OwnK.isub X0 hx (hb hby own_d1_136) (pc' := 137) rfl ?_
            refine OwnK.iload X0 hx (hb hby own_d1_137) (pc' := 139) rfl (v := (2 : Int32)) rfl ?_
            refine OwnK.icmp_gt X0 hx (hb hby own_d1_139) (by decide) (pcT := 144) (by decide) (pc' := 142) rfl (fun (hc136 : 2 < (p3 - p2).toInt) => ?_) (fun (hc136 : (p3 - p2).toInt ≤ 2) => ?_)
            · refine OwnK.iconst X0 hx (hb hby own_d1_144) (pc' := 145) rfl (v := (1 : Int32)) (by decide) ?_
              refine OwnK.istore X0 hx (hb hby own_d1_145) (pc' := 147) rfl (Ls' := #[.val (.ref p1), .val (.int p2), .val (.int p3), .val (.int (y0 &&& (255 : Int32))), .val (.int (2 : Int32)), .val (.int (160 : Int32)), .val (.int (191 : Int32)), .val (.int (1 : Int32)), .unset]) rfl ?_
              refine OwnK.iload X0 hx (hb hby own_d1_147) (pc' := 149) rfl (v := (1 : Int32)) rfl ?_
              refine OwnK.iload X0 hx (hb hby own_d1_149) (pc' := 151) rfl (v := (2 : Int32)) rfl ?_
              refine OwnK.icmp_gt X0 hx (hb hby own_d1_151) (by decide) (pcT := 198) (by decide) (pc' := 154) rfl (fun (hc151 : 2 < 1) => absurd hc151 (by decide)) (fun hc151 => ?_)
              refine OwnK.aloadN X0 hx (hb hby own_d1_154) (pc' := 155) rfl (v := (.ref p1)) rfl rfl ?_
              refine OwnK.iloadN X0 hx (hb hby own_d1_155) (pc' := 156) rfl (v := p2) rfl ?_
              refine OwnK.iload X0 hx (hb hby own_d1_156) (pc' := 158) rfl (v := (1 : Int32)) rfl ?_
              refine OwnK.iadd X0 hx (hb hby own_d1_158) (pc' := 159) rfl ?_
              have hj1 : (p2 + (1 : Int32)).toInt = ((i + 1 : Nat) : Int) := by rw [own_addk (by omega) (by omega) (1 : Int32) (by decide) (by decide), show ((1 : Int32)).toInt = 1 from by decide]; omega
              refine OwnK.baload X0 hx hZ e0 V0 (by omega) (by show _ < (5 : Int); omega) (v := (.int y1)) (by rw [OwnK.jnat hj1]; exact hv1) (hb hby own_d1_159) (pc' := 160) rfl ?_
              refine OwnK.sipush X0 hx (hb hby own_d1_160) (pc' := 163) rfl (v := (255 : Int32)) (by decide) ?_
              refine OwnK.iand X0 hx (hb hby own_d1_163) (pc' := 164) rfl ?_
              refine OwnK.istore X0 hx (hb hby own_d1_164) (pc' := 166) rfl (Ls' := #[.val (.ref p1), .val (.int p2), .val (.int p3), .val (.int (y0 &&& (255 : Int32))), .val (.int (2 : Int32)), .val (.int (160 : Int32)), .val (.int (191 : Int32)), .val (.int (1 : Int32)), .val (.int (y1 &&& (255 : Int32)))]) rfl ?_
              refine OwnK.iload X0 hx (hb hby own_d1_166) (pc' := 168) rfl (v := (y1 &&& (255 : Int32))) rfl ?_
              refine OwnK.iload X0 hx (hb hby own_d1_168) (pc' := 170) rfl (v := (160 : Int32)) rfl ?_
              refine OwnK.icmp_lt X0 hx (hb hby own_d1_170) (by decide) (pcT := 180) (by decide) (pc' := 173) rfl (fun (hc137 : (y1 &&& (255 : Int32)).toInt < 160) => ?_) (fun (hc137 : 160 ≤ (y1 &&& (255 : Int32)).toInt) => ?_)
              · refine OwnK.iconst X0 hx (hb hby own_d1_180) (pc' := 181) rfl (v := (-1 : Int32)) (by decide) ?_
                refine OwnK.retI_ X0 hx hret hlk (hb hby own_d1_181) (by decide) (by decide) ?_
                exact ⟨congrArg (fun q => some (Value.int q)) (own_res0 (own_n0 (by omega) (by omega) (by omega))), e0, rfl⟩
              · refine OwnK.iload X0 hx (hb hby own_d1_173) (pc' := 175) rfl (v := (y1 &&& (255 : Int32))) rfl ?_
                refine OwnK.iload X0 hx (hb hby own_d1_175) (pc' := 177) rfl (v := (191 : Int32)) rfl ?_
                refine OwnK.icmp_le X0 hx (hb hby own_d1_177) (by decide) (pcT := 182) (by decide) (pc' := 180) rfl (fun (hc138 : (y1 &&& (255 : Int32)).toInt ≤ 191) => ?_) (fun (hc138 : 191 < (y1 &&& (255 : Int32)).toInt) => ?_)
                · refine OwnK.sipush X0 hx (hb hby own_d1_182) (pc' := 185) rfl (v := (128 : Int32)) (by decide) ?_
                  refine OwnK.istore X0 hx (hb hby own_d1_185) (pc' := 187) rfl (Ls' := #[.val (.ref p1), .val (.int p2), .val (.int p3), .val (.int (y0 &&& (255 : Int32))), .val (.int (2 : Int32)), .val (.int (128 : Int32)), .val (.int (191 : Int32)), .val (.int (1 : Int32)), .val (.int (y1 &&& (255 : Int32)))]) rfl ?_
                  refine OwnK.sipush X0 hx (hb hby own_d1_187) (pc' := 190) rfl (v := (191 : Int32)) (by decide) ?_
                  refine OwnK.istore X0 hx (hb hby own_d1_190) (pc' := 192) rfl (Ls' := #[.val (.ref p1), .val (.int p2), .val (.int p3), .val (.int (y0 &&& (255 : Int32))), .val (.int (2 : Int32)), .val (.int (128 : Int32)), .val (.int (191 : Int32)), .val (.int (1 : Int32)), .val (.int (y1 &&& (255 : Int32)))]) rfl ?_
                  refine OwnK.iincL X0 hx (hb hby own_d1_192) (pc' := 195) rfl (x := (1 : Int32)) rfl (v := (2 : Int32)) (by decide) (Ls' := #[.val (.ref p1), .val (.int p2), .val (.int p3), .val (.int (y0 &&& (255 : Int32))), .val (.int (2 : Int32)), .val (.int (128 : Int32)), .val (.int (191 : Int32)), .val (.int (2 : Int32)), .val (.int (y1 &&& (255 : Int32)))]) rfl ?_
                  refine OwnK.goto_ X0 hx (hb hby own_d1_195) (by decide) (pc' := 147) (by decide) ?_
                  refine OwnK.iload X0 hx (hb hby own_d1_147) (pc' := 149) rfl (v := (2 : Int32)) rfl ?_
                  refine OwnK.iload X0 hx (hb hby own_d1_149) (pc' := 151) rfl (v := (2 : Int32)) rfl ?_
                  refine OwnK.icmp_gt X0 hx (hb hby own_d1_151) (by decide) (pcT := 198) (by decide) (pc' := 154) rfl (fun (hc151 : 2 < 2) => absurd hc151 (by decide)) (fun hc151 => ?_)
                  refine OwnK.aloadN X0 hx (hb hby own_d1_154) (pc' := 155) rfl (v := (.ref p1)) rfl rfl ?_
                  refine OwnK.iloadN X0 hx (hb hby own_d1_155) (pc' := 156) rfl (v := p2) rfl ?_
                  refine OwnK.iload X0 hx (hb hby own_d1_156) (pc' := 158) rfl (v := (2 : Int32)) rfl ?_
                  refine OwnK.iadd X0 hx (hb hby own_d1_158) (pc' := 159) rfl ?_
                  have hj2 : (p2 + (2 : Int32)).toInt = ((i + 2 : Nat) : Int) := by rw [own_addk (by omega) (by omega) (2 : Int32) (by decide) (by decide), show ((2 : Int32)).toInt = 2 from by decide]; omega
                  refine OwnK.baload X0 hx hZ e0 V0 (by omega) (by show _ < (5 : Int); omega) (v := (.int y2)) (by rw [OwnK.jnat hj2]; exact hv2) (hb hby own_d1_159) (pc' := 160) rfl ?_
                  refine OwnK.sipush X0 hx (hb hby own_d1_160) (pc' := 163) rfl (v := (255 : Int32)) (by decide) ?_
                  refine OwnK.iand X0 hx (hb hby own_d1_163) (pc' := 164) rfl ?_
                  refine OwnK.istore X0 hx (hb hby own_d1_164) (pc' := 166) rfl (Ls' := #[.val (.ref p1), .val (.int p2), .val (.int p3), .val (.int (y0 &&& (255 : Int32))), .val (.int (2 : Int32)), .val (.int (128 : Int32)), .val (.int (191 : Int32)), .val (.int (2 : Int32)), .val (.int (y2 &&& (255 : Int32)))]) rfl ?_
                  refine OwnK.iload X0 hx (hb hby own_d1_166) (pc' := 168) rfl (v := (y2 &&& (255 : Int32))) rfl ?_
                  refine OwnK.iload X0 hx (hb hby own_d1_168) (pc' := 170) rfl (v := (128 : Int32)) rfl ?_
                  refine OwnK.icmp_lt X0 hx (hb hby own_d1_170) (by decide) (pcT := 180) (by decide) (pc' := 173) rfl (fun (hc139 : (y2 &&& (255 : Int32)).toInt < 128) => ?_) (fun (hc139 : 128 ≤ (y2 &&& (255 : Int32)).toInt) => ?_)
                  · refine OwnK.iconst X0 hx (hb hby own_d1_180) (pc' := 181) rfl (v := (-1 : Int32)) (by decide) ?_
                    refine OwnK.retI_ X0 hx hret hlk (hb hby own_d1_181) (by decide) (by decide) ?_
                    exact ⟨congrArg (fun q => some (Value.int q)) (own_res0 (own_n0 (by omega) (by omega) (by omega))), e0, rfl⟩
                  · refine OwnK.iload X0 hx (hb hby own_d1_173) (pc' := 175) rfl (v := (y2 &&& (255 : Int32))) rfl ?_
                    refine OwnK.iload X0 hx (hb hby own_d1_175) (pc' := 177) rfl (v := (191 : Int32)) rfl ?_
                    refine OwnK.icmp_le X0 hx (hb hby own_d1_177) (by decide) (pcT := 182) (by decide) (pc' := 180) rfl (fun (hc140 : (y2 &&& (255 : Int32)).toInt ≤ 191) => ?_) (fun (hc140 : 191 < (y2 &&& (255 : Int32)).toInt) => ?_)
                    · refine OwnK.sipush X0 hx (hb hby own_d1_182) (pc' := 185) rfl (v := (128 : Int32)) (by decide) ?_
                      refine OwnK.istore X0 hx (hb hby own_d1_185) (pc' := 187) rfl (Ls' := #[.val (.ref p1), .val (.int p2), .val (.int p3), .val (.int (y0 &&& (255 : Int32))), .val (.int (2 : Int32)), .val (.int (128 : Int32)), .val (.int (191 : Int32)), .val (.int (2 : Int32)), .val (.int (y2 &&& (255 : Int32)))]) rfl ?_
                      refine OwnK.sipush X0 hx (hb hby own_d1_187) (pc' := 190) rfl (v := (191 : Int32)) (by decide) ?_
                      refine OwnK.istore X0 hx (hb hby own_d1_190) (pc' := 192) rfl (Ls' := #[.val (.ref p1), .val (.int p2), .val (.int p3), .val (.int (y0 &&& (255 : Int32))), .val (.int (2 : Int32)), .val (.int (128 : Int32)), .val (.int (191 : Int32)), .val (.int (2 : Int32)), .val (.int (y2 &&& (255 : Int32)))]) rfl ?_
                      refine OwnK.iincL X0 hx (hb hby own_d1_192) (pc' := 195) rfl (x := (2 : Int32)) rfl (v := (3 : Int32)) (by decide) (Ls' := #[.val (.ref p1), .val (.int p2), .val (.int p3), .val (.int (y0 &&& (255 : Int32))), .val (.int (2 : Int32)), .val (.int (128 : Int32)), .val (.int (191 : Int32)), .val (.int (3 : Int32)), .val (.int (y2 &&& (255 : Int32)))]) rfl ?_
                      refine OwnK.goto_ X0 hx (hb hby own_d1_195) (by decide) (pc' := 147) (by decide) ?_
                      refine OwnK.iload X0 hx (hb hby own_d1_147) (pc' := 149) rfl (v := (3 : Int32)) rfl ?_
                      refine OwnK.iload X0 hx (hb hby own_d1_149) (pc' := 151) rfl (v := (2 : Int32)) rfl ?_
                      refine OwnK.icmp_gt X0 hx (hb hby own_d1_151) (by decide) (pcT := 198) (by decide) (pc' := 154) rfl (fun hc151 => ?_) (fun (hc151 : 3 ≤ 2) => absurd hc151 (by decide))
                      refine OwnK.iloadN X0 hx (hb hby own_d1_198) (pc' := 199) rfl (v := p2) rfl ?_
                      refine OwnK.iload X0 hx (hb hby own_d1_199) (pc' := 201) rfl (v := (2 : Int32)) rfl ?_
                      refine OwnK.iadd X0 hx (hb hby own_d1_201) (pc' := 202) rfl ?_
                      refine OwnK.iconst X0 hx (hb hby own_d1_202) (pc' := 203) rfl (v := (1 : Int32)) (by decide) ?_
                      refine OwnK.iadd X0 hx (hb hby own_d1_203) (pc' := 204) rfl ?_
                      refine OwnK.retI_ X0 hx hret hlk (hb hby own_d1_204) (by decide) (by decide) ?_
                      have hr2 := own_addk (p := p2) (by omega) (by omega) (2 : Int32) (by decide) (by decide)
                      have hs2 := own_addk (p := p2 + (2 : Int32)) (by rw [hr2]; show 0 ≤ _ + (2 : Int); omega) (by rw [hr2]; show _ + (2 : Int) ≤ 5; omega) (1 : Int32) (by decide) (by decide)
                      rw [hr2, show ((2 : Int32)).toInt = 2 from by decide, show ((1 : Int32)).toInt = 1 from by decide] at hs2
                      have hn2 := own_n3 (x0 := (y0 &&& (255 : Int32)).toInt) (x1 := (y1 &&& (255 : Int32)).toInt) (x2 := (y2 &&& (255 : Int32)).toInt) (x3 := (y3 &&& (255 : Int32)).toInt) (len := p3.toInt - p2.toInt) (by omega)
                      exact ⟨congrArg (fun q => some (Value.int q)) (own_resk (by omega) (by omega)), e0, rfl⟩
                    · refine OwnK.iconst X0 hx (hb hby own_d1_180) (pc' := 181) rfl (v := (-1 : Int32)) (by decide) ?_
                      refine OwnK.retI_ X0 hx hret hlk (hb hby own_d1_181) (by decide) (by decide) ?_
                      exact ⟨congrArg (fun q => some (Value.int q)) (own_res0 (own_n0 (by omega) (by omega) (by omega))), e0, rfl⟩
                · refine OwnK.iconst X0 hx (hb hby own_d1_180) (pc' := 181) rfl (v := (-1 : Int32)) (by decide) ?_
                  refine OwnK.retI_ X0 hx hret hlk (hb hby own_d1_181) (by decide) (by decide) ?_
                  exact ⟨congrArg (fun q => some (Value.int q)) (own_res0 (own_n0 (by omega) (by omega) (by omega))), e0, rfl⟩
            · refine OwnK.iconst X0 hx (hb hby own_d1_142) (pc' := 143) rfl (v := (-1 : Int32)) (by decide) ?_
              refine OwnK.retI_ X0 hx hret hlk (hb hby own_d1_143) (by decide) (by decide) ?_
              exact ⟨congrArg (fun q => some (Value.int q)) (own_res0 (own_n0 (by omega) (by omega) (by omega))), e0, rfl⟩
    · refine OwnK.iconst X0 hx (hb hby own_d1_32) (pc' := 33) rfl (v := (1 : Int32)) (by decide) ?_
      refine OwnK.istore X0 hx (hb hby own_d1_33) (pc' := 35) rfl (Ls' := #[.val (.ref p1), .val (.int p2), .val (.int p3), .val (.int (y0 &&& (255 : Int32))), .val (.int (1 : Int32)), .val (.int (128 : Int32)), .val (.int (191 : Int32)), .unset, .unset]) rfl ?_
      refine OwnK.goto_ X0 hx (hb hby own_d1_35) (by decide) (pc' := 134) (by decide) ?_
      refine OwnK.iloadN X0 hx (hb hby own_d1_134) (pc' := 135) rfl (v := p3) rfl ?_
      refine OwnK.iloadN X0 hx (hb hby own_d1_135) (pc' := 136) rfl (v := p2) rfl ?_
      refine OwnK.isub X0 hx (hb hby own_d1_136) (pc' := 137) rfl ?_
      refine OwnK.iload X0 hx (hb hby own_d1_137) (pc' := 139) rfl (v := (1 : Int32)) rfl ?_
      refine OwnK.icmp_gt X0 hx (hb hby own_d1_139) (by decide) (pcT := 144) (by decide) (pc' := 142) rfl (fun (hc141 : 1 < (p3 - p2).toInt) => ?_) (fun (hc141 : (p3 - p2).toInt ≤ 1) => ?_)
      · refine OwnK.iconst X0 hx (hb hby own_d1_144) (pc' := 145) rfl (v := (1 : Int32)) (by decide) ?_
        refine OwnK.istore X0 hx (hb hby own_d1_145) (pc' := 147) rfl (Ls' := #[.val (.ref p1), .val (.int p2), .val (.int p3), .val (.int (y0 &&& (255 : Int32))), .val (.int (1 : Int32)), .val (.int (128 : Int32)), .val (.int (191 : Int32)), .val (.int (1 : Int32)), .unset]) rfl ?_
        refine OwnK.iload X0 hx (hb hby own_d1_147) (pc' := 149) rfl (v := (1 : Int32)) rfl ?_
        refine OwnK.iload X0 hx (hb hby own_d1_149) (pc' := 151) rfl (v := (1 : Int32)) rfl ?_
        refine OwnK.icmp_gt X0 hx (hb hby own_d1_151) (by decide) (pcT := 198) (by decide) (pc' := 154) rfl (fun (hc151 : 1 < 1) => absurd hc151 (by decide)) (fun hc151 => ?_)
        refine OwnK.aloadN X0 hx (hb hby own_d1_154) (pc' := 155) rfl (v := (.ref p1)) rfl rfl ?_
        refine OwnK.iloadN X0 hx (hb hby own_d1_155) (pc' := 156) rfl (v := p2) rfl ?_
        refine OwnK.iload X0 hx (hb hby own_d1_156) (pc' := 158) rfl (v := (1 : Int32)) rfl ?_
        refine OwnK.iadd X0 hx (hb hby own_d1_158) (pc' := 159) rfl ?_
        have hj1 : (p2 + (1 : Int32)).toInt = ((i + 1 : Nat) : Int) := by rw [own_addk (by omega) (by omega) (1 : Int32) (by decide) (by decide), show ((1 : Int32)).toInt = 1 from by decide]; omega
        refine OwnK.baload X0 hx hZ e0 V0 (by omega) (by show _ < (5 : Int); omega) (v := (.int y1)) (by rw [OwnK.jnat hj1]; exact hv1) (hb hby own_d1_159) (pc' := 160) rfl ?_
        refine OwnK.sipush X0 hx (hb hby own_d1_160) (pc' := 163) rfl (v := (255 : Int32)) (by decide) ?_
        refine OwnK.iand X0 hx (hb hby own_d1_163) (pc' := 164) rfl ?_
        refine OwnK.istore X0 hx (hb hby own_d1_164) (pc' := 166) rfl (Ls' := #[.val (.ref p1), .val (.int p2), .val (.int p3), .val (.int (y0 &&& (255 : Int32))), .val (.int (1 : Int32)), .val (.int (128 : Int32)), .val (.int (191 : Int32)), .val (.int (1 : Int32)), .val (.int (y1 &&& (255 : Int32)))]) rfl ?_
        refine OwnK.iload X0 hx (hb hby own_d1_166) (pc' := 168) rfl (v := (y1 &&& (255 : Int32))) rfl ?_
        refine OwnK.iload X0 hx (hb hby own_d1_168) (pc' := 170) rfl (v := (128 : Int32)) rfl ?_
        refine OwnK.icmp_lt X0 hx (hb hby own_d1_170) (by decide) (pcT := 180) (by decide) (pc' := 173) rfl (fun (hc142 : (y1 &&& (255 : Int32)).toInt < 128) => ?_) (fun (hc142 : 128 ≤ (y1 &&& (255 : Int32)).toInt) => ?_)
        · refine OwnK.iconst X0 hx (hb hby own_d1_180) (pc' := 181) rfl (v := (-1 : Int32)) (by decide) ?_
          refine OwnK.retI_ X0 hx hret hlk (hb hby own_d1_181) (by decide) (by decide) ?_
          exact ⟨congrArg (fun q => some (Value.int q)) (own_res0 (own_n0 (by omega) (by omega) (by omega))), e0, rfl⟩
        · refine OwnK.iload X0 hx (hb hby own_d1_173) (pc' := 175) rfl (v := (y1 &&& (255 : Int32))) rfl ?_
          refine OwnK.iload X0 hx (hb hby own_d1_175) (pc' := 177) rfl (v := (191 : Int32)) rfl ?_
          refine OwnK.icmp_le X0 hx (hb hby own_d1_177) (by decide) (pcT := 182) (by decide) (pc' := 180) rfl (fun (hc143 : (y1 &&& (255 : Int32)).toInt ≤ 191) => ?_) (fun (hc143 : 191 < (y1 &&& (255 : Int32)).toInt) => ?_)
          · refine OwnK.sipush X0 hx (hb hby own_d1_182) (pc' := 185) rfl (v := (128 : Int32)) (by decide) ?_
            refine OwnK.istore X0 hx (hb hby own_d1_185) (pc' := 187) rfl (Ls' := #[.val (.ref p1), .val (.int p2), .val (.int p3), .val (.int (y0 &&& (255 : Int32))), .val (.int (1 : Int32)), .val (.int (128 : Int32)), .val (.int (191 : Int32)), .val (.int (1 : Int32)), .val (.int (y1 &&& (255 : Int32)))]) rfl ?_
            refine OwnK.sipush X0 hx (hb hby own_d1_187) (pc' := 190) rfl (v := (191 : Int32)) (by decide) ?_
            refine OwnK.istore X0 hx (hb hby own_d1_190) (pc' := 192) rfl (Ls' := #[.val (.ref p1), .val (.int p2), .val (.int p3), .val (.int (y0 &&& (255 : Int32))), .val (.int (1 : Int32)), .val (.int (128 : Int32)), .val (.int (191 : Int32)), .val (.int (1 : Int32)), .val (.int (y1 &&& (255 : Int32)))]) rfl ?_
            refine OwnK.iincL X0 hx (hb hby own_d1_192) (pc' := 195) rfl (x := (1 : Int32)) rfl (v := (2 : Int32)) (by decide) (Ls' := #[.val (.ref p1), .val (.int p2), .val (.int p3), .val (.int (y0 &&& (255 : Int32))), .val (.int (1 : Int32)), .val (.int (128 : Int32)), .val (.int (191 : Int32)), .val (.int (2 : Int32)), .val (.int (y1 &&& (255 : Int32)))]) rfl ?_
            refine OwnK.goto_ X0 hx (hb hby own_d1_195) (by decide) (pc' := 147) (by decide) ?_
            refine OwnK.iload X0 hx (hb hby own_d1_147) (pc' := 149) rfl (v := (2 : Int32)) rfl ?_
            refine OwnK.iload X0 hx (hb hby own_d1_149) (pc' := 151) rfl (v := (1 : Int32)) rfl ?_
            refine OwnK.icmp_gt X0 hx (hb hby own_d1_151) (by decide) (pcT := 198) (by decide) (pc' := 154) rfl (fun hc151 => ?_) (fun (hc151 : 2 ≤ 1) => absurd hc151 (by decide))
            refine OwnK.iloadN X0 hx (hb hby own_d1_198) (pc' := 199) rfl (v := p2) rfl ?_
            refine OwnK.iload X0 hx (hb hby own_d1_199) (pc' := 201) rfl (v := (1 : Int32)) rfl ?_
            refine OwnK.iadd X0 hx (hb hby own_d1_201) (pc' := 202) rfl ?_
            refine OwnK.iconst X0 hx (hb hby own_d1_202) (pc' := 203) rfl (v := (1 : Int32)) (by decide) ?_
            refine OwnK.iadd X0 hx (hb hby own_d1_203) (pc' := 204) rfl ?_
            refine OwnK.retI_ X0 hx hret hlk (hb hby own_d1_204) (by decide) (by decide) ?_
            have hr1 := own_addk (p := p2) (by omega) (by omega) (1 : Int32) (by decide) (by decide)
            have hs1 := own_addk (p := p2 + (1 : Int32)) (by rw [hr1]; show 0 ≤ _ + (1 : Int); omega) (by rw [hr1]; show _ + (1 : Int) ≤ 5; omega) (1 : Int32) (by decide) (by decide)
            rw [hr1, show ((1 : Int32)).toInt = 1 from by decide] at hs1
            have hn1 := own_n2 (x0 := (y0 &&& (255 : Int32)).toInt) (x1 := (y1 &&& (255 : Int32)).toInt) (x2 := (y2 &&& (255 : Int32)).toInt) (x3 := (y3 &&& (255 : Int32)).toInt) (len := p3.toInt - p2.toInt) (by omega)
            exact ⟨congrArg (fun q => some (Value.int q)) (own_resk (by omega) (by omega)), e0, rfl⟩
          · refine OwnK.iconst X0 hx (hb hby own_d1_180) (pc' := 181) rfl (v := (-1 : Int32)) (by decide) ?_
            refine OwnK.retI_ X0 hx hret hlk (hb hby own_d1_181) (by decide) (by decide) ?_
            exact ⟨congrArg (fun q => some (Value.int q)) (own_res0 (own_n0 (by omega) (by omega) (by omega))), e0, rfl⟩
      · refine OwnK.iconst X0 hx (hb hby own_d1_142) (pc' := 143) rfl (v := (-1 : Int32)) (by decide) ?_
        refine OwnK.retI_ X0 hx hret hlk (hb hby own_d1_143) (by decide) (by decide) ?_
        exact ⟨congrArg (fun q => some (Value.int q)) (own_res0 (own_n0 (by omega) (by omega) (by omega))), e0, rfl⟩
def own_Qmet2 (h0 : Heap) (p1 : Int32) (p2 : Int32) (p3 : Int32) (p4 : Int32) (p5 : Int32) (p6 : Int32) (v : Option Value) (h : Heap) (L : List Loc) : Prop := v = some (.int (own_res p5.toInt (own_n p1.toInt p2.toInt p3.toInt p4.toInt (p6.toInt - p5.toInt)))) ∧ h = h0 ∧ L = []
set_option maxRecDepth 65536 in
set_option maxHeartbeats 40000000 in
theorem own_met2 (l : Launch) (Z : State) (a0 : Array Value) (hw : ∀ d ∈ tables_1, d.before a0 Z = true) (h0 : Heap) (p1 : Int32) (p2 : Int32) (p3 : Int32) (p4 : Int32) (p5 : Int32) (p6 : Int32)  (hp1 : 0 ≤ p1.toInt ∧ p1.toInt ≤ 255) (hp2 : 0 ≤ p2.toInt ∧ p2.toInt ≤ 255) (hp3 : 0 ≤ p3.toInt ∧ p3.toInt ≤ 255) (hp4 : 0 ≤ p4.toInt ∧ p4.toInt ≤ 255) (hst : 0 ≤ p5.toInt ∧ p5.toInt ≤ 1) (hen : p5.toInt ≤ p6.toInt ∧ p6.toInt ≤ 5) :
    MetFree l (⟨"com/example/entryway/entryway/Utf8SequenceEndPinLaw", "expected", "(IIIIII)I"⟩ : MethodName) (head1 [Jvm.Cond.code (⟨"com/example/entryway/entryway/Utf8SequenceEndPinLaw", "expected", "(IIIIII)I"⟩ : MethodName) method_4_code 9 (some .int)] ({ frames := 1, cells := 0, slots := 0, locals := 12 } : Room)) (fun a U => a = #[(.int p1), (.int p2), (.int p3), (.int p4), (.int p5), (.int p6)] ∧ Z.Warmed39 U.vm ∧ U.heap = h0) (fun _ _ _ _ _ => True) (fun _ U o U' => ∃ v L, o = .returned v ∧ (own_Qmet2 h0 p1 p2 p3 p4 p5 p6 ) v U'.heap L ∧ FrameEnd U o U' L ({ frames := 1, cells := 0, slots := 0, locals := 12 } : Room).cells ({ frames := 1, cells := 0, slots := 0, locals := 12 } : Room).slots) := by
  refine OwnK.met (Q := (own_Qmet2 h0 p1 p2 p3 p4 p5 p6 )) (C := ({ frames := 1, cells := 0, slots := 0, locals := 12 } : Room).cells) (N := ({ frames := 1, cells := 0, slots := 0, locals := 12 } : Room).slots) own_pl_2 (own_ef_2 p1 p2 p3 p4 p5 p6) ?_
  intro p e s m below meth c T0 X0 hx hZ hby hml hown hnm hret hlk e0
  have hsub := own_subk (p := p6) (q := p5) (by omega) (by omega) (by omega) (by omega)
  refine OwnK.iloadN X0 hx (hb hby own_d2_0) (pc' := 1) rfl (v := p1) rfl ?_
  refine OwnK.sipush X0 hx (hb hby own_d2_1) (pc' := 4) rfl (v := (192 : Int32)) (by decide) ?_
  refine OwnK.icmp_lt X0 hx (hb hby own_d2_4) (by decide) (pcT := 31) (by decide) (pc' := 7) rfl (fun (hc1 : p1.toInt < 192) => ?_) (fun (hc1 : 192 ≤ p1.toInt) => ?_)
  · refine OwnK.iloadN X0 hx (hb hby own_d2_31) (pc' := 32) rfl (v := p1) rfl ?_
    refine OwnK.sipush X0 hx (hb hby own_d2_32) (pc' := 35) rfl (v := (224 : Int32)) (by decide) ?_
    refine OwnK.icmp_lt X0 hx (hb hby own_d2_35) (by decide) (pcT := 62) (by decide) (pc' := 38) rfl (fun (hc2 : p1.toInt < 224) => ?_) (fun (hc2 : 224 ≤ p1.toInt) => ?_)
    · refine OwnK.iloadN X0 hx (hb hby own_d2_62) (pc' := 63) rfl (v := p1) rfl ?_
      refine OwnK.sipush X0 hx (hb hby own_d2_63) (pc' := 66) rfl (v := (240 : Int32)) (by decide) ?_
      refine OwnK.icmp_lt X0 hx (hb hby own_d2_66) (by decide) (pcT := 92) (by decide) (pc' := 69) rfl (fun (hc3 : p1.toInt < 240) => ?_) (fun (hc3 : 240 ≤ p1.toInt) => ?_)
      · refine OwnK.iconst X0 hx (hb hby own_d2_92) (pc' := 93) rfl (v := (-1 : Int32)) (by decide) ?_
        refine OwnK.retI_ X0 hx hret hlk (hb hby own_d2_93) (by decide) (by decide) ?_
        exact ⟨congrArg (fun q => some (Value.int q)) (own_res0 (own_n0 (by omega) (by omega) (by omega))), e0, rfl⟩
      · refine OwnK.iloadN X0 hx (hb hby own_d2_69) (pc' := 70) rfl (v := p1) rfl ?_
        refine OwnK.sipush X0 hx (hb hby own_d2_70) (pc' := 73) rfl (v := (247 : Int32)) (by decide) ?_
        refine OwnK.icmp_gt X0 hx (hb hby own_d2_73) (by decide) (pcT := 92) (by decide) (pc' := 76) rfl (fun (hc4 : 247 < p1.toInt) => ?_) (fun (hc4 : p1.toInt ≤ 247) => ?_)
        · refine OwnK.iconst X0 hx (hb hby own_d2_92) (pc' := 93) rfl (v := (-1 : Int32)) (by decide) ?_
          refine OwnK.retI_ X0 hx hret hlk (hb hby own_d2_93) (by decide) (by decide) ?_
          exact ⟨congrArg (fun q => some (Value.int q)) (own_res0 (own_n0 (by omega) (by omega) (by omega))), e0, rfl⟩
        · refine OwnK.iconst X0 hx (hb hby own_d2_76) (pc' := 77) rfl (v := (4 : Int32)) (by decide) ?_
          refine OwnK.istore X0 hx (hb hby own_d2_77) (pc' := 79) rfl (Ls' := #[.val (.int p1), .val (.int p2), .val (.int p3), .val (.int p4), .val (.int p5), .val (.int p6), .val (.int (4 : Int32)), .unset, .unset]) rfl ?_
          refine OwnK.iloadN X0 hx (hb hby own_d2_79) (pc' := 80) rfl (v := p1) rfl ?_
          refine OwnK.bipush X0 hx (hb hby own_d2_80) (pc' := 82) rfl (v := (7 : Int32)) (by decide) ?_
          refine OwnK.iand X0 hx (hb hby own_d2_82) (pc' := 83) rfl ?_
          refine OwnK.istoreG X0 hx (hb hby own_d2_83) (pc' := 85) rfl (Ls' := fun u => #[.val (.int p1), .val (.int p2), .val (.int p3), .val (.int p4), .val (.int p5), .val (.int p6), .val (.int (4 : Int32)), .val (.int u), .unset]) (fun u => rfl) (fun u5 (hu5 : u5 = (p1 &&& (7 : Int32))) => ?_)
          have i_u5 : u5.toInt = p1.toInt % 8 := by rw [hu5]; exact Jvm.Kit.i32_mask p1 7 (k := 3) (by decide) (by decide)
          refine OwnK.ldcI X0 hx hZ hown (hw _ (List.mem_of_getElem? (i := 15) rfl)) (hb hby own_d2_85) (pc' := 87) rfl ?_
          refine OwnK.istore X0 hx (hb hby own_d2_87) (pc' := 89) rfl (Ls' := #[.val (.int p1), .val (.int p2), .val (.int p3), .val (.int p4), .val (.int p5), .val (.int p6), .val (.int (4 : Int32)), .val (.int u5), .val (.int (65536 : Int32))]) rfl ?_
          refine OwnK.goto_ X0 hx (hb hby own_d2_89) (by decide) (pc' := 94) (by decide) ?_
          refine OwnK.iload X0 hx (hb hby own_d2_94) (pc' := 96) rfl (v := p6) rfl ?_
          refine OwnK.iload X0 hx (hb hby own_d2_96) (pc' := 98) rfl (v := p5) rfl ?_
          refine OwnK.isub X0 hx (hb hby own_d2_98) (pc' := 99) rfl ?_
          refine OwnK.iload X0 hx (hb hby own_d2_99) (pc' := 101) rfl (v := (4 : Int32)) rfl ?_
          refine OwnK.icmp_ge X0 hx (hb hby own_d2_101) (by decide) (pcT := 106) (by decide) (pc' := 104) rfl (fun (hc6 : 4 ≤ (p6 - p5).toInt) => ?_) (fun (hc6 : (p6 - p5).toInt < 4) => ?_)
          · refine OwnK.iloadN X0 hx (hb hby own_d2_106) (pc' := 107) rfl (v := p2) rfl ?_
            refine OwnK.callS_ X0 hx hZ hown (y := (⟨"com/example/entryway/entryway/Utf8SequenceEndPinLaw", "cont", "(I)Z"⟩ : MethodName)) (hw _ (List.mem_of_getElem? (i := 10) rfl)) (hw _ (List.mem_of_getElem? (i := 11) rfl)) (hw _ (List.mem_of_getElem? (i := 8) rfl)) (hw _ (List.mem_of_getElem? (i := 12) rfl)) (by decide) (own_met3 l Z a0 hw h0 p2 hp2 ) (by decide) (W := 0) (by decide) e0 (by rw [hml]; rfl) own_pd_0 (argsL := [(.int p2)]) rfl (S := []) rfl (Nat.le_of_eq rfl) (hb hby own_d2_107) (pc' := 110) rfl (by decide) (by decide) (fun T7 v7 L7 X7 hQ7 => ?_)
            obtain ⟨hv7, e7, rfl⟩ := hQ7
            by_cases hc7 : 128 ≤ p2.toInt ∧ p2.toInt ≤ 191
            · obtain rfl : v7 = some (.int (1 : Int32)) := hv7.trans (by rw [if_pos hc7])
              refine OwnK.if_ne X7 hx (hb hby own_d2_110) (by decide) (pcT := 115) (by decide) (pc' := 113) rfl (fun hc110 => ?_) (fun (hc110 : 1 = 0) => absurd hc110 (by decide))
              refine OwnK.iload X7 hx (hb hby own_d2_115) (pc' := 117) rfl (v := u5) rfl ?_
              refine OwnK.bipush X7 hx (hb hby own_d2_117) (pc' := 119) rfl (v := (6 : Int32)) (by decide) ?_
              refine OwnK.ishl X7 hx (hb hby own_d2_119) (pc' := 120) rfl ?_
              refine OwnK.iloadN X7 hx (hb hby own_d2_120) (pc' := 121) rfl (v := p2) rfl ?_
              refine OwnK.bipush X7 hx (hb hby own_d2_121) (pc' := 123) rfl (v := (63 : Int32)) (by decide) ?_
              refine OwnK.iand X7 hx (hb hby own_d2_123) (pc' := 124) rfl ?_
              refine OwnK.ior X7 hx (hb hby own_d2_124) (pc' := 125) rfl ?_
              refine OwnK.istoreG X7 hx (hb hby own_d2_125) (pc' := 127) rfl (Ls' := fun u => #[.val (.int p1), .val (.int p2), .val (.int p3), .val (.int p4), .val (.int p5), .val (.int p6), .val (.int (4 : Int32)), .val (.int u), .val (.int (65536 : Int32))]) (fun u => rfl) (fun u8 (hu8 : u8 = ((u5 <<< ((6 : Int32) &&& 31)) ||| (p2 &&& (63 : Int32)))) => ?_)
              have i_u8 : u8.toInt = u5.toInt * 64 + p2.toInt % 64 := by rw [hu8]; exact own_cp (by omega) (by omega)
              refine OwnK.iload X7 hx (hb hby own_d2_127) (pc' := 129) rfl (v := (4 : Int32)) rfl ?_
              refine OwnK.iconst X7 hx (hb hby own_d2_129) (pc' := 130) rfl (v := (3 : Int32)) (by decide) ?_
              refine OwnK.icmp_lt X7 hx (hb hby own_d2_130) (by decide) (pcT := 154) (by decide) (pc' := 133) rfl (fun (hc130 : 4 < 3) => absurd hc130 (by decide)) (fun hc130 => ?_)
              refine OwnK.iloadN X7 hx (hb hby own_d2_133) (pc' := 134) rfl (v := p3) rfl ?_
              refine OwnK.callS_ X7 hx hZ hown (y := (⟨"com/example/entryway/entryway/Utf8SequenceEndPinLaw", "cont", "(I)Z"⟩ : MethodName)) (hw _ (List.mem_of_getElem? (i := 10) rfl)) (hw _ (List.mem_of_getElem? (i := 11) rfl)) (hw _ (List.mem_of_getElem? (i := 8) rfl)) (hw _ (List.mem_of_getElem? (i := 12) rfl)) (by decide) (own_met3 l Z a0 hw h0 p3 hp3 ) (by decide) (W := 0) (by decide) e7 (by rw [hml]; rfl) own_pd_0 (argsL := [(.int p3)]) rfl (S := []) rfl (Nat.le_of_eq rfl) (hb hby own_d2_134) (pc' := 137) rfl (by decide) (by decide) (fun T9 v9 L9 X9 hQ9 => ?_)
              obtain ⟨hv9, e9, rfl⟩ := hQ9
              by_cases hc9 : 128 ≤ p3.toInt ∧ p3.toInt ≤ 191
              · obtain rfl : v9 = some (.int (1 : Int32)) := hv9.trans (by rw [if_pos hc9])
                refine OwnK.if_ne X9 hx (hb hby own_d2_137) (by decide) (pcT := 142) (by decide) (pc' := 140) rfl (fun hc137 => ?_) (fun (hc137 : 1 = 0) => absurd hc137 (by decide))
                refine OwnK.iload X9 hx (hb hby own_d2_142) (pc' := 144) rfl (v := u8) rfl ?_
                refine OwnK.bipush X9 hx (hb hby own_d2_144) (pc' := 146) rfl (v := (6 : Int32)) (by decide) ?_
                refine OwnK.ishl X9 hx (hb hby own_d2_146) (pc' := 147) rfl ?_
                refine OwnK.iloadN X9 hx (hb hby own_d2_147) (pc' := 148) rfl (v := p3) rfl ?_
                refine OwnK.bipush X9 hx (hb hby own_d2_148) (pc' := 150) rfl (v := (63 : Int32)) (by decide) ?_
                refine OwnK.iand X9 hx (hb hby own_d2_150) (pc' := 151) rfl ?_
                refine OwnK.ior X9 hx (hb hby own_d2_151) (pc' := 152) rfl ?_
                refine OwnK.istoreG X9 hx (hb hby own_d2_152) (pc' := 154) rfl (Ls' := fun u => #[.val (.int p1), .val (.int p2), .val (.int p3), .val (.int p4), .val (.int p5), .val (.int p6), .val (.int (4 : Int32)), .val (.int u), .val (.int (65536 : Int32))]) (fun u => rfl) (fun u10 (hu10 : u10 = ((u8 <<< ((6 : Int32) &&& 31)) ||| (p3 &&& (63 : Int32)))) => ?_)
                have i_u10 : u10.toInt = u8.toInt * 64 + p3.toInt % 64 := by rw [hu10]; exact own_cp (by omega) (by omega)
                refine OwnK.iload X9 hx (hb hby own_d2_154) (pc' := 156) rfl (v := (4 : Int32)) rfl ?_
                refine OwnK.iconst X9 hx (hb hby own_d2_156) (pc' := 157) rfl (v := (4 : Int32)) (by decide) ?_
                refine OwnK.icmp_lt X9 hx (hb hby own_d2_157) (by decide) (pcT := 181) (by decide) (pc' := 160) rfl (fun (hc157 : 4 < 4) => absurd hc157 (by decide)) (fun hc157 => ?_)
                refine OwnK.iloadN X9 hx (hb hby own_d2_160) (pc' := 161) rfl (v := p4) rfl ?_
                refine OwnK.callS_ X9 hx hZ hown (y := (⟨"com/example/entryway/entryway/Utf8SequenceEndPinLaw", "cont", "(I)Z"⟩ : MethodName)) (hw _ (List.mem_of_getElem? (i := 10) rfl)) (hw _ (List.mem_of_getElem? (i := 11) rfl)) (hw _ (List.mem_of_getElem? (i := 8) rfl)) (hw _ (List.mem_of_getElem? (i := 12) rfl)) (by decide) (own_met3 l Z a0 hw h0 p4 hp4 ) (by decide) (W := 0) (by decide) e9 (by rw [hml]; rfl) own_pd_0 (argsL := [(.int p4)]) rfl (S := []) rfl (Nat.le_of_eq rfl) (hb hby own_d2_161) (pc' := 164) rfl (by decide) (by decide) (fun T11 v11 L11 X11 hQ11 => ?_)
                obtain ⟨hv11, e11, rfl⟩ := hQ11
                by_cases hc11 : 128 ≤ p4.toInt ∧ p4.toInt ≤ 191
                · obtain rfl : v11 = some (.int (1 : Int32)) := hv11.trans (by rw [if_pos hc11])
                  refine OwnK.if_ne X11 hx (hb hby own_d2_164) (by decide) (pcT := 169) (by decide) (pc' := 167) rfl (fun hc164 => ?_) (fun (hc164 : 1 = 0) => absurd hc164 (by decide))
                  refine OwnK.iload X11 hx (hb hby own_d2_169) (pc' := 171) rfl (v := u10) rfl ?_
                  refine OwnK.bipush X11 hx (hb hby own_d2_171) (pc' := 173) rfl (v := (6 : Int32)) (by decide) ?_
                  refine OwnK.ishl X11 hx (hb hby own_d2_173) (pc' := 174) rfl ?_
                  refine OwnK.iloadN X11 hx (hb hby own_d2_174) (pc' := 175) rfl (v := p4) rfl ?_
                  refine OwnK.bipush X11 hx (hb hby own_d2_175) (pc' := 177) rfl (v := (63 : Int32)) (by decide) ?_
                  refine OwnK.iand X11 hx (hb hby own_d2_177) (pc' := 178) rfl ?_
                  refine OwnK.ior X11 hx (hb hby own_d2_178) (pc' := 179) rfl ?_
                  refine OwnK.istoreG X11 hx (hb hby own_d2_179) (pc' := 181) rfl (Ls' := fun u => #[.val (.int p1), .val (.int p2), .val (.int p3), .val (.int p4), .val (.int p5), .val (.int p6), .val (.int (4 : Int32)), .val (.int u), .val (.int (65536 : Int32))]) (fun u => rfl) (fun u12 (hu12 : u12 = ((u10 <<< ((6 : Int32) &&& 31)) ||| (p4 &&& (63 : Int32)))) => ?_)
                  have i_u12 : u12.toInt = u10.toInt * 64 + p4.toInt % 64 := by rw [hu12]; exact own_cp (by omega) (by omega)
                  refine OwnK.iload X11 hx (hb hby own_d2_181) (pc' := 183) rfl (v := u12) rfl ?_
                  refine OwnK.iload X11 hx (hb hby own_d2_183) (pc' := 185) rfl (v := (65536 : Int32)) rfl ?_
                  refine OwnK.icmp_lt X11 hx (hb hby own_d2_185) (by decide) (pcT := 195) (by decide) (pc' := 188) rfl (fun (hc13 : u12.toInt < 65536) => ?_) (fun (hc13 : 65536 ≤ u12.toInt) => ?_)
                  · refine OwnK.iconst X11 hx (hb hby own_d2_195) (pc' := 196) rfl (v := (-1 : Int32)) (by decide) ?_
                    refine OwnK.retI_ X11 hx hret hlk (hb hby own_d2_196) (by decide) (by decide) ?_
                    exact ⟨congrArg (fun q => some (Value.int q)) (own_res0 (own_n0 (by omega) (by omega) (by omega))), e11, rfl⟩
                  · refine OwnK.iload X11 hx (hb hby own_d2_188) (pc' := 190) rfl (v := u12) rfl ?_
                    refine OwnK.ldcI X11 hx hZ hown (hw _ (List.mem_of_getElem? (i := 13) rfl)) (hb hby own_d2_190) (pc' := 192) rfl ?_
                    refine OwnK.icmp_le X11 hx (hb hby own_d2_192) (by decide) (pcT := 197) (by decide) (pc' := 195) rfl (fun (hc14 : u12.toInt ≤ 1114111) => ?_) (fun (hc14 : 1114111 < u12.toInt) => ?_)
                    · refine OwnK.iload X11 hx (hb hby own_d2_197) (pc' := 199) rfl (v := u12) rfl ?_
                      refine OwnK.ldcI X11 hx hZ hown (hw _ (List.mem_of_getElem? (i := 14) rfl)) (hb hby own_d2_199) (pc' := 201) rfl ?_
                      refine OwnK.icmp_lt X11 hx (hb hby own_d2_201) (by decide) (pcT := 213) (by decide) (pc' := 204) rfl (fun (hc15 : u12.toInt < 55296) => ?_) (fun (hc15 : 55296 ≤ u12.toInt) => ?_)
                      · refine OwnK.iload X11 hx (hb hby own_d2_213) (pc' := 215) rfl (v := p5) rfl ?_
                        refine OwnK.iload X11 hx (hb hby own_d2_215) (pc' := 217) rfl (v := (4 : Int32)) rfl ?_
                        refine OwnK.iadd X11 hx (hb hby own_d2_217) (pc' := 218) rfl ?_
                        refine OwnK.retI_ X11 hx hret hlk (hb hby own_d2_218) (by decide) (by decide) ?_
                        have hr := own_addk (p := p5) (by omega) (by omega) (4 : Int32) (by decide) (by decide)
                        rw [show ((4 : Int32)).toInt = 4 from by decide] at hr
                        have hn := own_n4 (x0 := p1.toInt) (x1 := p2.toInt) (x2 := p3.toInt) (x3 := p4.toInt) (len := p6.toInt - p5.toInt) (by omega)
                        exact ⟨congrArg (fun q => some (Value.int q)) (own_resk (by omega) (by omega)), e11, rfl⟩
                      · refine OwnK.iload X11 hx (hb hby own_d2_204) (pc' := 206) rfl (v := u12) rfl ?_
                        refine OwnK.ldcI X11 hx hZ hown (hw _ (List.mem_of_getElem? (i := 16) rfl)) (hb hby own_d2_206) (pc' := 208) rfl ?_
                        refine OwnK.icmp_gt X11 hx (hb hby own_d2_208) (by decide) (pcT := 213) (by decide) (pc' := 211) rfl (fun (hc16 : 57343 < u12.toInt) => ?_) (fun (hc16 : u12.toInt ≤ 57343) => ?_)
                        · refine OwnK.iload X11 hx (hb hby own_d2_213) (pc' := 215) rfl (v := p5) rfl ?_
                          refine OwnK.iload X11 hx (hb hby own_d2_215) (pc' := 217) rfl (v := (4 : Int32)) rfl ?_
                          refine OwnK.iadd X11 hx (hb hby own_d2_217) (pc' := 218) rfl ?_
                          refine OwnK.retI_ X11 hx hret hlk (hb hby own_d2_218) (by decide) (by decide) ?_
                          have hr := own_addk (p := p5) (by omega) (by omega) (4 : Int32) (by decide) (by decide)
                          rw [show ((4 : Int32)).toInt = 4 from by decide] at hr
                          have hn := own_n4 (x0 := p1.toInt) (x1 := p2.toInt) (x2 := p3.toInt) (x3 := p4.toInt) (len := p6.toInt - p5.toInt) (by omega)
                          exact ⟨congrArg (fun q => some (Value.int q)) (own_resk (by omega) (by omega)), e11, rfl⟩
                        · refine OwnK.iconst X11 hx (hb hby own_d2_211) (pc' := 212) rfl (v := (-1 : Int32)) (by decide) ?_
                          refine OwnK.retI_ X11 hx hret hlk (hb hby own_d2_212) (by decide) (by decide) ?_
                          exact ⟨congrArg (fun q => some (Value.int q)) (own_res0 (own_n0 (by omega) (by omega) (by omega))), e11, rfl⟩
                    · refine OwnK.iconst X11 hx (hb hby own_d2_195) (pc' := 196) rfl (v := (-1 : Int32)) (by decide) ?_
                      refine OwnK.retI_ X11 hx hret hlk (hb hby own_d2_196) (by decide) (by decide) ?_
                      exact ⟨congrArg (fun q => some (Value.int q)) (own_res0 (own_n0 (by omega) (by omega) (by omega))), e11, rfl⟩
                · obtain rfl : v11 = some (.int (0 : Int32)) := hv11.trans (by rw [if_neg hc11])
                  refine OwnK.if_ne X11 hx (hb hby own_d2_164) (by decide) (pcT := 169) (by decide) (pc' := 167) rfl (fun (hc164 : ¬ 0 = 0) => absurd hc164 (by decide)) (fun hc164 => ?_)
                  refine OwnK.iconst X11 hx (hb hby own_d2_167) (pc' := 168) rfl (v := (-1 : Int32)) (by decide) ?_
                  refine OwnK.retI_ X11 hx hret hlk (hb hby own_d2_168) (by decide) (by decide) ?_
                  exact ⟨congrArg (fun q => some (Value.int q)) (own_res0 (own_n0 (by omega) (by omega) (by omega))), e11, rfl⟩
              · obtain rfl : v9 = some (.int (0 : Int32)) := hv9.trans (by rw [if_neg hc9])
                refine OwnK.if_ne X9 hx (hb hby own_d2_137) (by decide) (pcT := 142) (by decide) (pc' := 140) rfl (fun (hc137 : ¬ 0 = 0) => absurd hc137 (by decide)) (fun hc137 => ?_)
                refine OwnK.iconst X9 hx (hb hby own_d2_140) (pc' := 141) rfl (v := (-1 : Int32)) (by decide) ?_
                refine OwnK.retI_ X9 hx hret hlk (hb hby own_d2_141) (by decide) (by decide) ?_
                exact ⟨congrArg (fun q => some (Value.int q)) (own_res0 (own_n0 (by omega) (by omega) (by omega))), e9, rfl⟩
            · obtain rfl : v7 = some (.int (0 : Int32)) := hv7.trans (by rw [if_neg hc7])
              refine OwnK.if_ne X7 hx (hb hby own_d2_110) (by decide) (pcT := 115) (by decide) (pc' := 113) rfl (fun (hc110 : ¬ 0 = 0) => absurd hc110 (by decide)) (fun hc110 => ?_)
              refine OwnK.iconst X7 hx (hb hby own_d2_113) (pc' := 114) rfl (v := (-1 : Int32)) (by decide) ?_
              refine OwnK.retI_ X7 hx hret hlk (hb hby own_d2_114) (by decide) (by decide) ?_
              exact ⟨congrArg (fun q => some (Value.int q)) (own_res0 (own_n0 (by omega) (by omega) (by omega))), e7, rfl⟩
          · refine OwnK.iconst X0 hx (hb hby own_d2_104) (pc' := 105) rfl (v := (-1 : Int32)) (by decide) ?_
            refine OwnK.retI_ X0 hx hret hlk (hb hby own_d2_105) (by decide) (by decide) ?_
            exact ⟨congrArg (fun q => some (Value.int q)) (own_res0 (own_n0 (by omega) (by omega) (by omega))), e0, rfl⟩
    · refine OwnK.iloadN X0 hx (hb hby own_d2_38) (pc' := 39) rfl (v := p1) rfl ?_
      refine OwnK.sipush X0 hx (hb hby own_d2_39) (pc' := 42) rfl (v := (239 : Int32)) (by decide) ?_
      refine OwnK.icmp_gt X0 hx (hb hby own_d2_42) (by decide) (pcT := 62) (by decide) (pc' := 45) rfl (fun (hc17 : 239 < p1.toInt) => ?_) (fun (hc17 : p1.toInt ≤ 239) => ?_)
      · refine OwnK.iloadN X0 hx (hb hby own_d2_62) (pc' := 63) rfl (v := p1) rfl ?_
        refine OwnK.sipush X0 hx (hb hby own_d2_63) (pc' := 66) rfl (v := (240 : Int32)) (by decide) ?_
        refine OwnK.icmp_lt X0 hx (hb hby own_d2_66) (by decide) (pcT := 92) (by decide) (pc' := 69) rfl (fun (hc18 : p1.toInt < 240) => ?_) (fun (hc18 : 240 ≤ p1.toInt) => ?_)
        · refine OwnK.iconst X0 hx (hb hby own_d2_92) (pc' := 93) rfl (v := (-1 : Int32)) (by decide) ?_
          refine OwnK.retI_ X0 hx hret hlk (hb hby own_d2_93) (by decide) (by decide) ?_
          exact ⟨congrArg (fun q => some (Value.int q)) (own_res0 (own_n0 (by omega) (by omega) (by omega))), e0, rfl⟩
        · refine OwnK.iloadN X0 hx (hb hby own_d2_69) (pc' := 70) rfl (v := p1) rfl ?_
          refine OwnK.sipush X0 hx (hb hby own_d2_70) (pc' := 73) rfl (v := (247 : Int32)) (by decide) ?_
          refine OwnK.icmp_gt X0 hx (hb hby own_d2_73) (by decide) (pcT := 92) (by decide) (pc' := 76) rfl (fun (hc19 : 247 < p1.toInt) => ?_) (fun (hc19 : p1.toInt ≤ 247) => ?_)
          · refine OwnK.iconst X0 hx (hb hby own_d2_92) (pc' := 93) rfl (v := (-1 : Int32)) (by decide) ?_
            refine OwnK.retI_ X0 hx hret hlk (hb hby own_d2_93) (by decide) (by decide) ?_
            exact ⟨congrArg (fun q => some (Value.int q)) (own_res0 (own_n0 (by omega) (by omega) (by omega))), e0, rfl⟩
          · refine OwnK.iconst X0 hx (hb hby own_d2_76) (pc' := 77) rfl (v := (4 : Int32)) (by decide) ?_
            refine OwnK.istore X0 hx (hb hby own_d2_77) (pc' := 79) rfl (Ls' := #[.val (.int p1), .val (.int p2), .val (.int p3), .val (.int p4), .val (.int p5), .val (.int p6), .val (.int (4 : Int32)), .unset, .unset]) rfl ?_
            refine OwnK.iloadN X0 hx (hb hby own_d2_79) (pc' := 80) rfl (v := p1) rfl ?_
            refine OwnK.bipush X0 hx (hb hby own_d2_80) (pc' := 82) rfl (v := (7 : Int32)) (by decide) ?_
            refine OwnK.iand X0 hx (hb hby own_d2_82) (pc' := 83) rfl ?_
            refine OwnK.istoreG X0 hx (hb hby own_d2_83) (pc' := 85) rfl (Ls' := fun u => #[.val (.int p1), .val (.int p2), .val (.int p3), .val (.int p4), .val (.int p5), .val (.int p6), .val (.int (4 : Int32)), .val (.int u), .unset]) (fun u => rfl) (fun u20 (hu20 : u20 = (p1 &&& (7 : Int32))) => ?_)
            have i_u20 : u20.toInt = p1.toInt % 8 := by rw [hu20]; exact Jvm.Kit.i32_mask p1 7 (k := 3) (by decide) (by decide)
            refine OwnK.ldcI X0 hx hZ hown (hw _ (List.mem_of_getElem? (i := 15) rfl)) (hb hby own_d2_85) (pc' := 87) rfl ?_
            refine OwnK.istore X0 hx (hb hby own_d2_87) (pc' := 89) rfl (Ls' := #[.val (.int p1), .val (.int p2), .val (.int p3), .val (.int p4), .val (.int p5), .val (.int p6), .val (.int (4 : Int32)), .val (.int u20), .val (.int (65536 : Int32))]) rfl ?_
            refine OwnK.goto_ X0 hx (hb hby own_d2_89) (by decide) (pc' := 94) (by decide) ?_
            refine OwnK.iload X0 hx (hb hby own_d2_94) (pc' := 96) rfl (v := p6) rfl ?_
            refine OwnK.iload X0 hx (hb hby own_d2_96) (pc' := 98) rfl (v := p5) rfl ?_
            refine OwnK.isub X0 hx (hb hby own_d2_98) (pc' := 99) rfl ?_
            refine OwnK.iload X0 hx (hb hby own_d2_99) (pc' := 101) rfl (v := (4 : Int32)) rfl ?_
            refine OwnK.icmp_ge X0 hx (hb hby own_d2_101) (by decide) (pcT := 106) (by decide) (pc' := 104) rfl (fun (hc21 : 4 ≤ (p6 - p5).toInt) => ?_) (fun (hc21 : (p6 - p5).toInt < 4) => ?_)
            · refine OwnK.iloadN X0 hx (hb hby own_d2_106) (pc' := 107) rfl (v := p2) rfl ?_
              refine OwnK.callS_ X0 hx hZ hown (y := (⟨"com/example/entryway/entryway/Utf8SequenceEndPinLaw", "cont", "(I)Z"⟩ : MethodName)) (hw _ (List.mem_of_getElem? (i := 10) rfl)) (hw _ (List.mem_of_getElem? (i := 11) rfl)) (hw _ (List.mem_of_getElem? (i := 8) rfl)) (hw _ (List.mem_of_getElem? (i := 12) rfl)) (by decide) (own_met3 l Z a0 hw h0 p2 hp2 ) (by decide) (W := 0) (by decide) e0 (by rw [hml]; rfl) own_pd_0 (argsL := [(.int p2)]) rfl (S := []) rfl (Nat.le_of_eq rfl) (hb hby own_d2_107) (pc' := 110) rfl (by decide) (by decide) (fun T22 v22 L22 X22 hQ22 => ?_)
              obtain ⟨hv22, e22, rfl⟩ := hQ22
              by_cases hc22 : 128 ≤ p2.toInt ∧ p2.toInt ≤ 191
              · obtain rfl : v22 = some (.int (1 : Int32)) := hv22.trans (by rw [if_pos hc22])
                refine OwnK.if_ne X22 hx (hb hby own_d2_110) (by decide) (pcT := 115) (by decide) (pc' := 113) rfl (fun hc110 => ?_) (fun (hc110 : 1 = 0) => absurd hc110 (by decide))
                refine OwnK.iload X22 hx (hb hby own_d2_115) (pc' := 117) rfl (v := u20) rfl ?_
                refine OwnK.bipush X22 hx (hb hby own_d2_117) (pc' := 119) rfl (v := (6 : Int32)) (by decide) ?_
                refine OwnK.ishl X22 hx (hb hby own_d2_119) (pc' := 120) rfl ?_
                refine OwnK.iloadN X22 hx (hb hby own_d2_120) (pc' := 121) rfl (v := p2) rfl ?_
                refine OwnK.bipush X22 hx (hb hby own_d2_121) (pc' := 123) rfl (v := (63 : Int32)) (by decide) ?_
                refine OwnK.iand X22 hx (hb hby own_d2_123) (pc' := 124) rfl ?_
                refine OwnK.ior X22 hx (hb hby own_d2_124) (pc' := 125) rfl ?_
                refine OwnK.istoreG X22 hx (hb hby own_d2_125) (pc' := 127) rfl (Ls' := fun u => #[.val (.int p1), .val (.int p2), .val (.int p3), .val (.int p4), .val (.int p5), .val (.int p6), .val (.int (4 : Int32)), .val (.int u), .val (.int (65536 : Int32))]) (fun u => rfl) (fun u23 (hu23 : u23 = ((u20 <<< ((6 : Int32) &&& 31)) ||| (p2 &&& (63 : Int32)))) => ?_)
                have i_u23 : u23.toInt = u20.toInt * 64 + p2.toInt % 64 := by rw [hu23]; exact own_cp (by omega) (by omega)
                refine OwnK.iload X22 hx (hb hby own_d2_127) (pc' := 129) rfl (v := (4 : Int32)) rfl ?_
                refine OwnK.iconst X22 hx (hb hby own_d2_129) (pc' := 130) rfl (v := (3 : Int32)) (by decide) ?_
                refine OwnK.icmp_lt X22 hx (hb hby own_d2_130) (by decide) (pcT := 154) (by decide) (pc' := 133) rfl (fun (hc130 : 4 < 3) => absurd hc130 (by decide)) (fun hc130 => ?_)
                refine OwnK.iloadN X22 hx (hb hby own_d2_133) (pc' := 134) rfl (v := p3) rfl ?_
                refine OwnK.callS_ X22 hx hZ hown (y := (⟨"com/example/entryway/entryway/Utf8SequenceEndPinLaw", "cont", "(I)Z"⟩ : MethodName)) (hw _ (List.mem_of_getElem? (i := 10) rfl)) (hw _ (List.mem_of_getElem? (i := 11) rfl)) (hw _ (List.mem_of_getElem? (i := 8) rfl)) (hw _ (List.mem_of_getElem? (i := 12) rfl)) (by decide) (own_met3 l Z a0 hw h0 p3 hp3 ) (by decide) (W := 0) (by decide) e22 (by rw [hml]; rfl) own_pd_0 (argsL := [(.int p3)]) rfl (S := []) rfl (Nat.le_of_eq rfl) (hb hby own_d2_134) (pc' := 137) rfl (by decide) (by decide) (fun T24 v24 L24 X24 hQ24 => ?_)
                obtain ⟨hv24, e24, rfl⟩ := hQ24
                by_cases hc24 : 128 ≤ p3.toInt ∧ p3.toInt ≤ 191
                · obtain rfl : v24 = some (.int (1 : Int32)) := hv24.trans (by rw [if_pos hc24])
                  refine OwnK.if_ne X24 hx (hb hby own_d2_137) (by decide) (pcT := 142) (by decide) (pc' := 140) rfl (fun hc137 => ?_) (fun (hc137 : 1 = 0) => absurd hc137 (by decide))
                  refine OwnK.iload X24 hx (hb hby own_d2_142) (pc' := 144) rfl (v := u23) rfl ?_
                  refine OwnK.bipush X24 hx (hb hby own_d2_144) (pc' := 146) rfl (v := (6 : Int32)) (by decide) ?_
                  refine OwnK.ishl X24 hx (hb hby own_d2_146) (pc' := 147) rfl ?_
                  refine OwnK.iloadN X24 hx (hb hby own_d2_147) (pc' := 148) rfl (v := p3) rfl ?_
                  refine OwnK.bipush X24 hx (hb hby own_d2_148) (pc' := 150) rfl (v := (63 : Int32)) (by decide) ?_
                  refine OwnK.iand X24 hx (hb hby own_d2_150) (pc' := 151) rfl ?_
                  refine OwnK.ior X24 hx (hb hby own_d2_151) (pc' := 152) rfl ?_
                  refine OwnK.istoreG X24 hx (hb hby own_d2_152) (pc' := 154) rfl (Ls' := fun u => #[.val (.int p1), .val (.int p2), .val (.int p3), .val (.int p4), .val (.int p5), .val (.int p6), .val (.int (4 : Int32)), .val (.int u), .val (.int (65536 : Int32))]) (fun u => rfl) (fun u25 (hu25 : u25 = ((u23 <<< ((6 : Int32) &&& 31)) ||| (p3 &&& (63 : Int32)))) => ?_)
                  have i_u25 : u25.toInt = u23.toInt * 64 + p3.toInt % 64 := by rw [hu25]; exact own_cp (by omega) (by omega)
                  refine OwnK.iload X24 hx (hb hby own_d2_154) (pc' := 156) rfl (v := (4 : Int32)) rfl ?_
                  refine OwnK.iconst X24 hx (hb hby own_d2_156) (pc' := 157) rfl (v := (4 : Int32)) (by decide) ?_
                  refine OwnK.icmp_lt X24 hx (hb hby own_d2_157) (by decide) (pcT := 181) (by decide) (pc' := 160) rfl (fun (hc157 : 4 < 4) => absurd hc157 (by decide)) (fun hc157 => ?_)
                  refine OwnK.iloadN X24 hx (hb hby own_d2_160) (pc' := 161) rfl (v := p4) rfl ?_
                  refine OwnK.callS_ X24 hx hZ hown (y := (⟨"com/example/entryway/entryway/Utf8SequenceEndPinLaw", "cont", "(I)Z"⟩ : MethodName)) (hw _ (List.mem_of_getElem? (i := 10) rfl)) (hw _ (List.mem_of_getElem? (i := 11) rfl)) (hw _ (List.mem_of_getElem? (i := 8) rfl)) (hw _ (List.mem_of_getElem? (i := 12) rfl)) (by decide) (own_met3 l Z a0 hw h0 p4 hp4 ) (by decide) (W := 0) (by decide) e24 (by rw [hml]; rfl) own_pd_0 (argsL := [(.int p4)]) rfl (S := []) rfl (Nat.le_of_eq rfl) (hb hby own_d2_161) (pc' := 164) rfl (by decide) (by decide) (fun T26 v26 L26 X26 hQ26 => ?_)
                  obtain ⟨hv26, e26, rfl⟩ := hQ26
                  by_cases hc26 : 128 ≤ p4.toInt ∧ p4.toInt ≤ 191
                  · obtain rfl : v26 = some (.int (1 : Int32)) := hv26.trans (by rw [if_pos hc26])
                    refine OwnK.if_ne X26 hx (hb hby own_d2_164) (by decide) (pcT := 169) (by decide) (pc' := 167) rfl (fun hc164 => ?_) (fun (hc164 : 1 = 0) => absurd hc164 (by decide))
                    refine OwnK.iload X26 hx (hb hby own_d2_169) (pc' := 171) rfl (v := u25) rfl ?_
                    refine OwnK.bipush X26 hx (hb hby own_d2_171) (pc' := 173) rfl (v := (6 : Int32)) (by decide) ?_
                    refine OwnK.ishl X26 hx (hb hby own_d2_173) (pc' := 174) rfl ?_
                    refine OwnK.iloadN X26 hx (hb hby own_d2_174) (pc' := 175) rfl (v := p4) rfl ?_
                    refine OwnK.bipush X26 hx (hb hby own_d2_175) (pc' := 177) rfl (v := (63 : Int32)) (by decide) ?_
                    refine OwnK.iand X26 hx (hb hby own_d2_177) (pc' := 178) rfl ?_
                    refine OwnK.ior X26 hx (hb hby own_d2_178) (pc' := 179) rfl ?_
                    refine OwnK.istoreG X26 hx (hb hby own_d2_179) (pc' := 181) rfl (Ls' := fun u => #[.val (.int p1), .val (.int p2), .val (.int p3), .val (.int p4), .val (.int p5), .val (.int p6), .val (.int (4 : Int32)), .val (.int u), .val (.int (65536 : Int32))]) (fun u => rfl) (fun u27 (hu27 : u27 = ((u25 <<< ((6 : Int32) &&& 31)) ||| (p4 &&& (63 : Int32)))) => ?_)
                    have i_u27 : u27.toInt = u25.toInt * 64 + p4.toInt % 64 := by rw [hu27]; exact own_cp (by omega) (by omega)
                    refine OwnK.iload X26 hx (hb hby own_d2_181) (pc' := 183) rfl (v := u27) rfl ?_
                    refine OwnK.iload X26 hx (hb hby own_d2_183) (pc' := 185) rfl (v := (65536 : Int32)) rfl ?_
                    refine OwnK.icmp_lt X26 hx (hb hby own_d2_185) (by decide) (pcT := 195) (by decide) (pc' := 188) rfl (fun (hc28 : u27.toInt < 65536) => ?_) (fun (hc28 : 65536 ≤ u27.toInt) => ?_)
                    · refine OwnK.iconst X26 hx (hb hby own_d2_195) (pc' := 196) rfl (v := (-1 : Int32)) (by decide) ?_
                      refine OwnK.retI_ X26 hx hret hlk (hb hby own_d2_196) (by decide) (by decide) ?_
                      exact ⟨congrArg (fun q => some (Value.int q)) (own_res0 (own_n0 (by omega) (by omega) (by omega))), e26, rfl⟩
                    · refine OwnK.iload X26 hx (hb hby own_d2_188) (pc' := 190) rfl (v := u27) rfl ?_
                      refine OwnK.ldcI X26 hx hZ hown (hw _ (List.mem_of_getElem? (i := 13) rfl)) (hb hby own_d2_190) (pc' := 192) rfl ?_
                      refine OwnK.icmp_le X26 hx (hb hby own_d2_192) (by decide) (pcT := 197) (by decide) (pc' := 195) rfl (fun (hc29 : u27.toInt ≤ 1114111) => ?_) (fun (hc29 : 1114111 < u27.toInt) => ?_)
                      · refine OwnK.iload X26 hx (hb hby own_d2_197) (pc' := 199) rfl (v := u27) rfl ?_
                        refine OwnK.ldcI X26 hx hZ hown (hw _ (List.mem_of_getElem? (i := 14) rfl)) (hb hby own_d2_199) (pc' := 201) rfl ?_
                        refine OwnK.icmp_lt X26 hx (hb hby own_d2_201) (by decide) (pcT := 213) (by decide) (pc' := 204) rfl (fun (hc30 : u27.toInt < 55296) => ?_) (fun (hc30 : 55296 ≤ u27.toInt) => ?_)
                        · refine OwnK.iload X26 hx (hb hby own_d2_213) (pc' := 215) rfl (v := p5) rfl ?_
                          refine OwnK.iload X26 hx (hb hby own_d2_215) (pc' := 217) rfl (v := (4 : Int32)) rfl ?_
                          refine OwnK.iadd X26 hx (hb hby own_d2_217) (pc' := 218) rfl ?_
                          refine OwnK.retI_ X26 hx hret hlk (hb hby own_d2_218) (by decide) (by decide) ?_
                          have hr := own_addk (p := p5) (by omega) (by omega) (4 : Int32) (by decide) (by decide)
                          rw [show ((4 : Int32)).toInt = 4 from by decide] at hr
                          have hn := own_n4 (x0 := p1.toInt) (x1 := p2.toInt) (x2 := p3.toInt) (x3 := p4.toInt) (len := p6.toInt - p5.toInt) (by omega)
                          exact ⟨congrArg (fun q => some (Value.int q)) (own_resk (by omega) (by omega)), e26, rfl⟩
                        · refine OwnK.iload X26 hx (hb hby own_d2_204) (pc' := 206) rfl (v := u27) rfl ?_
                          refine OwnK.ldcI X26 hx hZ hown (hw _ (List.mem_of_getElem? (i := 16) rfl)) (hb hby own_d2_206) (pc' := 208) rfl ?_
                          refine OwnK.icmp_gt X26 hx (hb hby own_d2_208) (by decide) (pcT := 213) (by decide) (pc' := 211) rfl (fun (hc31 : 57343 < u27.toInt) => ?_) (fun (hc31 : u27.toInt ≤ 57343) => ?_)
                          · refine OwnK.iload X26 hx (hb hby own_d2_213) (pc' := 215) rfl (v := p5) rfl ?_
                            refine OwnK.iload X26 hx (hb hby own_d2_215) (pc' := 217) rfl (v := (4 : Int32)) rfl ?_
                            refine OwnK.iadd X26 hx (hb hby own_d2_217) (pc' := 218) rfl ?_
                            refine OwnK.retI_ X26 hx hret hlk (hb hby own_d2_218) (by decide) (by decide) ?_
                            have hr := own_addk (p := p5) (by omega) (by omega) (4 : Int32) (by decide) (by decide)
                            rw [show ((4 : Int32)).toInt = 4 from by decide] at hr
                            have hn := own_n4 (x0 := p1.toInt) (x1 := p2.toInt) (x2 := p3.toInt) (x3 := p4.toInt) (len := p6.toInt - p5.toInt) (by omega)
                            exact ⟨congrArg (fun q => some (Value.int q)) (own_resk (by omega) (by omega)), e26, rfl⟩
                          · refine OwnK.iconst X26 hx (hb hby own_d2_211) (pc' := 212) rfl (v := (-1 : Int32)) (by decide) ?_
                            refine OwnK.retI_ X26 hx hret hlk (hb hby own_d2_212) (by decide) (by decide) ?_
                            exact ⟨congrArg (fun q => some (Value.int q)) (own_res0 (own_n0 (by omega) (by omega) (by omega))), e26, rfl⟩
                      · refine OwnK.iconst X26 hx (hb hby own_d2_195) (pc' := 196) rfl (v := (-1 : Int32)) (by decide) ?_
                        refine OwnK.retI_ X26 hx hret hlk (hb hby own_d2_196) (by decide) (by decide) ?_
                        exact ⟨congrArg (fun q => some (Value.int q)) (own_res0 (own_n0 (by omega) (by omega) (by omega))), e26, rfl⟩
                  · obtain rfl : v26 = some (.int (0 : Int32)) := hv26.trans (by rw [if_neg hc26])
                    refine OwnK.if_ne X26 hx (hb hby own_d2_164) (by decide) (pcT := 169) (by decide) (pc' := 167) rfl (fun (hc164 : ¬ 0 = 0) => absurd hc164 (by decide)) (fun hc164 => ?_)
                    refine OwnK.iconst X26 hx (hb hby own_d2_167) (pc' := 168) rfl (v := (-1 : Int32)) (by decide) ?_
                    refine OwnK.retI_ X26 hx hret hlk (hb hby own_d2_168) (by decide) (by decide) ?_
                    exact ⟨congrArg (fun q => some (Value.int q)) (own_res0 (own_n0 (by omega) (by omega) (by omega))), e26, rfl⟩
                · obtain rfl : v24 = some (.int (0 : Int32)) := hv24.trans (by rw [if_neg hc24])
                  refine OwnK.if_ne X24 hx (hb hby own_d2_137) (by decide) (pcT := 142) (by decide) (pc' := 140) rfl (fun (hc137 : ¬ 0 = 0) => absurd hc137 (by decide)) (fun hc137 => ?_)
                  refine OwnK.iconst X24 hx (hb hby own_d2_140) (pc' := 141) rfl (v := (-1 : Int32)) (by decide) ?_
                  refine OwnK.retI_ X24 hx hret hlk (hb hby own_d2_141) (by decide) (by decide) ?_
                  exact ⟨congrArg (fun q => some (Value.int q)) (own_res0 (own_n0 (by omega) (by omega) (by omega))), e24, rfl⟩
              · obtain rfl : v22 = some (.int (0 : Int32)) := hv22.trans (by rw [if_neg hc22])
                refine OwnK.if_ne X22 hx (hb hby own_d2_110) (by decide) (pcT := 115) (by decide) (pc' := 113) rfl (fun (hc110 : ¬ 0 = 0) => absurd hc110 (by decide)) (fun hc110 => ?_)
                refine OwnK.iconst X22 hx (hb hby own_d2_113) (pc' := 114) rfl (v := (-1 : Int32)) (by decide) ?_
                refine OwnK.retI_ X22 hx hret hlk (hb hby own_d2_114) (by decide) (by decide) ?_
                exact ⟨congrArg (fun q => some (Value.int q)) (own_res0 (own_n0 (by omega) (by omega) (by omega))), e22, rfl⟩
            · refine OwnK.iconst X0 hx (hb hby own_d2_104) (pc' := 105) rfl (v := (-1 : Int32)) (by decide) ?_
              refine OwnK.retI_ X0 hx hret hlk (hb hby own_d2_105) (by decide) (by decide) ?_
              exact ⟨congrArg (fun q => some (Value.int q)) (own_res0 (own_n0 (by omega) (by omega) (by omega))), e0, rfl⟩
      · refine OwnK.iconst X0 hx (hb hby own_d2_45) (pc' := 46) rfl (v := (3 : Int32)) (by decide) ?_
        refine OwnK.istore X0 hx (hb hby own_d2_46) (pc' := 48) rfl (Ls' := #[.val (.int p1), .val (.int p2), .val (.int p3), .val (.int p4), .val (.int p5), .val (.int p6), .val (.int (3 : Int32)), .unset, .unset]) rfl ?_
        refine OwnK.iloadN X0 hx (hb hby own_d2_48) (pc' := 49) rfl (v := p1) rfl ?_
        refine OwnK.bipush X0 hx (hb hby own_d2_49) (pc' := 51) rfl (v := (15 : Int32)) (by decide) ?_
        refine OwnK.iand X0 hx (hb hby own_d2_51) (pc' := 52) rfl ?_
        refine OwnK.istoreG X0 hx (hb hby own_d2_52) (pc' := 54) rfl (Ls' := fun u => #[.val (.int p1), .val (.int p2), .val (.int p3), .val (.int p4), .val (.int p5), .val (.int p6), .val (.int (3 : Int32)), .val (.int u), .unset]) (fun u => rfl) (fun u32 (hu32 : u32 = (p1 &&& (15 : Int32))) => ?_)
        have i_u32 : u32.toInt = p1.toInt % 16 := by rw [hu32]; exact Jvm.Kit.i32_mask p1 15 (k := 4) (by decide) (by decide)
        refine OwnK.sipush X0 hx (hb hby own_d2_54) (pc' := 57) rfl (v := (2048 : Int32)) (by decide) ?_
        refine OwnK.istore X0 hx (hb hby own_d2_57) (pc' := 59) rfl (Ls' := #[.val (.int p1), .val (.int p2), .val (.int p3), .val (.int p4), .val (.int p5), .val (.int p6), .val (.int (3 : Int32)), .val (.int u32), .val (.int (2048 : Int32))]) rfl ?_
        refine OwnK.goto_ X0 hx (hb hby own_d2_59) (by decide) (pc' := 94) (by decide) ?_
        refine OwnK.iload X0 hx (hb hby own_d2_94) (pc' := 96) rfl (v := p6) rfl ?_
        refine OwnK.iload X0 hx (hb hby own_d2_96) (pc' := 98) rfl (v := p5) rfl ?_
        refine OwnK.isub X0 hx (hb hby own_d2_98) (pc' := 99) rfl ?_
        refine OwnK.iload X0 hx (hb hby own_d2_99) (pc' := 101) rfl (v := (3 : Int32)) rfl ?_
        refine OwnK.icmp_ge X0 hx (hb hby own_d2_101) (by decide) (pcT := 106) (by decide) (pc' := 104) rfl (fun (hc33 : 3 ≤ (p6 - p5).toInt) => ?_) (fun (hc33 : (p6 - p5).toInt < 3) => ?_)
        · refine OwnK.iloadN X0 hx (hb hby own_d2_106) (pc' := 107) rfl (v := p2) rfl ?_
          refine OwnK.callS_ X0 hx hZ hown (y := (⟨"com/example/entryway/entryway/Utf8SequenceEndPinLaw", "cont", "(I)Z"⟩ : MethodName)) (hw _ (List.mem_of_getElem? (i := 10) rfl)) (hw _ (List.mem_of_getElem? (i := 11) rfl)) (hw _ (List.mem_of_getElem? (i := 8) rfl)) (hw _ (List.mem_of_getElem? (i := 12) rfl)) (by decide) (own_met3 l Z a0 hw h0 p2 hp2 ) (by decide) (W := 0) (by decide) e0 (by rw [hml]; rfl) own_pd_0 (argsL := [(.int p2)]) rfl (S := []) rfl (Nat.le_of_eq rfl) (hb hby own_d2_107) (pc' := 110) rfl (by decide) (by decide) (fun T34 v34 L34 X34 hQ34 => ?_)
          obtain ⟨hv34, e34, rfl⟩ := hQ34
          by_cases hc34 : 128 ≤ p2.toInt ∧ p2.toInt ≤ 191
          · obtain rfl : v34 = some (.int (1 : Int32)) := hv34.trans (by rw [if_pos hc34])
            refine OwnK.if_ne X34 hx (hb hby own_d2_110) (by decide) (pcT := 115) (by decide) (pc' := 113) rfl (fun hc110 => ?_) (fun (hc110 : 1 = 0) => absurd hc110 (by decide))
            refine OwnK.iload X34 hx (hb hby own_d2_115) (pc' := 117) rfl (v := u32) rfl ?_
            refine OwnK.bipush X34 hx (hb hby own_d2_117) (pc' := 119) rfl (v := (6 : Int32)) (by decide) ?_
            refine OwnK.ishl X34 hx (hb hby own_d2_119) (pc' := 120) rfl ?_
            refine OwnK.iloadN X34 hx (hb hby own_d2_120) (pc' := 121) rfl (v := p2) rfl ?_
            refine OwnK.bipush X34 hx (hb hby own_d2_121) (pc' := 123) rfl (v := (63 : Int32)) (by decide) ?_
            refine OwnK.iand X34 hx (hb hby own_d2_123) (pc' := 124) rfl ?_
            refine OwnK.ior X34 hx (hb hby own_d2_124) (pc' := 125) rfl ?_
            refine OwnK.istoreG X34 hx (hb hby own_d2_125) (pc' := 127) rfl (Ls' := fun u => #[.val (.int p1), .val (.int p2), .val (.int p3), .val (.int p4), .val (.int p5), .val (.int p6), .val (.int (3 : Int32)), .val (.int u), .val (.int (2048 : Int32))]) (fun u => rfl) (fun u35 (hu35 : u35 = ((u32 <<< ((6 : Int32) &&& 31)) ||| (p2 &&& (63 : Int32)))) => ?_)
            have i_u35 : u35.toInt = u32.toInt * 64 + p2.toInt % 64 := by rw [hu35]; exact own_cp (by omega) (by omega)
            refine OwnK.iload X34 hx (hb hby own_d2_127) (pc' := 129) rfl (v := (3 : Int32)) rfl ?_
            refine OwnK.iconst X34 hx (hb hby own_d2_129) (pc' := 130) rfl (v := (3 : Int32)) (by decide) ?_
            refine OwnK.icmp_lt X34 hx (hb hby own_d2_130) (by decide) (pcT := 154) (by decide) (pc' := 133) rfl (fun (hc130 : 3 < 3) => absurd hc130 (by decide)) (fun hc130 => ?_)
            refine OwnK.iloadN X34 hx (hb hby own_d2_133) (pc' := 134) rfl (v := p3) rfl ?_
            refine OwnK.callS_ X34 hx hZ hown (y := (⟨"com/example/entryway/entryway/Utf8SequenceEndPinLaw", "cont", "(I)Z"⟩ : MethodName)) (hw _ (List.mem_of_getElem? (i := 10) rfl)) (hw _ (List.mem_of_getElem? (i := 11) rfl)) (hw _ (List.mem_of_getElem? (i := 8) rfl)) (hw _ (List.mem_of_getElem? (i := 12) rfl)) (by decide) (own_met3 l Z a0 hw h0 p3 hp3 ) (by decide) (W := 0) (by decide) e34 (by rw [hml]; rfl) own_pd_0 (argsL := [(.int p3)]) rfl (S := []) rfl (Nat.le_of_eq rfl) (hb hby own_d2_134) (pc' := 137) rfl (by decide) (by decide) (fun T36 v36 L36 X36 hQ36 => ?_)
            obtain ⟨hv36, e36, rfl⟩ := hQ36
            by_cases hc36 : 128 ≤ p3.toInt ∧ p3.toInt ≤ 191
            · obtain rfl : v36 = some (.int (1 : Int32)) := hv36.trans (by rw [if_pos hc36])
              refine OwnK.if_ne X36 hx (hb hby own_d2_137) (by decide) (pcT := 142) (by decide) (pc' := 140) rfl (fun hc137 => ?_) (fun (hc137 : 1 = 0) => absurd hc137 (by decide))
              refine OwnK.iload X36 hx (hb hby own_d2_142) (pc' := 144) rfl (v := u35) rfl ?_
              refine OwnK.bipush X36 hx (hb hby own_d2_144) (pc' := 146) rfl (v := (6 : Int32)) (by decide) ?_
              refine OwnK.ishl X36 hx (hb hby own_d2_146) (pc' := 147) rfl ?_
              refine OwnK.iloadN X36 hx (hb hby own_d2_147) (pc' := 148) rfl (v := p3) rfl ?_
              refine OwnK.bipush X36 hx (hb hby own_d2_148) (pc' := 150) rfl (v := (63 : Int32)) (by decide) ?_
              refine OwnK.iand X36 hx (hb hby own_d2_150) (pc' := 151) rfl ?_
              refine OwnK.ior X36 hx (hb hby own_d2_151) (pc' := 152) rfl ?_
              refine OwnK.istoreG X36 hx (hb hby own_d2_152) (pc' := 154) rfl (Ls' := fun u => #[.val (.int p1), .val (.int p2), .val (.int p3), .val (.int p4), .val (.int p5), .val (.int p6), .val (.int (3 : Int32)), .val (.int u), .val (.int (2048 : Int32))]) (fun u => rfl) (fun u37 (hu37 : u37 = ((u35 <<< ((6 : Int32) &&& 31)) ||| (p3 &&& (63 : Int32)))) => ?_)
              have i_u37 : u37.toInt = u35.toInt * 64 + p3.toInt % 64 := by rw [hu37]; exact own_cp (by omega) (by omega)
              refine OwnK.iload X36 hx (hb hby own_d2_154) (pc' := 156) rfl (v := (3 : Int32)) rfl ?_
              refine OwnK.iconst X36 hx (hb hby own_d2_156) (pc' := 157) rfl (v := (4 : Int32)) (by decide) ?_
              refine OwnK.icmp_lt X36 hx (hb hby own_d2_157) (by decide) (pcT := 181) (by decide) (pc' := 160) rfl (fun hc157 => ?_) (fun (hc157 : 4 ≤ 3) => absurd hc157 (by decide))
              refine OwnK.iload X36 hx (hb hby own_d2_181) (pc' := 183) rfl (v := u37) rfl ?_
              refine OwnK.iload X36 hx (hb hby own_d2_183) (pc' := 185) rfl (v := (2048 : Int32)) rfl ?_
              refine OwnK.icmp_lt X36 hx (hb hby own_d2_185) (by decide) (pcT := 195) (by decide) (pc' := 188) rfl (fun (hc38 : u37.toInt < 2048) => ?_) (fun (hc38 : 2048 ≤ u37.toInt) => ?_)
              · refine OwnK.iconst X36 hx (hb hby own_d2_195) (pc' := 196) rfl (v := (-1 : Int32)) (by decide) ?_
                refine OwnK.retI_ X36 hx hret hlk (hb hby own_d2_196) (by decide) (by decide) ?_
                exact ⟨congrArg (fun q => some (Value.int q)) (own_res0 (own_n0 (by omega) (by omega) (by omega))), e36, rfl⟩
              · refine OwnK.iload X36 hx (hb hby own_d2_188) (pc' := 190) rfl (v := u37) rfl ?_
                refine OwnK.ldcI X36 hx hZ hown (hw _ (List.mem_of_getElem? (i := 13) rfl)) (hb hby own_d2_190) (pc' := 192) rfl ?_
                refine OwnK.icmp_le X36 hx (hb hby own_d2_192) (by decide) (pcT := 197) (by decide) (pc' := 195) rfl (fun (hc39 : u37.toInt ≤ 1114111) => ?_) (fun (hc39 : 1114111 < u37.toInt) => ?_)
                · refine OwnK.iload X36 hx (hb hby own_d2_197) (pc' := 199) rfl (v := u37) rfl ?_
                  refine OwnK.ldcI X36 hx hZ hown (hw _ (List.mem_of_getElem? (i := 14) rfl)) (hb hby own_d2_199) (pc' := 201) rfl ?_
                  refine OwnK.icmp_lt X36 hx (hb hby own_d2_201) (by decide) (pcT := 213) (by decide) (pc' := 204) rfl (fun (hc40 : u37.toInt < 55296) => ?_) (fun (hc40 : 55296 ≤ u37.toInt) => ?_)
                  · refine OwnK.iload X36 hx (hb hby own_d2_213) (pc' := 215) rfl (v := p5) rfl ?_
                    refine OwnK.iload X36 hx (hb hby own_d2_215) (pc' := 217) rfl (v := (3 : Int32)) rfl ?_
                    refine OwnK.iadd X36 hx (hb hby own_d2_217) (pc' := 218) rfl ?_
                    refine OwnK.retI_ X36 hx hret hlk (hb hby own_d2_218) (by decide) (by decide) ?_
                    have hr := own_addk (p := p5) (by omega) (by omega) (3 : Int32) (by decide) (by decide)
                    rw [show ((3 : Int32)).toInt = 3 from by decide] at hr
                    have hn := own_n3 (x0 := p1.toInt) (x1 := p2.toInt) (x2 := p3.toInt) (x3 := p4.toInt) (len := p6.toInt - p5.toInt) (by omega)
                    exact ⟨congrArg (fun q => some (Value.int q)) (own_resk (by omega) (by omega)), e36, rfl⟩
                  · refine OwnK.iload X36 hx (hb hby own_d2_204) (pc' := 206) rfl (v := u37) rfl ?_
                    refine OwnK.ldcI X36 hx hZ hown (hw _ (List.mem_of_getElem? (i := 16) rfl)) (hb hby own_d2_206) (pc' := 208) rfl ?_
                    refine OwnK.icmp_gt X36 hx (hb hby own_d2_208) (by decide) (pcT := 213) (by decide) (pc' := 211) rfl (fun (hc41 : 57343 < u37.toInt) => ?_) (fun (hc41 : u37.toInt ≤ 57343) => ?_)
                    · refine OwnK.iload X36 hx (hb hby own_d2_213) (pc' := 215) rfl (v := p5) rfl ?_
                      refine OwnK.iload X36 hx (hb hby own_d2_215) (pc' := 217) rfl (v := (3 : Int32)) rfl ?_
                      refine OwnK.iadd X36 hx (hb hby own_d2_217) (pc' := 218) rfl ?_
                      refine OwnK.retI_ X36 hx hret hlk (hb hby own_d2_218) (by decide) (by decide) ?_
                      have hr := own_addk (p := p5) (by omega) (by omega) (3 : Int32) (by decide) (by decide)
                      rw [show ((3 : Int32)).toInt = 3 from by decide] at hr
                      have hn := own_n3 (x0 := p1.toInt) (x1 := p2.toInt) (x2 := p3.toInt) (x3 := p4.toInt) (len := p6.toInt - p5.toInt) (by omega)
                      exact ⟨congrArg (fun q => some (Value.int q)) (own_resk (by omega) (by omega)), e36, rfl⟩
                    · refine OwnK.iconst X36 hx (hb hby own_d2_211) (pc' := 212) rfl (v := (-1 : Int32)) (by decide) ?_
                      refine OwnK.retI_ X36 hx hret hlk (hb hby own_d2_212) (by decide) (by decide) ?_
                      exact ⟨congrArg (fun q => some (Value.int q)) (own_res0 (own_n0 (by omega) (by omega) (by omega))), e36, rfl⟩
                · refine OwnK.iconst X36 hx (hb hby own_d2_195) (pc' := 196) rfl (v := (-1 : Int32)) (by decide) ?_
                  refine OwnK.retI_ X36 hx hret hlk (hb hby own_d2_196) (by decide) (by decide) ?_
                  exact ⟨congrArg (fun q => some (Value.int q)) (own_res0 (own_n0 (by omega) (by omega) (by omega))), e36, rfl⟩
            · obtain rfl : v36 = some (.int (0 : Int32)) := hv36.trans (by rw [if_neg hc36])
              refine OwnK.if_ne X36 hx (hb hby own_d2_137) (by decide) (pcT := 142) (by decide) (pc' := 140) rfl (fun (hc137 : ¬ 0 = 0) => absurd hc137 (by decide)) (fun hc137 => ?_)
              refine OwnK.iconst X36 hx (hb hby own_d2_140) (pc' := 141) rfl (v := (-1 : Int32)) (by decide) ?_
              refine OwnK.retI_ X36 hx hret hlk (hb hby own_d2_141) (by decide) (by decide) ?_
              exact ⟨congrArg (fun q => some (Value.int q)) (own_res0 (own_n0 (by omega) (by omega) (by omega))), e36, rfl⟩
          · obtain rfl : v34 = some (.int (0 : Int32)) := hv34.trans (by rw [if_neg hc34])
            refine OwnK.if_ne X34 hx (hb hby own_d2_110) (by decide) (pcT := 115) (by decide) (pc' := 113) rfl (fun (hc110 : ¬ 0 = 0) => absurd hc110 (by decide)) (fun hc110 => ?_)
            refine OwnK.iconst X34 hx (hb hby own_d2_113) (pc' := 114) rfl (v := (-1 : Int32)) (by decide) ?_
            refine OwnK.retI_ X34 hx hret hlk (hb hby own_d2_114) (by decide) (by decide) ?_
            exact ⟨congrArg (fun q => some (Value.int q)) (own_res0 (own_n0 (by omega) (by omega) (by omega))), e34, rfl⟩
        · refine OwnK.iconst X0 hx (hb hby own_d2_104) (pc' := 105) rfl (v := (-1 : Int32)) (by decide) ?_
          refine OwnK.retI_ X0 hx hret hlk (hb hby own_d2_105) (by decide) (by decide) ?_
          exact ⟨congrArg (fun q => some (Value.int q)) (own_res0 (own_n0 (by omega) (by omega) (by omega))), e0, rfl⟩
  · refine OwnK.iloadN X0 hx (hb hby own_d2_7) (pc' := 8) rfl (v := p1) rfl ?_
    refine OwnK.sipush X0 hx (hb hby own_d2_8) (pc' := 11) rfl (v := (223 : Int32)) (by decide) ?_
    refine OwnK.icmp_gt X0 hx (hb hby own_d2_11) (by decide) (pcT := 31) (by decide) (pc' := 14) rfl (fun (hc42 : 223 < p1.toInt) => ?_) (fun (hc42 : p1.toInt ≤ 223) => ?_)
    · refine OwnK.iloadN X0 hx (hb hby own_d2_31) (pc' := 32) rfl (v := p1) rfl ?_
      refine OwnK.sipush X0 hx (hb hby own_d2_32) (pc' := 35) rfl (v := (224 : Int32)) (by decide) ?_
      refine OwnK.icmp_lt X0 hx (hb hby own_d2_35) (by decide) (pcT := 62) (by decide) (pc' := 38) rfl (fun (hc43 : p1.toInt < 224) => ?_) (fun (hc43 : 224 ≤ p1.toInt) => ?_)
      · refine OwnK.iloadN X0 hx (hb hby own_d2_62) (pc' := 63) rfl (v := p1) rfl ?_
        refine OwnK.sipush X0 hx (hb hby own_d2_63) (pc' := 66) rfl (v := (240 : Int32)) (by decide) ?_
        refine OwnK.icmp_lt X0 hx (hb hby own_d2_66) (by decide) (pcT := 92) (by decide) (pc' := 69) rfl (fun (hc44 : p1.toInt < 240) => ?_) (fun (hc44 : 240 ≤ p1.toInt) => ?_)
        · refine OwnK.iconst X0 hx (hb hby own_d2_92) (pc' := 93) rfl (v := (-1 : Int32)) (by decide) ?_
          refine OwnK.retI_ X0 hx hret hlk (hb hby own_d2_93) (by decide) (by decide) ?_
          exact ⟨congrArg (fun q => some (Value.int q)) (own_res0 (own_n0 (by omega) (by omega) (by omega))), e0, rfl⟩
        · refine OwnK.iloadN X0 hx (hb hby own_d2_69) (pc' := 70) rfl (v := p1) rfl ?_
          refine OwnK.sipush X0 hx (hb hby own_d2_70) (pc' := 73) rfl (v := (247 : Int32)) (by decide) ?_
          refine OwnK.icmp_gt X0 hx (hb hby own_d2_73) (by decide) (pcT := 92) (by decide) (pc' := 76) rfl (fun (hc45 : 247 < p1.toInt) => ?_) (fun (hc45 : p1.toInt ≤ 247) => ?_)
          · refine OwnK.iconst X0 hx (hb hby own_d2_92) (pc' := 93) rfl (v := (-1 : Int32)) (by decide) ?_
            refine OwnK.retI_ X0 hx hret hlk (hb hby own_d2_93) (by decide) (by decide) ?_
            exact ⟨congrArg (fun q => some (Value.int q)) (own_res0 (own_n0 (by omega) (by omega) (by omega))), e0, rfl⟩
          · refine OwnK.iconst X0 hx (hb hby own_d2_76) (pc' := 77) rfl (v := (4 : Int32)) (by decide) ?_
            refine OwnK.istore X0 hx (hb hby own_d2_77) (pc' := 79) rfl (Ls' := #[.val (.int p1), .val (.int p2), .val (.int p3), .val (.int p4), .val (.int p5), .val (.int p6), .val (.int (4 : Int32)), .unset, .unset]) rfl ?_
            refine OwnK.iloadN X0 hx (hb hby own_d2_79) (pc' := 80) rfl (v := p1) rfl ?_
            refine OwnK.bipush X0 hx (hb hby own_d2_80) (pc' := 82) rfl (v := (7 : Int32)) (by decide) ?_
            refine OwnK.iand X0 hx (hb hby own_d2_82) (pc' := 83) rfl ?_
            refine OwnK.istoreG X0 hx (hb hby own_d2_83) (pc' := 85) rfl (Ls' := fun u => #[.val (.int p1), .val (.int p2), .val (.int p3), .val (.int p4), .val (.int p5), .val (.int p6), .val (.int (4 : Int32)), .val (.int u), .unset]) (fun u => rfl) (fun u46 (hu46 : u46 = (p1 &&& (7 : Int32))) => ?_)
            have i_u46 : u46.toInt = p1.toInt % 8 := by rw [hu46]; exact Jvm.Kit.i32_mask p1 7 (k := 3) (by decide) (by decide)
            refine OwnK.ldcI X0 hx hZ hown (hw _ (List.mem_of_getElem? (i := 15) rfl)) (hb hby own_d2_85) (pc' := 87) rfl ?_
            refine OwnK.istore X0 hx (hb hby own_d2_87) (pc' := 89) rfl (Ls' := #[.val (.int p1), .val (.int p2), .val (.int p3), .val (.int p4), .val (.int p5), .val (.int p6), .val (.int (4 : Int32)), .val (.int u46), .val (.int (65536 : Int32))]) rfl ?_
            refine OwnK.goto_ X0 hx (hb hby own_d2_89) (by decide) (pc' := 94) (by decide) ?_
            refine OwnK.iload X0 hx (hb hby own_d2_94) (pc' := 96) rfl (v := p6) rfl ?_
            refine OwnK.iload X0 hx (hb hby own_d2_96) (pc' := 98) rfl (v := p5) rfl ?_
            refine OwnK.isub X0 hx (hb hby own_d2_98) (pc' := 99) rfl ?_
            refine OwnK.iload X0 hx (hb hby own_d2_99) (pc' := 101) rfl (v := (4 : Int32)) rfl ?_
            refine OwnK.icmp_ge X0 hx (hb hby own_d2_101) (by decide) (pcT := 106) (by decide) (pc' := 104) rfl (fun (hc47 : 4 ≤ (p6 - p5).toInt) => ?_) (fun (hc47 : (p6 - p5).toInt < 4) => ?_)
            · refine OwnK.iloadN X0 hx (hb hby own_d2_106) (pc' := 107) rfl (v := p2) rfl ?_
              refine OwnK.callS_ X0 hx hZ hown (y := (⟨"com/example/entryway/entryway/Utf8SequenceEndPinLaw", "cont", "(I)Z"⟩ : MethodName)) (hw _ (List.mem_of_getElem? (i := 10) rfl)) (hw _ (List.mem_of_getElem? (i := 11) rfl)) (hw _ (List.mem_of_getElem? (i := 8) rfl)) (hw _ (List.mem_of_getElem? (i := 12) rfl)) (by decide) (own_met3 l Z a0 hw h0 p2 hp2 ) (by decide) (W := 0) (by decide) e0 (by rw [hml]; rfl) own_pd_0 (argsL := [(.int p2)]) rfl (S := []) rfl (Nat.le_of_eq rfl) (hb hby own_d2_107) (pc' := 110) rfl (by decide) (by decide) (fun T48 v48 L48 X48 hQ48 => ?_)
              obtain ⟨hv48, e48, rfl⟩ := hQ48
              by_cases hc48 : 128 ≤ p2.toInt ∧ p2.toInt ≤ 191
              · obtain rfl : v48 = some (.int (1 : Int32)) := hv48.trans (by rw [if_pos hc48])
                refine OwnK.if_ne X48 hx (hb hby own_d2_110) (by decide) (pcT := 115) (by decide) (pc' := 113) rfl (fun hc110 => ?_) (fun (hc110 : 1 = 0) => absurd hc110 (by decide))
                refine OwnK.iload X48 hx (hb hby own_d2_115) (pc' := 117) rfl (v := u46) rfl ?_
                refine OwnK.bipush X48 hx (hb hby own_d2_117) (pc' := 119) rfl (v := (6 : Int32)) (by decide) ?_
                refine OwnK.ishl X48 hx (hb hby own_d2_119) (pc' := 120) rfl ?_
                refine OwnK.iloadN X48 hx (hb hby own_d2_120) (pc' := 121) rfl (v := p2) rfl ?_
                refine OwnK.bipush X48 hx (hb hby own_d2_121) (pc' := 123) rfl (v := (63 : Int32)) (by decide) ?_
                refine OwnK.iand X48 hx (hb hby own_d2_123) (pc' := 124) rfl ?_
                refine OwnK.ior X48 hx (hb hby own_d2_124) (pc' := 125) rfl ?_
                refine OwnK.istoreG X48 hx (hb hby own_d2_125) (pc' := 127) rfl (Ls' := fun u => #[.val (.int p1), .val (.int p2), .val (.int p3), .val (.int p4), .val (.int p5), .val (.int p6), .val (.int (4 : Int32)), .val (.int u), .val (.int (65536 : Int32))]) (fun u => rfl) (fun u49 (hu49 : u49 = ((u46 <<< ((6 : Int32) &&& 31)) ||| (p2 &&& (63 : Int32)))) => ?_)
                have i_u49 : u49.toInt = u46.toInt * 64 + p2.toInt % 64 := by rw [hu49]; exact own_cp (by omega) (by omega)
                refine OwnK.iload X48 hx (hb hby own_d2_127) (pc' := 129) rfl (v := (4 : Int32)) rfl ?_
                refine OwnK.iconst X48 hx (hb hby own_d2_129) (pc' := 130) rfl (v := (3 : Int32)) (by decide) ?_
                refine OwnK.icmp_lt X48 hx (hb hby own_d2_130) (by decide) (pcT := 154) (by decide) (pc' := 133) rfl (fun (hc130 : 4 < 3) => absurd hc130 (by decide)) (fun hc130 => ?_)
                refine OwnK.iloadN X48 hx (hb hby own_d2_133) (pc' := 134) rfl (v := p3) rfl ?_
                refine OwnK.callS_ X48 hx hZ hown (y := (⟨"com/example/entryway/entryway/Utf8SequenceEndPinLaw", "cont", "(I)Z"⟩ : MethodName)) (hw _ (List.mem_of_getElem? (i := 10) rfl)) (hw _ (List.mem_of_getElem? (i := 11) rfl)) (hw _ (List.mem_of_getElem? (i := 8) rfl)) (hw _ (List.mem_of_getElem? (i := 12) rfl)) (by decide) (own_met3 l Z a0 hw h0 p3 hp3 ) (by decide) (W := 0) (by decide) e48 (by rw [hml]; rfl) own_pd_0 (argsL := [(.int p3)]) rfl (S := []) rfl (Nat.le_of_eq rfl) (hb hby own_d2_134) (pc' := 137) rfl (by decide) (by decide) (fun T50 v50 L50 X50 hQ50 => ?_)
                obtain ⟨hv50, e50, rfl⟩ := hQ50
                by_cases hc50 : 128 ≤ p3.toInt ∧ p3.toInt ≤ 191
                · obtain rfl : v50 = some (.int (1 : Int32)) := hv50.trans (by rw [if_pos hc50])
                  refine OwnK.if_ne X50 hx (hb hby own_d2_137) (by decide) (pcT := 142) (by decide) (pc' := 140) rfl (fun hc137 => ?_) (fun (hc137 : 1 = 0) => absurd hc137 (by decide))
                  refine OwnK.iload X50 hx (hb hby own_d2_142) (pc' := 144) rfl (v := u49) rfl ?_
                  refine OwnK.bipush X50 hx (hb hby own_d2_144) (pc' := 146) rfl (v := (6 : Int32)) (by decide) ?_
                  refine OwnK.ishl X50 hx (hb hby own_d2_146) (pc' := 147) rfl ?_
                  refine OwnK.iloadN X50 hx (hb hby own_d2_147) (pc' := 148) rfl (v := p3) rfl ?_
                  refine OwnK.bipush X50 hx (hb hby own_d2_148) (pc' := 150) rfl (v := (63 : Int32)) (by decide) ?_
                  refine OwnK.iand X50 hx (hb hby own_d2_150) (pc' := 151) rfl ?_
                  refine OwnK.ior X50 hx (hb hby own_d2_151) (pc' := 152) rfl ?_
                  refine OwnK.istoreG X50 hx (hb hby own_d2_152) (pc' := 154) rfl (Ls' := fun u => #[.val (.int p1), .val (.int p2), .val (.int p3), .val (.int p4), .val (.int p5), .val (.int p6), .val (.int (4 : Int32)), .val (.int u), .val (.int (65536 : Int32))]) (fun u => rfl) (fun u51 (hu51 : u51 = ((u49 <<< ((6 : Int32) &&& 31)) ||| (p3 &&& (63 : Int32)))) => ?_)
                  have i_u51 : u51.toInt = u49.toInt * 64 + p3.toInt % 64 := by rw [hu51]; exact own_cp (by omega) (by omega)
                  refine OwnK.iload X50 hx (hb hby own_d2_154) (pc' := 156) rfl (v := (4 : Int32)) rfl ?_
                  refine OwnK.iconst X50 hx (hb hby own_d2_156) (pc' := 157) rfl (v := (4 : Int32)) (by decide) ?_
                  refine OwnK.icmp_lt X50 hx (hb hby own_d2_157) (by decide) (pcT := 181) (by decide) (pc' := 160) rfl (fun (hc157 : 4 < 4) => absurd hc157 (by decide)) (fun hc157 => ?_)
                  refine OwnK.iloadN X50 hx (hb hby own_d2_160) (pc' := 161) rfl (v := p4) rfl ?_
                  refine OwnK.callS_ X50 hx hZ hown (y := (⟨"com/example/entryway/entryway/Utf8SequenceEndPinLaw", "cont", "(I)Z"⟩ : MethodName)) (hw _ (List.mem_of_getElem? (i := 10) rfl)) (hw _ (List.mem_of_getElem? (i := 11) rfl)) (hw _ (List.mem_of_getElem? (i := 8) rfl)) (hw _ (List.mem_of_getElem? (i := 12) rfl)) (by decide) (own_met3 l Z a0 hw h0 p4 hp4 ) (by decide) (W := 0) (by decide) e50 (by rw [hml]; rfl) own_pd_0 (argsL := [(.int p4)]) rfl (S := []) rfl (Nat.le_of_eq rfl) (hb hby own_d2_161) (pc' := 164) rfl (by decide) (by decide) (fun T52 v52 L52 X52 hQ52 => ?_)
                  obtain ⟨hv52, e52, rfl⟩ := hQ52
                  by_cases hc52 : 128 ≤ p4.toInt ∧ p4.toInt ≤ 191
                  · obtain rfl : v52 = some (.int (1 : Int32)) := hv52.trans (by rw [if_pos hc52])
                    refine OwnK.if_ne X52 hx (hb hby own_d2_164) (by decide) (pcT := 169) (by decide) (pc' := 167) rfl (fun hc164 => ?_) (fun (hc164 : 1 = 0) => absurd hc164 (by decide))
                    refine OwnK.iload X52 hx (hb hby own_d2_169) (pc' := 171) rfl (v := u51) rfl ?_
                    refine OwnK.bipush X52 hx (hb hby own_d2_171) (pc' := 173) rfl (v := (6 : Int32)) (by decide) ?_
                    refine OwnK.ishl X52 hx (hb hby own_d2_173) (pc' := 174) rfl ?_
                    refine OwnK.iloadN X52 hx (hb hby own_d2_174) (pc' := 175) rfl (v := p4) rfl ?_
                    refine OwnK.bipush X52 hx (hb hby own_d2_175) (pc' := 177) rfl (v := (63 : Int32)) (by decide) ?_
                    refine OwnK.iand X52 hx (hb hby own_d2_177) (pc' := 178) rfl ?_
                    refine OwnK.ior X52 hx (hb hby own_d2_178) (pc' := 179) rfl ?_
                    refine OwnK.istoreG X52 hx (hb hby own_d2_179) (pc' := 181) rfl (Ls' := fun u => #[.val (.int p1), .val (.int p2), .val (.int p3), .val (.int p4), .val (.int p5), .val (.int p6), .val (.int (4 : Int32)), .val (.int u), .val (.int (65536 : Int32))]) (fun u => rfl) (fun u53 (hu53 : u53 = ((u51 <<< ((6 : Int32) &&& 31)) ||| (p4 &&& (63 : Int32)))) => ?_)
                    have i_u53 : u53.toInt = u51.toInt * 64 + p4.toInt % 64 := by rw [hu53]; exact own_cp (by omega) (by omega)
                    refine OwnK.iload X52 hx (hb hby own_d2_181) (pc' := 183) rfl (v := u53) rfl ?_
                    refine OwnK.iload X52 hx (hb hby own_d2_183) (pc' := 185) rfl (v := (65536 : Int32)) rfl ?_
                    refine OwnK.icmp_lt X52 hx (hb hby own_d2_185) (by decide) (pcT := 195) (by decide) (pc' := 188) rfl (fun (hc54 : u53.toInt < 65536) => ?_) (fun (hc54 : 65536 ≤ u53.toInt) => ?_)
                    · refine OwnK.iconst X52 hx (hb hby own_d2_195) (pc' := 196) rfl (v := (-1 : Int32)) (by decide) ?_
                      refine OwnK.retI_ X52 hx hret hlk (hb hby own_d2_196) (by decide) (by decide) ?_
                      exact ⟨congrArg (fun q => some (Value.int q)) (own_res0 (own_n0 (by omega) (by omega) (by omega))), e52, rfl⟩
                    · refine OwnK.iload X52 hx (hb hby own_d2_188) (pc' := 190) rfl (v := u53) rfl ?_
                      refine OwnK.ldcI X52 hx hZ hown (hw _ (List.mem_of_getElem? (i := 13) rfl)) (hb hby own_d2_190) (pc' := 192) rfl ?_
                      refine OwnK.icmp_le X52 hx (hb hby own_d2_192) (by decide) (pcT := 197) (by decide) (pc' := 195) rfl (fun (hc55 : u53.toInt ≤ 1114111) => ?_) (fun (hc55 : 1114111 < u53.toInt) => ?_)
                      · refine OwnK.iload X52 hx (hb hby own_d2_197) (pc' := 199) rfl (v := u53) rfl ?_
                        refine OwnK.ldcI X52 hx hZ hown (hw _ (List.mem_of_getElem? (i := 14) rfl)) (hb hby own_d2_199) (pc' := 201) rfl ?_
                        refine OwnK.icmp_lt X52 hx (hb hby own_d2_201) (by decide) (pcT := 213) (by decide) (pc' := 204) rfl (fun (hc56 : u53.toInt < 55296) => ?_) (fun (hc56 : 55296 ≤ u53.toInt) => ?_)
                        · refine OwnK.iload X52 hx (hb hby own_d2_213) (pc' := 215) rfl (v := p5) rfl ?_
                          refine OwnK.iload X52 hx (hb hby own_d2_215) (pc' := 217) rfl (v := (4 : Int32)) rfl ?_
                          refine OwnK.iadd X52 hx (hb hby own_d2_217) (pc' := 218) rfl ?_
                          refine OwnK.retI_ X52 hx hret hlk (hb hby own_d2_218) (by decide) (by decide) ?_
                          have hr := own_addk (p := p5) (by omega) (by omega) (4 : Int32) (by decide) (by decide)
                          rw [show ((4 : Int32)).toInt = 4 from by decide] at hr
                          have hn := own_n4 (x0 := p1.toInt) (x1 := p2.toInt) (x2 := p3.toInt) (x3 := p4.toInt) (len := p6.toInt - p5.toInt) (by omega)
                          exact ⟨congrArg (fun q => some (Value.int q)) (own_resk (by omega) (by omega)), e52, rfl⟩
                        · refine OwnK.iload X52 hx (hb hby own_d2_204) (pc' := 206) rfl (v := u53) rfl ?_
                          refine OwnK.ldcI X52 hx hZ hown (hw _ (List.mem_of_getElem? (i := 16) rfl)) (hb hby own_d2_206) (pc' := 208) rfl ?_
                          refine OwnK.icmp_gt X52 hx (hb hby own_d2_208) (by decide) (pcT := 213) (by decide) (pc' := 211) rfl (fun (hc57 : 57343 < u53.toInt) => ?_) (fun (hc57 : u53.toInt ≤ 57343) => ?_)
                          · refine OwnK.iload X52 hx (hb hby own_d2_213) (pc' := 215) rfl (v := p5) rfl ?_
                            refine OwnK.iload X52 hx (hb hby own_d2_215) (pc' := 217) rfl (v := (4 : Int32)) rfl ?_
                            refine OwnK.iadd X52 hx (hb hby own_d2_217) (pc' := 218) rfl ?_
                            refine OwnK.retI_ X52 hx hret hlk (hb hby own_d2_218) (by decide) (by decide) ?_
                            have hr := own_addk (p := p5) (by omega) (by omega) (4 : Int32) (by decide) (by decide)
                            rw [show ((4 : Int32)).toInt = 4 from by decide] at hr
                            have hn := own_n4 (x0 := p1.toInt) (x1 := p2.toInt) (x2 := p3.toInt) (x3 := p4.toInt) (len := p6.toInt - p5.toInt) (by omega)
                            exact ⟨congrArg (fun q => some (Value.int q)) (own_resk (by omega) (by omega)), e52, rfl⟩
                          · refine OwnK.iconst X52 hx (hb hby own_d2_211) (pc' := 212) rfl (v := (-1 : Int32)) (by decide) ?_
                            refine OwnK.retI_ X52 hx hret hlk (hb hby own_d2_212) (by decide) (by decide) ?_
                            exact ⟨congrArg (fun q => some (Value.int q)) (own_res0 (own_n0 (by omega) (by omega) (by omega))), e52, rfl⟩
                      · refine OwnK.iconst X52 hx (hb hby own_d2_195) (pc' := 196) rfl (v := (-1 : Int32)) (by decide) ?_
                        refine OwnK.retI_ X52 hx hret hlk (hb hby own_d2_196) (by decide) (by decide) ?_
                        exact ⟨congrArg (fun q => some (Value.int q)) (own_res0 (own_n0 (by omega) (by omega) (by omega))), e52, rfl⟩
                  · obtain rfl : v52 = some (.int (0 : Int32)) := hv52.trans (by rw [if_neg hc52])
                    refine OwnK.if_ne X52 hx (hb hby own_d2_164) (by decide) (pcT := 169) (by decide) (pc' := 167) rfl (fun (hc164 : ¬ 0 = 0) => absurd hc164 (by decide)) (fun hc164 => ?_)
                    refine OwnK.iconst X52 hx (hb hby own_d2_167) (pc' := 168) rfl (v := (-1 : Int32)) (by decide) ?_
                    refine OwnK.retI_ X52 hx hret hlk (hb hby own_d2_168) (by decide) (by decide) ?_
                    exact ⟨congrArg (fun q => some (Value.int q)) (own_res0 (own_n0 (by omega) (by omega) (by omega))), e52, rfl⟩
                · obtain rfl : v50 = some (.int (0 : Int32)) := hv50.trans (by rw [if_neg hc50])
                  refine OwnK.if_ne X50 hx (hb hby own_d2_137) (by decide) (pcT := 142) (by decide) (pc' := 140) rfl (fun (hc137 : ¬ 0 = 0) => absurd hc137 (by decide)) (fun hc137 => ?_)
                  refine OwnK.iconst X50 hx (hb hby own_d2_140) (pc' := 141) rfl (v := (-1 : Int32)) (by decide) ?_
                  refine OwnK.retI_ X50 hx hret hlk (hb hby own_d2_141) (by decide) (by decide) ?_
                  exact ⟨congrArg (fun q => some (Value.int q)) (own_res0 (own_n0 (by omega) (by omega) (by omega))), e50, rfl⟩
              · obtain rfl : v48 = some (.int (0 : Int32)) := hv48.trans (by rw [if_neg hc48])
                refine OwnK.if_ne X48 hx (hb hby own_d2_110) (by decide) (pcT := 115) (by decide) (pc' := 113) rfl (fun (hc110 : ¬ 0 = 0) => absurd hc110 (by decide)) (fun hc110 => ?_)
                refine OwnK.iconst X48 hx (hb hby own_d2_113) (pc' := 114) rfl (v := (-1 : Int32)) (by decide) ?_
                refine OwnK.retI_ X48 hx hret hlk (hb hby own_d2_114) (by decide) (by decide) ?_
                exact ⟨congrArg (fun q => some (Value.int q)) (own_res0 (own_n0 (by omega) (by omega) (by omega))), e48, rfl⟩
            · refine OwnK.iconst X0 hx (hb hby own_d2_104) (pc' := 105) rfl (v := (-1 : Int32)) (by decide) ?_
              refine OwnK.retI_ X0 hx hret hlk (hb hby own_d2_105) (by decide) (by decide) ?_
              exact ⟨congrArg (fun q => some (Value.int q)) (own_res0 (own_n0 (by omega) (by omega) (by omega))), e0, rfl⟩
      · refine OwnK.iloadN X0 hx (hb hby own_d2_38) (pc' := 39) rfl (v := p1) rfl ?_
        refine OwnK.sipush X0 hx (hb hby own_d2_39) (pc' := 42) rfl (v := (239 : Int32)) (by decide) ?_
        refine OwnK.icmp_gt X0 hx (hb hby own_d2_42) (by decide) (pcT := 62) (by decide) (pc' := 45) rfl (fun (hc58 : 239 < p1.toInt) => ?_) (fun (hc58 : p1.toInt ≤ 239) => ?_)
        · refine OwnK.iloadN X0 hx (hb hby own_d2_62) (pc' := 63) rfl (v := p1) rfl ?_
          refine OwnK.sipush X0 hx (hb hby own_d2_63) (pc' := 66) rfl (v := (240 : Int32)) (by decide) ?_
          refine OwnK.icmp_lt X0 hx (hb hby own_d2_66) (by decide) (pcT := 92) (by decide) (pc' := 69) rfl (fun (hc59 : p1.toInt < 240) => ?_) (fun (hc59 : 240 ≤ p1.toInt) => ?_)
          · refine OwnK.iconst X0 hx (hb hby own_d2_92) (pc' := 93) rfl (v := (-1 : Int32)) (by decide) ?_
            refine OwnK.retI_ X0 hx hret hlk (hb hby own_d2_93) (by decide) (by decide) ?_
            exact ⟨congrArg (fun q => some (Value.int q)) (own_res0 (own_n0 (by omega) (by omega) (by omega))), e0, rfl⟩
          · refine OwnK.iloadN X0 hx (hb hby own_d2_69) (pc' := 70) rfl (v := p1) rfl ?_
            refine OwnK.sipush X0 hx (hb hby own_d2_70) (pc' := 73) rfl (v := (247 : Int32)) (by decide) ?_
            refine OwnK.icmp_gt X0 hx (hb hby own_d2_73) (by decide) (pcT := 92) (by decide) (pc' := 76) rfl (fun (hc60 : 247 < p1.toInt) => ?_) (fun (hc60 : p1.toInt ≤ 247) => ?_)
            · refine OwnK.iconst X0 hx (hb hby own_d2_92) (pc' := 93) rfl (v := (-1 : Int32)) (by decide) ?_
              refine OwnK.retI_ X0 hx hret hlk (hb hby own_d2_93) (by decide) (by decide) ?_
              exact ⟨congrArg (fun q => some (Value.int q)) (own_res0 (own_n0 (by omega) (by omega) (by omega))), e0, rfl⟩
            · refine OwnK.iconst X0 hx (hb hby own_d2_76) (pc' := 77) rfl (v := (4 : Int32)) (by decide) ?_
              refine OwnK.istore X0 hx (hb hby own_d2_77) (pc' := 79) rfl (Ls' := #[.val (.int p1), .val (.int p2), .val (.int p3), .val (.int p4), .val (.int p5), .val (.int p6), .val (.int (4 : Int32)), .unset, .unset]) rfl ?_
              refine OwnK.iloadN X0 hx (hb hby own_d2_79) (pc' := 80) rfl (v := p1) rfl ?_
              refine OwnK.bipush X0 hx (hb hby own_d2_80) (pc' := 82) rfl (v := (7 : Int32)) (by decide) ?_
              refine OwnK.iand X0 hx (hb hby own_d2_82) (pc' := 83) rfl ?_
              refine OwnK.istoreG X0 hx (hb hby own_d2_83) (pc' := 85) rfl (Ls' := fun u => #[.val (.int p1), .val (.int p2), .val (.int p3), .val (.int p4), .val (.int p5), .val (.int p6), .val (.int (4 : Int32)), .val (.int u), .unset]) (fun u => rfl) (fun u61 (hu61 : u61 = (p1 &&& (7 : Int32))) => ?_)
              have i_u61 : u61.toInt = p1.toInt % 8 := by rw [hu61]; exact Jvm.Kit.i32_mask p1 7 (k := 3) (by decide) (by decide)
              refine OwnK.ldcI X0 hx hZ hown (hw _ (List.mem_of_getElem? (i := 15) rfl)) (hb hby own_d2_85) (pc' := 87) rfl ?_
              refine OwnK.istore X0 hx (hb hby own_d2_87) (pc' := 89) rfl (Ls' := #[.val (.int p1), .val (.int p2), .val (.int p3), .val (.int p4), .val (.int p5), .val (.int p6), .val (.int (4 : Int32)), .val (.int u61), .val (.int (65536 : Int32))]) rfl ?_
              refine OwnK.goto_ X0 hx (hb hby own_d2_89) (by decide) (pc' := 94) (by decide) ?_
              refine OwnK.iload X0 hx (hb hby own_d2_94) (pc' := 96) rfl (v := p6) rfl ?_
              refine OwnK.iload X0 hx (hb hby own_d2_96) (pc' := 98) rfl (v := p5) rfl ?_
              refine OwnK.isub X0 hx (hb hby own_d2_98) (pc' := 99) rfl ?_
              refine OwnK.iload X0 hx (hb hby own_d2_99) (pc' := 101) rfl (v := (4 : Int32)) rfl ?_
              refine OwnK.icmp_ge X0 hx (hb hby own_d2_101) (by decide) (pcT := 106) (by decide) (pc' := 104) rfl (fun (hc62 : 4 ≤ (p6 - p5).toInt) => ?_) (fun (hc62 : (p6 - p5).toInt < 4) => ?_)
              · refine OwnK.iloadN X0 hx (hb hby own_d2_106) (pc' := 107) rfl (v := p2) rfl ?_
                refine OwnK.callS_ X0 hx hZ hown (y := (⟨"com/example/entryway/entryway/Utf8SequenceEndPinLaw", "cont", "(I)Z"⟩ : MethodName)) (hw _ (List.mem_of_getElem? (i := 10) rfl)) (hw _ (List.mem_of_getElem? (i := 11) rfl)) (hw _ (List.mem_of_getElem? (i := 8) rfl)) (hw _ (List.mem_of_getElem? (i := 12) rfl)) (by decide) (own_met3 l Z a0 hw h0 p2 hp2 ) (by decide) (W := 0) (by decide) e0 (by rw [hml]; rfl) own_pd_0 (argsL := [(.int p2)]) rfl (S := []) rfl (Nat.le_of_eq rfl) (hb hby own_d2_107) (pc' := 110) rfl (by decide) (by decide) (fun T63 v63 L63 X63 hQ63 => ?_)
                obtain ⟨hv63, e63, rfl⟩ := hQ63
                by_cases hc63 : 128 ≤ p2.toInt ∧ p2.toInt ≤ 191
                · obtain rfl : v63 = some (.int (1 : Int32)) := hv63.trans (by rw [if_pos hc63])
                  refine OwnK.if_ne X63 hx (hb hby own_d2_110) (by decide) (pcT := 115) (by decide) (pc' := 113) rfl (fun hc110 => ?_) (fun (hc110 : 1 = 0) => absurd hc110 (by decide))
                  refine OwnK.iload X63 hx (hb hby own_d2_115) (pc' := 117) rfl (v := u61) rfl ?_
                  refine OwnK.bipush X63 hx (hb hby own_d2_117) (pc' := 119) rfl (v := (6 : Int32)) (by decide) ?_
                  refine OwnK.ishl X63 hx (hb hby own_d2_119) (pc' := 120) rfl ?_
                  refine OwnK.iloadN X63 hx (hb hby own_d2_120) (pc' := 121) rfl (v := p2) rfl ?_
                  refine OwnK.bipush X63 hx (hb hby own_d2_121) (pc' := 123) rfl (v := (63 : Int32)) (by decide) ?_
                  refine OwnK.iand X63 hx (hb hby own_d2_123) (pc' := 124) rfl ?_
                  refine OwnK.ior X63 hx (hb hby own_d2_124) (pc' := 125) rfl ?_
                  refine OwnK.istoreG X63 hx (hb hby own_d2_125) (pc' := 127) rfl (Ls' := fun u => #[.val (.int p1), .val (.int p2), .val (.int p3), .val (.int p4), .val (.int p5), .val (.int p6), .val (.int (4 : Int32)), .val (.int u), .val (.int (65536 : Int32))]) (fun u => rfl) (fun u64 (hu64 : u64 = ((u61 <<< ((6 : Int32) &&& 31)) ||| (p2 &&& (63 : Int32)))) => ?_)
                  have i_u64 : u64.toInt = u61.toInt * 64 + p2.toInt % 64 := by rw [hu64]; exact own_cp (by omega) (by omega)
                  refine OwnK.iload X63 hx (hb hby own_d2_127) (pc' := 129) rfl (v := (4 : Int32)) rfl ?_
                  refine OwnK.iconst X63 hx (hb hby own_d2_129) (pc' := 130) rfl (v := (3 : Int32)) (by decide) ?_
                  refine OwnK.icmp_lt X63 hx (hb hby own_d2_130) (by decide) (pcT := 154) (by decide) (pc' := 133) rfl (fun (hc130 : 4 < 3) => absurd hc130 (by decide)) (fun hc130 => ?_)
                  refine OwnK.iloadN X63 hx (hb hby own_d2_133) (pc' := 134) rfl (v := p3) rfl ?_
                  refine OwnK.callS_ X63 hx hZ hown (y := (⟨"com/example/entryway/entryway/Utf8SequenceEndPinLaw", "cont", "(I)Z"⟩ : MethodName)) (hw _ (List.mem_of_getElem? (i := 10) rfl)) (hw _ (List.mem_of_getElem? (i := 11) rfl)) (hw _ (List.mem_of_getElem? (i := 8) rfl)) (hw _ (List.mem_of_getElem? (i := 12) rfl)) (by decide) (own_met3 l Z a0 hw h0 p3 hp3 ) (by decide) (W := 0) (by decide) e63 (by rw [hml]; rfl) own_pd_0 (argsL := [(.int p3)]) rfl (S := []) rfl (Nat.le_of_eq rfl) (hb hby own_d2_134) (pc' := 137) rfl (by decide) (by decide) (fun T65 v65 L65 X65 hQ65 => ?_)
                  obtain ⟨hv65, e65, rfl⟩ := hQ65
                  by_cases hc65 : 128 ≤ p3.toInt ∧ p3.toInt ≤ 191
                  · obtain rfl : v65 = some (.int (1 : Int32)) := hv65.trans (by rw [if_pos hc65])
                    refine OwnK.if_ne X65 hx (hb hby own_d2_137) (by decide) (pcT := 142) (by decide) (pc' := 140) rfl (fun hc137 => ?_) (fun (hc137 : 1 = 0) => absurd hc137 (by decide))
                    refine OwnK.iload X65 hx (hb hby own_d2_142) (pc' := 144) rfl (v := u64) rfl ?_
                    refine OwnK.bipush X65 hx (hb hby own_d2_144) (pc' := 146) rfl (v := (6 : Int32)) (by decide) ?_
                    refine OwnK.ishl X65 hx (hb hby own_d2_146) (pc' := 147) rfl ?_
                    refine OwnK.iloadN X65 hx (hb hby own_d2_147) (pc' := 148) rfl (v := p3) rfl ?_
                    refine OwnK.bipush X65 hx (hb hby own_d2_148) (pc' := 150) rfl (v := (63 : Int32)) (by decide) ?_
                    refine OwnK.iand X65 hx (hb hby own_d2_150) (pc' := 151) rfl ?_
                    refine OwnK.ior X65 hx (hb hby own_d2_151) (pc' := 152) rfl ?_
                    refine OwnK.istoreG X65 hx (hb hby own_d2_152) (pc' := 154) rfl (Ls' := fun u => #[.val (.int p1), .val (.int p2), .val (.int p3), .val (.int p4), .val (.int p5), .val (.int p6), .val (.int (4 : Int32)), .val (.int u), .val (.int (65536 : Int32))]) (fun u => rfl) (fun u66 (hu66 : u66 = ((u64 <<< ((6 : Int32) &&& 31)) ||| (p3 &&& (63 : Int32)))) => ?_)
                    have i_u66 : u66.toInt = u64.toInt * 64 + p3.toInt % 64 := by rw [hu66]; exact own_cp (by omega) (by omega)
                    refine OwnK.iload X65 hx (hb hby own_d2_154) (pc' := 156) rfl (v := (4 : Int32)) rfl ?_
                    refine OwnK.iconst X65 hx (hb hby own_d2_156) (pc' := 157) rfl (v := (4 : Int32)) (by decide) ?_
                    refine OwnK.icmp_lt X65 hx (hb hby own_d2_157) (by decide) (pcT := 181) (by decide) (pc' := 160) rfl (fun (hc157 : 4 < 4) => absurd hc157 (by decide)) (fun hc157 => ?_)
                    refine OwnK.iloadN X65 hx (hb hby own_d2_160) (pc' := 161) rfl (v := p4) rfl ?_
                    refine OwnK.callS_ X65 hx hZ hown (y := (⟨"com/example/entryway/entryway/Utf8SequenceEndPinLaw", "cont", "(I)Z"⟩ : MethodName)) (hw _ (List.mem_of_getElem? (i := 10) rfl)) (hw _ (List.mem_of_getElem? (i := 11) rfl)) (hw _ (List.mem_of_getElem? (i := 8) rfl)) (hw _ (List.mem_of_getElem? (i := 12) rfl)) (by decide) (own_met3 l Z a0 hw h0 p4 hp4 ) (by decide) (W := 0) (by decide) e65 (by rw [hml]; rfl) own_pd_0 (argsL := [(.int p4)]) rfl (S := []) rfl (Nat.le_of_eq rfl) (hb hby own_d2_161) (pc' := 164) rfl (by decide) (by decide) (fun T67 v67 L67 X67 hQ67 => ?_)
                    obtain ⟨hv67, e67, rfl⟩ := hQ67
                    by_cases hc67 : 128 ≤ p4.toInt ∧ p4.toInt ≤ 191
                    · obtain rfl : v67 = some (.int (1 : Int32)) := hv67.trans (by rw [if_pos hc67])
                      refine OwnK.if_ne X67 hx (hb hby own_d2_164) (by decide) (pcT := 169) (by decide) (pc' := 167) rfl (fun hc164 => ?_) (fun (hc164 : 1 = 0) => absurd hc164 (by decide))
                      refine OwnK.iload X67 hx (hb hby own_d2_169) (pc' := 171) rfl (v := u66) rfl ?_
                      refine OwnK.bipush X67 hx (hb hby own_d2_171) (pc' := 173) rfl (v := (6 : Int32)) (by decide) ?_
                      refine OwnK.ishl X67 hx (hb hby own_d2_173) (pc' := 174) rfl ?_
                      refine OwnK.iloadN X67 hx (hb hby own_d2_174) (pc' := 175) rfl (v := p4) rfl ?_
                      refine OwnK.bipush X67 hx (hb hby own_d2_175) (pc' := 177) rfl (v := (63 : Int32)) (by decide) ?_
                      refine OwnK.iand X67 hx (hb hby own_d2_177) (pc' := 178) rfl ?_
                      refine OwnK.ior X67 hx (hb hby own_d2_178) (pc' := 179) rfl ?_
                      refine OwnK.istoreG X67 hx (hb hby own_d2_179) (pc' := 181) rfl (Ls' := fun u => #[.val (.int p1), .val (.int p2), .val (.int p3), .val (.int p4), .val (.int p5), .val (.int p6), .val (.int (4 : Int32)), .val (.int u), .val (.int (65536 : Int32))]) (fun u => rfl) (fun u68 (hu68 : u68 = ((u66 <<< ((6 : Int32) &&& 31)) ||| (p4 &&& (63 : Int32)))) => ?_)
                      have i_u68 : u68.toInt = u66.toInt * 64 + p4.toInt % 64 := by rw [hu68]; exact own_cp (by omega) (by omega)
                      refine OwnK.iload X67 hx (hb hby own_d2_181) (pc' := 183) rfl (v := u68) rfl ?_
                      refine OwnK.iload X67 hx (hb hby own_d2_183) (pc' := 185) rfl (v := (65536 : Int32)) rfl ?_
                      refine OwnK.icmp_lt X67 hx (hb hby own_d2_185) (by decide) (pcT := 195) (by decide) (pc' := 188) rfl (fun (hc69 : u68.toInt < 65536) => ?_) (fun (hc69 : 65536 ≤ u68.toInt) => ?_)
                      · refine OwnK.iconst X67 hx (hb hby own_d2_195) (pc' := 196) rfl (v := (-1 : Int32)) (by decide) ?_
                        refine OwnK.retI_ X67 hx hret hlk (hb hby own_d2_196) (by decide) (by decide) ?_
                        exact ⟨congrArg (fun q => some (Value.int q)) (own_res0 (own_n0 (by omega) (by omega) (by omega))), e67, rfl⟩
                      · refine OwnK.iload X67 hx (hb hby own_d2_188) (pc' := 190) rfl (v := u68) rfl ?_
                        refine OwnK.ldcI X67 hx hZ hown (hw _ (List.mem_of_getElem? (i := 13) rfl)) (hb hby own_d2_190) (pc' := 192) rfl ?_
                        refine OwnK.icmp_le X67 hx (hb hby own_d2_192) (by decide) (pcT := 197) (by decide) (pc' := 195) rfl (fun (hc70 : u68.toInt ≤ 1114111) => ?_) (fun (hc70 : 1114111 < u68.toInt) => ?_)
                        · refine OwnK.iload X67 hx (hb hby own_d2_197) (pc' := 199) rfl (v := u68) rfl ?_
                          refine OwnK.ldcI X67 hx hZ hown (hw _ (List.mem_of_getElem? (i := 14) rfl)) (hb hby own_d2_199) (pc' := 201) rfl ?_
                          refine OwnK.icmp_lt X67 hx (hb hby own_d2_201) (by decide) (pcT := 213) (by decide) (pc' := 204) rfl (fun (hc71 : u68.toInt < 55296) => ?_) (fun (hc71 : 55296 ≤ u68.toInt) => ?_)
                          · refine OwnK.iload X67 hx (hb hby own_d2_213) (pc' := 215) rfl (v := p5) rfl ?_
                            refine OwnK.iload X67 hx (hb hby own_d2_215) (pc' := 217) rfl (v := (4 : Int32)) rfl ?_
                            refine OwnK.iadd X67 hx (hb hby own_d2_217) (pc' := 218) rfl ?_
                            refine OwnK.retI_ X67 hx hret hlk (hb hby own_d2_218) (by decide) (by decide) ?_
                            have hr := own_addk (p := p5) (by omega) (by omega) (4 : Int32) (by decide) (by decide)
                            rw [show ((4 : Int32)).toInt = 4 from by decide] at hr
                            have hn := own_n4 (x0 := p1.toInt) (x1 := p2.toInt) (x2 := p3.toInt) (x3 := p4.toInt) (len := p6.toInt - p5.toInt) (by omega)
                            exact ⟨congrArg (fun q => some (Value.int q)) (own_resk (by omega) (by omega)), e67, rfl⟩
                          · refine OwnK.iload X67 hx (hb hby own_d2_204) (pc' := 206) rfl (v := u68) rfl ?_
                            refine OwnK.ldcI X67 hx hZ hown (hw _ (List.mem_of_getElem? (i := 16) rfl)) (hb hby own_d2_206) (pc' := 208) rfl ?_
                            refine OwnK.icmp_gt X67 hx (hb hby own_d2_208) (by decide) (pcT := 213) (by decide) (pc' := 211) rfl (fun (hc72 : 57343 < u68.toInt) => ?_) (fun (hc72 : u68.toInt ≤ 57343) => ?_)
                            · refine OwnK.iload X67 hx (hb hby own_d2_213) (pc' := 215) rfl (v := p5) rfl ?_
                              refine OwnK.iload X67 hx (hb hby own_d2_215) (pc' := 217) rfl (v := (4 : Int32)) rfl ?_
                              refine OwnK.iadd X67 hx (hb hby own_d2_217) (pc' := 218) rfl ?_
                              refine OwnK.retI_ X67 hx hret hlk (hb hby own_d2_218) (by decide) (by decide) ?_
                              have hr := own_addk (p := p5) (by omega) (by omega) (4 : Int32) (by decide) (by decide)
                              rw [show ((4 : Int32)).toInt = 4 from by decide] at hr
                              have hn := own_n4 (x0 := p1.toInt) (x1 := p2.toInt) (x2 := p3.toInt) (x3 := p4.toInt) (len := p6.toInt - p5.toInt) (by omega)
                              exact ⟨congrArg (fun q => some (Value.int q)) (own_resk (by omega) (by omega)), e67, rfl⟩
                            · refine OwnK.iconst X67 hx (hb hby own_d2_211) (pc' := 212) rfl (v := (-1 : Int32)) (by decide) ?_
                              refine OwnK.retI_ X67 hx hret hlk (hb hby own_d2_212) (by decide) (by decide) ?_
                              exact ⟨congrArg (fun q => some (Value.int q)) (own_res0 (own_n0 (by omega) (by omega) (by omega))), e67, rfl⟩
                        · refine OwnK.iconst X67 hx (hb hby own_d2_195) (pc' := 196) rfl (v := (-1 : Int32)) (by decide) ?_
                          refine OwnK.retI_ X67 hx hret hlk (hb hby own_d2_196) (by decide) (by decide) ?_
                          exact ⟨congrArg (fun q => some (Value.int q)) (own_res0 (own_n0 (by omega) (by omega) (by omega))), e67, rfl⟩
                    · obtain rfl : v67 = some (.int (0 : Int32)) := hv67.trans (by rw [if_neg hc67])
                      refine OwnK.if_ne X67 hx (hb hby own_d2_164) (by decide) (pcT := 169) (by decide) (pc' := 167) rfl (fun (hc164 : ¬ 0 = 0) => absurd hc164 (by decide)) (fun hc164 => ?_)
                      refine OwnK.iconst X67 hx (hb hby own_d2_167) (pc' := 168) rfl (v := (-1 : Int32)) (by decide) ?_
                      refine OwnK.retI_ X67 hx hret hlk (hb hby own_d2_168) (by decide) (by decide) ?_
                      exact ⟨congrArg (fun q => some (Value.int q)) (own_res0 (own_n0 (by omega) (by omega) (by omega))), e67, rfl⟩
                  · obtain rfl : v65 = some (.int (0 : Int32)) := hv65.trans (by rw [if_neg hc65])
                    refine OwnK.if_ne X65 hx (hb hby own_d2_137) (by decide) (pcT := 142) (by decide) (pc' := 140) rfl (fun (hc137 : ¬ 0 = 0) => absurd hc137 (by decide)) (fun hc137 => ?_)
                    refine OwnK.iconst X65 hx (hb hby own_d2_140) (pc' := 141) rfl (v := (-1 : Int32)) (by decide) ?_
                    refine OwnK.retI_ X65 hx hret hlk (hb hby own_d2_141) (by decide) (by decide) ?_
                    exact ⟨congrArg (fun q => some (Value.int q)) (own_res0 (own_n0 (by omega) (by omega) (by omega))), e65, rfl⟩
                · obtain rfl : v63 = some (.int (0 : Int32)) := hv63.trans (by rw [if_neg hc63])
                  refine OwnK.if_ne X63 hx (hb hby own_d2_110) (by decide) (pcT := 115) (by decide) (pc' := 113) rfl (fun (hc110 : ¬ 0 = 0) => absurd hc110 (by decide)) (fun hc110 => ?_)
                  refine OwnK.iconst X63 hx (hb hby own_d2_113) (pc' := 114) rfl (v := (-1 : Int32)) (by decide) ?_
                  refine OwnK.retI_ X63 hx hret hlk (hb hby own_d2_114) (by decide) (by decide) ?_
                  exact ⟨congrArg (fun q => some (Value.int q)) (own_res0 (own_n0 (by omega) (by omega) (by omega))), e63, rfl⟩
              · refine OwnK.iconst X0 hx (hb hby own_d2_104) (pc' := 105) rfl (v := (-1 : Int32)) (by decide) ?_
                refine OwnK.retI_ X0 hx hret hlk (hb hby own_d2_105) (by decide) (by decide) ?_
                exact ⟨congrArg (fun q => some (Value.int q)) (own_res0 (own_n0 (by omega) (by omega) (by omega))), e0, rfl⟩
        · refine OwnK.iconst X0 hx (hb hby own_d2_45) (pc' := 46) rfl (v := (3 : Int32)) (by decide) ?_
          refine OwnK.istore X0 hx (hb hby own_d2_46) (pc' := 48) rfl (Ls' := #[.val (.int p1), .val (.int p2), .val (.int p3), .val (.int p4), .val (.int p5), .val (.int p6), .val (.int (3 : Int32)), .unset, .unset]) rfl ?_
          refine OwnK.iloadN X0 hx (hb hby own_d2_48) (pc' := 49) rfl (v := p1) rfl ?_
          refine OwnK.bipush X0 hx (hb hby own_d2_49) (pc' := 51) rfl (v := (15 : Int32)) (by decide) ?_
          refine OwnK.iand X0 hx (hb hby own_d2_51) (pc' := 52) rfl ?_
          refine OwnK.istoreG X0 hx (hb hby own_d2_52) (pc' := 54) rfl (Ls' := fun u => #[.val (.int p1), .val (.int p2), .val (.int p3), .val (.int p4), .val (.int p5), .val (.int p6), .val (.int (3 : Int32)), .val (.int u), .unset]) (fun u => rfl) (fun u73 (hu73 : u73 = (p1 &&& (15 : Int32))) => ?_)
          have i_u73 : u73.toInt = p1.toInt % 16 := by rw [hu73]; exact Jvm.Kit.i32_mask p1 15 (k := 4) (by decide) (by decide)
          refine OwnK.sipush X0 hx (hb hby own_d2_54) (pc' := 57) rfl (v := (2048 : Int32)) (by decide) ?_
          refine OwnK.istore X0 hx (hb hby own_d2_57) (pc' := 59) rfl (Ls' := #[.val (.int p1), .val (.int p2), .val (.int p3), .val (.int p4), .val (.int p5), .val (.int p6), .val (.int (3 : Int32)), .val (.int u73), .val (.int (2048 : Int32))]) rfl ?_
          refine OwnK.goto_ X0 hx (hb hby own_d2_59) (by decide) (pc' := 94) (by decide) ?_
          refine OwnK.iload X0 hx (hb hby own_d2_94) (pc' := 96) rfl (v := p6) rfl ?_
          refine OwnK.iload X0 hx (hb hby own_d2_96) (pc' := 98) rfl (v := p5) rfl ?_
          refine OwnK.isub X0 hx (hb hby own_d2_98) (pc' := 99) rfl ?_
          refine OwnK.iload X0 hx (hb hby own_d2_99) (pc' := 101) rfl (v := (3 : Int32)) rfl ?_
          refine OwnK.icmp_ge X0 hx (hb hby own_d2_101) (by decide) (pcT := 106) (by decide) (pc' := 104) rfl (fun (hc74 : 3 ≤ (p6 - p5).toInt) => ?_) (fun (hc74 : (p6 - p5).toInt < 3) => ?_)
          · refine OwnK.iloadN X0 hx (hb hby own_d2_106) (pc' := 107) rfl (v := p2) rfl ?_
            refine OwnK.callS_ X0 hx hZ hown (y := (⟨"com/example/entryway/entryway/Utf8SequenceEndPinLaw", "cont", "(I)Z"⟩ : MethodName)) (hw _ (List.mem_of_getElem? (i := 10) rfl)) (hw _ (List.mem_of_getElem? (i := 11) rfl)) (hw _ (List.mem_of_getElem? (i := 8) rfl)) (hw _ (List.mem_of_getElem? (i := 12) rfl)) (by decide) (own_met3 l Z a0 hw h0 p2 hp2 ) (by decide) (W := 0) (by decide) e0 (by rw [hml]; rfl) own_pd_0 (argsL := [(.int p2)]) rfl (S := []) rfl (Nat.le_of_eq rfl) (hb hby own_d2_107) (pc' := 110) rfl (by decide) (by decide) (fun T75 v75 L75 X75 hQ75 => ?_)
            obtain ⟨hv75, e75, rfl⟩ := hQ75
            by_cases hc75 : 128 ≤ p2.toInt ∧ p2.toInt ≤ 191
            · obtain rfl : v75 = some (.int (1 : Int32)) := hv75.trans (by rw [if_pos hc75])
              refine OwnK.if_ne X75 hx (hb hby own_d2_110) (by decide) (pcT := 115) (by decide) (pc' := 113) rfl (fun hc110 => ?_) (fun (hc110 : 1 = 0) => absurd hc110 (by decide))
              refine OwnK.iload X75 hx (hb hby own_d2_115) (pc' := 117) rfl (v := u73) rfl ?_
              refine OwnK.bipush X75 hx (hb hby own_d2_117) (pc' := 119) rfl (v := (6 : Int32)) (by decide) ?_
              refine OwnK.ishl X75 hx (hb hby own_d2_119) (pc' := 120) rfl ?_
              refine OwnK.iloadN X75 hx (hb hby own_d2_120) (pc' := 121) rfl (v := p2) rfl ?_
              refine OwnK.bipush X75 hx (hb hby own_d2_121) (pc' := 123) rfl (v := (63 : Int32)) (by decide) ?_
              refine OwnK.iand X75 hx (hb hby own_d2_123) (pc' := 124) rfl ?_
              refine OwnK.ior X75 hx (hb hby own_d2_124) (pc' := 125) rfl ?_
              refine OwnK.istoreG X75 hx (hb hby own_d2_125) (pc' := 127) rfl (Ls' := fun u => #[.val (.int p1), .val (.int p2), .val (.int p3), .val (.int p4), .val (.int p5), .val (.int p6), .val (.int (3 : Int32)), .val (.int u), .val (.int (2048 : Int32))]) (fun u => rfl) (fun u76 (hu76 : u76 = ((u73 <<< ((6 : Int32) &&& 31)) ||| (p2 &&& (63 : Int32)))) => ?_)
              have i_u76 : u76.toInt = u73.toInt * 64 + p2.toInt % 64 := by rw [hu76]; exact own_cp (by omega) (by omega)
              refine OwnK.iload X75 hx (hb hby own_d2_127) (pc' := 129) rfl (v := (3 : Int32)) rfl ?_
              refine OwnK.iconst X75 hx (hb hby own_d2_129) (pc' := 130) rfl (v := (3 : Int32)) (by decide) ?_
              refine OwnK.icmp_lt X75 hx (hb hby own_d2_130) (by decide) (pcT := 154) (by decide) (pc' := 133) rfl (fun (hc130 : 3 < 3) => absurd hc130 (by decide)) (fun hc130 => ?_)
              refine OwnK.iloadN X75 hx (hb hby own_d2_133) (pc' := 134) rfl (v := p3) rfl ?_
              refine OwnK.callS_ X75 hx hZ hown (y := (⟨"com/example/entryway/entryway/Utf8SequenceEndPinLaw", "cont", "(I)Z"⟩ : MethodName)) (hw _ (List.mem_of_getElem? (i := 10) rfl)) (hw _ (List.mem_of_getElem? (i := 11) rfl)) (hw _ (List.mem_of_getElem? (i := 8) rfl)) (hw _ (List.mem_of_getElem? (i := 12) rfl)) (by decide) (own_met3 l Z a0 hw h0 p3 hp3 ) (by decide) (W := 0) (by decide) e75 (by rw [hml]; rfl) own_pd_0 (argsL := [(.int p3)]) rfl (S := []) rfl (Nat.le_of_eq rfl) (hb hby own_d2_134) (pc' := 137) rfl (by decide) (by decide) (fun T77 v77 L77 X77 hQ77 => ?_)
              obtain ⟨hv77, e77, rfl⟩ := hQ77
              by_cases hc77 : 128 ≤ p3.toInt ∧ p3.toInt ≤ 191
              · obtain rfl : v77 = some (.int (1 : Int32)) := hv77.trans (by rw [if_pos hc77])
                refine OwnK.if_ne X77 hx (hb hby own_d2_137) (by decide) (pcT := 142) (by decide) (pc' := 140) rfl (fun hc137 => ?_) (fun (hc137 : 1 = 0) => absurd hc137 (by decide))
                refine OwnK.iload X77 hx (hb hby own_d2_142) (pc' := 144) rfl (v := u76) rfl ?_
                refine OwnK.bipush X77 hx (hb hby own_d2_144) (pc' := 146) rfl (v := (6 : Int32)) (by decide) ?_
                refine OwnK.ishl X77 hx (hb hby own_d2_146) (pc' := 147) rfl ?_
                refine OwnK.iloadN X77 hx (hb hby own_d2_147) (pc' := 148) rfl (v := p3) rfl ?_
                refine OwnK.bipush X77 hx (hb hby own_d2_148) (pc' := 150) rfl (v := (63 : Int32)) (by decide) ?_
                refine OwnK.iand X77 hx (hb hby own_d2_150) (pc' := 151) rfl ?_
                refine OwnK.ior X77 hx (hb hby own_d2_151) (pc' := 152) rfl ?_
                refine OwnK.istoreG X77 hx (hb hby own_d2_152) (pc' := 154) rfl (Ls' := fun u => #[.val (.int p1), .val (.int p2), .val (.int p3), .val (.int p4), .val (.int p5), .val (.int p6), .val (.int (3 : Int32)), .val (.int u), .val (.int (2048 : Int32))]) (fun u => rfl) (fun u78 (hu78 : u78 = ((u76 <<< ((6 : Int32) &&& 31)) ||| (p3 &&& (63 : Int32)))) => ?_)
                have i_u78 : u78.toInt = u76.toInt * 64 + p3.toInt % 64 := by rw [hu78]; exact own_cp (by omega) (by omega)
                refine OwnK.iload X77 hx (hb hby own_d2_154) (pc' := 156) rfl (v := (3 : Int32)) rfl ?_
                refine OwnK.iconst X77 hx (hb hby own_d2_156) (pc' := 157) rfl (v := (4 : Int32)) (by decide) ?_
                refine OwnK.icmp_lt X77 hx (hb hby own_d2_157) (by decide) (pcT := 181) (by decide) (pc' := 160) rfl (fun hc157 => ?_) (fun (hc157 : 4 ≤ 3) => absurd hc157 (by decide))
                refine OwnK.iload X77 hx (hb hby own_d2_181) (pc' := 183) rfl (v := u78) rfl ?_
                refine OwnK.iload X77 hx (hb hby own_d2_183) (pc' := 185) rfl (v := (2048 : Int32)) rfl ?_
                refine OwnK.icmp_lt X77 hx (hb hby own_d2_185) (by decide) (pcT := 195) (by decide) (pc' := 188) rfl (fun (hc79 : u78.toInt < 2048) => ?_) (fun (hc79 : 2048 ≤ u78.toInt) => ?_)
                · refine OwnK.iconst X77 hx (hb hby own_d2_195) (pc' := 196) rfl (v := (-1 : Int32)) (by decide) ?_
                  refine OwnK.retI_ X77 hx hret hlk (hb hby own_d2_196) (by decide) (by decide) ?_
                  exact ⟨congrArg (fun q => some (Value.int q)) (own_res0 (own_n0 (by omega) (by omega) (by omega))), e77, rfl⟩
                · refine OwnK.iload X77 hx (hb hby own_d2_188) (pc' := 190) rfl (v := u78) rfl ?_
                  refine OwnK.ldcI X77 hx hZ hown (hw _ (List.mem_of_getElem? (i := 13) rfl)) (hb hby own_d2_190) (pc' := 192) rfl ?_
                  refine OwnK.icmp_le X77 hx (hb hby own_d2_192) (by decide) (pcT := 197) (by decide) (pc' := 195) rfl (fun (hc80 : u78.toInt ≤ 1114111) => ?_) (fun (hc80 : 1114111 < u78.toInt) => ?_)
                  · refine OwnK.iload X77 hx (hb hby own_d2_197) (pc' := 199) rfl (v := u78) rfl ?_
                    refine OwnK.ldcI X77 hx hZ hown (hw _ (List.mem_of_getElem? (i := 14) rfl)) (hb hby own_d2_199) (pc' := 201) rfl ?_
                    refine OwnK.icmp_lt X77 hx (hb hby own_d2_201) (by decide) (pcT := 213) (by decide) (pc' := 204) rfl (fun (hc81 : u78.toInt < 55296) => ?_) (fun (hc81 : 55296 ≤ u78.toInt) => ?_)
                    · refine OwnK.iload X77 hx (hb hby own_d2_213) (pc' := 215) rfl (v := p5) rfl ?_
                      refine OwnK.iload X77 hx (hb hby own_d2_215) (pc' := 217) rfl (v := (3 : Int32)) rfl ?_
                      refine OwnK.iadd X77 hx (hb hby own_d2_217) (pc' := 218) rfl ?_
                      refine OwnK.retI_ X77 hx hret hlk (hb hby own_d2_218) (by decide) (by decide) ?_
                      have hr := own_addk (p := p5) (by omega) (by omega) (3 : Int32) (by decide) (by decide)
                      rw [show ((3 : Int32)).toInt = 3 from by decide] at hr
                      have hn := own_n3 (x0 := p1.toInt) (x1 := p2.toInt) (x2 := p3.toInt) (x3 := p4.toInt) (len := p6.toInt - p5.toInt) (by omega)
                      exact ⟨congrArg (fun q => some (Value.int q)) (own_resk (by omega) (by omega)), e77, rfl⟩
                    · refine OwnK.iload X77 hx (hb hby own_d2_204) (pc' := 206) rfl (v := u78) rfl ?_
                      refine OwnK.ldcI X77 hx hZ hown (hw _ (List.mem_of_getElem? (i := 16) rfl)) (hb hby own_d2_206) (pc' := 208) rfl ?_
                      refine OwnK.icmp_gt X77 hx (hb hby own_d2_208) (by decide) (pcT := 213) (by decide) (pc' := 211) rfl (fun (hc82 : 57343 < u78.toInt) => ?_) (fun (hc82 : u78.toInt ≤ 57343) => ?_)
                      · refine OwnK.iload X77 hx (hb hby own_d2_213) (pc' := 215) rfl (v := p5) rfl ?_
                        refine OwnK.iload X77 hx (hb hby own_d2_215) (pc' := 217) rfl (v := (3 : Int32)) rfl ?_
                        refine OwnK.iadd X77 hx (hb hby own_d2_217) (pc' := 218) rfl ?_
                        refine OwnK.retI_ X77 hx hret hlk (hb hby own_d2_218) (by decide) (by decide) ?_
                        have hr := own_addk (p := p5) (by omega) (by omega) (3 : Int32) (by decide) (by decide)
                        rw [show ((3 : Int32)).toInt = 3 from by decide] at hr
                        have hn := own_n3 (x0 := p1.toInt) (x1 := p2.toInt) (x2 := p3.toInt) (x3 := p4.toInt) (len := p6.toInt - p5.toInt) (by omega)
                        exact ⟨congrArg (fun q => some (Value.int q)) (own_resk (by omega) (by omega)), e77, rfl⟩
                      · refine OwnK.iconst X77 hx (hb hby own_d2_211) (pc' := 212) rfl (v := (-1 : Int32)) (by decide) ?_
                        refine OwnK.retI_ X77 hx hret hlk (hb hby own_d2_212) (by decide) (by decide) ?_
                        exact ⟨congrArg (fun q => some (Value.int q)) (own_res0 (own_n0 (by omega) (by omega) (by omega))), e77, rfl⟩
                  · refine OwnK.iconst X77 hx (hb hby own_d2_195) (pc' := 196) rfl (v := (-1 : Int32)) (by decide) ?_
                    refine OwnK.retI_ X77 hx hret hlk (hb hby own_d2_196) (by decide) (by decide) ?_
                    exact ⟨congrArg (fun q => some (Value.int q)) (own_res0 (own_n0 (by omega) (by omega) (by omega))), e77, rfl⟩
              · obtain rfl : v77 = some (.int (0 : Int32)) := hv77.trans (by rw [if_neg hc77])
                refine OwnK.if_ne X77 hx (hb hby own_d2_137) (by decide) (pcT := 142) (by decide) (pc' := 140) rfl (fun (hc137 : ¬ 0 = 0) => absurd hc137 (by decide)) (fun hc137 => ?_)
                refine OwnK.iconst X77 hx (hb hby own_d2_140) (pc' := 141) rfl (v := (-1 : Int32)) (by decide) ?_
                refine OwnK.retI_ X77 hx hret hlk (hb hby own_d2_141) (by decide) (by decide) ?_
                exact ⟨congrArg (fun q => some (Value.int q)) (own_res0 (own_n0 (by omega) (by omega) (by omega))), e77, rfl⟩
            · obtain rfl : v75 = some (.int (0 : Int32)) := hv75.trans (by rw [if_neg hc75])
              refine OwnK.if_ne X75 hx (hb hby own_d2_110) (by decide) (pcT := 115) (by decide) (pc' := 113) rfl (fun (hc110 : ¬ 0 = 0) => absurd hc110 (by decide)) (fun hc110 => ?_)
              refine OwnK.iconst X75 hx (hb hby own_d2_113) (pc' := 114) rfl (v := (-1 : Int32)) (by decide) ?_
              refine OwnK.retI_ X75 hx hret hlk (hb hby own_d2_114) (by decide) (by decide) ?_
              exact ⟨congrArg (fun q => some (Value.int q)) (own_res0 (own_n0 (by omega) (by omega) (by omega))), e75, rfl⟩
          · refine OwnK.iconst X0 hx (hb hby own_d2_104) (pc' := 105) rfl (v := (-1 : Int32)) (by decide) ?_
            refine OwnK.retI_ X0 hx hret hlk (hb hby own_d2_105) (by decide) (by decide) ?_
            exact ⟨congrArg (fun q => some (Value.int q)) (own_res0 (own_n0 (by omega) (by omega) (by omega))), e0, rfl⟩
    · refine OwnK.iconst X0 hx (hb hby own_d2_14) (pc' := 15) rfl (v := (2 : Int32)) (by decide) ?_
      refine OwnK.istore X0 hx (hb hby own_d2_15) (pc' := 17) rfl (Ls' := #[.val (.int p1), .val (.int p2), .val (.int p3), .val (.int p4), .val (.int p5), .val (.int p6), .val (.int (2 : Int32)), .unset, .unset]) rfl ?_
      refine OwnK.iloadN X0 hx (hb hby own_d2_17) (pc' := 18) rfl (v := p1) rfl ?_
      refine OwnK.bipush X0 hx (hb hby own_d2_18) (pc' := 20) rfl (v := (31 : Int32)) (by decide) ?_
      refine OwnK.iand X0 hx (hb hby own_d2_20) (pc' := 21) rfl ?_
      refine OwnK.istoreG X0 hx (hb hby own_d2_21) (pc' := 23) rfl (Ls' := fun u => #[.val (.int p1), .val (.int p2), .val (.int p3), .val (.int p4), .val (.int p5), .val (.int p6), .val (.int (2 : Int32)), .val (.int u), .unset]) (fun u => rfl) (fun u83 (hu83 : u83 = (p1 &&& (31 : Int32))) => ?_)
      have i_u83 : u83.toInt = p1.toInt % 32 := by rw [hu83]; exact Jvm.Kit.i32_mask p1 31 (k := 5) (by decide) (by decide)
      refine OwnK.sipush X0 hx (hb hby own_d2_23) (pc' := 26) rfl (v := (128 : Int32)) (by decide) ?_
      refine OwnK.istore X0 hx (hb hby own_d2_26) (pc' := 28) rfl (Ls' := #[.val (.int p1), .val (.int p2), .val (.int p3), .val (.int p4), .val (.int p5), .val (.int p6), .val (.int (2 : Int32)), .val (.int u83), .val (.int (128 : Int32))]) rfl ?_
      refine OwnK.goto_ X0 hx (hb hby own_d2_28) (by decide) (pc' := 94) (by decide) ?_
      refine OwnK.iload X0 hx (hb hby own_d2_94) (pc' := 96) rfl (v := p6) rfl ?_
      refine OwnK.iload X0 hx (hb hby own_d2_96) (pc' := 98) rfl (v := p5) rfl ?_
      refine OwnK.isub X0 hx (hb hby own_d2_98) (pc' := 99) rfl ?_
      refine OwnK.iload X0 hx (hb hby own_d2_99) (pc' := 101) rfl (v := (2 : Int32)) rfl ?_
      refine OwnK.icmp_ge X0 hx (hb hby own_d2_101) (by decide) (pcT := 106) (by decide) (pc' := 104) rfl (fun (hc84 : 2 ≤ (p6 - p5).toInt) => ?_) (fun (hc84 : (p6 - p5).toInt < 2) => ?_)
      · refine OwnK.iloadN X0 hx (hb hby own_d2_106) (pc' := 107) rfl (v := p2) rfl ?_
        refine OwnK.callS_ X0 hx hZ hown (y := (⟨"com/example/entryway/entryway/Utf8SequenceEndPinLaw", "cont", "(I)Z"⟩ : MethodName)) (hw _ (List.mem_of_getElem? (i := 10) rfl)) (hw _ (List.mem_of_getElem? (i := 11) rfl)) (hw _ (List.mem_of_getElem? (i := 8) rfl)) (hw _ (List.mem_of_getElem? (i := 12) rfl)) (by decide) (own_met3 l Z a0 hw h0 p2 hp2 ) (by decide) (W := 0) (by decide) e0 (by rw [hml]; rfl) own_pd_0 (argsL := [(.int p2)]) rfl (S := []) rfl (Nat.le_of_eq rfl) (hb hby own_d2_107) (pc' := 110) rfl (by decide) (by decide) (fun T85 v85 L85 X85 hQ85 => ?_)
        obtain ⟨hv85, e85, rfl⟩ := hQ85
        by_cases hc85 : 128 ≤ p2.toInt ∧ p2.toInt ≤ 191
        · obtain rfl : v85 = some (.int (1 : Int32)) := hv85.trans (by rw [if_pos hc85])
          refine OwnK.if_ne X85 hx (hb hby own_d2_110) (by decide) (pcT := 115) (by decide) (pc' := 113) rfl (fun hc110 => ?_) (fun (hc110 : 1 = 0) => absurd hc110 (by decide))
          refine OwnK.iload X85 hx (hb hby own_d2_115) (pc' := 117) rfl (v := u83) rfl ?_
          refine OwnK.bipush X85 hx (hb hby own_d2_117) (pc' := 119) rfl (v := (6 : Int32)) (by decide) ?_
          refine OwnK.ishl X85 hx (hb hby own_d2_119) (pc' := 120) rfl ?_
          refine OwnK.iloadN X85 hx (hb hby own_d2_120) (pc' := 121) rfl (v := p2) rfl ?_
          refine OwnK.bipush X85 hx (hb hby own_d2_121) (pc' := 123) rfl (v := (63 : Int32)) (by decide) ?_
          refine OwnK.iand X85 hx (hb hby own_d2_123) (pc' := 124) rfl ?_
          refine OwnK.ior X85 hx (hb hby own_d2_124) (pc' := 125) rfl ?_
          refine OwnK.istoreG X85 hx (hb hby own_d2_125) (pc' := 127) rfl (Ls' := fun u => #[.val (.int p1), .val (.int p2), .val (.int p3), .val (.int p4), .val (.int p5), .val (.int p6), .val (.int (2 : Int32)), .val (.int u), .val (.int (128 : Int32))]) (fun u => rfl) (fun u86 (hu86 : u86 = ((u83 <<< ((6 : Int32) &&& 31)) ||| (p2 &&& (63 : Int32)))) => ?_)
          have i_u86 : u86.toInt = u83.toInt * 64 + p2.toInt % 64 := by rw [hu86]; exact own_cp (by omega) (by omega)
          refine OwnK.iload X85 hx (hb hby own_d2_127) (pc' := 129) rfl (v := (2 : Int32)) rfl ?_
          refine OwnK.iconst X85 hx (hb hby own_d2_129) (pc' := 130) rfl (v := (3 : Int32)) (by decide) ?_
          refine OwnK.icmp_lt X85 hx (hb hby own_d2_130) (by decide) (pcT := 154) (by decide) (pc' := 133) rfl (fun hc130 => ?_) (fun (hc130 : 3 ≤ 2) => absurd hc130 (by decide))
          refine OwnK.iload X85 hx (hb hby own_d2_154) (pc' := 156) rfl (v := (2 : Int32)) rfl ?_
          refine OwnK.iconst X85 hx (hb hby own_d2_156) (pc' := 157) rfl (v := (4 : Int32)) (by decide) ?_
          refine OwnK.icmp_lt X85 hx (hb hby own_d2_157) (by decide) (pcT := 181) (by decide) (pc' := 160) rfl (fun hc157 => ?_) (fun (hc157 : 4 ≤ 2) => absurd hc157 (by decide))
          refine OwnK.iload X85 hx (hb hby own_d2_181) (pc' := 183) rfl (v := u86) rfl ?_
          refine OwnK.iload X85 hx (hb hby own_d2_183) (pc' := 185) rfl (v := (128 : Int32)) rfl ?_
          refine OwnK.icmp_lt X85 hx (hb hby own_d2_185) (by decide) (pcT := 195) (by decide) (pc' := 188) rfl (fun (hc87 : u86.toInt < 128) => ?_) (fun (hc87 : 128 ≤ u86.toInt) => ?_)
          · refine OwnK.iconst X85 hx (hb hby own_d2_195) (pc' := 196) rfl (v := (-1 : Int32)) (by decide) ?_
            refine OwnK.retI_ X85 hx hret hlk (hb hby own_d2_196) (by decide) (by decide) ?_
            exact ⟨congrArg (fun q => some (Value.int q)) (own_res0 (own_n0 (by omega) (by omega) (by omega))), e85, rfl⟩
          · refine OwnK.iload X85 hx (hb hby own_d2_188) (pc' := 190) rfl (v := u86) rfl ?_
            refine OwnK.ldcI X85 hx hZ hown (hw _ (List.mem_of_getElem? (i := 13) rfl)) (hb hby own_d2_190) (pc' := 192) rfl ?_
            refine OwnK.icmp_le X85 hx (hb hby own_d2_192) (by decide) (pcT := 197) (by decide) (pc' := 195) rfl (fun (hc88 : u86.toInt ≤ 1114111) => ?_) (fun (hc88 : 1114111 < u86.toInt) => ?_)
            · refine OwnK.iload X85 hx (hb hby own_d2_197) (pc' := 199) rfl (v := u86) rfl ?_
              refine OwnK.ldcI X85 hx hZ hown (hw _ (List.mem_of_getElem? (i := 14) rfl)) (hb hby own_d2_199) (pc' := 201) rfl ?_
              refine OwnK.icmp_lt X85 hx (hb hby own_d2_201) (by decide) (pcT := 213) (by decide) (pc' := 204) rfl (fun (hc89 : u86.toInt < 55296) => ?_) (fun (hc89 : 55296 ≤ u86.toInt) => ?_)
              · refine OwnK.iload X85 hx (hb hby own_d2_213) (pc' := 215) rfl (v := p5) rfl ?_
                refine OwnK.iload X85 hx (hb hby own_d2_215) (pc' := 217) rfl (v := (2 : Int32)) rfl ?_
                refine OwnK.iadd X85 hx (hb hby own_d2_217) (pc' := 218) rfl ?_
                refine OwnK.retI_ X85 hx hret hlk (hb hby own_d2_218) (by decide) (by decide) ?_
                have hr := own_addk (p := p5) (by omega) (by omega) (2 : Int32) (by decide) (by decide)
                rw [show ((2 : Int32)).toInt = 2 from by decide] at hr
                have hn := own_n2 (x0 := p1.toInt) (x1 := p2.toInt) (x2 := p3.toInt) (x3 := p4.toInt) (len := p6.toInt - p5.toInt) (by omega)
                exact ⟨congrArg (fun q => some (Value.int q)) (own_resk (by omega) (by omega)), e85, rfl⟩
              · refine OwnK.iload X85 hx (hb hby own_d2_204) (pc' := 206) rfl (v := u86) rfl ?_
                refine OwnK.ldcI X85 hx hZ hown (hw _ (List.mem_of_getElem? (i := 16) rfl)) (hb hby own_d2_206) (pc' := 208) rfl ?_
                refine OwnK.icmp_gt X85 hx (hb hby own_d2_208) (by decide) (pcT := 213) (by decide) (pc' := 211) rfl (fun (hc90 : 57343 < u86.toInt) => ?_) (fun (hc90 : u86.toInt ≤ 57343) => ?_)
                · refine OwnK.iload X85 hx (hb hby own_d2_213) (pc' := 215) rfl (v := p5) rfl ?_
                  refine OwnK.iload X85 hx (hb hby own_d2_215) (pc' := 217) rfl (v := (2 : Int32)) rfl ?_
                  refine OwnK.iadd X85 hx (hb hby own_d2_217) (pc' := 218) rfl ?_
                  refine OwnK.retI_ X85 hx hret hlk (hb hby own_d2_218) (by decide) (by decide) ?_
                  have hr := own_addk (p := p5) (by omega) (by omega) (2 : Int32) (by decide) (by decide)
                  rw [show ((2 : Int32)).toInt = 2 from by decide] at hr
                  have hn := own_n2 (x0 := p1.toInt) (x1 := p2.toInt) (x2 := p3.toInt) (x3 := p4.toInt) (len := p6.toInt - p5.toInt) (by omega)
                  exact ⟨congrArg (fun q => some (Value.int q)) (own_resk (by omega) (by omega)), e85, rfl⟩
                · refine OwnK.iconst X85 hx (hb hby own_d2_211) (pc' := 212) rfl (v := (-1 : Int32)) (by decide) ?_
                  refine OwnK.retI_ X85 hx hret hlk (hb hby own_d2_212) (by decide) (by decide) ?_
                  exact ⟨congrArg (fun q => some (Value.int q)) (own_res0 (own_n0 (by omega) (by omega) (by omega))), e85, rfl⟩
            · refine OwnK.iconst X85 hx (hb hby own_d2_195) (pc' := 196) rfl (v := (-1 : Int32)) (by decide) ?_
              refine OwnK.retI_ X85 hx hret hlk (hb hby own_d2_196) (by decide) (by decide) ?_
              exact ⟨congrArg (fun q => some (Value.int q)) (own_res0 (own_n0 (by omega) (by omega) (by omega))), e85, rfl⟩
        · obtain rfl : v85 = some (.int (0 : Int32)) := hv85.trans (by rw [if_neg hc85])
          refine OwnK.if_ne X85 hx (hb hby own_d2_110) (by decide) (pcT := 115) (by decide) (pc' := 113) rfl (fun (hc110 : ¬ 0 = 0) => absurd hc110 (by decide)) (fun hc110 => ?_)
          refine OwnK.iconst X85 hx (hb hby own_d2_113) (pc' := 114) rfl (v := (-1 : Int32)) (by decide) ?_
          refine OwnK.retI_ X85 hx hret hlk (hb hby own_d2_114) (by decide) (by decide) ?_
          exact ⟨congrArg (fun q => some (Value.int q)) (own_res0 (own_n0 (by omega) (by omega) (by omega))), e85, rfl⟩
      · refine OwnK.iconst X0 hx (hb hby own_d2_104) (pc' := 105) rfl (v := (-1 : Int32)) (by decide) ?_
        refine OwnK.retI_ X0 hx hret hlk (hb hby own_d2_105) (by decide) (by decide) ?_
        exact ⟨congrArg (fun q => some (Value.int q)) (own_res0 (own_n0 (by omega) (by omega) (by omega))), e0, rfl⟩
set_option maxRecDepth 65536 in
set_option maxHeartbeats 40000000 in
theorem own_law (l : Launch) (Z : State) (a0 : Array Value) (hw : ∀ d ∈ tables_1, d.before a0 Z = true) (ws : List Jvm.Cond) (h0 : Heap) (n0 : Nat) (Z0 : n0 ≤ h0.size) (p0 : Int32) (p1 : Int32) (p2 : Int32) (p3 : Int32) (p4 : Int32) (p5 : Int32)  :
    MetFree l x (head1 (Jvm.Cond.code x code maxLocals ret :: ws) room_1) (fun a U => a = #[(.int p0), (.int p1), (.int p2), (.int p3), (.int p4), (.int p5)] ∧ Z.Warmed39 U.vm ∧ U.heap = h0) (fun _ _ _ _ _ => True) (fun _ U o U' => ∃ v L, o = .returned v ∧ (fun (v : Option Value) (_ : Heap) (L : List Loc) => v = some (.int (1 : Int32)) ∧ Fr n0 L) v U'.heap L ∧ FrameEnd U o U' L 1 5) := by
  refine OwnK.met (Q := (fun (v : Option Value) (_ : Heap) (L : List Loc) => v = some (.int (1 : Int32)) ∧ Fr n0 L)) (C := 1) (N := 5) own_pl_0 (own_ef_0 p0 p1 p2 p3 p4 p5) ?_
  intro p e s m below meth c T0 X0 hx hZ hby hml hown hnm hret hlk e0
  have N0 := Fr.nil n0
  refine OwnK.iload X0 hx (hb hby at_0) (pc' := 2) rfl (v := p5) rfl ?_
  refine OwnK.iconst X0 hx (hb hby at_2) (pc' := 3) rfl (v := (1 : Int32)) (by decide) ?_
  refine OwnK.iand X0 hx (hb hby at_3) (pc' := 4) rfl ?_
  refine OwnK.istoreG X0 hx (hb hby at_4) (pc' := 6) rfl (Ls' := fun u => #[.val (.int p0), .val (.int p1), .val (.int p2), .val (.int p3), .val (.int p4), .val (.int p5), .val (.int u), .unset, .unset, .unset, .unset]) (fun u => rfl) (fun u1 (hu1 : u1 = (p5 &&& (1 : Int32))) => ?_)
  have m1 := own_m1 p5
  rw [← hu1] at m1
  rcases m1 with rfl | rfl
  · refine OwnK.iload X0 hx (hb hby at_6) (pc' := 8) rfl (v := p5) rfl ?_
    refine OwnK.iconst X0 hx (hb hby at_8) (pc' := 9) rfl (v := (1 : Int32)) (by decide) ?_
    refine OwnK.iushr X0 hx (hb hby at_9) (pc' := 10) rfl ?_
    refine OwnK.ldcI X0 hx hZ hown (hw _ (List.mem_of_getElem? (i := 0) rfl)) (hb hby at_10) (pc' := 12) rfl ?_
    refine OwnK.iand X0 hx (hb hby at_12) (pc' := 13) rfl ?_
    refine OwnK.bipush X0 hx (hb hby at_13) (pc' := 15) rfl (v := (6 : Int32)) (by decide) ?_
    refine OwnK.iload X0 hx (hb hby at_15) (pc' := 17) rfl (v := (0 : Int32)) rfl ?_
    refine OwnK.isubL X0 hx (hb hby at_17) (pc' := 18) rfl (z := (6 : Int32)) (by decide) ?_
    refine OwnK.irem X0 hx (hb hby at_18) (pc' := 19) rfl (by decide) ?_
    refine OwnK.istoreG X0 hx (hb hby at_19) (pc' := 21) rfl (Ls' := fun u => #[.val (.int p0), .val (.int p1), .val (.int p2), .val (.int p3), .val (.int p4), .val (.int p5), .val (.int (0 : Int32)), .val (.int u), .unset, .unset, .unset]) (fun u => rfl) (fun u2 (hu2 : u2 = (((XT.ushr p5 (1 : Int32)) &&& (65535 : Int32)) % (6 : Int32))) => ?_)
    have hl := own_l0 hu2
    refine OwnK.iload X0 hx (hb hby at_21) (pc' := 23) rfl (v := (0 : Int32)) rfl ?_
    refine OwnK.iload X0 hx (hb hby at_23) (pc' := 25) rfl (v := u2) rfl ?_
    refine OwnK.iadd X0 hx (hb hby at_25) (pc' := 26) rfl ?_
    refine OwnK.istoreG X0 hx (hb hby at_26) (pc' := 28) rfl (Ls' := fun u => #[.val (.int p0), .val (.int p1), .val (.int p2), .val (.int p3), .val (.int p4), .val (.int p5), .val (.int (0 : Int32)), .val (.int u2), .val (.int u), .unset, .unset]) (fun u => rfl) (fun u3 (hu3 : u3 = ((0 : Int32) + u2)) => ?_)
    have he : ((0 : Int32)).toInt ≤ u3.toInt ∧ u3.toInt ≤ 5 := by rw [hu3]; exact own_e0 hl
    refine OwnK.iconst X0 hx (hb hby at_28) (pc' := 29) rfl (v := (5 : Int32)) (by decide) ?_
    refine OwnK.newP_ X0 hx hZ (hw _ (List.mem_of_getElem? (i := 1) rfl)) e0 (hb hby at_29) (pc' := 31) rfl (n := (5 : Int32)) (by decide) (cap := 5) (by decide) (by decide) (by decide) (by decide) (ad := "[B") (by decide) (fun T4 h4 a4 k4 X4 e4 g4 E4 V4 Q4 => ?_)
    have ge_a4 : n0 ≤ a4 := Nat.le_trans Z0 (Nat.le_of_eq g4.symm)
    have z5 : n0 ≤ h4.size := Nat.le_trans Z0 E4.1
    have f6 : Arv Z h4 a4 k4 .byte (5 : Int32) [(.int (0 : Int32)), (.int (0 : Int32)), (.int (0 : Int32)), (.int (0 : Int32)), (.int (0 : Int32))] (.int (0 : Int32)) := V4.pad (pad_rep [] (.int (0 : Int32)) 5)
    refine OwnK.astore X4 hx (hb hby at_31) (pc' := 33) rfl rfl (Ls' := #[.val (.int p0), .val (.int p1), .val (.int p2), .val (.int p3), .val (.int p4), .val (.int p5), .val (.int (0 : Int32)), .val (.int u2), .val (.int u3), .val (.ref a4), .unset]) rfl ?_
    refine OwnK.aload X4 hx (hb hby at_33) (pc' := 35) rfl (v := (.ref a4)) rfl rfl ?_
    refine OwnK.iconst X4 hx (hb hby at_35) (pc' := 36) rfl (v := (0 : Int32)) (by decide) ?_
    refine OwnK.iload X4 hx (hb hby at_36) (pc' := 38) rfl (v := p4) rfl ?_
    refine OwnK.i2b X4 hx (hb hby at_38) (pc' := 39) rfl ?_
    refine OwnK.bastore X4 hx hZ e4 f6 (i := 0) (by decide) (by first | decide | omega) (Nat.le_of_ble_eq_true rfl) (hb hby at_39) (pc' := 40) rfl (fun T7 h7 X7 e7 W7 V7 => ?_)
    have f8 := Q4.wr W7
    have f9 : Arv Z h7 a4 _ .byte (5 : Int32) [(.int (p4.toInt8.toInt32)), (.int (0 : Int32)), (.int (0 : Int32)), (.int (0 : Int32)), (.int (0 : Int32))] (.int (0 : Int32)) := (by have q := V7; rw [own_narb] at q; exact q)
    have N10 := Fr.snoc X7 N0 ge_a4
    have z11 : n0 ≤ h7.size := Nat.le_trans z5 (Keep.of_wr W7).1
    refine OwnK.aload X7 hx (hb hby at_40) (pc' := 42) rfl (v := (.ref a4)) rfl rfl ?_
    refine OwnK.iconst X7 hx (hb hby at_42) (pc' := 43) rfl (v := (4 : Int32)) (by decide) ?_
    refine OwnK.iload X7 hx (hb hby at_43) (pc' := 45) rfl (v := p4) rfl ?_
    refine OwnK.i2b X7 hx (hb hby at_45) (pc' := 46) rfl ?_
    refine OwnK.bastore X7 hx hZ e7 f9 (i := 4) (by decide) (by first | decide | omega) (Nat.le_of_ble_eq_true rfl) (hb hby at_46) (pc' := 47) rfl (fun T12 h12 X12 e12 W12 V12 => ?_)
    have f13 := f8.wr W12
    have f14 : Arv Z h12 a4 _ .byte (5 : Int32) [(.int (p4.toInt8.toInt32)), (.int (0 : Int32)), (.int (0 : Int32)), (.int (0 : Int32)), (.int (p4.toInt8.toInt32))] (.int (0 : Int32)) := (by have q := V12; rw [own_narb] at q; exact q)
    have N15 := Fr.snoc X12 N10 ge_a4
    have z16 : n0 ≤ h12.size := Nat.le_trans z11 (Keep.of_wr W12).1
    refine OwnK.aload X12 hx (hb hby at_47) (pc' := 49) rfl (v := (.ref a4)) rfl rfl ?_
    refine OwnK.iload X12 hx (hb hby at_49) (pc' := 51) rfl (v := (0 : Int32)) rfl ?_
    refine OwnK.iloadN X12 hx (hb hby at_51) (pc' := 52) rfl (v := p0) rfl ?_
    refine OwnK.sipush X12 hx (hb hby at_52) (pc' := 55) rfl (v := (128 : Int32)) (by decide) ?_
    refine OwnK.ior X12 hx (hb hby at_55) (pc' := 56) rfl ?_
    refine OwnK.i2b X12 hx (hb hby at_56) (pc' := 57) rfl ?_
    refine OwnK.bastore X12 hx hZ e12 f14 (i := 0) (by decide) (by first | decide | omega) (Nat.le_of_ble_eq_true rfl) (hb hby at_57) (pc' := 58) rfl (fun T17 h17 X17 e17 W17 V17 => ?_)
    have f18 := f13.wr W17
    have f19 : Arv Z h17 a4 _ .byte (5 : Int32) [(.int ((p0 ||| (128 : Int32)).toInt8.toInt32)), (.int (0 : Int32)), (.int (0 : Int32)), (.int (0 : Int32)), (.int (p4.toInt8.toInt32))] (.int (0 : Int32)) := (by have q := V17; rw [own_narb] at q; exact q)
    have N20 := Fr.snoc X17 N15 ge_a4
    have z21 : n0 ≤ h17.size := Nat.le_trans z16 (Keep.of_wr W17).1
    refine OwnK.aload X17 hx (hb hby at_58) (pc' := 60) rfl (v := (.ref a4)) rfl rfl ?_
    refine OwnK.iload X17 hx (hb hby at_60) (pc' := 62) rfl (v := (0 : Int32)) rfl ?_
    refine OwnK.iconst X17 hx (hb hby at_62) (pc' := 63) rfl (v := (1 : Int32)) (by decide) ?_
    refine OwnK.iaddL X17 hx (hb hby at_63) (pc' := 64) rfl (z := (1 : Int32)) (by decide) ?_
    refine OwnK.iloadN X17 hx (hb hby at_64) (pc' := 65) rfl (v := p1) rfl ?_
    refine OwnK.i2b X17 hx (hb hby at_65) (pc' := 66) rfl ?_
    refine OwnK.bastore X17 hx hZ e17 f19 (i := 1) (by decide) (by first | decide | omega) (Nat.le_of_ble_eq_true rfl) (hb hby at_66) (pc' := 67) rfl (fun T22 h22 X22 e22 W22 V22 => ?_)
    have f23 := f18.wr W22
    have f24 : Arv Z h22 a4 _ .byte (5 : Int32) [(.int ((p0 ||| (128 : Int32)).toInt8.toInt32)), (.int (p1.toInt8.toInt32)), (.int (0 : Int32)), (.int (0 : Int32)), (.int (p4.toInt8.toInt32))] (.int (0 : Int32)) := (by have q := V22; rw [own_narb] at q; exact q)
    have N25 := Fr.snoc X22 N20 ge_a4
    have z26 : n0 ≤ h22.size := Nat.le_trans z21 (Keep.of_wr W22).1
    refine OwnK.aload X22 hx (hb hby at_67) (pc' := 69) rfl (v := (.ref a4)) rfl rfl ?_
    refine OwnK.iload X22 hx (hb hby at_69) (pc' := 71) rfl (v := (0 : Int32)) rfl ?_
    refine OwnK.iconst X22 hx (hb hby at_71) (pc' := 72) rfl (v := (2 : Int32)) (by decide) ?_
    refine OwnK.iaddL X22 hx (hb hby at_72) (pc' := 73) rfl (z := (2 : Int32)) (by decide) ?_
    refine OwnK.iloadN X22 hx (hb hby at_73) (pc' := 74) rfl (v := p2) rfl ?_
    refine OwnK.i2b X22 hx (hb hby at_74) (pc' := 75) rfl ?_
    refine OwnK.bastore X22 hx hZ e22 f24 (i := 2) (by decide) (by first | decide | omega) (Nat.le_of_ble_eq_true rfl) (hb hby at_75) (pc' := 76) rfl (fun T27 h27 X27 e27 W27 V27 => ?_)
    have f28 := f23.wr W27
    have f29 : Arv Z h27 a4 _ .byte (5 : Int32) [(.int ((p0 ||| (128 : Int32)).toInt8.toInt32)), (.int (p1.toInt8.toInt32)), (.int (p2.toInt8.toInt32)), (.int (0 : Int32)), (.int (p4.toInt8.toInt32))] (.int (0 : Int32)) := (by have q := V27; rw [own_narb] at q; exact q)
    have N30 := Fr.snoc X27 N25 ge_a4
    have z31 : n0 ≤ h27.size := Nat.le_trans z26 (Keep.of_wr W27).1
    refine OwnK.aload X27 hx (hb hby at_76) (pc' := 78) rfl (v := (.ref a4)) rfl rfl ?_
    refine OwnK.iload X27 hx (hb hby at_78) (pc' := 80) rfl (v := (0 : Int32)) rfl ?_
    refine OwnK.iconst X27 hx (hb hby at_80) (pc' := 81) rfl (v := (3 : Int32)) (by decide) ?_
    refine OwnK.iaddL X27 hx (hb hby at_81) (pc' := 82) rfl (z := (3 : Int32)) (by decide) ?_
    refine OwnK.iloadN X27 hx (hb hby at_82) (pc' := 83) rfl (v := p3) rfl ?_
    refine OwnK.i2b X27 hx (hb hby at_83) (pc' := 84) rfl ?_
    refine OwnK.bastore X27 hx hZ e27 f29 (i := 3) (by decide) (by first | decide | omega) (Nat.le_of_ble_eq_true rfl) (hb hby at_84) (pc' := 85) rfl (fun T32 h32 X32 e32 W32 V32 => ?_)
    have f33 := f28.wr W32
    have f34 : Arv Z h32 a4 _ .byte (5 : Int32) [(.int ((p0 ||| (128 : Int32)).toInt8.toInt32)), (.int (p1.toInt8.toInt32)), (.int (p2.toInt8.toInt32)), (.int (p3.toInt8.toInt32)), (.int (p4.toInt8.toInt32))] (.int (0 : Int32)) := (by have q := V32; rw [own_narb] at q; exact q)
    have N35 := Fr.snoc X32 N30 ge_a4
    have z36 : n0 ≤ h32.size := Nat.le_trans z31 (Keep.of_wr W32).1
    refine OwnK.aload X32 hx (hb hby at_85) (pc' := 87) rfl (v := (.ref a4)) rfl rfl ?_
    refine OwnK.iload X32 hx (hb hby at_87) (pc' := 89) rfl (v := (0 : Int32)) rfl ?_
    refine OwnK.iload X32 hx (hb hby at_89) (pc' := 91) rfl (v := u3) rfl ?_
    refine OwnK.callS_ X32 hx hZ hown (y := (⟨"com/example/entryway/entryway/Utf8", "sequenceEnd", "([BII)I"⟩ : MethodName)) (hw _ (List.mem_of_getElem? (i := 2) rfl)) (hw _ (List.mem_of_getElem? (i := 3) rfl)) (hw _ (List.mem_of_getElem? (i := 4) rfl)) (hw _ (List.mem_of_getElem? (i := 5) rfl)) (by decide) (own_met1 l Z a0 hw h32 a4 (0 : Int32) u3 _ _ 0 ((p0 ||| (128 : Int32)).toInt8.toInt32) (p1.toInt8.toInt32) (p2.toInt8.toInt32) (p3.toInt8.toInt32) f34 (by decide) (by decide) he rfl rfl rfl rfl ) (by decide) (W := 0) (by decide) e32 (by rw [hml]; rfl) own_pd_2 (argsL := [(.ref a4), (.int (0 : Int32)), (.int u3)]) rfl (S := []) rfl (Nat.le_of_eq rfl) (hb hby at_91) (pc' := 94) rfl (by decide) (by decide) (fun T37 v37 L37 X37 hQ37 => ?_)
    obtain ⟨hv37, e37, rfl⟩ := hQ37
    have N38 := Fr.app N35 (Fr.nil n0)
    rw [own_b255 (p0 ||| (128 : Int32)), own_b255 p1, own_b255 p2, own_b255 p3] at hv37
    subst hv37
    refine OwnK.istore X37 hx (hb hby at_94) (pc' := 96) rfl (Ls' := #[.val (.int p0), .val (.int p1), .val (.int p2), .val (.int p3), .val (.int p4), .val (.int p5), .val (.int (0 : Int32)), .val (.int u2), .val (.int u3), .val (.ref a4), .val (.int (own_res (0 : Int32).toInt (own_n ((p0 ||| (128 : Int32)) &&& (255 : Int32)).toInt (p1 &&& (255 : Int32)).toInt (p2 &&& (255 : Int32)).toInt (p3 &&& (255 : Int32)).toInt (u3.toInt - (0 : Int32).toInt))))]) rfl ?_
    refine OwnK.iload X37 hx (hb hby at_96) (pc' := 98) rfl (v := (own_res (0 : Int32).toInt (own_n ((p0 ||| (128 : Int32)) &&& (255 : Int32)).toInt (p1 &&& (255 : Int32)).toInt (p2 &&& (255 : Int32)).toInt (p3 &&& (255 : Int32)).toInt (u3.toInt - (0 : Int32).toInt)))) rfl ?_
    refine OwnK.iloadN X37 hx (hb hby at_98) (pc' := 99) rfl (v := p0) rfl ?_
    refine OwnK.sipush X37 hx (hb hby at_99) (pc' := 102) rfl (v := (128 : Int32)) (by decide) ?_
    refine OwnK.ior X37 hx (hb hby at_102) (pc' := 103) rfl ?_
    refine OwnK.sipush X37 hx (hb hby at_103) (pc' := 106) rfl (v := (255 : Int32)) (by decide) ?_
    refine OwnK.iand X37 hx (hb hby at_106) (pc' := 107) rfl ?_
    refine OwnK.iloadN X37 hx (hb hby at_107) (pc' := 108) rfl (v := p1) rfl ?_
    refine OwnK.sipush X37 hx (hb hby at_108) (pc' := 111) rfl (v := (255 : Int32)) (by decide) ?_
    refine OwnK.iand X37 hx (hb hby at_111) (pc' := 112) rfl ?_
    refine OwnK.iloadN X37 hx (hb hby at_112) (pc' := 113) rfl (v := p2) rfl ?_
    refine OwnK.sipush X37 hx (hb hby at_113) (pc' := 116) rfl (v := (255 : Int32)) (by decide) ?_
    refine OwnK.iand X37 hx (hb hby at_116) (pc' := 117) rfl ?_
    refine OwnK.iloadN X37 hx (hb hby at_117) (pc' := 118) rfl (v := p3) rfl ?_
    refine OwnK.sipush X37 hx (hb hby at_118) (pc' := 121) rfl (v := (255 : Int32)) (by decide) ?_
    refine OwnK.iand X37 hx (hb hby at_121) (pc' := 122) rfl ?_
    refine OwnK.iload X37 hx (hb hby at_122) (pc' := 124) rfl (v := (0 : Int32)) rfl ?_
    refine OwnK.iload X37 hx (hb hby at_124) (pc' := 126) rfl (v := u3) rfl ?_
    refine OwnK.callS_ X37 hx hZ hown (y := (⟨"com/example/entryway/entryway/Utf8SequenceEndPinLaw", "expected", "(IIIIII)I"⟩ : MethodName)) (hw _ (List.mem_of_getElem? (i := 6) rfl)) (hw _ (List.mem_of_getElem? (i := 7) rfl)) (hw _ (List.mem_of_getElem? (i := 8) rfl)) (hw _ (List.mem_of_getElem? (i := 9) rfl)) (by decide) (own_met2 l Z a0 hw h32 ((p0 ||| (128 : Int32)) &&& (255 : Int32)) (p1 &&& (255 : Int32)) (p2 &&& (255 : Int32)) (p3 &&& (255 : Int32)) (0 : Int32) u3 (own_m255 _) (own_m255 _) (own_m255 _) (own_m255 _) (by decide) he ) (by decide) (W := 1) (by decide) e37 (by rw [hml]; rfl) own_pd_1 (argsL := [(.int ((p0 ||| (128 : Int32)) &&& (255 : Int32))), (.int (p1 &&& (255 : Int32))), (.int (p2 &&& (255 : Int32))), (.int (p3 &&& (255 : Int32))), (.int (0 : Int32)), (.int u3)]) rfl (S := [(.int (own_res (0 : Int32).toInt (own_n ((p0 ||| (128 : Int32)) &&& (255 : Int32)).toInt (p1 &&& (255 : Int32)).toInt (p2 &&& (255 : Int32)).toInt (p3 &&& (255 : Int32)).toInt (u3.toInt - (0 : Int32).toInt))))]) rfl (Nat.le_of_eq rfl) (hb hby at_126) (pc' := 129) rfl (by decide) (by decide) (fun T39 v39 L39 X39 hQ39 => ?_)
    obtain ⟨rfl, e39, rfl⟩ := hQ39
    have N40 := Fr.app N38 (Fr.nil n0)
    refine OwnK.icmp_ne X39 hx (hb hby at_129) (by decide) (pcT := 136) (by decide) (pc' := 132) rfl (fun (hc129 : ¬ (own_res (0 : Int32).toInt (own_n ((p0 ||| (128 : Int32)) &&& (255 : Int32)).toInt (p1 &&& (255 : Int32)).toInt (p2 &&& (255 : Int32)).toInt (p3 &&& (255 : Int32)).toInt (u3.toInt - (0 : Int32).toInt))).toInt = (own_res (0 : Int32).toInt (own_n ((p0 ||| (128 : Int32)) &&& (255 : Int32)).toInt (p1 &&& (255 : Int32)).toInt (p2 &&& (255 : Int32)).toInt (p3 &&& (255 : Int32)).toInt (u3.toInt - (0 : Int32).toInt))).toInt) => absurd rfl hc129) (fun hc129 => ?_)
    refine OwnK.iconst X39 hx (hb hby at_132) (pc' := 133) rfl (v := (1 : Int32)) (by decide) ?_
    refine OwnK.goto_ X39 hx (hb hby at_133) (by decide) (pc' := 137) (by decide) ?_
    refine OwnK.retN_ X39 hx hret (by simp) hlk (hb hby at_137) (by decide) (by decide) ?_
    exact ⟨rfl, N40⟩
  · refine OwnK.iload X0 hx (hb hby at_6) (pc' := 8) rfl (v := p5) rfl ?_
    refine OwnK.iconst X0 hx (hb hby at_8) (pc' := 9) rfl (v := (1 : Int32)) (by decide) ?_
    refine OwnK.iushr X0 hx (hb hby at_9) (pc' := 10) rfl ?_
    refine OwnK.ldcI X0 hx hZ hown (hw _ (List.mem_of_getElem? (i := 0) rfl)) (hb hby at_10) (pc' := 12) rfl ?_
    refine OwnK.iand X0 hx (hb hby at_12) (pc' := 13) rfl ?_
    refine OwnK.bipush X0 hx (hb hby at_13) (pc' := 15) rfl (v := (6 : Int32)) (by decide) ?_
    refine OwnK.iload X0 hx (hb hby at_15) (pc' := 17) rfl (v := (1 : Int32)) rfl ?_
    refine OwnK.isubL X0 hx (hb hby at_17) (pc' := 18) rfl (z := (5 : Int32)) (by decide) ?_
    refine OwnK.irem X0 hx (hb hby at_18) (pc' := 19) rfl (by decide) ?_
    refine OwnK.istoreG X0 hx (hb hby at_19) (pc' := 21) rfl (Ls' := fun u => #[.val (.int p0), .val (.int p1), .val (.int p2), .val (.int p3), .val (.int p4), .val (.int p5), .val (.int (1 : Int32)), .val (.int u), .unset, .unset, .unset]) (fun u => rfl) (fun u41 (hu41 : u41 = (((XT.ushr p5 (1 : Int32)) &&& (65535 : Int32)) % (5 : Int32))) => ?_)
    have hl := own_l1 hu41
    refine OwnK.iload X0 hx (hb hby at_21) (pc' := 23) rfl (v := (1 : Int32)) rfl ?_
    refine OwnK.iload X0 hx (hb hby at_23) (pc' := 25) rfl (v := u41) rfl ?_
    refine OwnK.iadd X0 hx (hb hby at_25) (pc' := 26) rfl ?_
    refine OwnK.istoreG X0 hx (hb hby at_26) (pc' := 28) rfl (Ls' := fun u => #[.val (.int p0), .val (.int p1), .val (.int p2), .val (.int p3), .val (.int p4), .val (.int p5), .val (.int (1 : Int32)), .val (.int u41), .val (.int u), .unset, .unset]) (fun u => rfl) (fun u42 (hu42 : u42 = ((1 : Int32) + u41)) => ?_)
    have he : ((1 : Int32)).toInt ≤ u42.toInt ∧ u42.toInt ≤ 5 := by rw [hu42]; exact own_e1 hl
    refine OwnK.iconst X0 hx (hb hby at_28) (pc' := 29) rfl (v := (5 : Int32)) (by decide) ?_
    refine OwnK.newP_ X0 hx hZ (hw _ (List.mem_of_getElem? (i := 1) rfl)) e0 (hb hby at_29) (pc' := 31) rfl (n := (5 : Int32)) (by decide) (cap := 5) (by decide) (by decide) (by decide) (by decide) (ad := "[B") (by decide) (fun T43 h43 a43 k43 X43 e43 g43 E43 V43 Q43 => ?_)
    have ge_a43 : n0 ≤ a43 := Nat.le_trans Z0 (Nat.le_of_eq g43.symm)
    have z44 : n0 ≤ h43.size := Nat.le_trans Z0 E43.1
    have f45 : Arv Z h43 a43 k43 .byte (5 : Int32) [(.int (0 : Int32)), (.int (0 : Int32)), (.int (0 : Int32)), (.int (0 : Int32)), (.int (0 : Int32))] (.int (0 : Int32)) := V43.pad (pad_rep [] (.int (0 : Int32)) 5)
    refine OwnK.astore X43 hx (hb hby at_31) (pc' := 33) rfl rfl (Ls' := #[.val (.int p0), .val (.int p1), .val (.int p2), .val (.int p3), .val (.int p4), .val (.int p5), .val (.int (1 : Int32)), .val (.int u41), .val (.int u42), .val (.ref a43), .unset]) rfl ?_
    refine OwnK.aload X43 hx (hb hby at_33) (pc' := 35) rfl (v := (.ref a43)) rfl rfl ?_
    refine OwnK.iconst X43 hx (hb hby at_35) (pc' := 36) rfl (v := (0 : Int32)) (by decide) ?_
    refine OwnK.iload X43 hx (hb hby at_36) (pc' := 38) rfl (v := p4) rfl ?_
    refine OwnK.i2b X43 hx (hb hby at_38) (pc' := 39) rfl ?_
    refine OwnK.bastore X43 hx hZ e43 f45 (i := 0) (by decide) (by first | decide | omega) (Nat.le_of_ble_eq_true rfl) (hb hby at_39) (pc' := 40) rfl (fun T46 h46 X46 e46 W46 V46 => ?_)
    have f47 := Q43.wr W46
    have f48 : Arv Z h46 a43 _ .byte (5 : Int32) [(.int (p4.toInt8.toInt32)), (.int (0 : Int32)), (.int (0 : Int32)), (.int (0 : Int32)), (.int (0 : Int32))] (.int (0 : Int32)) := (by have q := V46; rw [own_narb] at q; exact q)
    have N49 := Fr.snoc X46 N0 ge_a43
    have z50 : n0 ≤ h46.size := Nat.le_trans z44 (Keep.of_wr W46).1
    refine OwnK.aload X46 hx (hb hby at_40) (pc' := 42) rfl (v := (.ref a43)) rfl rfl ?_
    refine OwnK.iconst X46 hx (hb hby at_42) (pc' := 43) rfl (v := (4 : Int32)) (by decide) ?_
    refine OwnK.iload X46 hx (hb hby at_43) (pc' := 45) rfl (v := p4) rfl ?_
    refine OwnK.i2b X46 hx (hb hby at_45) (pc' := 46) rfl ?_
    refine OwnK.bastore X46 hx hZ e46 f48 (i := 4) (by decide) (by first | decide | omega) (Nat.le_of_ble_eq_true rfl) (hb hby at_46) (pc' := 47) rfl (fun T51 h51 X51 e51 W51 V51 => ?_)
    have f52 := f47.wr W51
    have f53 : Arv Z h51 a43 _ .byte (5 : Int32) [(.int (p4.toInt8.toInt32)), (.int (0 : Int32)), (.int (0 : Int32)), (.int (0 : Int32)), (.int (p4.toInt8.toInt32))] (.int (0 : Int32)) := (by have q := V51; rw [own_narb] at q; exact q)
    have N54 := Fr.snoc X51 N49 ge_a43
    have z55 : n0 ≤ h51.size := Nat.le_trans z50 (Keep.of_wr W51).1
    refine OwnK.aload X51 hx (hb hby at_47) (pc' := 49) rfl (v := (.ref a43)) rfl rfl ?_
    refine OwnK.iload X51 hx (hb hby at_49) (pc' := 51) rfl (v := (1 : Int32)) rfl ?_
    refine OwnK.iloadN X51 hx (hb hby at_51) (pc' := 52) rfl (v := p0) rfl ?_
    refine OwnK.sipush X51 hx (hb hby at_52) (pc' := 55) rfl (v := (128 : Int32)) (by decide) ?_
    refine OwnK.ior X51 hx (hb hby at_55) (pc' := 56) rfl ?_
    refine OwnK.i2b X51 hx (hb hby at_56) (pc' := 57) rfl ?_
    refine OwnK.bastore X51 hx hZ e51 f53 (i := 1) (by decide) (by first | decide | omega) (Nat.le_of_ble_eq_true rfl) (hb hby at_57) (pc' := 58) rfl (fun T56 h56 X56 e56 W56 V56 => ?_)
    have f57 := f52.wr W56
    have f58 : Arv Z h56 a43 _ .byte (5 : Int32) [(.int (p4.toInt8.toInt32)), (.int ((p0 ||| (128 : Int32)).toInt8.toInt32)), (.int (0 : Int32)), (.int (0 : Int32)), (.int (p4.toInt8.toInt32))] (.int (0 : Int32)) := (by have q := V56; rw [own_narb] at q; exact q)
    have N59 := Fr.snoc X56 N54 ge_a43
    have z60 : n0 ≤ h56.size := Nat.le_trans z55 (Keep.of_wr W56).1
    refine OwnK.aload X56 hx (hb hby at_58) (pc' := 60) rfl (v := (.ref a43)) rfl rfl ?_
    refine OwnK.iload X56 hx (hb hby at_60) (pc' := 62) rfl (v := (1 : Int32)) rfl ?_
    refine OwnK.iconst X56 hx (hb hby at_62) (pc' := 63) rfl (v := (1 : Int32)) (by decide) ?_
    refine OwnK.iaddL X56 hx (hb hby at_63) (pc' := 64) rfl (z := (2 : Int32)) (by decide) ?_
    refine OwnK.iloadN X56 hx (hb hby at_64) (pc' := 65) rfl (v := p1) rfl ?_
    refine OwnK.i2b X56 hx (hb hby at_65) (pc' := 66) rfl ?_
    refine OwnK.bastore X56 hx hZ e56 f58 (i := 2) (by decide) (by first | decide | omega) (Nat.le_of_ble_eq_true rfl) (hb hby at_66) (pc' := 67) rfl (fun T61 h61 X61 e61 W61 V61 => ?_)
    have f62 := f57.wr W61
    have f63 : Arv Z h61 a43 _ .byte (5 : Int32) [(.int (p4.toInt8.toInt32)), (.int ((p0 ||| (128 : Int32)).toInt8.toInt32)), (.int (p1.toInt8.toInt32)), (.int (0 : Int32)), (.int (p4.toInt8.toInt32))] (.int (0 : Int32)) := (by have q := V61; rw [own_narb] at q; exact q)
    have N64 := Fr.snoc X61 N59 ge_a43
    have z65 : n0 ≤ h61.size := Nat.le_trans z60 (Keep.of_wr W61).1
    refine OwnK.aload X61 hx (hb hby at_67) (pc' := 69) rfl (v := (.ref a43)) rfl rfl ?_
    refine OwnK.iload X61 hx (hb hby at_69) (pc' := 71) rfl (v := (1 : Int32)) rfl ?_
    refine OwnK.iconst X61 hx (hb hby at_71) (pc' := 72) rfl (v := (2 : Int32)) (by decide) ?_
    refine OwnK.iaddL X61 hx (hb hby at_72) (pc' := 73) rfl (z := (3 : Int32)) (by decide) ?_
    refine OwnK.iloadN X61 hx (hb hby at_73) (pc' := 74) rfl (v := p2) rfl ?_
    refine OwnK.i2b X61 hx (hb hby at_74) (pc' := 75) rfl ?_
    refine OwnK.bastore X61 hx hZ e61 f63 (i := 3) (by decide) (by first | decide | omega) (Nat.le_of_ble_eq_true rfl) (hb hby at_75) (pc' := 76) rfl (fun T66 h66 X66 e66 W66 V66 => ?_)
    have f67 := f62.wr W66
    have f68 : Arv Z h66 a43 _ .byte (5 : Int32) [(.int (p4.toInt8.toInt32)), (.int ((p0 ||| (128 : Int32)).toInt8.toInt32)), (.int (p1.toInt8.toInt32)), (.int (p2.toInt8.toInt32)), (.int (p4.toInt8.toInt32))] (.int (0 : Int32)) := (by have q := V66; rw [own_narb] at q; exact q)
    have N69 := Fr.snoc X66 N64 ge_a43
    have z70 : n0 ≤ h66.size := Nat.le_trans z65 (Keep.of_wr W66).1
    refine OwnK.aload X66 hx (hb hby at_76) (pc' := 78) rfl (v := (.ref a43)) rfl rfl ?_
    refine OwnK.iload X66 hx (hb hby at_78) (pc' := 80) rfl (v := (1 : Int32)) rfl ?_
    refine OwnK.iconst X66 hx (hb hby at_80) (pc' := 81) rfl (v := (3 : Int32)) (by decide) ?_
    refine OwnK.iaddL X66 hx (hb hby at_81) (pc' := 82) rfl (z := (4 : Int32)) (by decide) ?_
    refine OwnK.iloadN X66 hx (hb hby at_82) (pc' := 83) rfl (v := p3) rfl ?_
    refine OwnK.i2b X66 hx (hb hby at_83) (pc' := 84) rfl ?_
    refine OwnK.bastore X66 hx hZ e66 f68 (i := 4) (by decide) (by first | decide | omega) (Nat.le_of_ble_eq_true rfl) (hb hby at_84) (pc' := 85) rfl (fun T71 h71 X71 e71 W71 V71 => ?_)
    have f72 := f67.wr W71
    have f73 : Arv Z h71 a43 _ .byte (5 : Int32) [(.int (p4.toInt8.toInt32)), (.int ((p0 ||| (128 : Int32)).toInt8.toInt32)), (.int (p1.toInt8.toInt32)), (.int (p2.toInt8.toInt32)), (.int (p3.toInt8.toInt32))] (.int (0 : Int32)) := (by have q := V71; rw [own_narb] at q; exact q)
    have N74 := Fr.snoc X71 N69 ge_a43
    have z75 : n0 ≤ h71.size := Nat.le_trans z70 (Keep.of_wr W71).1
    refine OwnK.aload X71 hx (hb hby at_85) (pc' := 87) rfl (v := (.ref a43)) rfl rfl ?_
    refine OwnK.iload X71 hx (hb hby at_87) (pc' := 89) rfl (v := (1 : Int32)) rfl ?_
    refine OwnK.iload X71 hx (hb hby at_89) (pc' := 91) rfl (v := u42) rfl ?_
    refine OwnK.callS_ X71 hx hZ hown (y := (⟨"com/example/entryway/entryway/Utf8", "sequenceEnd", "([BII)I"⟩ : MethodName)) (hw _ (List.mem_of_getElem? (i := 2) rfl)) (hw _ (List.mem_of_getElem? (i := 3) rfl)) (hw _ (List.mem_of_getElem? (i := 4) rfl)) (hw _ (List.mem_of_getElem? (i := 5) rfl)) (by decide) (own_met1 l Z a0 hw h71 a43 (1 : Int32) u42 _ _ 1 ((p0 ||| (128 : Int32)).toInt8.toInt32) (p1.toInt8.toInt32) (p2.toInt8.toInt32) (p3.toInt8.toInt32) f73 (by decide) (by decide) he rfl rfl rfl rfl ) (by decide) (W := 0) (by decide) e71 (by rw [hml]; rfl) own_pd_2 (argsL := [(.ref a43), (.int (1 : Int32)), (.int u42)]) rfl (S := []) rfl (Nat.le_of_eq rfl) (hb hby at_91) (pc' := 94) rfl (by decide) (by decide) (fun T76 v76 L76 X76 hQ76 => ?_)
    obtain ⟨hv76, e76, rfl⟩ := hQ76
    have N77 := Fr.app N74 (Fr.nil n0)
    rw [own_b255 (p0 ||| (128 : Int32)), own_b255 p1, own_b255 p2, own_b255 p3] at hv76
    subst hv76
    refine OwnK.istore X76 hx (hb hby at_94) (pc' := 96) rfl (Ls' := #[.val (.int p0), .val (.int p1), .val (.int p2), .val (.int p3), .val (.int p4), .val (.int p5), .val (.int (1 : Int32)), .val (.int u41), .val (.int u42), .val (.ref a43), .val (.int (own_res (1 : Int32).toInt (own_n ((p0 ||| (128 : Int32)) &&& (255 : Int32)).toInt (p1 &&& (255 : Int32)).toInt (p2 &&& (255 : Int32)).toInt (p3 &&& (255 : Int32)).toInt (u42.toInt - (1 : Int32).toInt))))]) rfl ?_
    refine OwnK.iload X76 hx (hb hby at_96) (pc' := 98) rfl (v := (own_res (1 : Int32).toInt (own_n ((p0 ||| (128 : Int32)) &&& (255 : Int32)).toInt (p1 &&& (255 : Int32)).toInt (p2 &&& (255 : Int32)).toInt (p3 &&& (255 : Int32)).toInt (u42.toInt - (1 : Int32).toInt)))) rfl ?_
    refine OwnK.iloadN X76 hx (hb hby at_98) (pc' := 99) rfl (v := p0) rfl ?_
    refine OwnK.sipush X76 hx (hb hby at_99) (pc' := 102) rfl (v := (128 : Int32)) (by decide) ?_
    refine OwnK.ior X76 hx (hb hby at_102) (pc' := 103) rfl ?_
    refine OwnK.sipush X76 hx (hb hby at_103) (pc' := 106) rfl (v := (255 : Int32)) (by decide) ?_
    refine OwnK.iand X76 hx (hb hby at_106) (pc' := 107) rfl ?_
    refine OwnK.iloadN X76 hx (hb hby at_107) (pc' := 108) rfl (v := p1) rfl ?_
    refine OwnK.sipush X76 hx (hb hby at_108) (pc' := 111) rfl (v := (255 : Int32)) (by decide) ?_
    refine OwnK.iand X76 hx (hb hby at_111) (pc' := 112) rfl ?_
    refine OwnK.iloadN X76 hx (hb hby at_112) (pc' := 113) rfl (v := p2) rfl ?_
    refine OwnK.sipush X76 hx (hb hby at_113) (pc' := 116) rfl (v := (255 : Int32)) (by decide) ?_
    refine OwnK.iand X76 hx (hb hby at_116) (pc' := 117) rfl ?_
    refine OwnK.iloadN X76 hx (hb hby at_117) (pc' := 118) rfl (v := p3) rfl ?_
    refine OwnK.sipush X76 hx (hb hby at_118) (pc' := 121) rfl (v := (255 : Int32)) (by decide) ?_
    refine OwnK.iand X76 hx (hb hby at_121) (pc' := 122) rfl ?_
    refine OwnK.iload X76 hx (hb hby at_122) (pc' := 124) rfl (v := (1 : Int32)) rfl ?_
    refine OwnK.iload X76 hx (hb hby at_124) (pc' := 126) rfl (v := u42) rfl ?_
    refine OwnK.callS_ X76 hx hZ hown (y := (⟨"com/example/entryway/entryway/Utf8SequenceEndPinLaw", "expected", "(IIIIII)I"⟩ : MethodName)) (hw _ (List.mem_of_getElem? (i := 6) rfl)) (hw _ (List.mem_of_getElem? (i := 7) rfl)) (hw _ (List.mem_of_getElem? (i := 8) rfl)) (hw _ (List.mem_of_getElem? (i := 9) rfl)) (by decide) (own_met2 l Z a0 hw h71 ((p0 ||| (128 : Int32)) &&& (255 : Int32)) (p1 &&& (255 : Int32)) (p2 &&& (255 : Int32)) (p3 &&& (255 : Int32)) (1 : Int32) u42 (own_m255 _) (own_m255 _) (own_m255 _) (own_m255 _) (by decide) he ) (by decide) (W := 1) (by decide) e76 (by rw [hml]; rfl) own_pd_1 (argsL := [(.int ((p0 ||| (128 : Int32)) &&& (255 : Int32))), (.int (p1 &&& (255 : Int32))), (.int (p2 &&& (255 : Int32))), (.int (p3 &&& (255 : Int32))), (.int (1 : Int32)), (.int u42)]) rfl (S := [(.int (own_res (1 : Int32).toInt (own_n ((p0 ||| (128 : Int32)) &&& (255 : Int32)).toInt (p1 &&& (255 : Int32)).toInt (p2 &&& (255 : Int32)).toInt (p3 &&& (255 : Int32)).toInt (u42.toInt - (1 : Int32).toInt))))]) rfl (Nat.le_of_eq rfl) (hb hby at_126) (pc' := 129) rfl (by decide) (by decide) (fun T78 v78 L78 X78 hQ78 => ?_)
    obtain ⟨rfl, e78, rfl⟩ := hQ78
    have N79 := Fr.app N77 (Fr.nil n0)
    refine OwnK.icmp_ne X78 hx (hb hby at_129) (by decide) (pcT := 136) (by decide) (pc' := 132) rfl (fun (hc129 : ¬ (own_res (1 : Int32).toInt (own_n ((p0 ||| (128 : Int32)) &&& (255 : Int32)).toInt (p1 &&& (255 : Int32)).toInt (p2 &&& (255 : Int32)).toInt (p3 &&& (255 : Int32)).toInt (u42.toInt - (1 : Int32).toInt))).toInt = (own_res (1 : Int32).toInt (own_n ((p0 ||| (128 : Int32)) &&& (255 : Int32)).toInt (p1 &&& (255 : Int32)).toInt (p2 &&& (255 : Int32)).toInt (p3 &&& (255 : Int32)).toInt (u42.toInt - (1 : Int32).toInt))).toInt) => absurd rfl hc129) (fun hc129 => ?_)
    refine OwnK.iconst X78 hx (hb hby at_132) (pc' := 133) rfl (v := (1 : Int32)) (by decide) ?_
    refine OwnK.goto_ X78 hx (hb hby at_133) (by decide) (pc' := 137) (by decide) ?_
    refine OwnK.retN_ X78 hx hret (by simp) hlk (hb hby at_137) (by decide) (by decide) ?_
    exact ⟨rfl, N79⟩
set_option maxRecDepth 65536 in
set_option maxHeartbeats 40000000 in
theorem comes_1 {Post : Tables → Env → Array Value → State → Outcome → State → Prop} (hpost : ∀ tb e args s v u, (limb_1_1.after args s (.returned v) u = true ∧ limb_1_2.after args s (.returned v) u = true ∧ True) → FrameEnd s (.returned v) u (Jvm.fieldLocs frame_1_writes args s ++ Jvm.arrayLocs frame_1_arrays args s ++ Jvm.staticLocs frame_1_statics s) 16 128 → Post tb e args s (.returned v) u) :
    ArmFor flags0 classFile x code maxLocals ret World_1 tables_1 room_1 Calls_1 rest_1 Pre_1 Post := by
  intro l hfl _ _ p e ha hc hk s m args below hf hA hF happ hP
  obtain ⟨hcalls, hrest, hpre⟩ := hP
  obtain ⟨-, -, -, hnamed, -, -, -, hat⟩ := (Spec.applies_iff hf).mp happ
  obtain ⟨hg, hn⟩ := and_e (Cond.before_iff.mp (show (Jvm.Cond.and given_1 narrow_1).before args s = true from hpre))
  obtain ⟨hcnt, hg0⟩ := and_e hg
  obtain ⟨ha0, hg1⟩ := and_e hg0
  obtain ⟨ha1, hg2⟩ := and_e hg1
  obtain ⟨ha2, hg3⟩ := and_e hg2
  obtain ⟨ha3, hg4⟩ := and_e hg3
  obtain ⟨ha4, hg5⟩ := and_e hg4
  have ha5 := hg5
  obtain ⟨w0, w1, w2, w3, w4, w5, rfl⟩ : ∃ w0 w1 w2 w3 w4 w5 : Value, args = #[w0, w1, w2, w3, w4, w5] := by
    have hs : args.size = 6 := by simpa [Cond.value, given_1] using hcnt
    obtain ⟨L⟩ := args
    match L, hs with
    | [w0, w1, w2, w3, w4, w5], _ => exact ⟨w0, w1, w2, w3, w4, w5, rfl⟩
  have hw := fun d (hd : d ∈ tables_1) => atoms_spec (ws := Jvm.Cond.code x code maxLocals ret :: tables_1) hat d (List.mem_cons_of_mem _ hd)
  have hfit : Fit s := fun {y c} hc i hi => by
    obtain ⟨ha, rfl⟩ := Array.getElem?_eq_some_iff.mp hc
    have q := List.all_eq_true.mp ((Array.all_eq_true_iff_forall_mem.mp hF) _ (Array.getElem_mem ha)) i (List.mem_range.mpr hi)
    simpa [Array.getElem?_eq_getElem hi] using q
  obtain ⟨i0, e0⟩ := is_v ha0
  obtain rfl : w0 = (.int i0) := Option.some.inj e0
  obtain ⟨i1, e1⟩ := is_v ha1
  obtain rfl : w1 = (.int i1) := Option.some.inj e1
  obtain ⟨i2, e2⟩ := is_v ha2
  obtain rfl : w2 = (.int i2) := Option.some.inj e2
  obtain ⟨i3, e3⟩ := is_v ha3
  obtain rfl : w3 = (.int i3) := Option.some.inj e3
  obtain ⟨i4, e4⟩ := is_v ha4
  obtain rfl : w4 = (.int i4) := Option.some.inj e4
  obtain ⟨i5, e5⟩ := is_v ha5
  obtain rfl : w5 = (.int i5) := Option.some.inj e5
  obtain ⟨n, o, h1, h2, h3, _, L, rfl, ⟨rfl, N⟩, hq⟩ := own_law l s _ hw tables_1 s.heap s.heap.size (Nat.le_refl _) i0 i1 i2 i3 i4 i5  p e ha hc hk s m _ below hf ((Spec.applies_iff_loose hf).mp happ).1 ⟨rfl, State.Warmed39.refl s, rfl⟩ trivial
  refine ⟨n, _, h1, h2, h3, hpost _ _ _ _ _ _ ⟨Cond.after_iff.mpr rfl, Cond.after_iff.mpr (eq_i res_at (Term.int_eval (1)) rfl), trivial⟩ ⟨hq.1, hq.2.1, (hq.2.2.sift fun y hy => Or.inr (N y hy)).mono (by decide) (by decide)⟩⟩
theorem main_1_1 : Claimed_1_1 := comes_1 fun _ _ _ _ _ _ h hF => ⟨h.1, hF⟩
theorem main_1_2 : Claimed_1_2 := comes_1 fun _ _ _ _ _ _ h hF => ⟨h.2.1, hF⟩
end Jvm.Pilot.@@N@@
namespace Jvm.Pilot.@@N@@
open Jvm Jvm.ClassFile Sem Op Lib Jvm.Free Jvm.Stand Jvm.Pilot.@@N@@.Jvm.D
/-! MADE BY PROGRAM (witnessworld.py) out of the Statement's table words and the real class files: 9 classes; the members and pool entries that the words name. The judged class is class 1, her method 1. -/
namespace start1
open Jvm.ClassFile
def u (s : String) : CpInfo := .utf8 (stringToUtf16 s)
/-- a pool by its gaps: so many unusable entries, then the entry; so many at the end -/
def gap : Nat → List CpInfo → List CpInfo
  | 0, r => r
  | n + 1, r => .unusable :: gap n r
def poolList (es : List (Nat × CpInfo)) (last : Nat) : List CpInfo := es.foldr (fun e r => gap e.1 (e.2 :: r)) (gap last [])
def pool (es : List (Nat × CpInfo)) (last : Nat) : Array CpInfo := ⟨poolList es last⟩
def fileOf (pool : Array CpInfo) (this : Nat) (attrs : Array Attribute := #[]) (ms : Array MethodInfo := #[]) (fl : Nat := 33) (sup : Nat := 0) (ifs : Array Nat := #[]) (fds : Array FieldInfo := #[]) : ClassFile where
  minorVersion := 0
  majorVersion := 65
  constantPool := pool
  accessFlags := fl
  thisClass := this
  superClass := sup
  interfaces := ifs
  fields := fds
  methods := ms
  attributes := attrs
def plain (name : String) (sup : Option ClassId) : Class where
  name := name
  kind := .ordinary
  loader := none
  accessFlags := 33
  super := sup
  interfaces := #[]
  cf := none
  fields := #[]
  methods := #[]
  instanceTypes := #[]
  staticTypes := #[]
  resolved := #[]
  callSites := []
  init := .initialized
  statics := none
  mirror := none

def pool0 : Array CpInfo := pool [(5, u "<init>"), (0, u "()V"), (1, .class_ 10), (1, u "java/lang/Object")] 113

def k0m0 : Method := { name := "<init>", desc := "()V", sig := { parameters := [], returnType := none }, accessFlags := 1, code := none }
/-- java/lang/Object -/
def k0 : Class := { plain "java/lang/Object" none with
  accessFlags := 33
  interfaces := #[]
  cf := some (fileOf pool0 8 #[] #[{ accessFlags := 1, nameIndex := 5, descriptorIndex := 6, attributes := #[] }] 33 0 #[] #[])
  fields := #[]
  methods := #[k0m0]
  instanceTypes := #[]
  staticTypes := #[]
  resolved := Array.replicate 124 none
  statics := none }

def pool1 : Array CpInfo := pool [(2, .class_ 4), (1, u "java/lang/Object"), (0, u "<init>"), (0, u "()V"), (0, .integer 65535), (0, .methodref 9 10), (0, .class_ 11), (0, .nameAndType 12 13), (0, u "com/example/entryway/entryway/Utf8"), (0, u "sequenceEnd"), (0, u "([BII)I"), (0, .methodref 15 16), (0, .class_ 17), (0, .nameAndType 18 19), (0, u "com/example/entryway/entryway/Utf8SequenceEndPinLaw"), (0, u "expected"), (0, u "(IIIIII)I"), (0, .integer 65536), (0, .methodref 15 22), (0, .nameAndType 23 24), (0, u "cont"), (0, u "(I)Z"), (0, .integer 1114111), (0, .integer 55296), (0, .integer 57343), (2, u "law"), (0, u "(IIIIII)Z")] 5

def k1m0 : Method := { name := "<init>", desc := "()V", sig := { parameters := [], returnType := none }, accessFlags := 1, code := none }
def k1c1 : Code := { maxStack := 7, maxLocals := 11, code := code, exceptionTable := #[], attributes := #[] }
def k1m1 : Method := { name := "law", desc := "(IIIIII)Z", sig := { parameters := [.int, .int, .int, .int, .int, .int], returnType := some .boolean }, accessFlags := 9, code := some k1c1 }
def k1c2 : Code := { maxStack := 2, maxLocals := 1, code := method_3_code, exceptionTable := #[], attributes := #[] }
def k1m2 : Method := { name := "cont", desc := "(I)Z", sig := { parameters := [.int], returnType := some .boolean }, accessFlags := 10, code := some k1c2 }
def k1c3 : Code := { maxStack := 3, maxLocals := 9, code := method_4_code, exceptionTable := #[], attributes := #[] }
def k1m3 : Method := { name := "expected", desc := "(IIIIII)I", sig := { parameters := [.int, .int, .int, .int, .int, .int], returnType := some .int }, accessFlags := 10, code := some k1c3 }
/-- com/example/entryway/entryway/Utf8SequenceEndPinLaw -/
def k1 : Class := { plain "com/example/entryway/entryway/Utf8SequenceEndPinLaw" (some 0) with
  accessFlags := 49
  interfaces := #[]
  cf := some (fileOf pool1 15 #[] #[{ accessFlags := 1, nameIndex := 5, descriptorIndex := 6, attributes := #[] }, { accessFlags := 9, nameIndex := 30, descriptorIndex := 31, attributes := #[] }, { accessFlags := 10, nameIndex := 23, descriptorIndex := 24, attributes := #[] }, { accessFlags := 10, nameIndex := 18, descriptorIndex := 19, attributes := #[] }] 49 2 #[] #[])
  fields := #[]
  methods := #[k1m0, k1m1, k1m2, k1m3]
  instanceTypes := #[]
  staticTypes := #[]
  resolved := Array.replicate 37 none
  statics := none }

def pool2 : Array CpInfo := pool [(2, .class_ 4), (1, u "java/lang/Object"), (0, u "<init>"), (0, u "()V"), (0, .class_ 8), (0, u "com/example/entryway/entryway/Utf8"), (2, u "sequenceEnd"), (0, u "([BII)I")] 5

def k2m0 : Method := { name := "<init>", desc := "()V", sig := { parameters := [], returnType := none }, accessFlags := 2, code := none }
def k2c1 : Code := { maxStack := 3, maxLocals := 9, code := prog_68_method_2_code, exceptionTable := #[], attributes := #[] }
def k2m1 : Method := { name := "sequenceEnd", desc := "([BII)I", sig := { parameters := [(.array .byte), .int, .int], returnType := some .int }, accessFlags := 8, code := some k2c1 }
/-- com/example/entryway/entryway/Utf8 -/
def k2 : Class := { plain "com/example/entryway/entryway/Utf8" (some 0) with
  accessFlags := 48
  interfaces := #[]
  cf := some (fileOf pool2 7 #[] #[{ accessFlags := 2, nameIndex := 5, descriptorIndex := 6, attributes := #[] }, { accessFlags := 8, nameIndex := 11, descriptorIndex := 12, attributes := #[] }] 48 2 #[] #[])
  fields := #[]
  methods := #[k2m0, k2m1]
  instanceTypes := #[]
  staticTypes := #[]
  resolved := Array.replicate 18 none
  statics := none }

def pool3 : Array CpInfo := pool [(1, u "java/lang/Cloneable"), (0, .class_ 1), (0, u "java/lang/Object"), (0, .class_ 3)] 3

/-- java/lang/Cloneable -/
def k3 : Class := { plain "java/lang/Cloneable" (some 0) with
  accessFlags := 1537
  interfaces := #[]
  cf := some (fileOf pool3 2 #[] #[] 1537 4 #[] #[])
  fields := #[]
  methods := #[]
  instanceTypes := #[]
  staticTypes := #[]
  resolved := Array.replicate 8 none
  statics := none }

def pool4 : Array CpInfo := pool [(1, u "java/io/Serializable"), (0, .class_ 1), (0, u "java/lang/Object"), (0, .class_ 3)] 3

/-- java/io/Serializable -/
def k4 : Class := { plain "java/io/Serializable" (some 0) with
  accessFlags := 1537
  interfaces := #[]
  cf := some (fileOf pool4 2 #[] #[] 1537 4 #[] #[])
  fields := #[]
  methods := #[]
  instanceTypes := #[]
  staticTypes := #[]
  resolved := Array.replicate 8 none
  statics := none }

/-- the primitive byte -/
def k5 : Class := { plain "byte" none with kind := .primitive 'B', accessFlags := 0x411 }
/-- [B -/
def k6 : Class := { plain "[B" (some 0) with kind := .array 5 .byte, interfaces := #[3, 4], accessFlags := 1041 }

/-- the primitive int -/
def k7 : Class := { plain "int" none with kind := .primitive 'I', accessFlags := 0x411 }
/-- [I -/
def k8 : Class := { plain "[I" (some 0) with kind := .array 7 .int, interfaces := #[3, 4], accessFlags := 1041 }

def heap : Heap := #[]
def classes : Array Class := #[k0, k1, k2, k3, k4, k5, k6, k7, k8]
def interned : List (Array UInt16 × Addr) := []
def slotsUsed : Nat := 0
def theMethod : MethodId := ⟨1, 1⟩
def args0 : Array Value := #[.int 5, .int 300, .int 7, .int 5, .int 6, .int 8]
def aboutOver (below : List Frame) : State where
  vm := { classes := classes, interned := interned.toArray }
  heap := heap
  slotsUsed := slotsUsed
  threads := #[{ frames := .invoking theMethod args0 :: below }]
def below0 : List Frame := [.native { method := ⟨0, 0⟩, args := #[] }]
def about1 : State := aboutOver below0
def p0 : Program := .bare "" "" ""
def e0 : Env := launch0.env 0 0 0
theorem w_frames : about1.frames = Frame.invoking theMethod args0 :: below0 := rfl
set_option maxRecDepth 65536 in
theorem w_args : argsFit about1.vm theMethod args0 = true := by decide +kernel
set_option maxRecDepth 65536 in
theorem w_heap : heapFits about1 = true := by decide +kernel
set_option maxRecDepth 65536 in
theorem w_runnable : about1.curStatus? = some .runnable := by decide +kernel
set_option maxRecDepth 65536 in
theorem w_alone : about1.alone = true := by decide +kernel
set_option maxRecDepth 65536 in
theorem w_named : about1.methodNamed? x = some theMethod := by decide +kernel
set_option maxRecDepth 65536 in
theorem w_hears : about1.hears theMethod below0 = true := by decide +kernel
set_option maxRecDepth 65536 in
theorem w_ripe : about1.ripe theMethod args0 below0 = true := by decide +kernel
theorem w_running : about1.status = .running := rfl
set_option maxRecDepth 65536 in
theorem w_room : about1.hasRoom e0.platform room_1 = true :=
  launch0.hasRoom_least _ room_1 (by decide +kernel) (by decide +kernel) (by decide +kernel) (by decide +kernel) (by decide +kernel) (by decide +kernel)
theorem allAtoms_all (ts : List Jvm.Cond) (a : Array Jvm.Value) (st : Jvm.State) : (allAtoms ts).before a st = ts.all (fun c => c.before a st) := by
  induction ts with
  | nil => rfl
  | cons c t ih =>
    show (Jvm.Cond.and c (allAtoms t)).before a st = _
    rw [Jvm.Cond.before_and, ih, List.all_cons]
def words1 : List Jvm.Cond := Jvm.Cond.code x code maxLocals ret :: tables_1
/-- a 'code' word, met by the world's own term for the bytes: nothing is compared byte by byte -/
theorem code_word {y : MethodName} {bytes : ByteArray} {mx : Nat} {rt : Option FieldType} {a : Array Value} {s : State} {m : MethodId} {meth : Method} {c : Code} (h1 : s.methodNamed? y = some m) (h2 : s.vm.method? m = some meth) (h3 : meth.code = some c) (h4 : c.code = bytes)
    (h5 : (c.maxLocals == mx && c.exceptionTable.isEmpty && decide (c.maxStack ≤ mostOperands) && decide (meth.sig.returnType = rt) && !meth.locks && decide (parseMethodDescriptor y.desc = some meth.sig)) = true) : (Jvm.Cond.code y bytes mx rt).before a s = true := by
  simp only [Bool.and_eq_true, beq_iff_eq, Bool.not_eq_true', decide_eq_true_eq] at h5
  obtain ⟨⟨⟨⟨⟨g1, g2⟩, g3⟩, g4⟩, g5⟩, g6⟩ := h5
  simp [Cond.before, Cond.holds, Cond.value, h1, h2, h3, h4, g1, g2, g3, g4, g5, g6]
def isCode : Jvm.Cond → Bool
  | .code _ _ _ _ => true
  | _ => false
theorem all_split {L : List Jvm.Cond} {P : Jvm.Cond → Bool} (h1 : L.all (fun c => isCode c || P c) = true) (h2 : ∀ c ∈ L.filter isCode, P c = true) : L.all P = true := by
  refine List.all_eq_true.mpr fun c hc => ?_
  have h := List.all_eq_true.mp h1 c hc
  rcases Bool.eq_false_or_eq_true (isCode c) with hi | hi
  · exact h2 c (List.mem_filter.mpr ⟨hc, hi⟩)
  · simpa [hi] using h
set_option maxRecDepth 65536 in
theorem w_c0 : (Jvm.Cond.code x code maxLocals ret).before args0 about1 = true := code_word (m := ⟨1, 1⟩) (meth := k1m1) (c := k1c1) (by decide +kernel) rfl rfl rfl (by decide +kernel)
set_option maxRecDepth 65536 in
theorem w_c1 : (Jvm.Cond.code ({ cls := "com/example/entryway/entryway/Utf8", name := "sequenceEnd", desc := "([BII)I" } : Jvm.MethodName) prog_68_method_2_code (9 : Nat) (Option.some Jvm.ClassFile.FieldType.int)).before args0 about1 = true := code_word (m := ⟨2, 1⟩) (meth := k2m1) (c := k2c1) (by decide +kernel) rfl rfl rfl (by decide +kernel)
set_option maxRecDepth 65536 in
theorem w_c2 : (Jvm.Cond.code ({ cls := "com/example/entryway/entryway/Utf8SequenceEndPinLaw", name := "expected", desc := "(IIIIII)I" } : Jvm.MethodName) method_4_code (9 : Nat) (Option.some Jvm.ClassFile.FieldType.int)).before args0 about1 = true := code_word (m := ⟨1, 3⟩) (meth := k1m3) (c := k1c3) (by decide +kernel) rfl rfl rfl (by decide +kernel)
set_option maxRecDepth 65536 in
theorem w_c3 : (Jvm.Cond.code ({ cls := "com/example/entryway/entryway/Utf8SequenceEndPinLaw", name := "cont", desc := "(I)Z" } : Jvm.MethodName) method_3_code (1 : Nat) (Option.some Jvm.ClassFile.FieldType.boolean)).before args0 about1 = true := code_word (m := ⟨1, 2⟩) (meth := k1m2) (c := k1c2) (by decide +kernel) rfl rfl rfl (by decide +kernel)
def codes1 : List Jvm.Cond := [Jvm.Cond.code x code maxLocals ret, Jvm.Cond.code ({ cls := "com/example/entryway/entryway/Utf8", name := "sequenceEnd", desc := "([BII)I" } : Jvm.MethodName) prog_68_method_2_code (9 : Nat) (Option.some Jvm.ClassFile.FieldType.int), Jvm.Cond.code ({ cls := "com/example/entryway/entryway/Utf8SequenceEndPinLaw", name := "expected", desc := "(IIIIII)I" } : Jvm.MethodName) method_4_code (9 : Nat) (Option.some Jvm.ClassFile.FieldType.int), Jvm.Cond.code ({ cls := "com/example/entryway/entryway/Utf8SequenceEndPinLaw", name := "cont", desc := "(I)Z" } : Jvm.MethodName) method_3_code (1 : Nat) (Option.some Jvm.ClassFile.FieldType.boolean)]
set_option maxRecDepth 65536 in
theorem codes_eq : words1.filter isCode = codes1 := rfl
theorem w_codes : ∀ c ∈ words1.filter isCode, c.before args0 about1 = true := by
  rw [codes_eq]
  intro c hc
  simp only [codes1, List.mem_cons, List.not_mem_nil, or_false] at hc
  rcases hc with rfl | rfl | rfl | rfl
  · exact w_c0
  · exact w_c1
  · exact w_c2
  · exact w_c3
set_option maxRecDepth 65536 in
theorem w_t1 : words1.all (fun c => isCode c || c.before args0 about1) = true := by decide +kernel
theorem w_tables : (allAtoms (Jvm.Cond.code x code maxLocals ret :: tables_1)).before args0 about1 = true := by
  rw [allAtoms_all]
  show words1.all (fun c => c.before args0 about1) = true
  refine all_split ?_ w_codes
  rw [w_t1]
set_option maxRecDepth 65536 in
theorem w_case : (Jvm.Cond.and given_1 narrow_1).before args0 about1 = true := by decide +kernel
theorem w_applies : (headSpec (Jvm.Cond.code x code maxLocals ret :: tables_1) room_1).applies x e0.platform about1 = true :=
  (Spec.applies_iff w_frames).mpr ⟨w_running, w_runnable, w_alone, w_named, w_hears, w_ripe, w_room, w_tables⟩
theorem atStart : AtStart classFile x code maxLocals ret World_1 tables_1 room_1 Calls_1 rest_1 Pre_1 launch0 p0 e0 about1 theMethod args0 below0 :=
  ⟨lists_1, trivial, launch0.admits_env _ _ _, launch0.least_env, fairChoices_fair.cas, fairChoices_fair.clock, w_frames, w_args, w_heap, w_applies, trivial, trivial, w_case⟩
end start1
theorem witness_1 : WitnessClaimed_1 := ⟨start1.p0, start1.e0, start1.about1, start1.theMethod, start1.args0, start1.below0, start1.atStart⟩
end Jvm.Pilot.@@N@@
