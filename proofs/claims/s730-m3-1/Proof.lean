import JvmDerived
import JvmDerived.Pilot.@@N@@Statement
import JvmDerived.Pilot.@@N@@Code
set_option linter.unusedVariables false
set_option linter.unusedSimpArgs false
@@BLOCK:NumsL.lean.txt@@
namespace Jvm.OwnK
open Sem ClassFile Op Lib Jvm.Stand Jvm.Free Jvm.LawKit Jvm.RoadKit Bundle
/-- from the frame f at T the run ends, and P holds of its end -/
def Go (tb : Tables) (e : Env) (below : List Frame) (P : Outcome → State → Prop) (T : State) (f : JFrame) : Prop :=
  ∃ s₂ o, Steps tb e below (T.setTop f) s₂ ∧ s₂.status = .running ∧ Ended s₂ below o ∧ P o s₂
abbrev PQ (s : State) (Q : Option Value → Heap → List Loc → Prop) (C N : Nat) : Outcome → State → Prop := fun o U' => ∃ v L, o = .returned v ∧ Q v U'.heap L ∧ FrameEnd s o U' L C N
theorem Go.st {tb : Tables} {e : Env} {below : List Frame} {P : Outcome → State → Prop} {T T' : State} {f f' : JFrame} (h : ∀ t, Steps tb e below (T'.setTop f') t → Steps tb e below (T.setTop f) t) (k : Go tb e below P T' f') : Go tb e below P T f := by
  obtain ⟨s₂, o, h1, h2⟩ := k; exact ⟨s₂, o, h _ h1, h2⟩
theorem Go.st1 {tb : Tables} {e : Env} {below : List Frame} {P : Outcome → State → Prop} {T T' : State} {f f' : JFrame} (h : Steps tb e below (T.setTop f) (T'.setTop f')) (k : Go tb e below P T' f') : Go tb e below P T f :=
  Go.st (fun t q => h.trans q) k
theorem tI {x : Int32} {n : Int} (h : x.toInt = n) : x = Int32.ofInt n := by subst h; simp
section Steps
variable {p : Program} {l : Launch} {e : Env} {R : Room} {s : State} {m : MethodId} {args : Array Value} {below : List Frame} {meth : Method} {c : Code} {T : State} {locs : List Loc} {cells slots : Nat} {P : Outcome → State → Prop} {pc pc' : Nat} {Ls : Array Slot} {S : List Value} {Z : State} {a0 : Array Value} {h : Heap}
theorem iload (X : Stand p l e R s m args below meth c T locs cells slots) (hx : p.tables.exec = Jvm.exec) {j : Nat} {v : Int32} (hd : decode c.code pc = .ok (.iload j, 2)) (hp : pc' = pc + 2) (hl : Ls[j]? = some (.val (.int v)))
    (k : Go p.tables e below P T (mkF m pc' Ls (.int v :: S))) : Go p.tables e below P T (mkF m pc Ls (S)) := by
  subst hp; exact Go.st (fun t q => XS.iload X.here hx rfl hd  hl q) k
theorem iloadN (X : Stand p l e R s m args below meth c T locs cells slots) (hx : p.tables.exec = Jvm.exec) {j : Fin 4} {v : Int32} (hd : decode c.code pc = .ok (.iload_n j, 1)) (hp : pc' = pc + 1) (hl : Ls[j.val]? = some (.val (.int v)))
    (k : Go p.tables e below P T (mkF m pc' Ls (.int v :: S))) : Go p.tables e below P T (mkF m pc Ls (S)) := by
  subst hp; exact Go.st (fun t q => XS.iloadN X.here hx rfl hd  hl q) k
theorem aload (X : Stand p l e R s m args below meth c T locs cells slots) (hx : p.tables.exec = Jvm.exec) {j : Nat} {v : Value} (hd : decode c.code pc = .ok (.aload j, 2)) (hp : pc' = pc + 2) (hl : Ls[j]? = some (.val v)) (hv : v.isRef = true)
    (k : Go p.tables e below P T (mkF m pc' Ls (v :: S))) : Go p.tables e below P T (mkF m pc Ls (S)) := by
  subst hp; exact Go.st (fun t q => XS.aload X.here hx rfl hd  hl hv q) k
theorem aloadN (X : Stand p l e R s m args below meth c T locs cells slots) (hx : p.tables.exec = Jvm.exec) {j : Fin 4} {v : Value} (hd : decode c.code pc = .ok (.aload_n j, 1)) (hp : pc' = pc + 1) (hl : Ls[j.val]? = some (.val v)) (hv : v.isRef = true)
    (k : Go p.tables e below P T (mkF m pc' Ls (v :: S))) : Go p.tables e below P T (mkF m pc Ls (S)) := by
  subst hp; exact Go.st (fun t q => XS.aloadN X.here hx rfl hd  hl hv q) k
theorem istore (X : Stand p l e R s m args below meth c T locs cells slots) (hx : p.tables.exec = Jvm.exec) {j : Nat} {v : Int32} {Ls' : Array Slot} (hd : decode c.code pc = .ok (.istore j, 2)) (hp : pc' = pc + 2) (hl : storeLocals Ls j (.int v) = some Ls')
    (k : Go p.tables e below P T (mkF m pc' Ls' (S))) : Go p.tables e below P T (mkF m pc Ls (.int v :: S)) := by
  subst hp; exact Go.st (fun t q => XS.istore X.here hx rfl hd rfl hl q) k
theorem istoreN (X : Stand p l e R s m args below meth c T locs cells slots) (hx : p.tables.exec = Jvm.exec) {j : Fin 4} {v : Int32} {Ls' : Array Slot} (hd : decode c.code pc = .ok (.istore_n j, 1)) (hp : pc' = pc + 1) (hl : storeLocals Ls j.val (.int v) = some Ls')
    (k : Go p.tables e below P T (mkF m pc' Ls' (S))) : Go p.tables e below P T (mkF m pc Ls (.int v :: S)) := by
  subst hp; exact Go.st (fun t q => XS.istoreN X.here hx rfl hd rfl hl q) k
theorem astore (X : Stand p l e R s m args below meth c T locs cells slots) (hx : p.tables.exec = Jvm.exec) {j : Nat} {v : Value} {Ls' : Array Slot} (hd : decode c.code pc = .ok (.astore j, 2)) (hp : pc' = pc + 2) (hv : v.isRef = true) (hl : storeLocals Ls j v = some Ls')
    (k : Go p.tables e below P T (mkF m pc' Ls' (S))) : Go p.tables e below P T (mkF m pc Ls (v :: S)) := by
  subst hp; exact Go.st (fun t q => XS.astore X.here hx rfl hd rfl hv hl q) k
theorem astoreN (X : Stand p l e R s m args below meth c T locs cells slots) (hx : p.tables.exec = Jvm.exec) {j : Fin 4} {v : Value} {Ls' : Array Slot} (hd : decode c.code pc = .ok (.astore_n j, 1)) (hp : pc' = pc + 1) (hv : v.isRef = true) (hl : storeLocals Ls j.val v = some Ls')
    (k : Go p.tables e below P T (mkF m pc' Ls' (S))) : Go p.tables e below P T (mkF m pc Ls (v :: S)) := by
  subst hp; exact Go.st (fun t q => XS.astoreN X.here hx rfl hd rfl hv hl q) k
theorem istoreG (X : Stand p l e R s m args below meth c T locs cells slots) (hx : p.tables.exec = Jvm.exec) {j : Nat} {v : Int32} {Ls' : Int32 → Array Slot} (hd : decode c.code pc = .ok (.istore j, 2)) (hp : pc' = pc + 2) (hl : ∀ u, storeLocals Ls j (.int u) = some (Ls' u))
    (k : ∀ u, u = v → Go p.tables e below P T (mkF m pc' (Ls' u) (S))) : Go p.tables e below P T (mkF m pc Ls (.int v :: S)) := istore X hx hd hp (hl v) (k v rfl)
theorem iconst (X : Stand p l e R s m args below meth c T locs cells slots) (hx : p.tables.exec = Jvm.exec) {i : Int} {v : Int32} (hd : decode c.code pc = .ok (.iconst i, 1)) (hp : pc' = pc + 1) (hv : Int32.ofInt i = v)
    (k : Go p.tables e below P T (mkF m pc' Ls (.int v :: S))) : Go p.tables e below P T (mkF m pc Ls (S)) := by
  subst hp hv; exact Go.st (fun t q => XS.iconst X.here hx rfl hd q) k
theorem bipush (X : Stand p l e R s m args below meth c T locs cells slots) (hx : p.tables.exec = Jvm.exec) {i : Int} {v : Int32} (hd : decode c.code pc = .ok (.bipush i, 2)) (hp : pc' = pc + 2) (hv : (Int8.ofInt i).toInt32 = v)
    (k : Go p.tables e below P T (mkF m pc' Ls (.int v :: S))) : Go p.tables e below P T (mkF m pc Ls (S)) := by
  subst hp hv; exact Go.st (fun t q => XS.bipush X.here hx rfl hd q) k
theorem sipush (X : Stand p l e R s m args below meth c T locs cells slots) (hx : p.tables.exec = Jvm.exec) {i : Int} {v : Int32} (hd : decode c.code pc = .ok (.sipush i, 3)) (hp : pc' = pc + 3) (hv : (Int16.ofInt i).toInt32 = v)
    (k : Go p.tables e below P T (mkF m pc' Ls (.int v :: S))) : Go p.tables e below P T (mkF m pc Ls (S)) := by
  subst hp hv; exact Go.st (fun t q => XS.sipush X.here hx rfl hd q) k
theorem aconstNull (X : Stand p l e R s m args below meth c T locs cells slots) (hx : p.tables.exec = Jvm.exec)  (hd : decode c.code pc = .ok (.aconst_null, 1)) (hp : pc' = pc + 1)
    (k : Go p.tables e below P T (mkF m pc' Ls (.null :: S))) : Go p.tables e below P T (mkF m pc Ls (S)) := by
  subst hp; exact Go.st (fun t q => XS.aconstNull X.here hx rfl hd   q) k
theorem iadd (X : Stand p l e R s m args below meth c T locs cells slots) (hx : p.tables.exec = Jvm.exec) {x y : Int32} (hd : decode c.code pc = .ok (.iadd, 1)) (hp : pc' = pc + 1)
    (k : Go p.tables e below P T (mkF m pc' Ls (.int (x + y) :: S))) : Go p.tables e below P T (mkF m pc Ls (.int y :: .int x :: S)) := by
  subst hp; exact Go.st (fun t q => XS.iadd X.here hx rfl hd rfl  q) k
theorem isub (X : Stand p l e R s m args below meth c T locs cells slots) (hx : p.tables.exec = Jvm.exec) {x y : Int32} (hd : decode c.code pc = .ok (.isub, 1)) (hp : pc' = pc + 1)
    (k : Go p.tables e below P T (mkF m pc' Ls (.int (x - y) :: S))) : Go p.tables e below P T (mkF m pc Ls (.int y :: .int x :: S)) := by
  subst hp; exact Go.st (fun t q => XS.isub X.here hx rfl hd rfl  q) k
theorem iand (X : Stand p l e R s m args below meth c T locs cells slots) (hx : p.tables.exec = Jvm.exec) {x y : Int32} (hd : decode c.code pc = .ok (.iand, 1)) (hp : pc' = pc + 1)
    (k : Go p.tables e below P T (mkF m pc' Ls (.int (x &&& y) :: S))) : Go p.tables e below P T (mkF m pc Ls (.int y :: .int x :: S)) := by
  subst hp; exact Go.st (fun t q => XS.iand X.here hx rfl hd rfl  q) k
theorem imul (X : Stand p l e R s m args below meth c T locs cells slots) (hx : p.tables.exec = Jvm.exec) {x y : Int32} (hd : decode c.code pc = .ok (.imul, 1)) (hp : pc' = pc + 1)
    (k : Go p.tables e below P T (mkF m pc' Ls (.int (x * y) :: S))) : Go p.tables e below P T (mkF m pc Ls (.int y :: .int x :: S)) := by
  subst hp; exact Go.st (fun t q => XS.imul X.here hx rfl hd rfl  q) k
theorem iushr (X : Stand p l e R s m args below meth c T locs cells slots) (hx : p.tables.exec = Jvm.exec) {x y : Int32} (hd : decode c.code pc = .ok (.iushr, 1)) (hp : pc' = pc + 1)
    (k : Go p.tables e below P T (mkF m pc' Ls (.int (XT.ushr x y) :: S))) : Go p.tables e below P T (mkF m pc Ls (.int y :: .int x :: S)) := by
  subst hp; exact Go.st (fun t q => XT.iushr X.here hx rfl hd rfl  q) k
theorem iaddL (X : Stand p l e R s m args below meth c T locs cells slots) (hx : p.tables.exec = Jvm.exec) {x y z : Int32} (hd : decode c.code pc = .ok (.iadd, 1)) (hp : pc' = pc + 1) (hz : (x + y) = z)
    (k : Go p.tables e below P T (mkF m pc' Ls (.int z :: S))) : Go p.tables e below P T (mkF m pc Ls (.int y :: .int x :: S)) := by
  subst hz; exact iadd X hx hd hp k
theorem isubL (X : Stand p l e R s m args below meth c T locs cells slots) (hx : p.tables.exec = Jvm.exec) {x y z : Int32} (hd : decode c.code pc = .ok (.isub, 1)) (hp : pc' = pc + 1) (hz : (x - y) = z)
    (k : Go p.tables e below P T (mkF m pc' Ls (.int z :: S))) : Go p.tables e below P T (mkF m pc Ls (.int y :: .int x :: S)) := by
  subst hz; exact isub X hx hd hp k
theorem iandL (X : Stand p l e R s m args below meth c T locs cells slots) (hx : p.tables.exec = Jvm.exec) {x y z : Int32} (hd : decode c.code pc = .ok (.iand, 1)) (hp : pc' = pc + 1) (hz : (x &&& y) = z)
    (k : Go p.tables e below P T (mkF m pc' Ls (.int z :: S))) : Go p.tables e below P T (mkF m pc Ls (.int y :: .int x :: S)) := by
  subst hz; exact iand X hx hd hp k
theorem imulL (X : Stand p l e R s m args below meth c T locs cells slots) (hx : p.tables.exec = Jvm.exec) {x y z : Int32} (hd : decode c.code pc = .ok (.imul, 1)) (hp : pc' = pc + 1) (hz : (x * y) = z)
    (k : Go p.tables e below P T (mkF m pc' Ls (.int z :: S))) : Go p.tables e below P T (mkF m pc Ls (.int y :: .int x :: S)) := by
  subst hz; exact imul X hx hd hp k
theorem iushrL (X : Stand p l e R s m args below meth c T locs cells slots) (hx : p.tables.exec = Jvm.exec) {x y z : Int32} (hd : decode c.code pc = .ok (.iushr, 1)) (hp : pc' = pc + 1) (hz : (XT.ushr x y) = z)
    (k : Go p.tables e below P T (mkF m pc' Ls (.int z :: S))) : Go p.tables e below P T (mkF m pc Ls (.int y :: .int x :: S)) := by
  subst hz; exact iushr X hx hd hp k
theorem irem (X : Stand p l e R s m args below meth c T locs cells slots) (hx : p.tables.exec = Jvm.exec) {x y : Int32} (hd : decode c.code pc = .ok (.irem, 1)) (hp : pc' = pc + 1) (hy : y ≠ 0)
    (k : Go p.tables e below P T (mkF m pc' Ls (.int (x % y) :: S))) : Go p.tables e below P T (mkF m pc Ls (.int y :: .int x :: S)) := by
  subst hp; exact Go.st (fun t q => iremM X hx rfl hd rfl hy q) k
theorem dup (X : Stand p l e R s m args below meth c T locs cells slots) (hx : p.tables.exec = Jvm.exec) {x : Value} (hd : decode c.code pc = .ok (.dup, 1)) (hp : pc' = pc + 1) (hc : x.category = 1)
    (k : Go p.tables e below P T (mkF m pc' Ls (x :: x :: S))) : Go p.tables e below P T (mkF m pc Ls (x :: S)) := by
  subst hp; exact Go.st (fun t q => XS.dup X.here hx rfl hd rfl hc q) k
theorem pop (X : Stand p l e R s m args below meth c T locs cells slots) (hx : p.tables.exec = Jvm.exec) {x : Value} (hd : decode c.code pc = .ok (.pop, 1)) (hp : pc' = pc + 1) (hc : x.category = 1)
    (k : Go p.tables e below P T (mkF m pc' Ls (S))) : Go p.tables e below P T (mkF m pc Ls (x :: S)) := by
  subst hp; exact Go.st (fun t q => XT.pop X.here hx rfl hd rfl hc q) k
theorem goto_ (X : Stand p l e R s m args below meth c T locs cells slots) (hx : p.tables.exec = Jvm.exec) {o : Int} (hd : decode c.code pc = .ok (.goto o, 3)) (ho : 0 ≤ (pc : Int) + o) (hp : ((pc : Int) + o).toNat = pc')
    (k : Go p.tables e below P T (mkF m pc' Ls (S))) : Go p.tables e below P T (mkF m pc Ls (S)) :=
  Go.st (fun t q => XS.goto X.here hx rfl rfl hd ho hp q) k
theorem h_lt (x y : Int32) : if_icmp.holds .lt x y = decide (x.toInt < y.toInt) := by simp [if_icmp.holds, Int32.lt_iff_toInt_lt]
theorem h_ge (x y : Int32) : if_icmp.holds .ge x y = decide (y.toInt ≤ x.toInt) := by simp [if_icmp.holds, Int32.le_iff_toInt_le]
theorem h_gt (x y : Int32) : if_icmp.holds .gt x y = decide (y.toInt < x.toInt) := by simp [if_icmp.holds, Int32.lt_iff_toInt_lt]
theorem h_ne (x y : Int32) : if_icmp.holds .ne x y = decide (¬ x.toInt = y.toInt) := by rw [Bool.eq_iff_iff]; simp [if_icmp.holds, Int32.toInt_inj]
theorem z_any (cd : ClassFile.Cond) (x : Int32) : ifCond.holds cd x = if_icmp.holds cd x 0 := by cases cd <;> simp [ifCond.holds, if_icmp.holds]
theorem z0 : (0 : Int32).toInt = 0 := by decide
theorem icmp_lt (X : Stand p l e R s m args below meth c T locs cells slots) (hx : p.tables.exec = Jvm.exec) {o : Int} {x y : Int32} {pcT : Nat} (hd : decode c.code pc = .ok (.if_icmp .lt o, 3)) (ho : 0 ≤ (pc : Int) + o) (hT : ((pc : Int) + o).toNat = pcT) (hp : pc' = pc + 3)
    (kt : x.toInt < y.toInt → Go p.tables e below P T (mkF m pcT Ls (S))) (kf : y.toInt ≤ x.toInt → Go p.tables e below P T (mkF m pc' Ls (S))) : Go p.tables e below P T (mkF m pc Ls (.int y :: .int x :: S)) := by
  subst hp
  by_cases q : x.toInt < y.toInt
  · exact Go.st (fun t r => XS.icmpYes X.here hx rfl rfl hd rfl (by rw [h_lt]; exact decide_eq_true q) ho hT r) (kt q)
  · exact Go.st (fun t r => XS.icmpNo X.here hx rfl hd rfl (by rw [h_lt]; exact decide_eq_false q) r) (kf (by omega))
theorem if_lt (X : Stand p l e R s m args below meth c T locs cells slots) (hx : p.tables.exec = Jvm.exec) {o : Int} {x : Int32} {pcT : Nat} (hd : decode c.code pc = .ok (.ifCond .lt o, 3)) (ho : 0 ≤ (pc : Int) + o) (hT : ((pc : Int) + o).toNat = pcT) (hp : pc' = pc + 3)
    (kt : x.toInt < 0 → Go p.tables e below P T (mkF m pcT Ls (S))) (kf : 0 ≤ x.toInt → Go p.tables e below P T (mkF m pc' Ls (S))) : Go p.tables e below P T (mkF m pc Ls (.int x :: S)) := by
  subst hp
  by_cases q : x.toInt < 0
  · exact Go.st (fun t r => XS.ifYes X.here hx rfl rfl hd rfl (by rw [z_any, h_lt, z0]; exact decide_eq_true q) ho hT r) (kt q)
  · exact Go.st (fun t r => XS.ifNo X.here hx rfl hd rfl (by rw [z_any, h_lt, z0]; exact decide_eq_false q) r) (kf (by omega))
theorem icmp_ge (X : Stand p l e R s m args below meth c T locs cells slots) (hx : p.tables.exec = Jvm.exec) {o : Int} {x y : Int32} {pcT : Nat} (hd : decode c.code pc = .ok (.if_icmp .ge o, 3)) (ho : 0 ≤ (pc : Int) + o) (hT : ((pc : Int) + o).toNat = pcT) (hp : pc' = pc + 3)
    (kt : y.toInt ≤ x.toInt → Go p.tables e below P T (mkF m pcT Ls (S))) (kf : x.toInt < y.toInt → Go p.tables e below P T (mkF m pc' Ls (S))) : Go p.tables e below P T (mkF m pc Ls (.int y :: .int x :: S)) := by
  subst hp
  by_cases q : y.toInt ≤ x.toInt
  · exact Go.st (fun t r => XS.icmpYes X.here hx rfl rfl hd rfl (by rw [h_ge]; exact decide_eq_true q) ho hT r) (kt q)
  · exact Go.st (fun t r => XS.icmpNo X.here hx rfl hd rfl (by rw [h_ge]; exact decide_eq_false q) r) (kf (by omega))
theorem icmp_gt (X : Stand p l e R s m args below meth c T locs cells slots) (hx : p.tables.exec = Jvm.exec) {o : Int} {x y : Int32} {pcT : Nat} (hd : decode c.code pc = .ok (.if_icmp .gt o, 3)) (ho : 0 ≤ (pc : Int) + o) (hT : ((pc : Int) + o).toNat = pcT) (hp : pc' = pc + 3)
    (kt : y.toInt < x.toInt → Go p.tables e below P T (mkF m pcT Ls (S))) (kf : x.toInt ≤ y.toInt → Go p.tables e below P T (mkF m pc' Ls (S))) : Go p.tables e below P T (mkF m pc Ls (.int y :: .int x :: S)) := by
  subst hp
  by_cases q : y.toInt < x.toInt
  · exact Go.st (fun t r => XS.icmpYes X.here hx rfl rfl hd rfl (by rw [h_gt]; exact decide_eq_true q) ho hT r) (kt q)
  · exact Go.st (fun t r => XS.icmpNo X.here hx rfl hd rfl (by rw [h_gt]; exact decide_eq_false q) r) (kf (by omega))
theorem icmp_ne (X : Stand p l e R s m args below meth c T locs cells slots) (hx : p.tables.exec = Jvm.exec) {o : Int} {x y : Int32} {pcT : Nat} (hd : decode c.code pc = .ok (.if_icmp .ne o, 3)) (ho : 0 ≤ (pc : Int) + o) (hT : ((pc : Int) + o).toNat = pcT) (hp : pc' = pc + 3)
    (kt : ¬ x.toInt = y.toInt → Go p.tables e below P T (mkF m pcT Ls (S))) (kf : x.toInt = y.toInt → Go p.tables e below P T (mkF m pc' Ls (S))) : Go p.tables e below P T (mkF m pc Ls (.int y :: .int x :: S)) := by
  subst hp
  by_cases q : ¬ x.toInt = y.toInt
  · exact Go.st (fun t r => XS.icmpYes X.here hx rfl rfl hd rfl (by rw [h_ne]; exact decide_eq_true q) ho hT r) (kt q)
  · exact Go.st (fun t r => XS.icmpNo X.here hx rfl hd rfl (by rw [h_ne]; exact decide_eq_false q) r) (kf (by omega))
theorem if_ne (X : Stand p l e R s m args below meth c T locs cells slots) (hx : p.tables.exec = Jvm.exec) {o : Int} {x : Int32} {pcT : Nat} (hd : decode c.code pc = .ok (.ifCond .ne o, 3)) (ho : 0 ≤ (pc : Int) + o) (hT : ((pc : Int) + o).toNat = pcT) (hp : pc' = pc + 3)
    (kt : ¬ x.toInt = 0 → Go p.tables e below P T (mkF m pcT Ls (S))) (kf : x.toInt = 0 → Go p.tables e below P T (mkF m pc' Ls (S))) : Go p.tables e below P T (mkF m pc Ls (.int x :: S)) := by
  subst hp
  by_cases q : ¬ x.toInt = 0
  · exact Go.st (fun t r => XS.ifYes X.here hx rfl rfl hd rfl (by rw [z_any, h_ne, z0]; exact decide_eq_true q) ho hT r) (kt q)
  · exact Go.st (fun t r => XS.ifNo X.here hx rfl hd rfl (by rw [z_any, h_ne, z0]; exact decide_eq_false q) r) (kf (by omega))
theorem ifnonnull_ (X : Stand p l e R s m args below meth c T locs cells slots) (hx : p.tables.exec = Jvm.exec) {o : Int} {v : Value} {pcT : Nat} (hd : decode c.code pc = .ok (.ifnonnull o, 3)) (hv : v.isRef = true) (ho : 0 ≤ (pc : Int) + o) (hT : ((pc : Int) + o).toNat = pcT) (hp : pc' = pc + 3)
    (kt : ¬ v = .null → Go p.tables e below P T (mkF m pcT Ls (S))) (kf : v = .null → Go p.tables e below P T (mkF m pc' Ls (S))) : Go p.tables e below P T (mkF m pc Ls (v :: S)) := by
  subst hp
  by_cases q : ¬ v = .null
  · exact Go.st (fun t r => XT.nonnullYes X.here hx rfl rfl hd rfl hv q ho hT r) (kt q)
  · exact Go.st (fun t r => XT.nonnullNo X.here hx rfl hd rfl (Classical.not_not.mp q) r) (kf (Classical.not_not.mp q))
theorem ifnonnull_ref (X : Stand p l e R s m args below meth c T locs cells slots) (hx : p.tables.exec = Jvm.exec) {o : Int} {a : Addr} {pcT : Nat} (hd : decode c.code pc = .ok (.ifnonnull o, 3)) (ho : 0 ≤ (pc : Int) + o) (hT : ((pc : Int) + o).toNat = pcT) (hp : pc' = pc + 3)
    (k : Go p.tables e below P T (mkF m pcT Ls (S))) : Go p.tables e below P T (mkF m pc Ls (.ref a :: S)) :=
  ifnonnull_ X hx hd rfl ho hT hp (fun _ => k) (fun q => nomatch q)
theorem ldcI (X : Stand p l e R s m args below meth c T locs cells slots) (hx : p.tables.exec = Jvm.exec) (hZ : Z.Warmed39 s.vm) {own : String} (hown : s.vm.findClass own = some m.cls) {i : Nat} {v : Int32} (w : (Cond.constant own i v).before a0 Z = true) (hd : decode c.code pc = .ok (.ldc i, 2)) (hp : pc' = pc + 2)
    (k : Go p.tables e below P T (mkF m pc' Ls (.int v :: S))) : Go p.tables e below P T (mkF m pc Ls (S)) := by
  subst hp; exact Go.st (X.ldcInt hx hown (mv hZ w) (g := mkF m pc Ls S) rfl hd) k
theorem getF_ (X : Stand p l e R s m args below meth c T locs cells slots) (hx : p.tables.exec = Jvm.exec) (hZ : Z.Warmed39 s.vm) {own : String} (hown : s.vm.findClass own = some m.cls) {R0 O n d host : String} {i : Nat} (w : (Cond.fieldLink own i R0 n d).before a0 Z = true ∨ (Cond.fieldLinkNest own i R0 n d host).before a0 Z = true) (via : Via Z R0 O n d) (eT : T.heap = h) {a : Addr} {v : Value} (F : Fld Z h a O n d v) (hd : decode c.code pc = .ok (.getfield i, 3)) (hp : pc' = pc + 3)
    (k : ∀ T', Stand p l e R s m args below meth c T' locs cells slots → T'.heap = h → Go p.tables e below P T' (mkF m pc' Ls (v :: S))) : Go p.tables e below P T (mkF m pc Ls (.ref a :: S)) := by
  subst hp
  obtain ⟨T', X', e', st⟩ := getF X hx hZ hown w via eT F (g := mkF m pc Ls (.ref a :: S)) rfl rfl hd
  exact Go.st st (k T' X' e')
theorem putF_ (X : Stand p l e R s m args below meth c T locs cells slots) (hx : p.tables.exec = Jvm.exec) (hZ : Z.Warmed39 s.vm) {own : String} (hown : s.vm.findClass own = some m.cls) {R0 O n d C : String} {i kk : Nat} {ty : FieldType} (w : (Cond.fieldLink own i R0 n d).before a0 Z = true) (via : Via Z R0 O n d) (eT : T.heap = h) {a : Addr} {v v' old : Value} (F : Fld Z h a O n d old) (E : Exa Z h a C) (L : (Cond.lays C O n d).before a0 Z = true ∨ ((Cond.laysFinal C O n d).before a0 Z = true ∧ own = O ∧ meth.name = "<init>")) (wi : (Cond.instantiable C kk).before a0 Z = true) (hty : parseFieldDescriptor d = some ty) (hn : narrow ty v = v') (hf : fits ty v' = true) (hd : decode c.code pc = .ok (.putfield i, 3)) (hp : pc' = pc + 3)
    (k : ∀ T' h', Stand p l e R s m args below meth c T' (locs ++ [⟨a, Jvm.RoadKit.slotOf Z O n d⟩]) cells slots → T'.heap = h' → Wr h h' a (Jvm.RoadKit.slotOf Z O n d) v' → Go p.tables e below P T' (mkF m pc' Ls (S))) : Go p.tables e below P T (mkF m pc Ls (v :: .ref a :: S)) := by
  subst hp
  obtain ⟨T', h', X', e', W', st⟩ := putFN X hx hZ hown w via eT F E L wi hty hn hf (g := mkF m pc Ls (v :: .ref a :: S)) rfl rfl hd
  exact Go.st st (k T' h' X' e' W')
theorem new_ (X : Stand p l e R s m args below meth c T locs cells slots) (hx : p.tables.exec = Jvm.exec) (hZ : Z.Warmed39 s.vm) {own : String} (hown : s.vm.findClass own = some m.cls) {C : String} {i n : Nat} (w : (Cond.classLink own i C).before a0 Z = true) (wi : (Cond.instantiable C n).before a0 Z = true) (wz : (Cond.initialized C).before a0 Z = true) (eT : T.heap = h) (hd : decode c.code pc = .ok (.new i, 3)) (hp : pc' = pc + 3) (hc : cells + 1 ≤ R.cells) (hl : slots + n ≤ R.slots)
    (k : ∀ T' h' a, Stand p l e R s m args below meth c T' locs (cells + 1) (slots + n) → T'.heap = h' → a = h.size → Ext h h' → Exa Z h' a C → (∀ {O nm d : String} {ty : FieldType}, Laid Z a0 C O nm d → parseFieldDescriptor d = some ty → Fld Z h' a O nm d (defaultValue ty)) → Go p.tables e below P T' (mkF m pc' Ls (.ref a :: S))) : Go p.tables e below P T (mkF m pc Ls (S)) := by
  subst hp
  obtain ⟨T', h', X', e', E', A', D', -, st⟩ := newO X hx hZ hown w wi wz eT (g := mkF m pc Ls S) rfl hd hc hl
  exact Go.st st (k T' h' _ X' e' rfl E' A' D')
theorem jin {j z : Int32} (h0 : 0 ≤ j.toInt) (h1 : j.toInt < z.toInt) : ¬ j < 0 ∧ j < z := ⟨fun q => by have := Int32.lt_iff_toInt_lt.mp q; rw [z0] at this; omega, Int32.lt_iff_toInt_lt.mpr h1⟩
theorem jnat {j : Int32} {i : Nat} (h : j.toInt = i) : j.toNatClampNeg = i := by
  have q : ¬ j < 0 := fun q => by have := Int32.lt_iff_toInt_lt.mp q; rw [z0] at this; omega
  have := nat_of q; omega
theorem newP_ (X : Stand p l e R s m args below meth c T locs cells slots) (hx : p.tables.exec = Jvm.exec) (hZ : Z.Warmed39 s.vm) {aty : ArrayType} (w : (Cond.arrayClass (newarray.typeOf aty)).before a0 Z = true) (eT : T.heap = h) (hd : decode c.code pc = .ok (.newarray aty, 2)) (hp : pc' = pc + 2) {n : Int32} (hn : 0 ≤ n.toInt) {cap : Nat} (hcap : n.toInt ≤ cap) (hb : cap * 8 ≤ 536870912) (hc : cells + 1 ≤ R.cells) (hl : slots + cap ≤ R.slots) {ad : String} (had : "[" ++ (newarray.typeOf aty).toString = ad)
    (k : ∀ T' h' a cA, Stand p l e R s m args below meth c T' locs (cells + 1) (slots + cap) → T'.heap = h' → a = h.size → Ext h h' → Arv Z h' a cA (newarray.typeOf aty) n [] (defaultValue (newarray.typeOf aty)) → Exa Z h' a ad → Go p.tables e below P T' (mkF m pc' Ls (.ref a :: S))) : Go p.tables e below P T (mkF m pc Ls (.int n :: S)) := by
  subst hp
  have hn' : ¬ n < 0 := fun z => by have := Int32.lt_iff_toInt_lt.mp z; rw [z0] at this; omega
  obtain ⟨T', h', cA, X', e', E', A', Q', st⟩ := newPE X hx hZ w eT (g := mkF m pc Ls (.int n :: S)) rfl hd rfl hn' (cap := cap) (by have := nat_of hn'; omega) hb hc hl had
  exact Go.st st (k T' h' _ cA X' e' rfl E' (Arv.new A' hn') Q')
theorem newRA_ (X : Stand p l e R s m args below meth c T locs cells slots) (hx : p.tables.exec = Jvm.exec) (hZ : Z.Warmed39 s.vm) {own : String} (hown : s.vm.findClass own = some m.cls) {C : String} {ty : FieldType} {i : Nat} (hC : (FieldType.array ty).toString = C) (w1 : (Cond.classLink own i C).before a0 Z = true) (w2 : (Cond.arrayOver (.array ty)).before a0 Z = true) (eT : T.heap = h) (hd : decode c.code pc = .ok (.anewarray i, 3)) (hp : pc' = pc + 3) {n : Int32} (hn : 0 ≤ n.toInt) {cap : Nat} (hcap : n.toInt ≤ cap) (hb : cap * 8 ≤ 536870912) (hc : cells + 1 ≤ R.cells) (hl : slots + cap ≤ R.slots) {ad : String} (had : "[" ++ C = ad)
    (k : ∀ T' h' a cA, Stand p l e R s m args below meth c T' locs (cells + 1) (slots + cap) → T'.heap = h' → a = h.size → Ext h h' → Arv Z h' a cA (.array ty) n [] .null → Exa Z h' a ad → OvrA Z cA ty C → Go p.tables e below P T' (mkF m pc' Ls (.ref a :: S))) : Go p.tables e below P T (mkF m pc Ls (.int n :: S)) := by
  subst hp
  have hn' : ¬ n < 0 := fun z => by have := Int32.lt_iff_toInt_lt.mp z; rw [z0] at this; omega
  obtain ⟨T', h', cA, X', e', E', A', Q', O', st⟩ := newRA X hx hZ hown hC w1 w2 eT (g := mkF m pc Ls (.int n :: S)) rfl hd rfl hn' (cap := cap) (by have := nat_of hn'; omega) hb hc hl had
  exact Go.st st (k T' h' _ cA X' e' rfl E' (Arv.new A' hn') Q' O')
theorem arraycopy_ (X : Stand p l e R s m args below meth c T locs cells slots) (hx : p.tables.exec = Jvm.exec) (hZ : Z.Warmed39 s.vm) {own : String} (hown : s.vm.findClass own = some m.cls) {i : Nat} (w1 : (Cond.methodLink own i Jvm.Stand.acN).before a0 Z = true) (w2 : (Cond.native Jvm.Stand.acN).before a0 Z = true) (w3 : (Cond.static Jvm.Stand.acN).before a0 Z = true) (w4 : (Cond.initialized "java/lang/System").before a0 Z = true) (eT : T.heap = h) {a b : Addr} {k k' : ClassId} {ty ty' : FieldType} {z z' sp dp nn : Int32} {vs vd us : List Value} {dv dd : Value} (A : Arv Z h a k ty z vs dv) (B : Arv Z h b k' ty' z' vd dd) (hty : (ty = ty' ∧ refKind ty = false) ∨ (refKind ty = true ∧ refKind ty' = true ∧ StoL Z h b us)) {x y n : Nat} (hx' : sp.toInt = x) (hy' : dp.toInt = y) (hn' : nn.toInt = n) (h4 : (x : Int) + n ≤ z.toInt) (h5 : (y : Int) + n ≤ z'.toInt) (hus : us = (List.range n).map fun i => vs.getD (x + i) dv) (hl : y + n ≤ vd.length) {n0 : Nat} (N : Fr n0 locs) (ge : n0 ≤ b) (hsize : Ls.size = c.maxLocals) (hd : decode c.code pc = .ok (.invokestatic i, 3)) (hp : pc' = pc + 3) (hf : 1 ≤ R.frames) {W : Nat} (hW : (S.map fun v => v.category).sum ≤ W) (hlo : W + (nativeFrameWords "java/lang/System" "arraycopy" 5 + 11) ≤ R.locals)
    (kk : ∀ T' h' L, Stand p l e R s m args below meth c T' L cells slots → T'.heap = h' → Fr n0 L → Keep h h' [b] → Arv Z h' b k' ty' z' (vd.take y ++ us ++ vd.drop (y + n)) dd → Go p.tables e below P T' (mkF m pc' Ls (S))) : Go p.tables e below P T (mkF m pc Ls (.int nn :: .int dp :: .ref b :: .int sp :: .ref a :: S)) := by
  subst hp
  have e1 := jnat hx'; have e2 := jnat hy'; have e3 := jnat hn'
  have n1 : ¬ sp < 0 := fun q => by have := Int32.lt_iff_toInt_lt.mp q; rw [z0] at this; omega
  have n2 : ¬ dp < 0 := fun q => by have := Int32.lt_iff_toInt_lt.mp q; rw [z0] at this; omega
  have n3 : ¬ nn < 0 := fun q => by have := Int32.lt_iff_toInt_lt.mp q; rw [z0] at this; omega
  have m1 : x + n ≤ z.toNatClampNeg := by obtain ⟨_, _, _, _, q, _⟩ := A; have := nat_of q; omega
  have m2 : y + n ≤ z'.toNatClampNeg := by obtain ⟨_, _, _, _, q, _⟩ := B; have := nat_of q; omega
  obtain ⟨T', h', L, X', e', N', K', B', st⟩ := cpA X hx hZ hown w1 w2 w3 w4 eT A B hty n1 n2 n3 (by rw [e1, e3]; exact m1) (by rw [e2, e3]; exact m2) (us := us) (by rw [hus, e1, e3]) (by rw [e2, e3]; exact hl) N ge (g := mkF m pc Ls (.int nn :: .int dp :: .ref b :: .int sp :: .ref a :: S)) rfl hsize rfl hd hf (W := W) (by show 2 * 0 + _ ≤ _; simpa using hW) hlo
  rw [e2, e3] at B'
  exact Go.st st (kk T' h' L X' e' N' K' B')
theorem iaload (X : Stand p l e R s m args below meth c T locs cells slots) (hx : p.tables.exec = Jvm.exec) (hZ : Z.Warmed39 s.vm) (eT : T.heap = h) {a : Addr} {kA : ClassId} {z j : Int32} {vs : List Value} {dv v : Value} (A : Arv Z h a kA .int z vs dv) (h0 : 0 ≤ j.toInt) (h1 : j.toInt < z.toInt) (hv : vs.getD j.toNatClampNeg dv = v) (hd : decode c.code pc = .ok (.iaload, 1)) (hp : pc' = pc + 1)
    (k : Go p.tables e below P T (mkF m pc' Ls (v :: S))) : Go p.tables e below P T (mkF m pc Ls (.int j :: .ref a :: S)) := by
  subst hp
  obtain ⟨cl, Ar, -, Sz, Nz, H, -⟩ := A
  have hin := inb_of Sz (jin h0 h1)
  exact Go.st (fun t q => X.iaload hx (j := j) (v := v) (by rw [eT]; exact Ar.1) (State.isArrayOf_alike hZ.alike Ar.2.1) Ar.2.2 hin (H.at hin hv) (g := mkF m pc Ls (.int j :: .ref a :: S)) rfl rfl hd t q) k
theorem aaload (X : Stand p l e R s m args below meth c T locs cells slots) (hx : p.tables.exec = Jvm.exec) (hZ : Z.Warmed39 s.vm) (eT : T.heap = h) {a : Addr} {kA : ClassId} {ty : FieldType} {z j : Int32} {vs : List Value} {dv v : Value} (A : Arv Z h a kA ty z vs dv) (hty : ty.isReference = true) (h0 : 0 ≤ j.toInt) (h1 : j.toInt < z.toInt) (hv : vs.getD j.toNatClampNeg dv = v) (hd : decode c.code pc = .ok (.aaload, 1)) (hp : pc' = pc + 1)
    (k : Go p.tables e below P T (mkF m pc' Ls (v :: S))) : Go p.tables e below P T (mkF m pc Ls (.int j :: .ref a :: S)) := by
  subst hp
  obtain ⟨cl, Ar, -, Sz, Nz, H, -⟩ := A
  have hin := inb_of Sz (jin h0 h1)
  exact Go.st (fun t q => X.aaload hx (j := j) (v := v) (by rw [eT]; exact Ar.1) (State.isArrayOf_alike hZ.alike Ar.2.1) hty Ar.2.2 hin (H.at hin hv) (g := mkF m pc Ls (.int j :: .ref a :: S)) rfl rfl hd t q) k
theorem arrlen (X : Stand p l e R s m args below meth c T locs cells slots) (hx : p.tables.exec = Jvm.exec) (hZ : Z.Warmed39 s.vm) (eT : T.heap = h) {a : Addr} {kA : ClassId} {ty : FieldType} {z : Int32} {vs : List Value} {dv : Value} (A : Arv Z h a kA ty z vs dv) (hd : decode c.code pc = .ok (.arraylength, 1)) (hp : pc' = pc + 1)
    (k : Go p.tables e below P T (mkF m pc' Ls (.int z :: S))) : Go p.tables e below P T (mkF m pc Ls (.ref a :: S)) := by
  subst hp
  obtain ⟨cl, Ar, -, Sz, Nz, H, -⟩ := A
  refine Go.st (fun t q => X.arraylength hx (by rw [eT]; exact Ar.1) (State.isArrayOf_alike hZ.alike Ar.2.1) (g := mkF m pc Ls (.ref a :: S)) rfl rfl hd t q) ?_
  rw [len_of Sz Nz]
  exact k
theorem iastore (X : Stand p l e R s m args below meth c T locs cells slots) (hx : p.tables.exec = Jvm.exec) (hZ : Z.Warmed39 s.vm) (eT : T.heap = h) {a : Addr} {kA : ClassId} {z j : Int32} {x : Int32} {vs : List Value} {dv : Value} (A : Arv Z h a kA .int z vs dv) {i : Nat} (hi : j.toInt = i) (hz : (i : Int) < z.toInt) (hl : i < vs.length) (hd : decode c.code pc = .ok (.iastore, 1)) (hp : pc' = pc + 1)
    (k : ∀ T' h', Stand p l e R s m args below meth c T' (locs ++ [⟨a, j.toNatClampNeg⟩]) cells slots → T'.heap = h' → Wr h h' a j.toNatClampNeg (.int x) → Arv Z h' a kA .int z (vs.set i (.int x)) dv → Go p.tables e below P T' (mkF m pc' Ls (S))) : Go p.tables e below P T (mkF m pc Ls (.int x :: .int j :: .ref a :: S)) := by
  subst hp
  obtain ⟨cl, Ar, q1, Sz, Nz, H, G⟩ := A
  have hin := inb_of Sz (jin (j := j) (z := z) (by omega) (by omega))
  obtain ⟨T', h', X', e', W', st⟩ := stI X hx hZ eT Ar (j := j) hin (g := mkF m pc Ls (.int x :: .int j :: .ref a :: S)) rfl rfl hd
  exact Go.st st (k T' h' X' e' W' (Arv.set Ar q1 Sz Nz H G rfl W' i (jnat hi) hl))
theorem aastore (X : Stand p l e R s m args below meth c T locs cells slots) (hx : p.tables.exec = Jvm.exec) (hZ : Z.Warmed39 s.vm) (eT : T.heap = h) {a : Addr} {kA : ClassId} {ty : FieldType} {z j : Int32} {v : Value} {vs : List Value} {dv : Value} (A : Arv Z h a kA ty z vs dv) (hty : ty.isReference = true) (hfv : fits ty v = true) (F : Sto Z h a v) {i : Nat} (hi : j.toInt = i) (hz : (i : Int) < z.toInt) (hl : i < vs.length) (hd : decode c.code pc = .ok (.aastore, 1)) (hp : pc' = pc + 1)
    (k : ∀ T' h', Stand p l e R s m args below meth c T' (locs ++ [⟨a, j.toNatClampNeg⟩]) cells slots → T'.heap = h' → Wr h h' a j.toNatClampNeg v → Arv Z h' a kA ty z (vs.set i v) dv → Go p.tables e below P T' (mkF m pc' Ls (S))) : Go p.tables e below P T (mkF m pc Ls (v :: .int j :: .ref a :: S)) := by
  subst hp
  obtain ⟨cl, Ar, q1, Sz, Nz, H, G⟩ := A
  have hin := inb_of Sz (jin (j := j) (z := z) (by omega) (by omega))
  obtain ⟨T', h', X', e', W', st⟩ := stR X hx hZ eT Ar (j := j) hin hty F (g := mkF m pc Ls (v :: .int j :: .ref a :: S)) rfl rfl hd
  exact Go.st st (k T' h' X' e' W' (Arv.set Ar q1 Sz Nz H G hfv W' i (jnat hi) hl))
theorem stoOfA {a y : Addr} {kA : ClassId} {ty t0 : FieldType} {z : Int32} {vs : List Value} {dv : Value} {C : String} (A : Arv Z h a kA ty z vs dv) (O : OvrA Z kA t0 C) (I : Ins Z h y C true) : Sto Z h a (.ref y) := by
  obtain ⟨c, Ar, q, _⟩ := A; exact Sto.ofVA Ar q O I
theorem initO_ (X : Stand p l e R s m args below meth c T locs cells slots) (hx : p.tables.exec = Jvm.exec) (hZ : Z.Warmed39 s.vm) {own : String} (hown : s.vm.findClass own = some m.cls) {i : Nat} (w1 : (Cond.methodLink own i Lib.objectInit).before a0 Z = true) (w2 : (Cond.instanceMethod Lib.objectInit).before a0 Z = true) (w3 : (Cond.code Lib.objectInit ⟨#[0xb1]⟩ 1 none).before a0 Z = true) (eT : T.heap = h) (hsize : Ls.size = c.maxLocals) {a : Addr} (hd : decode c.code pc = .ok (.invokespecial i, 3)) (hp : pc' = pc + 3) (hf : 1 ≤ R.frames) {W : Nat} (hW : (S.map fun v => v.category).sum ≤ W) (hl : W + 12 ≤ R.locals)
    (k : ∀ T', Stand p l e R s m args below meth c T' locs cells slots → T'.heap = h → Go p.tables e below P T' (mkF m pc' Ls (S))) : Go p.tables e below P T (mkF m pc Ls (.ref a :: S)) := by
  subst hp
  obtain ⟨T', X', e', st⟩ := initO X hx hZ hown w1 w2 w3 eT (g := mkF m pc Ls (.ref a :: S)) rfl hsize rfl hd hf (W := W) (by show 2 * 0 + _ ≤ _; simpa using hW) hl
  exact Go.st st (k T' X' e')
theorem callS_ (X : Stand p l e R s m args below meth c T locs cells slots) (hx : p.tables.exec = Jvm.exec) (hZ : Z.Warmed39 s.vm) {own : String} (hown : s.vm.findClass own = some m.cls) {y : MethodName} {i : Nat} {bytes : ByteArray} {maxL : Nat} {ret : Option FieldType} {rm : Room} {Q : Option Value → Heap → List Loc → Prop} {argsL S0 : List Value} (w1 : (Cond.methodLink own i y).before a0 Z = true) (w2 : (Cond.static y).before a0 Z = true) (w3 : (Cond.initialized y.cls).before a0 Z = true) (w4 : (Cond.code y bytes maxL ret).before a0 Z = true) (hy : y.cls ≠ "java/lang/invoke/MethodHandle" ∧ y.cls ≠ "java/lang/invoke/VarHandle") (hM : MetFree l y (head1 [Cond.code y bytes maxL ret] rm) (fun ar U => ar = argsL.toArray ∧ Z.Warmed39 U.vm ∧ U.heap = h) (fun _ _ _ _ _ => True) (fun _ U o U' => ∃ v L, o = .returned v ∧ Q v U'.heap L ∧ FrameEnd U o U' L rm.cells rm.slots)) (hf : rm.frames + 1 ≤ R.frames) {W : Nat} (hl : W + (maxL + 11) + rm.locals ≤ R.locals) (eT : T.heap = h) (hsize : Ls.size = c.maxLocals) {ps : List FieldType} {rt : Option FieldType} (hdesc : parseMethodDescriptor y.desc = some ⟨ps, rt⟩) (hlen : argsL.length = ps.length) (hS : S0 = argsL.reverse ++ S) (hW : (S.map fun v => v.category).sum ≤ W) (hd : decode c.code pc = .ok (.invokestatic i, 3)) (hp : pc' = pc + 3) (hc : cells + rm.cells ≤ R.cells) (hs : slots + rm.slots ≤ R.slots)
    (k : ∀ T' v L, Stand p l e R s m args below meth c T' (locs ++ L) (cells + rm.cells) (slots + rm.slots) → Q v T'.heap L → Go p.tables e below P T' (mkF m pc' Ls (v.toList ++ S))) : Go p.tables e below P T (mkF m pc Ls (S0)) := by
  subst hp hS
  obtain ⟨v, vm₁, ⟨T', L', k', n'⟩, -, X', ⟨L, hQ, l', y', z'⟩, st⟩ := Jvm.LawKit.callS X hx hown (mvT hZ w1) (mvT hZ w2) (mvT hZ w3) (mvT hZ w4) hy (backOf (W := W) hM hZ w4 w3 hf hl) (g := mkF m pc Ls (argsL.reverse ++ S)) rfl hsize (argsL := argsL) (rest := S) (lenOf hdesc hlen) rfl (by show 2 * 0 + _ ≤ _; simpa using hW) hd (fun _ _ => ⟨rfl, eT, hc, hs⟩)
  dsimp only [Pt.U, Pt.locs, Pt.cells, Pt.slots] at X' l' y' z' st hQ
  subst l' y' z'
  exact Go.st st (k T' v L X' hQ)
theorem callI_ (X : Stand p l e R s m args below meth c T locs cells slots) (hx : p.tables.exec = Jvm.exec) (hZ : Z.Warmed39 s.vm) {own : String} (hown : s.vm.findClass own = some m.cls) {y : MethodName} {i : Nat} {a : Addr} {bytes : ByteArray} {maxL : Nat} {ret : Option FieldType} {rm : Room} {Q : Option Value → Heap → List Loc → Prop} {argsL S0 : List Value} (hy1 : y.name = "<init>") (w1 : (Cond.methodLink own i y).before a0 Z = true) (w2 : (Cond.instanceMethod y).before a0 Z = true) (w3 : (Cond.initialized y.cls).before a0 Z = true) (w4 : (Cond.code y bytes maxL none).before a0 Z = true) (hret : ret = none) (hy : y.cls ≠ "java/lang/invoke/MethodHandle" ∧ y.cls ≠ "java/lang/invoke/VarHandle") (hM : MetFree l y (head1 [Cond.code y bytes maxL ret] rm) (fun ar U => ar = (.ref a :: argsL).toArray ∧ Z.Warmed39 U.vm ∧ U.heap = h) (fun _ _ _ _ _ => True) (fun _ U o U' => ∃ v L, o = .returned v ∧ Q v U'.heap L ∧ FrameEnd U o U' L rm.cells rm.slots)) (hf : rm.frames + 1 ≤ R.frames) {W : Nat} (hl : W + (maxL + 11) + rm.locals ≤ R.locals) (eT : T.heap = h) (hsize : Ls.size = c.maxLocals) {ps : List FieldType} {rt : Option FieldType} (hdesc : parseMethodDescriptor y.desc = some ⟨ps, rt⟩) (hlen : argsL.length = ps.length) (hS : S0 = argsL.reverse ++ .ref a :: S) (hW : (S.map fun v => v.category).sum ≤ W) (hd : decode c.code pc = .ok (.invokespecial i, 3)) (hp : pc' = pc + 3) (hc : cells + rm.cells ≤ R.cells) (hs : slots + rm.slots ≤ R.slots)
    (k : ∀ T' v L, Stand p l e R s m args below meth c T' (locs ++ L) (cells + rm.cells) (slots + rm.slots) → Q v T'.heap L → Go p.tables e below P T' (mkF m pc' Ls (v.toList ++ S))) : Go p.tables e below P T (mkF m pc Ls (S0)) := by
  subst hp hS hret
  obtain ⟨v, vm₁, ⟨T', L', k', n'⟩, -, X', ⟨L, hQ, l', y', z'⟩, st⟩ := X.specialBack hx hy1 hown (mvT hZ w1) (mvT hZ w2) (mvT hZ w4) hy (backOf (W := W) hM hZ w4 w3 hf hl) (g := mkF m pc Ls (argsL.reverse ++ .ref a :: S)) rfl hsize (Steps.refl _) (a := a) (argsL := argsL) (rest := S) (lenOf hdesc hlen) rfl (by show 2 * 0 + _ ≤ _; simpa using hW) hd (fun _ _ => ⟨rfl, eT, hc, hs⟩)
  dsimp only [Pt.U, Pt.locs, Pt.cells, Pt.slots] at X' l' y' z' st hQ
  subst l' y' z'
  exact Go.st1 st (k T' v L X' hQ)
theorem callV_ (X : Stand p l e R s m args below meth c T locs cells slots) (hx : p.tables.exec = Jvm.exec) (hZ : Z.Warmed39 s.vm) {own : String} (hown : s.vm.findClass own = some m.cls) {C : String} {y z : MethodName} {i : Nat} {a : Addr} {bytes : ByteArray} {maxL : Nat} {ret : Option FieldType} {rm : Room} {Q : Option Value → Heap → List Loc → Prop} {argsL S0 : List Value} (w1 : (Cond.methodLink own i y).before a0 Z = true) (w2 : (Cond.declares y).before a0 Z = true) (nf : NotFace s y) (w3 : (Cond.selects C y z).before a0 Z = true) (w4 : (Cond.instanceMethod z).before a0 Z = true) (w5 : (Cond.code z bytes maxL ret).before a0 Z = true) (w6 : (Cond.initialized z.cls).before a0 Z = true) (hy : y.cls ≠ "java/lang/invoke/MethodHandle" ∧ y.cls ≠ "java/lang/invoke/VarHandle") (E : Exa Z h a C) (hM : MetFree l z (head1 [Cond.code z bytes maxL ret] rm) (fun ar U => ar = (.ref a :: argsL).toArray ∧ Z.Warmed39 U.vm ∧ U.heap = h) (fun _ _ _ _ _ => True) (fun _ U o U' => ∃ v L, o = .returned v ∧ Q v U'.heap L ∧ FrameEnd U o U' L rm.cells rm.slots)) (hf : rm.frames + 1 ≤ R.frames) {W : Nat} (hl : W + (maxL + 11) + rm.locals ≤ R.locals) (eT : T.heap = h) (hsize : Ls.size = c.maxLocals) {ps : List FieldType} {rt : Option FieldType} (hdesc : parseMethodDescriptor y.desc = some ⟨ps, rt⟩) (hlen : argsL.length = ps.length) (hS : S0 = argsL.reverse ++ .ref a :: S) (hW : (S.map fun v => v.category).sum ≤ W) (hd : decode c.code pc = .ok (.invokevirtual i, 3)) (hp : pc' = pc + 3) (hc : cells + rm.cells ≤ R.cells) (hs : slots + rm.slots ≤ R.slots)
    (k : ∀ T' v L, Stand p l e R s m args below meth c T' (locs ++ L) (cells + rm.cells) (slots + rm.slots) → Q v T'.heap L → Go p.tables e below P T' (mkF m pc' Ls (v.toList ++ S))) : Go p.tables e below P T (mkF m pc Ls (S0)) := by
  subst hp hS
  obtain ⟨cq, kq, qa, qb, qc⟩ := isOf hZ eT E
  obtain ⟨v, vm₁, ⟨T', L', k', n'⟩, -, X', ⟨L, hQ, l', y', z'⟩, st⟩ := X.virtualBack hx hown (mvT hZ w1) (mvT hZ w2) nf (mvT hZ w3) (mvT hZ w4) hy (backOf (W := W) hM hZ w5 w6 hf hl) qa qc (g := mkF m pc Ls (argsL.reverse ++ .ref a :: S)) rfl hsize (Steps.refl _) (argsL := argsL) (rest := S) (lenOf hdesc hlen) rfl (by show 2 * 0 + _ ≤ _; simpa using hW) hd (fun _ _ => ⟨rfl, eT, hc, hs⟩)
  dsimp only [Pt.U, Pt.locs, Pt.cells, Pt.slots] at X' l' y' z' st hQ
  subst l' y' z'
  exact Go.st1 st (k T' v L X' hQ)
theorem selfSel {y z : MethodName} {a : Array Value} (hc : z.cls = y.cls) (wz : (Cond.selects z.cls z z).before a s = true) (hpriv : s.PrivateAt y) (hinst : (Cond.instanceMethod y).before a s = true) (hy : y.cls ≠ "java/lang/invoke/MethodHandle" ∧ y.cls ≠ "java/lang/invoke/VarHandle") : (Cond.selects y.cls y y).before a s = true := by
  obtain ⟨c2, r2, m2, -, -, q3, -, kP, hkP, hkPi⟩ := Cond.selects_spec wz
  exact selects_self_of_private (by rw [← hc]; exact findClass_of_methodNamed q3) hkP hkPi hpriv hinst hy
theorem callP_ (X : Stand p l e R s m args below meth c T locs cells slots) (hx : p.tables.exec = Jvm.exec) (hZ : Z.Warmed39 s.vm) {own : String} (hown : s.vm.findClass own = some m.cls) {y z : MethodName} {i : Nat} {a : Addr} {C : String} {bytes : ByteArray} {maxL : Nat} {ret : Option FieldType} {rm : Room} {Q : Option Value → Heap → List Loc → Prop} {argsL S0 : List Value} (w1 : (Cond.methodLink own i y).before a0 Z = true) (w2 : (Cond.instanceMethod y).before a0 Z = true) (hcl : z.cls = y.cls) (wz : (Cond.selects z.cls z z).before a0 Z = true) (w3 : (Cond.privateMethod y).before a0 Z = true) (w4 : (Cond.code y bytes maxL ret).before a0 Z = true) (w5 : (Cond.initialized y.cls).before a0 Z = true) (hy : y.cls ≠ "java/lang/invoke/MethodHandle" ∧ y.cls ≠ "java/lang/invoke/VarHandle") (E : Exa Z h a C) (hM : MetFree l y (head1 [Cond.code y bytes maxL ret] rm) (fun ar U => ar = (.ref a :: argsL).toArray ∧ Z.Warmed39 U.vm ∧ U.heap = h) (fun _ _ _ _ _ => True) (fun _ U o U' => ∃ v L, o = .returned v ∧ Q v U'.heap L ∧ FrameEnd U o U' L rm.cells rm.slots)) (hf : rm.frames + 1 ≤ R.frames) {W : Nat} (hl : W + (maxL + 11) + rm.locals ≤ R.locals) (eT : T.heap = h) (hsize : Ls.size = c.maxLocals) {ps : List FieldType} {rt : Option FieldType} (hdesc : parseMethodDescriptor y.desc = some ⟨ps, rt⟩) (hlen : argsL.length = ps.length) (hS : S0 = argsL.reverse ++ .ref a :: S) (hW : (S.map fun v => v.category).sum ≤ W) (hd : decode c.code pc = .ok (.invokevirtual i, 3)) (hp : pc' = pc + 3) (hc : cells + rm.cells ≤ R.cells) (hs : slots + rm.slots ≤ R.slots)
    (k : ∀ T' v L, Stand p l e R s m args below meth c T' (locs ++ L) (cells + rm.cells) (slots + rm.slots) → Q v T'.heap L → Go p.tables e below P T' (mkF m pc' Ls (v.toList ++ S))) : Go p.tables e below P T (mkF m pc Ls (S0)) := by
  subst hp hS
  obtain ⟨cq, q1, q2⟩ := E.cell
  have hpr := Cond.privateMethod_at (mvP hZ w3 (args := args))
  obtain ⟨v, vm₁, ⟨T', L', k', n'⟩, -, X', ⟨L, hQ, l', y', z'⟩, st⟩ := X.privateBack hx hown (mvT hZ w1) (mvT hZ w2) (selfSel hcl (mvT hZ wz) hpr (mvT hZ w2) hy) hpr (mvT hZ w4) hy (backOf (W := W) hM hZ w4 w5 hf hl) (g := mkF m pc Ls (argsL.reverse ++ .ref a :: S)) rfl hsize (Steps.refl _) (a := a) (by rw [eT]; exact q1) q2 (argsL := argsL) (rest := S) (lenOf hdesc hlen) rfl (by show 2 * 0 + _ ≤ _; simpa using hW) hd (fun _ _ => ⟨rfl, eT, hc, hs⟩)
  dsimp only [Pt.U, Pt.locs, Pt.cells, Pt.slots] at X' l' y' z' st hQ
  subst l' y' z'
  exact Go.st1 st (k T' v L X' hQ)
theorem met {y : MethodName} {bytes : ByteArray} {maxL : Nat} {ret : Option FieldType} {rm : Room} {as' : Array Value} {Q : Option Value → Heap → List Loc → Prop} {ws : List Jvm.Cond} {C N : Nat} (hpl : plainFor y = true) (ef : ∀ m, entryFrame m as' maxL = mkF m 0 Ls [])
    (body : ∀ (p : Program) (e : Env) (s : State) (m : MethodId) (below : List Frame) (meth : Method) (c : Code) (T : State), Stand p l e rm s m as' below meth c T [] 0 0 → p.tables.exec = Jvm.exec → Z.Warmed39 s.vm → c.code = bytes → c.maxLocals = maxL → s.vm.findClass y.cls = some m.cls → meth.name = y.name → meth.sig.returnType = ret → meth.locks = false → T.heap = h →
      Go p.tables e below (PQ s Q C N) T (mkF m 0 Ls [])) :
    MetFree l y (head1 (Cond.code y bytes maxL ret :: ws) rm) (fun a U => a = as' ∧ Z.Warmed39 U.vm ∧ U.heap = h) (fun _ _ _ _ _ => True) (fun _ U o U' => ∃ v L, o = .returned v ∧ Q v U'.heap L ∧ FrameEnd U o U' L C N) := by
  refine MetFree.of_bodySF hpl hisR ?_
  intro p e s m args below meth c s₁ Bd hml0 hP hK
  obtain ⟨rfl, hZ, hh⟩ := hP
  have e0 : s₁.heap = h := by rw [← hh, Bd.state]; rfl
  obtain ⟨s₂, o, h1, h2⟩ := body p e s m below meth c s₁ (Stand.of_body Bd) Bd.exec hZ Bd.bytes hml0 (findClass_of_methodNamed Bd.named) (name_of_methodNamed Bd.named Bd.method).1 Bd.returns Bd.notSynchronized e0
  exact ⟨s₂, o, castTop (ef m) h1, h2⟩
theorem ret_ (X : Stand p l e R s m args below meth c T locs cells slots) (hx : p.tables.exec = Jvm.exec) {Q : Option Value → Heap → List Loc → Prop} {C N : Nat} {w : Value} {t : FieldType} {i : Instr} (hret : meth.sig.returnType = some t) (hlk : meth.locks = false) (hn : narrow t w = w)
    (hi : (i = .ireturn ∧ (t = .int ∨ t = .boolean ∨ t = .byte ∨ t = .char ∨ t = .short) ∧ ∃ z, w = .int z) ∨ (i = .lreturn ∧ t = .long ∧ ∃ z, w = .long z) ∨ (i = .dreturn ∧ t = .double ∧ ∃ z, w = .double z) ∨ (i = .freturn ∧ t = .float ∧ ∃ z, w = .float z) ∨ (i = .areturn ∧ t.isReference = true ∧ w.isRef = true))
    (hd : decode c.code pc = .ok (i, 1)) (hC : cells ≤ C) (hN : slots ≤ N) (q : Q (some w) T.heap locs) : Go p.tables e below (PQ s Q C N) T (mkF m pc Ls (w :: S)) := by
  obtain ⟨fs, hr, hrun, hended, hW, hsame⟩ := X.leave (v := some w) (fun h => by rw [hret] at h; cases h) hlk
  exact ⟨_, _, retOut X hx hret hn hi hd hr, hrun, hended, _, _, rfl, q, ⟨_, rfl⟩, hW, hsame.mono hC hN⟩
theorem retI_ (X : Stand p l e R s m args below meth c T locs cells slots) (hx : p.tables.exec = Jvm.exec) {Q : Option Value → Heap → List Loc → Prop} {C N : Nat} {z : Int32} (hret : meth.sig.returnType = some .int) (hlk : meth.locks = false) (hd : decode c.code pc = .ok (.ireturn, 1)) (hC : cells ≤ C) (hN : slots ≤ N) (q : Q (some (.int z)) T.heap locs) : Go p.tables e below (PQ s Q C N) T (mkF m pc Ls (.int z :: S)) :=
  ret_ X hx hret hlk rfl (Or.inl ⟨rfl, Or.inl rfl, z, rfl⟩) hd hC hN q
theorem retA_ (X : Stand p l e R s m args below meth c T locs cells slots) (hx : p.tables.exec = Jvm.exec) {Q : Option Value → Heap → List Loc → Prop} {C N : Nat} {w : Value} {t : FieldType} (hret : meth.sig.returnType = some t) (ht : t.isReference = true) (hw : w.isRef = true) (hlk : meth.locks = false) (hd : decode c.code pc = .ok (.areturn, 1)) (hC : cells ≤ C) (hN : slots ≤ N) (q : Q (some w) T.heap locs) : Go p.tables e below (PQ s Q C N) T (mkF m pc Ls (w :: S)) :=
  ret_ X hx hret hlk (by cases t <;> first | (cases ht; done) | rfl) (Or.inr (Or.inr (Or.inr (Or.inr ⟨rfl, ht, hw⟩)))) hd hC hN q
theorem retN_ (X : Stand p l e R s m args below meth c T locs cells slots) (hx : p.tables.exec = Jvm.exec) {Q : Option Value → Heap → List Loc → Prop} {C N : Nat} {z : Int32} {t : FieldType} (hret : meth.sig.returnType = some t) (ht : t = .boolean ∨ t = .byte ∨ t = .char ∨ t = .short) (hlk : meth.locks = false) (hd : decode c.code pc = .ok (.ireturn, 1)) (hC : cells ≤ C) (hN : slots ≤ N) (q : Q (some (.int (nar t z))) T.heap locs) : Go p.tables e below (PQ s Q C N) T (mkF m pc Ls (.int z :: S)) := by
  obtain ⟨fs, hr, hrun, hended, hW, hsame⟩ := X.leave (v := some (.int (nar t z))) (fun h => by rw [hret] at h; cases h) hlk
  exact ⟨_, _, retN X hx hret ht hd hr, hrun, hended, _, _, rfl, q, ⟨_, rfl⟩, hW, hsame.mono hC hN⟩
theorem retV_ (X : Stand p l e R s m args below meth c T locs cells slots) (hx : p.tables.exec = Jvm.exec) {Q : Option Value → Heap → List Loc → Prop} {C N : Nat} (hret : meth.sig.returnType = none) (hlk : meth.locks = false) (hd : decode c.code pc = .ok (.return_, 1)) (hC : cells ≤ C) (hN : slots ≤ N) (q : Q none T.heap locs) : Go p.tables e below (PQ s Q C N) T (mkF m pc Ls []) := by
  obtain ⟨fs, hr, hrun, hended, hW, hsame⟩ := X.leave (v := none) (fun _ => rfl) hlk
  exact ⟨_, _, X.returnOut hx hret hd hr, hrun, hended, _, _, rfl, q, ⟨_, rfl⟩, hW, hsame.mono hC hN⟩
end Steps
end Jvm.OwnK
namespace Jvm.Pilot.@@N@@
open Jvm Jvm.ClassFile Sem Op Lib Jvm.Free Jvm.Stand Jvm.LawKit Jvm.RoadKit Bundle Jvm.Pilot.@@N@@.Jvm.D
theorem own_ef_10n (p1 : Int32) (p2 : Int32)  (m : MethodId) : entryFrame m #[(.int p1), (.int p2), .null] 3 = mkF m 0 #[.val (.int p1), .val (.int p2), .val .null] [] := by first | (simp [entryFrame, mkF, argsToLocals, Value.category]; done) | rfl
theorem own_d10_0 : decode jdk_41_method_11_code 0 = .ok (.iload_n 0, 1) := by decide +kernel
theorem own_d10_1 : decode jdk_41_method_11_code 1 = .ok (.ifCond .lt 8, 3) := by decide +kernel
theorem own_d10_4 : decode jdk_41_method_11_code 4 = .ok (.iload_n 0, 1) := by decide +kernel
theorem own_d10_5 : decode jdk_41_method_11_code 5 = .ok (.iload_n 1, 1) := by decide +kernel
theorem own_d10_6 : decode jdk_41_method_11_code 6 = .ok (.if_icmp .lt 10, 3) := by decide +kernel
theorem own_d10_16 : decode jdk_41_method_11_code 16 = .ok (.iload_n 0, 1) := by decide +kernel
theorem own_d10_17 : decode jdk_41_method_11_code 17 = .ok (.ireturn, 1) := by decide +kernel
theorem own_pl_10 : plainFor (⟨"jdk/internal/util/Preconditions", "checkIndex", "(IILjava/util/function/BiFunction;)I"⟩ : MethodName) = true := plainFor_of_name (by first | (simp [plainName, overriddenIn]; done) | decide +kernel)
theorem own_ef_9 (p1 : Int32) (p2 : Int32)  (m : MethodId) : entryFrame m #[(.int p1), (.int p2)] 2 = mkF m 0 #[.val (.int p1), .val (.int p2)] [] := by first | (simp [entryFrame, mkF, argsToLocals, Value.category]; done) | rfl
theorem own_d9_0 : decode jdk_31_method_17_code 0 = .ok (.iload_n 0, 1) := by decide +kernel
theorem own_d9_1 : decode jdk_31_method_17_code 1 = .ok (.iload_n 1, 1) := by decide +kernel
theorem own_d9_2 : decode jdk_31_method_17_code 2 = .ok (.aconst_null, 1) := by decide +kernel
theorem own_d9_3 : decode jdk_31_method_17_code 3 = .ok (.invokestatic 105, 3) := by decide +kernel
theorem own_pd_6 : parseMethodDescriptor "(IILjava/util/function/BiFunction;)I" = some ⟨[.int, .int, (.object "java/util/function/BiFunction")], some .int⟩ := by decide +kernel
theorem own_d9_6 : decode jdk_31_method_17_code 6 = .ok (.ireturn, 1) := by decide +kernel
theorem own_pl_9 : plainFor (⟨"java/util/Objects", "checkIndex", "(II)I"⟩ : MethodName) = true := plainFor_of_name (by first | (simp [plainName, overriddenIn]; done) | decide +kernel)
theorem own_ef_1 (p1 : Addr)  (m : MethodId) : entryFrame m #[(.ref p1)] 1 = mkF m 0 #[.val (.ref p1)] [] := by first | (simp [entryFrame, mkF, argsToLocals, Value.category]; done) | rfl
theorem own_d1_0 : decode prog_9_method_1_code 0 = .ok (.aload_n 0, 1) := by decide +kernel
theorem own_d1_1 : decode prog_9_method_1_code 1 = .ok (.invokespecial 3, 3) := by decide +kernel
theorem own_d1_4 : decode prog_9_method_1_code 4 = .ok (.aload_n 0, 1) := by decide +kernel
theorem own_d1_5 : decode prog_9_method_1_code 5 = .ok (.iconst 1, 1) := by decide +kernel
theorem own_d1_6 : decode prog_9_method_1_code 6 = .ok (.anewarray 9, 3) := by decide +kernel
theorem own_d1_9 : decode prog_9_method_1_code 9 = .ok (.dup, 1) := by decide +kernel
theorem own_d1_10 : decode prog_9_method_1_code 10 = .ok (.iconst 0, 1) := by decide +kernel
theorem own_d1_11 : decode prog_9_method_1_code 11 = .ok (.bipush 16, 2) := by decide +kernel
theorem own_d1_13 : decode prog_9_method_1_code 13 = .ok (.newarray .int, 2) := by decide +kernel
theorem own_d1_15 : decode prog_9_method_1_code 15 = .ok (.aastore, 1) := by decide +kernel
theorem own_d1_16 : decode prog_9_method_1_code 16 = .ok (.putfield 11, 3) := by decide +kernel
theorem own_d1_19 : decode prog_9_method_1_code 19 = .ok (.return_, 1) := by decide +kernel
theorem own_pl_1 : plainFor (⟨"com/example/strict_reach/strictreach/IntList", "<init>", "()V"⟩ : MethodName) = true := plainFor_of_name (by first | (simp [plainName, overriddenIn]; done) | decide +kernel)
theorem own_ef_4 (p1 : Addr)  (m : MethodId) : entryFrame m #[(.ref p1)] 3 = mkF m 0 #[.val (.ref p1), .unset, .unset] [] := by first | (simp [entryFrame, mkF, argsToLocals, Value.category]; done) | rfl
theorem own_d4_0 : decode prog_9_method_9_code 0 = .ok (.aload_n 0, 1) := by decide +kernel
theorem own_d4_1 : decode prog_9_method_9_code 1 = .ok (.getfield 19, 3) := by decide +kernel
theorem own_d4_4 : decode prog_9_method_9_code 4 = .ok (.ldc 42, 2) := by decide +kernel
theorem own_d4_6 : decode prog_9_method_9_code 6 = .ok (.if_icmp .ne 13, 3) := by decide +kernel
theorem own_d4_19 : decode prog_9_method_9_code 19 = .ok (.aload_n 0, 1) := by decide +kernel
theorem own_d4_20 : decode prog_9_method_9_code 20 = .ok (.getfield 19, 3) := by decide +kernel
theorem own_d4_23 : decode prog_9_method_9_code 23 = .ok (.bipush 12, 2) := by decide +kernel
theorem own_d4_25 : decode prog_9_method_9_code 25 = .ok (.iushr, 1) := by decide +kernel
theorem own_d4_26 : decode prog_9_method_9_code 26 = .ok (.istore_n 1, 1) := by decide +kernel
theorem own_d4_27 : decode prog_9_method_9_code 27 = .ok (.iload_n 1, 1) := by decide +kernel
theorem own_d4_28 : decode prog_9_method_9_code 28 = .ok (.aload_n 0, 1) := by decide +kernel
theorem own_d4_29 : decode prog_9_method_9_code 29 = .ok (.getfield 11, 3) := by decide +kernel
theorem own_d4_32 : decode prog_9_method_9_code 32 = .ok (.arraylength, 1) := by decide +kernel
theorem own_d4_33 : decode prog_9_method_9_code 33 = .ok (.if_icmp .ne 24, 3) := by decide +kernel
theorem own_d4_57 : decode prog_9_method_9_code 57 = .ok (.aload_n 0, 1) := by decide +kernel
theorem own_d4_58 : decode prog_9_method_9_code 58 = .ok (.getfield 11, 3) := by decide +kernel
theorem own_d4_61 : decode prog_9_method_9_code 61 = .ok (.iload_n 1, 1) := by decide +kernel
theorem own_d4_62 : decode prog_9_method_9_code 62 = .ok (.aaload, 1) := by decide +kernel
theorem own_d4_63 : decode prog_9_method_9_code 63 = .ok (.astore_n 2, 1) := by decide +kernel
theorem own_d4_64 : decode prog_9_method_9_code 64 = .ok (.aload_n 2, 1) := by decide +kernel
theorem own_d4_65 : decode prog_9_method_9_code 65 = .ok (.ifnonnull 19, 3) := by decide +kernel
theorem own_d4_84 : decode prog_9_method_9_code 84 = .ok (.aload_n 0, 1) := by decide +kernel
theorem own_d4_85 : decode prog_9_method_9_code 85 = .ok (.getfield 19, 3) := by decide +kernel
theorem own_d4_88 : decode prog_9_method_9_code 88 = .ok (.sipush 4095, 3) := by decide +kernel
theorem own_d4_91 : decode prog_9_method_9_code 91 = .ok (.iand, 1) := by decide +kernel
theorem own_d4_92 : decode prog_9_method_9_code 92 = .ok (.aload_n 2, 1) := by decide +kernel
theorem own_d4_93 : decode prog_9_method_9_code 93 = .ok (.arraylength, 1) := by decide +kernel
theorem own_d4_94 : decode prog_9_method_9_code 94 = .ok (.if_icmp .ne 19, 3) := by decide +kernel
theorem own_d4_113 : decode prog_9_method_9_code 113 = .ok (.aload_n 2, 1) := by decide +kernel
theorem own_d4_114 : decode prog_9_method_9_code 114 = .ok (.areturn, 1) := by decide +kernel
theorem own_pl_4 : plainFor (⟨"com/example/strict_reach/strictreach/IntList", "room", "()[I"⟩ : MethodName) = true := plainFor_of_name (by first | (simp [plainName, overriddenIn]; done) | decide +kernel)
theorem own_ef_3 (p1 : Addr) (p2 : Int32)  (m : MethodId) : entryFrame m #[(.ref p1), (.int p2)] 2 = mkF m 0 #[.val (.ref p1), .val (.int p2)] [] := by first | (simp [entryFrame, mkF, argsToLocals, Value.category]; done) | rfl
theorem own_d3_0 : decode prog_9_method_2_code 0 = .ok (.aload_n 0, 1) := by decide +kernel
theorem own_d3_1 : decode prog_9_method_2_code 1 = .ok (.invokevirtual 15, 3) := by decide +kernel
theorem own_pd_1 : parseMethodDescriptor "()[I" = some ⟨[], some (.array .int)⟩ := by decide +kernel
theorem own_d3_4 : decode prog_9_method_2_code 4 = .ok (.aload_n 0, 1) := by decide +kernel
theorem own_d3_5 : decode prog_9_method_2_code 5 = .ok (.getfield 19, 3) := by decide +kernel
theorem own_d3_8 : decode prog_9_method_2_code 8 = .ok (.sipush 4095, 3) := by decide +kernel
theorem own_d3_11 : decode prog_9_method_2_code 11 = .ok (.iand, 1) := by decide +kernel
theorem own_d3_12 : decode prog_9_method_2_code 12 = .ok (.iload_n 1, 1) := by decide +kernel
theorem own_d3_13 : decode prog_9_method_2_code 13 = .ok (.iastore, 1) := by decide +kernel
theorem own_d3_14 : decode prog_9_method_2_code 14 = .ok (.aload_n 0, 1) := by decide +kernel
theorem own_d3_15 : decode prog_9_method_2_code 15 = .ok (.dup, 1) := by decide +kernel
theorem own_d3_16 : decode prog_9_method_2_code 16 = .ok (.getfield 19, 3) := by decide +kernel
theorem own_d3_19 : decode prog_9_method_2_code 19 = .ok (.iconst 1, 1) := by decide +kernel
theorem own_d3_20 : decode prog_9_method_2_code 20 = .ok (.iadd, 1) := by decide +kernel
theorem own_d3_21 : decode prog_9_method_2_code 21 = .ok (.putfield 19, 3) := by decide +kernel
theorem own_d3_24 : decode prog_9_method_2_code 24 = .ok (.return_, 1) := by decide +kernel
theorem own_pl_3 : plainFor (⟨"com/example/strict_reach/strictreach/IntList", "add", "(I)V"⟩ : MethodName) = true := plainFor_of_name (by first | (simp [plainName, overriddenIn]; done) | decide +kernel)
theorem own_ef_11 (p1 : Addr) (p2 : Int32)  (m : MethodId) : entryFrame m #[(.ref p1), (.int p2)] 2 = mkF m 0 #[.val (.ref p1), .val (.int p2)] [] := by first | (simp [entryFrame, mkF, argsToLocals, Value.category]; done) | rfl
theorem own_d11_0 : decode prog_9_method_4_code 0 = .ok (.iload_n 1, 1) := by decide +kernel
theorem own_d11_1 : decode prog_9_method_4_code 1 = .ok (.aload_n 0, 1) := by decide +kernel
theorem own_d11_2 : decode prog_9_method_4_code 2 = .ok (.getfield 19, 3) := by decide +kernel
theorem own_d11_5 : decode prog_9_method_4_code 5 = .ok (.invokestatic 35, 3) := by decide +kernel
theorem own_pd_4 : parseMethodDescriptor "(II)I" = some ⟨[.int, .int], some .int⟩ := by decide +kernel
theorem own_d11_8 : decode prog_9_method_4_code 8 = .ok (.pop, 1) := by decide +kernel
theorem own_d11_9 : decode prog_9_method_4_code 9 = .ok (.aload_n 0, 1) := by decide +kernel
theorem own_d11_10 : decode prog_9_method_4_code 10 = .ok (.getfield 11, 3) := by decide +kernel
theorem own_d11_13 : decode prog_9_method_4_code 13 = .ok (.iload_n 1, 1) := by decide +kernel
theorem own_d11_14 : decode prog_9_method_4_code 14 = .ok (.bipush 12, 2) := by decide +kernel
theorem own_d11_16 : decode prog_9_method_4_code 16 = .ok (.iushr, 1) := by decide +kernel
theorem own_d11_17 : decode prog_9_method_4_code 17 = .ok (.aaload, 1) := by decide +kernel
theorem own_d11_18 : decode prog_9_method_4_code 18 = .ok (.iload_n 1, 1) := by decide +kernel
theorem own_d11_19 : decode prog_9_method_4_code 19 = .ok (.sipush 4095, 3) := by decide +kernel
theorem own_d11_22 : decode prog_9_method_4_code 22 = .ok (.iand, 1) := by decide +kernel
theorem own_d11_23 : decode prog_9_method_4_code 23 = .ok (.iaload, 1) := by decide +kernel
theorem own_d11_24 : decode prog_9_method_4_code 24 = .ok (.ireturn, 1) := by decide +kernel
theorem own_pl_11 : plainFor (⟨"com/example/strict_reach/strictreach/IntList", "get", "(I)I"⟩ : MethodName) = true := plainFor_of_name (by first | (simp [plainName, overriddenIn]; done) | decide +kernel)
theorem own_ef_8 (p1 : Addr) (p2 : Int32) (p3 : Int32)  (m : MethodId) : entryFrame m #[(.ref p1), (.int p2), (.int p3)] 3 = mkF m 0 #[.val (.ref p1), .val (.int p2), .val (.int p3)] [] := by first | (simp [entryFrame, mkF, argsToLocals, Value.category]; done) | rfl
theorem own_d8_0 : decode prog_9_method_5_code 0 = .ok (.iload_n 1, 1) := by decide +kernel
theorem own_d8_1 : decode prog_9_method_5_code 1 = .ok (.aload_n 0, 1) := by decide +kernel
theorem own_d8_2 : decode prog_9_method_5_code 2 = .ok (.getfield 19, 3) := by decide +kernel
theorem own_d8_5 : decode prog_9_method_5_code 5 = .ok (.invokestatic 35, 3) := by decide +kernel
theorem own_d8_8 : decode prog_9_method_5_code 8 = .ok (.pop, 1) := by decide +kernel
theorem own_d8_9 : decode prog_9_method_5_code 9 = .ok (.aload_n 0, 1) := by decide +kernel
theorem own_d8_10 : decode prog_9_method_5_code 10 = .ok (.getfield 11, 3) := by decide +kernel
theorem own_d8_13 : decode prog_9_method_5_code 13 = .ok (.iload_n 1, 1) := by decide +kernel
theorem own_d8_14 : decode prog_9_method_5_code 14 = .ok (.bipush 12, 2) := by decide +kernel
theorem own_d8_16 : decode prog_9_method_5_code 16 = .ok (.iushr, 1) := by decide +kernel
theorem own_d8_17 : decode prog_9_method_5_code 17 = .ok (.aaload, 1) := by decide +kernel
theorem own_d8_18 : decode prog_9_method_5_code 18 = .ok (.iload_n 1, 1) := by decide +kernel
theorem own_d8_19 : decode prog_9_method_5_code 19 = .ok (.sipush 4095, 3) := by decide +kernel
theorem own_d8_22 : decode prog_9_method_5_code 22 = .ok (.iand, 1) := by decide +kernel
theorem own_d8_23 : decode prog_9_method_5_code 23 = .ok (.iload_n 2, 1) := by decide +kernel
theorem own_d8_24 : decode prog_9_method_5_code 24 = .ok (.iastore, 1) := by decide +kernel
theorem own_d8_25 : decode prog_9_method_5_code 25 = .ok (.return_, 1) := by decide +kernel
theorem own_pl_8 : plainFor (⟨"com/example/strict_reach/strictreach/IntList", "set", "(II)V"⟩ : MethodName) = true := plainFor_of_name (by first | (simp [plainName, overriddenIn]; done) | decide +kernel)
theorem own_ef_6 (p1 : Int32) (p2 : Int32)  (m : MethodId) : entryFrame m #[(.int p1), (.int p2)] 2 = mkF m 0 #[.val (.int p1), .val (.int p2)] [] := by first | (simp [entryFrame, mkF, argsToLocals, Value.category]; done) | rfl
theorem own_d6_0 : decode jdk_29_method_69_code 0 = .ok (.iload_n 0, 1) := by decide +kernel
theorem own_d6_1 : decode jdk_29_method_69_code 1 = .ok (.iload_n 1, 1) := by decide +kernel
theorem own_d6_2 : decode jdk_29_method_69_code 2 = .ok (.if_icmp .gt 7, 3) := by decide +kernel
theorem own_d6_9 : decode jdk_29_method_69_code 9 = .ok (.iload_n 1, 1) := by decide +kernel
theorem own_d6_10 : decode jdk_29_method_69_code 10 = .ok (.ireturn, 1) := by decide +kernel
theorem own_d6_5 : decode jdk_29_method_69_code 5 = .ok (.iload_n 0, 1) := by decide +kernel
theorem own_d6_6 : decode jdk_29_method_69_code 6 = .ok (.goto 4, 3) := by decide +kernel
theorem own_pl_6 : plainFor (⟨"java/lang/Math", "min", "(II)I"⟩ : MethodName) = true := Jvm.Free.JP.mathPlain rfl (by decide +kernel)
theorem own_ef_7_32 (p1 : Addr)  (m : MethodId) : entryFrame m #[(.ref p1), (.int (32 : Int32))] 3 = mkF m 0 #[.val (.ref p1), .val (.int (32 : Int32)), .unset] [] := by first | (simp [entryFrame, mkF, argsToLocals, Value.category]; done) | rfl
theorem own_d7_0 : decode jdk_65_method_123_code 0 = .ok (.iload_n 1, 1) := by decide +kernel
theorem own_d7_1 : decode jdk_65_method_123_code 1 = .ok (.aload_n 0, 1) := by decide +kernel
theorem own_d7_2 : decode jdk_65_method_123_code 2 = .ok (.arraylength, 1) := by decide +kernel
theorem own_d7_3 : decode jdk_65_method_123_code 3 = .ok (.if_icmp .ne 11, 3) := by decide +kernel
theorem own_d7_14 : decode jdk_65_method_123_code 14 = .ok (.iload_n 1, 1) := by decide +kernel
theorem own_d7_15 : decode jdk_65_method_123_code 15 = .ok (.newarray .int, 2) := by decide +kernel
theorem own_d7_17 : decode jdk_65_method_123_code 17 = .ok (.astore_n 2, 1) := by decide +kernel
theorem own_d7_18 : decode jdk_65_method_123_code 18 = .ok (.aload_n 0, 1) := by decide +kernel
theorem own_d7_19 : decode jdk_65_method_123_code 19 = .ok (.iconst 0, 1) := by decide +kernel
theorem own_d7_20 : decode jdk_65_method_123_code 20 = .ok (.aload_n 2, 1) := by decide +kernel
theorem own_d7_21 : decode jdk_65_method_123_code 21 = .ok (.iconst 0, 1) := by decide +kernel
theorem own_d7_22 : decode jdk_65_method_123_code 22 = .ok (.aload_n 0, 1) := by decide +kernel
theorem own_d7_23 : decode jdk_65_method_123_code 23 = .ok (.arraylength, 1) := by decide +kernel
theorem own_d7_24 : decode jdk_65_method_123_code 24 = .ok (.iload_n 1, 1) := by decide +kernel
theorem own_d7_25 : decode jdk_65_method_123_code 25 = .ok (.invokestatic 304, 3) := by decide +kernel
theorem own_d7_28 : decode jdk_65_method_123_code 28 = .ok (.invokestatic 150, 3) := by decide +kernel
theorem own_d7_31 : decode jdk_65_method_123_code 31 = .ok (.aload_n 2, 1) := by decide +kernel
theorem own_d7_32 : decode jdk_65_method_123_code 32 = .ok (.areturn, 1) := by decide +kernel
theorem own_pl_7 : plainFor (⟨"java/util/Arrays", "copyOf", "([II)[I"⟩ : MethodName) = true := plainFor_of_name (by first | (simp [plainName, overriddenIn]; done) | decide +kernel)
theorem own_d4_97 : decode prog_9_method_9_code 97 = .ok (.aload_n 2, 1) := by decide +kernel
theorem own_d4_98 : decode prog_9_method_9_code 98 = .ok (.iconst 2, 1) := by decide +kernel
theorem own_d4_99 : decode prog_9_method_9_code 99 = .ok (.aload_n 2, 1) := by decide +kernel
theorem own_d4_100 : decode prog_9_method_9_code 100 = .ok (.arraylength, 1) := by decide +kernel
theorem own_d4_101 : decode prog_9_method_9_code 101 = .ok (.imul, 1) := by decide +kernel
theorem own_d4_102 : decode prog_9_method_9_code 102 = .ok (.invokestatic 57, 3) := by decide +kernel
theorem own_pd_9 : parseMethodDescriptor "([II)[I" = some ⟨[(.array .int), .int], some (.array .int)⟩ := by decide +kernel
theorem own_d4_105 : decode prog_9_method_9_code 105 = .ok (.astore_n 2, 1) := by decide +kernel
theorem own_d4_106 : decode prog_9_method_9_code 106 = .ok (.aload_n 0, 1) := by decide +kernel
theorem own_d4_107 : decode prog_9_method_9_code 107 = .ok (.getfield 11, 3) := by decide +kernel
theorem own_d4_110 : decode prog_9_method_9_code 110 = .ok (.iload_n 1, 1) := by decide +kernel
theorem own_d4_111 : decode prog_9_method_9_code 111 = .ok (.aload_n 2, 1) := by decide +kernel
theorem own_d4_112 : decode prog_9_method_9_code 112 = .ok (.aastore, 1) := by decide +kernel
theorem own_ef_5 (p1 : Addr) (p2 : Addr)  (m : MethodId) : entryFrame m #[(.ref p1), (.ref p2)] 8 = mkF m 0 #[.val (.ref p1), .val (.ref p2), .unset, .unset, .unset, .unset, .unset, .unset] [] := by first | (simp [entryFrame, mkF, argsToLocals, Value.category]; done) | rfl
theorem own_d5_0 : decode prog_9_method_3_code 0 = .ok (.iconst 0, 1) := by decide +kernel
theorem own_d5_1 : decode prog_9_method_3_code 1 = .ok (.istore_n 2, 1) := by decide +kernel
theorem own_d5_2 : decode prog_9_method_3_code 2 = .ok (.iload_n 2, 1) := by decide +kernel
theorem own_d5_3 : decode prog_9_method_3_code 3 = .ok (.aload_n 1, 1) := by decide +kernel
theorem own_d5_4 : decode prog_9_method_3_code 4 = .ok (.getfield 19, 3) := by decide +kernel
theorem own_d5_7 : decode prog_9_method_3_code 7 = .ok (.if_icmp .ge 92, 3) := by decide +kernel
theorem own_d5_10 : decode prog_9_method_3_code 10 = .ok (.aload_n 0, 1) := by decide +kernel
theorem own_d5_11 : decode prog_9_method_3_code 11 = .ok (.invokevirtual 15, 3) := by decide +kernel
theorem own_d5_14 : decode prog_9_method_3_code 14 = .ok (.astore_n 3, 1) := by decide +kernel
theorem own_d5_15 : decode prog_9_method_3_code 15 = .ok (.aload_n 0, 1) := by decide +kernel
theorem own_d5_16 : decode prog_9_method_3_code 16 = .ok (.getfield 19, 3) := by decide +kernel
theorem own_d5_19 : decode prog_9_method_3_code 19 = .ok (.sipush 4095, 3) := by decide +kernel
theorem own_d5_22 : decode prog_9_method_3_code 22 = .ok (.iand, 1) := by decide +kernel
theorem own_d5_23 : decode prog_9_method_3_code 23 = .ok (.istore 4, 2) := by decide +kernel
theorem own_d5_25 : decode prog_9_method_3_code 25 = .ok (.aload_n 1, 1) := by decide +kernel
theorem own_d5_26 : decode prog_9_method_3_code 26 = .ok (.getfield 11, 3) := by decide +kernel
theorem own_d5_29 : decode prog_9_method_3_code 29 = .ok (.iload_n 2, 1) := by decide +kernel
theorem own_d5_30 : decode prog_9_method_3_code 30 = .ok (.bipush 12, 2) := by decide +kernel
theorem own_d5_32 : decode prog_9_method_3_code 32 = .ok (.iushr, 1) := by decide +kernel
theorem own_d5_33 : decode prog_9_method_3_code 33 = .ok (.aaload, 1) := by decide +kernel
theorem own_d5_34 : decode prog_9_method_3_code 34 = .ok (.astore 5, 2) := by decide +kernel
theorem own_d5_36 : decode prog_9_method_3_code 36 = .ok (.iload_n 2, 1) := by decide +kernel
theorem own_d5_37 : decode prog_9_method_3_code 37 = .ok (.sipush 4095, 3) := by decide +kernel
theorem own_d5_40 : decode prog_9_method_3_code 40 = .ok (.iand, 1) := by decide +kernel
theorem own_d5_41 : decode prog_9_method_3_code 41 = .ok (.istore 6, 2) := by decide +kernel
theorem own_d5_43 : decode prog_9_method_3_code 43 = .ok (.aload_n 1, 1) := by decide +kernel
theorem own_d5_44 : decode prog_9_method_3_code 44 = .ok (.getfield 19, 3) := by decide +kernel
theorem own_d5_47 : decode prog_9_method_3_code 47 = .ok (.iload_n 2, 1) := by decide +kernel
theorem own_d5_48 : decode prog_9_method_3_code 48 = .ok (.isub, 1) := by decide +kernel
theorem own_d5_49 : decode prog_9_method_3_code 49 = .ok (.aload_n 3, 1) := by decide +kernel
theorem own_d5_50 : decode prog_9_method_3_code 50 = .ok (.arraylength, 1) := by decide +kernel
theorem own_d5_51 : decode prog_9_method_3_code 51 = .ok (.iload 4, 2) := by decide +kernel
theorem own_d5_53 : decode prog_9_method_3_code 53 = .ok (.isub, 1) := by decide +kernel
theorem own_d5_54 : decode prog_9_method_3_code 54 = .ok (.aload 5, 2) := by decide +kernel
theorem own_d5_56 : decode prog_9_method_3_code 56 = .ok (.arraylength, 1) := by decide +kernel
theorem own_d5_57 : decode prog_9_method_3_code 57 = .ok (.iload 6, 2) := by decide +kernel
theorem own_d5_59 : decode prog_9_method_3_code 59 = .ok (.isub, 1) := by decide +kernel
theorem own_d5_60 : decode prog_9_method_3_code 60 = .ok (.invokestatic 23, 3) := by decide +kernel
theorem own_d5_63 : decode prog_9_method_3_code 63 = .ok (.invokestatic 23, 3) := by decide +kernel
theorem own_d5_66 : decode prog_9_method_3_code 66 = .ok (.istore 7, 2) := by decide +kernel
theorem own_d5_68 : decode prog_9_method_3_code 68 = .ok (.aload 5, 2) := by decide +kernel
theorem own_d5_70 : decode prog_9_method_3_code 70 = .ok (.iload 6, 2) := by decide +kernel
theorem own_d5_72 : decode prog_9_method_3_code 72 = .ok (.aload_n 3, 1) := by decide +kernel
theorem own_d5_73 : decode prog_9_method_3_code 73 = .ok (.iload 4, 2) := by decide +kernel
theorem own_d5_75 : decode prog_9_method_3_code 75 = .ok (.iload 7, 2) := by decide +kernel
theorem own_d5_77 : decode prog_9_method_3_code 77 = .ok (.invokestatic 29, 3) := by decide +kernel
theorem own_d5_80 : decode prog_9_method_3_code 80 = .ok (.aload_n 0, 1) := by decide +kernel
theorem own_d5_81 : decode prog_9_method_3_code 81 = .ok (.dup, 1) := by decide +kernel
theorem own_d5_82 : decode prog_9_method_3_code 82 = .ok (.getfield 19, 3) := by decide +kernel
theorem own_d5_85 : decode prog_9_method_3_code 85 = .ok (.iload 7, 2) := by decide +kernel
theorem own_d5_87 : decode prog_9_method_3_code 87 = .ok (.iadd, 1) := by decide +kernel
theorem own_d5_88 : decode prog_9_method_3_code 88 = .ok (.putfield 19, 3) := by decide +kernel
theorem own_d5_91 : decode prog_9_method_3_code 91 = .ok (.iload_n 2, 1) := by decide +kernel
theorem own_d5_92 : decode prog_9_method_3_code 92 = .ok (.iload 7, 2) := by decide +kernel
theorem own_d5_94 : decode prog_9_method_3_code 94 = .ok (.iadd, 1) := by decide +kernel
theorem own_d5_95 : decode prog_9_method_3_code 95 = .ok (.istore_n 2, 1) := by decide +kernel
theorem own_d5_96 : decode prog_9_method_3_code 96 = .ok (.goto (-94), 3) := by decide +kernel
theorem own_d5_99 : decode prog_9_method_3_code 99 = .ok (.return_, 1) := by decide +kernel
theorem own_pl_5 : plainFor (⟨"com/example/strict_reach/strictreach/IntList", "addAll", "(Lcom/example/strict_reach/strictreach/IntList;)V"⟩ : MethodName) = true := plainFor_of_name (by first | (simp [plainName, overriddenIn]; done) | decide +kernel)
theorem own_ef_0 (p0 : Int32) (p1 : Int32) (p2 : Int32) (p3 : Int32) (p4 : Int32)  (m : MethodId) : entryFrame m #[(.int p0), (.int p1), (.int p2), (.int p3), (.int p4)] maxLocals = mkF m 0 #[.val (.int p0), .val (.int p1), .val (.int p2), .val (.int p3), .val (.int p4), .unset, .unset, .unset, .unset, .unset] [] := by first | (simp [entryFrame, mkF, argsToLocals, Value.category, maxLocals]; done) | rfl
theorem own_pd_0 : parseMethodDescriptor "()V" = some ⟨[], none⟩ := by decide +kernel
theorem own_pd_3 : parseMethodDescriptor "(I)V" = some ⟨[.int], none⟩ := by decide +kernel
theorem own_pd_7 : parseMethodDescriptor "(Lcom/example/strict_reach/strictreach/IntList;)V" = some ⟨[(.object "com/example/strict_reach/strictreach/IntList")], none⟩ := by decide +kernel
theorem own_pd_5 : parseMethodDescriptor "(II)V" = some ⟨[.int, .int], none⟩ := by decide +kernel
theorem own_pd_2 : parseMethodDescriptor "(I)I" = some ⟨[.int], some .int⟩ := by decide +kernel
theorem own_pl_0 : plainFor x = true := plainFor_of_name (by first | (simp [plainName, overriddenIn]; done) | decide +kernel)
def own_IL (Z : State) (h : Heap) (a B K : Addr) (kB kK : ClassId) (sz cap : Int32) (vs : List Value) : Prop := Exa Z h a "com/example/strict_reach/strictreach/IntList" ∧ Fld Z h a "com/example/strict_reach/strictreach/IntList" "size" "I" (.int sz) ∧ Fld Z h a "com/example/strict_reach/strictreach/IntList" "blocks" "[[I" (.ref B) ∧ Arv Z h B kB (.array .int) (1 : Int32) [.ref K] .null ∧ Arv Z h K kK .int cap vs (.int (0 : Int32)) ∧ Exa Z h B "[[I" ∧ Exa Z h K "[I" ∧ OvrA Z kB .int "[I" ∧ a ≠ B ∧ a ≠ K ∧ B ≠ K
theorem own_sh {x : Int32} (h0 : 0 ≤ x.toInt) (h1 : x.toInt < 4096) : XT.ushr x (12 : Int32) = 0 := by
  have e : (XT.ushr x (12 : Int32)).toInt = x.toInt / 2 ^ 12 := Jvm.Kit.i32_iushr (Jvm.Kit.i32_nonneg.mpr h0) (n := ((12 : Int32) &&& 31).toUInt32) (k := 12) (by decide) (by decide)
  refine Int32.toInt_inj.mp ?_
  rw [e]
  show x.toInt / 4096 = 0
  omega
theorem own_an {x : Int32} (h0 : 0 ≤ x.toInt) (h1 : x.toInt < 4096) : (x &&& (4095 : Int32)) = x := by
  refine Int32.toInt_inj.mp ?_
  rw [Jvm.Kit.i32_mask x 4095 (k := 12) (by decide) (by decide)]
  omega
theorem own_inc {x : Int32} (h0 : 0 ≤ x.toInt) (h1 : x.toInt < 4096) : (x + (1 : Int32)).toInt = x.toInt + 1 := XT.add32 (y := 1) (by show XT.fits32 (x.toInt + 1); unfold XT.fits32; omega)
def own_v (i j : Nat) (x y z : Int32) : Int32 := if i = j then z else if i % 2 = 0 then x else y
theorem own_vz {i j : Nat} {x y z : Int32} (h : i = j) : own_v i j x y z = z := if_pos h
theorem own_vx {i j : Nat} {x y z : Int32} (h : i ≠ j ∧ i % 2 = 0) : own_v i j x y z = x := (if_neg h.1).trans (if_pos h.2)
theorem own_vy {i j : Nat} {x y z : Int32} (h : i ≠ j ∧ ¬ i % 2 = 0) : own_v i j x y z = y := (if_neg h.1).trans (if_neg h.2)
theorem own_xy (x y : Int32) : ∀ i, i < 26 → ([(.int x), (.int y), (.int x), (.int y), (.int x), (.int y), (.int x), (.int y), (.int x), (.int y), (.int x), (.int y), (.int x), (.int y), (.int x), (.int y), (.int x), (.int y), (.int x), (.int y), (.int x), (.int y), (.int x), (.int y), (.int x), (.int y), (.int (0 : Int32)), (.int (0 : Int32)), (.int (0 : Int32)), (.int (0 : Int32)), (.int (0 : Int32)), (.int (0 : Int32))] : List Value).getD i (.int (0 : Int32)) = .int (if i % 2 = 0 then x else y) := fun i hi => by
  have q : i = 0 ∨ i = 1 ∨ i = 2 ∨ i = 3 ∨ i = 4 ∨ i = 5 ∨ i = 6 ∨ i = 7 ∨ i = 8 ∨ i = 9 ∨ i = 10 ∨ i = 11 ∨ i = 12 ∨ i = 13 ∨ i = 14 ∨ i = 15 ∨ i = 16 ∨ i = 17 ∨ i = 18 ∨ i = 19 ∨ i = 20 ∨ i = 21 ∨ i = 22 ∨ i = 23 ∨ i = 24 ∨ i = 25 := by omega
  rcases q with rfl | rfl | rfl | rfl | rfl | rfl | rfl | rfl | rfl | rfl | rfl | rfl | rfl | rfl | rfl | rfl | rfl | rfl | rfl | rfl | rfl | rfl | rfl | rfl | rfl | rfl <;> rfl
theorem own_get (x y z : Int32) {i j : Nat} (hi : i < 26) (hj : j < 26) : (([(.int x), (.int y), (.int x), (.int y), (.int x), (.int y), (.int x), (.int y), (.int x), (.int y), (.int x), (.int y), (.int x), (.int y), (.int x), (.int y), (.int x), (.int y), (.int x), (.int y), (.int x), (.int y), (.int x), (.int y), (.int x), (.int y), (.int (0 : Int32)), (.int (0 : Int32)), (.int (0 : Int32)), (.int (0 : Int32)), (.int (0 : Int32)), (.int (0 : Int32))] : List Value).set j (.int z)).getD i (.int (0 : Int32)) = .int (own_v i j x y z) := by
  have q := own_xy x y i hi
  unfold own_v
  rw [List.getD_eq_getElem?_getD] at q ⊢
  by_cases h : i = j
  · subst h
    rw [if_pos rfl, List.getElem?_set_self (by show i < 32; omega)]; rfl
  · rw [if_neg h, List.getElem?_set_ne (Ne.symm h)]; exact q
theorem own_m26 (x : Int32) : 0 ≤ ((x &&& (2147483647 : Int32)) % (26 : Int32)).toInt ∧ ((x &&& (2147483647 : Int32)) % (26 : Int32)).toInt < 26 := by
  have h := Jvm.Kit.i32_mask x 2147483647 (k := 31) (by decide) (by decide)
  have e := Jvm.Kit.i32_rem_nonneg (x := x &&& 2147483647) (y := 26) (by omega)
  rw [show (26 : Int32).toInt = 26 from by decide] at e
  omega
theorem own_par (x : Int32) : (x &&& (1 : Int32)).toInt = x.toInt % 2 := Jvm.Kit.i32_mask x 1 (k := 1) (by decide) (by decide)

def own_Qmet10 (h0 : Heap) (p1 : Int32) (p2 : Int32) (v : Option Value) (h : Heap) (L : List Loc) : Prop := v = some (.int p1) ∧ h = h0 ∧ L = []
set_option maxRecDepth 65536 in
set_option maxHeartbeats 40000000 in
theorem own_met10 (l : Launch) (Z : State) (a0 : Array Value) (hw : ∀ d ∈ tables_1, d.before a0 Z = true) (h0 : Heap) (p1 : Int32) (p2 : Int32)  (h0_ : 0 ≤ p1.toInt) (h1_ : p1.toInt < p2.toInt) :
    MetFree l (⟨"jdk/internal/util/Preconditions", "checkIndex", "(IILjava/util/function/BiFunction;)I"⟩ : MethodName) (head1 [Jvm.Cond.code (⟨"jdk/internal/util/Preconditions", "checkIndex", "(IILjava/util/function/BiFunction;)I"⟩ : MethodName) jdk_41_method_11_code 3 (some .int)] ({ frames := 0, cells := 0, slots := 0, locals := 0 } : Room)) (fun a U => a = #[(.int p1), (.int p2), .null] ∧ Z.Warmed39 U.vm ∧ U.heap = h0) (fun _ _ _ _ _ => True) (fun _ U o U' => ∃ v L, o = .returned v ∧ (own_Qmet10 h0 p1 p2 ) v U'.heap L ∧ FrameEnd U o U' L ({ frames := 0, cells := 0, slots := 0, locals := 0 } : Room).cells ({ frames := 0, cells := 0, slots := 0, locals := 0 } : Room).slots) := by
  refine OwnK.met (Q := (own_Qmet10 h0 p1 p2 )) (C := ({ frames := 0, cells := 0, slots := 0, locals := 0 } : Room).cells) (N := ({ frames := 0, cells := 0, slots := 0, locals := 0 } : Room).slots) own_pl_10 (own_ef_10n p1 p2) ?_
  intro p e s m below meth c T0 X0 hx hZ hby hml hown hnm hret hlk e0
  refine OwnK.iloadN X0 hx (hb hby own_d10_0) (pc' := 1) rfl (v := p1) rfl ?_
  refine OwnK.if_lt X0 hx (hb hby own_d10_1) (by decide) (pcT := 9) (by decide) (pc' := 4) rfl (fun (hc1 : p1.toInt < 0) => by omega) (fun hc1 => ?_)
  refine OwnK.iloadN X0 hx (hb hby own_d10_4) (pc' := 5) rfl (v := p1) rfl ?_
  refine OwnK.iloadN X0 hx (hb hby own_d10_5) (pc' := 6) rfl (v := p2) rfl ?_
  refine OwnK.icmp_lt X0 hx (hb hby own_d10_6) (by decide) (pcT := 16) (by decide) (pc' := 9) rfl (fun hc6 => ?_) (fun (hc6 : p2.toInt ≤ p1.toInt) => by omega)
  refine OwnK.iloadN X0 hx (hb hby own_d10_16) (pc' := 17) rfl (v := p1) rfl ?_
  refine OwnK.retI_ X0 hx hret hlk (hb hby own_d10_17) (by decide) (by decide) ?_
  exact ⟨by rfl, e0, rfl⟩
def own_Qmet9 (h0 : Heap) (p1 : Int32) (p2 : Int32) (v : Option Value) (h : Heap) (L : List Loc) : Prop := v = some (.int p1) ∧ h = h0 ∧ L = []
set_option maxRecDepth 65536 in
set_option maxHeartbeats 40000000 in
theorem own_met9 (l : Launch) (Z : State) (a0 : Array Value) (hw : ∀ d ∈ tables_1, d.before a0 Z = true) (h0 : Heap) (p1 : Int32) (p2 : Int32)  (h0_ : 0 ≤ p1.toInt) (h1_ : p1.toInt < p2.toInt) :
    MetFree l (⟨"java/util/Objects", "checkIndex", "(II)I"⟩ : MethodName) (head1 [Jvm.Cond.code (⟨"java/util/Objects", "checkIndex", "(II)I"⟩ : MethodName) jdk_31_method_17_code 2 (some .int)] ({ frames := 1, cells := 0, slots := 0, locals := 14 } : Room)) (fun a U => a = #[(.int p1), (.int p2)] ∧ Z.Warmed39 U.vm ∧ U.heap = h0) (fun _ _ _ _ _ => True) (fun _ U o U' => ∃ v L, o = .returned v ∧ (own_Qmet9 h0 p1 p2 ) v U'.heap L ∧ FrameEnd U o U' L ({ frames := 1, cells := 0, slots := 0, locals := 14 } : Room).cells ({ frames := 1, cells := 0, slots := 0, locals := 14 } : Room).slots) := by
  refine OwnK.met (Q := (own_Qmet9 h0 p1 p2 )) (C := ({ frames := 1, cells := 0, slots := 0, locals := 14 } : Room).cells) (N := ({ frames := 1, cells := 0, slots := 0, locals := 14 } : Room).slots) own_pl_9 (own_ef_9 p1 p2) ?_
  intro p e s m below meth c T0 X0 hx hZ hby hml hown hnm hret hlk e0
  refine OwnK.iloadN X0 hx (hb hby own_d9_0) (pc' := 1) rfl (v := p1) rfl ?_
  refine OwnK.iloadN X0 hx (hb hby own_d9_1) (pc' := 2) rfl (v := p2) rfl ?_
  refine OwnK.aconstNull X0 hx (hb hby own_d9_2) (pc' := 3) rfl ?_
  refine OwnK.callS_ X0 hx hZ hown (y := (⟨"jdk/internal/util/Preconditions", "checkIndex", "(IILjava/util/function/BiFunction;)I"⟩ : MethodName)) (hw _ (List.mem_of_getElem? (i := 56) rfl)) (hw _ (List.mem_of_getElem? (i := 57) rfl)) (hw _ (List.mem_of_getElem? (i := 58) rfl)) (hw _ (List.mem_of_getElem? (i := 59) rfl)) (by decide) (own_met10 l Z a0 hw h0 p1 p2 h0_ h1_ ) (by decide) (W := 0) (by decide) e0 (by rw [hml]; rfl) own_pd_6 (argsL := [(.int p1), (.int p2), .null]) rfl (S := []) rfl (Nat.le_of_eq rfl) (hb hby own_d9_3) (pc' := 6) rfl (by decide) (by decide) (fun T1 v1 L1 X1 hQ1 => ?_)
  obtain ⟨rfl, e1, rfl⟩ := hQ1
  refine OwnK.retI_ X1 hx hret hlk (hb hby own_d9_6) (by decide) (by decide) ?_
  exact ⟨by rfl, e1, rfl⟩
def own_Qmet1 (Z : State) (h0 : Heap) (n0 : Nat) (p1 : Addr) (v : Option Value) (h : Heap) (L : List Loc) : Prop := ∃ B K kB kK, v = none ∧ Fr n0 L ∧ Keep h0 h [p1] ∧ h0.size ≤ B ∧ h0.size ≤ K ∧ own_IL Z h p1 B K kB kK (0 : Int32) (16 : Int32) [(.int (0 : Int32)), (.int (0 : Int32)), (.int (0 : Int32)), (.int (0 : Int32)), (.int (0 : Int32)), (.int (0 : Int32)), (.int (0 : Int32)), (.int (0 : Int32)), (.int (0 : Int32)), (.int (0 : Int32)), (.int (0 : Int32)), (.int (0 : Int32)), (.int (0 : Int32)), (.int (0 : Int32)), (.int (0 : Int32)), (.int (0 : Int32))]
set_option maxRecDepth 65536 in
set_option maxHeartbeats 40000000 in
theorem own_met1 (l : Launch) (Z : State) (a0 : Array Value) (hw : ∀ d ∈ tables_1, d.before a0 Z = true) (h0 : Heap) (n0 : Nat) (Z0 : n0 ≤ h0.size) (p1 : Addr)  (ge_p1 : n0 ≤ p1) (F0 : Fld Z h0 p1 "com/example/strict_reach/strictreach/IntList" "blocks" "[[I" .null) (F1 : Fld Z h0 p1 "com/example/strict_reach/strictreach/IntList" "size" "I" (.int (0 : Int32))) (E0 : Exa Z h0 p1 "com/example/strict_reach/strictreach/IntList") :
    MetFree l (⟨"com/example/strict_reach/strictreach/IntList", "<init>", "()V"⟩ : MethodName) (head1 [Jvm.Cond.code (⟨"com/example/strict_reach/strictreach/IntList", "<init>", "()V"⟩ : MethodName) prog_9_method_1_code 1 none] ({ frames := 1, cells := 2, slots := 17, locals := 12 } : Room)) (fun a U => a = #[(.ref p1)] ∧ Z.Warmed39 U.vm ∧ U.heap = h0) (fun _ _ _ _ _ => True) (fun _ U o U' => ∃ v L, o = .returned v ∧ (own_Qmet1 Z h0 n0 p1 ) v U'.heap L ∧ FrameEnd U o U' L ({ frames := 1, cells := 2, slots := 17, locals := 12 } : Room).cells ({ frames := 1, cells := 2, slots := 17, locals := 12 } : Room).slots) := by
  refine OwnK.met (Q := (own_Qmet1 Z h0 n0 p1 )) (C := ({ frames := 1, cells := 2, slots := 17, locals := 12 } : Room).cells) (N := ({ frames := 1, cells := 2, slots := 17, locals := 12 } : Room).slots) own_pl_1 (own_ef_1 p1) ?_
  intro p e s m below meth c T0 X0 hx hZ hby hml hown hnm hret hlk e0
  have N0 := Fr.nil n0
  have K0 := Keep.refl h0 [p1]
  refine OwnK.aloadN X0 hx (hb hby own_d1_0) (pc' := 1) rfl (v := (.ref p1)) rfl rfl ?_
  refine OwnK.initO_ X0 hx hZ hown (hw _ (List.mem_of_getElem? (i := 6) rfl)) (hw _ (List.mem_of_getElem? (i := 7) rfl)) (hw _ (List.mem_of_getElem? (i := 8) rfl)) e0 (by rw [hml]; rfl) (hb hby own_d1_1) (pc' := 4) rfl (by decide) (W := 0) (Nat.le_of_eq rfl) (by decide) (fun T1 X1 e1 => ?_)
  refine OwnK.aloadN X1 hx (hb hby own_d1_4) (pc' := 5) rfl (v := (.ref p1)) rfl rfl ?_
  refine OwnK.iconst X1 hx (hb hby own_d1_5) (pc' := 6) rfl (v := (1 : Int32)) (by decide) ?_
  refine OwnK.newRA_ X1 hx hZ hown (ty := .int) (by decide) (hw _ (List.mem_of_getElem? (i := 9) rfl)) (hw _ (List.mem_of_getElem? (i := 10) rfl)) e1 (hb hby own_d1_6) (pc' := 9) rfl (n := (1 : Int32)) (by decide) (cap := 1) (by decide) (by decide) (by decide) (by decide) (ad := "[[I") (by decide) (fun T2 h2 a2 k2 X2 e2 g2 E2 V2 Q2 O2 => ?_)
  have q3 : p1 ≠ a2 := Nat.ne_of_lt (Nat.lt_of_lt_of_le F0.lt (Nat.le_of_eq g2.symm))
  have ge_a2 : n0 ≤ a2 := Nat.le_trans Z0 (Nat.le_of_eq g2.symm)
  have sz_a2 : h0.size ≤ a2 := Nat.le_trans K0.1 (Nat.le_of_eq g2.symm)
  have z4 : n0 ≤ h2.size := Nat.le_trans Z0 E2.1
  have K5 := K0.ext E2
  have f6 := F0.ext E2
  have f7 := F1.ext E2
  have f8 := E0.ext E2
  have f9 : Arv Z h2 a2 k2 (.array .int) (1 : Int32) [.null] .null := V2.pad (pad_rep [] .null 1)
  refine OwnK.dup X2 hx (hb hby own_d1_9) (pc' := 10) rfl rfl ?_
  refine OwnK.iconst X2 hx (hb hby own_d1_10) (pc' := 11) rfl (v := (0 : Int32)) (by decide) ?_
  refine OwnK.bipush X2 hx (hb hby own_d1_11) (pc' := 13) rfl (v := (16 : Int32)) (by decide) ?_
  refine OwnK.newP_ X2 hx hZ (hw _ (List.mem_of_getElem? (i := 11) rfl)) e2 (hb hby own_d1_13) (pc' := 15) rfl (n := (16 : Int32)) (by decide) (cap := 16) (by decide) (by decide) (by decide) (by decide) (ad := "[I") (by decide) (fun T10 h10 a10 k10 X10 e10 g10 E10 V10 Q10 => ?_)
  have q11 : a2 ≠ a10 := Nat.ne_of_lt (Nat.lt_of_lt_of_le f9.lt (Nat.le_of_eq g10.symm))
  have q12 : p1 ≠ a10 := Nat.ne_of_lt (Nat.lt_of_lt_of_le f6.lt (Nat.le_of_eq g10.symm))
  have ge_a10 : n0 ≤ a10 := Nat.le_trans z4 (Nat.le_of_eq g10.symm)
  have sz_a10 : h0.size ≤ a10 := Nat.le_trans K5.1 (Nat.le_of_eq g10.symm)
  have z13 : n0 ≤ h10.size := Nat.le_trans z4 E10.1
  have K14 := K5.ext E10
  have f15 := f6.ext E10
  have f16 := f7.ext E10
  have f17 := f8.ext E10
  have f18 := f9.ext E10
  have f19 := Q2.ext E10
  have f20 : Arv Z h10 a10 k10 .int (16 : Int32) [(.int (0 : Int32)), (.int (0 : Int32)), (.int (0 : Int32)), (.int (0 : Int32)), (.int (0 : Int32)), (.int (0 : Int32)), (.int (0 : Int32)), (.int (0 : Int32)), (.int (0 : Int32)), (.int (0 : Int32)), (.int (0 : Int32)), (.int (0 : Int32)), (.int (0 : Int32)), (.int (0 : Int32)), (.int (0 : Int32)), (.int (0 : Int32))] (.int (0 : Int32)) := V10.pad (pad_rep [] (.int (0 : Int32)) 16)
  refine OwnK.aastore X10 hx hZ e10 f18 rfl rfl (OwnK.stoOfA f18 O2 (Ins.self Q10)) (i := 0) (by decide) (by first | decide | omega) (Nat.le_of_ble_eq_true rfl) (hb hby own_d1_15) (pc' := 16) rfl (fun T21 h21 X21 e21 W21 V21 => ?_)
  have f22 := f15.other W21 (Or.inl q3)
  have f23 := f16.other W21 (Or.inl q3)
  have f24 := f17.wr W21
  have f25 := f19.wr W21
  have f26 := f20.other W21 (Ne.symm q11)
  have f27 := Q10.wr W21
  have f28 : Arv Z h21 a2 _ (.array .int) (1 : Int32) [(.ref a10)] .null := V21
  have N29 := Fr.snoc X21 N0 ge_a2
  have K30 := K14.wr W21 (Or.inr sz_a2)
  have z31 : n0 ≤ h21.size := Nat.le_trans z13 (Keep.of_wr W21).1
  refine OwnK.putF_ X21 hx hZ hown (hw _ (List.mem_of_getElem? (i := 13) rfl)) Via.refl e21 f22 f24 (Or.inl (hw _ (List.mem_of_getElem? (i := 14) rfl))) (hw _ (List.mem_of_getElem? (i := 1) rfl)) (ty := (.array (.array .int))) (by decide) (v' := (.ref a2)) rfl rfl (hb hby own_d1_16) (pc' := 19) rfl (fun T32 h32 X32 e32 W32 => ?_)
  have f33 := f22.same W32
  have f34 := f23.other W32 (Or.inr (slot_ne (Or.inl (hw _ (List.mem_of_getElem? (i := 25) rfl))) (Or.inl (hw _ (List.mem_of_getElem? (i := 14) rfl))) (by decide) (t := .int) (t' := (.array (.array .int))) (by decide) (by decide)))
  have f35 := f24.wr W32
  have f36 := f28.other W32 (Ne.symm q3)
  have f37 := f25.wr W32
  have f38 := f26.other W32 (Ne.symm q12)
  have f39 := f27.wr W32
  have N40 := Fr.snoc X32 N29 ge_p1
  have K41 := K30.wr W32 (Or.inl (List.mem_of_getElem? (i := 0) rfl))
  have z42 : n0 ≤ h32.size := Nat.le_trans z31 (Keep.of_wr W32).1
  refine OwnK.retV_ X32 hx hret hlk (hb hby own_d1_19) (by decide) (by decide) ?_
  rw [show T32.heap = h32 from e32]
  exact ⟨a2, a10, _, _, rfl, N40, K41, sz_a2, sz_a10, ⟨f35, f34, f33, f36, f38, f37, f39, O2, q3, q12, q11⟩⟩
def own_Qmet4 (h0 : Heap) (p1 : Addr) (B K : Addr) (kB kK : ClassId) (sz cap : Int32) (vs : List Value) (v : Option Value) (h : Heap) (L : List Loc) : Prop := v = some (.ref K) ∧ h = h0 ∧ L = []
set_option maxRecDepth 65536 in
set_option maxHeartbeats 40000000 in
theorem own_met4 (l : Launch) (Z : State) (a0 : Array Value) (hw : ∀ d ∈ tables_1, d.before a0 Z = true) (h0 : Heap) (p1 : Addr) (B K : Addr) (kB kK : ClassId) (sz cap : Int32) (vs : List Value) (hI : own_IL Z h0 p1 B K kB kK sz cap vs) (hbd : 0 ≤ sz.toInt ∧ sz.toInt < 4096) (hne : ¬ sz.toInt = cap.toInt) :
    MetFree l (⟨"com/example/strict_reach/strictreach/IntList", "room", "()[I"⟩ : MethodName) (head1 [Jvm.Cond.code (⟨"com/example/strict_reach/strictreach/IntList", "room", "()[I"⟩ : MethodName) prog_9_method_9_code 3 (some (.array .int))] ({ frames := 0, cells := 0, slots := 0, locals := 0 } : Room)) (fun a U => a = #[(.ref p1)] ∧ Z.Warmed39 U.vm ∧ U.heap = h0) (fun _ _ _ _ _ => True) (fun _ U o U' => ∃ v L, o = .returned v ∧ (own_Qmet4 h0 p1 B K kB kK sz cap vs) v U'.heap L ∧ FrameEnd U o U' L ({ frames := 0, cells := 0, slots := 0, locals := 0 } : Room).cells ({ frames := 0, cells := 0, slots := 0, locals := 0 } : Room).slots) := by
  refine OwnK.met (Q := (own_Qmet4 h0 p1 B K kB kK sz cap vs)) (C := ({ frames := 0, cells := 0, slots := 0, locals := 0 } : Room).cells) (N := ({ frames := 0, cells := 0, slots := 0, locals := 0 } : Room).slots) own_pl_4 (own_ef_4 p1) ?_
  intro p e s m below meth c T0 X0 hx hZ hby hml hown hnm hret hlk e0
  obtain ⟨IE, IS, IB, IAB, IAK, IEB, IEK, IO, IaB, IaK, IBK⟩ := hI
  have hsh := own_sh hbd.1 hbd.2
  have hshI : (XT.ushr sz (12 : Int32)).toInt = 0 := by rw [hsh]; decide
  have han := own_an hbd.1 hbd.2
  rw [← han] at hne
  refine OwnK.aloadN X0 hx (hb hby own_d4_0) (pc' := 1) rfl (v := (.ref p1)) rfl rfl ?_
  refine OwnK.getF_ X0 hx hZ hown (host := "") (Or.inl (hw _ (List.mem_of_getElem? (i := 24) rfl))) Via.refl e0 IS (hb hby own_d4_1) (pc' := 4) rfl (fun T1 X1 e1 => ?_)
  refine OwnK.ldcI X1 hx hZ hown (hw _ (List.mem_of_getElem? (i := 26) rfl)) (hb hby own_d4_4) (pc' := 6) rfl ?_
  refine OwnK.icmp_ne X1 hx (hb hby own_d4_6) (by decide) (pcT := 19) (by decide) (pc' := 9) rfl (fun hc6 => ?_) (fun (hc6 : sz.toInt = 2147483647) => by omega)
  refine OwnK.aloadN X1 hx (hb hby own_d4_19) (pc' := 20) rfl (v := (.ref p1)) rfl rfl ?_
  refine OwnK.getF_ X1 hx hZ hown (host := "") (Or.inl (hw _ (List.mem_of_getElem? (i := 24) rfl))) Via.refl e1 IS (hb hby own_d4_20) (pc' := 23) rfl (fun T2 X2 e2 => ?_)
  refine OwnK.bipush X2 hx (hb hby own_d4_23) (pc' := 25) rfl (v := (12 : Int32)) (by decide) ?_
  refine OwnK.iushr X2 hx (hb hby own_d4_25) (pc' := 26) rfl ?_
  refine OwnK.istoreN X2 hx (hb hby own_d4_26) (pc' := 27) rfl (Ls' := #[.val (.ref p1), .val (.int (XT.ushr sz (12 : Int32))), .unset]) rfl ?_
  refine OwnK.iloadN X2 hx (hb hby own_d4_27) (pc' := 28) rfl (v := (XT.ushr sz (12 : Int32))) rfl ?_
  refine OwnK.aloadN X2 hx (hb hby own_d4_28) (pc' := 29) rfl (v := (.ref p1)) rfl rfl ?_
  refine OwnK.getF_ X2 hx hZ hown (host := "") (Or.inl (hw _ (List.mem_of_getElem? (i := 13) rfl))) Via.refl e2 IB (hb hby own_d4_29) (pc' := 32) rfl (fun T3 X3 e3 => ?_)
  refine OwnK.arrlen X3 hx hZ e3 IAB (hb hby own_d4_32) (pc' := 33) rfl ?_
  refine OwnK.icmp_ne X3 hx (hb hby own_d4_33) (by decide) (pcT := 57) (by decide) (pc' := 36) rfl (fun hc33 => ?_) (fun (hc33 : (XT.ushr sz (12 : Int32)).toInt = 1) => by omega)
  refine OwnK.aloadN X3 hx (hb hby own_d4_57) (pc' := 58) rfl (v := (.ref p1)) rfl rfl ?_
  refine OwnK.getF_ X3 hx hZ hown (host := "") (Or.inl (hw _ (List.mem_of_getElem? (i := 13) rfl))) Via.refl e3 IB (hb hby own_d4_58) (pc' := 61) rfl (fun T4 X4 e4 => ?_)
  refine OwnK.iloadN X4 hx (hb hby own_d4_61) (pc' := 62) rfl (v := (XT.ushr sz (12 : Int32))) rfl ?_
  refine OwnK.aaload X4 hx hZ e4 IAB rfl (by rw [hsh]; decide) (by rw [hsh]; decide) (v := (.ref K)) (by rw [hsh]; rfl) (hb hby own_d4_62) (pc' := 63) rfl ?_
  refine OwnK.astoreN X4 hx (hb hby own_d4_63) (pc' := 64) rfl rfl (Ls' := #[.val (.ref p1), .val (.int (XT.ushr sz (12 : Int32))), .val (.ref K)]) rfl ?_
  refine OwnK.aloadN X4 hx (hb hby own_d4_64) (pc' := 65) rfl (v := (.ref K)) rfl rfl ?_
  refine OwnK.ifnonnull_ref X4 hx (hb hby own_d4_65) (by decide) (pcT := 84) (by decide) (pc' := 68) rfl ?_
  refine OwnK.aloadN X4 hx (hb hby own_d4_84) (pc' := 85) rfl (v := (.ref p1)) rfl rfl ?_
  refine OwnK.getF_ X4 hx hZ hown (host := "") (Or.inl (hw _ (List.mem_of_getElem? (i := 24) rfl))) Via.refl e4 IS (hb hby own_d4_85) (pc' := 88) rfl (fun T5 X5 e5 => ?_)
  refine OwnK.sipush X5 hx (hb hby own_d4_88) (pc' := 91) rfl (v := (4095 : Int32)) (by decide) ?_
  refine OwnK.iand X5 hx (hb hby own_d4_91) (pc' := 92) rfl ?_
  refine OwnK.aloadN X5 hx (hb hby own_d4_92) (pc' := 93) rfl (v := (.ref K)) rfl rfl ?_
  refine OwnK.arrlen X5 hx hZ e5 IAK (hb hby own_d4_93) (pc' := 94) rfl ?_
  refine OwnK.icmp_ne X5 hx (hb hby own_d4_94) (by decide) (pcT := 113) (by decide) (pc' := 97) rfl (fun hc94 => ?_) (fun (hc94 : (sz &&& (4095 : Int32)).toInt = cap.toInt) => absurd hc94 hne)
  refine OwnK.aloadN X5 hx (hb hby own_d4_113) (pc' := 114) rfl (v := (.ref K)) rfl rfl ?_
  refine OwnK.retA_ X5 hx hret rfl rfl hlk (hb hby own_d4_114) (by decide) (by decide) ?_
  exact ⟨rfl, e5, rfl⟩
def own_Qmet3 (Z : State) (h0 : Heap) (n0 : Nat) (p1 : Addr) (p2 : Int32) (B K : Addr) (kB kK : ClassId) (sz cap : Int32) (vs : List Value) (i : Nat) (v : Option Value) (h : Heap) (L : List Loc) : Prop := v = none ∧ Fr n0 L ∧ Keep h0 h [p1, K] ∧ own_IL Z h p1 B K kB kK (sz + (1 : Int32)) cap (vs.set i (.int p2))
set_option maxRecDepth 65536 in
set_option maxHeartbeats 40000000 in
theorem own_met3 (l : Launch) (Z : State) (a0 : Array Value) (hw : ∀ d ∈ tables_1, d.before a0 Z = true) (h0 : Heap) (n0 : Nat) (Z0 : n0 ≤ h0.size) (p1 : Addr) (p2 : Int32) (B K : Addr) (kB kK : ClassId) (sz cap : Int32) (vs : List Value) (i : Nat) (ge_p1 : n0 ≤ p1) (hI : own_IL Z h0 p1 B K kB kK sz cap vs) (geK : n0 ≤ K) (hi : sz.toInt = i) (hl : i < vs.length) (hcap : (i : Int) < cap.toInt ∧ cap.toInt ≤ 4096) (hne : ¬ sz.toInt = cap.toInt) :
    MetFree l (⟨"com/example/strict_reach/strictreach/IntList", "add", "(I)V"⟩ : MethodName) (head1 [Jvm.Cond.code (⟨"com/example/strict_reach/strictreach/IntList", "add", "(I)V"⟩ : MethodName) prog_9_method_2_code 2 none] ({ frames := 1, cells := 0, slots := 0, locals := 14 } : Room)) (fun a U => a = #[(.ref p1), (.int p2)] ∧ Z.Warmed39 U.vm ∧ U.heap = h0) (fun _ _ _ _ _ => True) (fun _ U o U' => ∃ v L, o = .returned v ∧ (own_Qmet3 Z h0 n0 p1 p2 B K kB kK sz cap vs i) v U'.heap L ∧ FrameEnd U o U' L ({ frames := 1, cells := 0, slots := 0, locals := 14 } : Room).cells ({ frames := 1, cells := 0, slots := 0, locals := 14 } : Room).slots) := by
  refine OwnK.met (Q := (own_Qmet3 Z h0 n0 p1 p2 B K kB kK sz cap vs i)) (C := ({ frames := 1, cells := 0, slots := 0, locals := 14 } : Room).cells) (N := ({ frames := 1, cells := 0, slots := 0, locals := 14 } : Room).slots) own_pl_3 (own_ef_3 p1 p2) ?_
  intro p e s m below meth c T0 X0 hx hZ hby hml hown hnm hret hlk e0
  have N0 := Fr.nil n0
  have K0 := Keep.refl h0 [p1, K]
  obtain ⟨IE, IS, IB, IAB, IAK, IEB, IEK, IO, IaB, IaK, IBK⟩ := hI
  have hbd : 0 ≤ sz.toInt ∧ sz.toInt < 4096 := by omega
  refine OwnK.aloadN X0 hx (hb hby own_d3_0) (pc' := 1) rfl (v := (.ref p1)) rfl rfl ?_
  refine OwnK.callP_ X0 hx hZ hown (y := (⟨"com/example/strict_reach/strictreach/IntList", "room", "()[I"⟩ : MethodName)) (z := (⟨"com/example/strict_reach/strictreach/IntList", "add", "(I)V"⟩ : MethodName)) (a := p1) (hw _ (List.mem_of_getElem? (i := 20) rfl)) (hw _ (List.mem_of_getElem? (i := 21) rfl)) rfl (hw _ (List.mem_of_getElem? (i := 18) rfl)) (hw _ (List.mem_of_getElem? (i := 22) rfl)) (hw _ (List.mem_of_getElem? (i := 23) rfl)) (hw _ (List.mem_of_getElem? (i := 2) rfl)) (by decide) IE (own_met4 l Z a0 hw h0 p1 B K _ _ sz cap _ ⟨IE, IS, IB, IAB, IAK, IEB, IEK, IO, IaB, IaK, IBK⟩ hbd hne) (by decide) (W := 0) (by decide) e0 (by rw [hml]; rfl) own_pd_1 (argsL := []) rfl (S := []) rfl (Nat.le_of_eq rfl) (hb hby own_d3_1) (pc' := 4) rfl (by decide) (by decide) (fun T1 v1 L1 X1 hQ1 => ?_)
  obtain ⟨rfl, e1, rfl⟩ := hQ1
  have N2 := Fr.app N0 (Fr.nil n0)
  refine OwnK.aloadN X1 hx (hb hby own_d3_4) (pc' := 5) rfl (v := (.ref p1)) rfl rfl ?_
  refine OwnK.getF_ X1 hx hZ hown (host := "") (Or.inl (hw _ (List.mem_of_getElem? (i := 24) rfl))) Via.refl e1 IS (hb hby own_d3_5) (pc' := 8) rfl (fun T3 X3 e3 => ?_)
  refine OwnK.sipush X3 hx (hb hby own_d3_8) (pc' := 11) rfl (v := (4095 : Int32)) (by decide) ?_
  refine OwnK.iand X3 hx (hb hby own_d3_11) (pc' := 12) rfl ?_
  refine OwnK.iloadN X3 hx (hb hby own_d3_12) (pc' := 13) rfl (v := p2) rfl ?_
  refine OwnK.iastore X3 hx hZ e3 IAK (i := i) (by rw [own_an hbd.1 hbd.2]; exact hi) (by omega) (by omega) (hb hby own_d3_13) (pc' := 14) rfl (fun T4 h4 X4 e4 W4 V4 => ?_)
  have f5 := IE.wr W4
  have f6 := IS.other W4 (Or.inl IaK)
  have f7 := IB.other W4 (Or.inl IaK)
  have f8 := IAB.other W4 IBK
  have f9 := IEB.wr W4
  have f10 := IEK.wr W4
  have N11 := Fr.snoc X4 N2 geK
  have K12 := K0.wr W4 (Or.inl (List.mem_of_getElem? (i := 1) rfl))
  have z13 : n0 ≤ h4.size := Nat.le_trans Z0 (Keep.of_wr W4).1
  refine OwnK.aloadN X4 hx (hb hby own_d3_14) (pc' := 15) rfl (v := (.ref p1)) rfl rfl ?_
  refine OwnK.dup X4 hx (hb hby own_d3_15) (pc' := 16) rfl rfl ?_
  refine OwnK.getF_ X4 hx hZ hown (host := "") (Or.inl (hw _ (List.mem_of_getElem? (i := 24) rfl))) Via.refl e4 f6 (hb hby own_d3_16) (pc' := 19) rfl (fun T14 X14 e14 => ?_)
  refine OwnK.iconst X14 hx (hb hby own_d3_19) (pc' := 20) rfl (v := (1 : Int32)) (by decide) ?_
  refine OwnK.iadd X14 hx (hb hby own_d3_20) (pc' := 21) rfl ?_
  refine OwnK.putF_ X14 hx hZ hown (hw _ (List.mem_of_getElem? (i := 24) rfl)) Via.refl e14 f6 f5 (Or.inl (hw _ (List.mem_of_getElem? (i := 25) rfl))) (hw _ (List.mem_of_getElem? (i := 1) rfl)) (ty := .int) (by decide) (v' := (.int (sz + (1 : Int32)))) rfl rfl (hb hby own_d3_21) (pc' := 24) rfl (fun T15 h15 X15 e15 W15 => ?_)
  have f16 := f6.same W15
  have f17 := f5.wr W15
  have f18 := f7.other W15 (Or.inr (slot_ne (Or.inl (hw _ (List.mem_of_getElem? (i := 14) rfl))) (Or.inl (hw _ (List.mem_of_getElem? (i := 25) rfl))) (by decide) (t := (.array (.array .int))) (t' := .int) (by decide) (by decide)))
  have f19 := f8.other W15 (Ne.symm IaB)
  have f20 := V4.other W15 (Ne.symm IaK)
  have f21 := f9.wr W15
  have f22 := f10.wr W15
  have N23 := Fr.snoc X15 N11 ge_p1
  have K24 := K12.wr W15 (Or.inl (List.mem_of_getElem? (i := 0) rfl))
  have z25 : n0 ≤ h15.size := Nat.le_trans z13 (Keep.of_wr W15).1
  refine OwnK.retV_ X15 hx hret hlk (hb hby own_d3_24) (by decide) (by decide) ?_
  rw [show T15.heap = h15 from e15]
  exact ⟨rfl, N23, K24, ⟨f17, f16, f18, f19, f20, f21, f22, IO, IaB, IaK, IBK⟩⟩
def own_Qmet11 (h0 : Heap) (p1 : Addr) (p2 : Int32) (B K : Addr) (kB kK : ClassId) (sz cap : Int32) (vs : List Value) (i : Nat) (el : Int32) (v : Option Value) (h : Heap) (L : List Loc) : Prop := v = some (.int el) ∧ h = h0 ∧ L = []
set_option maxRecDepth 65536 in
set_option maxHeartbeats 40000000 in
theorem own_met11 (l : Launch) (Z : State) (a0 : Array Value) (hw : ∀ d ∈ tables_1, d.before a0 Z = true) (h0 : Heap) (p1 : Addr) (p2 : Int32) (B K : Addr) (kB kK : ClassId) (sz cap : Int32) (vs : List Value) (i : Nat) (el : Int32) (hI : own_IL Z h0 p1 B K kB kK sz cap vs) (hi : p2.toInt = i) (hsz : (i : Int) < sz.toInt ∧ sz.toInt ≤ cap.toInt ∧ cap.toInt ≤ 4096) (hv : vs.getD i (.int (0 : Int32)) = .int el) :
    MetFree l (⟨"com/example/strict_reach/strictreach/IntList", "get", "(I)I"⟩ : MethodName) (head1 [Jvm.Cond.code (⟨"com/example/strict_reach/strictreach/IntList", "get", "(I)I"⟩ : MethodName) prog_9_method_4_code 2 (some .int)] ({ frames := 2, cells := 0, slots := 0, locals := 27 } : Room)) (fun a U => a = #[(.ref p1), (.int p2)] ∧ Z.Warmed39 U.vm ∧ U.heap = h0) (fun _ _ _ _ _ => True) (fun _ U o U' => ∃ v L, o = .returned v ∧ (own_Qmet11 h0 p1 p2 B K kB kK sz cap vs i el) v U'.heap L ∧ FrameEnd U o U' L ({ frames := 2, cells := 0, slots := 0, locals := 27 } : Room).cells ({ frames := 2, cells := 0, slots := 0, locals := 27 } : Room).slots) := by
  refine OwnK.met (Q := (own_Qmet11 h0 p1 p2 B K kB kK sz cap vs i el)) (C := ({ frames := 2, cells := 0, slots := 0, locals := 27 } : Room).cells) (N := ({ frames := 2, cells := 0, slots := 0, locals := 27 } : Room).slots) own_pl_11 (own_ef_11 p1 p2) ?_
  intro p e s m below meth c T0 X0 hx hZ hby hml hown hnm hret hlk e0
  obtain ⟨IE, IS, IB, IAB, IAK, IEB, IEK, IO, IaB, IaK, IBK⟩ := hI
  have hsh := own_sh (x := p2) (by omega) (by omega)
  have han := own_an (x := p2) (by omega) (by omega)
  refine OwnK.iloadN X0 hx (hb hby own_d11_0) (pc' := 1) rfl (v := p2) rfl ?_
  refine OwnK.aloadN X0 hx (hb hby own_d11_1) (pc' := 2) rfl (v := (.ref p1)) rfl rfl ?_
  refine OwnK.getF_ X0 hx hZ hown (host := "") (Or.inl (hw _ (List.mem_of_getElem? (i := 24) rfl))) Via.refl e0 IS (hb hby own_d11_2) (pc' := 5) rfl (fun T1 X1 e1 => ?_)
  refine OwnK.callS_ X1 hx hZ hown (y := (⟨"java/util/Objects", "checkIndex", "(II)I"⟩ : MethodName)) (hw _ (List.mem_of_getElem? (i := 52) rfl)) (hw _ (List.mem_of_getElem? (i := 53) rfl)) (hw _ (List.mem_of_getElem? (i := 54) rfl)) (hw _ (List.mem_of_getElem? (i := 55) rfl)) (by decide) (own_met9 l Z a0 hw h0 p2 sz (by omega) (by omega) ) (by decide) (W := 0) (by decide) e1 (by rw [hml]; rfl) own_pd_4 (argsL := [(.int p2), (.int sz)]) rfl (S := []) rfl (Nat.le_of_eq rfl) (hb hby own_d11_5) (pc' := 8) rfl (by decide) (by decide) (fun T2 v2 L2 X2 hQ2 => ?_)
  obtain ⟨rfl, e2, rfl⟩ := hQ2
  refine OwnK.pop X2 hx (hb hby own_d11_8) (pc' := 9) rfl rfl ?_
  refine OwnK.aloadN X2 hx (hb hby own_d11_9) (pc' := 10) rfl (v := (.ref p1)) rfl rfl ?_
  refine OwnK.getF_ X2 hx hZ hown (host := "") (Or.inl (hw _ (List.mem_of_getElem? (i := 13) rfl))) Via.refl e2 IB (hb hby own_d11_10) (pc' := 13) rfl (fun T4 X4 e4 => ?_)
  refine OwnK.iloadN X4 hx (hb hby own_d11_13) (pc' := 14) rfl (v := p2) rfl ?_
  refine OwnK.bipush X4 hx (hb hby own_d11_14) (pc' := 16) rfl (v := (12 : Int32)) (by decide) ?_
  refine OwnK.iushr X4 hx (hb hby own_d11_16) (pc' := 17) rfl ?_
  refine OwnK.aaload X4 hx hZ e4 IAB rfl (by rw [hsh]; decide) (by rw [hsh]; decide) (v := (.ref K)) (by rw [hsh]; rfl) (hb hby own_d11_17) (pc' := 18) rfl ?_
  refine OwnK.iloadN X4 hx (hb hby own_d11_18) (pc' := 19) rfl (v := p2) rfl ?_
  refine OwnK.sipush X4 hx (hb hby own_d11_19) (pc' := 22) rfl (v := (4095 : Int32)) (by decide) ?_
  refine OwnK.iand X4 hx (hb hby own_d11_22) (pc' := 23) rfl ?_
  refine OwnK.iaload X4 hx hZ e4 IAK (by rw [han]; omega) (by rw [han]; omega) (v := (.int el)) (by rw [han, OwnK.jnat hi]; exact hv) (hb hby own_d11_23) (pc' := 24) rfl ?_
  refine OwnK.retI_ X4 hx hret hlk (hb hby own_d11_24) (by decide) (by decide) ?_
  exact ⟨rfl, e4, rfl⟩
def own_Qmet8 (Z : State) (h0 : Heap) (n0 : Nat) (p1 : Addr) (p2 : Int32) (p3 : Int32) (B K : Addr) (kB kK : ClassId) (sz cap : Int32) (vs : List Value) (i : Nat) (v : Option Value) (h : Heap) (L : List Loc) : Prop := v = none ∧ Fr n0 L ∧ Keep h0 h [p1, K] ∧ own_IL Z h p1 B K kB kK sz cap (vs.set i (.int p3))
set_option maxRecDepth 65536 in
set_option maxHeartbeats 40000000 in
theorem own_met8 (l : Launch) (Z : State) (a0 : Array Value) (hw : ∀ d ∈ tables_1, d.before a0 Z = true) (h0 : Heap) (n0 : Nat) (Z0 : n0 ≤ h0.size) (p1 : Addr) (p2 : Int32) (p3 : Int32) (B K : Addr) (kB kK : ClassId) (sz cap : Int32) (vs : List Value) (i : Nat) (ge_p1 : n0 ≤ p1) (hI : own_IL Z h0 p1 B K kB kK sz cap vs) (geK : n0 ≤ K) (hi : p2.toInt = i) (hsz : (i : Int) < sz.toInt ∧ sz.toInt ≤ cap.toInt ∧ cap.toInt ≤ 4096) (hl : i < vs.length) :
    MetFree l (⟨"com/example/strict_reach/strictreach/IntList", "set", "(II)V"⟩ : MethodName) (head1 [Jvm.Cond.code (⟨"com/example/strict_reach/strictreach/IntList", "set", "(II)V"⟩ : MethodName) prog_9_method_5_code 3 none] ({ frames := 2, cells := 0, slots := 0, locals := 27 } : Room)) (fun a U => a = #[(.ref p1), (.int p2), (.int p3)] ∧ Z.Warmed39 U.vm ∧ U.heap = h0) (fun _ _ _ _ _ => True) (fun _ U o U' => ∃ v L, o = .returned v ∧ (own_Qmet8 Z h0 n0 p1 p2 p3 B K kB kK sz cap vs i) v U'.heap L ∧ FrameEnd U o U' L ({ frames := 2, cells := 0, slots := 0, locals := 27 } : Room).cells ({ frames := 2, cells := 0, slots := 0, locals := 27 } : Room).slots) := by
  refine OwnK.met (Q := (own_Qmet8 Z h0 n0 p1 p2 p3 B K kB kK sz cap vs i)) (C := ({ frames := 2, cells := 0, slots := 0, locals := 27 } : Room).cells) (N := ({ frames := 2, cells := 0, slots := 0, locals := 27 } : Room).slots) own_pl_8 (own_ef_8 p1 p2 p3) ?_
  intro p e s m below meth c T0 X0 hx hZ hby hml hown hnm hret hlk e0
  have N0 := Fr.nil n0
  have K0 := Keep.refl h0 [p1, K]
  obtain ⟨IE, IS, IB, IAB, IAK, IEB, IEK, IO, IaB, IaK, IBK⟩ := hI
  have hsh := own_sh (x := p2) (by omega) (by omega)
  have han := own_an (x := p2) (by omega) (by omega)
  refine OwnK.iloadN X0 hx (hb hby own_d8_0) (pc' := 1) rfl (v := p2) rfl ?_
  refine OwnK.aloadN X0 hx (hb hby own_d8_1) (pc' := 2) rfl (v := (.ref p1)) rfl rfl ?_
  refine OwnK.getF_ X0 hx hZ hown (host := "") (Or.inl (hw _ (List.mem_of_getElem? (i := 24) rfl))) Via.refl e0 IS (hb hby own_d8_2) (pc' := 5) rfl (fun T1 X1 e1 => ?_)
  refine OwnK.callS_ X1 hx hZ hown (y := (⟨"java/util/Objects", "checkIndex", "(II)I"⟩ : MethodName)) (hw _ (List.mem_of_getElem? (i := 52) rfl)) (hw _ (List.mem_of_getElem? (i := 53) rfl)) (hw _ (List.mem_of_getElem? (i := 54) rfl)) (hw _ (List.mem_of_getElem? (i := 55) rfl)) (by decide) (own_met9 l Z a0 hw h0 p2 sz (by omega) (by omega) ) (by decide) (W := 0) (by decide) e1 (by rw [hml]; rfl) own_pd_4 (argsL := [(.int p2), (.int sz)]) rfl (S := []) rfl (Nat.le_of_eq rfl) (hb hby own_d8_5) (pc' := 8) rfl (by decide) (by decide) (fun T2 v2 L2 X2 hQ2 => ?_)
  obtain ⟨rfl, e2, rfl⟩ := hQ2
  have N3 := Fr.app N0 (Fr.nil n0)
  refine OwnK.pop X2 hx (hb hby own_d8_8) (pc' := 9) rfl rfl ?_
  refine OwnK.aloadN X2 hx (hb hby own_d8_9) (pc' := 10) rfl (v := (.ref p1)) rfl rfl ?_
  refine OwnK.getF_ X2 hx hZ hown (host := "") (Or.inl (hw _ (List.mem_of_getElem? (i := 13) rfl))) Via.refl e2 IB (hb hby own_d8_10) (pc' := 13) rfl (fun T4 X4 e4 => ?_)
  refine OwnK.iloadN X4 hx (hb hby own_d8_13) (pc' := 14) rfl (v := p2) rfl ?_
  refine OwnK.bipush X4 hx (hb hby own_d8_14) (pc' := 16) rfl (v := (12 : Int32)) (by decide) ?_
  refine OwnK.iushr X4 hx (hb hby own_d8_16) (pc' := 17) rfl ?_
  refine OwnK.aaload X4 hx hZ e4 IAB rfl (by rw [hsh]; decide) (by rw [hsh]; decide) (v := (.ref K)) (by rw [hsh]; rfl) (hb hby own_d8_17) (pc' := 18) rfl ?_
  refine OwnK.iloadN X4 hx (hb hby own_d8_18) (pc' := 19) rfl (v := p2) rfl ?_
  refine OwnK.sipush X4 hx (hb hby own_d8_19) (pc' := 22) rfl (v := (4095 : Int32)) (by decide) ?_
  refine OwnK.iand X4 hx (hb hby own_d8_22) (pc' := 23) rfl ?_
  refine OwnK.iloadN X4 hx (hb hby own_d8_23) (pc' := 24) rfl (v := p3) rfl ?_
  refine OwnK.iastore X4 hx hZ e4 IAK (i := i) (by rw [han]; exact hi) (by omega) (by omega) (hb hby own_d8_24) (pc' := 25) rfl (fun T5 h5 X5 e5 W5 V5 => ?_)
  have f6 := IE.wr W5
  have f7 := IS.other W5 (Or.inl IaK)
  have f8 := IB.other W5 (Or.inl IaK)
  have f9 := IAB.other W5 IBK
  have f10 := IEB.wr W5
  have f11 := IEK.wr W5
  have N12 := Fr.snoc X5 N3 geK
  have K13 := K0.wr W5 (Or.inl (List.mem_of_getElem? (i := 1) rfl))
  have z14 : n0 ≤ h5.size := Nat.le_trans Z0 (Keep.of_wr W5).1
  refine OwnK.retV_ X5 hx hret hlk (hb hby own_d8_25) (by decide) (by decide) ?_
  rw [show T5.heap = h5 from e5]
  exact ⟨rfl, N12, K13, ⟨f6, f7, f8, f9, V5, f10, f11, IO, IaB, IaK, IBK⟩⟩
def own_Qmet6 (h0 : Heap) (p1 : Int32) (p2 : Int32) (v : Option Value) (h : Heap) (L : List Loc) : Prop := v = some (.int (if p2.toInt < p1.toInt then p2 else p1)) ∧ h = h0 ∧ L = []
set_option maxRecDepth 65536 in
set_option maxHeartbeats 40000000 in
theorem own_met6 (l : Launch) (Z : State) (a0 : Array Value) (hw : ∀ d ∈ tables_1, d.before a0 Z = true) (h0 : Heap) (p1 : Int32) (p2 : Int32)  :
    MetFree l (⟨"java/lang/Math", "min", "(II)I"⟩ : MethodName) (head1 [Jvm.Cond.code (⟨"java/lang/Math", "min", "(II)I"⟩ : MethodName) jdk_29_method_69_code 2 (some .int)] ({ frames := 0, cells := 0, slots := 0, locals := 0 } : Room)) (fun a U => a = #[(.int p1), (.int p2)] ∧ Z.Warmed39 U.vm ∧ U.heap = h0) (fun _ _ _ _ _ => True) (fun _ U o U' => ∃ v L, o = .returned v ∧ (own_Qmet6 h0 p1 p2 ) v U'.heap L ∧ FrameEnd U o U' L ({ frames := 0, cells := 0, slots := 0, locals := 0 } : Room).cells ({ frames := 0, cells := 0, slots := 0, locals := 0 } : Room).slots) := by
  refine OwnK.met (Q := (own_Qmet6 h0 p1 p2 )) (C := ({ frames := 0, cells := 0, slots := 0, locals := 0 } : Room).cells) (N := ({ frames := 0, cells := 0, slots := 0, locals := 0 } : Room).slots) own_pl_6 (own_ef_6 p1 p2) ?_
  intro p e s m below meth c T0 X0 hx hZ hby hml hown hnm hret hlk e0
  refine OwnK.iloadN X0 hx (hb hby own_d6_0) (pc' := 1) rfl (v := p1) rfl ?_
  refine OwnK.iloadN X0 hx (hb hby own_d6_1) (pc' := 2) rfl (v := p2) rfl ?_
  refine OwnK.icmp_gt X0 hx (hb hby own_d6_2) (by decide) (pcT := 9) (by decide) (pc' := 5) rfl (fun (hc1 : p2.toInt < p1.toInt) => ?_) (fun (hc1 : p1.toInt ≤ p2.toInt) => ?_)
  · refine OwnK.iloadN X0 hx (hb hby own_d6_9) (pc' := 10) rfl (v := p2) rfl ?_
    refine OwnK.retI_ X0 hx hret hlk (hb hby own_d6_10) (by decide) (by decide) ?_
    exact ⟨by first | rw [if_pos (by assumption)] | rw [if_neg (by omega)], e0, rfl⟩
  · refine OwnK.iloadN X0 hx (hb hby own_d6_5) (pc' := 6) rfl (v := p1) rfl ?_
    refine OwnK.goto_ X0 hx (hb hby own_d6_6) (by decide) (pc' := 10) (by decide) ?_
    refine OwnK.retI_ X0 hx hret hlk (hb hby own_d6_10) (by decide) (by decide) ?_
    exact ⟨by first | rw [if_pos (by assumption)] | rw [if_neg (by omega)], e0, rfl⟩
def own_Qmet7 (Z : State) (h0 : Heap) (n0 : Nat) (p1 : Addr) (kA : ClassId) (t0 t1 t2 t3 t4 t5 t6 t7 t8 t9 t10 t11 t12 t13 t14 t15 : Int32) (v : Option Value) (h : Heap) (L : List Loc) : Prop := ∃ r kR, v = some (.ref r) ∧ Fr n0 L ∧ Keep h0 h [] ∧ h0.size ≤ r ∧ Arv Z h r kR .int (32 : Int32) [(.int t0), (.int t1), (.int t2), (.int t3), (.int t4), (.int t5), (.int t6), (.int t7), (.int t8), (.int t9), (.int t10), (.int t11), (.int t12), (.int t13), (.int t14), (.int t15), (.int (0 : Int32)), (.int (0 : Int32)), (.int (0 : Int32)), (.int (0 : Int32)), (.int (0 : Int32)), (.int (0 : Int32)), (.int (0 : Int32)), (.int (0 : Int32)), (.int (0 : Int32)), (.int (0 : Int32)), (.int (0 : Int32)), (.int (0 : Int32)), (.int (0 : Int32)), (.int (0 : Int32)), (.int (0 : Int32)), (.int (0 : Int32))] (.int (0 : Int32)) ∧ Exa Z h r "[I"
set_option maxRecDepth 65536 in
set_option maxHeartbeats 40000000 in
theorem own_met7 (l : Launch) (Z : State) (a0 : Array Value) (hw : ∀ d ∈ tables_1, d.before a0 Z = true) (h0 : Heap) (n0 : Nat) (Z0 : n0 ≤ h0.size) (p1 : Addr) (kA : ClassId) (t0 t1 t2 t3 t4 t5 t6 t7 t8 t9 t10 t11 t12 t13 t14 t15 : Int32) (V0 : Arv Z h0 p1 kA .int (16 : Int32) [(.int t0), (.int t1), (.int t2), (.int t3), (.int t4), (.int t5), (.int t6), (.int t7), (.int t8), (.int t9), (.int t10), (.int t11), (.int t12), (.int t13), (.int t14), (.int t15)] (.int (0 : Int32))) (E0 : Exa Z h0 p1 "[I") :
    MetFree l (⟨"java/util/Arrays", "copyOf", "([II)[I"⟩ : MethodName) (head1 [Jvm.Cond.code (⟨"java/util/Arrays", "copyOf", "([II)[I"⟩ : MethodName) jdk_65_method_123_code 3 (some (.array .int))] ({ frames := 1, cells := 1, slots := 32, locals := 40 } : Room)) (fun a U => a = #[(.ref p1), (.int (32 : Int32))] ∧ Z.Warmed39 U.vm ∧ U.heap = h0) (fun _ _ _ _ _ => True) (fun _ U o U' => ∃ v L, o = .returned v ∧ (own_Qmet7 Z h0 n0 p1 kA t0 t1 t2 t3 t4 t5 t6 t7 t8 t9 t10 t11 t12 t13 t14 t15) v U'.heap L ∧ FrameEnd U o U' L ({ frames := 1, cells := 1, slots := 32, locals := 40 } : Room).cells ({ frames := 1, cells := 1, slots := 32, locals := 40 } : Room).slots) := by
  refine OwnK.met (Q := (own_Qmet7 Z h0 n0 p1 kA t0 t1 t2 t3 t4 t5 t6 t7 t8 t9 t10 t11 t12 t13 t14 t15)) (C := ({ frames := 1, cells := 1, slots := 32, locals := 40 } : Room).cells) (N := ({ frames := 1, cells := 1, slots := 32, locals := 40 } : Room).slots) own_pl_7 (own_ef_7_32 p1) ?_
  intro p e s m below meth c T0 X0 hx hZ hby hml hown hnm hret hlk e0
  have N0 := Fr.nil n0
  have K0 := Keep.refl h0 []
  refine OwnK.iloadN X0 hx (hb hby own_d7_0) (pc' := 1) rfl (v := (32 : Int32)) rfl ?_
  refine OwnK.aloadN X0 hx (hb hby own_d7_1) (pc' := 2) rfl (v := (.ref p1)) rfl rfl ?_
  refine OwnK.arrlen X0 hx hZ e0 V0 (hb hby own_d7_2) (pc' := 3) rfl ?_
  refine OwnK.icmp_ne X0 hx (hb hby own_d7_3) (by decide) (pcT := 14) (by decide) (pc' := 6) rfl (fun hc3 => ?_) (fun (hc3 : 32 = 16) => absurd hc3 (by decide))
  refine OwnK.iloadN X0 hx (hb hby own_d7_14) (pc' := 15) rfl (v := (32 : Int32)) rfl ?_
  refine OwnK.newP_ X0 hx hZ (hw _ (List.mem_of_getElem? (i := 11) rfl)) e0 (hb hby own_d7_15) (pc' := 17) rfl (n := (32 : Int32)) (by decide) (cap := 32) (by decide) (by decide) (by decide) (by decide) (ad := "[I") (by decide) (fun T1 h1 a1 k1 X1 e1 g1 E1 V1 Q1 => ?_)
  have q2 : p1 ≠ a1 := Nat.ne_of_lt (Nat.lt_of_lt_of_le V0.lt (Nat.le_of_eq g1.symm))
  have ge_a1 : n0 ≤ a1 := Nat.le_trans Z0 (Nat.le_of_eq g1.symm)
  have sz_a1 : h0.size ≤ a1 := Nat.le_trans K0.1 (Nat.le_of_eq g1.symm)
  have z3 : n0 ≤ h1.size := Nat.le_trans Z0 E1.1
  have K4 := K0.ext E1
  have f5 := V0.ext E1
  have f6 := E0.ext E1
  have f7 : Arv Z h1 a1 k1 .int (32 : Int32) [(.int (0 : Int32)), (.int (0 : Int32)), (.int (0 : Int32)), (.int (0 : Int32)), (.int (0 : Int32)), (.int (0 : Int32)), (.int (0 : Int32)), (.int (0 : Int32)), (.int (0 : Int32)), (.int (0 : Int32)), (.int (0 : Int32)), (.int (0 : Int32)), (.int (0 : Int32)), (.int (0 : Int32)), (.int (0 : Int32)), (.int (0 : Int32)), (.int (0 : Int32)), (.int (0 : Int32)), (.int (0 : Int32)), (.int (0 : Int32)), (.int (0 : Int32)), (.int (0 : Int32)), (.int (0 : Int32)), (.int (0 : Int32)), (.int (0 : Int32)), (.int (0 : Int32)), (.int (0 : Int32)), (.int (0 : Int32)), (.int (0 : Int32)), (.int (0 : Int32)), (.int (0 : Int32)), (.int (0 : Int32))] (.int (0 : Int32)) := V1.pad (pad_rep [] (.int (0 : Int32)) 32)
  refine OwnK.astoreN X1 hx (hb hby own_d7_17) (pc' := 18) rfl rfl (Ls' := #[.val (.ref p1), .val (.int (32 : Int32)), .val (.ref a1)]) rfl ?_
  refine OwnK.aloadN X1 hx (hb hby own_d7_18) (pc' := 19) rfl (v := (.ref p1)) rfl rfl ?_
  refine OwnK.iconst X1 hx (hb hby own_d7_19) (pc' := 20) rfl (v := (0 : Int32)) (by decide) ?_
  refine OwnK.aloadN X1 hx (hb hby own_d7_20) (pc' := 21) rfl (v := (.ref a1)) rfl rfl ?_
  refine OwnK.iconst X1 hx (hb hby own_d7_21) (pc' := 22) rfl (v := (0 : Int32)) (by decide) ?_
  refine OwnK.aloadN X1 hx (hb hby own_d7_22) (pc' := 23) rfl (v := (.ref p1)) rfl rfl ?_
  refine OwnK.arrlen X1 hx hZ e1 f5 (hb hby own_d7_23) (pc' := 24) rfl ?_
  refine OwnK.iloadN X1 hx (hb hby own_d7_24) (pc' := 25) rfl (v := (32 : Int32)) rfl ?_
  refine OwnK.callS_ X1 hx hZ hown (y := (⟨"java/lang/Math", "min", "(II)I"⟩ : MethodName)) (hw _ (List.mem_of_getElem? (i := 44) rfl)) (hw _ (List.mem_of_getElem? (i := 33) rfl)) (hw _ (List.mem_of_getElem? (i := 34) rfl)) (hw _ (List.mem_of_getElem? (i := 35) rfl)) (by decide) (own_met6 l Z a0 hw h1 (16 : Int32) (32 : Int32)  ) (by decide) (W := 4) (by decide) e1 (by rw [hml]; rfl) own_pd_4 (argsL := [(.int (16 : Int32)), (.int (32 : Int32))]) rfl (S := [(.int (0 : Int32)), (.ref a1), (.int (0 : Int32)), (.ref p1)]) rfl (Nat.le_of_eq rfl) (hb hby own_d7_25) (pc' := 28) rfl (by decide) (by decide) (fun T8 v8 L8 X8 hQ8 => ?_)
  obtain ⟨hv8, e8, rfl⟩ := hQ8
  obtain rfl : v8 = some (.int (16 : Int32)) := hv8.trans (by decide)
  have N9 := Fr.app N0 (Fr.nil n0)
  refine OwnK.arraycopy_ X8 hx hZ hown (hw _ (List.mem_of_getElem? (i := 45) rfl)) (hw _ (List.mem_of_getElem? (i := 39) rfl)) (hw _ (List.mem_of_getElem? (i := 37) rfl)) (hw _ (List.mem_of_getElem? (i := 38) rfl)) e8 f5 f7 (Or.inl ⟨rfl, rfl⟩) (x := 0) (y := 0) (n := 16) (by decide) (by decide) (by decide) (by decide) (by decide) rfl (Nat.le_of_ble_eq_true rfl) N9 ge_a1 (by rw [hml]; rfl) (hb hby own_d7_28) (pc' := 31) rfl (by decide) (W := 0) (Nat.le_of_eq rfl) (by decide) (fun T11 h11 L11 X11 e11 N11 K11 V11 => ?_)
  have f12 := f5.keep K11 (ninS q2 nin0)
  have f13 := f6.keep K11
  have f14 := Q1.keep K11
  have z15 : n0 ≤ h11.size := Nat.le_trans z3 K11.1
  have K16 := K4.trans K11 (allS (Or.inr sz_a1) all0)
  have f17 : Arv Z h11 a1 _ .int (32 : Int32) [(.int t0), (.int t1), (.int t2), (.int t3), (.int t4), (.int t5), (.int t6), (.int t7), (.int t8), (.int t9), (.int t10), (.int t11), (.int t12), (.int t13), (.int t14), (.int t15), (.int (0 : Int32)), (.int (0 : Int32)), (.int (0 : Int32)), (.int (0 : Int32)), (.int (0 : Int32)), (.int (0 : Int32)), (.int (0 : Int32)), (.int (0 : Int32)), (.int (0 : Int32)), (.int (0 : Int32)), (.int (0 : Int32)), (.int (0 : Int32)), (.int (0 : Int32)), (.int (0 : Int32)), (.int (0 : Int32)), (.int (0 : Int32))] (.int (0 : Int32)) := V11
  refine OwnK.aloadN X11 hx (hb hby own_d7_31) (pc' := 32) rfl (v := (.ref a1)) rfl rfl ?_
  refine OwnK.retA_ X11 hx hret rfl rfl hlk (hb hby own_d7_32) (by decide) (by decide) ?_
  rw [show T11.heap = h11 from e11]
  exact ⟨a1, _, rfl, N11, K16, sz_a1, f17, f14⟩
def own_Qroomg (Z : State) (h0 : Heap) (n0 : Nat) (p1 : Addr) (B K : Addr) (kB kK : ClassId) (t0 t1 t2 t3 t4 t5 t6 t7 t8 t9 t10 t11 t12 t13 t14 t15 : Int32) (v : Option Value) (h : Heap) (L : List Loc) : Prop := ∃ r kR, v = some (.ref r) ∧ Fr n0 L ∧ Keep h0 h [B] ∧ h0.size ≤ r ∧ own_IL Z h p1 B r kB kR (16 : Int32) (32 : Int32) [(.int t0), (.int t1), (.int t2), (.int t3), (.int t4), (.int t5), (.int t6), (.int t7), (.int t8), (.int t9), (.int t10), (.int t11), (.int t12), (.int t13), (.int t14), (.int t15), (.int (0 : Int32)), (.int (0 : Int32)), (.int (0 : Int32)), (.int (0 : Int32)), (.int (0 : Int32)), (.int (0 : Int32)), (.int (0 : Int32)), (.int (0 : Int32)), (.int (0 : Int32)), (.int (0 : Int32)), (.int (0 : Int32)), (.int (0 : Int32)), (.int (0 : Int32)), (.int (0 : Int32)), (.int (0 : Int32)), (.int (0 : Int32))]
set_option maxRecDepth 65536 in
set_option maxHeartbeats 40000000 in
theorem own_roomg (l : Launch) (Z : State) (a0 : Array Value) (hw : ∀ d ∈ tables_1, d.before a0 Z = true) (h0 : Heap) (n0 : Nat) (Z0 : n0 ≤ h0.size) (p1 : Addr) (B K : Addr) (kB kK : ClassId) (t0 t1 t2 t3 t4 t5 t6 t7 t8 t9 t10 t11 t12 t13 t14 t15 : Int32) (hI : own_IL Z h0 p1 B K kB kK (16 : Int32) (16 : Int32) [(.int t0), (.int t1), (.int t2), (.int t3), (.int t4), (.int t5), (.int t6), (.int t7), (.int t8), (.int t9), (.int t10), (.int t11), (.int t12), (.int t13), (.int t14), (.int t15)]) (geB : n0 ≤ B) :
    MetFree l (⟨"com/example/strict_reach/strictreach/IntList", "room", "()[I"⟩ : MethodName) (head1 [Jvm.Cond.code (⟨"com/example/strict_reach/strictreach/IntList", "room", "()[I"⟩ : MethodName) prog_9_method_9_code 3 (some (.array .int))] ({ frames := 2, cells := 1, slots := 32, locals := 54 } : Room)) (fun a U => a = #[(.ref p1)] ∧ Z.Warmed39 U.vm ∧ U.heap = h0) (fun _ _ _ _ _ => True) (fun _ U o U' => ∃ v L, o = .returned v ∧ (own_Qroomg Z h0 n0 p1 B K kB kK t0 t1 t2 t3 t4 t5 t6 t7 t8 t9 t10 t11 t12 t13 t14 t15) v U'.heap L ∧ FrameEnd U o U' L ({ frames := 2, cells := 1, slots := 32, locals := 54 } : Room).cells ({ frames := 2, cells := 1, slots := 32, locals := 54 } : Room).slots) := by
  refine OwnK.met (Q := (own_Qroomg Z h0 n0 p1 B K kB kK t0 t1 t2 t3 t4 t5 t6 t7 t8 t9 t10 t11 t12 t13 t14 t15)) (C := ({ frames := 2, cells := 1, slots := 32, locals := 54 } : Room).cells) (N := ({ frames := 2, cells := 1, slots := 32, locals := 54 } : Room).slots) own_pl_4 (own_ef_4 p1) ?_
  intro p e s m below meth c T0 X0 hx hZ hby hml hown hnm hret hlk e0
  have N0 := Fr.nil n0
  have K0 := Keep.refl h0 [B]
  obtain ⟨IE, IS, IB, IAB, IAK, IEB, IEK, IO, IaB, IaK, IBK⟩ := hI
  refine OwnK.aloadN X0 hx (hb hby own_d4_0) (pc' := 1) rfl (v := (.ref p1)) rfl rfl ?_
  refine OwnK.getF_ X0 hx hZ hown (host := "") (Or.inl (hw _ (List.mem_of_getElem? (i := 24) rfl))) Via.refl e0 IS (hb hby own_d4_1) (pc' := 4) rfl (fun T1 X1 e1 => ?_)
  refine OwnK.ldcI X1 hx hZ hown (hw _ (List.mem_of_getElem? (i := 26) rfl)) (hb hby own_d4_4) (pc' := 6) rfl ?_
  refine OwnK.icmp_ne X1 hx (hb hby own_d4_6) (by decide) (pcT := 19) (by decide) (pc' := 9) rfl (fun hc6 => ?_) (fun (hc6 : 16 = 2147483647) => absurd hc6 (by decide))
  refine OwnK.aloadN X1 hx (hb hby own_d4_19) (pc' := 20) rfl (v := (.ref p1)) rfl rfl ?_
  refine OwnK.getF_ X1 hx hZ hown (host := "") (Or.inl (hw _ (List.mem_of_getElem? (i := 24) rfl))) Via.refl e1 IS (hb hby own_d4_20) (pc' := 23) rfl (fun T2 X2 e2 => ?_)
  refine OwnK.bipush X2 hx (hb hby own_d4_23) (pc' := 25) rfl (v := (12 : Int32)) (by decide) ?_
  refine OwnK.iushrL X2 hx (hb hby own_d4_25) (pc' := 26) rfl (z := (0 : Int32)) (by decide) ?_
  refine OwnK.istoreN X2 hx (hb hby own_d4_26) (pc' := 27) rfl (Ls' := #[.val (.ref p1), .val (.int (0 : Int32)), .unset]) rfl ?_
  refine OwnK.iloadN X2 hx (hb hby own_d4_27) (pc' := 28) rfl (v := (0 : Int32)) rfl ?_
  refine OwnK.aloadN X2 hx (hb hby own_d4_28) (pc' := 29) rfl (v := (.ref p1)) rfl rfl ?_
  refine OwnK.getF_ X2 hx hZ hown (host := "") (Or.inl (hw _ (List.mem_of_getElem? (i := 13) rfl))) Via.refl e2 IB (hb hby own_d4_29) (pc' := 32) rfl (fun T3 X3 e3 => ?_)
  refine OwnK.arrlen X3 hx hZ e3 IAB (hb hby own_d4_32) (pc' := 33) rfl ?_
  refine OwnK.icmp_ne X3 hx (hb hby own_d4_33) (by decide) (pcT := 57) (by decide) (pc' := 36) rfl (fun hc33 => ?_) (fun (hc33 : 0 = 1) => absurd hc33 (by decide))
  refine OwnK.aloadN X3 hx (hb hby own_d4_57) (pc' := 58) rfl (v := (.ref p1)) rfl rfl ?_
  refine OwnK.getF_ X3 hx hZ hown (host := "") (Or.inl (hw _ (List.mem_of_getElem? (i := 13) rfl))) Via.refl e3 IB (hb hby own_d4_58) (pc' := 61) rfl (fun T4 X4 e4 => ?_)
  refine OwnK.iloadN X4 hx (hb hby own_d4_61) (pc' := 62) rfl (v := (0 : Int32)) rfl ?_
  refine OwnK.aaload X4 hx hZ e4 IAB rfl (by decide) (by first | decide | omega) (v := (.ref K)) rfl (hb hby own_d4_62) (pc' := 63) rfl ?_
  refine OwnK.astoreN X4 hx (hb hby own_d4_63) (pc' := 64) rfl rfl (Ls' := #[.val (.ref p1), .val (.int (0 : Int32)), .val (.ref K)]) rfl ?_
  refine OwnK.aloadN X4 hx (hb hby own_d4_64) (pc' := 65) rfl (v := (.ref K)) rfl rfl ?_
  refine OwnK.ifnonnull_ref X4 hx (hb hby own_d4_65) (by decide) (pcT := 84) (by decide) (pc' := 68) rfl ?_
  refine OwnK.aloadN X4 hx (hb hby own_d4_84) (pc' := 85) rfl (v := (.ref p1)) rfl rfl ?_
  refine OwnK.getF_ X4 hx hZ hown (host := "") (Or.inl (hw _ (List.mem_of_getElem? (i := 24) rfl))) Via.refl e4 IS (hb hby own_d4_85) (pc' := 88) rfl (fun T5 X5 e5 => ?_)
  refine OwnK.sipush X5 hx (hb hby own_d4_88) (pc' := 91) rfl (v := (4095 : Int32)) (by decide) ?_
  refine OwnK.iandL X5 hx (hb hby own_d4_91) (pc' := 92) rfl (z := (16 : Int32)) (by decide) ?_
  refine OwnK.aloadN X5 hx (hb hby own_d4_92) (pc' := 93) rfl (v := (.ref K)) rfl rfl ?_
  refine OwnK.arrlen X5 hx hZ e5 IAK (hb hby own_d4_93) (pc' := 94) rfl ?_
  refine OwnK.icmp_ne X5 hx (hb hby own_d4_94) (by decide) (pcT := 113) (by decide) (pc' := 97) rfl (fun (hc94 : ¬ 16 = 16) => absurd hc94 (by decide)) (fun hc94 => ?_)
  refine OwnK.aloadN X5 hx (hb hby own_d4_97) (pc' := 98) rfl (v := (.ref K)) rfl rfl ?_
  refine OwnK.iconst X5 hx (hb hby own_d4_98) (pc' := 99) rfl (v := (2 : Int32)) (by decide) ?_
  refine OwnK.aloadN X5 hx (hb hby own_d4_99) (pc' := 100) rfl (v := (.ref K)) rfl rfl ?_
  refine OwnK.arrlen X5 hx hZ e5 IAK (hb hby own_d4_100) (pc' := 101) rfl ?_
  refine OwnK.imulL X5 hx (hb hby own_d4_101) (pc' := 102) rfl (z := (32 : Int32)) (by decide) ?_
  refine OwnK.callS_ X5 hx hZ hown (y := (⟨"java/util/Arrays", "copyOf", "([II)[I"⟩ : MethodName)) (hw _ (List.mem_of_getElem? (i := 40) rfl)) (hw _ (List.mem_of_getElem? (i := 41) rfl)) (hw _ (List.mem_of_getElem? (i := 42) rfl)) (hw _ (List.mem_of_getElem? (i := 43) rfl)) (by decide) (own_met7 l Z a0 hw h0 n0 Z0 K _ t0 t1 t2 t3 t4 t5 t6 t7 t8 t9 t10 t11 t12 t13 t14 t15   IAK IEK ) (by decide) (W := 0) (by decide) e5 (by rw [hml]; rfl) own_pd_9 (argsL := [(.ref K), (.int (32 : Int32))]) rfl (S := []) rfl (Nat.le_of_eq rfl) (hb hby own_d4_102) (pc' := 105) rfl (by decide) (by decide) (fun T6 v6 L6 X6 hQ6 => ?_)
  obtain ⟨r6, kr6, rfl, N6q, K6, hr6, V6, E6q⟩ := hQ6
  have N7 := Fr.app N0 N6q
  have q8 : B ≠ r6 := Nat.ne_of_lt (Nat.lt_of_lt_of_le IAB.lt hr6)
  have q9 : K ≠ r6 := Nat.ne_of_lt (Nat.lt_of_lt_of_le IAK.lt hr6)
  have q10 : p1 ≠ r6 := Nat.ne_of_lt (Nat.lt_of_lt_of_le IE.lt hr6)
  have ge_r6 : n0 ≤ r6 := Nat.le_trans Z0 hr6
  have sz_r6 : h0.size ≤ r6 := Nat.le_trans K0.1 hr6
  have f11 := IE.keep K6
  have f12 := IS.keep K6 nin0
  have f13 := IB.keep K6 nin0
  have f14 := IAB.keep K6 nin0
  have f15 := IAK.keep K6 nin0
  have f16 := IEB.keep K6
  have f17 := IEK.keep K6
  have z18 : n0 ≤ T6.heap.size := Nat.le_trans Z0 K6.1
  have K19 := K0.trans K6 all0
  refine OwnK.astoreN X6 hx (hb hby own_d4_105) (pc' := 106) rfl rfl (Ls' := #[.val (.ref p1), .val (.int (0 : Int32)), .val (.ref r6)]) rfl ?_
  refine OwnK.aloadN X6 hx (hb hby own_d4_106) (pc' := 107) rfl (v := (.ref p1)) rfl rfl ?_
  refine OwnK.getF_ X6 hx hZ hown (host := "") (Or.inl (hw _ (List.mem_of_getElem? (i := 13) rfl))) Via.refl rfl f13 (hb hby own_d4_107) (pc' := 110) rfl (fun T20 X20 e20 => ?_)
  refine OwnK.iloadN X20 hx (hb hby own_d4_110) (pc' := 111) rfl (v := (0 : Int32)) rfl ?_
  refine OwnK.aloadN X20 hx (hb hby own_d4_111) (pc' := 112) rfl (v := (.ref r6)) rfl rfl ?_
  refine OwnK.aastore X20 hx hZ e20 f14 rfl rfl (OwnK.stoOfA f14 IO (Ins.self E6q)) (i := 0) (by decide) (by first | decide | omega) (Nat.le_of_ble_eq_true rfl) (hb hby own_d4_112) (pc' := 113) rfl (fun T21 h21 X21 e21 W21 V21 => ?_)
  have f22 := f11.wr W21
  have f23 := f12.other W21 (Or.inl IaB)
  have f24 := f13.other W21 (Or.inl IaB)
  have f25 := f15.other W21 (Ne.symm IBK)
  have f26 := f16.wr W21
  have f27 := f17.wr W21
  have f28 := V6.other W21 (Ne.symm q8)
  have f29 := E6q.wr W21
  have f30 : Arv Z h21 B _ (.array .int) (1 : Int32) [(.ref r6)] .null := V21
  have N31 := Fr.snoc X21 N7 geB
  have K32 := K19.wr W21 (Or.inl (List.mem_of_getElem? (i := 0) rfl))
  have z33 : n0 ≤ h21.size := Nat.le_trans z18 (Keep.of_wr W21).1
  refine OwnK.aloadN X21 hx (hb hby own_d4_113) (pc' := 114) rfl (v := (.ref r6)) rfl rfl ?_
  refine OwnK.retA_ X21 hx hret rfl rfl hlk (hb hby own_d4_114) (by decide) (by decide) ?_
  rw [show T21.heap = h21 from e21]
  exact ⟨r6, _, rfl, N31, K32, sz_r6, ⟨f22, f23, f24, f30, f28, f26, f29, IO, IaB, q10, q8⟩⟩
def own_Qall_0_2 (Z : State) (h0 : Heap) (n0 : Nat) (p1 : Addr) (p2 : Addr) (B K C D : Addr) (kB kK kC kD : ClassId) (o0 o1 : Int32) (v : Option Value) (h : Heap) (L : List Loc) : Prop := v = none ∧ Fr n0 L ∧ Keep h0 h [p1, B, K] ∧ own_IL Z h p1 B K kB kK (2 : Int32) (16 : Int32) [(.int o0), (.int o1), (.int (0 : Int32)), (.int (0 : Int32)), (.int (0 : Int32)), (.int (0 : Int32)), (.int (0 : Int32)), (.int (0 : Int32)), (.int (0 : Int32)), (.int (0 : Int32)), (.int (0 : Int32)), (.int (0 : Int32)), (.int (0 : Int32)), (.int (0 : Int32)), (.int (0 : Int32)), (.int (0 : Int32))]
set_option maxRecDepth 65536 in
set_option maxHeartbeats 40000000 in
theorem own_all_0_2 (l : Launch) (Z : State) (a0 : Array Value) (hw : ∀ d ∈ tables_1, d.before a0 Z = true) (h0 : Heap) (n0 : Nat) (Z0 : n0 ≤ h0.size) (p1 : Addr) (p2 : Addr) (B K C D : Addr) (kB kK kC kD : ClassId) (o0 o1 : Int32) (ge_p1 : n0 ≤ p1) (hI : own_IL Z h0 p1 B K kB kK (0 : Int32) (16 : Int32) [(.int (0 : Int32)), (.int (0 : Int32)), (.int (0 : Int32)), (.int (0 : Int32)), (.int (0 : Int32)), (.int (0 : Int32)), (.int (0 : Int32)), (.int (0 : Int32)), (.int (0 : Int32)), (.int (0 : Int32)), (.int (0 : Int32)), (.int (0 : Int32)), (.int (0 : Int32)), (.int (0 : Int32)), (.int (0 : Int32)), (.int (0 : Int32))]) (hJ : own_IL Z h0 p2 C D kC kD (2 : Int32) (16 : Int32) [(.int o0), (.int o1), (.int (0 : Int32)), (.int (0 : Int32)), (.int (0 : Int32)), (.int (0 : Int32)), (.int (0 : Int32)), (.int (0 : Int32)), (.int (0 : Int32)), (.int (0 : Int32)), (.int (0 : Int32)), (.int (0 : Int32)), (.int (0 : Int32)), (.int (0 : Int32)), (.int (0 : Int32)), (.int (0 : Int32))]) (geB : n0 ≤ B) (geK : n0 ≤ K) (n12 : p1 ≠ p2) (hN : p1 ≠ C ∧ p1 ≠ D ∧ B ≠ p2 ∧ B ≠ C ∧ B ≠ D ∧ K ≠ p2 ∧ K ≠ C ∧ K ≠ D) :
    MetFree l (⟨"com/example/strict_reach/strictreach/IntList", "addAll", "(Lcom/example/strict_reach/strictreach/IntList;)V"⟩ : MethodName) (head1 [Jvm.Cond.code (⟨"com/example/strict_reach/strictreach/IntList", "addAll", "(Lcom/example/strict_reach/strictreach/IntList;)V"⟩ : MethodName) prog_9_method_3_code 8 none] ({ frames := 1, cells := 0, slots := 0, locals := 40 } : Room)) (fun a U => a = #[(.ref p1), (.ref p2)] ∧ Z.Warmed39 U.vm ∧ U.heap = h0) (fun _ _ _ _ _ => True) (fun _ U o U' => ∃ v L, o = .returned v ∧ (own_Qall_0_2 Z h0 n0 p1 p2 B K C D kB kK kC kD o0 o1) v U'.heap L ∧ FrameEnd U o U' L ({ frames := 1, cells := 0, slots := 0, locals := 40 } : Room).cells ({ frames := 1, cells := 0, slots := 0, locals := 40 } : Room).slots) := by
  refine OwnK.met (Q := (own_Qall_0_2 Z h0 n0 p1 p2 B K C D kB kK kC kD o0 o1)) (C := ({ frames := 1, cells := 0, slots := 0, locals := 40 } : Room).cells) (N := ({ frames := 1, cells := 0, slots := 0, locals := 40 } : Room).slots) own_pl_5 (own_ef_5 p1 p2) ?_
  intro p e s m below meth c T0 X0 hx hZ hby hml hown hnm hret hlk e0
  have N0 := Fr.nil n0
  have K0 := Keep.refl h0 [p1, B, K]
  obtain ⟨iIE, iIS, iIB, iIAB, iIAK, iIEB, iIEK, iIO, iIaB, iIaK, iIBK⟩ := hI
  obtain ⟨jIE, jIS, jIB, jIAB, jIAK, jIEB, jIEK, jIO, jIaB, jIaK, jIBK⟩ := hJ
  obtain ⟨nn0, nn1, nn2, nn3, nn4, nn5, nn6, nn7⟩ := hN
  refine OwnK.iconst X0 hx (hb hby own_d5_0) (pc' := 1) rfl (v := (0 : Int32)) (by decide) ?_
  refine OwnK.istoreN X0 hx (hb hby own_d5_1) (pc' := 2) rfl (Ls' := #[.val (.ref p1), .val (.ref p2), .val (.int (0 : Int32)), .unset, .unset, .unset, .unset, .unset]) rfl ?_
  refine OwnK.iloadN X0 hx (hb hby own_d5_2) (pc' := 3) rfl (v := (0 : Int32)) rfl ?_
  refine OwnK.aloadN X0 hx (hb hby own_d5_3) (pc' := 4) rfl (v := (.ref p2)) rfl rfl ?_
  refine OwnK.getF_ X0 hx hZ hown (host := "") (Or.inl (hw _ (List.mem_of_getElem? (i := 24) rfl))) Via.refl e0 jIS (hb hby own_d5_4) (pc' := 7) rfl (fun T1 X1 e1 => ?_)
  refine OwnK.icmp_ge X1 hx (hb hby own_d5_7) (by decide) (pcT := 99) (by decide) (pc' := 10) rfl (fun (hc7 : 2 ≤ 0) => absurd hc7 (by decide)) (fun hc7 => ?_)
  refine OwnK.aloadN X1 hx (hb hby own_d5_10) (pc' := 11) rfl (v := (.ref p1)) rfl rfl ?_
  refine OwnK.callP_ X1 hx hZ hown (y := (⟨"com/example/strict_reach/strictreach/IntList", "room", "()[I"⟩ : MethodName)) (z := (⟨"com/example/strict_reach/strictreach/IntList", "add", "(I)V"⟩ : MethodName)) (a := p1) (hw _ (List.mem_of_getElem? (i := 20) rfl)) (hw _ (List.mem_of_getElem? (i := 21) rfl)) rfl (hw _ (List.mem_of_getElem? (i := 18) rfl)) (hw _ (List.mem_of_getElem? (i := 22) rfl)) (hw _ (List.mem_of_getElem? (i := 23) rfl)) (hw _ (List.mem_of_getElem? (i := 2) rfl)) (by decide) iIE (own_met4 l Z a0 hw h0 p1 B K _ _ (0 : Int32) (16 : Int32) _ ⟨iIE, iIS, iIB, iIAB, iIAK, iIEB, iIEK, iIO, iIaB, iIaK, iIBK⟩ (by decide) (by decide) ) (by decide) (W := 0) (by decide) e1 (by rw [hml]; rfl) own_pd_1 (argsL := []) rfl (S := []) rfl (Nat.le_of_eq rfl) (hb hby own_d5_11) (pc' := 14) rfl (by decide) (by decide) (fun T2 v2 L2 X2 hQ2 => ?_)
  obtain ⟨rfl, e2, rfl⟩ := hQ2
  have N3 := Fr.app N0 (Fr.nil n0)
  refine OwnK.astoreN X2 hx (hb hby own_d5_14) (pc' := 15) rfl rfl (Ls' := #[.val (.ref p1), .val (.ref p2), .val (.int (0 : Int32)), .val (.ref K), .unset, .unset, .unset, .unset]) rfl ?_
  refine OwnK.aloadN X2 hx (hb hby own_d5_15) (pc' := 16) rfl (v := (.ref p1)) rfl rfl ?_
  refine OwnK.getF_ X2 hx hZ hown (host := "") (Or.inl (hw _ (List.mem_of_getElem? (i := 24) rfl))) Via.refl e2 iIS (hb hby own_d5_16) (pc' := 19) rfl (fun T4 X4 e4 => ?_)
  refine OwnK.sipush X4 hx (hb hby own_d5_19) (pc' := 22) rfl (v := (4095 : Int32)) (by decide) ?_
  refine OwnK.iandL X4 hx (hb hby own_d5_22) (pc' := 23) rfl (z := (0 : Int32)) (by decide) ?_
  refine OwnK.istore X4 hx (hb hby own_d5_23) (pc' := 25) rfl (Ls' := #[.val (.ref p1), .val (.ref p2), .val (.int (0 : Int32)), .val (.ref K), .val (.int (0 : Int32)), .unset, .unset, .unset]) rfl ?_
  refine OwnK.aloadN X4 hx (hb hby own_d5_25) (pc' := 26) rfl (v := (.ref p2)) rfl rfl ?_
  refine OwnK.getF_ X4 hx hZ hown (host := "") (Or.inl (hw _ (List.mem_of_getElem? (i := 13) rfl))) Via.refl e4 jIB (hb hby own_d5_26) (pc' := 29) rfl (fun T5 X5 e5 => ?_)
  refine OwnK.iloadN X5 hx (hb hby own_d5_29) (pc' := 30) rfl (v := (0 : Int32)) rfl ?_
  refine OwnK.bipush X5 hx (hb hby own_d5_30) (pc' := 32) rfl (v := (12 : Int32)) (by decide) ?_
  refine OwnK.iushrL X5 hx (hb hby own_d5_32) (pc' := 33) rfl (z := (0 : Int32)) (by decide) ?_
  refine OwnK.aaload X5 hx hZ e5 jIAB rfl (by decide) (by first | decide | omega) (v := (.ref D)) rfl (hb hby own_d5_33) (pc' := 34) rfl ?_
  refine OwnK.astore X5 hx (hb hby own_d5_34) (pc' := 36) rfl rfl (Ls' := #[.val (.ref p1), .val (.ref p2), .val (.int (0 : Int32)), .val (.ref K), .val (.int (0 : Int32)), .val (.ref D), .unset, .unset]) rfl ?_
  refine OwnK.iloadN X5 hx (hb hby own_d5_36) (pc' := 37) rfl (v := (0 : Int32)) rfl ?_
  refine OwnK.sipush X5 hx (hb hby own_d5_37) (pc' := 40) rfl (v := (4095 : Int32)) (by decide) ?_
  refine OwnK.iandL X5 hx (hb hby own_d5_40) (pc' := 41) rfl (z := (0 : Int32)) (by decide) ?_
  refine OwnK.istore X5 hx (hb hby own_d5_41) (pc' := 43) rfl (Ls' := #[.val (.ref p1), .val (.ref p2), .val (.int (0 : Int32)), .val (.ref K), .val (.int (0 : Int32)), .val (.ref D), .val (.int (0 : Int32)), .unset]) rfl ?_
  refine OwnK.aloadN X5 hx (hb hby own_d5_43) (pc' := 44) rfl (v := (.ref p2)) rfl rfl ?_
  refine OwnK.getF_ X5 hx hZ hown (host := "") (Or.inl (hw _ (List.mem_of_getElem? (i := 24) rfl))) Via.refl e5 jIS (hb hby own_d5_44) (pc' := 47) rfl (fun T6 X6 e6 => ?_)
  refine OwnK.iloadN X6 hx (hb hby own_d5_47) (pc' := 48) rfl (v := (0 : Int32)) rfl ?_
  refine OwnK.isubL X6 hx (hb hby own_d5_48) (pc' := 49) rfl (z := (2 : Int32)) (by decide) ?_
  refine OwnK.aloadN X6 hx (hb hby own_d5_49) (pc' := 50) rfl (v := (.ref K)) rfl rfl ?_
  refine OwnK.arrlen X6 hx hZ e6 iIAK (hb hby own_d5_50) (pc' := 51) rfl ?_
  refine OwnK.iload X6 hx (hb hby own_d5_51) (pc' := 53) rfl (v := (0 : Int32)) rfl ?_
  refine OwnK.isubL X6 hx (hb hby own_d5_53) (pc' := 54) rfl (z := (16 : Int32)) (by decide) ?_
  refine OwnK.aload X6 hx (hb hby own_d5_54) (pc' := 56) rfl (v := (.ref D)) rfl rfl ?_
  refine OwnK.arrlen X6 hx hZ e6 jIAK (hb hby own_d5_56) (pc' := 57) rfl ?_
  refine OwnK.iload X6 hx (hb hby own_d5_57) (pc' := 59) rfl (v := (0 : Int32)) rfl ?_
  refine OwnK.isubL X6 hx (hb hby own_d5_59) (pc' := 60) rfl (z := (16 : Int32)) (by decide) ?_
  refine OwnK.callS_ X6 hx hZ hown (y := (⟨"java/lang/Math", "min", "(II)I"⟩ : MethodName)) (hw _ (List.mem_of_getElem? (i := 32) rfl)) (hw _ (List.mem_of_getElem? (i := 33) rfl)) (hw _ (List.mem_of_getElem? (i := 34) rfl)) (hw _ (List.mem_of_getElem? (i := 35) rfl)) (by decide) (own_met6 l Z a0 hw h0 (16 : Int32) (16 : Int32)  ) (by decide) (W := 1) (by decide) e6 (by rw [hml]; rfl) own_pd_4 (argsL := [(.int (16 : Int32)), (.int (16 : Int32))]) rfl (S := [(.int (2 : Int32))]) rfl (Nat.le_of_eq rfl) (hb hby own_d5_60) (pc' := 63) rfl (by decide) (by decide) (fun T7 v7 L7 X7 hQ7 => ?_)
  obtain ⟨hv7, e7, rfl⟩ := hQ7
  obtain rfl : v7 = some (.int (16 : Int32)) := hv7.trans (by decide)
  have N8 := Fr.app N3 (Fr.nil n0)
  refine OwnK.callS_ X7 hx hZ hown (y := (⟨"java/lang/Math", "min", "(II)I"⟩ : MethodName)) (hw _ (List.mem_of_getElem? (i := 32) rfl)) (hw _ (List.mem_of_getElem? (i := 33) rfl)) (hw _ (List.mem_of_getElem? (i := 34) rfl)) (hw _ (List.mem_of_getElem? (i := 35) rfl)) (by decide) (own_met6 l Z a0 hw h0 (2 : Int32) (16 : Int32)  ) (by decide) (W := 0) (by decide) e7 (by rw [hml]; rfl) own_pd_4 (argsL := [(.int (2 : Int32)), (.int (16 : Int32))]) rfl (S := []) rfl (Nat.le_of_eq rfl) (hb hby own_d5_63) (pc' := 66) rfl (by decide) (by decide) (fun T9 v9 L9 X9 hQ9 => ?_)
  obtain ⟨hv9, e9, rfl⟩ := hQ9
  obtain rfl : v9 = some (.int (2 : Int32)) := hv9.trans (by decide)
  have N10 := Fr.app N8 (Fr.nil n0)
  refine OwnK.istore X9 hx (hb hby own_d5_66) (pc' := 68) rfl (Ls' := #[.val (.ref p1), .val (.ref p2), .val (.int (0 : Int32)), .val (.ref K), .val (.int (0 : Int32)), .val (.ref D), .val (.int (0 : Int32)), .val (.int (2 : Int32))]) rfl ?_
  refine OwnK.aload X9 hx (hb hby own_d5_68) (pc' := 70) rfl (v := (.ref D)) rfl rfl ?_
  refine OwnK.iload X9 hx (hb hby own_d5_70) (pc' := 72) rfl (v := (0 : Int32)) rfl ?_
  refine OwnK.aloadN X9 hx (hb hby own_d5_72) (pc' := 73) rfl (v := (.ref K)) rfl rfl ?_
  refine OwnK.iload X9 hx (hb hby own_d5_73) (pc' := 75) rfl (v := (0 : Int32)) rfl ?_
  refine OwnK.iload X9 hx (hb hby own_d5_75) (pc' := 77) rfl (v := (2 : Int32)) rfl ?_
  refine OwnK.arraycopy_ X9 hx hZ hown (hw _ (List.mem_of_getElem? (i := 36) rfl)) (hw _ (List.mem_of_getElem? (i := 39) rfl)) (hw _ (List.mem_of_getElem? (i := 37) rfl)) (hw _ (List.mem_of_getElem? (i := 38) rfl)) e9 jIAK iIAK (Or.inl ⟨rfl, rfl⟩) (x := 0) (y := 0) (n := 2) (by decide) (by decide) (by decide) (by decide) (by decide) rfl (Nat.le_of_ble_eq_true rfl) N10 geK (by rw [hml]; rfl) (hb hby own_d5_77) (pc' := 80) rfl (by decide) (W := 0) (Nat.le_of_eq rfl) (by decide) (fun T12 h12 L12 X12 e12 N12 K12 V12 => ?_)
  have f13 := iIE.keep K12
  have f14 := iIS.keep K12 (ninS iIaK nin0)
  have f15 := iIB.keep K12 (ninS iIaK nin0)
  have f16 := iIAB.keep K12 (ninS iIBK nin0)
  have f17 := iIEB.keep K12
  have f18 := iIEK.keep K12
  have f19 := jIE.keep K12
  have f20 := jIS.keep K12 (ninS (Ne.symm nn5) nin0)
  have f21 := jIB.keep K12 (ninS (Ne.symm nn5) nin0)
  have f22 := jIAB.keep K12 (ninS (Ne.symm nn6) nin0)
  have f23 := jIAK.keep K12 (ninS (Ne.symm nn7) nin0)
  have f24 := jIEB.keep K12
  have f25 := jIEK.keep K12
  have z26 : n0 ≤ h12.size := Nat.le_trans Z0 K12.1
  have K27 := K0.trans K12 (allS (Or.inl (List.mem_of_getElem? (i := 2) rfl)) all0)
  have f28 : Arv Z h12 K _ .int (16 : Int32) [(.int o0), (.int o1), (.int (0 : Int32)), (.int (0 : Int32)), (.int (0 : Int32)), (.int (0 : Int32)), (.int (0 : Int32)), (.int (0 : Int32)), (.int (0 : Int32)), (.int (0 : Int32)), (.int (0 : Int32)), (.int (0 : Int32)), (.int (0 : Int32)), (.int (0 : Int32)), (.int (0 : Int32)), (.int (0 : Int32))] (.int (0 : Int32)) := V12
  refine OwnK.aloadN X12 hx (hb hby own_d5_80) (pc' := 81) rfl (v := (.ref p1)) rfl rfl ?_
  refine OwnK.dup X12 hx (hb hby own_d5_81) (pc' := 82) rfl rfl ?_
  refine OwnK.getF_ X12 hx hZ hown (host := "") (Or.inl (hw _ (List.mem_of_getElem? (i := 24) rfl))) Via.refl e12 f14 (hb hby own_d5_82) (pc' := 85) rfl (fun T29 X29 e29 => ?_)
  refine OwnK.iload X29 hx (hb hby own_d5_85) (pc' := 87) rfl (v := (2 : Int32)) rfl ?_
  refine OwnK.iaddL X29 hx (hb hby own_d5_87) (pc' := 88) rfl (z := (2 : Int32)) (by decide) ?_
  refine OwnK.putF_ X29 hx hZ hown (hw _ (List.mem_of_getElem? (i := 24) rfl)) Via.refl e29 f14 f13 (Or.inl (hw _ (List.mem_of_getElem? (i := 25) rfl))) (hw _ (List.mem_of_getElem? (i := 1) rfl)) (ty := .int) (by decide) (v' := (.int (2 : Int32))) rfl rfl (hb hby own_d5_88) (pc' := 91) rfl (fun T30 h30 X30 e30 W30 => ?_)
  have f31 := f14.same W30
  have f32 := f13.wr W30
  have f33 := f15.other W30 (Or.inr (slot_ne (Or.inl (hw _ (List.mem_of_getElem? (i := 14) rfl))) (Or.inl (hw _ (List.mem_of_getElem? (i := 25) rfl))) (by decide) (t := (.array (.array .int))) (t' := .int) (by decide) (by decide)))
  have f34 := f16.other W30 (Ne.symm iIaB)
  have f35 := f28.other W30 (Ne.symm iIaK)
  have f36 := f17.wr W30
  have f37 := f18.wr W30
  have f38 := f19.wr W30
  have f39 := f20.other W30 (Or.inl (Ne.symm n12))
  have f40 := f21.other W30 (Or.inl (Ne.symm n12))
  have f41 := f22.other W30 (Ne.symm nn0)
  have f42 := f23.other W30 (Ne.symm nn1)
  have f43 := f24.wr W30
  have f44 := f25.wr W30
  have N45 := Fr.snoc X30 N12 ge_p1
  have K46 := K27.wr W30 (Or.inl (List.mem_of_getElem? (i := 0) rfl))
  have z47 : n0 ≤ h30.size := Nat.le_trans z26 (Keep.of_wr W30).1
  refine OwnK.iloadN X30 hx (hb hby own_d5_91) (pc' := 92) rfl (v := (0 : Int32)) rfl ?_
  refine OwnK.iload X30 hx (hb hby own_d5_92) (pc' := 94) rfl (v := (2 : Int32)) rfl ?_
  refine OwnK.iaddL X30 hx (hb hby own_d5_94) (pc' := 95) rfl (z := (2 : Int32)) (by decide) ?_
  refine OwnK.istoreN X30 hx (hb hby own_d5_95) (pc' := 96) rfl (Ls' := #[.val (.ref p1), .val (.ref p2), .val (.int (2 : Int32)), .val (.ref K), .val (.int (0 : Int32)), .val (.ref D), .val (.int (0 : Int32)), .val (.int (2 : Int32))]) rfl ?_
  refine OwnK.goto_ X30 hx (hb hby own_d5_96) (by decide) (pc' := 2) (by decide) ?_
  refine OwnK.iloadN X30 hx (hb hby own_d5_2) (pc' := 3) rfl (v := (2 : Int32)) rfl ?_
  refine OwnK.aloadN X30 hx (hb hby own_d5_3) (pc' := 4) rfl (v := (.ref p2)) rfl rfl ?_
  refine OwnK.getF_ X30 hx hZ hown (host := "") (Or.inl (hw _ (List.mem_of_getElem? (i := 24) rfl))) Via.refl e30 f39 (hb hby own_d5_4) (pc' := 7) rfl (fun T48 X48 e48 => ?_)
  refine OwnK.icmp_ge X48 hx (hb hby own_d5_7) (by decide) (pcT := 99) (by decide) (pc' := 10) rfl (fun hc7 => ?_) (fun (hc7 : 2 < 2) => absurd hc7 (by decide))
  refine OwnK.retV_ X48 hx hret hlk (hb hby own_d5_99) (by decide) (by decide) ?_
  rw [show T48.heap = h30 from e48]
  exact ⟨rfl, N45, K46, ⟨f32, f31, f33, f34, f35, f36, f37, iIO, iIaB, iIaK, iIBK⟩⟩
def own_Qall_2_2 (Z : State) (h0 : Heap) (n0 : Nat) (p1 : Addr) (p2 : Addr) (B K C D : Addr) (kB kK kC kD : ClassId) (t0 t1 o0 o1 : Int32) (v : Option Value) (h : Heap) (L : List Loc) : Prop := v = none ∧ Fr n0 L ∧ Keep h0 h [p1, B, K] ∧ own_IL Z h p1 B K kB kK (4 : Int32) (16 : Int32) [(.int t0), (.int t1), (.int o0), (.int o1), (.int (0 : Int32)), (.int (0 : Int32)), (.int (0 : Int32)), (.int (0 : Int32)), (.int (0 : Int32)), (.int (0 : Int32)), (.int (0 : Int32)), (.int (0 : Int32)), (.int (0 : Int32)), (.int (0 : Int32)), (.int (0 : Int32)), (.int (0 : Int32))]
set_option maxRecDepth 65536 in
set_option maxHeartbeats 40000000 in
theorem own_all_2_2 (l : Launch) (Z : State) (a0 : Array Value) (hw : ∀ d ∈ tables_1, d.before a0 Z = true) (h0 : Heap) (n0 : Nat) (Z0 : n0 ≤ h0.size) (p1 : Addr) (p2 : Addr) (B K C D : Addr) (kB kK kC kD : ClassId) (t0 t1 o0 o1 : Int32) (ge_p1 : n0 ≤ p1) (hI : own_IL Z h0 p1 B K kB kK (2 : Int32) (16 : Int32) [(.int t0), (.int t1), (.int (0 : Int32)), (.int (0 : Int32)), (.int (0 : Int32)), (.int (0 : Int32)), (.int (0 : Int32)), (.int (0 : Int32)), (.int (0 : Int32)), (.int (0 : Int32)), (.int (0 : Int32)), (.int (0 : Int32)), (.int (0 : Int32)), (.int (0 : Int32)), (.int (0 : Int32)), (.int (0 : Int32))]) (hJ : own_IL Z h0 p2 C D kC kD (2 : Int32) (16 : Int32) [(.int o0), (.int o1), (.int (0 : Int32)), (.int (0 : Int32)), (.int (0 : Int32)), (.int (0 : Int32)), (.int (0 : Int32)), (.int (0 : Int32)), (.int (0 : Int32)), (.int (0 : Int32)), (.int (0 : Int32)), (.int (0 : Int32)), (.int (0 : Int32)), (.int (0 : Int32)), (.int (0 : Int32)), (.int (0 : Int32))]) (geB : n0 ≤ B) (geK : n0 ≤ K) (n12 : p1 ≠ p2) (hN : p1 ≠ C ∧ p1 ≠ D ∧ B ≠ p2 ∧ B ≠ C ∧ B ≠ D ∧ K ≠ p2 ∧ K ≠ C ∧ K ≠ D) :
    MetFree l (⟨"com/example/strict_reach/strictreach/IntList", "addAll", "(Lcom/example/strict_reach/strictreach/IntList;)V"⟩ : MethodName) (head1 [Jvm.Cond.code (⟨"com/example/strict_reach/strictreach/IntList", "addAll", "(Lcom/example/strict_reach/strictreach/IntList;)V"⟩ : MethodName) prog_9_method_3_code 8 none] ({ frames := 1, cells := 0, slots := 0, locals := 40 } : Room)) (fun a U => a = #[(.ref p1), (.ref p2)] ∧ Z.Warmed39 U.vm ∧ U.heap = h0) (fun _ _ _ _ _ => True) (fun _ U o U' => ∃ v L, o = .returned v ∧ (own_Qall_2_2 Z h0 n0 p1 p2 B K C D kB kK kC kD t0 t1 o0 o1) v U'.heap L ∧ FrameEnd U o U' L ({ frames := 1, cells := 0, slots := 0, locals := 40 } : Room).cells ({ frames := 1, cells := 0, slots := 0, locals := 40 } : Room).slots) := by
  refine OwnK.met (Q := (own_Qall_2_2 Z h0 n0 p1 p2 B K C D kB kK kC kD t0 t1 o0 o1)) (C := ({ frames := 1, cells := 0, slots := 0, locals := 40 } : Room).cells) (N := ({ frames := 1, cells := 0, slots := 0, locals := 40 } : Room).slots) own_pl_5 (own_ef_5 p1 p2) ?_
  intro p e s m below meth c T0 X0 hx hZ hby hml hown hnm hret hlk e0
  have N0 := Fr.nil n0
  have K0 := Keep.refl h0 [p1, B, K]
  obtain ⟨iIE, iIS, iIB, iIAB, iIAK, iIEB, iIEK, iIO, iIaB, iIaK, iIBK⟩ := hI
  obtain ⟨jIE, jIS, jIB, jIAB, jIAK, jIEB, jIEK, jIO, jIaB, jIaK, jIBK⟩ := hJ
  obtain ⟨nn0, nn1, nn2, nn3, nn4, nn5, nn6, nn7⟩ := hN
  refine OwnK.iconst X0 hx (hb hby own_d5_0) (pc' := 1) rfl (v := (0 : Int32)) (by decide) ?_
  refine OwnK.istoreN X0 hx (hb hby own_d5_1) (pc' := 2) rfl (Ls' := #[.val (.ref p1), .val (.ref p2), .val (.int (0 : Int32)), .unset, .unset, .unset, .unset, .unset]) rfl ?_
  refine OwnK.iloadN X0 hx (hb hby own_d5_2) (pc' := 3) rfl (v := (0 : Int32)) rfl ?_
  refine OwnK.aloadN X0 hx (hb hby own_d5_3) (pc' := 4) rfl (v := (.ref p2)) rfl rfl ?_
  refine OwnK.getF_ X0 hx hZ hown (host := "") (Or.inl (hw _ (List.mem_of_getElem? (i := 24) rfl))) Via.refl e0 jIS (hb hby own_d5_4) (pc' := 7) rfl (fun T1 X1 e1 => ?_)
  refine OwnK.icmp_ge X1 hx (hb hby own_d5_7) (by decide) (pcT := 99) (by decide) (pc' := 10) rfl (fun (hc7 : 2 ≤ 0) => absurd hc7 (by decide)) (fun hc7 => ?_)
  refine OwnK.aloadN X1 hx (hb hby own_d5_10) (pc' := 11) rfl (v := (.ref p1)) rfl rfl ?_
  refine OwnK.callP_ X1 hx hZ hown (y := (⟨"com/example/strict_reach/strictreach/IntList", "room", "()[I"⟩ : MethodName)) (z := (⟨"com/example/strict_reach/strictreach/IntList", "add", "(I)V"⟩ : MethodName)) (a := p1) (hw _ (List.mem_of_getElem? (i := 20) rfl)) (hw _ (List.mem_of_getElem? (i := 21) rfl)) rfl (hw _ (List.mem_of_getElem? (i := 18) rfl)) (hw _ (List.mem_of_getElem? (i := 22) rfl)) (hw _ (List.mem_of_getElem? (i := 23) rfl)) (hw _ (List.mem_of_getElem? (i := 2) rfl)) (by decide) iIE (own_met4 l Z a0 hw h0 p1 B K _ _ (2 : Int32) (16 : Int32) _ ⟨iIE, iIS, iIB, iIAB, iIAK, iIEB, iIEK, iIO, iIaB, iIaK, iIBK⟩ (by decide) (by decide) ) (by decide) (W := 0) (by decide) e1 (by rw [hml]; rfl) own_pd_1 (argsL := []) rfl (S := []) rfl (Nat.le_of_eq rfl) (hb hby own_d5_11) (pc' := 14) rfl (by decide) (by decide) (fun T2 v2 L2 X2 hQ2 => ?_)
  obtain ⟨rfl, e2, rfl⟩ := hQ2
  have N3 := Fr.app N0 (Fr.nil n0)
  refine OwnK.astoreN X2 hx (hb hby own_d5_14) (pc' := 15) rfl rfl (Ls' := #[.val (.ref p1), .val (.ref p2), .val (.int (0 : Int32)), .val (.ref K), .unset, .unset, .unset, .unset]) rfl ?_
  refine OwnK.aloadN X2 hx (hb hby own_d5_15) (pc' := 16) rfl (v := (.ref p1)) rfl rfl ?_
  refine OwnK.getF_ X2 hx hZ hown (host := "") (Or.inl (hw _ (List.mem_of_getElem? (i := 24) rfl))) Via.refl e2 iIS (hb hby own_d5_16) (pc' := 19) rfl (fun T4 X4 e4 => ?_)
  refine OwnK.sipush X4 hx (hb hby own_d5_19) (pc' := 22) rfl (v := (4095 : Int32)) (by decide) ?_
  refine OwnK.iandL X4 hx (hb hby own_d5_22) (pc' := 23) rfl (z := (2 : Int32)) (by decide) ?_
  refine OwnK.istore X4 hx (hb hby own_d5_23) (pc' := 25) rfl (Ls' := #[.val (.ref p1), .val (.ref p2), .val (.int (0 : Int32)), .val (.ref K), .val (.int (2 : Int32)), .unset, .unset, .unset]) rfl ?_
  refine OwnK.aloadN X4 hx (hb hby own_d5_25) (pc' := 26) rfl (v := (.ref p2)) rfl rfl ?_
  refine OwnK.getF_ X4 hx hZ hown (host := "") (Or.inl (hw _ (List.mem_of_getElem? (i := 13) rfl))) Via.refl e4 jIB (hb hby own_d5_26) (pc' := 29) rfl (fun T5 X5 e5 => ?_)
  refine OwnK.iloadN X5 hx (hb hby own_d5_29) (pc' := 30) rfl (v := (0 : Int32)) rfl ?_
  refine OwnK.bipush X5 hx (hb hby own_d5_30) (pc' := 32) rfl (v := (12 : Int32)) (by decide) ?_
  refine OwnK.iushrL X5 hx (hb hby own_d5_32) (pc' := 33) rfl (z := (0 : Int32)) (by decide) ?_
  refine OwnK.aaload X5 hx hZ e5 jIAB rfl (by decide) (by first | decide | omega) (v := (.ref D)) rfl (hb hby own_d5_33) (pc' := 34) rfl ?_
  refine OwnK.astore X5 hx (hb hby own_d5_34) (pc' := 36) rfl rfl (Ls' := #[.val (.ref p1), .val (.ref p2), .val (.int (0 : Int32)), .val (.ref K), .val (.int (2 : Int32)), .val (.ref D), .unset, .unset]) rfl ?_
  refine OwnK.iloadN X5 hx (hb hby own_d5_36) (pc' := 37) rfl (v := (0 : Int32)) rfl ?_
  refine OwnK.sipush X5 hx (hb hby own_d5_37) (pc' := 40) rfl (v := (4095 : Int32)) (by decide) ?_
  refine OwnK.iandL X5 hx (hb hby own_d5_40) (pc' := 41) rfl (z := (0 : Int32)) (by decide) ?_
  refine OwnK.istore X5 hx (hb hby own_d5_41) (pc' := 43) rfl (Ls' := #[.val (.ref p1), .val (.ref p2), .val (.int (0 : Int32)), .val (.ref K), .val (.int (2 : Int32)), .val (.ref D), .val (.int (0 : Int32)), .unset]) rfl ?_
  refine OwnK.aloadN X5 hx (hb hby own_d5_43) (pc' := 44) rfl (v := (.ref p2)) rfl rfl ?_
  refine OwnK.getF_ X5 hx hZ hown (host := "") (Or.inl (hw _ (List.mem_of_getElem? (i := 24) rfl))) Via.refl e5 jIS (hb hby own_d5_44) (pc' := 47) rfl (fun T6 X6 e6 => ?_)
  refine OwnK.iloadN X6 hx (hb hby own_d5_47) (pc' := 48) rfl (v := (0 : Int32)) rfl ?_
  refine OwnK.isubL X6 hx (hb hby own_d5_48) (pc' := 49) rfl (z := (2 : Int32)) (by decide) ?_
  refine OwnK.aloadN X6 hx (hb hby own_d5_49) (pc' := 50) rfl (v := (.ref K)) rfl rfl ?_
  refine OwnK.arrlen X6 hx hZ e6 iIAK (hb hby own_d5_50) (pc' := 51) rfl ?_
  refine OwnK.iload X6 hx (hb hby own_d5_51) (pc' := 53) rfl (v := (2 : Int32)) rfl ?_
  refine OwnK.isubL X6 hx (hb hby own_d5_53) (pc' := 54) rfl (z := (14 : Int32)) (by decide) ?_
  refine OwnK.aload X6 hx (hb hby own_d5_54) (pc' := 56) rfl (v := (.ref D)) rfl rfl ?_
  refine OwnK.arrlen X6 hx hZ e6 jIAK (hb hby own_d5_56) (pc' := 57) rfl ?_
  refine OwnK.iload X6 hx (hb hby own_d5_57) (pc' := 59) rfl (v := (0 : Int32)) rfl ?_
  refine OwnK.isubL X6 hx (hb hby own_d5_59) (pc' := 60) rfl (z := (16 : Int32)) (by decide) ?_
  refine OwnK.callS_ X6 hx hZ hown (y := (⟨"java/lang/Math", "min", "(II)I"⟩ : MethodName)) (hw _ (List.mem_of_getElem? (i := 32) rfl)) (hw _ (List.mem_of_getElem? (i := 33) rfl)) (hw _ (List.mem_of_getElem? (i := 34) rfl)) (hw _ (List.mem_of_getElem? (i := 35) rfl)) (by decide) (own_met6 l Z a0 hw h0 (14 : Int32) (16 : Int32)  ) (by decide) (W := 1) (by decide) e6 (by rw [hml]; rfl) own_pd_4 (argsL := [(.int (14 : Int32)), (.int (16 : Int32))]) rfl (S := [(.int (2 : Int32))]) rfl (Nat.le_of_eq rfl) (hb hby own_d5_60) (pc' := 63) rfl (by decide) (by decide) (fun T7 v7 L7 X7 hQ7 => ?_)
  obtain ⟨hv7, e7, rfl⟩ := hQ7
  obtain rfl : v7 = some (.int (14 : Int32)) := hv7.trans (by decide)
  have N8 := Fr.app N3 (Fr.nil n0)
  refine OwnK.callS_ X7 hx hZ hown (y := (⟨"java/lang/Math", "min", "(II)I"⟩ : MethodName)) (hw _ (List.mem_of_getElem? (i := 32) rfl)) (hw _ (List.mem_of_getElem? (i := 33) rfl)) (hw _ (List.mem_of_getElem? (i := 34) rfl)) (hw _ (List.mem_of_getElem? (i := 35) rfl)) (by decide) (own_met6 l Z a0 hw h0 (2 : Int32) (14 : Int32)  ) (by decide) (W := 0) (by decide) e7 (by rw [hml]; rfl) own_pd_4 (argsL := [(.int (2 : Int32)), (.int (14 : Int32))]) rfl (S := []) rfl (Nat.le_of_eq rfl) (hb hby own_d5_63) (pc' := 66) rfl (by decide) (by decide) (fun T9 v9 L9 X9 hQ9 => ?_)
  obtain ⟨hv9, e9, rfl⟩ := hQ9
  obtain rfl : v9 = some (.int (2 : Int32)) := hv9.trans (by decide)
  have N10 := Fr.app N8 (Fr.nil n0)
  refine OwnK.istore X9 hx (hb hby own_d5_66) (pc' := 68) rfl (Ls' := #[.val (.ref p1), .val (.ref p2), .val (.int (0 : Int32)), .val (.ref K), .val (.int (2 : Int32)), .val (.ref D), .val (.int (0 : Int32)), .val (.int (2 : Int32))]) rfl ?_
  refine OwnK.aload X9 hx (hb hby own_d5_68) (pc' := 70) rfl (v := (.ref D)) rfl rfl ?_
  refine OwnK.iload X9 hx (hb hby own_d5_70) (pc' := 72) rfl (v := (0 : Int32)) rfl ?_
  refine OwnK.aloadN X9 hx (hb hby own_d5_72) (pc' := 73) rfl (v := (.ref K)) rfl rfl ?_
  refine OwnK.iload X9 hx (hb hby own_d5_73) (pc' := 75) rfl (v := (2 : Int32)) rfl ?_
  refine OwnK.iload X9 hx (hb hby own_d5_75) (pc' := 77) rfl (v := (2 : Int32)) rfl ?_
  refine OwnK.arraycopy_ X9 hx hZ hown (hw _ (List.mem_of_getElem? (i := 36) rfl)) (hw _ (List.mem_of_getElem? (i := 39) rfl)) (hw _ (List.mem_of_getElem? (i := 37) rfl)) (hw _ (List.mem_of_getElem? (i := 38) rfl)) e9 jIAK iIAK (Or.inl ⟨rfl, rfl⟩) (x := 0) (y := 2) (n := 2) (by decide) (by decide) (by decide) (by decide) (by decide) rfl (Nat.le_of_ble_eq_true rfl) N10 geK (by rw [hml]; rfl) (hb hby own_d5_77) (pc' := 80) rfl (by decide) (W := 0) (Nat.le_of_eq rfl) (by decide) (fun T12 h12 L12 X12 e12 N12 K12 V12 => ?_)
  have f13 := iIE.keep K12
  have f14 := iIS.keep K12 (ninS iIaK nin0)
  have f15 := iIB.keep K12 (ninS iIaK nin0)
  have f16 := iIAB.keep K12 (ninS iIBK nin0)
  have f17 := iIEB.keep K12
  have f18 := iIEK.keep K12
  have f19 := jIE.keep K12
  have f20 := jIS.keep K12 (ninS (Ne.symm nn5) nin0)
  have f21 := jIB.keep K12 (ninS (Ne.symm nn5) nin0)
  have f22 := jIAB.keep K12 (ninS (Ne.symm nn6) nin0)
  have f23 := jIAK.keep K12 (ninS (Ne.symm nn7) nin0)
  have f24 := jIEB.keep K12
  have f25 := jIEK.keep K12
  have z26 : n0 ≤ h12.size := Nat.le_trans Z0 K12.1
  have K27 := K0.trans K12 (allS (Or.inl (List.mem_of_getElem? (i := 2) rfl)) all0)
  have f28 : Arv Z h12 K _ .int (16 : Int32) [(.int t0), (.int t1), (.int o0), (.int o1), (.int (0 : Int32)), (.int (0 : Int32)), (.int (0 : Int32)), (.int (0 : Int32)), (.int (0 : Int32)), (.int (0 : Int32)), (.int (0 : Int32)), (.int (0 : Int32)), (.int (0 : Int32)), (.int (0 : Int32)), (.int (0 : Int32)), (.int (0 : Int32))] (.int (0 : Int32)) := V12
  refine OwnK.aloadN X12 hx (hb hby own_d5_80) (pc' := 81) rfl (v := (.ref p1)) rfl rfl ?_
  refine OwnK.dup X12 hx (hb hby own_d5_81) (pc' := 82) rfl rfl ?_
  refine OwnK.getF_ X12 hx hZ hown (host := "") (Or.inl (hw _ (List.mem_of_getElem? (i := 24) rfl))) Via.refl e12 f14 (hb hby own_d5_82) (pc' := 85) rfl (fun T29 X29 e29 => ?_)
  refine OwnK.iload X29 hx (hb hby own_d5_85) (pc' := 87) rfl (v := (2 : Int32)) rfl ?_
  refine OwnK.iaddL X29 hx (hb hby own_d5_87) (pc' := 88) rfl (z := (4 : Int32)) (by decide) ?_
  refine OwnK.putF_ X29 hx hZ hown (hw _ (List.mem_of_getElem? (i := 24) rfl)) Via.refl e29 f14 f13 (Or.inl (hw _ (List.mem_of_getElem? (i := 25) rfl))) (hw _ (List.mem_of_getElem? (i := 1) rfl)) (ty := .int) (by decide) (v' := (.int (4 : Int32))) rfl rfl (hb hby own_d5_88) (pc' := 91) rfl (fun T30 h30 X30 e30 W30 => ?_)
  have f31 := f14.same W30
  have f32 := f13.wr W30
  have f33 := f15.other W30 (Or.inr (slot_ne (Or.inl (hw _ (List.mem_of_getElem? (i := 14) rfl))) (Or.inl (hw _ (List.mem_of_getElem? (i := 25) rfl))) (by decide) (t := (.array (.array .int))) (t' := .int) (by decide) (by decide)))
  have f34 := f16.other W30 (Ne.symm iIaB)
  have f35 := f28.other W30 (Ne.symm iIaK)
  have f36 := f17.wr W30
  have f37 := f18.wr W30
  have f38 := f19.wr W30
  have f39 := f20.other W30 (Or.inl (Ne.symm n12))
  have f40 := f21.other W30 (Or.inl (Ne.symm n12))
  have f41 := f22.other W30 (Ne.symm nn0)
  have f42 := f23.other W30 (Ne.symm nn1)
  have f43 := f24.wr W30
  have f44 := f25.wr W30
  have N45 := Fr.snoc X30 N12 ge_p1
  have K46 := K27.wr W30 (Or.inl (List.mem_of_getElem? (i := 0) rfl))
  have z47 : n0 ≤ h30.size := Nat.le_trans z26 (Keep.of_wr W30).1
  refine OwnK.iloadN X30 hx (hb hby own_d5_91) (pc' := 92) rfl (v := (0 : Int32)) rfl ?_
  refine OwnK.iload X30 hx (hb hby own_d5_92) (pc' := 94) rfl (v := (2 : Int32)) rfl ?_
  refine OwnK.iaddL X30 hx (hb hby own_d5_94) (pc' := 95) rfl (z := (2 : Int32)) (by decide) ?_
  refine OwnK.istoreN X30 hx (hb hby own_d5_95) (pc' := 96) rfl (Ls' := #[.val (.ref p1), .val (.ref p2), .val (.int (2 : Int32)), .val (.ref K), .val (.int (2 : Int32)), .val (.ref D), .val (.int (0 : Int32)), .val (.int (2 : Int32))]) rfl ?_
  refine OwnK.goto_ X30 hx (hb hby own_d5_96) (by decide) (pc' := 2) (by decide) ?_
  refine OwnK.iloadN X30 hx (hb hby own_d5_2) (pc' := 3) rfl (v := (2 : Int32)) rfl ?_
  refine OwnK.aloadN X30 hx (hb hby own_d5_3) (pc' := 4) rfl (v := (.ref p2)) rfl rfl ?_
  refine OwnK.getF_ X30 hx hZ hown (host := "") (Or.inl (hw _ (List.mem_of_getElem? (i := 24) rfl))) Via.refl e30 f39 (hb hby own_d5_4) (pc' := 7) rfl (fun T48 X48 e48 => ?_)
  refine OwnK.icmp_ge X48 hx (hb hby own_d5_7) (by decide) (pcT := 99) (by decide) (pc' := 10) rfl (fun hc7 => ?_) (fun (hc7 : 2 < 2) => absurd hc7 (by decide))
  refine OwnK.retV_ X48 hx hret hlk (hb hby own_d5_99) (by decide) (by decide) ?_
  rw [show T48.heap = h30 from e48]
  exact ⟨rfl, N45, K46, ⟨f32, f31, f33, f34, f35, f36, f37, iIO, iIaB, iIaK, iIBK⟩⟩
def own_Qall_2_4 (Z : State) (h0 : Heap) (n0 : Nat) (p1 : Addr) (p2 : Addr) (B K C D : Addr) (kB kK kC kD : ClassId) (t0 t1 o0 o1 o2 o3 : Int32) (v : Option Value) (h : Heap) (L : List Loc) : Prop := v = none ∧ Fr n0 L ∧ Keep h0 h [p1, B, K] ∧ own_IL Z h p1 B K kB kK (6 : Int32) (16 : Int32) [(.int t0), (.int t1), (.int o0), (.int o1), (.int o2), (.int o3), (.int (0 : Int32)), (.int (0 : Int32)), (.int (0 : Int32)), (.int (0 : Int32)), (.int (0 : Int32)), (.int (0 : Int32)), (.int (0 : Int32)), (.int (0 : Int32)), (.int (0 : Int32)), (.int (0 : Int32))]
set_option maxRecDepth 65536 in
set_option maxHeartbeats 40000000 in
theorem own_all_2_4 (l : Launch) (Z : State) (a0 : Array Value) (hw : ∀ d ∈ tables_1, d.before a0 Z = true) (h0 : Heap) (n0 : Nat) (Z0 : n0 ≤ h0.size) (p1 : Addr) (p2 : Addr) (B K C D : Addr) (kB kK kC kD : ClassId) (t0 t1 o0 o1 o2 o3 : Int32) (ge_p1 : n0 ≤ p1) (hI : own_IL Z h0 p1 B K kB kK (2 : Int32) (16 : Int32) [(.int t0), (.int t1), (.int (0 : Int32)), (.int (0 : Int32)), (.int (0 : Int32)), (.int (0 : Int32)), (.int (0 : Int32)), (.int (0 : Int32)), (.int (0 : Int32)), (.int (0 : Int32)), (.int (0 : Int32)), (.int (0 : Int32)), (.int (0 : Int32)), (.int (0 : Int32)), (.int (0 : Int32)), (.int (0 : Int32))]) (hJ : own_IL Z h0 p2 C D kC kD (4 : Int32) (16 : Int32) [(.int o0), (.int o1), (.int o2), (.int o3), (.int (0 : Int32)), (.int (0 : Int32)), (.int (0 : Int32)), (.int (0 : Int32)), (.int (0 : Int32)), (.int (0 : Int32)), (.int (0 : Int32)), (.int (0 : Int32)), (.int (0 : Int32)), (.int (0 : Int32)), (.int (0 : Int32)), (.int (0 : Int32))]) (geB : n0 ≤ B) (geK : n0 ≤ K) (n12 : p1 ≠ p2) (hN : p1 ≠ C ∧ p1 ≠ D ∧ B ≠ p2 ∧ B ≠ C ∧ B ≠ D ∧ K ≠ p2 ∧ K ≠ C ∧ K ≠ D) :
    MetFree l (⟨"com/example/strict_reach/strictreach/IntList", "addAll", "(Lcom/example/strict_reach/strictreach/IntList;)V"⟩ : MethodName) (head1 [Jvm.Cond.code (⟨"com/example/strict_reach/strictreach/IntList", "addAll", "(Lcom/example/strict_reach/strictreach/IntList;)V"⟩ : MethodName) prog_9_method_3_code 8 none] ({ frames := 1, cells := 0, slots := 0, locals := 40 } : Room)) (fun a U => a = #[(.ref p1), (.ref p2)] ∧ Z.Warmed39 U.vm ∧ U.heap = h0) (fun _ _ _ _ _ => True) (fun _ U o U' => ∃ v L, o = .returned v ∧ (own_Qall_2_4 Z h0 n0 p1 p2 B K C D kB kK kC kD t0 t1 o0 o1 o2 o3) v U'.heap L ∧ FrameEnd U o U' L ({ frames := 1, cells := 0, slots := 0, locals := 40 } : Room).cells ({ frames := 1, cells := 0, slots := 0, locals := 40 } : Room).slots) := by
  refine OwnK.met (Q := (own_Qall_2_4 Z h0 n0 p1 p2 B K C D kB kK kC kD t0 t1 o0 o1 o2 o3)) (C := ({ frames := 1, cells := 0, slots := 0, locals := 40 } : Room).cells) (N := ({ frames := 1, cells := 0, slots := 0, locals := 40 } : Room).slots) own_pl_5 (own_ef_5 p1 p2) ?_
  intro p e s m below meth c T0 X0 hx hZ hby hml hown hnm hret hlk e0
  have N0 := Fr.nil n0
  have K0 := Keep.refl h0 [p1, B, K]
  obtain ⟨iIE, iIS, iIB, iIAB, iIAK, iIEB, iIEK, iIO, iIaB, iIaK, iIBK⟩ := hI
  obtain ⟨jIE, jIS, jIB, jIAB, jIAK, jIEB, jIEK, jIO, jIaB, jIaK, jIBK⟩ := hJ
  obtain ⟨nn0, nn1, nn2, nn3, nn4, nn5, nn6, nn7⟩ := hN
  refine OwnK.iconst X0 hx (hb hby own_d5_0) (pc' := 1) rfl (v := (0 : Int32)) (by decide) ?_
  refine OwnK.istoreN X0 hx (hb hby own_d5_1) (pc' := 2) rfl (Ls' := #[.val (.ref p1), .val (.ref p2), .val (.int (0 : Int32)), .unset, .unset, .unset, .unset, .unset]) rfl ?_
  refine OwnK.iloadN X0 hx (hb hby own_d5_2) (pc' := 3) rfl (v := (0 : Int32)) rfl ?_
  refine OwnK.aloadN X0 hx (hb hby own_d5_3) (pc' := 4) rfl (v := (.ref p2)) rfl rfl ?_
  refine OwnK.getF_ X0 hx hZ hown (host := "") (Or.inl (hw _ (List.mem_of_getElem? (i := 24) rfl))) Via.refl e0 jIS (hb hby own_d5_4) (pc' := 7) rfl (fun T1 X1 e1 => ?_)
  refine OwnK.icmp_ge X1 hx (hb hby own_d5_7) (by decide) (pcT := 99) (by decide) (pc' := 10) rfl (fun (hc7 : 4 ≤ 0) => absurd hc7 (by decide)) (fun hc7 => ?_)
  refine OwnK.aloadN X1 hx (hb hby own_d5_10) (pc' := 11) rfl (v := (.ref p1)) rfl rfl ?_
  refine OwnK.callP_ X1 hx hZ hown (y := (⟨"com/example/strict_reach/strictreach/IntList", "room", "()[I"⟩ : MethodName)) (z := (⟨"com/example/strict_reach/strictreach/IntList", "add", "(I)V"⟩ : MethodName)) (a := p1) (hw _ (List.mem_of_getElem? (i := 20) rfl)) (hw _ (List.mem_of_getElem? (i := 21) rfl)) rfl (hw _ (List.mem_of_getElem? (i := 18) rfl)) (hw _ (List.mem_of_getElem? (i := 22) rfl)) (hw _ (List.mem_of_getElem? (i := 23) rfl)) (hw _ (List.mem_of_getElem? (i := 2) rfl)) (by decide) iIE (own_met4 l Z a0 hw h0 p1 B K _ _ (2 : Int32) (16 : Int32) _ ⟨iIE, iIS, iIB, iIAB, iIAK, iIEB, iIEK, iIO, iIaB, iIaK, iIBK⟩ (by decide) (by decide) ) (by decide) (W := 0) (by decide) e1 (by rw [hml]; rfl) own_pd_1 (argsL := []) rfl (S := []) rfl (Nat.le_of_eq rfl) (hb hby own_d5_11) (pc' := 14) rfl (by decide) (by decide) (fun T2 v2 L2 X2 hQ2 => ?_)
  obtain ⟨rfl, e2, rfl⟩ := hQ2
  have N3 := Fr.app N0 (Fr.nil n0)
  refine OwnK.astoreN X2 hx (hb hby own_d5_14) (pc' := 15) rfl rfl (Ls' := #[.val (.ref p1), .val (.ref p2), .val (.int (0 : Int32)), .val (.ref K), .unset, .unset, .unset, .unset]) rfl ?_
  refine OwnK.aloadN X2 hx (hb hby own_d5_15) (pc' := 16) rfl (v := (.ref p1)) rfl rfl ?_
  refine OwnK.getF_ X2 hx hZ hown (host := "") (Or.inl (hw _ (List.mem_of_getElem? (i := 24) rfl))) Via.refl e2 iIS (hb hby own_d5_16) (pc' := 19) rfl (fun T4 X4 e4 => ?_)
  refine OwnK.sipush X4 hx (hb hby own_d5_19) (pc' := 22) rfl (v := (4095 : Int32)) (by decide) ?_
  refine OwnK.iandL X4 hx (hb hby own_d5_22) (pc' := 23) rfl (z := (2 : Int32)) (by decide) ?_
  refine OwnK.istore X4 hx (hb hby own_d5_23) (pc' := 25) rfl (Ls' := #[.val (.ref p1), .val (.ref p2), .val (.int (0 : Int32)), .val (.ref K), .val (.int (2 : Int32)), .unset, .unset, .unset]) rfl ?_
  refine OwnK.aloadN X4 hx (hb hby own_d5_25) (pc' := 26) rfl (v := (.ref p2)) rfl rfl ?_
  refine OwnK.getF_ X4 hx hZ hown (host := "") (Or.inl (hw _ (List.mem_of_getElem? (i := 13) rfl))) Via.refl e4 jIB (hb hby own_d5_26) (pc' := 29) rfl (fun T5 X5 e5 => ?_)
  refine OwnK.iloadN X5 hx (hb hby own_d5_29) (pc' := 30) rfl (v := (0 : Int32)) rfl ?_
  refine OwnK.bipush X5 hx (hb hby own_d5_30) (pc' := 32) rfl (v := (12 : Int32)) (by decide) ?_
  refine OwnK.iushrL X5 hx (hb hby own_d5_32) (pc' := 33) rfl (z := (0 : Int32)) (by decide) ?_
  refine OwnK.aaload X5 hx hZ e5 jIAB rfl (by decide) (by first | decide | omega) (v := (.ref D)) rfl (hb hby own_d5_33) (pc' := 34) rfl ?_
  refine OwnK.astore X5 hx (hb hby own_d5_34) (pc' := 36) rfl rfl (Ls' := #[.val (.ref p1), .val (.ref p2), .val (.int (0 : Int32)), .val (.ref K), .val (.int (2 : Int32)), .val (.ref D), .unset, .unset]) rfl ?_
  refine OwnK.iloadN X5 hx (hb hby own_d5_36) (pc' := 37) rfl (v := (0 : Int32)) rfl ?_
  refine OwnK.sipush X5 hx (hb hby own_d5_37) (pc' := 40) rfl (v := (4095 : Int32)) (by decide) ?_
  refine OwnK.iandL X5 hx (hb hby own_d5_40) (pc' := 41) rfl (z := (0 : Int32)) (by decide) ?_
  refine OwnK.istore X5 hx (hb hby own_d5_41) (pc' := 43) rfl (Ls' := #[.val (.ref p1), .val (.ref p2), .val (.int (0 : Int32)), .val (.ref K), .val (.int (2 : Int32)), .val (.ref D), .val (.int (0 : Int32)), .unset]) rfl ?_
  refine OwnK.aloadN X5 hx (hb hby own_d5_43) (pc' := 44) rfl (v := (.ref p2)) rfl rfl ?_
  refine OwnK.getF_ X5 hx hZ hown (host := "") (Or.inl (hw _ (List.mem_of_getElem? (i := 24) rfl))) Via.refl e5 jIS (hb hby own_d5_44) (pc' := 47) rfl (fun T6 X6 e6 => ?_)
  refine OwnK.iloadN X6 hx (hb hby own_d5_47) (pc' := 48) rfl (v := (0 : Int32)) rfl ?_
  refine OwnK.isubL X6 hx (hb hby own_d5_48) (pc' := 49) rfl (z := (4 : Int32)) (by decide) ?_
  refine OwnK.aloadN X6 hx (hb hby own_d5_49) (pc' := 50) rfl (v := (.ref K)) rfl rfl ?_
  refine OwnK.arrlen X6 hx hZ e6 iIAK (hb hby own_d5_50) (pc' := 51) rfl ?_
  refine OwnK.iload X6 hx (hb hby own_d5_51) (pc' := 53) rfl (v := (2 : Int32)) rfl ?_
  refine OwnK.isubL X6 hx (hb hby own_d5_53) (pc' := 54) rfl (z := (14 : Int32)) (by decide) ?_
  refine OwnK.aload X6 hx (hb hby own_d5_54) (pc' := 56) rfl (v := (.ref D)) rfl rfl ?_
  refine OwnK.arrlen X6 hx hZ e6 jIAK (hb hby own_d5_56) (pc' := 57) rfl ?_
  refine OwnK.iload X6 hx (hb hby own_d5_57) (pc' := 59) rfl (v := (0 : Int32)) rfl ?_
  refine OwnK.isubL X6 hx (hb hby own_d5_59) (pc' := 60) rfl (z := (16 : Int32)) (by decide) ?_
  refine OwnK.callS_ X6 hx hZ hown (y := (⟨"java/lang/Math", "min", "(II)I"⟩ : MethodName)) (hw _ (List.mem_of_getElem? (i := 32) rfl)) (hw _ (List.mem_of_getElem? (i := 33) rfl)) (hw _ (List.mem_of_getElem? (i := 34) rfl)) (hw _ (List.mem_of_getElem? (i := 35) rfl)) (by decide) (own_met6 l Z a0 hw h0 (14 : Int32) (16 : Int32)  ) (by decide) (W := 1) (by decide) e6 (by rw [hml]; rfl) own_pd_4 (argsL := [(.int (14 : Int32)), (.int (16 : Int32))]) rfl (S := [(.int (4 : Int32))]) rfl (Nat.le_of_eq rfl) (hb hby own_d5_60) (pc' := 63) rfl (by decide) (by decide) (fun T7 v7 L7 X7 hQ7 => ?_)
  obtain ⟨hv7, e7, rfl⟩ := hQ7
  obtain rfl : v7 = some (.int (14 : Int32)) := hv7.trans (by decide)
  have N8 := Fr.app N3 (Fr.nil n0)
  refine OwnK.callS_ X7 hx hZ hown (y := (⟨"java/lang/Math", "min", "(II)I"⟩ : MethodName)) (hw _ (List.mem_of_getElem? (i := 32) rfl)) (hw _ (List.mem_of_getElem? (i := 33) rfl)) (hw _ (List.mem_of_getElem? (i := 34) rfl)) (hw _ (List.mem_of_getElem? (i := 35) rfl)) (by decide) (own_met6 l Z a0 hw h0 (4 : Int32) (14 : Int32)  ) (by decide) (W := 0) (by decide) e7 (by rw [hml]; rfl) own_pd_4 (argsL := [(.int (4 : Int32)), (.int (14 : Int32))]) rfl (S := []) rfl (Nat.le_of_eq rfl) (hb hby own_d5_63) (pc' := 66) rfl (by decide) (by decide) (fun T9 v9 L9 X9 hQ9 => ?_)
  obtain ⟨hv9, e9, rfl⟩ := hQ9
  obtain rfl : v9 = some (.int (4 : Int32)) := hv9.trans (by decide)
  have N10 := Fr.app N8 (Fr.nil n0)
  refine OwnK.istore X9 hx (hb hby own_d5_66) (pc' := 68) rfl (Ls' := #[.val (.ref p1), .val (.ref p2), .val (.int (0 : Int32)), .val (.ref K), .val (.int (2 : Int32)), .val (.ref D), .val (.int (0 : Int32)), .val (.int (4 : Int32))]) rfl ?_
  refine OwnK.aload X9 hx (hb hby own_d5_68) (pc' := 70) rfl (v := (.ref D)) rfl rfl ?_
  refine OwnK.iload X9 hx (hb hby own_d5_70) (pc' := 72) rfl (v := (0 : Int32)) rfl ?_
  refine OwnK.aloadN X9 hx (hb hby own_d5_72) (pc' := 73) rfl (v := (.ref K)) rfl rfl ?_
  refine OwnK.iload X9 hx (hb hby own_d5_73) (pc' := 75) rfl (v := (2 : Int32)) rfl ?_
  refine OwnK.iload X9 hx (hb hby own_d5_75) (pc' := 77) rfl (v := (4 : Int32)) rfl ?_
  refine OwnK.arraycopy_ X9 hx hZ hown (hw _ (List.mem_of_getElem? (i := 36) rfl)) (hw _ (List.mem_of_getElem? (i := 39) rfl)) (hw _ (List.mem_of_getElem? (i := 37) rfl)) (hw _ (List.mem_of_getElem? (i := 38) rfl)) e9 jIAK iIAK (Or.inl ⟨rfl, rfl⟩) (x := 0) (y := 2) (n := 4) (by decide) (by decide) (by decide) (by decide) (by decide) rfl (Nat.le_of_ble_eq_true rfl) N10 geK (by rw [hml]; rfl) (hb hby own_d5_77) (pc' := 80) rfl (by decide) (W := 0) (Nat.le_of_eq rfl) (by decide) (fun T12 h12 L12 X12 e12 N12 K12 V12 => ?_)
  have f13 := iIE.keep K12
  have f14 := iIS.keep K12 (ninS iIaK nin0)
  have f15 := iIB.keep K12 (ninS iIaK nin0)
  have f16 := iIAB.keep K12 (ninS iIBK nin0)
  have f17 := iIEB.keep K12
  have f18 := iIEK.keep K12
  have f19 := jIE.keep K12
  have f20 := jIS.keep K12 (ninS (Ne.symm nn5) nin0)
  have f21 := jIB.keep K12 (ninS (Ne.symm nn5) nin0)
  have f22 := jIAB.keep K12 (ninS (Ne.symm nn6) nin0)
  have f23 := jIAK.keep K12 (ninS (Ne.symm nn7) nin0)
  have f24 := jIEB.keep K12
  have f25 := jIEK.keep K12
  have z26 : n0 ≤ h12.size := Nat.le_trans Z0 K12.1
  have K27 := K0.trans K12 (allS (Or.inl (List.mem_of_getElem? (i := 2) rfl)) all0)
  have f28 : Arv Z h12 K _ .int (16 : Int32) [(.int t0), (.int t1), (.int o0), (.int o1), (.int o2), (.int o3), (.int (0 : Int32)), (.int (0 : Int32)), (.int (0 : Int32)), (.int (0 : Int32)), (.int (0 : Int32)), (.int (0 : Int32)), (.int (0 : Int32)), (.int (0 : Int32)), (.int (0 : Int32)), (.int (0 : Int32))] (.int (0 : Int32)) := V12
  refine OwnK.aloadN X12 hx (hb hby own_d5_80) (pc' := 81) rfl (v := (.ref p1)) rfl rfl ?_
  refine OwnK.dup X12 hx (hb hby own_d5_81) (pc' := 82) rfl rfl ?_
  refine OwnK.getF_ X12 hx hZ hown (host := "") (Or.inl (hw _ (List.mem_of_getElem? (i := 24) rfl))) Via.refl e12 f14 (hb hby own_d5_82) (pc' := 85) rfl (fun T29 X29 e29 => ?_)
  refine OwnK.iload X29 hx (hb hby own_d5_85) (pc' := 87) rfl (v := (4 : Int32)) rfl ?_
  refine OwnK.iaddL X29 hx (hb hby own_d5_87) (pc' := 88) rfl (z := (6 : Int32)) (by decide) ?_
  refine OwnK.putF_ X29 hx hZ hown (hw _ (List.mem_of_getElem? (i := 24) rfl)) Via.refl e29 f14 f13 (Or.inl (hw _ (List.mem_of_getElem? (i := 25) rfl))) (hw _ (List.mem_of_getElem? (i := 1) rfl)) (ty := .int) (by decide) (v' := (.int (6 : Int32))) rfl rfl (hb hby own_d5_88) (pc' := 91) rfl (fun T30 h30 X30 e30 W30 => ?_)
  have f31 := f14.same W30
  have f32 := f13.wr W30
  have f33 := f15.other W30 (Or.inr (slot_ne (Or.inl (hw _ (List.mem_of_getElem? (i := 14) rfl))) (Or.inl (hw _ (List.mem_of_getElem? (i := 25) rfl))) (by decide) (t := (.array (.array .int))) (t' := .int) (by decide) (by decide)))
  have f34 := f16.other W30 (Ne.symm iIaB)
  have f35 := f28.other W30 (Ne.symm iIaK)
  have f36 := f17.wr W30
  have f37 := f18.wr W30
  have f38 := f19.wr W30
  have f39 := f20.other W30 (Or.inl (Ne.symm n12))
  have f40 := f21.other W30 (Or.inl (Ne.symm n12))
  have f41 := f22.other W30 (Ne.symm nn0)
  have f42 := f23.other W30 (Ne.symm nn1)
  have f43 := f24.wr W30
  have f44 := f25.wr W30
  have N45 := Fr.snoc X30 N12 ge_p1
  have K46 := K27.wr W30 (Or.inl (List.mem_of_getElem? (i := 0) rfl))
  have z47 : n0 ≤ h30.size := Nat.le_trans z26 (Keep.of_wr W30).1
  refine OwnK.iloadN X30 hx (hb hby own_d5_91) (pc' := 92) rfl (v := (0 : Int32)) rfl ?_
  refine OwnK.iload X30 hx (hb hby own_d5_92) (pc' := 94) rfl (v := (4 : Int32)) rfl ?_
  refine OwnK.iaddL X30 hx (hb hby own_d5_94) (pc' := 95) rfl (z := (4 : Int32)) (by decide) ?_
  refine OwnK.istoreN X30 hx (hb hby own_d5_95) (pc' := 96) rfl (Ls' := #[.val (.ref p1), .val (.ref p2), .val (.int (4 : Int32)), .val (.ref K), .val (.int (2 : Int32)), .val (.ref D), .val (.int (0 : Int32)), .val (.int (4 : Int32))]) rfl ?_
  refine OwnK.goto_ X30 hx (hb hby own_d5_96) (by decide) (pc' := 2) (by decide) ?_
  refine OwnK.iloadN X30 hx (hb hby own_d5_2) (pc' := 3) rfl (v := (4 : Int32)) rfl ?_
  refine OwnK.aloadN X30 hx (hb hby own_d5_3) (pc' := 4) rfl (v := (.ref p2)) rfl rfl ?_
  refine OwnK.getF_ X30 hx hZ hown (host := "") (Or.inl (hw _ (List.mem_of_getElem? (i := 24) rfl))) Via.refl e30 f39 (hb hby own_d5_4) (pc' := 7) rfl (fun T48 X48 e48 => ?_)
  refine OwnK.icmp_ge X48 hx (hb hby own_d5_7) (by decide) (pcT := 99) (by decide) (pc' := 10) rfl (fun hc7 => ?_) (fun (hc7 : 4 < 4) => absurd hc7 (by decide))
  refine OwnK.retV_ X48 hx hret hlk (hb hby own_d5_99) (by decide) (by decide) ?_
  rw [show T48.heap = h30 from e48]
  exact ⟨rfl, N45, K46, ⟨f32, f31, f33, f34, f35, f36, f37, iIO, iIaB, iIaK, iIBK⟩⟩
def own_Qall_4_6 (Z : State) (h0 : Heap) (n0 : Nat) (p1 : Addr) (p2 : Addr) (B K C D : Addr) (kB kK kC kD : ClassId) (t0 t1 t2 t3 o0 o1 o2 o3 o4 o5 : Int32) (v : Option Value) (h : Heap) (L : List Loc) : Prop := v = none ∧ Fr n0 L ∧ Keep h0 h [p1, B, K] ∧ own_IL Z h p1 B K kB kK (10 : Int32) (16 : Int32) [(.int t0), (.int t1), (.int t2), (.int t3), (.int o0), (.int o1), (.int o2), (.int o3), (.int o4), (.int o5), (.int (0 : Int32)), (.int (0 : Int32)), (.int (0 : Int32)), (.int (0 : Int32)), (.int (0 : Int32)), (.int (0 : Int32))]
set_option maxRecDepth 65536 in
set_option maxHeartbeats 40000000 in
theorem own_all_4_6 (l : Launch) (Z : State) (a0 : Array Value) (hw : ∀ d ∈ tables_1, d.before a0 Z = true) (h0 : Heap) (n0 : Nat) (Z0 : n0 ≤ h0.size) (p1 : Addr) (p2 : Addr) (B K C D : Addr) (kB kK kC kD : ClassId) (t0 t1 t2 t3 o0 o1 o2 o3 o4 o5 : Int32) (ge_p1 : n0 ≤ p1) (hI : own_IL Z h0 p1 B K kB kK (4 : Int32) (16 : Int32) [(.int t0), (.int t1), (.int t2), (.int t3), (.int (0 : Int32)), (.int (0 : Int32)), (.int (0 : Int32)), (.int (0 : Int32)), (.int (0 : Int32)), (.int (0 : Int32)), (.int (0 : Int32)), (.int (0 : Int32)), (.int (0 : Int32)), (.int (0 : Int32)), (.int (0 : Int32)), (.int (0 : Int32))]) (hJ : own_IL Z h0 p2 C D kC kD (6 : Int32) (16 : Int32) [(.int o0), (.int o1), (.int o2), (.int o3), (.int o4), (.int o5), (.int (0 : Int32)), (.int (0 : Int32)), (.int (0 : Int32)), (.int (0 : Int32)), (.int (0 : Int32)), (.int (0 : Int32)), (.int (0 : Int32)), (.int (0 : Int32)), (.int (0 : Int32)), (.int (0 : Int32))]) (geB : n0 ≤ B) (geK : n0 ≤ K) (n12 : p1 ≠ p2) (hN : p1 ≠ C ∧ p1 ≠ D ∧ B ≠ p2 ∧ B ≠ C ∧ B ≠ D ∧ K ≠ p2 ∧ K ≠ C ∧ K ≠ D) :
    MetFree l (⟨"com/example/strict_reach/strictreach/IntList", "addAll", "(Lcom/example/strict_reach/strictreach/IntList;)V"⟩ : MethodName) (head1 [Jvm.Cond.code (⟨"com/example/strict_reach/strictreach/IntList", "addAll", "(Lcom/example/strict_reach/strictreach/IntList;)V"⟩ : MethodName) prog_9_method_3_code 8 none] ({ frames := 1, cells := 0, slots := 0, locals := 40 } : Room)) (fun a U => a = #[(.ref p1), (.ref p2)] ∧ Z.Warmed39 U.vm ∧ U.heap = h0) (fun _ _ _ _ _ => True) (fun _ U o U' => ∃ v L, o = .returned v ∧ (own_Qall_4_6 Z h0 n0 p1 p2 B K C D kB kK kC kD t0 t1 t2 t3 o0 o1 o2 o3 o4 o5) v U'.heap L ∧ FrameEnd U o U' L ({ frames := 1, cells := 0, slots := 0, locals := 40 } : Room).cells ({ frames := 1, cells := 0, slots := 0, locals := 40 } : Room).slots) := by
  refine OwnK.met (Q := (own_Qall_4_6 Z h0 n0 p1 p2 B K C D kB kK kC kD t0 t1 t2 t3 o0 o1 o2 o3 o4 o5)) (C := ({ frames := 1, cells := 0, slots := 0, locals := 40 } : Room).cells) (N := ({ frames := 1, cells := 0, slots := 0, locals := 40 } : Room).slots) own_pl_5 (own_ef_5 p1 p2) ?_
  intro p e s m below meth c T0 X0 hx hZ hby hml hown hnm hret hlk e0
  have N0 := Fr.nil n0
  have K0 := Keep.refl h0 [p1, B, K]
  obtain ⟨iIE, iIS, iIB, iIAB, iIAK, iIEB, iIEK, iIO, iIaB, iIaK, iIBK⟩ := hI
  obtain ⟨jIE, jIS, jIB, jIAB, jIAK, jIEB, jIEK, jIO, jIaB, jIaK, jIBK⟩ := hJ
  obtain ⟨nn0, nn1, nn2, nn3, nn4, nn5, nn6, nn7⟩ := hN
  refine OwnK.iconst X0 hx (hb hby own_d5_0) (pc' := 1) rfl (v := (0 : Int32)) (by decide) ?_
  refine OwnK.istoreN X0 hx (hb hby own_d5_1) (pc' := 2) rfl (Ls' := #[.val (.ref p1), .val (.ref p2), .val (.int (0 : Int32)), .unset, .unset, .unset, .unset, .unset]) rfl ?_
  refine OwnK.iloadN X0 hx (hb hby own_d5_2) (pc' := 3) rfl (v := (0 : Int32)) rfl ?_
  refine OwnK.aloadN X0 hx (hb hby own_d5_3) (pc' := 4) rfl (v := (.ref p2)) rfl rfl ?_
  refine OwnK.getF_ X0 hx hZ hown (host := "") (Or.inl (hw _ (List.mem_of_getElem? (i := 24) rfl))) Via.refl e0 jIS (hb hby own_d5_4) (pc' := 7) rfl (fun T1 X1 e1 => ?_)
  refine OwnK.icmp_ge X1 hx (hb hby own_d5_7) (by decide) (pcT := 99) (by decide) (pc' := 10) rfl (fun (hc7 : 6 ≤ 0) => absurd hc7 (by decide)) (fun hc7 => ?_)
  refine OwnK.aloadN X1 hx (hb hby own_d5_10) (pc' := 11) rfl (v := (.ref p1)) rfl rfl ?_
  refine OwnK.callP_ X1 hx hZ hown (y := (⟨"com/example/strict_reach/strictreach/IntList", "room", "()[I"⟩ : MethodName)) (z := (⟨"com/example/strict_reach/strictreach/IntList", "add", "(I)V"⟩ : MethodName)) (a := p1) (hw _ (List.mem_of_getElem? (i := 20) rfl)) (hw _ (List.mem_of_getElem? (i := 21) rfl)) rfl (hw _ (List.mem_of_getElem? (i := 18) rfl)) (hw _ (List.mem_of_getElem? (i := 22) rfl)) (hw _ (List.mem_of_getElem? (i := 23) rfl)) (hw _ (List.mem_of_getElem? (i := 2) rfl)) (by decide) iIE (own_met4 l Z a0 hw h0 p1 B K _ _ (4 : Int32) (16 : Int32) _ ⟨iIE, iIS, iIB, iIAB, iIAK, iIEB, iIEK, iIO, iIaB, iIaK, iIBK⟩ (by decide) (by decide) ) (by decide) (W := 0) (by decide) e1 (by rw [hml]; rfl) own_pd_1 (argsL := []) rfl (S := []) rfl (Nat.le_of_eq rfl) (hb hby own_d5_11) (pc' := 14) rfl (by decide) (by decide) (fun T2 v2 L2 X2 hQ2 => ?_)
  obtain ⟨rfl, e2, rfl⟩ := hQ2
  have N3 := Fr.app N0 (Fr.nil n0)
  refine OwnK.astoreN X2 hx (hb hby own_d5_14) (pc' := 15) rfl rfl (Ls' := #[.val (.ref p1), .val (.ref p2), .val (.int (0 : Int32)), .val (.ref K), .unset, .unset, .unset, .unset]) rfl ?_
  refine OwnK.aloadN X2 hx (hb hby own_d5_15) (pc' := 16) rfl (v := (.ref p1)) rfl rfl ?_
  refine OwnK.getF_ X2 hx hZ hown (host := "") (Or.inl (hw _ (List.mem_of_getElem? (i := 24) rfl))) Via.refl e2 iIS (hb hby own_d5_16) (pc' := 19) rfl (fun T4 X4 e4 => ?_)
  refine OwnK.sipush X4 hx (hb hby own_d5_19) (pc' := 22) rfl (v := (4095 : Int32)) (by decide) ?_
  refine OwnK.iandL X4 hx (hb hby own_d5_22) (pc' := 23) rfl (z := (4 : Int32)) (by decide) ?_
  refine OwnK.istore X4 hx (hb hby own_d5_23) (pc' := 25) rfl (Ls' := #[.val (.ref p1), .val (.ref p2), .val (.int (0 : Int32)), .val (.ref K), .val (.int (4 : Int32)), .unset, .unset, .unset]) rfl ?_
  refine OwnK.aloadN X4 hx (hb hby own_d5_25) (pc' := 26) rfl (v := (.ref p2)) rfl rfl ?_
  refine OwnK.getF_ X4 hx hZ hown (host := "") (Or.inl (hw _ (List.mem_of_getElem? (i := 13) rfl))) Via.refl e4 jIB (hb hby own_d5_26) (pc' := 29) rfl (fun T5 X5 e5 => ?_)
  refine OwnK.iloadN X5 hx (hb hby own_d5_29) (pc' := 30) rfl (v := (0 : Int32)) rfl ?_
  refine OwnK.bipush X5 hx (hb hby own_d5_30) (pc' := 32) rfl (v := (12 : Int32)) (by decide) ?_
  refine OwnK.iushrL X5 hx (hb hby own_d5_32) (pc' := 33) rfl (z := (0 : Int32)) (by decide) ?_
  refine OwnK.aaload X5 hx hZ e5 jIAB rfl (by decide) (by first | decide | omega) (v := (.ref D)) rfl (hb hby own_d5_33) (pc' := 34) rfl ?_
  refine OwnK.astore X5 hx (hb hby own_d5_34) (pc' := 36) rfl rfl (Ls' := #[.val (.ref p1), .val (.ref p2), .val (.int (0 : Int32)), .val (.ref K), .val (.int (4 : Int32)), .val (.ref D), .unset, .unset]) rfl ?_
  refine OwnK.iloadN X5 hx (hb hby own_d5_36) (pc' := 37) rfl (v := (0 : Int32)) rfl ?_
  refine OwnK.sipush X5 hx (hb hby own_d5_37) (pc' := 40) rfl (v := (4095 : Int32)) (by decide) ?_
  refine OwnK.iandL X5 hx (hb hby own_d5_40) (pc' := 41) rfl (z := (0 : Int32)) (by decide) ?_
  refine OwnK.istore X5 hx (hb hby own_d5_41) (pc' := 43) rfl (Ls' := #[.val (.ref p1), .val (.ref p2), .val (.int (0 : Int32)), .val (.ref K), .val (.int (4 : Int32)), .val (.ref D), .val (.int (0 : Int32)), .unset]) rfl ?_
  refine OwnK.aloadN X5 hx (hb hby own_d5_43) (pc' := 44) rfl (v := (.ref p2)) rfl rfl ?_
  refine OwnK.getF_ X5 hx hZ hown (host := "") (Or.inl (hw _ (List.mem_of_getElem? (i := 24) rfl))) Via.refl e5 jIS (hb hby own_d5_44) (pc' := 47) rfl (fun T6 X6 e6 => ?_)
  refine OwnK.iloadN X6 hx (hb hby own_d5_47) (pc' := 48) rfl (v := (0 : Int32)) rfl ?_
  refine OwnK.isubL X6 hx (hb hby own_d5_48) (pc' := 49) rfl (z := (6 : Int32)) (by decide) ?_
  refine OwnK.aloadN X6 hx (hb hby own_d5_49) (pc' := 50) rfl (v := (.ref K)) rfl rfl ?_
  refine OwnK.arrlen X6 hx hZ e6 iIAK (hb hby own_d5_50) (pc' := 51) rfl ?_
  refine OwnK.iload X6 hx (hb hby own_d5_51) (pc' := 53) rfl (v := (4 : Int32)) rfl ?_
  refine OwnK.isubL X6 hx (hb hby own_d5_53) (pc' := 54) rfl (z := (12 : Int32)) (by decide) ?_
  refine OwnK.aload X6 hx (hb hby own_d5_54) (pc' := 56) rfl (v := (.ref D)) rfl rfl ?_
  refine OwnK.arrlen X6 hx hZ e6 jIAK (hb hby own_d5_56) (pc' := 57) rfl ?_
  refine OwnK.iload X6 hx (hb hby own_d5_57) (pc' := 59) rfl (v := (0 : Int32)) rfl ?_
  refine OwnK.isubL X6 hx (hb hby own_d5_59) (pc' := 60) rfl (z := (16 : Int32)) (by decide) ?_
  refine OwnK.callS_ X6 hx hZ hown (y := (⟨"java/lang/Math", "min", "(II)I"⟩ : MethodName)) (hw _ (List.mem_of_getElem? (i := 32) rfl)) (hw _ (List.mem_of_getElem? (i := 33) rfl)) (hw _ (List.mem_of_getElem? (i := 34) rfl)) (hw _ (List.mem_of_getElem? (i := 35) rfl)) (by decide) (own_met6 l Z a0 hw h0 (12 : Int32) (16 : Int32)  ) (by decide) (W := 1) (by decide) e6 (by rw [hml]; rfl) own_pd_4 (argsL := [(.int (12 : Int32)), (.int (16 : Int32))]) rfl (S := [(.int (6 : Int32))]) rfl (Nat.le_of_eq rfl) (hb hby own_d5_60) (pc' := 63) rfl (by decide) (by decide) (fun T7 v7 L7 X7 hQ7 => ?_)
  obtain ⟨hv7, e7, rfl⟩ := hQ7
  obtain rfl : v7 = some (.int (12 : Int32)) := hv7.trans (by decide)
  have N8 := Fr.app N3 (Fr.nil n0)
  refine OwnK.callS_ X7 hx hZ hown (y := (⟨"java/lang/Math", "min", "(II)I"⟩ : MethodName)) (hw _ (List.mem_of_getElem? (i := 32) rfl)) (hw _ (List.mem_of_getElem? (i := 33) rfl)) (hw _ (List.mem_of_getElem? (i := 34) rfl)) (hw _ (List.mem_of_getElem? (i := 35) rfl)) (by decide) (own_met6 l Z a0 hw h0 (6 : Int32) (12 : Int32)  ) (by decide) (W := 0) (by decide) e7 (by rw [hml]; rfl) own_pd_4 (argsL := [(.int (6 : Int32)), (.int (12 : Int32))]) rfl (S := []) rfl (Nat.le_of_eq rfl) (hb hby own_d5_63) (pc' := 66) rfl (by decide) (by decide) (fun T9 v9 L9 X9 hQ9 => ?_)
  obtain ⟨hv9, e9, rfl⟩ := hQ9
  obtain rfl : v9 = some (.int (6 : Int32)) := hv9.trans (by decide)
  have N10 := Fr.app N8 (Fr.nil n0)
  refine OwnK.istore X9 hx (hb hby own_d5_66) (pc' := 68) rfl (Ls' := #[.val (.ref p1), .val (.ref p2), .val (.int (0 : Int32)), .val (.ref K), .val (.int (4 : Int32)), .val (.ref D), .val (.int (0 : Int32)), .val (.int (6 : Int32))]) rfl ?_
  refine OwnK.aload X9 hx (hb hby own_d5_68) (pc' := 70) rfl (v := (.ref D)) rfl rfl ?_
  refine OwnK.iload X9 hx (hb hby own_d5_70) (pc' := 72) rfl (v := (0 : Int32)) rfl ?_
  refine OwnK.aloadN X9 hx (hb hby own_d5_72) (pc' := 73) rfl (v := (.ref K)) rfl rfl ?_
  refine OwnK.iload X9 hx (hb hby own_d5_73) (pc' := 75) rfl (v := (4 : Int32)) rfl ?_
  refine OwnK.iload X9 hx (hb hby own_d5_75) (pc' := 77) rfl (v := (6 : Int32)) rfl ?_
  refine OwnK.arraycopy_ X9 hx hZ hown (hw _ (List.mem_of_getElem? (i := 36) rfl)) (hw _ (List.mem_of_getElem? (i := 39) rfl)) (hw _ (List.mem_of_getElem? (i := 37) rfl)) (hw _ (List.mem_of_getElem? (i := 38) rfl)) e9 jIAK iIAK (Or.inl ⟨rfl, rfl⟩) (x := 0) (y := 4) (n := 6) (by decide) (by decide) (by decide) (by decide) (by decide) rfl (Nat.le_of_ble_eq_true rfl) N10 geK (by rw [hml]; rfl) (hb hby own_d5_77) (pc' := 80) rfl (by decide) (W := 0) (Nat.le_of_eq rfl) (by decide) (fun T12 h12 L12 X12 e12 N12 K12 V12 => ?_)
  have f13 := iIE.keep K12
  have f14 := iIS.keep K12 (ninS iIaK nin0)
  have f15 := iIB.keep K12 (ninS iIaK nin0)
  have f16 := iIAB.keep K12 (ninS iIBK nin0)
  have f17 := iIEB.keep K12
  have f18 := iIEK.keep K12
  have f19 := jIE.keep K12
  have f20 := jIS.keep K12 (ninS (Ne.symm nn5) nin0)
  have f21 := jIB.keep K12 (ninS (Ne.symm nn5) nin0)
  have f22 := jIAB.keep K12 (ninS (Ne.symm nn6) nin0)
  have f23 := jIAK.keep K12 (ninS (Ne.symm nn7) nin0)
  have f24 := jIEB.keep K12
  have f25 := jIEK.keep K12
  have z26 : n0 ≤ h12.size := Nat.le_trans Z0 K12.1
  have K27 := K0.trans K12 (allS (Or.inl (List.mem_of_getElem? (i := 2) rfl)) all0)
  have f28 : Arv Z h12 K _ .int (16 : Int32) [(.int t0), (.int t1), (.int t2), (.int t3), (.int o0), (.int o1), (.int o2), (.int o3), (.int o4), (.int o5), (.int (0 : Int32)), (.int (0 : Int32)), (.int (0 : Int32)), (.int (0 : Int32)), (.int (0 : Int32)), (.int (0 : Int32))] (.int (0 : Int32)) := V12
  refine OwnK.aloadN X12 hx (hb hby own_d5_80) (pc' := 81) rfl (v := (.ref p1)) rfl rfl ?_
  refine OwnK.dup X12 hx (hb hby own_d5_81) (pc' := 82) rfl rfl ?_
  refine OwnK.getF_ X12 hx hZ hown (host := "") (Or.inl (hw _ (List.mem_of_getElem? (i := 24) rfl))) Via.refl e12 f14 (hb hby own_d5_82) (pc' := 85) rfl (fun T29 X29 e29 => ?_)
  refine OwnK.iload X29 hx (hb hby own_d5_85) (pc' := 87) rfl (v := (6 : Int32)) rfl ?_
  refine OwnK.iaddL X29 hx (hb hby own_d5_87) (pc' := 88) rfl (z := (10 : Int32)) (by decide) ?_
  refine OwnK.putF_ X29 hx hZ hown (hw _ (List.mem_of_getElem? (i := 24) rfl)) Via.refl e29 f14 f13 (Or.inl (hw _ (List.mem_of_getElem? (i := 25) rfl))) (hw _ (List.mem_of_getElem? (i := 1) rfl)) (ty := .int) (by decide) (v' := (.int (10 : Int32))) rfl rfl (hb hby own_d5_88) (pc' := 91) rfl (fun T30 h30 X30 e30 W30 => ?_)
  have f31 := f14.same W30
  have f32 := f13.wr W30
  have f33 := f15.other W30 (Or.inr (slot_ne (Or.inl (hw _ (List.mem_of_getElem? (i := 14) rfl))) (Or.inl (hw _ (List.mem_of_getElem? (i := 25) rfl))) (by decide) (t := (.array (.array .int))) (t' := .int) (by decide) (by decide)))
  have f34 := f16.other W30 (Ne.symm iIaB)
  have f35 := f28.other W30 (Ne.symm iIaK)
  have f36 := f17.wr W30
  have f37 := f18.wr W30
  have f38 := f19.wr W30
  have f39 := f20.other W30 (Or.inl (Ne.symm n12))
  have f40 := f21.other W30 (Or.inl (Ne.symm n12))
  have f41 := f22.other W30 (Ne.symm nn0)
  have f42 := f23.other W30 (Ne.symm nn1)
  have f43 := f24.wr W30
  have f44 := f25.wr W30
  have N45 := Fr.snoc X30 N12 ge_p1
  have K46 := K27.wr W30 (Or.inl (List.mem_of_getElem? (i := 0) rfl))
  have z47 : n0 ≤ h30.size := Nat.le_trans z26 (Keep.of_wr W30).1
  refine OwnK.iloadN X30 hx (hb hby own_d5_91) (pc' := 92) rfl (v := (0 : Int32)) rfl ?_
  refine OwnK.iload X30 hx (hb hby own_d5_92) (pc' := 94) rfl (v := (6 : Int32)) rfl ?_
  refine OwnK.iaddL X30 hx (hb hby own_d5_94) (pc' := 95) rfl (z := (6 : Int32)) (by decide) ?_
  refine OwnK.istoreN X30 hx (hb hby own_d5_95) (pc' := 96) rfl (Ls' := #[.val (.ref p1), .val (.ref p2), .val (.int (6 : Int32)), .val (.ref K), .val (.int (4 : Int32)), .val (.ref D), .val (.int (0 : Int32)), .val (.int (6 : Int32))]) rfl ?_
  refine OwnK.goto_ X30 hx (hb hby own_d5_96) (by decide) (pc' := 2) (by decide) ?_
  refine OwnK.iloadN X30 hx (hb hby own_d5_2) (pc' := 3) rfl (v := (6 : Int32)) rfl ?_
  refine OwnK.aloadN X30 hx (hb hby own_d5_3) (pc' := 4) rfl (v := (.ref p2)) rfl rfl ?_
  refine OwnK.getF_ X30 hx hZ hown (host := "") (Or.inl (hw _ (List.mem_of_getElem? (i := 24) rfl))) Via.refl e30 f39 (hb hby own_d5_4) (pc' := 7) rfl (fun T48 X48 e48 => ?_)
  refine OwnK.icmp_ge X48 hx (hb hby own_d5_7) (by decide) (pcT := 99) (by decide) (pc' := 10) rfl (fun hc7 => ?_) (fun (hc7 : 6 < 6) => absurd hc7 (by decide))
  refine OwnK.retV_ X48 hx hret hlk (hb hby own_d5_99) (by decide) (by decide) ?_
  rw [show T48.heap = h30 from e48]
  exact ⟨rfl, N45, K46, ⟨f32, f31, f33, f34, f35, f36, f37, iIO, iIaB, iIaK, iIBK⟩⟩
def own_Qall_6_10 (Z : State) (h0 : Heap) (n0 : Nat) (p1 : Addr) (p2 : Addr) (B K C D : Addr) (kB kK kC kD : ClassId) (t0 t1 t2 t3 t4 t5 o0 o1 o2 o3 o4 o5 o6 o7 o8 o9 : Int32) (v : Option Value) (h : Heap) (L : List Loc) : Prop := v = none ∧ Fr n0 L ∧ Keep h0 h [p1, B, K] ∧ own_IL Z h p1 B K kB kK (16 : Int32) (16 : Int32) [(.int t0), (.int t1), (.int t2), (.int t3), (.int t4), (.int t5), (.int o0), (.int o1), (.int o2), (.int o3), (.int o4), (.int o5), (.int o6), (.int o7), (.int o8), (.int o9)]
set_option maxRecDepth 65536 in
set_option maxHeartbeats 40000000 in
theorem own_all_6_10 (l : Launch) (Z : State) (a0 : Array Value) (hw : ∀ d ∈ tables_1, d.before a0 Z = true) (h0 : Heap) (n0 : Nat) (Z0 : n0 ≤ h0.size) (p1 : Addr) (p2 : Addr) (B K C D : Addr) (kB kK kC kD : ClassId) (t0 t1 t2 t3 t4 t5 o0 o1 o2 o3 o4 o5 o6 o7 o8 o9 : Int32) (ge_p1 : n0 ≤ p1) (hI : own_IL Z h0 p1 B K kB kK (6 : Int32) (16 : Int32) [(.int t0), (.int t1), (.int t2), (.int t3), (.int t4), (.int t5), (.int (0 : Int32)), (.int (0 : Int32)), (.int (0 : Int32)), (.int (0 : Int32)), (.int (0 : Int32)), (.int (0 : Int32)), (.int (0 : Int32)), (.int (0 : Int32)), (.int (0 : Int32)), (.int (0 : Int32))]) (hJ : own_IL Z h0 p2 C D kC kD (10 : Int32) (16 : Int32) [(.int o0), (.int o1), (.int o2), (.int o3), (.int o4), (.int o5), (.int o6), (.int o7), (.int o8), (.int o9), (.int (0 : Int32)), (.int (0 : Int32)), (.int (0 : Int32)), (.int (0 : Int32)), (.int (0 : Int32)), (.int (0 : Int32))]) (geB : n0 ≤ B) (geK : n0 ≤ K) (n12 : p1 ≠ p2) (hN : p1 ≠ C ∧ p1 ≠ D ∧ B ≠ p2 ∧ B ≠ C ∧ B ≠ D ∧ K ≠ p2 ∧ K ≠ C ∧ K ≠ D) :
    MetFree l (⟨"com/example/strict_reach/strictreach/IntList", "addAll", "(Lcom/example/strict_reach/strictreach/IntList;)V"⟩ : MethodName) (head1 [Jvm.Cond.code (⟨"com/example/strict_reach/strictreach/IntList", "addAll", "(Lcom/example/strict_reach/strictreach/IntList;)V"⟩ : MethodName) prog_9_method_3_code 8 none] ({ frames := 1, cells := 0, slots := 0, locals := 40 } : Room)) (fun a U => a = #[(.ref p1), (.ref p2)] ∧ Z.Warmed39 U.vm ∧ U.heap = h0) (fun _ _ _ _ _ => True) (fun _ U o U' => ∃ v L, o = .returned v ∧ (own_Qall_6_10 Z h0 n0 p1 p2 B K C D kB kK kC kD t0 t1 t2 t3 t4 t5 o0 o1 o2 o3 o4 o5 o6 o7 o8 o9) v U'.heap L ∧ FrameEnd U o U' L ({ frames := 1, cells := 0, slots := 0, locals := 40 } : Room).cells ({ frames := 1, cells := 0, slots := 0, locals := 40 } : Room).slots) := by
  refine OwnK.met (Q := (own_Qall_6_10 Z h0 n0 p1 p2 B K C D kB kK kC kD t0 t1 t2 t3 t4 t5 o0 o1 o2 o3 o4 o5 o6 o7 o8 o9)) (C := ({ frames := 1, cells := 0, slots := 0, locals := 40 } : Room).cells) (N := ({ frames := 1, cells := 0, slots := 0, locals := 40 } : Room).slots) own_pl_5 (own_ef_5 p1 p2) ?_
  intro p e s m below meth c T0 X0 hx hZ hby hml hown hnm hret hlk e0
  have N0 := Fr.nil n0
  have K0 := Keep.refl h0 [p1, B, K]
  obtain ⟨iIE, iIS, iIB, iIAB, iIAK, iIEB, iIEK, iIO, iIaB, iIaK, iIBK⟩ := hI
  obtain ⟨jIE, jIS, jIB, jIAB, jIAK, jIEB, jIEK, jIO, jIaB, jIaK, jIBK⟩ := hJ
  obtain ⟨nn0, nn1, nn2, nn3, nn4, nn5, nn6, nn7⟩ := hN
  refine OwnK.iconst X0 hx (hb hby own_d5_0) (pc' := 1) rfl (v := (0 : Int32)) (by decide) ?_
  refine OwnK.istoreN X0 hx (hb hby own_d5_1) (pc' := 2) rfl (Ls' := #[.val (.ref p1), .val (.ref p2), .val (.int (0 : Int32)), .unset, .unset, .unset, .unset, .unset]) rfl ?_
  refine OwnK.iloadN X0 hx (hb hby own_d5_2) (pc' := 3) rfl (v := (0 : Int32)) rfl ?_
  refine OwnK.aloadN X0 hx (hb hby own_d5_3) (pc' := 4) rfl (v := (.ref p2)) rfl rfl ?_
  refine OwnK.getF_ X0 hx hZ hown (host := "") (Or.inl (hw _ (List.mem_of_getElem? (i := 24) rfl))) Via.refl e0 jIS (hb hby own_d5_4) (pc' := 7) rfl (fun T1 X1 e1 => ?_)
  refine OwnK.icmp_ge X1 hx (hb hby own_d5_7) (by decide) (pcT := 99) (by decide) (pc' := 10) rfl (fun (hc7 : 10 ≤ 0) => absurd hc7 (by decide)) (fun hc7 => ?_)
  refine OwnK.aloadN X1 hx (hb hby own_d5_10) (pc' := 11) rfl (v := (.ref p1)) rfl rfl ?_
  refine OwnK.callP_ X1 hx hZ hown (y := (⟨"com/example/strict_reach/strictreach/IntList", "room", "()[I"⟩ : MethodName)) (z := (⟨"com/example/strict_reach/strictreach/IntList", "add", "(I)V"⟩ : MethodName)) (a := p1) (hw _ (List.mem_of_getElem? (i := 20) rfl)) (hw _ (List.mem_of_getElem? (i := 21) rfl)) rfl (hw _ (List.mem_of_getElem? (i := 18) rfl)) (hw _ (List.mem_of_getElem? (i := 22) rfl)) (hw _ (List.mem_of_getElem? (i := 23) rfl)) (hw _ (List.mem_of_getElem? (i := 2) rfl)) (by decide) iIE (own_met4 l Z a0 hw h0 p1 B K _ _ (6 : Int32) (16 : Int32) _ ⟨iIE, iIS, iIB, iIAB, iIAK, iIEB, iIEK, iIO, iIaB, iIaK, iIBK⟩ (by decide) (by decide) ) (by decide) (W := 0) (by decide) e1 (by rw [hml]; rfl) own_pd_1 (argsL := []) rfl (S := []) rfl (Nat.le_of_eq rfl) (hb hby own_d5_11) (pc' := 14) rfl (by decide) (by decide) (fun T2 v2 L2 X2 hQ2 => ?_)
  obtain ⟨rfl, e2, rfl⟩ := hQ2
  have N3 := Fr.app N0 (Fr.nil n0)
  refine OwnK.astoreN X2 hx (hb hby own_d5_14) (pc' := 15) rfl rfl (Ls' := #[.val (.ref p1), .val (.ref p2), .val (.int (0 : Int32)), .val (.ref K), .unset, .unset, .unset, .unset]) rfl ?_
  refine OwnK.aloadN X2 hx (hb hby own_d5_15) (pc' := 16) rfl (v := (.ref p1)) rfl rfl ?_
  refine OwnK.getF_ X2 hx hZ hown (host := "") (Or.inl (hw _ (List.mem_of_getElem? (i := 24) rfl))) Via.refl e2 iIS (hb hby own_d5_16) (pc' := 19) rfl (fun T4 X4 e4 => ?_)
  refine OwnK.sipush X4 hx (hb hby own_d5_19) (pc' := 22) rfl (v := (4095 : Int32)) (by decide) ?_
  refine OwnK.iandL X4 hx (hb hby own_d5_22) (pc' := 23) rfl (z := (6 : Int32)) (by decide) ?_
  refine OwnK.istore X4 hx (hb hby own_d5_23) (pc' := 25) rfl (Ls' := #[.val (.ref p1), .val (.ref p2), .val (.int (0 : Int32)), .val (.ref K), .val (.int (6 : Int32)), .unset, .unset, .unset]) rfl ?_
  refine OwnK.aloadN X4 hx (hb hby own_d5_25) (pc' := 26) rfl (v := (.ref p2)) rfl rfl ?_
  refine OwnK.getF_ X4 hx hZ hown (host := "") (Or.inl (hw _ (List.mem_of_getElem? (i := 13) rfl))) Via.refl e4 jIB (hb hby own_d5_26) (pc' := 29) rfl (fun T5 X5 e5 => ?_)
  refine OwnK.iloadN X5 hx (hb hby own_d5_29) (pc' := 30) rfl (v := (0 : Int32)) rfl ?_
  refine OwnK.bipush X5 hx (hb hby own_d5_30) (pc' := 32) rfl (v := (12 : Int32)) (by decide) ?_
  refine OwnK.iushrL X5 hx (hb hby own_d5_32) (pc' := 33) rfl (z := (0 : Int32)) (by decide) ?_
  refine OwnK.aaload X5 hx hZ e5 jIAB rfl (by decide) (by first | decide | omega) (v := (.ref D)) rfl (hb hby own_d5_33) (pc' := 34) rfl ?_
  refine OwnK.astore X5 hx (hb hby own_d5_34) (pc' := 36) rfl rfl (Ls' := #[.val (.ref p1), .val (.ref p2), .val (.int (0 : Int32)), .val (.ref K), .val (.int (6 : Int32)), .val (.ref D), .unset, .unset]) rfl ?_
  refine OwnK.iloadN X5 hx (hb hby own_d5_36) (pc' := 37) rfl (v := (0 : Int32)) rfl ?_
  refine OwnK.sipush X5 hx (hb hby own_d5_37) (pc' := 40) rfl (v := (4095 : Int32)) (by decide) ?_
  refine OwnK.iandL X5 hx (hb hby own_d5_40) (pc' := 41) rfl (z := (0 : Int32)) (by decide) ?_
  refine OwnK.istore X5 hx (hb hby own_d5_41) (pc' := 43) rfl (Ls' := #[.val (.ref p1), .val (.ref p2), .val (.int (0 : Int32)), .val (.ref K), .val (.int (6 : Int32)), .val (.ref D), .val (.int (0 : Int32)), .unset]) rfl ?_
  refine OwnK.aloadN X5 hx (hb hby own_d5_43) (pc' := 44) rfl (v := (.ref p2)) rfl rfl ?_
  refine OwnK.getF_ X5 hx hZ hown (host := "") (Or.inl (hw _ (List.mem_of_getElem? (i := 24) rfl))) Via.refl e5 jIS (hb hby own_d5_44) (pc' := 47) rfl (fun T6 X6 e6 => ?_)
  refine OwnK.iloadN X6 hx (hb hby own_d5_47) (pc' := 48) rfl (v := (0 : Int32)) rfl ?_
  refine OwnK.isubL X6 hx (hb hby own_d5_48) (pc' := 49) rfl (z := (10 : Int32)) (by decide) ?_
  refine OwnK.aloadN X6 hx (hb hby own_d5_49) (pc' := 50) rfl (v := (.ref K)) rfl rfl ?_
  refine OwnK.arrlen X6 hx hZ e6 iIAK (hb hby own_d5_50) (pc' := 51) rfl ?_
  refine OwnK.iload X6 hx (hb hby own_d5_51) (pc' := 53) rfl (v := (6 : Int32)) rfl ?_
  refine OwnK.isubL X6 hx (hb hby own_d5_53) (pc' := 54) rfl (z := (10 : Int32)) (by decide) ?_
  refine OwnK.aload X6 hx (hb hby own_d5_54) (pc' := 56) rfl (v := (.ref D)) rfl rfl ?_
  refine OwnK.arrlen X6 hx hZ e6 jIAK (hb hby own_d5_56) (pc' := 57) rfl ?_
  refine OwnK.iload X6 hx (hb hby own_d5_57) (pc' := 59) rfl (v := (0 : Int32)) rfl ?_
  refine OwnK.isubL X6 hx (hb hby own_d5_59) (pc' := 60) rfl (z := (16 : Int32)) (by decide) ?_
  refine OwnK.callS_ X6 hx hZ hown (y := (⟨"java/lang/Math", "min", "(II)I"⟩ : MethodName)) (hw _ (List.mem_of_getElem? (i := 32) rfl)) (hw _ (List.mem_of_getElem? (i := 33) rfl)) (hw _ (List.mem_of_getElem? (i := 34) rfl)) (hw _ (List.mem_of_getElem? (i := 35) rfl)) (by decide) (own_met6 l Z a0 hw h0 (10 : Int32) (16 : Int32)  ) (by decide) (W := 1) (by decide) e6 (by rw [hml]; rfl) own_pd_4 (argsL := [(.int (10 : Int32)), (.int (16 : Int32))]) rfl (S := [(.int (10 : Int32))]) rfl (Nat.le_of_eq rfl) (hb hby own_d5_60) (pc' := 63) rfl (by decide) (by decide) (fun T7 v7 L7 X7 hQ7 => ?_)
  obtain ⟨hv7, e7, rfl⟩ := hQ7
  obtain rfl : v7 = some (.int (10 : Int32)) := hv7.trans (by decide)
  have N8 := Fr.app N3 (Fr.nil n0)
  refine OwnK.callS_ X7 hx hZ hown (y := (⟨"java/lang/Math", "min", "(II)I"⟩ : MethodName)) (hw _ (List.mem_of_getElem? (i := 32) rfl)) (hw _ (List.mem_of_getElem? (i := 33) rfl)) (hw _ (List.mem_of_getElem? (i := 34) rfl)) (hw _ (List.mem_of_getElem? (i := 35) rfl)) (by decide) (own_met6 l Z a0 hw h0 (10 : Int32) (10 : Int32)  ) (by decide) (W := 0) (by decide) e7 (by rw [hml]; rfl) own_pd_4 (argsL := [(.int (10 : Int32)), (.int (10 : Int32))]) rfl (S := []) rfl (Nat.le_of_eq rfl) (hb hby own_d5_63) (pc' := 66) rfl (by decide) (by decide) (fun T9 v9 L9 X9 hQ9 => ?_)
  obtain ⟨hv9, e9, rfl⟩ := hQ9
  obtain rfl : v9 = some (.int (10 : Int32)) := hv9.trans (by decide)
  have N10 := Fr.app N8 (Fr.nil n0)
  refine OwnK.istore X9 hx (hb hby own_d5_66) (pc' := 68) rfl (Ls' := #[.val (.ref p1), .val (.ref p2), .val (.int (0 : Int32)), .val (.ref K), .val (.int (6 : Int32)), .val (.ref D), .val (.int (0 : Int32)), .val (.int (10 : Int32))]) rfl ?_
  refine OwnK.aload X9 hx (hb hby own_d5_68) (pc' := 70) rfl (v := (.ref D)) rfl rfl ?_
  refine OwnK.iload X9 hx (hb hby own_d5_70) (pc' := 72) rfl (v := (0 : Int32)) rfl ?_
  refine OwnK.aloadN X9 hx (hb hby own_d5_72) (pc' := 73) rfl (v := (.ref K)) rfl rfl ?_
  refine OwnK.iload X9 hx (hb hby own_d5_73) (pc' := 75) rfl (v := (6 : Int32)) rfl ?_
  refine OwnK.iload X9 hx (hb hby own_d5_75) (pc' := 77) rfl (v := (10 : Int32)) rfl ?_
  refine OwnK.arraycopy_ X9 hx hZ hown (hw _ (List.mem_of_getElem? (i := 36) rfl)) (hw _ (List.mem_of_getElem? (i := 39) rfl)) (hw _ (List.mem_of_getElem? (i := 37) rfl)) (hw _ (List.mem_of_getElem? (i := 38) rfl)) e9 jIAK iIAK (Or.inl ⟨rfl, rfl⟩) (x := 0) (y := 6) (n := 10) (by decide) (by decide) (by decide) (by decide) (by decide) rfl (Nat.le_of_ble_eq_true rfl) N10 geK (by rw [hml]; rfl) (hb hby own_d5_77) (pc' := 80) rfl (by decide) (W := 0) (Nat.le_of_eq rfl) (by decide) (fun T12 h12 L12 X12 e12 N12 K12 V12 => ?_)
  have f13 := iIE.keep K12
  have f14 := iIS.keep K12 (ninS iIaK nin0)
  have f15 := iIB.keep K12 (ninS iIaK nin0)
  have f16 := iIAB.keep K12 (ninS iIBK nin0)
  have f17 := iIEB.keep K12
  have f18 := iIEK.keep K12
  have f19 := jIE.keep K12
  have f20 := jIS.keep K12 (ninS (Ne.symm nn5) nin0)
  have f21 := jIB.keep K12 (ninS (Ne.symm nn5) nin0)
  have f22 := jIAB.keep K12 (ninS (Ne.symm nn6) nin0)
  have f23 := jIAK.keep K12 (ninS (Ne.symm nn7) nin0)
  have f24 := jIEB.keep K12
  have f25 := jIEK.keep K12
  have z26 : n0 ≤ h12.size := Nat.le_trans Z0 K12.1
  have K27 := K0.trans K12 (allS (Or.inl (List.mem_of_getElem? (i := 2) rfl)) all0)
  have f28 : Arv Z h12 K _ .int (16 : Int32) [(.int t0), (.int t1), (.int t2), (.int t3), (.int t4), (.int t5), (.int o0), (.int o1), (.int o2), (.int o3), (.int o4), (.int o5), (.int o6), (.int o7), (.int o8), (.int o9)] (.int (0 : Int32)) := V12
  refine OwnK.aloadN X12 hx (hb hby own_d5_80) (pc' := 81) rfl (v := (.ref p1)) rfl rfl ?_
  refine OwnK.dup X12 hx (hb hby own_d5_81) (pc' := 82) rfl rfl ?_
  refine OwnK.getF_ X12 hx hZ hown (host := "") (Or.inl (hw _ (List.mem_of_getElem? (i := 24) rfl))) Via.refl e12 f14 (hb hby own_d5_82) (pc' := 85) rfl (fun T29 X29 e29 => ?_)
  refine OwnK.iload X29 hx (hb hby own_d5_85) (pc' := 87) rfl (v := (10 : Int32)) rfl ?_
  refine OwnK.iaddL X29 hx (hb hby own_d5_87) (pc' := 88) rfl (z := (16 : Int32)) (by decide) ?_
  refine OwnK.putF_ X29 hx hZ hown (hw _ (List.mem_of_getElem? (i := 24) rfl)) Via.refl e29 f14 f13 (Or.inl (hw _ (List.mem_of_getElem? (i := 25) rfl))) (hw _ (List.mem_of_getElem? (i := 1) rfl)) (ty := .int) (by decide) (v' := (.int (16 : Int32))) rfl rfl (hb hby own_d5_88) (pc' := 91) rfl (fun T30 h30 X30 e30 W30 => ?_)
  have f31 := f14.same W30
  have f32 := f13.wr W30
  have f33 := f15.other W30 (Or.inr (slot_ne (Or.inl (hw _ (List.mem_of_getElem? (i := 14) rfl))) (Or.inl (hw _ (List.mem_of_getElem? (i := 25) rfl))) (by decide) (t := (.array (.array .int))) (t' := .int) (by decide) (by decide)))
  have f34 := f16.other W30 (Ne.symm iIaB)
  have f35 := f28.other W30 (Ne.symm iIaK)
  have f36 := f17.wr W30
  have f37 := f18.wr W30
  have f38 := f19.wr W30
  have f39 := f20.other W30 (Or.inl (Ne.symm n12))
  have f40 := f21.other W30 (Or.inl (Ne.symm n12))
  have f41 := f22.other W30 (Ne.symm nn0)
  have f42 := f23.other W30 (Ne.symm nn1)
  have f43 := f24.wr W30
  have f44 := f25.wr W30
  have N45 := Fr.snoc X30 N12 ge_p1
  have K46 := K27.wr W30 (Or.inl (List.mem_of_getElem? (i := 0) rfl))
  have z47 : n0 ≤ h30.size := Nat.le_trans z26 (Keep.of_wr W30).1
  refine OwnK.iloadN X30 hx (hb hby own_d5_91) (pc' := 92) rfl (v := (0 : Int32)) rfl ?_
  refine OwnK.iload X30 hx (hb hby own_d5_92) (pc' := 94) rfl (v := (10 : Int32)) rfl ?_
  refine OwnK.iaddL X30 hx (hb hby own_d5_94) (pc' := 95) rfl (z := (10 : Int32)) (by decide) ?_
  refine OwnK.istoreN X30 hx (hb hby own_d5_95) (pc' := 96) rfl (Ls' := #[.val (.ref p1), .val (.ref p2), .val (.int (10 : Int32)), .val (.ref K), .val (.int (6 : Int32)), .val (.ref D), .val (.int (0 : Int32)), .val (.int (10 : Int32))]) rfl ?_
  refine OwnK.goto_ X30 hx (hb hby own_d5_96) (by decide) (pc' := 2) (by decide) ?_
  refine OwnK.iloadN X30 hx (hb hby own_d5_2) (pc' := 3) rfl (v := (10 : Int32)) rfl ?_
  refine OwnK.aloadN X30 hx (hb hby own_d5_3) (pc' := 4) rfl (v := (.ref p2)) rfl rfl ?_
  refine OwnK.getF_ X30 hx hZ hown (host := "") (Or.inl (hw _ (List.mem_of_getElem? (i := 24) rfl))) Via.refl e30 f39 (hb hby own_d5_4) (pc' := 7) rfl (fun T48 X48 e48 => ?_)
  refine OwnK.icmp_ge X48 hx (hb hby own_d5_7) (by decide) (pcT := 99) (by decide) (pc' := 10) rfl (fun hc7 => ?_) (fun (hc7 : 10 < 10) => absurd hc7 (by decide))
  refine OwnK.retV_ X48 hx hret hlk (hb hby own_d5_99) (by decide) (by decide) ?_
  rw [show T48.heap = h30 from e48]
  exact ⟨rfl, N45, K46, ⟨f32, f31, f33, f34, f35, f36, f37, iIO, iIaB, iIaK, iIBK⟩⟩
def own_Qall_10_16 (Z : State) (h0 : Heap) (n0 : Nat) (p1 : Addr) (p2 : Addr) (B K C D : Addr) (kB kK kC kD : ClassId) (t0 t1 t2 t3 t4 t5 t6 t7 t8 t9 o0 o1 o2 o3 o4 o5 o6 o7 o8 o9 o10 o11 o12 o13 o14 o15 : Int32) (v : Option Value) (h : Heap) (L : List Loc) : Prop := ∃ r kR, v = none ∧ Fr n0 L ∧ Keep h0 h [p1, B, K] ∧ h0.size ≤ r ∧ own_IL Z h p1 B r kB kR (26 : Int32) (32 : Int32) [(.int t0), (.int t1), (.int t2), (.int t3), (.int t4), (.int t5), (.int t6), (.int t7), (.int t8), (.int t9), (.int o0), (.int o1), (.int o2), (.int o3), (.int o4), (.int o5), (.int o6), (.int o7), (.int o8), (.int o9), (.int o10), (.int o11), (.int o12), (.int o13), (.int o14), (.int o15), (.int (0 : Int32)), (.int (0 : Int32)), (.int (0 : Int32)), (.int (0 : Int32)), (.int (0 : Int32)), (.int (0 : Int32))]
set_option maxRecDepth 65536 in
set_option maxHeartbeats 40000000 in
theorem own_all_10_16 (l : Launch) (Z : State) (a0 : Array Value) (hw : ∀ d ∈ tables_1, d.before a0 Z = true) (h0 : Heap) (n0 : Nat) (Z0 : n0 ≤ h0.size) (p1 : Addr) (p2 : Addr) (B K C D : Addr) (kB kK kC kD : ClassId) (t0 t1 t2 t3 t4 t5 t6 t7 t8 t9 o0 o1 o2 o3 o4 o5 o6 o7 o8 o9 o10 o11 o12 o13 o14 o15 : Int32) (ge_p1 : n0 ≤ p1) (hI : own_IL Z h0 p1 B K kB kK (10 : Int32) (16 : Int32) [(.int t0), (.int t1), (.int t2), (.int t3), (.int t4), (.int t5), (.int t6), (.int t7), (.int t8), (.int t9), (.int (0 : Int32)), (.int (0 : Int32)), (.int (0 : Int32)), (.int (0 : Int32)), (.int (0 : Int32)), (.int (0 : Int32))]) (hJ : own_IL Z h0 p2 C D kC kD (16 : Int32) (16 : Int32) [(.int o0), (.int o1), (.int o2), (.int o3), (.int o4), (.int o5), (.int o6), (.int o7), (.int o8), (.int o9), (.int o10), (.int o11), (.int o12), (.int o13), (.int o14), (.int o15)]) (geB : n0 ≤ B) (geK : n0 ≤ K) (n12 : p1 ≠ p2) (hN : p1 ≠ C ∧ p1 ≠ D ∧ B ≠ p2 ∧ B ≠ C ∧ B ≠ D ∧ K ≠ p2 ∧ K ≠ C ∧ K ≠ D) :
    MetFree l (⟨"com/example/strict_reach/strictreach/IntList", "addAll", "(Lcom/example/strict_reach/strictreach/IntList;)V"⟩ : MethodName) (head1 [Jvm.Cond.code (⟨"com/example/strict_reach/strictreach/IntList", "addAll", "(Lcom/example/strict_reach/strictreach/IntList;)V"⟩ : MethodName) prog_9_method_3_code 8 none] ({ frames := 3, cells := 1, slots := 32, locals := 68 } : Room)) (fun a U => a = #[(.ref p1), (.ref p2)] ∧ Z.Warmed39 U.vm ∧ U.heap = h0) (fun _ _ _ _ _ => True) (fun _ U o U' => ∃ v L, o = .returned v ∧ (own_Qall_10_16 Z h0 n0 p1 p2 B K C D kB kK kC kD t0 t1 t2 t3 t4 t5 t6 t7 t8 t9 o0 o1 o2 o3 o4 o5 o6 o7 o8 o9 o10 o11 o12 o13 o14 o15) v U'.heap L ∧ FrameEnd U o U' L ({ frames := 3, cells := 1, slots := 32, locals := 68 } : Room).cells ({ frames := 3, cells := 1, slots := 32, locals := 68 } : Room).slots) := by
  refine OwnK.met (Q := (own_Qall_10_16 Z h0 n0 p1 p2 B K C D kB kK kC kD t0 t1 t2 t3 t4 t5 t6 t7 t8 t9 o0 o1 o2 o3 o4 o5 o6 o7 o8 o9 o10 o11 o12 o13 o14 o15)) (C := ({ frames := 3, cells := 1, slots := 32, locals := 68 } : Room).cells) (N := ({ frames := 3, cells := 1, slots := 32, locals := 68 } : Room).slots) own_pl_5 (own_ef_5 p1 p2) ?_
  intro p e s m below meth c T0 X0 hx hZ hby hml hown hnm hret hlk e0
  have N0 := Fr.nil n0
  have K0 := Keep.refl h0 [p1, B, K]
  obtain ⟨iIE, iIS, iIB, iIAB, iIAK, iIEB, iIEK, iIO, iIaB, iIaK, iIBK⟩ := hI
  obtain ⟨jIE, jIS, jIB, jIAB, jIAK, jIEB, jIEK, jIO, jIaB, jIaK, jIBK⟩ := hJ
  obtain ⟨nn0, nn1, nn2, nn3, nn4, nn5, nn6, nn7⟩ := hN
  refine OwnK.iconst X0 hx (hb hby own_d5_0) (pc' := 1) rfl (v := (0 : Int32)) (by decide) ?_
  refine OwnK.istoreN X0 hx (hb hby own_d5_1) (pc' := 2) rfl (Ls' := #[.val (.ref p1), .val (.ref p2), .val (.int (0 : Int32)), .unset, .unset, .unset, .unset, .unset]) rfl ?_
  refine OwnK.iloadN X0 hx (hb hby own_d5_2) (pc' := 3) rfl (v := (0 : Int32)) rfl ?_
  refine OwnK.aloadN X0 hx (hb hby own_d5_3) (pc' := 4) rfl (v := (.ref p2)) rfl rfl ?_
  refine OwnK.getF_ X0 hx hZ hown (host := "") (Or.inl (hw _ (List.mem_of_getElem? (i := 24) rfl))) Via.refl e0 jIS (hb hby own_d5_4) (pc' := 7) rfl (fun T1 X1 e1 => ?_)
  refine OwnK.icmp_ge X1 hx (hb hby own_d5_7) (by decide) (pcT := 99) (by decide) (pc' := 10) rfl (fun (hc7 : 16 ≤ 0) => absurd hc7 (by decide)) (fun hc7 => ?_)
  refine OwnK.aloadN X1 hx (hb hby own_d5_10) (pc' := 11) rfl (v := (.ref p1)) rfl rfl ?_
  refine OwnK.callP_ X1 hx hZ hown (y := (⟨"com/example/strict_reach/strictreach/IntList", "room", "()[I"⟩ : MethodName)) (z := (⟨"com/example/strict_reach/strictreach/IntList", "add", "(I)V"⟩ : MethodName)) (a := p1) (hw _ (List.mem_of_getElem? (i := 20) rfl)) (hw _ (List.mem_of_getElem? (i := 21) rfl)) rfl (hw _ (List.mem_of_getElem? (i := 18) rfl)) (hw _ (List.mem_of_getElem? (i := 22) rfl)) (hw _ (List.mem_of_getElem? (i := 23) rfl)) (hw _ (List.mem_of_getElem? (i := 2) rfl)) (by decide) iIE (own_met4 l Z a0 hw h0 p1 B K _ _ (10 : Int32) (16 : Int32) _ ⟨iIE, iIS, iIB, iIAB, iIAK, iIEB, iIEK, iIO, iIaB, iIaK, iIBK⟩ (by decide) (by decide) ) (by decide) (W := 0) (by decide) e1 (by rw [hml]; rfl) own_pd_1 (argsL := []) rfl (S := []) rfl (Nat.le_of_eq rfl) (hb hby own_d5_11) (pc' := 14) rfl (by decide) (by decide) (fun T2 v2 L2 X2 hQ2 => ?_)
  obtain ⟨rfl, e2, rfl⟩ := hQ2
  have N3 := Fr.app N0 (Fr.nil n0)
  refine OwnK.astoreN X2 hx (hb hby own_d5_14) (pc' := 15) rfl rfl (Ls' := #[.val (.ref p1), .val (.ref p2), .val (.int (0 : Int32)), .val (.ref K), .unset, .unset, .unset, .unset]) rfl ?_
  refine OwnK.aloadN X2 hx (hb hby own_d5_15) (pc' := 16) rfl (v := (.ref p1)) rfl rfl ?_
  refine OwnK.getF_ X2 hx hZ hown (host := "") (Or.inl (hw _ (List.mem_of_getElem? (i := 24) rfl))) Via.refl e2 iIS (hb hby own_d5_16) (pc' := 19) rfl (fun T4 X4 e4 => ?_)
  refine OwnK.sipush X4 hx (hb hby own_d5_19) (pc' := 22) rfl (v := (4095 : Int32)) (by decide) ?_
  refine OwnK.iandL X4 hx (hb hby own_d5_22) (pc' := 23) rfl (z := (10 : Int32)) (by decide) ?_
  refine OwnK.istore X4 hx (hb hby own_d5_23) (pc' := 25) rfl (Ls' := #[.val (.ref p1), .val (.ref p2), .val (.int (0 : Int32)), .val (.ref K), .val (.int (10 : Int32)), .unset, .unset, .unset]) rfl ?_
  refine OwnK.aloadN X4 hx (hb hby own_d5_25) (pc' := 26) rfl (v := (.ref p2)) rfl rfl ?_
  refine OwnK.getF_ X4 hx hZ hown (host := "") (Or.inl (hw _ (List.mem_of_getElem? (i := 13) rfl))) Via.refl e4 jIB (hb hby own_d5_26) (pc' := 29) rfl (fun T5 X5 e5 => ?_)
  refine OwnK.iloadN X5 hx (hb hby own_d5_29) (pc' := 30) rfl (v := (0 : Int32)) rfl ?_
  refine OwnK.bipush X5 hx (hb hby own_d5_30) (pc' := 32) rfl (v := (12 : Int32)) (by decide) ?_
  refine OwnK.iushrL X5 hx (hb hby own_d5_32) (pc' := 33) rfl (z := (0 : Int32)) (by decide) ?_
  refine OwnK.aaload X5 hx hZ e5 jIAB rfl (by decide) (by first | decide | omega) (v := (.ref D)) rfl (hb hby own_d5_33) (pc' := 34) rfl ?_
  refine OwnK.astore X5 hx (hb hby own_d5_34) (pc' := 36) rfl rfl (Ls' := #[.val (.ref p1), .val (.ref p2), .val (.int (0 : Int32)), .val (.ref K), .val (.int (10 : Int32)), .val (.ref D), .unset, .unset]) rfl ?_
  refine OwnK.iloadN X5 hx (hb hby own_d5_36) (pc' := 37) rfl (v := (0 : Int32)) rfl ?_
  refine OwnK.sipush X5 hx (hb hby own_d5_37) (pc' := 40) rfl (v := (4095 : Int32)) (by decide) ?_
  refine OwnK.iandL X5 hx (hb hby own_d5_40) (pc' := 41) rfl (z := (0 : Int32)) (by decide) ?_
  refine OwnK.istore X5 hx (hb hby own_d5_41) (pc' := 43) rfl (Ls' := #[.val (.ref p1), .val (.ref p2), .val (.int (0 : Int32)), .val (.ref K), .val (.int (10 : Int32)), .val (.ref D), .val (.int (0 : Int32)), .unset]) rfl ?_
  refine OwnK.aloadN X5 hx (hb hby own_d5_43) (pc' := 44) rfl (v := (.ref p2)) rfl rfl ?_
  refine OwnK.getF_ X5 hx hZ hown (host := "") (Or.inl (hw _ (List.mem_of_getElem? (i := 24) rfl))) Via.refl e5 jIS (hb hby own_d5_44) (pc' := 47) rfl (fun T6 X6 e6 => ?_)
  refine OwnK.iloadN X6 hx (hb hby own_d5_47) (pc' := 48) rfl (v := (0 : Int32)) rfl ?_
  refine OwnK.isubL X6 hx (hb hby own_d5_48) (pc' := 49) rfl (z := (16 : Int32)) (by decide) ?_
  refine OwnK.aloadN X6 hx (hb hby own_d5_49) (pc' := 50) rfl (v := (.ref K)) rfl rfl ?_
  refine OwnK.arrlen X6 hx hZ e6 iIAK (hb hby own_d5_50) (pc' := 51) rfl ?_
  refine OwnK.iload X6 hx (hb hby own_d5_51) (pc' := 53) rfl (v := (10 : Int32)) rfl ?_
  refine OwnK.isubL X6 hx (hb hby own_d5_53) (pc' := 54) rfl (z := (6 : Int32)) (by decide) ?_
  refine OwnK.aload X6 hx (hb hby own_d5_54) (pc' := 56) rfl (v := (.ref D)) rfl rfl ?_
  refine OwnK.arrlen X6 hx hZ e6 jIAK (hb hby own_d5_56) (pc' := 57) rfl ?_
  refine OwnK.iload X6 hx (hb hby own_d5_57) (pc' := 59) rfl (v := (0 : Int32)) rfl ?_
  refine OwnK.isubL X6 hx (hb hby own_d5_59) (pc' := 60) rfl (z := (16 : Int32)) (by decide) ?_
  refine OwnK.callS_ X6 hx hZ hown (y := (⟨"java/lang/Math", "min", "(II)I"⟩ : MethodName)) (hw _ (List.mem_of_getElem? (i := 32) rfl)) (hw _ (List.mem_of_getElem? (i := 33) rfl)) (hw _ (List.mem_of_getElem? (i := 34) rfl)) (hw _ (List.mem_of_getElem? (i := 35) rfl)) (by decide) (own_met6 l Z a0 hw h0 (6 : Int32) (16 : Int32)  ) (by decide) (W := 1) (by decide) e6 (by rw [hml]; rfl) own_pd_4 (argsL := [(.int (6 : Int32)), (.int (16 : Int32))]) rfl (S := [(.int (16 : Int32))]) rfl (Nat.le_of_eq rfl) (hb hby own_d5_60) (pc' := 63) rfl (by decide) (by decide) (fun T7 v7 L7 X7 hQ7 => ?_)
  obtain ⟨hv7, e7, rfl⟩ := hQ7
  obtain rfl : v7 = some (.int (6 : Int32)) := hv7.trans (by decide)
  have N8 := Fr.app N3 (Fr.nil n0)
  refine OwnK.callS_ X7 hx hZ hown (y := (⟨"java/lang/Math", "min", "(II)I"⟩ : MethodName)) (hw _ (List.mem_of_getElem? (i := 32) rfl)) (hw _ (List.mem_of_getElem? (i := 33) rfl)) (hw _ (List.mem_of_getElem? (i := 34) rfl)) (hw _ (List.mem_of_getElem? (i := 35) rfl)) (by decide) (own_met6 l Z a0 hw h0 (16 : Int32) (6 : Int32)  ) (by decide) (W := 0) (by decide) e7 (by rw [hml]; rfl) own_pd_4 (argsL := [(.int (16 : Int32)), (.int (6 : Int32))]) rfl (S := []) rfl (Nat.le_of_eq rfl) (hb hby own_d5_63) (pc' := 66) rfl (by decide) (by decide) (fun T9 v9 L9 X9 hQ9 => ?_)
  obtain ⟨hv9, e9, rfl⟩ := hQ9
  obtain rfl : v9 = some (.int (6 : Int32)) := hv9.trans (by decide)
  have N10 := Fr.app N8 (Fr.nil n0)
  refine OwnK.istore X9 hx (hb hby own_d5_66) (pc' := 68) rfl (Ls' := #[.val (.ref p1), .val (.ref p2), .val (.int (0 : Int32)), .val (.ref K), .val (.int (10 : Int32)), .val (.ref D), .val (.int (0 : Int32)), .val (.int (6 : Int32))]) rfl ?_
  refine OwnK.aload X9 hx (hb hby own_d5_68) (pc' := 70) rfl (v := (.ref D)) rfl rfl ?_
  refine OwnK.iload X9 hx (hb hby own_d5_70) (pc' := 72) rfl (v := (0 : Int32)) rfl ?_
  refine OwnK.aloadN X9 hx (hb hby own_d5_72) (pc' := 73) rfl (v := (.ref K)) rfl rfl ?_
  refine OwnK.iload X9 hx (hb hby own_d5_73) (pc' := 75) rfl (v := (10 : Int32)) rfl ?_
  refine OwnK.iload X9 hx (hb hby own_d5_75) (pc' := 77) rfl (v := (6 : Int32)) rfl ?_
  refine OwnK.arraycopy_ X9 hx hZ hown (hw _ (List.mem_of_getElem? (i := 36) rfl)) (hw _ (List.mem_of_getElem? (i := 39) rfl)) (hw _ (List.mem_of_getElem? (i := 37) rfl)) (hw _ (List.mem_of_getElem? (i := 38) rfl)) e9 jIAK iIAK (Or.inl ⟨rfl, rfl⟩) (x := 0) (y := 10) (n := 6) (by decide) (by decide) (by decide) (by decide) (by decide) rfl (Nat.le_of_ble_eq_true rfl) N10 geK (by rw [hml]; rfl) (hb hby own_d5_77) (pc' := 80) rfl (by decide) (W := 0) (Nat.le_of_eq rfl) (by decide) (fun T12 h12 L12 X12 e12 N12 K12 V12 => ?_)
  have f13 := iIE.keep K12
  have f14 := iIS.keep K12 (ninS iIaK nin0)
  have f15 := iIB.keep K12 (ninS iIaK nin0)
  have f16 := iIAB.keep K12 (ninS iIBK nin0)
  have f17 := iIEB.keep K12
  have f18 := iIEK.keep K12
  have f19 := jIE.keep K12
  have f20 := jIS.keep K12 (ninS (Ne.symm nn5) nin0)
  have f21 := jIB.keep K12 (ninS (Ne.symm nn5) nin0)
  have f22 := jIAB.keep K12 (ninS (Ne.symm nn6) nin0)
  have f23 := jIAK.keep K12 (ninS (Ne.symm nn7) nin0)
  have f24 := jIEB.keep K12
  have f25 := jIEK.keep K12
  have z26 : n0 ≤ h12.size := Nat.le_trans Z0 K12.1
  have K27 := K0.trans K12 (allS (Or.inl (List.mem_of_getElem? (i := 2) rfl)) all0)
  have f28 : Arv Z h12 K _ .int (16 : Int32) [(.int t0), (.int t1), (.int t2), (.int t3), (.int t4), (.int t5), (.int t6), (.int t7), (.int t8), (.int t9), (.int o0), (.int o1), (.int o2), (.int o3), (.int o4), (.int o5)] (.int (0 : Int32)) := V12
  refine OwnK.aloadN X12 hx (hb hby own_d5_80) (pc' := 81) rfl (v := (.ref p1)) rfl rfl ?_
  refine OwnK.dup X12 hx (hb hby own_d5_81) (pc' := 82) rfl rfl ?_
  refine OwnK.getF_ X12 hx hZ hown (host := "") (Or.inl (hw _ (List.mem_of_getElem? (i := 24) rfl))) Via.refl e12 f14 (hb hby own_d5_82) (pc' := 85) rfl (fun T29 X29 e29 => ?_)
  refine OwnK.iload X29 hx (hb hby own_d5_85) (pc' := 87) rfl (v := (6 : Int32)) rfl ?_
  refine OwnK.iaddL X29 hx (hb hby own_d5_87) (pc' := 88) rfl (z := (16 : Int32)) (by decide) ?_
  refine OwnK.putF_ X29 hx hZ hown (hw _ (List.mem_of_getElem? (i := 24) rfl)) Via.refl e29 f14 f13 (Or.inl (hw _ (List.mem_of_getElem? (i := 25) rfl))) (hw _ (List.mem_of_getElem? (i := 1) rfl)) (ty := .int) (by decide) (v' := (.int (16 : Int32))) rfl rfl (hb hby own_d5_88) (pc' := 91) rfl (fun T30 h30 X30 e30 W30 => ?_)
  have f31 := f14.same W30
  have f32 := f13.wr W30
  have f33 := f15.other W30 (Or.inr (slot_ne (Or.inl (hw _ (List.mem_of_getElem? (i := 14) rfl))) (Or.inl (hw _ (List.mem_of_getElem? (i := 25) rfl))) (by decide) (t := (.array (.array .int))) (t' := .int) (by decide) (by decide)))
  have f34 := f16.other W30 (Ne.symm iIaB)
  have f35 := f28.other W30 (Ne.symm iIaK)
  have f36 := f17.wr W30
  have f37 := f18.wr W30
  have f38 := f19.wr W30
  have f39 := f20.other W30 (Or.inl (Ne.symm n12))
  have f40 := f21.other W30 (Or.inl (Ne.symm n12))
  have f41 := f22.other W30 (Ne.symm nn0)
  have f42 := f23.other W30 (Ne.symm nn1)
  have f43 := f24.wr W30
  have f44 := f25.wr W30
  have N45 := Fr.snoc X30 N12 ge_p1
  have K46 := K27.wr W30 (Or.inl (List.mem_of_getElem? (i := 0) rfl))
  have z47 : n0 ≤ h30.size := Nat.le_trans z26 (Keep.of_wr W30).1
  refine OwnK.iloadN X30 hx (hb hby own_d5_91) (pc' := 92) rfl (v := (0 : Int32)) rfl ?_
  refine OwnK.iload X30 hx (hb hby own_d5_92) (pc' := 94) rfl (v := (6 : Int32)) rfl ?_
  refine OwnK.iaddL X30 hx (hb hby own_d5_94) (pc' := 95) rfl (z := (6 : Int32)) (by decide) ?_
  refine OwnK.istoreN X30 hx (hb hby own_d5_95) (pc' := 96) rfl (Ls' := #[.val (.ref p1), .val (.ref p2), .val (.int (6 : Int32)), .val (.ref K), .val (.int (10 : Int32)), .val (.ref D), .val (.int (0 : Int32)), .val (.int (6 : Int32))]) rfl ?_
  refine OwnK.goto_ X30 hx (hb hby own_d5_96) (by decide) (pc' := 2) (by decide) ?_
  refine OwnK.iloadN X30 hx (hb hby own_d5_2) (pc' := 3) rfl (v := (6 : Int32)) rfl ?_
  refine OwnK.aloadN X30 hx (hb hby own_d5_3) (pc' := 4) rfl (v := (.ref p2)) rfl rfl ?_
  refine OwnK.getF_ X30 hx hZ hown (host := "") (Or.inl (hw _ (List.mem_of_getElem? (i := 24) rfl))) Via.refl e30 f39 (hb hby own_d5_4) (pc' := 7) rfl (fun T48 X48 e48 => ?_)
  refine OwnK.icmp_ge X48 hx (hb hby own_d5_7) (by decide) (pcT := 99) (by decide) (pc' := 10) rfl (fun (hc7 : 16 ≤ 6) => absurd hc7 (by decide)) (fun hc7 => ?_)
  refine OwnK.aloadN X48 hx (hb hby own_d5_10) (pc' := 11) rfl (v := (.ref p1)) rfl rfl ?_
  refine OwnK.callP_ X48 hx hZ hown (y := (⟨"com/example/strict_reach/strictreach/IntList", "room", "()[I"⟩ : MethodName)) (z := (⟨"com/example/strict_reach/strictreach/IntList", "add", "(I)V"⟩ : MethodName)) (a := p1) (hw _ (List.mem_of_getElem? (i := 20) rfl)) (hw _ (List.mem_of_getElem? (i := 21) rfl)) rfl (hw _ (List.mem_of_getElem? (i := 18) rfl)) (hw _ (List.mem_of_getElem? (i := 22) rfl)) (hw _ (List.mem_of_getElem? (i := 23) rfl)) (hw _ (List.mem_of_getElem? (i := 2) rfl)) (by decide) f32 (own_roomg l Z a0 hw h30 n0 z47 p1 B K _ _ t0 t1 t2 t3 t4 t5 t6 t7 t8 t9 o0 o1 o2 o3 o4 o5   ⟨f32, f31, f33, f34, f35, f36, f37, iIO, iIaB, iIaK, iIBK⟩ geB ) (by decide) (W := 0) (by decide) e48 (by rw [hml]; rfl) own_pd_1 (argsL := []) rfl (S := []) rfl (Nat.le_of_eq rfl) (hb hby own_d5_11) (pc' := 14) rfl (by decide) (by decide) (fun T49 v49 L49 X49 hQ49 => ?_)
  obtain ⟨r49, kr49, rfl, N49q, Kp49, hr49, hL49⟩ := hQ49
  have N50 := Fr.app N45 N49q
  have q51 : B ≠ r49 := Nat.ne_of_lt (Nat.lt_of_lt_of_le f34.lt hr49)
  have q52 : C ≠ r49 := Nat.ne_of_lt (Nat.lt_of_lt_of_le f41.lt hr49)
  have q53 : D ≠ r49 := Nat.ne_of_lt (Nat.lt_of_lt_of_le f42.lt hr49)
  have q54 : K ≠ r49 := Nat.ne_of_lt (Nat.lt_of_lt_of_le f35.lt hr49)
  have q55 : p1 ≠ r49 := Nat.ne_of_lt (Nat.lt_of_lt_of_le f32.lt hr49)
  have q56 : p2 ≠ r49 := Nat.ne_of_lt (Nat.lt_of_lt_of_le f38.lt hr49)
  have ge_r49 : n0 ≤ r49 := Nat.le_trans z47 hr49
  have sz_r49 : h0.size ≤ r49 := Nat.le_trans K46.1 hr49
  have f57 := f32.keep Kp49
  have f58 := f31.keep Kp49 (ninS iIaB nin0)
  have f59 := f33.keep Kp49 (ninS iIaB nin0)
  have f60 := f35.keep Kp49 (ninS (Ne.symm iIBK) nin0)
  have f61 := f36.keep Kp49
  have f62 := f37.keep Kp49
  have f63 := f38.keep Kp49
  have f64 := f39.keep Kp49 (ninS (Ne.symm nn2) nin0)
  have f65 := f40.keep Kp49 (ninS (Ne.symm nn2) nin0)
  have f66 := f41.keep Kp49 (ninS (Ne.symm nn3) nin0)
  have f67 := f42.keep Kp49 (ninS (Ne.symm nn4) nin0)
  have f68 := f43.keep Kp49
  have f69 := f44.keep Kp49
  have z70 : n0 ≤ T49.heap.size := Nat.le_trans z47 Kp49.1
  have K71 := K46.trans Kp49 (allS (Or.inl (List.mem_of_getElem? (i := 1) rfl)) all0)
  obtain ⟨IE49, IS49, IB49, IAB49, IAK49, IEB49, IEK49, IO49, IaB49, IaK49, IBK49⟩ := hL49
  have f72 : Arv Z T49.heap r49 _ .int (32 : Int32) [(.int t0), (.int t1), (.int t2), (.int t3), (.int t4), (.int t5), (.int t6), (.int t7), (.int t8), (.int t9), (.int o0), (.int o1), (.int o2), (.int o3), (.int o4), (.int o5), (.int (0 : Int32)), (.int (0 : Int32)), (.int (0 : Int32)), (.int (0 : Int32)), (.int (0 : Int32)), (.int (0 : Int32)), (.int (0 : Int32)), (.int (0 : Int32)), (.int (0 : Int32)), (.int (0 : Int32)), (.int (0 : Int32)), (.int (0 : Int32)), (.int (0 : Int32)), (.int (0 : Int32)), (.int (0 : Int32)), (.int (0 : Int32))] (.int (0 : Int32)) := IAK49
  refine OwnK.astoreN X49 hx (hb hby own_d5_14) (pc' := 15) rfl rfl (Ls' := #[.val (.ref p1), .val (.ref p2), .val (.int (6 : Int32)), .val (.ref r49), .val (.int (10 : Int32)), .val (.ref D), .val (.int (0 : Int32)), .val (.int (6 : Int32))]) rfl ?_
  refine OwnK.aloadN X49 hx (hb hby own_d5_15) (pc' := 16) rfl (v := (.ref p1)) rfl rfl ?_
  refine OwnK.getF_ X49 hx hZ hown (host := "") (Or.inl (hw _ (List.mem_of_getElem? (i := 24) rfl))) Via.refl rfl IS49 (hb hby own_d5_16) (pc' := 19) rfl (fun T73 X73 e73 => ?_)
  refine OwnK.sipush X73 hx (hb hby own_d5_19) (pc' := 22) rfl (v := (4095 : Int32)) (by decide) ?_
  refine OwnK.iandL X73 hx (hb hby own_d5_22) (pc' := 23) rfl (z := (16 : Int32)) (by decide) ?_
  refine OwnK.istore X73 hx (hb hby own_d5_23) (pc' := 25) rfl (Ls' := #[.val (.ref p1), .val (.ref p2), .val (.int (6 : Int32)), .val (.ref r49), .val (.int (16 : Int32)), .val (.ref D), .val (.int (0 : Int32)), .val (.int (6 : Int32))]) rfl ?_
  refine OwnK.aloadN X73 hx (hb hby own_d5_25) (pc' := 26) rfl (v := (.ref p2)) rfl rfl ?_
  refine OwnK.getF_ X73 hx hZ hown (host := "") (Or.inl (hw _ (List.mem_of_getElem? (i := 13) rfl))) Via.refl e73 f65 (hb hby own_d5_26) (pc' := 29) rfl (fun T74 X74 e74 => ?_)
  refine OwnK.iloadN X74 hx (hb hby own_d5_29) (pc' := 30) rfl (v := (6 : Int32)) rfl ?_
  refine OwnK.bipush X74 hx (hb hby own_d5_30) (pc' := 32) rfl (v := (12 : Int32)) (by decide) ?_
  refine OwnK.iushrL X74 hx (hb hby own_d5_32) (pc' := 33) rfl (z := (0 : Int32)) (by decide) ?_
  refine OwnK.aaload X74 hx hZ e74 f66 rfl (by decide) (by first | decide | omega) (v := (.ref D)) rfl (hb hby own_d5_33) (pc' := 34) rfl ?_
  refine OwnK.astore X74 hx (hb hby own_d5_34) (pc' := 36) rfl rfl (Ls' := #[.val (.ref p1), .val (.ref p2), .val (.int (6 : Int32)), .val (.ref r49), .val (.int (16 : Int32)), .val (.ref D), .val (.int (0 : Int32)), .val (.int (6 : Int32))]) rfl ?_
  refine OwnK.iloadN X74 hx (hb hby own_d5_36) (pc' := 37) rfl (v := (6 : Int32)) rfl ?_
  refine OwnK.sipush X74 hx (hb hby own_d5_37) (pc' := 40) rfl (v := (4095 : Int32)) (by decide) ?_
  refine OwnK.iandL X74 hx (hb hby own_d5_40) (pc' := 41) rfl (z := (6 : Int32)) (by decide) ?_
  refine OwnK.istore X74 hx (hb hby own_d5_41) (pc' := 43) rfl (Ls' := #[.val (.ref p1), .val (.ref p2), .val (.int (6 : Int32)), .val (.ref r49), .val (.int (16 : Int32)), .val (.ref D), .val (.int (6 : Int32)), .val (.int (6 : Int32))]) rfl ?_
  refine OwnK.aloadN X74 hx (hb hby own_d5_43) (pc' := 44) rfl (v := (.ref p2)) rfl rfl ?_
  refine OwnK.getF_ X74 hx hZ hown (host := "") (Or.inl (hw _ (List.mem_of_getElem? (i := 24) rfl))) Via.refl e74 f64 (hb hby own_d5_44) (pc' := 47) rfl (fun T75 X75 e75 => ?_)
  refine OwnK.iloadN X75 hx (hb hby own_d5_47) (pc' := 48) rfl (v := (6 : Int32)) rfl ?_
  refine OwnK.isubL X75 hx (hb hby own_d5_48) (pc' := 49) rfl (z := (10 : Int32)) (by decide) ?_
  refine OwnK.aloadN X75 hx (hb hby own_d5_49) (pc' := 50) rfl (v := (.ref r49)) rfl rfl ?_
  refine OwnK.arrlen X75 hx hZ e75 f72 (hb hby own_d5_50) (pc' := 51) rfl ?_
  refine OwnK.iload X75 hx (hb hby own_d5_51) (pc' := 53) rfl (v := (16 : Int32)) rfl ?_
  refine OwnK.isubL X75 hx (hb hby own_d5_53) (pc' := 54) rfl (z := (16 : Int32)) (by decide) ?_
  refine OwnK.aload X75 hx (hb hby own_d5_54) (pc' := 56) rfl (v := (.ref D)) rfl rfl ?_
  refine OwnK.arrlen X75 hx hZ e75 f67 (hb hby own_d5_56) (pc' := 57) rfl ?_
  refine OwnK.iload X75 hx (hb hby own_d5_57) (pc' := 59) rfl (v := (6 : Int32)) rfl ?_
  refine OwnK.isubL X75 hx (hb hby own_d5_59) (pc' := 60) rfl (z := (10 : Int32)) (by decide) ?_
  refine OwnK.callS_ X75 hx hZ hown (y := (⟨"java/lang/Math", "min", "(II)I"⟩ : MethodName)) (hw _ (List.mem_of_getElem? (i := 32) rfl)) (hw _ (List.mem_of_getElem? (i := 33) rfl)) (hw _ (List.mem_of_getElem? (i := 34) rfl)) (hw _ (List.mem_of_getElem? (i := 35) rfl)) (by decide) (own_met6 l Z a0 hw T49.heap (16 : Int32) (10 : Int32)  ) (by decide) (W := 1) (by decide) e75 (by rw [hml]; rfl) own_pd_4 (argsL := [(.int (16 : Int32)), (.int (10 : Int32))]) rfl (S := [(.int (10 : Int32))]) rfl (Nat.le_of_eq rfl) (hb hby own_d5_60) (pc' := 63) rfl (by decide) (by decide) (fun T76 v76 L76 X76 hQ76 => ?_)
  obtain ⟨hv76, e76, rfl⟩ := hQ76
  obtain rfl : v76 = some (.int (10 : Int32)) := hv76.trans (by decide)
  have N77 := Fr.app N50 (Fr.nil n0)
  refine OwnK.callS_ X76 hx hZ hown (y := (⟨"java/lang/Math", "min", "(II)I"⟩ : MethodName)) (hw _ (List.mem_of_getElem? (i := 32) rfl)) (hw _ (List.mem_of_getElem? (i := 33) rfl)) (hw _ (List.mem_of_getElem? (i := 34) rfl)) (hw _ (List.mem_of_getElem? (i := 35) rfl)) (by decide) (own_met6 l Z a0 hw T49.heap (10 : Int32) (10 : Int32)  ) (by decide) (W := 0) (by decide) e76 (by rw [hml]; rfl) own_pd_4 (argsL := [(.int (10 : Int32)), (.int (10 : Int32))]) rfl (S := []) rfl (Nat.le_of_eq rfl) (hb hby own_d5_63) (pc' := 66) rfl (by decide) (by decide) (fun T78 v78 L78 X78 hQ78 => ?_)
  obtain ⟨hv78, e78, rfl⟩ := hQ78
  obtain rfl : v78 = some (.int (10 : Int32)) := hv78.trans (by decide)
  have N79 := Fr.app N77 (Fr.nil n0)
  refine OwnK.istore X78 hx (hb hby own_d5_66) (pc' := 68) rfl (Ls' := #[.val (.ref p1), .val (.ref p2), .val (.int (6 : Int32)), .val (.ref r49), .val (.int (16 : Int32)), .val (.ref D), .val (.int (6 : Int32)), .val (.int (10 : Int32))]) rfl ?_
  refine OwnK.aload X78 hx (hb hby own_d5_68) (pc' := 70) rfl (v := (.ref D)) rfl rfl ?_
  refine OwnK.iload X78 hx (hb hby own_d5_70) (pc' := 72) rfl (v := (6 : Int32)) rfl ?_
  refine OwnK.aloadN X78 hx (hb hby own_d5_72) (pc' := 73) rfl (v := (.ref r49)) rfl rfl ?_
  refine OwnK.iload X78 hx (hb hby own_d5_73) (pc' := 75) rfl (v := (16 : Int32)) rfl ?_
  refine OwnK.iload X78 hx (hb hby own_d5_75) (pc' := 77) rfl (v := (10 : Int32)) rfl ?_
  refine OwnK.arraycopy_ X78 hx hZ hown (hw _ (List.mem_of_getElem? (i := 36) rfl)) (hw _ (List.mem_of_getElem? (i := 39) rfl)) (hw _ (List.mem_of_getElem? (i := 37) rfl)) (hw _ (List.mem_of_getElem? (i := 38) rfl)) e78 f67 f72 (Or.inl ⟨rfl, rfl⟩) (x := 6) (y := 16) (n := 10) (by decide) (by decide) (by decide) (by decide) (by decide) rfl (Nat.le_of_ble_eq_true rfl) N79 ge_r49 (by rw [hml]; rfl) (hb hby own_d5_77) (pc' := 80) rfl (by decide) (W := 0) (Nat.le_of_eq rfl) (by decide) (fun T81 h81 L81 X81 e81 N81 K81 V81 => ?_)
  have f82 := IE49.keep K81
  have f83 := IS49.keep K81 (ninS IaK49 nin0)
  have f84 := IB49.keep K81 (ninS IaK49 nin0)
  have f85 := IEB49.keep K81
  have f86 := f63.keep K81
  have f87 := f64.keep K81 (ninS q56 nin0)
  have f88 := f65.keep K81 (ninS q56 nin0)
  have f89 := f66.keep K81 (ninS q52 nin0)
  have f90 := f67.keep K81 (ninS q53 nin0)
  have f91 := f68.keep K81
  have f92 := f69.keep K81
  have f93 := IAB49.keep K81 (ninS IBK49 nin0)
  have f94 := IEK49.keep K81
  have z95 : n0 ≤ h81.size := Nat.le_trans z70 K81.1
  have K96 := K71.trans K81 (allS (Or.inr sz_r49) all0)
  have f97 : Arv Z h81 r49 _ .int (32 : Int32) [(.int t0), (.int t1), (.int t2), (.int t3), (.int t4), (.int t5), (.int t6), (.int t7), (.int t8), (.int t9), (.int o0), (.int o1), (.int o2), (.int o3), (.int o4), (.int o5), (.int o6), (.int o7), (.int o8), (.int o9), (.int o10), (.int o11), (.int o12), (.int o13), (.int o14), (.int o15), (.int (0 : Int32)), (.int (0 : Int32)), (.int (0 : Int32)), (.int (0 : Int32)), (.int (0 : Int32)), (.int (0 : Int32))] (.int (0 : Int32)) := V81
  refine OwnK.aloadN X81 hx (hb hby own_d5_80) (pc' := 81) rfl (v := (.ref p1)) rfl rfl ?_
  refine OwnK.dup X81 hx (hb hby own_d5_81) (pc' := 82) rfl rfl ?_
  refine OwnK.getF_ X81 hx hZ hown (host := "") (Or.inl (hw _ (List.mem_of_getElem? (i := 24) rfl))) Via.refl e81 f83 (hb hby own_d5_82) (pc' := 85) rfl (fun T98 X98 e98 => ?_)
  refine OwnK.iload X98 hx (hb hby own_d5_85) (pc' := 87) rfl (v := (10 : Int32)) rfl ?_
  refine OwnK.iaddL X98 hx (hb hby own_d5_87) (pc' := 88) rfl (z := (26 : Int32)) (by decide) ?_
  refine OwnK.putF_ X98 hx hZ hown (hw _ (List.mem_of_getElem? (i := 24) rfl)) Via.refl e98 f83 f82 (Or.inl (hw _ (List.mem_of_getElem? (i := 25) rfl))) (hw _ (List.mem_of_getElem? (i := 1) rfl)) (ty := .int) (by decide) (v' := (.int (26 : Int32))) rfl rfl (hb hby own_d5_88) (pc' := 91) rfl (fun T99 h99 X99 e99 W99 => ?_)
  have f100 := f83.same W99
  have f101 := f82.wr W99
  have f102 := f84.other W99 (Or.inr (slot_ne (Or.inl (hw _ (List.mem_of_getElem? (i := 14) rfl))) (Or.inl (hw _ (List.mem_of_getElem? (i := 25) rfl))) (by decide) (t := (.array (.array .int))) (t' := .int) (by decide) (by decide)))
  have f103 := f85.wr W99
  have f104 := f86.wr W99
  have f105 := f87.other W99 (Or.inl (Ne.symm n12))
  have f106 := f88.other W99 (Or.inl (Ne.symm n12))
  have f107 := f89.other W99 (Ne.symm nn0)
  have f108 := f90.other W99 (Ne.symm nn1)
  have f109 := f91.wr W99
  have f110 := f92.wr W99
  have f111 := f93.other W99 (Ne.symm IaB49)
  have f112 := f97.other W99 (Ne.symm IaK49)
  have f113 := f94.wr W99
  have N114 := Fr.snoc X99 N81 ge_p1
  have K115 := K96.wr W99 (Or.inl (List.mem_of_getElem? (i := 0) rfl))
  have z116 : n0 ≤ h99.size := Nat.le_trans z95 (Keep.of_wr W99).1
  refine OwnK.iloadN X99 hx (hb hby own_d5_91) (pc' := 92) rfl (v := (6 : Int32)) rfl ?_
  refine OwnK.iload X99 hx (hb hby own_d5_92) (pc' := 94) rfl (v := (10 : Int32)) rfl ?_
  refine OwnK.iaddL X99 hx (hb hby own_d5_94) (pc' := 95) rfl (z := (16 : Int32)) (by decide) ?_
  refine OwnK.istoreN X99 hx (hb hby own_d5_95) (pc' := 96) rfl (Ls' := #[.val (.ref p1), .val (.ref p2), .val (.int (16 : Int32)), .val (.ref r49), .val (.int (16 : Int32)), .val (.ref D), .val (.int (6 : Int32)), .val (.int (10 : Int32))]) rfl ?_
  refine OwnK.goto_ X99 hx (hb hby own_d5_96) (by decide) (pc' := 2) (by decide) ?_
  refine OwnK.iloadN X99 hx (hb hby own_d5_2) (pc' := 3) rfl (v := (16 : Int32)) rfl ?_
  refine OwnK.aloadN X99 hx (hb hby own_d5_3) (pc' := 4) rfl (v := (.ref p2)) rfl rfl ?_
  refine OwnK.getF_ X99 hx hZ hown (host := "") (Or.inl (hw _ (List.mem_of_getElem? (i := 24) rfl))) Via.refl e99 f105 (hb hby own_d5_4) (pc' := 7) rfl (fun T117 X117 e117 => ?_)
  refine OwnK.icmp_ge X117 hx (hb hby own_d5_7) (by decide) (pcT := 99) (by decide) (pc' := 10) rfl (fun hc7 => ?_) (fun (hc7 : 16 < 16) => absurd hc7 (by decide))
  refine OwnK.retV_ X117 hx hret hlk (hb hby own_d5_99) (by decide) (by decide) ?_
  rw [show T117.heap = h99 from e117]
  exact ⟨r49, _, rfl, N114, K115, sz_r49, ⟨f101, f100, f102, f111, f112, f103, f113, IO49, IaB49, IaK49, IBK49⟩⟩
set_option maxRecDepth 65536 in
set_option maxHeartbeats 40000000 in
theorem own_law (l : Launch) (Z : State) (a0 : Array Value) (hw : ∀ d ∈ tables_1, d.before a0 Z = true) (ws : List Jvm.Cond) (h0 : Heap) (n0 : Nat) (Z0 : n0 ≤ h0.size) (p0 : Int32) (p1 : Int32) (p2 : Int32) (p3 : Int32) (p4 : Int32)  :
    MetFree l x (head1 (Jvm.Cond.code x code maxLocals ret :: ws) room_1) (fun a U => a = #[(.int p0), (.int p1), (.int p2), (.int p3), (.int p4)] ∧ Z.Warmed39 U.vm ∧ U.heap = h0) (fun _ _ _ _ _ => True) (fun _ U o U' => ∃ v L, o = .returned v ∧ (fun (v : Option Value) (_ : Heap) (L : List Loc) => v = some (.int (1 : Int32)) ∧ Fr n0 L) v U'.heap L ∧ FrameEnd U o U' L 7 70) := by
  refine OwnK.met (Q := (fun (v : Option Value) (_ : Heap) (L : List Loc) => v = some (.int (1 : Int32)) ∧ Fr n0 L)) (C := 7) (N := 70) own_pl_0 (own_ef_0 p0 p1 p2 p3 p4) ?_
  intro p e s m below meth c T0 X0 hx hZ hby hml hown hnm hret hlk e0
  have N0 := Fr.nil n0
  refine OwnK.new_ X0 hx hZ hown (hw _ (List.mem_of_getElem? (i := 0) rfl)) (hw _ (List.mem_of_getElem? (i := 1) rfl)) (hw _ (List.mem_of_getElem? (i := 2) rfl)) e0 (hb hby at_0) (pc' := 3) rfl (by decide) (by decide) (fun T1 h1 a1 X1 e1 g1 E1 A1 D1 => ?_)
  have ge_a1 : n0 ≤ a1 := Nat.le_trans Z0 (Nat.le_of_eq g1.symm)
  have z2 : n0 ≤ h1.size := Nat.le_trans Z0 E1.1
  have f3 : Fld Z h1 a1 "com/example/strict_reach/strictreach/IntList" "blocks" "[[I" .null := D1 (Or.inl (hw _ (List.mem_of_getElem? (i := 14) rfl))) (ty := (.array (.array .int))) (by decide)
  have f4 : Fld Z h1 a1 "com/example/strict_reach/strictreach/IntList" "size" "I" (.int (0 : Int32)) := D1 (Or.inl (hw _ (List.mem_of_getElem? (i := 25) rfl))) (ty := .int) (by decide)
  refine OwnK.dup X1 hx (hb hby at_3) (pc' := 4) rfl rfl ?_
  refine OwnK.callI_ X1 hx hZ hown (y := (⟨"com/example/strict_reach/strictreach/IntList", "<init>", "()V"⟩ : MethodName)) (a := a1) rfl (hw _ (List.mem_of_getElem? (i := 3) rfl)) (hw _ (List.mem_of_getElem? (i := 4) rfl)) (hw _ (List.mem_of_getElem? (i := 2) rfl)) (hw _ (List.mem_of_getElem? (i := 5) rfl)) rfl (by decide) (own_met1 l Z a0 hw h1 n0 z2 a1   ge_a1 f3 f4 A1 ) (by decide) (W := 1) (by decide) e1 (by rw [hml]; rfl) own_pd_0 (argsL := []) rfl (S := [(.ref a1)]) rfl (Nat.le_of_eq rfl) (hb hby at_4) (pc' := 7) rfl (by decide) (by decide) (fun T5 v5 L5 X5 hQ5 => ?_)
  obtain ⟨B5, K5, kB5, kK5, rfl, N5q, Kp5, hB5, hK5, hL5⟩ := hQ5
  have N6 := Fr.app N0 N5q
  have q7 : a1 ≠ B5 := Nat.ne_of_lt (Nat.lt_of_lt_of_le A1.lt hB5)
  have ge_B5 : n0 ≤ B5 := Nat.le_trans z2 hB5
  have q8 : a1 ≠ K5 := Nat.ne_of_lt (Nat.lt_of_lt_of_le A1.lt hK5)
  have ge_K5 : n0 ≤ K5 := Nat.le_trans z2 hK5
  have f9 := A1.keep Kp5
  have z10 : n0 ≤ T5.heap.size := Nat.le_trans z2 Kp5.1
  obtain ⟨IE5, IS5, IB5, IAB5, IAK5, IEB5, IEK5, IO5, IaB5, IaK5, IBK5⟩ := hL5
  have f11 : Arv Z T5.heap K5 _ .int (16 : Int32) [(.int (0 : Int32)), (.int (0 : Int32)), (.int (0 : Int32)), (.int (0 : Int32)), (.int (0 : Int32)), (.int (0 : Int32)), (.int (0 : Int32)), (.int (0 : Int32)), (.int (0 : Int32)), (.int (0 : Int32)), (.int (0 : Int32)), (.int (0 : Int32)), (.int (0 : Int32)), (.int (0 : Int32)), (.int (0 : Int32)), (.int (0 : Int32))] (.int (0 : Int32)) := IAK5
  refine OwnK.astore X5 hx (hb hby at_7) (pc' := 9) rfl rfl (Ls' := #[.val (.int p0), .val (.int p1), .val (.int p2), .val (.int p3), .val (.int p4), .val (.ref a1), .unset, .unset, .unset, .unset]) rfl ?_
  refine OwnK.new_ X5 hx hZ hown (hw _ (List.mem_of_getElem? (i := 0) rfl)) (hw _ (List.mem_of_getElem? (i := 1) rfl)) (hw _ (List.mem_of_getElem? (i := 2) rfl)) rfl (hb hby at_9) (pc' := 12) rfl (by decide) (by decide) (fun T12 h12 a12 X12 e12 g12 E12 A12 D12 => ?_)
  have q13 : B5 ≠ a12 := Nat.ne_of_lt (Nat.lt_of_lt_of_le IAB5.lt (Nat.le_of_eq g12.symm))
  have q14 : K5 ≠ a12 := Nat.ne_of_lt (Nat.lt_of_lt_of_le f11.lt (Nat.le_of_eq g12.symm))
  have q15 : a1 ≠ a12 := Nat.ne_of_lt (Nat.lt_of_lt_of_le IE5.lt (Nat.le_of_eq g12.symm))
  have ge_a12 : n0 ≤ a12 := Nat.le_trans z10 (Nat.le_of_eq g12.symm)
  have z16 : n0 ≤ h12.size := Nat.le_trans z10 E12.1
  have f17 := IE5.ext E12
  have f18 := IS5.ext E12
  have f19 := IB5.ext E12
  have f20 := IAB5.ext E12
  have f21 := f11.ext E12
  have f22 := IEB5.ext E12
  have f23 := IEK5.ext E12
  have f24 : Fld Z h12 a12 "com/example/strict_reach/strictreach/IntList" "blocks" "[[I" .null := D12 (Or.inl (hw _ (List.mem_of_getElem? (i := 14) rfl))) (ty := (.array (.array .int))) (by decide)
  have f25 : Fld Z h12 a12 "com/example/strict_reach/strictreach/IntList" "size" "I" (.int (0 : Int32)) := D12 (Or.inl (hw _ (List.mem_of_getElem? (i := 25) rfl))) (ty := .int) (by decide)
  refine OwnK.dup X12 hx (hb hby at_12) (pc' := 13) rfl rfl ?_
  refine OwnK.callI_ X12 hx hZ hown (y := (⟨"com/example/strict_reach/strictreach/IntList", "<init>", "()V"⟩ : MethodName)) (a := a12) rfl (hw _ (List.mem_of_getElem? (i := 3) rfl)) (hw _ (List.mem_of_getElem? (i := 4) rfl)) (hw _ (List.mem_of_getElem? (i := 2) rfl)) (hw _ (List.mem_of_getElem? (i := 5) rfl)) rfl (by decide) (own_met1 l Z a0 hw h12 n0 z16 a12   ge_a12 f24 f25 A12 ) (by decide) (W := 1) (by decide) e12 (by rw [hml]; rfl) own_pd_0 (argsL := []) rfl (S := [(.ref a12)]) rfl (Nat.le_of_eq rfl) (hb hby at_13) (pc' := 16) rfl (by decide) (by decide) (fun T26 v26 L26 X26 hQ26 => ?_)
  obtain ⟨B26, K26, kB26, kK26, rfl, N26q, Kp26, hB26, hK26, hL26⟩ := hQ26
  have N27 := Fr.app N6 N26q
  have q28 : B5 ≠ B26 := Nat.ne_of_lt (Nat.lt_of_lt_of_le f20.lt hB26)
  have q29 : K5 ≠ B26 := Nat.ne_of_lt (Nat.lt_of_lt_of_le f21.lt hB26)
  have q30 : a1 ≠ B26 := Nat.ne_of_lt (Nat.lt_of_lt_of_le f17.lt hB26)
  have q31 : a12 ≠ B26 := Nat.ne_of_lt (Nat.lt_of_lt_of_le A12.lt hB26)
  have ge_B26 : n0 ≤ B26 := Nat.le_trans z16 hB26
  have q32 : B5 ≠ K26 := Nat.ne_of_lt (Nat.lt_of_lt_of_le f20.lt hK26)
  have q33 : K5 ≠ K26 := Nat.ne_of_lt (Nat.lt_of_lt_of_le f21.lt hK26)
  have q34 : a1 ≠ K26 := Nat.ne_of_lt (Nat.lt_of_lt_of_le f17.lt hK26)
  have q35 : a12 ≠ K26 := Nat.ne_of_lt (Nat.lt_of_lt_of_le A12.lt hK26)
  have ge_K26 : n0 ≤ K26 := Nat.le_trans z16 hK26
  have f36 := f17.keep Kp26
  have f37 := f18.keep Kp26 (ninS q15 nin0)
  have f38 := f19.keep Kp26 (ninS q15 nin0)
  have f39 := f20.keep Kp26 (ninS q13 nin0)
  have f40 := f21.keep Kp26 (ninS q14 nin0)
  have f41 := f22.keep Kp26
  have f42 := f23.keep Kp26
  have f43 := A12.keep Kp26
  have z44 : n0 ≤ T26.heap.size := Nat.le_trans z16 Kp26.1
  obtain ⟨IE26, IS26, IB26, IAB26, IAK26, IEB26, IEK26, IO26, IaB26, IaK26, IBK26⟩ := hL26
  have f45 : Arv Z T26.heap K26 _ .int (16 : Int32) [(.int (0 : Int32)), (.int (0 : Int32)), (.int (0 : Int32)), (.int (0 : Int32)), (.int (0 : Int32)), (.int (0 : Int32)), (.int (0 : Int32)), (.int (0 : Int32)), (.int (0 : Int32)), (.int (0 : Int32)), (.int (0 : Int32)), (.int (0 : Int32)), (.int (0 : Int32)), (.int (0 : Int32)), (.int (0 : Int32)), (.int (0 : Int32))] (.int (0 : Int32)) := IAK26
  refine OwnK.astore X26 hx (hb hby at_16) (pc' := 18) rfl rfl (Ls' := #[.val (.int p0), .val (.int p1), .val (.int p2), .val (.int p3), .val (.int p4), .val (.ref a1), .val (.ref a12), .unset, .unset, .unset]) rfl ?_
  refine OwnK.aload X26 hx (hb hby at_18) (pc' := 20) rfl (v := (.ref a1)) rfl rfl ?_
  refine OwnK.iloadN X26 hx (hb hby at_20) (pc' := 21) rfl (v := p0) rfl ?_
  refine OwnK.callV_ X26 hx hZ hown (y := (⟨"com/example/strict_reach/strictreach/IntList", "add", "(I)V"⟩ : MethodName)) (z := (⟨"com/example/strict_reach/strictreach/IntList", "add", "(I)V"⟩ : MethodName)) (a := a1) (hw _ (List.mem_of_getElem? (i := 15) rfl)) (hw _ (List.mem_of_getElem? (i := 16) rfl)) (notFace_of_selects (args := #[]) (mvT hZ (hw _ (List.mem_of_getElem? (i := 18) rfl)))) (hw _ (List.mem_of_getElem? (i := 18) rfl)) (hw _ (List.mem_of_getElem? (i := 17) rfl)) (hw _ (List.mem_of_getElem? (i := 19) rfl)) (hw _ (List.mem_of_getElem? (i := 2) rfl)) (by decide) f36 (own_met3 l Z a0 hw T26.heap n0 z44 a1 p0 B5 K5 _ _ (0 : Int32) (16 : Int32) _ 0  ge_a1 ⟨f36, f37, f38, f39, f40, f41, f42, IO5, IaB5, IaK5, IBK5⟩ ge_K5 (by decide) (Nat.le_of_ble_eq_true rfl) (by decide) (by decide) ) (by decide) (W := 0) (by decide) rfl (by rw [hml]; rfl) own_pd_3 (argsL := [(.int p0)]) rfl (S := []) rfl (Nat.le_of_eq rfl) (hb hby at_21) (pc' := 24) rfl (by decide) (by decide) (fun T46 v46 L46 X46 hQ46 => ?_)
  obtain ⟨rfl, N46q, Kp46, hL46⟩ := hQ46
  have N47 := Fr.app N27 N46q
  have f48 := f36.keep Kp46
  have f49 := f39.keep Kp46 (ninS (Ne.symm IaB5) (ninS IBK5 nin0))
  have f50 := f41.keep Kp46
  have f51 := f42.keep Kp46
  have f52 := IE26.keep Kp46
  have f53 := IS26.keep Kp46 (ninS (Ne.symm q15) (ninS (Ne.symm q14) nin0))
  have f54 := IB26.keep Kp46 (ninS (Ne.symm q15) (ninS (Ne.symm q14) nin0))
  have f55 := IAB26.keep Kp46 (ninS (Ne.symm q30) (ninS (Ne.symm q29) nin0))
  have f56 := f45.keep Kp46 (ninS (Ne.symm q34) (ninS (Ne.symm q33) nin0))
  have f57 := IEB26.keep Kp46
  have f58 := IEK26.keep Kp46
  have z59 : n0 ≤ T46.heap.size := Nat.le_trans z44 Kp46.1
  rw [show ((0 : Int32) + (1 : Int32)) = (1 : Int32) from by decide] at hL46
  obtain ⟨IE46, IS46, IB46, IAB46, IAK46, IEB46, IEK46, IO46, IaB46, IaK46, IBK46⟩ := hL46
  have f60 : Arv Z T46.heap K5 _ .int (16 : Int32) [(.int p0), (.int (0 : Int32)), (.int (0 : Int32)), (.int (0 : Int32)), (.int (0 : Int32)), (.int (0 : Int32)), (.int (0 : Int32)), (.int (0 : Int32)), (.int (0 : Int32)), (.int (0 : Int32)), (.int (0 : Int32)), (.int (0 : Int32)), (.int (0 : Int32)), (.int (0 : Int32)), (.int (0 : Int32)), (.int (0 : Int32))] (.int (0 : Int32)) := IAK46
  refine OwnK.aload X46 hx (hb hby at_24) (pc' := 26) rfl (v := (.ref a1)) rfl rfl ?_
  refine OwnK.iloadN X46 hx (hb hby at_26) (pc' := 27) rfl (v := p1) rfl ?_
  refine OwnK.callV_ X46 hx hZ hown (y := (⟨"com/example/strict_reach/strictreach/IntList", "add", "(I)V"⟩ : MethodName)) (z := (⟨"com/example/strict_reach/strictreach/IntList", "add", "(I)V"⟩ : MethodName)) (a := a1) (hw _ (List.mem_of_getElem? (i := 15) rfl)) (hw _ (List.mem_of_getElem? (i := 16) rfl)) (notFace_of_selects (args := #[]) (mvT hZ (hw _ (List.mem_of_getElem? (i := 18) rfl)))) (hw _ (List.mem_of_getElem? (i := 18) rfl)) (hw _ (List.mem_of_getElem? (i := 17) rfl)) (hw _ (List.mem_of_getElem? (i := 19) rfl)) (hw _ (List.mem_of_getElem? (i := 2) rfl)) (by decide) IE46 (own_met3 l Z a0 hw T46.heap n0 z59 a1 p1 B5 K5 _ _ (1 : Int32) (16 : Int32) _ 1  ge_a1 ⟨IE46, IS46, IB46, IAB46, f60, IEB46, IEK46, IO46, IaB46, IaK46, IBK46⟩ ge_K5 (by decide) (Nat.le_of_ble_eq_true rfl) (by decide) (by decide) ) (by decide) (W := 0) (by decide) rfl (by rw [hml]; rfl) own_pd_3 (argsL := [(.int p1)]) rfl (S := []) rfl (Nat.le_of_eq rfl) (hb hby at_27) (pc' := 30) rfl (by decide) (by decide) (fun T61 v61 L61 X61 hQ61 => ?_)
  obtain ⟨rfl, N61q, Kp61, hL61⟩ := hQ61
  have N62 := Fr.app N47 N61q
  have f63 := IE46.keep Kp61
  have f64 := IAB46.keep Kp61 (ninS (Ne.symm IaB46) (ninS IBK46 nin0))
  have f65 := IEB46.keep Kp61
  have f66 := IEK46.keep Kp61
  have f67 := f52.keep Kp61
  have f68 := f53.keep Kp61 (ninS (Ne.symm q15) (ninS (Ne.symm q14) nin0))
  have f69 := f54.keep Kp61 (ninS (Ne.symm q15) (ninS (Ne.symm q14) nin0))
  have f70 := f55.keep Kp61 (ninS (Ne.symm q30) (ninS (Ne.symm q29) nin0))
  have f71 := f56.keep Kp61 (ninS (Ne.symm q34) (ninS (Ne.symm q33) nin0))
  have f72 := f57.keep Kp61
  have f73 := f58.keep Kp61
  have z74 : n0 ≤ T61.heap.size := Nat.le_trans z59 Kp61.1
  rw [show ((1 : Int32) + (1 : Int32)) = (2 : Int32) from by decide] at hL61
  obtain ⟨IE61, IS61, IB61, IAB61, IAK61, IEB61, IEK61, IO61, IaB61, IaK61, IBK61⟩ := hL61
  have f75 : Arv Z T61.heap K5 _ .int (16 : Int32) [(.int p0), (.int p1), (.int (0 : Int32)), (.int (0 : Int32)), (.int (0 : Int32)), (.int (0 : Int32)), (.int (0 : Int32)), (.int (0 : Int32)), (.int (0 : Int32)), (.int (0 : Int32)), (.int (0 : Int32)), (.int (0 : Int32)), (.int (0 : Int32)), (.int (0 : Int32)), (.int (0 : Int32)), (.int (0 : Int32))] (.int (0 : Int32)) := IAK61
  refine OwnK.aload X61 hx (hb hby at_30) (pc' := 32) rfl (v := (.ref a12)) rfl rfl ?_
  refine OwnK.aload X61 hx (hb hby at_32) (pc' := 34) rfl (v := (.ref a1)) rfl rfl ?_
  refine OwnK.callV_ X61 hx hZ hown (y := (⟨"com/example/strict_reach/strictreach/IntList", "addAll", "(Lcom/example/strict_reach/strictreach/IntList;)V"⟩ : MethodName)) (z := (⟨"com/example/strict_reach/strictreach/IntList", "addAll", "(Lcom/example/strict_reach/strictreach/IntList;)V"⟩ : MethodName)) (a := a12) (hw _ (List.mem_of_getElem? (i := 27) rfl)) (hw _ (List.mem_of_getElem? (i := 28) rfl)) (notFace_of_selects (args := #[]) (mvT hZ (hw _ (List.mem_of_getElem? (i := 30) rfl)))) (hw _ (List.mem_of_getElem? (i := 30) rfl)) (hw _ (List.mem_of_getElem? (i := 29) rfl)) (hw _ (List.mem_of_getElem? (i := 31) rfl)) (hw _ (List.mem_of_getElem? (i := 2) rfl)) (by decide) f67 (own_all_0_2 l Z a0 hw T61.heap n0 z74 a12 a1 B26 K26 B5 K5 _ _ _ _ p0 p1  ge_a12 ⟨f67, f68, f69, f70, f71, f72, f73, IO26, IaB26, IaK26, IBK26⟩ ⟨IE61, IS61, IB61, IAB61, f75, IEB61, IEK61, IO61, IaB61, IaK61, IBK61⟩ ge_B26 ge_K26 (Ne.symm q15) ⟨(Ne.symm q13), (Ne.symm q14), (Ne.symm q30), (Ne.symm q28), (Ne.symm q29), (Ne.symm q34), (Ne.symm q32), (Ne.symm q33)⟩ ) (by decide) (W := 0) (by decide) rfl (by rw [hml]; rfl) own_pd_7 (argsL := [(.ref a1)]) rfl (S := []) rfl (Nat.le_of_eq rfl) (hb hby at_34) (pc' := 37) rfl (by decide) (by decide) (fun T76 v76 L76 X76 hQ76 => ?_)
  obtain ⟨rfl, N76q, Kp76, hL76⟩ := hQ76
  have N77 := Fr.app N62 N76q
  have f78 := IE61.keep Kp76
  have f79 := IAB61.keep Kp76 (ninS q13 (ninS q28 (ninS q32 nin0)))
  have f80 := IEB61.keep Kp76
  have f81 := IEK61.keep Kp76
  have f82 := f67.keep Kp76
  have f83 := f72.keep Kp76
  have f84 := f73.keep Kp76
  have f85 := IS61.keep Kp76 (ninS q15 (ninS q30 (ninS q34 nin0)))
  have f86 := IB61.keep Kp76 (ninS q15 (ninS q30 (ninS q34 nin0)))
  have f87 := f75.keep Kp76 (ninS q14 (ninS q29 (ninS q33 nin0)))
  have z88 : n0 ≤ T76.heap.size := Nat.le_trans z74 Kp76.1
  obtain ⟨IE76, IS76, IB76, IAB76, IAK76, IEB76, IEK76, IO76, IaB76, IaK76, IBK76⟩ := hL76
  have f89 : Arv Z T76.heap K26 _ .int (16 : Int32) [(.int p0), (.int p1), (.int (0 : Int32)), (.int (0 : Int32)), (.int (0 : Int32)), (.int (0 : Int32)), (.int (0 : Int32)), (.int (0 : Int32)), (.int (0 : Int32)), (.int (0 : Int32)), (.int (0 : Int32)), (.int (0 : Int32)), (.int (0 : Int32)), (.int (0 : Int32)), (.int (0 : Int32)), (.int (0 : Int32))] (.int (0 : Int32)) := IAK76
  refine OwnK.aload X76 hx (hb hby at_37) (pc' := 39) rfl (v := (.ref a1)) rfl rfl ?_
  refine OwnK.aload X76 hx (hb hby at_39) (pc' := 41) rfl (v := (.ref a12)) rfl rfl ?_
  refine OwnK.callV_ X76 hx hZ hown (y := (⟨"com/example/strict_reach/strictreach/IntList", "addAll", "(Lcom/example/strict_reach/strictreach/IntList;)V"⟩ : MethodName)) (z := (⟨"com/example/strict_reach/strictreach/IntList", "addAll", "(Lcom/example/strict_reach/strictreach/IntList;)V"⟩ : MethodName)) (a := a1) (hw _ (List.mem_of_getElem? (i := 27) rfl)) (hw _ (List.mem_of_getElem? (i := 28) rfl)) (notFace_of_selects (args := #[]) (mvT hZ (hw _ (List.mem_of_getElem? (i := 30) rfl)))) (hw _ (List.mem_of_getElem? (i := 30) rfl)) (hw _ (List.mem_of_getElem? (i := 29) rfl)) (hw _ (List.mem_of_getElem? (i := 31) rfl)) (hw _ (List.mem_of_getElem? (i := 2) rfl)) (by decide) f78 (own_all_2_2 l Z a0 hw T76.heap n0 z88 a1 a12 B5 K5 B26 K26 _ _ _ _ p0 p1 p0 p1  ge_a1 ⟨f78, f85, f86, f79, f87, f80, f81, IO61, IaB61, IaK61, IBK61⟩ ⟨IE76, IS76, IB76, IAB76, f89, IEB76, IEK76, IO76, IaB76, IaK76, IBK76⟩ ge_B5 ge_K5 q15 ⟨q30, q34, q13, q28, q32, q14, q29, q33⟩ ) (by decide) (W := 0) (by decide) rfl (by rw [hml]; rfl) own_pd_7 (argsL := [(.ref a12)]) rfl (S := []) rfl (Nat.le_of_eq rfl) (hb hby at_41) (pc' := 44) rfl (by decide) (by decide) (fun T90 v90 L90 X90 hQ90 => ?_)
  obtain ⟨rfl, N90q, Kp90, hL90⟩ := hQ90
  have N91 := Fr.app N77 N90q
  have f92 := f78.keep Kp90
  have f93 := f80.keep Kp90
  have f94 := f81.keep Kp90
  have f95 := IE76.keep Kp90
  have f96 := IEB76.keep Kp90
  have f97 := IEK76.keep Kp90
  have f98 := IS76.keep Kp90 (ninS (Ne.symm q15) (ninS (Ne.symm q13) (ninS (Ne.symm q14) nin0)))
  have f99 := IB76.keep Kp90 (ninS (Ne.symm q15) (ninS (Ne.symm q13) (ninS (Ne.symm q14) nin0)))
  have f100 := IAB76.keep Kp90 (ninS (Ne.symm q30) (ninS (Ne.symm q28) (ninS (Ne.symm q29) nin0)))
  have f101 := f89.keep Kp90 (ninS (Ne.symm q34) (ninS (Ne.symm q32) (ninS (Ne.symm q33) nin0)))
  have z102 : n0 ≤ T90.heap.size := Nat.le_trans z88 Kp90.1
  obtain ⟨IE90, IS90, IB90, IAB90, IAK90, IEB90, IEK90, IO90, IaB90, IaK90, IBK90⟩ := hL90
  have f103 : Arv Z T90.heap K5 _ .int (16 : Int32) [(.int p0), (.int p1), (.int p0), (.int p1), (.int (0 : Int32)), (.int (0 : Int32)), (.int (0 : Int32)), (.int (0 : Int32)), (.int (0 : Int32)), (.int (0 : Int32)), (.int (0 : Int32)), (.int (0 : Int32)), (.int (0 : Int32)), (.int (0 : Int32)), (.int (0 : Int32)), (.int (0 : Int32))] (.int (0 : Int32)) := IAK90
  refine OwnK.aload X90 hx (hb hby at_44) (pc' := 46) rfl (v := (.ref a12)) rfl rfl ?_
  refine OwnK.aload X90 hx (hb hby at_46) (pc' := 48) rfl (v := (.ref a1)) rfl rfl ?_
  refine OwnK.callV_ X90 hx hZ hown (y := (⟨"com/example/strict_reach/strictreach/IntList", "addAll", "(Lcom/example/strict_reach/strictreach/IntList;)V"⟩ : MethodName)) (z := (⟨"com/example/strict_reach/strictreach/IntList", "addAll", "(Lcom/example/strict_reach/strictreach/IntList;)V"⟩ : MethodName)) (a := a12) (hw _ (List.mem_of_getElem? (i := 27) rfl)) (hw _ (List.mem_of_getElem? (i := 28) rfl)) (notFace_of_selects (args := #[]) (mvT hZ (hw _ (List.mem_of_getElem? (i := 30) rfl)))) (hw _ (List.mem_of_getElem? (i := 30) rfl)) (hw _ (List.mem_of_getElem? (i := 29) rfl)) (hw _ (List.mem_of_getElem? (i := 31) rfl)) (hw _ (List.mem_of_getElem? (i := 2) rfl)) (by decide) f95 (own_all_2_4 l Z a0 hw T90.heap n0 z102 a12 a1 B26 K26 B5 K5 _ _ _ _ p0 p1 p0 p1 p0 p1  ge_a12 ⟨f95, f98, f99, f100, f101, f96, f97, IO76, IaB76, IaK76, IBK76⟩ ⟨IE90, IS90, IB90, IAB90, f103, IEB90, IEK90, IO90, IaB90, IaK90, IBK90⟩ ge_B26 ge_K26 (Ne.symm q15) ⟨(Ne.symm q13), (Ne.symm q14), (Ne.symm q30), (Ne.symm q28), (Ne.symm q29), (Ne.symm q34), (Ne.symm q32), (Ne.symm q33)⟩ ) (by decide) (W := 0) (by decide) rfl (by rw [hml]; rfl) own_pd_7 (argsL := [(.ref a1)]) rfl (S := []) rfl (Nat.le_of_eq rfl) (hb hby at_48) (pc' := 51) rfl (by decide) (by decide) (fun T104 v104 L104 X104 hQ104 => ?_)
  obtain ⟨rfl, N104q, Kp104, hL104⟩ := hQ104
  have N105 := Fr.app N91 N104q
  have f106 := IE90.keep Kp104
  have f107 := IEB90.keep Kp104
  have f108 := IEK90.keep Kp104
  have f109 := f95.keep Kp104
  have f110 := f96.keep Kp104
  have f111 := f97.keep Kp104
  have f112 := IS90.keep Kp104 (ninS q15 (ninS q30 (ninS q34 nin0)))
  have f113 := IB90.keep Kp104 (ninS q15 (ninS q30 (ninS q34 nin0)))
  have f114 := IAB90.keep Kp104 (ninS q13 (ninS q28 (ninS q32 nin0)))
  have f115 := f103.keep Kp104 (ninS q14 (ninS q29 (ninS q33 nin0)))
  have z116 : n0 ≤ T104.heap.size := Nat.le_trans z102 Kp104.1
  obtain ⟨IE104, IS104, IB104, IAB104, IAK104, IEB104, IEK104, IO104, IaB104, IaK104, IBK104⟩ := hL104
  have f117 : Arv Z T104.heap K26 _ .int (16 : Int32) [(.int p0), (.int p1), (.int p0), (.int p1), (.int p0), (.int p1), (.int (0 : Int32)), (.int (0 : Int32)), (.int (0 : Int32)), (.int (0 : Int32)), (.int (0 : Int32)), (.int (0 : Int32)), (.int (0 : Int32)), (.int (0 : Int32)), (.int (0 : Int32)), (.int (0 : Int32))] (.int (0 : Int32)) := IAK104
  refine OwnK.aload X104 hx (hb hby at_51) (pc' := 53) rfl (v := (.ref a1)) rfl rfl ?_
  refine OwnK.aload X104 hx (hb hby at_53) (pc' := 55) rfl (v := (.ref a12)) rfl rfl ?_
  refine OwnK.callV_ X104 hx hZ hown (y := (⟨"com/example/strict_reach/strictreach/IntList", "addAll", "(Lcom/example/strict_reach/strictreach/IntList;)V"⟩ : MethodName)) (z := (⟨"com/example/strict_reach/strictreach/IntList", "addAll", "(Lcom/example/strict_reach/strictreach/IntList;)V"⟩ : MethodName)) (a := a1) (hw _ (List.mem_of_getElem? (i := 27) rfl)) (hw _ (List.mem_of_getElem? (i := 28) rfl)) (notFace_of_selects (args := #[]) (mvT hZ (hw _ (List.mem_of_getElem? (i := 30) rfl)))) (hw _ (List.mem_of_getElem? (i := 30) rfl)) (hw _ (List.mem_of_getElem? (i := 29) rfl)) (hw _ (List.mem_of_getElem? (i := 31) rfl)) (hw _ (List.mem_of_getElem? (i := 2) rfl)) (by decide) f106 (own_all_4_6 l Z a0 hw T104.heap n0 z116 a1 a12 B5 K5 B26 K26 _ _ _ _ p0 p1 p0 p1 p0 p1 p0 p1 p0 p1  ge_a1 ⟨f106, f112, f113, f114, f115, f107, f108, IO90, IaB90, IaK90, IBK90⟩ ⟨IE104, IS104, IB104, IAB104, f117, IEB104, IEK104, IO104, IaB104, IaK104, IBK104⟩ ge_B5 ge_K5 q15 ⟨q30, q34, q13, q28, q32, q14, q29, q33⟩ ) (by decide) (W := 0) (by decide) rfl (by rw [hml]; rfl) own_pd_7 (argsL := [(.ref a12)]) rfl (S := []) rfl (Nat.le_of_eq rfl) (hb hby at_55) (pc' := 58) rfl (by decide) (by decide) (fun T118 v118 L118 X118 hQ118 => ?_)
  obtain ⟨rfl, N118q, Kp118, hL118⟩ := hQ118
  have N119 := Fr.app N105 N118q
  have f120 := f106.keep Kp118
  have f121 := f107.keep Kp118
  have f122 := f108.keep Kp118
  have f123 := IE104.keep Kp118
  have f124 := IEB104.keep Kp118
  have f125 := IEK104.keep Kp118
  have f126 := IS104.keep Kp118 (ninS (Ne.symm q15) (ninS (Ne.symm q13) (ninS (Ne.symm q14) nin0)))
  have f127 := IB104.keep Kp118 (ninS (Ne.symm q15) (ninS (Ne.symm q13) (ninS (Ne.symm q14) nin0)))
  have f128 := IAB104.keep Kp118 (ninS (Ne.symm q30) (ninS (Ne.symm q28) (ninS (Ne.symm q29) nin0)))
  have f129 := f117.keep Kp118 (ninS (Ne.symm q34) (ninS (Ne.symm q32) (ninS (Ne.symm q33) nin0)))
  have z130 : n0 ≤ T118.heap.size := Nat.le_trans z116 Kp118.1
  obtain ⟨IE118, IS118, IB118, IAB118, IAK118, IEB118, IEK118, IO118, IaB118, IaK118, IBK118⟩ := hL118
  have f131 : Arv Z T118.heap K5 _ .int (16 : Int32) [(.int p0), (.int p1), (.int p0), (.int p1), (.int p0), (.int p1), (.int p0), (.int p1), (.int p0), (.int p1), (.int (0 : Int32)), (.int (0 : Int32)), (.int (0 : Int32)), (.int (0 : Int32)), (.int (0 : Int32)), (.int (0 : Int32))] (.int (0 : Int32)) := IAK118
  refine OwnK.aload X118 hx (hb hby at_58) (pc' := 60) rfl (v := (.ref a12)) rfl rfl ?_
  refine OwnK.aload X118 hx (hb hby at_60) (pc' := 62) rfl (v := (.ref a1)) rfl rfl ?_
  refine OwnK.callV_ X118 hx hZ hown (y := (⟨"com/example/strict_reach/strictreach/IntList", "addAll", "(Lcom/example/strict_reach/strictreach/IntList;)V"⟩ : MethodName)) (z := (⟨"com/example/strict_reach/strictreach/IntList", "addAll", "(Lcom/example/strict_reach/strictreach/IntList;)V"⟩ : MethodName)) (a := a12) (hw _ (List.mem_of_getElem? (i := 27) rfl)) (hw _ (List.mem_of_getElem? (i := 28) rfl)) (notFace_of_selects (args := #[]) (mvT hZ (hw _ (List.mem_of_getElem? (i := 30) rfl)))) (hw _ (List.mem_of_getElem? (i := 30) rfl)) (hw _ (List.mem_of_getElem? (i := 29) rfl)) (hw _ (List.mem_of_getElem? (i := 31) rfl)) (hw _ (List.mem_of_getElem? (i := 2) rfl)) (by decide) f123 (own_all_6_10 l Z a0 hw T118.heap n0 z130 a12 a1 B26 K26 B5 K5 _ _ _ _ p0 p1 p0 p1 p0 p1 p0 p1 p0 p1 p0 p1 p0 p1 p0 p1  ge_a12 ⟨f123, f126, f127, f128, f129, f124, f125, IO104, IaB104, IaK104, IBK104⟩ ⟨IE118, IS118, IB118, IAB118, f131, IEB118, IEK118, IO118, IaB118, IaK118, IBK118⟩ ge_B26 ge_K26 (Ne.symm q15) ⟨(Ne.symm q13), (Ne.symm q14), (Ne.symm q30), (Ne.symm q28), (Ne.symm q29), (Ne.symm q34), (Ne.symm q32), (Ne.symm q33)⟩ ) (by decide) (W := 0) (by decide) rfl (by rw [hml]; rfl) own_pd_7 (argsL := [(.ref a1)]) rfl (S := []) rfl (Nat.le_of_eq rfl) (hb hby at_62) (pc' := 65) rfl (by decide) (by decide) (fun T132 v132 L132 X132 hQ132 => ?_)
  obtain ⟨rfl, N132q, Kp132, hL132⟩ := hQ132
  have N133 := Fr.app N119 N132q
  have f134 := IE118.keep Kp132
  have f135 := IEB118.keep Kp132
  have f136 := IEK118.keep Kp132
  have f137 := f123.keep Kp132
  have f138 := f124.keep Kp132
  have f139 := f125.keep Kp132
  have f140 := IS118.keep Kp132 (ninS q15 (ninS q30 (ninS q34 nin0)))
  have f141 := IB118.keep Kp132 (ninS q15 (ninS q30 (ninS q34 nin0)))
  have f142 := IAB118.keep Kp132 (ninS q13 (ninS q28 (ninS q32 nin0)))
  have f143 := f131.keep Kp132 (ninS q14 (ninS q29 (ninS q33 nin0)))
  have z144 : n0 ≤ T132.heap.size := Nat.le_trans z130 Kp132.1
  obtain ⟨IE132, IS132, IB132, IAB132, IAK132, IEB132, IEK132, IO132, IaB132, IaK132, IBK132⟩ := hL132
  have f145 : Arv Z T132.heap K26 _ .int (16 : Int32) [(.int p0), (.int p1), (.int p0), (.int p1), (.int p0), (.int p1), (.int p0), (.int p1), (.int p0), (.int p1), (.int p0), (.int p1), (.int p0), (.int p1), (.int p0), (.int p1)] (.int (0 : Int32)) := IAK132
  refine OwnK.aload X132 hx (hb hby at_65) (pc' := 67) rfl (v := (.ref a1)) rfl rfl ?_
  refine OwnK.aload X132 hx (hb hby at_67) (pc' := 69) rfl (v := (.ref a12)) rfl rfl ?_
  refine OwnK.callV_ X132 hx hZ hown (y := (⟨"com/example/strict_reach/strictreach/IntList", "addAll", "(Lcom/example/strict_reach/strictreach/IntList;)V"⟩ : MethodName)) (z := (⟨"com/example/strict_reach/strictreach/IntList", "addAll", "(Lcom/example/strict_reach/strictreach/IntList;)V"⟩ : MethodName)) (a := a1) (hw _ (List.mem_of_getElem? (i := 27) rfl)) (hw _ (List.mem_of_getElem? (i := 28) rfl)) (notFace_of_selects (args := #[]) (mvT hZ (hw _ (List.mem_of_getElem? (i := 30) rfl)))) (hw _ (List.mem_of_getElem? (i := 30) rfl)) (hw _ (List.mem_of_getElem? (i := 29) rfl)) (hw _ (List.mem_of_getElem? (i := 31) rfl)) (hw _ (List.mem_of_getElem? (i := 2) rfl)) (by decide) f134 (own_all_10_16 l Z a0 hw T132.heap n0 z144 a1 a12 B5 K5 B26 K26 _ _ _ _ p0 p1 p0 p1 p0 p1 p0 p1 p0 p1 p0 p1 p0 p1 p0 p1 p0 p1 p0 p1 p0 p1 p0 p1 p0 p1  ge_a1 ⟨f134, f140, f141, f142, f143, f135, f136, IO118, IaB118, IaK118, IBK118⟩ ⟨IE132, IS132, IB132, IAB132, f145, IEB132, IEK132, IO132, IaB132, IaK132, IBK132⟩ ge_B5 ge_K5 q15 ⟨q30, q34, q13, q28, q32, q14, q29, q33⟩ ) (by decide) (W := 0) (by decide) rfl (by rw [hml]; rfl) own_pd_7 (argsL := [(.ref a12)]) rfl (S := []) rfl (Nat.le_of_eq rfl) (hb hby at_69) (pc' := 72) rfl (by decide) (by decide) (fun T146 v146 L146 X146 hQ146 => ?_)
  obtain ⟨K146r, kr146, rfl, N146q, Kp146, hr146, hL146⟩ := hQ146
  have N147 := Fr.app N133 N146q
  have q148 : B26 ≠ K146r := Nat.ne_of_lt (Nat.lt_of_lt_of_le IEB132.lt hr146)
  have q149 : B5 ≠ K146r := Nat.ne_of_lt (Nat.lt_of_lt_of_le f135.lt hr146)
  have q150 : K26 ≠ K146r := Nat.ne_of_lt (Nat.lt_of_lt_of_le IEK132.lt hr146)
  have q151 : K5 ≠ K146r := Nat.ne_of_lt (Nat.lt_of_lt_of_le f136.lt hr146)
  have q152 : a1 ≠ K146r := Nat.ne_of_lt (Nat.lt_of_lt_of_le f134.lt hr146)
  have q153 : a12 ≠ K146r := Nat.ne_of_lt (Nat.lt_of_lt_of_le IE132.lt hr146)
  have ge_K146r : n0 ≤ K146r := Nat.le_trans z144 hr146
  have f154 := f134.keep Kp146
  have f155 := f135.keep Kp146
  have f156 := f136.keep Kp146
  have f157 := IE132.keep Kp146
  have f158 := IEB132.keep Kp146
  have f159 := IEK132.keep Kp146
  have f160 := IS132.keep Kp146 (ninS (Ne.symm q15) (ninS (Ne.symm q13) (ninS (Ne.symm q14) nin0)))
  have f161 := IB132.keep Kp146 (ninS (Ne.symm q15) (ninS (Ne.symm q13) (ninS (Ne.symm q14) nin0)))
  have f162 := IAB132.keep Kp146 (ninS (Ne.symm q30) (ninS (Ne.symm q28) (ninS (Ne.symm q29) nin0)))
  have f163 := f145.keep Kp146 (ninS (Ne.symm q34) (ninS (Ne.symm q32) (ninS (Ne.symm q33) nin0)))
  have z164 : n0 ≤ T146.heap.size := Nat.le_trans z144 Kp146.1
  obtain ⟨IE146, IS146, IB146, IAB146, IAK146, IEB146, IEK146, IO146, IaB146, IaK146, IBK146⟩ := hL146
  have f165 : Arv Z T146.heap K146r _ .int (32 : Int32) [(.int p0), (.int p1), (.int p0), (.int p1), (.int p0), (.int p1), (.int p0), (.int p1), (.int p0), (.int p1), (.int p0), (.int p1), (.int p0), (.int p1), (.int p0), (.int p1), (.int p0), (.int p1), (.int p0), (.int p1), (.int p0), (.int p1), (.int p0), (.int p1), (.int p0), (.int p1), (.int (0 : Int32)), (.int (0 : Int32)), (.int (0 : Int32)), (.int (0 : Int32)), (.int (0 : Int32)), (.int (0 : Int32))] (.int (0 : Int32)) := IAK146
  refine OwnK.iload X146 hx (hb hby at_72) (pc' := 74) rfl (v := p4) rfl ?_
  refine OwnK.ldcI X146 hx hZ hown (hw _ (List.mem_of_getElem? (i := 46) rfl)) (hb hby at_74) (pc' := 76) rfl ?_
  refine OwnK.iand X146 hx (hb hby at_76) (pc' := 77) rfl ?_
  refine OwnK.bipush X146 hx (hb hby at_77) (pc' := 79) rfl (v := (26 : Int32)) (by decide) ?_
  refine OwnK.irem X146 hx (hb hby at_79) (pc' := 80) rfl (by decide) ?_
  refine OwnK.istoreG X146 hx (hb hby at_80) (pc' := 82) rfl (Ls' := fun u => #[.val (.int p0), .val (.int p1), .val (.int p2), .val (.int p3), .val (.int p4), .val (.ref a1), .val (.ref a12), .val (.int u), .unset, .unset]) (fun u => rfl) (fun u166 (hu166 : u166 = ((p4 &&& (2147483647 : Int32)) % (26 : Int32))) => ?_)
  have b_u166 : 0 ≤ u166.toInt ∧ u166.toInt < 26 := by rw [hu166]; exact own_m26 _
  have b1_u166 : u166.toInt = ((u166.toInt.toNat : Nat) : Int) := by omega
  refine OwnK.iloadN X146 hx (hb hby at_82) (pc' := 83) rfl (v := p3) rfl ?_
  refine OwnK.ldcI X146 hx hZ hown (hw _ (List.mem_of_getElem? (i := 46) rfl)) (hb hby at_83) (pc' := 85) rfl ?_
  refine OwnK.iand X146 hx (hb hby at_85) (pc' := 86) rfl ?_
  refine OwnK.bipush X146 hx (hb hby at_86) (pc' := 88) rfl (v := (26 : Int32)) (by decide) ?_
  refine OwnK.irem X146 hx (hb hby at_88) (pc' := 89) rfl (by decide) ?_
  refine OwnK.istoreG X146 hx (hb hby at_89) (pc' := 91) rfl (Ls' := fun u => #[.val (.int p0), .val (.int p1), .val (.int p2), .val (.int p3), .val (.int p4), .val (.ref a1), .val (.ref a12), .val (.int u166), .val (.int u), .unset]) (fun u => rfl) (fun u167 (hu167 : u167 = ((p3 &&& (2147483647 : Int32)) % (26 : Int32))) => ?_)
  have b_u167 : 0 ≤ u167.toInt ∧ u167.toInt < 26 := by rw [hu167]; exact own_m26 _
  have b1_u167 : u167.toInt = ((u167.toInt.toNat : Nat) : Int) := by omega
  refine OwnK.aload X146 hx (hb hby at_91) (pc' := 93) rfl (v := (.ref a1)) rfl rfl ?_
  refine OwnK.iload X146 hx (hb hby at_93) (pc' := 95) rfl (v := u166) rfl ?_
  refine OwnK.iloadN X146 hx (hb hby at_95) (pc' := 96) rfl (v := p2) rfl ?_
  refine OwnK.callV_ X146 hx hZ hown (y := (⟨"com/example/strict_reach/strictreach/IntList", "set", "(II)V"⟩ : MethodName)) (z := (⟨"com/example/strict_reach/strictreach/IntList", "set", "(II)V"⟩ : MethodName)) (a := a1) (hw _ (List.mem_of_getElem? (i := 47) rfl)) (hw _ (List.mem_of_getElem? (i := 48) rfl)) (notFace_of_selects (args := #[]) (mvT hZ (hw _ (List.mem_of_getElem? (i := 50) rfl)))) (hw _ (List.mem_of_getElem? (i := 50) rfl)) (hw _ (List.mem_of_getElem? (i := 49) rfl)) (hw _ (List.mem_of_getElem? (i := 51) rfl)) (hw _ (List.mem_of_getElem? (i := 2) rfl)) (by decide) IE146 (own_met8 l Z a0 hw T146.heap n0 z164 a1 u166 p2 B5 K146r _ _ (26 : Int32) (32 : Int32) _ u166.toInt.toNat ge_a1 ⟨IE146, IS146, IB146, IAB146, f165, IEB146, IEK146, IO146, IaB146, IaK146, IBK146⟩ ge_K146r b1_u166 (by show _ < (26 : Int) ∧ (26 : Int) ≤ 32 ∧ (32 : Int) ≤ 4096; omega) (by show _ < 32; omega)) (by decide) (W := 0) (by decide) rfl (by rw [hml]; rfl) own_pd_5 (argsL := [(.int u166), (.int p2)]) rfl (S := []) rfl (Nat.le_of_eq rfl) (hb hby at_96) (pc' := 99) rfl (by decide) (by decide) (fun T168 v168 L168 X168 hQ168 => ?_)
  obtain ⟨rfl, N168q, Kp168, hL168⟩ := hQ168
  have N169 := Fr.app N147 N168q
  have f170 := IE146.keep Kp168
  have f171 := IEB146.keep Kp168
  have f172 := f157.keep Kp168
  have f173 := f158.keep Kp168
  have f174 := f159.keep Kp168
  have f175 := f160.keep Kp168 (ninS (Ne.symm q15) (ninS q153 nin0))
  have f176 := f161.keep Kp168 (ninS (Ne.symm q15) (ninS q153 nin0))
  have f177 := f162.keep Kp168 (ninS (Ne.symm q30) (ninS q148 nin0))
  have f178 := f163.keep Kp168 (ninS (Ne.symm q34) (ninS q150 nin0))
  have f179 := IAB146.keep Kp168 (ninS (Ne.symm IaB146) (ninS IBK146 nin0))
  have f180 := IEK146.keep Kp168
  have z181 : n0 ≤ T168.heap.size := Nat.le_trans z164 Kp168.1
  obtain ⟨IE168, IS168, IB168, IAB168, IAK168, IEB168, IEK168, IO168, IaB168, IaK168, IBK168⟩ := hL168
  refine OwnK.iload X168 hx (hb hby at_99) (pc' := 101) rfl (v := u167) rfl ?_
  refine OwnK.iload X168 hx (hb hby at_101) (pc' := 103) rfl (v := u166) rfl ?_
  refine OwnK.icmp_ne X168 hx (hb hby at_103) (by decide) (pcT := 112) (by decide) (pc' := 106) rfl (fun (hc182 : ¬ u167.toInt = u166.toInt) => ?_) (fun (hc182 : u167.toInt = u166.toInt) => ?_)
  · refine OwnK.iload X168 hx (hb hby at_112) (pc' := 114) rfl (v := u167) rfl ?_
    refine OwnK.iconst X168 hx (hb hby at_114) (pc' := 115) rfl (v := (1 : Int32)) (by decide) ?_
    refine OwnK.iand X168 hx (hb hby at_115) (pc' := 116) rfl ?_
    refine OwnK.if_ne X168 hx (hb hby at_116) (by decide) (pcT := 125) (by decide) (pc' := 119) rfl (fun (hc183 : ¬ (u167 &&& (1 : Int32)).toInt = 0) => ?_) (fun (hc183 : (u167 &&& (1 : Int32)).toInt = 0) => ?_)
    · refine OwnK.iloadN X168 hx (hb hby at_125) (pc' := 126) rfl (v := p1) rfl ?_
      refine OwnK.istore X168 hx (hb hby at_126) (pc' := 128) rfl (Ls' := #[.val (.int p0), .val (.int p1), .val (.int p2), .val (.int p3), .val (.int p4), .val (.ref a1), .val (.ref a12), .val (.int u166), .val (.int u167), .val (.int p1)]) rfl ?_
      have hpar := own_par u167
      refine OwnK.aload X168 hx (hb hby at_128) (pc' := 130) rfl (v := (.ref a1)) rfl rfl ?_
      refine OwnK.iload X168 hx (hb hby at_130) (pc' := 132) rfl (v := u167) rfl ?_
      refine OwnK.callV_ X168 hx hZ hown (y := (⟨"com/example/strict_reach/strictreach/IntList", "get", "(I)I"⟩ : MethodName)) (z := (⟨"com/example/strict_reach/strictreach/IntList", "get", "(I)I"⟩ : MethodName)) (a := a1) (hw _ (List.mem_of_getElem? (i := 60) rfl)) (hw _ (List.mem_of_getElem? (i := 61) rfl)) (notFace_of_selects (args := #[]) (mvT hZ (hw _ (List.mem_of_getElem? (i := 63) rfl)))) (hw _ (List.mem_of_getElem? (i := 63) rfl)) (hw _ (List.mem_of_getElem? (i := 62) rfl)) (hw _ (List.mem_of_getElem? (i := 64) rfl)) (hw _ (List.mem_of_getElem? (i := 2) rfl)) (by decide) IE168 (own_met11 l Z a0 hw T168.heap a1 u167 B5 K146r _ _ (26 : Int32) (32 : Int32) _ u167.toInt.toNat (own_v u167.toInt.toNat u166.toInt.toNat p0 p1 p2) ⟨IE168, IS168, IB168, IAB168, IAK168, IEB168, IEK168, IO168, IaB168, IaK168, IBK168⟩ b1_u167 (by show _ < (26 : Int) ∧ (26 : Int) ≤ 32 ∧ (32 : Int) ≤ 4096; omega) (own_get _ _ _ (by omega) (by omega))) (by decide) (W := 0) (by decide) rfl (by rw [hml]; rfl) own_pd_2 (argsL := [(.int u167)]) rfl (S := []) rfl (Nat.le_of_eq rfl) (hb hby at_132) (pc' := 135) rfl (by decide) (by decide) (fun T184 v184 L184 X184 hQ184 => ?_)
      obtain ⟨rfl, e184, rfl⟩ := hQ184
      have N185 := Fr.app N169 (Fr.nil n0)
      refine OwnK.iload X184 hx (hb hby at_135) (pc' := 137) rfl (v := p1) rfl ?_
      refine OwnK.icmp_ne X184 hx (hb hby at_137) (by decide) (pcT := 144) (by decide) (pc' := 140) rfl (fun (hc137 : ¬ (own_v u167.toInt.toNat u166.toInt.toNat p0 p1 p2).toInt = p1.toInt) => absurd (congrArg Int32.toInt (own_vy (by omega))) hc137) (fun hc137 => ?_)
      refine OwnK.iconst X184 hx (hb hby at_140) (pc' := 141) rfl (v := (1 : Int32)) (by decide) ?_
      refine OwnK.goto_ X184 hx (hb hby at_141) (by decide) (pc' := 145) (by decide) ?_
      refine OwnK.retN_ X184 hx hret (by simp) hlk (hb hby at_145) (by decide) (by decide) ?_
      exact ⟨rfl, N185⟩
    · refine OwnK.iloadN X168 hx (hb hby at_119) (pc' := 120) rfl (v := p0) rfl ?_
      refine OwnK.istore X168 hx (hb hby at_120) (pc' := 122) rfl (Ls' := #[.val (.int p0), .val (.int p1), .val (.int p2), .val (.int p3), .val (.int p4), .val (.ref a1), .val (.ref a12), .val (.int u166), .val (.int u167), .val (.int p0)]) rfl ?_
      refine OwnK.goto_ X168 hx (hb hby at_122) (by decide) (pc' := 128) (by decide) ?_
      have hpar := own_par u167
      refine OwnK.aload X168 hx (hb hby at_128) (pc' := 130) rfl (v := (.ref a1)) rfl rfl ?_
      refine OwnK.iload X168 hx (hb hby at_130) (pc' := 132) rfl (v := u167) rfl ?_
      refine OwnK.callV_ X168 hx hZ hown (y := (⟨"com/example/strict_reach/strictreach/IntList", "get", "(I)I"⟩ : MethodName)) (z := (⟨"com/example/strict_reach/strictreach/IntList", "get", "(I)I"⟩ : MethodName)) (a := a1) (hw _ (List.mem_of_getElem? (i := 60) rfl)) (hw _ (List.mem_of_getElem? (i := 61) rfl)) (notFace_of_selects (args := #[]) (mvT hZ (hw _ (List.mem_of_getElem? (i := 63) rfl)))) (hw _ (List.mem_of_getElem? (i := 63) rfl)) (hw _ (List.mem_of_getElem? (i := 62) rfl)) (hw _ (List.mem_of_getElem? (i := 64) rfl)) (hw _ (List.mem_of_getElem? (i := 2) rfl)) (by decide) IE168 (own_met11 l Z a0 hw T168.heap a1 u167 B5 K146r _ _ (26 : Int32) (32 : Int32) _ u167.toInt.toNat (own_v u167.toInt.toNat u166.toInt.toNat p0 p1 p2) ⟨IE168, IS168, IB168, IAB168, IAK168, IEB168, IEK168, IO168, IaB168, IaK168, IBK168⟩ b1_u167 (by show _ < (26 : Int) ∧ (26 : Int) ≤ 32 ∧ (32 : Int) ≤ 4096; omega) (own_get _ _ _ (by omega) (by omega))) (by decide) (W := 0) (by decide) rfl (by rw [hml]; rfl) own_pd_2 (argsL := [(.int u167)]) rfl (S := []) rfl (Nat.le_of_eq rfl) (hb hby at_132) (pc' := 135) rfl (by decide) (by decide) (fun T186 v186 L186 X186 hQ186 => ?_)
      obtain ⟨rfl, e186, rfl⟩ := hQ186
      have N187 := Fr.app N169 (Fr.nil n0)
      refine OwnK.iload X186 hx (hb hby at_135) (pc' := 137) rfl (v := p0) rfl ?_
      refine OwnK.icmp_ne X186 hx (hb hby at_137) (by decide) (pcT := 144) (by decide) (pc' := 140) rfl (fun (hc137 : ¬ (own_v u167.toInt.toNat u166.toInt.toNat p0 p1 p2).toInt = p0.toInt) => absurd (congrArg Int32.toInt (own_vx (by omega))) hc137) (fun hc137 => ?_)
      refine OwnK.iconst X186 hx (hb hby at_140) (pc' := 141) rfl (v := (1 : Int32)) (by decide) ?_
      refine OwnK.goto_ X186 hx (hb hby at_141) (by decide) (pc' := 145) (by decide) ?_
      refine OwnK.retN_ X186 hx hret (by simp) hlk (hb hby at_145) (by decide) (by decide) ?_
      exact ⟨rfl, N187⟩
  · refine OwnK.iloadN X168 hx (hb hby at_106) (pc' := 107) rfl (v := p2) rfl ?_
    refine OwnK.istore X168 hx (hb hby at_107) (pc' := 109) rfl (Ls' := #[.val (.int p0), .val (.int p1), .val (.int p2), .val (.int p3), .val (.int p4), .val (.ref a1), .val (.ref a12), .val (.int u166), .val (.int u167), .val (.int p2)]) rfl ?_
    refine OwnK.goto_ X168 hx (hb hby at_109) (by decide) (pc' := 128) (by decide) ?_
    refine OwnK.aload X168 hx (hb hby at_128) (pc' := 130) rfl (v := (.ref a1)) rfl rfl ?_
    refine OwnK.iload X168 hx (hb hby at_130) (pc' := 132) rfl (v := u167) rfl ?_
    refine OwnK.callV_ X168 hx hZ hown (y := (⟨"com/example/strict_reach/strictreach/IntList", "get", "(I)I"⟩ : MethodName)) (z := (⟨"com/example/strict_reach/strictreach/IntList", "get", "(I)I"⟩ : MethodName)) (a := a1) (hw _ (List.mem_of_getElem? (i := 60) rfl)) (hw _ (List.mem_of_getElem? (i := 61) rfl)) (notFace_of_selects (args := #[]) (mvT hZ (hw _ (List.mem_of_getElem? (i := 63) rfl)))) (hw _ (List.mem_of_getElem? (i := 63) rfl)) (hw _ (List.mem_of_getElem? (i := 62) rfl)) (hw _ (List.mem_of_getElem? (i := 64) rfl)) (hw _ (List.mem_of_getElem? (i := 2) rfl)) (by decide) IE168 (own_met11 l Z a0 hw T168.heap a1 u167 B5 K146r _ _ (26 : Int32) (32 : Int32) _ u167.toInt.toNat (own_v u167.toInt.toNat u166.toInt.toNat p0 p1 p2) ⟨IE168, IS168, IB168, IAB168, IAK168, IEB168, IEK168, IO168, IaB168, IaK168, IBK168⟩ b1_u167 (by show _ < (26 : Int) ∧ (26 : Int) ≤ 32 ∧ (32 : Int) ≤ 4096; omega) (own_get _ _ _ (by omega) (by omega))) (by decide) (W := 0) (by decide) rfl (by rw [hml]; rfl) own_pd_2 (argsL := [(.int u167)]) rfl (S := []) rfl (Nat.le_of_eq rfl) (hb hby at_132) (pc' := 135) rfl (by decide) (by decide) (fun T188 v188 L188 X188 hQ188 => ?_)
    obtain ⟨rfl, e188, rfl⟩ := hQ188
    have N189 := Fr.app N169 (Fr.nil n0)
    refine OwnK.iload X188 hx (hb hby at_135) (pc' := 137) rfl (v := p2) rfl ?_
    refine OwnK.icmp_ne X188 hx (hb hby at_137) (by decide) (pcT := 144) (by decide) (pc' := 140) rfl (fun (hc137 : ¬ (own_v u167.toInt.toNat u166.toInt.toNat p0 p1 p2).toInt = p2.toInt) => absurd (congrArg Int32.toInt (own_vz (by omega))) hc137) (fun hc137 => ?_)
    refine OwnK.iconst X188 hx (hb hby at_140) (pc' := 141) rfl (v := (1 : Int32)) (by decide) ?_
    refine OwnK.goto_ X188 hx (hb hby at_141) (by decide) (pc' := 145) (by decide) ?_
    refine OwnK.retN_ X188 hx hret (by simp) hlk (hb hby at_145) (by decide) (by decide) ?_
    exact ⟨rfl, N189⟩
set_option maxRecDepth 65536 in
set_option maxHeartbeats 40000000 in
theorem comes_1 {Post : Tables → Env → Array Value → State → Outcome → State → Prop} (hpost : ∀ tb e args s v u, (limb_1_1.after args s (.returned v) u = true ∧ limb_1_2.after args s (.returned v) u = true ∧ True) → FrameEnd s (.returned v) u (Jvm.fieldLocs frame_1_writes args s ++ Jvm.arrayLocs frame_1_arrays args s ++ Jvm.staticLocs frame_1_statics s) 24 256 → Post tb e args s (.returned v) u) :
    ArmFor flags0 classFile x code maxLocals ret World_1 tables_1 room_1 Calls_1 rest_1 Pre_1 Post := by
  intro l hfl _ _ p e ha hc hk s m args below hf hA hF happ hP
  obtain ⟨hcalls, hrest, hpre⟩ := hP
  obtain ⟨-, -, -, hnamed, -, -, -, hat⟩ := (Spec.applies_iff hf).mp happ
  obtain ⟨hg, hn⟩ := and_e (Cond.before_iff.mp (show (Jvm.Cond.and given_1 narrow_1).before args s = true from hpre))
  obtain ⟨hcnt, hg0⟩ := and_e hg
  obtain ⟨ha0, hg1⟩ := and_e hg0
  obtain ⟨ha1, hg2⟩ := and_e hg1
  obtain ⟨ha2, hg3⟩ := and_e hg2
  obtain ⟨ha3, hg4⟩ := and_e hg3
  have ha4 := hg4
  obtain ⟨w0, w1, w2, w3, w4, rfl⟩ : ∃ w0 w1 w2 w3 w4 : Value, args = #[w0, w1, w2, w3, w4] := by
    have hs : args.size = 5 := by simpa [Cond.value, given_1] using hcnt
    obtain ⟨L⟩ := args
    match L, hs with
    | [w0, w1, w2, w3, w4], _ => exact ⟨w0, w1, w2, w3, w4, rfl⟩
  have hw := fun d (hd : d ∈ tables_1) => atoms_spec (ws := Jvm.Cond.code x code maxLocals ret :: tables_1) hat d (List.mem_cons_of_mem _ hd)
  have hfit : Fit s := fun {y c} hc i hi => by
    obtain ⟨ha, rfl⟩ := Array.getElem?_eq_some_iff.mp hc
    have q := List.all_eq_true.mp ((Array.all_eq_true_iff_forall_mem.mp hF) _ (Array.getElem_mem ha)) i (List.mem_range.mpr hi)
    simpa [Array.getElem?_eq_getElem hi] using q
  obtain ⟨i0, e0⟩ := is_v ha0
  obtain rfl : w0 = (.int i0) := Option.some.inj e0
  obtain ⟨i1, e1⟩ := is_v ha1
  obtain rfl : w1 = (.int i1) := Option.some.inj e1
  obtain ⟨i2, e2⟩ := is_v ha2
  obtain rfl : w2 = (.int i2) := Option.some.inj e2
  obtain ⟨i3, e3⟩ := is_v ha3
  obtain rfl : w3 = (.int i3) := Option.some.inj e3
  obtain ⟨i4, e4⟩ := is_v ha4
  obtain rfl : w4 = (.int i4) := Option.some.inj e4
  obtain ⟨n, o, h1, h2, h3, _, L, rfl, ⟨rfl, N⟩, hq⟩ := own_law l s _ hw tables_1 s.heap s.heap.size (Nat.le_refl _) i0 i1 i2 i3 i4  p e ha hc hk s m _ below hf ((Spec.applies_iff_loose hf).mp happ).1 ⟨rfl, State.Warmed39.refl s, rfl⟩ trivial
  refine ⟨n, _, h1, h2, h3, hpost _ _ _ _ _ _ ⟨Cond.after_iff.mpr rfl, Cond.after_iff.mpr (eq_i res_at (Term.int_eval (1)) rfl), trivial⟩ ⟨hq.1, hq.2.1, (hq.2.2.sift fun y hy => Or.inr (N y hy)).mono (by decide) (by decide)⟩⟩
theorem main_1_1 : Claimed_1_1 := comes_1 fun _ _ _ _ _ _ h hF => ⟨h.1, hF⟩
theorem main_1_2 : Claimed_1_2 := comes_1 fun _ _ _ _ _ _ h hF => ⟨h.2.1, hF⟩
end Jvm.Pilot.@@N@@
namespace Jvm.Pilot.@@N@@
open Jvm Jvm.ClassFile Sem Op Lib Jvm.Free Jvm.Stand Jvm.Pilot.@@N@@.Jvm.D
/-! MADE BY PROGRAM (witnessworld.py) out of the Statement's table words and the real class files: 14 classes; the members and pool entries that the words name. The judged class is class 1, her method 1. -/
namespace start1
open Jvm.ClassFile
def u (s : String) : CpInfo := .utf8 (stringToUtf16 s)
/-- a pool by its gaps: so many unusable entries, then the entry; so many at the end -/
def gap : Nat → List CpInfo → List CpInfo
  | 0, r => r
  | n + 1, r => .unusable :: gap n r
def poolList (es : List (Nat × CpInfo)) (last : Nat) : List CpInfo := es.foldr (fun e r => gap e.1 (e.2 :: r)) (gap last [])
def pool (es : List (Nat × CpInfo)) (last : Nat) : Array CpInfo := ⟨poolList es last⟩
def fileOf (pool : Array CpInfo) (this : Nat) (attrs : Array Attribute := #[]) (ms : Array MethodInfo := #[]) (fl : Nat := 33) (sup : Nat := 0) (ifs : Array Nat := #[]) (fds : Array FieldInfo := #[]) : ClassFile where
  minorVersion := 0
  majorVersion := 65
  constantPool := pool
  accessFlags := fl
  thisClass := this
  superClass := sup
  interfaces := ifs
  fields := fds
  methods := ms
  attributes := attrs
def plain (name : String) (sup : Option ClassId) : Class where
  name := name
  kind := .ordinary
  loader := none
  accessFlags := 33
  super := sup
  interfaces := #[]
  cf := none
  fields := #[]
  methods := #[]
  instanceTypes := #[]
  staticTypes := #[]
  resolved := #[]
  callSites := []
  init := .initialized
  statics := none
  mirror := none

def pool0 : Array CpInfo := pool [(5, u "<init>"), (0, u "()V"), (1, .class_ 10), (1, u "java/lang/Object")] 113

def k0c0 : Code := { maxStack := 0, maxLocals := 1, code := object_method_1_code, exceptionTable := #[], attributes := #[] }
def k0m0 : Method := { name := "<init>", desc := "()V", sig := { parameters := [], returnType := none }, accessFlags := 1, code := some k0c0 }
/-- java/lang/Object -/
def k0 : Class := { plain "java/lang/Object" none with
  accessFlags := 33
  interfaces := #[]
  cf := some (fileOf pool0 8 #[] #[{ accessFlags := 1, nameIndex := 5, descriptorIndex := 6, attributes := #[] }] 33 0 #[] #[])
  fields := #[]
  methods := #[k0m0]
  instanceTypes := #[]
  staticTypes := #[]
  resolved := Array.replicate 124 none
  statics := none }

def pool1 : Array CpInfo := pool [(2, .class_ 4), (0, .nameAndType 5 6), (0, u "java/lang/Object"), (0, u "<init>"), (0, u "()V"), (0, .class_ 8), (0, u "com/example/strict_reach/strictreach/IntList"), (0, .methodref 7 3), (0, .methodref 7 11), (0, .nameAndType 12 13), (0, u "add"), (0, u "(I)V"), (0, .methodref 7 15), (0, .nameAndType 16 17), (0, u "addAll"), (0, u "(Lcom/example/strict_reach/strictreach/IntList;)V"), (0, .integer 2147483647), (0, .methodref 7 20), (0, .nameAndType 21 22), (0, u "set"), (0, u "(II)V"), (0, .methodref 7 24), (0, .nameAndType 25 26), (0, u "get"), (0, u "(I)I"), (0, .class_ 28), (0, u "com/example/strict_reach/strictreach/IntListGetPinLaw"), (2, u "law"), (0, u "(IIIII)Z")] 3

def k1m0 : Method := { name := "<init>", desc := "()V", sig := { parameters := [], returnType := none }, accessFlags := 1, code := none }
def k1c1 : Code := { maxStack := 3, maxLocals := 10, code := code, exceptionTable := #[], attributes := #[] }
def k1m1 : Method := { name := "law", desc := "(IIIII)Z", sig := { parameters := [.int, .int, .int, .int, .int], returnType := some .boolean }, accessFlags := 9, code := some k1c1 }
/-- com/example/strict_reach/strictreach/IntListGetPinLaw -/
def k1 : Class := { plain "com/example/strict_reach/strictreach/IntListGetPinLaw" (some 0) with
  accessFlags := 49
  interfaces := #[]
  cf := some (fileOf pool1 27 #[] #[{ accessFlags := 1, nameIndex := 5, descriptorIndex := 6, attributes := #[] }, { accessFlags := 9, nameIndex := 31, descriptorIndex := 32, attributes := #[] }] 49 2 #[] #[])
  fields := #[]
  methods := #[k1m0, k1m1]
  instanceTypes := #[]
  staticTypes := #[]
  resolved := Array.replicate 36 none
  statics := none }

def pool2 : Array CpInfo := pool [(1, .class_ 2), (0, u "com/example/strict_reach/strictreach/IntList"), (0, .methodref 4 5), (0, .class_ 6), (0, .nameAndType 7 8), (0, u "java/lang/Object"), (0, u "<init>"), (0, u "()V"), (0, .class_ 10), (0, u "[I"), (0, .fieldref 1 12), (0, .nameAndType 13 14), (0, u "blocks"), (0, u "[[I"), (0, .methodref 1 16), (0, .nameAndType 17 18), (0, u "room"), (0, u "()[I"), (0, .fieldref 1 20), (0, .nameAndType 21 22), (0, u "size"), (0, u "I"), (0, .methodref 24 25), (0, .class_ 26), (0, .nameAndType 27 28), (0, u "java/lang/Math"), (0, u "min"), (0, u "(II)I"), (0, .methodref 30 31), (0, .class_ 32), (0, .nameAndType 33 34), (0, u "java/lang/System"), (0, u "arraycopy"), (0, u "(Ljava/lang/Object;ILjava/lang/Object;II)V"), (0, .methodref 36 37), (0, .class_ 38), (0, .nameAndType 39 28), (0, u "java/util/Objects"), (0, u "checkIndex"), (2, .integer 2147483647), (8, .class_ 53), (1, u "java/util/Arrays"), (0, u "copyOf"), (2, .methodref 51 58), (0, .nameAndType 54 59), (0, u "([II)[I"), (0, u "BLOCK_BITS"), (2, u "BLOCK_SIZE"), (1, u "OFFSET_MASK"), (1, u "FIRST_CAPACITY"), (3, u "add"), (0, u "(I)V"), (0, u "addAll"), (0, u "(Lcom/example/strict_reach/strictreach/IntList;)V"), (1, u "get"), (0, u "(I)I"), (0, u "set"), (0, u "(II)V")] 5

def k2c0 : Code := { maxStack := 5, maxLocals := 1, code := prog_9_method_1_code, exceptionTable := #[], attributes := #[] }
def k2m0 : Method := { name := "<init>", desc := "()V", sig := { parameters := [], returnType := none }, accessFlags := 0, code := some k2c0 }
def k2c1 : Code := { maxStack := 3, maxLocals := 2, code := prog_9_method_2_code, exceptionTable := #[], attributes := #[] }
def k2m1 : Method := { name := "add", desc := "(I)V", sig := { parameters := [.int], returnType := none }, accessFlags := 0, code := some k2c1 }
def k2c2 : Code := { maxStack := 5, maxLocals := 8, code := prog_9_method_3_code, exceptionTable := #[], attributes := #[] }
def k2m2 : Method := { name := "addAll", desc := "(Lcom/example/strict_reach/strictreach/IntList;)V", sig := { parameters := [(.object "com/example/strict_reach/strictreach/IntList")], returnType := none }, accessFlags := 0, code := some k2c2 }
def k2c3 : Code := { maxStack := 3, maxLocals := 2, code := prog_9_method_4_code, exceptionTable := #[], attributes := #[] }
def k2m3 : Method := { name := "get", desc := "(I)I", sig := { parameters := [.int], returnType := some .int }, accessFlags := 0, code := some k2c3 }
def k2c4 : Code := { maxStack := 3, maxLocals := 3, code := prog_9_method_5_code, exceptionTable := #[], attributes := #[] }
def k2m4 : Method := { name := "set", desc := "(II)V", sig := { parameters := [.int, .int], returnType := none }, accessFlags := 0, code := some k2c4 }
def k2c5 : Code := { maxStack := 4, maxLocals := 3, code := prog_9_method_9_code, exceptionTable := #[], attributes := #[] }
def k2m5 : Method := { name := "room", desc := "()[I", sig := { parameters := [], returnType := some (.array .int) }, accessFlags := 2, code := some k2c5 }
/-- com/example/strict_reach/strictreach/IntList -/
def k2 : Class := { plain "com/example/strict_reach/strictreach/IntList" (some 0) with
  accessFlags := 32
  interfaces := #[]
  cf := some (fileOf pool2 1 #[] #[{ accessFlags := 0, nameIndex := 7, descriptorIndex := 8, attributes := #[] }, { accessFlags := 0, nameIndex := 71, descriptorIndex := 72, attributes := #[] }, { accessFlags := 0, nameIndex := 73, descriptorIndex := 74, attributes := #[] }, { accessFlags := 0, nameIndex := 76, descriptorIndex := 77, attributes := #[] }, { accessFlags := 0, nameIndex := 78, descriptorIndex := 79, attributes := #[] }, { accessFlags := 2, nameIndex := 17, descriptorIndex := 18, attributes := #[] }] 32 4 #[] #[{ accessFlags := 26, nameIndex := 60, descriptorIndex := 22, attributes := #[] }, { accessFlags := 26, nameIndex := 63, descriptorIndex := 22, attributes := #[] }, { accessFlags := 26, nameIndex := 65, descriptorIndex := 22, attributes := #[] }, { accessFlags := 26, nameIndex := 67, descriptorIndex := 22, attributes := #[] }, { accessFlags := 2, nameIndex := 13, descriptorIndex := 14, attributes := #[] }, { accessFlags := 2, nameIndex := 21, descriptorIndex := 22, attributes := #[] }])
  fields := #[{ name := "BLOCK_BITS", type := .int, accessFlags := 26, slot := 0, constantValue := 0 }, { name := "BLOCK_SIZE", type := .int, accessFlags := 26, slot := 1, constantValue := 0 }, { name := "OFFSET_MASK", type := .int, accessFlags := 26, slot := 2, constantValue := 0 }, { name := "FIRST_CAPACITY", type := .int, accessFlags := 26, slot := 3, constantValue := 0 }, { name := "blocks", type := (.array (.array .int)), accessFlags := 2, slot := 0, constantValue := 0 }, { name := "size", type := .int, accessFlags := 2, slot := 1, constantValue := 0 }]
  methods := #[k2m0, k2m1, k2m2, k2m3, k2m4, k2m5]
  instanceTypes := #[(.array (.array .int)), .int]
  staticTypes := #[.int, .int, .int, .int]
  resolved := Array.replicate 85 none
  statics := none }

def pool3 : Array CpInfo := pool [(1, .class_ 2), (0, u "java/lang/Math"), (1, .class_ 6), (1, u "java/lang/Object"), (0, u "<init>"), (0, u "()V"), (89, .class_ 100), (1, u "java/lang/Math$RandomNumberGeneratorHolder"), (71, u "negativeZeroFloatBits"), (0, u "J"), (2, u "negativeZeroDoubleBits"), (24, u "min"), (43, u "$assertionsDisabled"), (0, u "Z"), (88, u "(II)I"), (2, u "twoToTheDoubleScaleDown"), (0, u "D"), (4, u "twoToTheDoubleScaleUp"), (9, u "E"), (3, u "PI"), (2, u "TAU"), (2, u "DEGREES_TO_RADIANS"), (0, u "RADIANS_TO_DEGREES")] 94

def k3m0 : Method := { name := "<init>", desc := "()V", sig := { parameters := [], returnType := none }, accessFlags := 2, code := none }
def k3c1 : Code := { maxStack := 2, maxLocals := 2, code := jdk_29_method_69_code, exceptionTable := #[], attributes := #[] }
def k3m1 : Method := { name := "min", desc := "(II)I", sig := { parameters := [.int, .int], returnType := some .int }, accessFlags := 9, code := some k3c1 }
/-- java/lang/Math -/
def k3 : Class := { plain "java/lang/Math" (some 0) with
  accessFlags := 49
  interfaces := #[]
  cf := some (fileOf pool3 1 #[.nestMembers #[98]] #[{ accessFlags := 2, nameIndex := 7, descriptorIndex := 8, attributes := #[] }, { accessFlags := 9, nameIndex := 201, descriptorIndex := 335, attributes := #[] }] 49 4 #[] #[{ accessFlags := 25, nameIndex := 354, descriptorIndex := 339, attributes := #[] }, { accessFlags := 25, nameIndex := 358, descriptorIndex := 339, attributes := #[] }, { accessFlags := 25, nameIndex := 361, descriptorIndex := 339, attributes := #[] }, { accessFlags := 26, nameIndex := 364, descriptorIndex := 339, attributes := #[] }, { accessFlags := 26, nameIndex := 365, descriptorIndex := 339, attributes := #[] }, { accessFlags := 26, nameIndex := 172, descriptorIndex := 173, attributes := #[] }, { accessFlags := 26, nameIndex := 176, descriptorIndex := 173, attributes := #[] }, { accessFlags := 8, nameIndex := 344, descriptorIndex := 339, attributes := #[] }, { accessFlags := 8, nameIndex := 338, descriptorIndex := 339, attributes := #[] }, { accessFlags := 4120, nameIndex := 245, descriptorIndex := 246, attributes := #[] }])
  fields := #[{ name := "E", type := .double, accessFlags := 25, slot := 0, constantValue := 0 }, { name := "PI", type := .double, accessFlags := 25, slot := 1, constantValue := 0 }, { name := "TAU", type := .double, accessFlags := 25, slot := 2, constantValue := 0 }, { name := "DEGREES_TO_RADIANS", type := .double, accessFlags := 26, slot := 3, constantValue := 0 }, { name := "RADIANS_TO_DEGREES", type := .double, accessFlags := 26, slot := 4, constantValue := 0 }, { name := "negativeZeroFloatBits", type := .long, accessFlags := 26, slot := 5, constantValue := 0 }, { name := "negativeZeroDoubleBits", type := .long, accessFlags := 26, slot := 6, constantValue := 0 }, { name := "twoToTheDoubleScaleUp", type := .double, accessFlags := 8, slot := 7, constantValue := 0 }, { name := "twoToTheDoubleScaleDown", type := .double, accessFlags := 8, slot := 8, constantValue := 0 }, { name := "$assertionsDisabled", type := .boolean, accessFlags := 4120, slot := 9, constantValue := 0 }]
  methods := #[k3m0, k3m1]
  instanceTypes := #[]
  staticTypes := #[.double, .double, .double, .double, .double, .long, .long, .double, .double, .boolean]
  resolved := Array.replicate 460 none
  statics := none }

def pool4 : Array CpInfo := pool [(2, .class_ 4), (1, u "java/lang/Object"), (0, u "<init>"), (0, u "()V"), (1, .class_ 10), (1, u "java/lang/System"), (0, u "allowSecurityManager"), (0, u "I"), (16, u "cons"), (0, u "Ljava/io/Console;"), (77, .class_ 110), (1, u "java/lang/System$CallersHolder"), (43, u "initialErrStream"), (0, u "Ljava/io/PrintStream;"), (19, u "security"), (0, u "Ljava/lang/SecurityManager;"), (31, .class_ 209), (0, u "java/lang/System$1"), (7, u "props"), (0, u "Ljava/util/Properties;"), (2, u "lineSeparator"), (0, u "Ljava/lang/String;"), (96, .class_ 321), (1, u "java/lang/System$LoggerFinder"), (5, .class_ 328), (0, u "java/lang/System$Logger"), (67, u "err"), (2, u "out"), (91, u "notSupportedJnuEncoding"), (15, u "in"), (17, u "initialIn"), (0, u "Ljava/io/InputStream;"), (35, u "bootLayer"), (0, u "Ljava/lang/ModuleLayer;"), (99, .class_ 664), (0, u "java/lang/System$2"), (9, u "NEVER"), (2, u "MAYBE"), (49, u "arraycopy"), (0, u "(Ljava/lang/Object;ILjava/lang/Object;II)V"), (72, .class_ 802), (0, u "java/lang/System$Logger$Level")] 31

def k4m0 : Method := { name := "<init>", desc := "()V", sig := { parameters := [], returnType := none }, accessFlags := 2, code := none }
def k4m1 : Method := { name := "arraycopy", desc := "(Ljava/lang/Object;ILjava/lang/Object;II)V", sig := { parameters := [(.object "java/lang/Object"), .int, (.object "java/lang/Object"), .int, .int], returnType := none }, accessFlags := 265, code := none }
/-- java/lang/System -/
def k4 : Class := { plain "java/lang/System" (some 0) with
  accessFlags := 49
  interfaces := #[]
  cf := some (fileOf pool4 8 #[.nestMembers #[319, 327, 801, 108, 663, 208]] #[{ accessFlags := 2, nameIndex := 5, descriptorIndex := 6, attributes := #[] }, { accessFlags := 265, nameIndex := 727, descriptorIndex := 728, attributes := #[] }] 49 2 #[] #[{ accessFlags := 25, nameIndex := 507, descriptorIndex := 526, attributes := #[] }, { accessFlags := 25, nameIndex := 399, descriptorIndex := 155, attributes := #[] }, { accessFlags := 25, nameIndex := 396, descriptorIndex := 155, attributes := #[] }, { accessFlags := 10, nameIndex := 525, descriptorIndex := 526, attributes := #[] }, { accessFlags := 26, nameIndex := 674, descriptorIndex := 12, attributes := #[] }, { accessFlags := 26, nameIndex := 677, descriptorIndex := 12, attributes := #[] }, { accessFlags := 10, nameIndex := 11, descriptorIndex := 12, attributes := #[] }, { accessFlags := 74, nameIndex := 175, descriptorIndex := 176, attributes := #[] }, { accessFlags := 10, nameIndex := 491, descriptorIndex := 222, attributes := #[] }, { accessFlags := 74, nameIndex := 29, descriptorIndex := 30, attributes := #[] }, { accessFlags := 74, nameIndex := 154, descriptorIndex := 155, attributes := #[] }, { accessFlags := 10, nameIndex := 217, descriptorIndex := 218, attributes := #[] }, { accessFlags := 10, nameIndex := 221, descriptorIndex := 222, attributes := #[] }, { accessFlags := 8, nameIndex := 562, descriptorIndex := 563, attributes := #[] }])
  fields := #[{ name := "in", type := (.object "java/io/InputStream"), accessFlags := 25, slot := 0, constantValue := 0 }, { name := "out", type := (.object "java/io/PrintStream"), accessFlags := 25, slot := 1, constantValue := 0 }, { name := "err", type := (.object "java/io/PrintStream"), accessFlags := 25, slot := 2, constantValue := 0 }, { name := "initialIn", type := (.object "java/io/InputStream"), accessFlags := 10, slot := 3, constantValue := 0 }, { name := "NEVER", type := .int, accessFlags := 26, slot := 4, constantValue := 0 }, { name := "MAYBE", type := .int, accessFlags := 26, slot := 5, constantValue := 0 }, { name := "allowSecurityManager", type := .int, accessFlags := 10, slot := 6, constantValue := 0 }, { name := "security", type := (.object "java/lang/SecurityManager"), accessFlags := 74, slot := 7, constantValue := 0 }, { name := "notSupportedJnuEncoding", type := (.object "java/lang/String"), accessFlags := 10, slot := 8, constantValue := 0 }, { name := "cons", type := (.object "java/io/Console"), accessFlags := 74, slot := 9, constantValue := 0 }, { name := "initialErrStream", type := (.object "java/io/PrintStream"), accessFlags := 74, slot := 10, constantValue := 0 }, { name := "props", type := (.object "java/util/Properties"), accessFlags := 10, slot := 11, constantValue := 0 }, { name := "lineSeparator", type := (.object "java/lang/String"), accessFlags := 10, slot := 12, constantValue := 0 }, { name := "bootLayer", type := (.object "java/lang/ModuleLayer"), accessFlags := 8, slot := 13, constantValue := 0 }]
  methods := #[k4m0, k4m1]
  instanceTypes := #[]
  staticTypes := #[(.object "java/io/InputStream"), (.object "java/io/PrintStream"), (.object "java/io/PrintStream"), (.object "java/io/InputStream"), .int, .int, .int, (.object "java/lang/SecurityManager"), (.object "java/lang/String"), (.object "java/io/Console"), (.object "java/io/PrintStream"), (.object "java/util/Properties"), (.object "java/lang/String"), (.object "java/lang/ModuleLayer")]
  resolved := Array.replicate 834 none
  statics := none }

def pool5 : Array CpInfo := pool [(2, .class_ 4), (1, u "java/lang/Object"), (0, u "<init>"), (0, u "()V"), (7, .class_ 16), (1, u "java/util/Arrays"), (57, .class_ 76), (1, u "java/util/Arrays$NaturalOrder"), (36, .class_ 115), (1, u "java/util/Arrays$LegacyMergeSort"), (1, u "Z"), (32, .methodref 151 152), (0, .class_ 153), (0, .nameAndType 154 155), (0, u "java/lang/System"), (0, u "arraycopy"), (0, u "(Ljava/lang/Object;ILjava/lang/Object;II)V"), (146, u "copyOf"), (1, .methodref 305 306), (0, .class_ 307), (0, .nameAndType 308 309), (0, u "java/lang/Math"), (0, u "min"), (0, u "(II)I"), (65, .class_ 376), (0, u "java/util/Arrays$ArrayList"), (68, u "$assertionsDisabled"), (269, u "MIN_ARRAY_SORT_GRAN"), (0, u "I"), (2, u "INSERTIONSORT_THRESHOLD"), (151, u "([II)[I"), (103, .class_ 976), (0, u "java/util/Arrays$ArrayItr")] 52

def k5m0 : Method := { name := "<init>", desc := "()V", sig := { parameters := [], returnType := none }, accessFlags := 2, code := none }
def k5c1 : Code := { maxStack := 6, maxLocals := 3, code := jdk_65_method_123_code, exceptionTable := #[], attributes := #[] }
def k5m1 : Method := { name := "copyOf", desc := "([II)[I", sig := { parameters := [(.array .int), .int], returnType := some (.array .int) }, accessFlags := 9, code := some k5c1 }
/-- java/util/Arrays -/
def k5 : Class := { plain "java/util/Arrays" (some 0) with
  accessFlags := 49
  interfaces := #[]
  cf := some (fileOf pool5 14 #[.nestMembers #[975, 375, 113, 74]] #[{ accessFlags := 2, nameIndex := 5, descriptorIndex := 6, attributes := #[] }, { accessFlags := 9, nameIndex := 302, descriptorIndex := 871, attributes := #[] }] 49 2 #[] #[{ accessFlags := 26, nameIndex := 715, descriptorIndex := 716, attributes := #[] }, { accessFlags := 26, nameIndex := 719, descriptorIndex := 716, attributes := #[] }, { accessFlags := 4120, nameIndex := 445, descriptorIndex := 117, attributes := #[] }])
  fields := #[{ name := "MIN_ARRAY_SORT_GRAN", type := .int, accessFlags := 26, slot := 0, constantValue := 0 }, { name := "INSERTIONSORT_THRESHOLD", type := .int, accessFlags := 26, slot := 1, constantValue := 0 }, { name := "$assertionsDisabled", type := .boolean, accessFlags := 4120, slot := 2, constantValue := 0 }]
  methods := #[k5m0, k5m1]
  instanceTypes := #[]
  staticTypes := #[.int, .int, .boolean]
  resolved := Array.replicate 1029 none
  statics := none }

def pool6 : Array CpInfo := pool [(2, .class_ 4), (1, u "java/lang/Object"), (0, u "<init>"), (0, u "()V"), (35, .class_ 44), (1, u "java/util/Objects"), (60, .methodref 106 107), (0, .class_ 108), (0, .nameAndType 109 110), (0, u "jdk/internal/util/Preconditions"), (0, u "checkIndex"), (0, u "(IILjava/util/function/BiFunction;)I"), (60, u "(II)I")] 12

def k6m0 : Method := { name := "<init>", desc := "()V", sig := { parameters := [], returnType := none }, accessFlags := 2, code := none }
def k6c1 : Code := { maxStack := 3, maxLocals := 2, code := jdk_31_method_17_code, exceptionTable := #[], attributes := #[] }
def k6m1 : Method := { name := "checkIndex", desc := "(II)I", sig := { parameters := [.int, .int], returnType := some .int }, accessFlags := 9, code := some k6c1 }
/-- java/util/Objects -/
def k6 : Class := { plain "java/util/Objects" (some 0) with
  accessFlags := 49
  interfaces := #[]
  cf := some (fileOf pool6 42 #[] #[{ accessFlags := 2, nameIndex := 5, descriptorIndex := 6, attributes := #[] }, { accessFlags := 9, nameIndex := 109, descriptorIndex := 171, attributes := #[] }] 49 2 #[] #[])
  fields := #[]
  methods := #[k6m0, k6m1]
  instanceTypes := #[]
  staticTypes := #[]
  resolved := Array.replicate 184 none
  statics := none }

def pool7 : Array CpInfo := pool [(2, .class_ 4), (1, u "java/lang/Object"), (0, u "<init>"), (0, u "()V"), (17, .class_ 26), (1, u "jdk/internal/util/Preconditions"), (6, u "checkIndex"), (21, .class_ 56), (0, u "jdk/internal/util/Preconditions$4"), (57, .class_ 115), (0, u "jdk/internal/util/Preconditions$1"), (7, u "SIOOBE_FORMATTER"), (0, u "Ljava/util/function/BiFunction;"), (0, .class_ 126), (0, u "jdk/internal/util/Preconditions$2"), (3, u "AIOOBE_FORMATTER"), (0, .class_ 132), (0, u "jdk/internal/util/Preconditions$3"), (3, u "IOOBE_FORMATTER"), (41, u "(IILjava/util/function/BiFunction;)I")] 15

def k7m0 : Method := { name := "<init>", desc := "()V", sig := { parameters := [], returnType := none }, accessFlags := 1, code := none }
def k7c1 : Code := { maxStack := 3, maxLocals := 3, code := jdk_41_method_11_code, exceptionTable := #[], attributes := #[] }
def k7m1 : Method := { name := "checkIndex", desc := "(IILjava/util/function/BiFunction;)I", sig := { parameters := [.int, .int, (.object "java/util/function/BiFunction")], returnType := some .int }, accessFlags := 9, code := some k7c1 }
/-- jdk/internal/util/Preconditions -/
def k7 : Class := { plain "jdk/internal/util/Preconditions" (some 0) with
  accessFlags := 33
  interfaces := #[]
  cf := some (fileOf pool7 24 #[.nestMembers #[55, 131, 125, 114]] #[{ accessFlags := 1, nameIndex := 5, descriptorIndex := 6, attributes := #[] }, { accessFlags := 9, nameIndex := 33, descriptorIndex := 178, attributes := #[] }] 33 2 #[] #[{ accessFlags := 25, nameIndex := 123, descriptorIndex := 124, attributes := #[] }, { accessFlags := 25, nameIndex := 130, descriptorIndex := 124, attributes := #[] }, { accessFlags := 25, nameIndex := 136, descriptorIndex := 124, attributes := #[] }])
  fields := #[{ name := "SIOOBE_FORMATTER", type := (.object "java/util/function/BiFunction"), accessFlags := 25, slot := 0, constantValue := 0 }, { name := "AIOOBE_FORMATTER", type := (.object "java/util/function/BiFunction"), accessFlags := 25, slot := 1, constantValue := 0 }, { name := "IOOBE_FORMATTER", type := (.object "java/util/function/BiFunction"), accessFlags := 25, slot := 2, constantValue := 0 }]
  methods := #[k7m0, k7m1]
  instanceTypes := #[]
  staticTypes := #[(.object "java/util/function/BiFunction"), (.object "java/util/function/BiFunction"), (.object "java/util/function/BiFunction")]
  resolved := Array.replicate 194 none
  statics := none }

def pool8 : Array CpInfo := pool [(1, u "java/lang/Cloneable"), (0, .class_ 1), (0, u "java/lang/Object"), (0, .class_ 3)] 3

/-- java/lang/Cloneable -/
def k8 : Class := { plain "java/lang/Cloneable" (some 0) with
  accessFlags := 1537
  interfaces := #[]
  cf := some (fileOf pool8 2 #[] #[] 1537 4 #[] #[])
  fields := #[]
  methods := #[]
  instanceTypes := #[]
  staticTypes := #[]
  resolved := Array.replicate 8 none
  statics := none }

def pool9 : Array CpInfo := pool [(1, u "java/io/Serializable"), (0, .class_ 1), (0, u "java/lang/Object"), (0, .class_ 3)] 3

/-- java/io/Serializable -/
def k9 : Class := { plain "java/io/Serializable" (some 0) with
  accessFlags := 1537
  interfaces := #[]
  cf := some (fileOf pool9 2 #[] #[] 1537 4 #[] #[])
  fields := #[]
  methods := #[]
  instanceTypes := #[]
  staticTypes := #[]
  resolved := Array.replicate 8 none
  statics := none }

/-- the primitive byte -/
def k10 : Class := { plain "byte" none with kind := .primitive 'B', accessFlags := 0x411 }
/-- [B -/
def k11 : Class := { plain "[B" (some 0) with kind := .array 10 .byte, interfaces := #[8, 9], accessFlags := 1041 }

/-- the primitive int -/
def k12 : Class := { plain "int" none with kind := .primitive 'I', accessFlags := 0x411 }
/-- [I -/
def k13 : Class := { plain "[I" (some 0) with kind := .array 12 .int, interfaces := #[8, 9], accessFlags := 1041 }
/-- [[I -/
def k14 : Class := { plain "[[I" (some 0) with kind := .array 13 (.array .int), interfaces := #[8, 9], accessFlags := 1041 }

def heap : Heap := #[]
def classes : Array Class := #[k0, k1, k2, k3, k4, k5, k6, k7, k8, k9, k10, k11, k12, k13, k14]
def interned : List (Array UInt16 × Addr) := []
def slotsUsed : Nat := 0
def theMethod : MethodId := ⟨1, 1⟩
def args0 : Array Value := #[.int 5, .int 300, .int 7, .int 5, .int 6]
def aboutOver (below : List Frame) : State where
  vm := { classes := classes, interned := interned.toArray }
  heap := heap
  slotsUsed := slotsUsed
  threads := #[{ frames := .invoking theMethod args0 :: below }]
def below0 : List Frame := [.native { method := ⟨0, 0⟩, args := #[] }]
def about1 : State := aboutOver below0
def p0 : Program := .bare "" "" ""
def e0 : Env := launch0.env 0 0 0
theorem w_frames : about1.frames = Frame.invoking theMethod args0 :: below0 := rfl
set_option maxRecDepth 65536 in
theorem w_args : argsFit about1.vm theMethod args0 = true := by decide +kernel
set_option maxRecDepth 65536 in
theorem w_heap : heapFits about1 = true := by decide +kernel
set_option maxRecDepth 65536 in
theorem w_runnable : about1.curStatus? = some .runnable := by decide +kernel
set_option maxRecDepth 65536 in
theorem w_alone : about1.alone = true := by decide +kernel
set_option maxRecDepth 65536 in
theorem w_named : about1.methodNamed? x = some theMethod := by decide +kernel
set_option maxRecDepth 65536 in
theorem w_hears : about1.hears theMethod below0 = true := by decide +kernel
set_option maxRecDepth 65536 in
theorem w_ripe : about1.ripe theMethod args0 below0 = true := by decide +kernel
theorem w_running : about1.status = .running := rfl
set_option maxRecDepth 65536 in
theorem w_room : about1.hasRoom e0.platform room_1 = true :=
  launch0.hasRoom_least _ room_1 (by decide +kernel) (by decide +kernel) (by decide +kernel) (by decide +kernel) (by decide +kernel) (by decide +kernel)
theorem allAtoms_all (ts : List Jvm.Cond) (a : Array Jvm.Value) (st : Jvm.State) : (allAtoms ts).before a st = ts.all (fun c => c.before a st) := by
  induction ts with
  | nil => rfl
  | cons c t ih =>
    show (Jvm.Cond.and c (allAtoms t)).before a st = _
    rw [Jvm.Cond.before_and, ih, List.all_cons]
def words1 : List Jvm.Cond := Jvm.Cond.code x code maxLocals ret :: tables_1
/-- a 'code' word, met by the world's own term for the bytes: nothing is compared byte by byte -/
theorem code_word {y : MethodName} {bytes : ByteArray} {mx : Nat} {rt : Option FieldType} {a : Array Value} {s : State} {m : MethodId} {meth : Method} {c : Code} (h1 : s.methodNamed? y = some m) (h2 : s.vm.method? m = some meth) (h3 : meth.code = some c) (h4 : c.code = bytes)
    (h5 : (c.maxLocals == mx && c.exceptionTable.isEmpty && decide (c.maxStack ≤ mostOperands) && decide (meth.sig.returnType = rt) && !meth.locks && decide (parseMethodDescriptor y.desc = some meth.sig)) = true) : (Jvm.Cond.code y bytes mx rt).before a s = true := by
  simp only [Bool.and_eq_true, beq_iff_eq, Bool.not_eq_true', decide_eq_true_eq] at h5
  obtain ⟨⟨⟨⟨⟨g1, g2⟩, g3⟩, g4⟩, g5⟩, g6⟩ := h5
  simp [Cond.before, Cond.holds, Cond.value, h1, h2, h3, h4, g1, g2, g3, g4, g5, g6]
def isCode : Jvm.Cond → Bool
  | .code _ _ _ _ => true
  | _ => false
theorem all_split {L : List Jvm.Cond} {P : Jvm.Cond → Bool} (h1 : L.all (fun c => isCode c || P c) = true) (h2 : ∀ c ∈ L.filter isCode, P c = true) : L.all P = true := by
  refine List.all_eq_true.mpr fun c hc => ?_
  have h := List.all_eq_true.mp h1 c hc
  rcases Bool.eq_false_or_eq_true (isCode c) with hi | hi
  · exact h2 c (List.mem_filter.mpr ⟨hc, hi⟩)
  · simpa [hi] using h
set_option maxRecDepth 65536 in
theorem w_c0 : (Jvm.Cond.code x code maxLocals ret).before args0 about1 = true := code_word (m := ⟨1, 1⟩) (meth := k1m1) (c := k1c1) (by decide +kernel) rfl rfl rfl (by decide +kernel)
set_option maxRecDepth 65536 in
theorem w_c1 : (Jvm.Cond.code ({ cls := "com/example/strict_reach/strictreach/IntList", name := "<init>", desc := "()V" } : Jvm.MethodName) prog_9_method_1_code (1 : Nat) (Option.none : Option Jvm.ClassFile.FieldType)).before args0 about1 = true := code_word (m := ⟨2, 0⟩) (meth := k2m0) (c := k2c0) (by decide +kernel) rfl rfl rfl (by decide +kernel)
set_option maxRecDepth 65536 in
theorem w_c2 : (Jvm.Cond.code ({ cls := "java/lang/Object", name := "<init>", desc := "()V" } : Jvm.MethodName) object_method_1_code (1 : Nat) (Option.none : Option Jvm.ClassFile.FieldType)).before args0 about1 = true := code_word (m := ⟨0, 0⟩) (meth := k0m0) (c := k0c0) (by decide +kernel) rfl rfl rfl (by decide +kernel)
set_option maxRecDepth 65536 in
theorem w_c3 : (Jvm.Cond.code ({ cls := "com/example/strict_reach/strictreach/IntList", name := "add", desc := "(I)V" } : Jvm.MethodName) prog_9_method_2_code (2 : Nat) (Option.none : Option Jvm.ClassFile.FieldType)).before args0 about1 = true := code_word (m := ⟨2, 1⟩) (meth := k2m1) (c := k2c1) (by decide +kernel) rfl rfl rfl (by decide +kernel)
set_option maxRecDepth 65536 in
theorem w_c4 : (Jvm.Cond.code ({ cls := "com/example/strict_reach/strictreach/IntList", name := "room", desc := "()[I" } : Jvm.MethodName) prog_9_method_9_code (3 : Nat) (Option.some (Jvm.ClassFile.FieldType.array Jvm.ClassFile.FieldType.int))).before args0 about1 = true := code_word (m := ⟨2, 5⟩) (meth := k2m5) (c := k2c5) (by decide +kernel) rfl rfl rfl (by decide +kernel)
set_option maxRecDepth 65536 in
theorem w_c5 : (Jvm.Cond.code ({ cls := "com/example/strict_reach/strictreach/IntList", name := "addAll", desc := "(Lcom/example/strict_reach/strictreach/IntList;)V" } : Jvm.MethodName) prog_9_method_3_code (8 : Nat) (Option.none : Option Jvm.ClassFile.FieldType)).before args0 about1 = true := code_word (m := ⟨2, 2⟩) (meth := k2m2) (c := k2c2) (by decide +kernel) rfl rfl rfl (by decide +kernel)
set_option maxRecDepth 65536 in
theorem w_c6 : (Jvm.Cond.code ({ cls := "java/lang/Math", name := "min", desc := "(II)I" } : Jvm.MethodName) jdk_29_method_69_code (2 : Nat) (Option.some Jvm.ClassFile.FieldType.int)).before args0 about1 = true := code_word (m := ⟨3, 1⟩) (meth := k3m1) (c := k3c1) (by decide +kernel) rfl rfl rfl (by decide +kernel)
set_option maxRecDepth 65536 in
theorem w_c7 : (Jvm.Cond.code ({ cls := "java/util/Arrays", name := "copyOf", desc := "([II)[I" } : Jvm.MethodName) jdk_65_method_123_code (3 : Nat) (Option.some (Jvm.ClassFile.FieldType.array Jvm.ClassFile.FieldType.int))).before args0 about1 = true := code_word (m := ⟨5, 1⟩) (meth := k5m1) (c := k5c1) (by decide +kernel) rfl rfl rfl (by decide +kernel)
set_option maxRecDepth 65536 in
theorem w_c8 : (Jvm.Cond.code ({ cls := "com/example/strict_reach/strictreach/IntList", name := "set", desc := "(II)V" } : Jvm.MethodName) prog_9_method_5_code (3 : Nat) (Option.none : Option Jvm.ClassFile.FieldType)).before args0 about1 = true := code_word (m := ⟨2, 4⟩) (meth := k2m4) (c := k2c4) (by decide +kernel) rfl rfl rfl (by decide +kernel)
set_option maxRecDepth 65536 in
theorem w_c9 : (Jvm.Cond.code ({ cls := "java/util/Objects", name := "checkIndex", desc := "(II)I" } : Jvm.MethodName) jdk_31_method_17_code (2 : Nat) (Option.some Jvm.ClassFile.FieldType.int)).before args0 about1 = true := code_word (m := ⟨6, 1⟩) (meth := k6m1) (c := k6c1) (by decide +kernel) rfl rfl rfl (by decide +kernel)
set_option maxRecDepth 65536 in
theorem w_c10 : (Jvm.Cond.code ({ cls := "jdk/internal/util/Preconditions", name := "checkIndex", desc := "(IILjava/util/function/BiFunction;)I" } : Jvm.MethodName) jdk_41_method_11_code (3 : Nat) (Option.some Jvm.ClassFile.FieldType.int)).before args0 about1 = true := code_word (m := ⟨7, 1⟩) (meth := k7m1) (c := k7c1) (by decide +kernel) rfl rfl rfl (by decide +kernel)
set_option maxRecDepth 65536 in
theorem w_c11 : (Jvm.Cond.code ({ cls := "com/example/strict_reach/strictreach/IntList", name := "get", desc := "(I)I" } : Jvm.MethodName) prog_9_method_4_code (2 : Nat) (Option.some Jvm.ClassFile.FieldType.int)).before args0 about1 = true := code_word (m := ⟨2, 3⟩) (meth := k2m3) (c := k2c3) (by decide +kernel) rfl rfl rfl (by decide +kernel)
def codes1 : List Jvm.Cond := [Jvm.Cond.code x code maxLocals ret, Jvm.Cond.code ({ cls := "com/example/strict_reach/strictreach/IntList", name := "<init>", desc := "()V" } : Jvm.MethodName) prog_9_method_1_code (1 : Nat) (Option.none : Option Jvm.ClassFile.FieldType), Jvm.Cond.code ({ cls := "java/lang/Object", name := "<init>", desc := "()V" } : Jvm.MethodName) object_method_1_code (1 : Nat) (Option.none : Option Jvm.ClassFile.FieldType), Jvm.Cond.code ({ cls := "com/example/strict_reach/strictreach/IntList", name := "add", desc := "(I)V" } : Jvm.MethodName) prog_9_method_2_code (2 : Nat) (Option.none : Option Jvm.ClassFile.FieldType), Jvm.Cond.code ({ cls := "com/example/strict_reach/strictreach/IntList", name := "room", desc := "()[I" } : Jvm.MethodName) prog_9_method_9_code (3 : Nat) (Option.some (Jvm.ClassFile.FieldType.array Jvm.ClassFile.FieldType.int)), Jvm.Cond.code ({ cls := "com/example/strict_reach/strictreach/IntList", name := "addAll", desc := "(Lcom/example/strict_reach/strictreach/IntList;)V" } : Jvm.MethodName) prog_9_method_3_code (8 : Nat) (Option.none : Option Jvm.ClassFile.FieldType), Jvm.Cond.code ({ cls := "java/lang/Math", name := "min", desc := "(II)I" } : Jvm.MethodName) jdk_29_method_69_code (2 : Nat) (Option.some Jvm.ClassFile.FieldType.int), Jvm.Cond.code ({ cls := "java/util/Arrays", name := "copyOf", desc := "([II)[I" } : Jvm.MethodName) jdk_65_method_123_code (3 : Nat) (Option.some (Jvm.ClassFile.FieldType.array Jvm.ClassFile.FieldType.int)), Jvm.Cond.code ({ cls := "com/example/strict_reach/strictreach/IntList", name := "set", desc := "(II)V" } : Jvm.MethodName) prog_9_method_5_code (3 : Nat) (Option.none : Option Jvm.ClassFile.FieldType), Jvm.Cond.code ({ cls := "java/util/Objects", name := "checkIndex", desc := "(II)I" } : Jvm.MethodName) jdk_31_method_17_code (2 : Nat) (Option.some Jvm.ClassFile.FieldType.int), Jvm.Cond.code ({ cls := "jdk/internal/util/Preconditions", name := "checkIndex", desc := "(IILjava/util/function/BiFunction;)I" } : Jvm.MethodName) jdk_41_method_11_code (3 : Nat) (Option.some Jvm.ClassFile.FieldType.int), Jvm.Cond.code ({ cls := "com/example/strict_reach/strictreach/IntList", name := "get", desc := "(I)I" } : Jvm.MethodName) prog_9_method_4_code (2 : Nat) (Option.some Jvm.ClassFile.FieldType.int)]
set_option maxRecDepth 65536 in
theorem codes_eq : words1.filter isCode = codes1 := rfl
theorem w_codes : ∀ c ∈ words1.filter isCode, c.before args0 about1 = true := by
  rw [codes_eq]
  intro c hc
  simp only [codes1, List.mem_cons, List.not_mem_nil, or_false] at hc
  rcases hc with rfl | rfl | rfl | rfl | rfl | rfl | rfl | rfl | rfl | rfl | rfl | rfl
  · exact w_c0
  · exact w_c1
  · exact w_c2
  · exact w_c3
  · exact w_c4
  · exact w_c5
  · exact w_c6
  · exact w_c7
  · exact w_c8
  · exact w_c9
  · exact w_c10
  · exact w_c11
set_option maxRecDepth 65536 in
theorem w_t1 : (words1.take 24).all (fun c => isCode c || c.before args0 about1) = true := by decide +kernel
set_option maxRecDepth 65536 in
theorem w_t2 : ((words1.drop 24).take 24).all (fun c => isCode c || c.before args0 about1) = true := by decide +kernel
set_option maxRecDepth 65536 in
theorem w_t3 : ((words1.drop 24).drop 24).all (fun c => isCode c || c.before args0 about1) = true := by decide +kernel
theorem w_tables : (allAtoms (Jvm.Cond.code x code maxLocals ret :: tables_1)).before args0 about1 = true := by
  rw [allAtoms_all]
  show words1.all (fun c => c.before args0 about1) = true
  refine all_split ?_ w_codes
  rw [← List.take_append_drop 24 words1, List.all_append, w_t1, ← List.take_append_drop 24 (words1.drop 24), List.all_append, w_t2, w_t3]
  rfl
set_option maxRecDepth 65536 in
theorem w_case : (Jvm.Cond.and given_1 narrow_1).before args0 about1 = true := by decide +kernel
theorem w_applies : (headSpec (Jvm.Cond.code x code maxLocals ret :: tables_1) room_1).applies x e0.platform about1 = true :=
  (Spec.applies_iff w_frames).mpr ⟨w_running, w_runnable, w_alone, w_named, w_hears, w_ripe, w_room, w_tables⟩
theorem atStart : AtStart classFile x code maxLocals ret World_1 tables_1 room_1 Calls_1 rest_1 Pre_1 launch0 p0 e0 about1 theMethod args0 below0 :=
  ⟨lists_1, trivial, launch0.admits_env _ _ _, launch0.least_env, fairChoices_fair.cas, fairChoices_fair.clock, w_frames, w_args, w_heap, w_applies, trivial, trivial, w_case⟩
end start1
theorem witness_1 : WitnessClaimed_1 := ⟨start1.p0, start1.e0, start1.about1, start1.theMethod, start1.args0, start1.below0, start1.atStart⟩
end Jvm.Pilot.@@N@@
