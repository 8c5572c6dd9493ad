import JvmDerived
import JvmDerived.Pilot.@@N@@Statement
import JvmDerived.Pilot.@@N@@Code
set_option linter.unusedVariables false
set_option linter.unusedSimpArgs false
@@BLOCK:NumsL.lean.txt@@
namespace Jvm.OwnK
open Sem ClassFile Op Lib Jvm.Stand Jvm.Free Jvm.LawKit Jvm.RoadKit Bundle
/-- from the frame f at T the run ends, and P holds of its end -/
def Go (tb : Tables) (e : Env) (below : List Frame) (P : Outcome → State → Prop) (T : State) (f : JFrame) : Prop :=
  ∃ s₂ o, Steps tb e below (T.setTop f) s₂ ∧ s₂.status = .running ∧ Ended s₂ below o ∧ P o s₂
abbrev PQ (s : State) (Q : Option Value → Heap → List Loc → Prop) (C N : Nat) : Outcome → State → Prop := fun o U' => ∃ v L, o = .returned v ∧ Q v U'.heap L ∧ FrameEnd s o U' L C N
theorem Go.st {tb : Tables} {e : Env} {below : List Frame} {P : Outcome → State → Prop} {T T' : State} {f f' : JFrame} (h : ∀ t, Steps tb e below (T'.setTop f') t → Steps tb e below (T.setTop f) t) (k : Go tb e below P T' f') : Go tb e below P T f := by
  obtain ⟨s₂, o, h1, h2⟩ := k; exact ⟨s₂, o, h _ h1, h2⟩
theorem Go.st1 {tb : Tables} {e : Env} {below : List Frame} {P : Outcome → State → Prop} {T T' : State} {f f' : JFrame} (h : Steps tb e below (T.setTop f) (T'.setTop f')) (k : Go tb e below P T' f') : Go tb e below P T f :=
  Go.st (fun t q => h.trans q) k
theorem tI {x : Int32} {n : Int} (h : x.toInt = n) : x = Int32.ofInt n := by subst h; simp
section Steps
variable {p : Program} {l : Launch} {e : Env} {R : Room} {s : State} {m : MethodId} {args : Array Value} {below : List Frame} {meth : Method} {c : Code} {T : State} {locs : List Loc} {cells slots : Nat} {P : Outcome → State → Prop} {pc pc' : Nat} {Ls : Array Slot} {S : List Value} {Z : State} {a0 : Array Value} {h : Heap}
theorem iload (X : Stand p l e R s m args below meth c T locs cells slots) (hx : p.tables.exec = Jvm.exec) {j : Nat} {v : Int32} (hd : decode c.code pc = .ok (.iload j, 2)) (hp : pc' = pc + 2) (hl : Ls[j]? = some (.val (.int v)))
    (k : Go p.tables e below P T (mkF m pc' Ls (.int v :: S))) : Go p.tables e below P T (mkF m pc Ls (S)) := by
  subst hp; exact Go.st (fun t q => XS.iload X.here hx rfl hd  hl q) k
theorem iloadN (X : Stand p l e R s m args below meth c T locs cells slots) (hx : p.tables.exec = Jvm.exec) {j : Fin 4} {v : Int32} (hd : decode c.code pc = .ok (.iload_n j, 1)) (hp : pc' = pc + 1) (hl : Ls[j.val]? = some (.val (.int v)))
    (k : Go p.tables e below P T (mkF m pc' Ls (.int v :: S))) : Go p.tables e below P T (mkF m pc Ls (S)) := by
  subst hp; exact Go.st (fun t q => XS.iloadN X.here hx rfl hd  hl q) k
theorem lload (X : Stand p l e R s m args below meth c T locs cells slots) (hx : p.tables.exec = Jvm.exec) {j : Nat} {v : Int64} (hd : decode c.code pc = .ok (.lload j, 2)) (hp : pc' = pc + 2) (hl : Ls[j]? = some (.val (.long v)))
    (k : Go p.tables e below P T (mkF m pc' Ls (.long v :: S))) : Go p.tables e below P T (mkF m pc Ls (S)) := by
  subst hp; exact Go.st (fun t q => XT.lload X.here hx rfl hd  hl q) k
theorem lloadN (X : Stand p l e R s m args below meth c T locs cells slots) (hx : p.tables.exec = Jvm.exec) {j : Fin 4} {v : Int64} (hd : decode c.code pc = .ok (.lload_n j, 1)) (hp : pc' = pc + 1) (hl : Ls[j.val]? = some (.val (.long v)))
    (k : Go p.tables e below P T (mkF m pc' Ls (.long v :: S))) : Go p.tables e below P T (mkF m pc Ls (S)) := by
  subst hp; exact Go.st (fun t q => XT.lloadN X.here hx rfl hd  hl q) k
theorem aload (X : Stand p l e R s m args below meth c T locs cells slots) (hx : p.tables.exec = Jvm.exec) {j : Nat} {v : Value} (hd : decode c.code pc = .ok (.aload j, 2)) (hp : pc' = pc + 2) (hl : Ls[j]? = some (.val v)) (hv : v.isRef = true)
    (k : Go p.tables e below P T (mkF m pc' Ls (v :: S))) : Go p.tables e below P T (mkF m pc Ls (S)) := by
  subst hp; exact Go.st (fun t q => XS.aload X.here hx rfl hd  hl hv q) k
theorem aloadN (X : Stand p l e R s m args below meth c T locs cells slots) (hx : p.tables.exec = Jvm.exec) {j : Fin 4} {v : Value} (hd : decode c.code pc = .ok (.aload_n j, 1)) (hp : pc' = pc + 1) (hl : Ls[j.val]? = some (.val v)) (hv : v.isRef = true)
    (k : Go p.tables e below P T (mkF m pc' Ls (v :: S))) : Go p.tables e below P T (mkF m pc Ls (S)) := by
  subst hp; exact Go.st (fun t q => XS.aloadN X.here hx rfl hd  hl hv q) k
theorem istore (X : Stand p l e R s m args below meth c T locs cells slots) (hx : p.tables.exec = Jvm.exec) {j : Nat} {v : Int32} {Ls' : Array Slot} (hd : decode c.code pc = .ok (.istore j, 2)) (hp : pc' = pc + 2) (hl : storeLocals Ls j (.int v) = some Ls')
    (k : Go p.tables e below P T (mkF m pc' Ls' (S))) : Go p.tables e below P T (mkF m pc Ls (.int v :: S)) := by
  subst hp; exact Go.st (fun t q => XS.istore X.here hx rfl hd rfl hl q) k
theorem istoreN (X : Stand p l e R s m args below meth c T locs cells slots) (hx : p.tables.exec = Jvm.exec) {j : Fin 4} {v : Int32} {Ls' : Array Slot} (hd : decode c.code pc = .ok (.istore_n j, 1)) (hp : pc' = pc + 1) (hl : storeLocals Ls j.val (.int v) = some Ls')
    (k : Go p.tables e below P T (mkF m pc' Ls' (S))) : Go p.tables e below P T (mkF m pc Ls (.int v :: S)) := by
  subst hp; exact Go.st (fun t q => XS.istoreN X.here hx rfl hd rfl hl q) k
theorem lstoreN (X : Stand p l e R s m args below meth c T locs cells slots) (hx : p.tables.exec = Jvm.exec) {j : Fin 4} {v : Int64} {Ls' : Array Slot} (hd : decode c.code pc = .ok (.lstore_n j, 1)) (hp : pc' = pc + 1) (hl : storeLocals Ls j.val (.long v) = some Ls')
    (k : Go p.tables e below P T (mkF m pc' Ls' (S))) : Go p.tables e below P T (mkF m pc Ls (.long v :: S)) := by
  subst hp; exact Go.st (fun t q => XT.lstoreN X.here hx rfl hd rfl hl q) k
theorem astore (X : Stand p l e R s m args below meth c T locs cells slots) (hx : p.tables.exec = Jvm.exec) {j : Nat} {v : Value} {Ls' : Array Slot} (hd : decode c.code pc = .ok (.astore j, 2)) (hp : pc' = pc + 2) (hv : v.isRef = true) (hl : storeLocals Ls j v = some Ls')
    (k : Go p.tables e below P T (mkF m pc' Ls' (S))) : Go p.tables e below P T (mkF m pc Ls (v :: S)) := by
  subst hp; exact Go.st (fun t q => XS.astore X.here hx rfl hd rfl hv hl q) k
theorem astoreN (X : Stand p l e R s m args below meth c T locs cells slots) (hx : p.tables.exec = Jvm.exec) {j : Fin 4} {v : Value} {Ls' : Array Slot} (hd : decode c.code pc = .ok (.astore_n j, 1)) (hp : pc' = pc + 1) (hv : v.isRef = true) (hl : storeLocals Ls j.val v = some Ls')
    (k : Go p.tables e below P T (mkF m pc' Ls' (S))) : Go p.tables e below P T (mkF m pc Ls (v :: S)) := by
  subst hp; exact Go.st (fun t q => XS.astoreN X.here hx rfl hd rfl hv hl q) k
theorem istoreG (X : Stand p l e R s m args below meth c T locs cells slots) (hx : p.tables.exec = Jvm.exec) {j : Nat} {v : Int32} {Ls' : Int32 → Array Slot} (hd : decode c.code pc = .ok (.istore j, 2)) (hp : pc' = pc + 2) (hl : ∀ u, storeLocals Ls j (.int u) = some (Ls' u))
    (k : ∀ u, u = v → Go p.tables e below P T (mkF m pc' (Ls' u) (S))) : Go p.tables e below P T (mkF m pc Ls (.int v :: S)) := istore X hx hd hp (hl v) (k v rfl)
theorem iconst (X : Stand p l e R s m args below meth c T locs cells slots) (hx : p.tables.exec = Jvm.exec) {i : Int} {v : Int32} (hd : decode c.code pc = .ok (.iconst i, 1)) (hp : pc' = pc + 1) (hv : Int32.ofInt i = v)
    (k : Go p.tables e below P T (mkF m pc' Ls (.int v :: S))) : Go p.tables e below P T (mkF m pc Ls (S)) := by
  subst hp hv; exact Go.st (fun t q => XS.iconst X.here hx rfl hd q) k
theorem bipush (X : Stand p l e R s m args below meth c T locs cells slots) (hx : p.tables.exec = Jvm.exec) {i : Int} {v : Int32} (hd : decode c.code pc = .ok (.bipush i, 2)) (hp : pc' = pc + 2) (hv : (Int8.ofInt i).toInt32 = v)
    (k : Go p.tables e below P T (mkF m pc' Ls (.int v :: S))) : Go p.tables e below P T (mkF m pc Ls (S)) := by
  subst hp hv; exact Go.st (fun t q => XS.bipush X.here hx rfl hd q) k
theorem isub (X : Stand p l e R s m args below meth c T locs cells slots) (hx : p.tables.exec = Jvm.exec) {x y : Int32} (hd : decode c.code pc = .ok (.isub, 1)) (hp : pc' = pc + 1)
    (k : Go p.tables e below P T (mkF m pc' Ls (.int (x - y) :: S))) : Go p.tables e below P T (mkF m pc Ls (.int y :: .int x :: S)) := by
  subst hp; exact Go.st (fun t q => XS.isub X.here hx rfl hd rfl  q) k
theorem iand (X : Stand p l e R s m args below meth c T locs cells slots) (hx : p.tables.exec = Jvm.exec) {x y : Int32} (hd : decode c.code pc = .ok (.iand, 1)) (hp : pc' = pc + 1)
    (k : Go p.tables e below P T (mkF m pc' Ls (.int (x &&& y) :: S))) : Go p.tables e below P T (mkF m pc Ls (.int y :: .int x :: S)) := by
  subst hp; exact Go.st (fun t q => XS.iand X.here hx rfl hd rfl  q) k
theorem isubL (X : Stand p l e R s m args below meth c T locs cells slots) (hx : p.tables.exec = Jvm.exec) {x y z : Int32} (hd : decode c.code pc = .ok (.isub, 1)) (hp : pc' = pc + 1) (hz : (x - y) = z)
    (k : Go p.tables e below P T (mkF m pc' Ls (.int z :: S))) : Go p.tables e below P T (mkF m pc Ls (.int y :: .int x :: S)) := by
  subst hz; exact isub X hx hd hp k
theorem irem (X : Stand p l e R s m args below meth c T locs cells slots) (hx : p.tables.exec = Jvm.exec) {x y : Int32} (hd : decode c.code pc = .ok (.irem, 1)) (hp : pc' = pc + 1) (hy : y ≠ 0)
    (k : Go p.tables e below P T (mkF m pc' Ls (.int (x % y) :: S))) : Go p.tables e below P T (mkF m pc Ls (.int y :: .int x :: S)) := by
  subst hp; exact Go.st (fun t q => iremM X hx rfl hd rfl hy q) k
theorem dup (X : Stand p l e R s m args below meth c T locs cells slots) (hx : p.tables.exec = Jvm.exec) {x : Value} (hd : decode c.code pc = .ok (.dup, 1)) (hp : pc' = pc + 1) (hc : x.category = 1)
    (k : Go p.tables e below P T (mkF m pc' Ls (x :: x :: S))) : Go p.tables e below P T (mkF m pc Ls (x :: S)) := by
  subst hp; exact Go.st (fun t q => XS.dup X.here hx rfl hd rfl hc q) k
theorem iinc (X : Stand p l e R s m args below meth c T locs cells slots) (hx : p.tables.exec = Jvm.exec) {j : Nat} {i : Int} {x v : Int32} {Ls' : Array Slot} (hd : decode c.code pc = .ok (.iinc j i, 3)) (hp : pc' = pc + 3) (hv : Int32.ofInt i = v) (hl : Ls[j]? = some (.val (.int x))) (hl' : storeLocals Ls j (.int (x + v)) = some Ls')
    (k : Go p.tables e below P T (mkF m pc' Ls' (S))) : Go p.tables e below P T (mkF m pc Ls (S)) := by
  subst hp hv; exact Go.st (fun t q => XS.iinc X.here hx rfl hd hl hl' q) k
theorem iincL (X : Stand p l e R s m args below meth c T locs cells slots) (hx : p.tables.exec = Jvm.exec) {j : Nat} {i : Int} {x v : Int32} {Ls' : Array Slot} (hd : decode c.code pc = .ok (.iinc j i, 3)) (hp : pc' = pc + 3) (hl : Ls[j]? = some (.val (.int x))) (hv : x + Int32.ofInt i = v) (hl' : storeLocals Ls j (.int v) = some Ls')
    (k : Go p.tables e below P T (mkF m pc' Ls' (S))) : Go p.tables e below P T (mkF m pc Ls (S)) := by
  subst hv; exact iinc X hx hd hp rfl hl hl' k
theorem goto_ (X : Stand p l e R s m args below meth c T locs cells slots) (hx : p.tables.exec = Jvm.exec) {o : Int} (hd : decode c.code pc = .ok (.goto o, 3)) (ho : 0 ≤ (pc : Int) + o) (hp : ((pc : Int) + o).toNat = pc')
    (k : Go p.tables e below P T (mkF m pc' Ls (S))) : Go p.tables e below P T (mkF m pc Ls (S)) :=
  Go.st (fun t q => XS.goto X.here hx rfl rfl hd ho hp q) k
theorem h_ge (x y : Int32) : if_icmp.holds .ge x y = decide (y.toInt ≤ x.toInt) := by simp [if_icmp.holds, Int32.le_iff_toInt_le]
theorem h_gt (x y : Int32) : if_icmp.holds .gt x y = decide (y.toInt < x.toInt) := by simp [if_icmp.holds, Int32.lt_iff_toInt_lt]
theorem h_le (x y : Int32) : if_icmp.holds .le x y = decide (x.toInt ≤ y.toInt) := by simp [if_icmp.holds, Int32.le_iff_toInt_le]
theorem h_eq (x y : Int32) : if_icmp.holds .eq x y = decide (x.toInt = y.toInt) := by rw [Bool.eq_iff_iff]; simp [if_icmp.holds, Int32.toInt_inj]
theorem h_ne (x y : Int32) : if_icmp.holds .ne x y = decide (¬ x.toInt = y.toInt) := by rw [Bool.eq_iff_iff]; simp [if_icmp.holds, Int32.toInt_inj]
theorem z_any (cd : ClassFile.Cond) (x : Int32) : ifCond.holds cd x = if_icmp.holds cd x 0 := by cases cd <;> simp [ifCond.holds, if_icmp.holds]
theorem z0 : (0 : Int32).toInt = 0 := by decide
theorem icmp_ge (X : Stand p l e R s m args below meth c T locs cells slots) (hx : p.tables.exec = Jvm.exec) {o : Int} {x y : Int32} {pcT : Nat} (hd : decode c.code pc = .ok (.if_icmp .ge o, 3)) (ho : 0 ≤ (pc : Int) + o) (hT : ((pc : Int) + o).toNat = pcT) (hp : pc' = pc + 3)
    (kt : y.toInt ≤ x.toInt → Go p.tables e below P T (mkF m pcT Ls (S))) (kf : x.toInt < y.toInt → Go p.tables e below P T (mkF m pc' Ls (S))) : Go p.tables e below P T (mkF m pc Ls (.int y :: .int x :: S)) := by
  subst hp
  by_cases q : y.toInt ≤ x.toInt
  · exact Go.st (fun t r => XS.icmpYes X.here hx rfl rfl hd rfl (by rw [h_ge]; exact decide_eq_true q) ho hT r) (kt q)
  · exact Go.st (fun t r => XS.icmpNo X.here hx rfl hd rfl (by rw [h_ge]; exact decide_eq_false q) r) (kf (by omega))
theorem icmp_gt (X : Stand p l e R s m args below meth c T locs cells slots) (hx : p.tables.exec = Jvm.exec) {o : Int} {x y : Int32} {pcT : Nat} (hd : decode c.code pc = .ok (.if_icmp .gt o, 3)) (ho : 0 ≤ (pc : Int) + o) (hT : ((pc : Int) + o).toNat = pcT) (hp : pc' = pc + 3)
    (kt : y.toInt < x.toInt → Go p.tables e below P T (mkF m pcT Ls (S))) (kf : x.toInt ≤ y.toInt → Go p.tables e below P T (mkF m pc' Ls (S))) : Go p.tables e below P T (mkF m pc Ls (.int y :: .int x :: S)) := by
  subst hp
  by_cases q : y.toInt < x.toInt
  · exact Go.st (fun t r => XS.icmpYes X.here hx rfl rfl hd rfl (by rw [h_gt]; exact decide_eq_true q) ho hT r) (kt q)
  · exact Go.st (fun t r => XS.icmpNo X.here hx rfl hd rfl (by rw [h_gt]; exact decide_eq_false q) r) (kf (by omega))
theorem icmp_le (X : Stand p l e R s m args below meth c T locs cells slots) (hx : p.tables.exec = Jvm.exec) {o : Int} {x y : Int32} {pcT : Nat} (hd : decode c.code pc = .ok (.if_icmp .le o, 3)) (ho : 0 ≤ (pc : Int) + o) (hT : ((pc : Int) + o).toNat = pcT) (hp : pc' = pc + 3)
    (kt : x.toInt ≤ y.toInt → Go p.tables e below P T (mkF m pcT Ls (S))) (kf : y.toInt < x.toInt → Go p.tables e below P T (mkF m pc' Ls (S))) : Go p.tables e below P T (mkF m pc Ls (.int y :: .int x :: S)) := by
  subst hp
  by_cases q : x.toInt ≤ y.toInt
  · exact Go.st (fun t r => XS.icmpYes X.here hx rfl rfl hd rfl (by rw [h_le]; exact decide_eq_true q) ho hT r) (kt q)
  · exact Go.st (fun t r => XS.icmpNo X.here hx rfl hd rfl (by rw [h_le]; exact decide_eq_false q) r) (kf (by omega))
theorem if_le (X : Stand p l e R s m args below meth c T locs cells slots) (hx : p.tables.exec = Jvm.exec) {o : Int} {x : Int32} {pcT : Nat} (hd : decode c.code pc = .ok (.ifCond .le o, 3)) (ho : 0 ≤ (pc : Int) + o) (hT : ((pc : Int) + o).toNat = pcT) (hp : pc' = pc + 3)
    (kt : x.toInt ≤ 0 → Go p.tables e below P T (mkF m pcT Ls (S))) (kf : 0 < x.toInt → Go p.tables e below P T (mkF m pc' Ls (S))) : Go p.tables e below P T (mkF m pc Ls (.int x :: S)) := by
  subst hp
  by_cases q : x.toInt ≤ 0
  · exact Go.st (fun t r => XS.ifYes X.here hx rfl rfl hd rfl (by rw [z_any, h_le, z0]; exact decide_eq_true q) ho hT r) (kt q)
  · exact Go.st (fun t r => XS.ifNo X.here hx rfl hd rfl (by rw [z_any, h_le, z0]; exact decide_eq_false q) r) (kf (by omega))
theorem icmp_eq (X : Stand p l e R s m args below meth c T locs cells slots) (hx : p.tables.exec = Jvm.exec) {o : Int} {x y : Int32} {pcT : Nat} (hd : decode c.code pc = .ok (.if_icmp .eq o, 3)) (ho : 0 ≤ (pc : Int) + o) (hT : ((pc : Int) + o).toNat = pcT) (hp : pc' = pc + 3)
    (kt : x.toInt = y.toInt → Go p.tables e below P T (mkF m pcT Ls (S))) (kf : ¬ x.toInt = y.toInt → Go p.tables e below P T (mkF m pc' Ls (S))) : Go p.tables e below P T (mkF m pc Ls (.int y :: .int x :: S)) := by
  subst hp
  by_cases q : x.toInt = y.toInt
  · exact Go.st (fun t r => XS.icmpYes X.here hx rfl rfl hd rfl (by rw [h_eq]; exact decide_eq_true q) ho hT r) (kt q)
  · exact Go.st (fun t r => XS.icmpNo X.here hx rfl hd rfl (by rw [h_eq]; exact decide_eq_false q) r) (kf (by omega))
theorem if_eq (X : Stand p l e R s m args below meth c T locs cells slots) (hx : p.tables.exec = Jvm.exec) {o : Int} {x : Int32} {pcT : Nat} (hd : decode c.code pc = .ok (.ifCond .eq o, 3)) (ho : 0 ≤ (pc : Int) + o) (hT : ((pc : Int) + o).toNat = pcT) (hp : pc' = pc + 3)
    (kt : x.toInt = 0 → Go p.tables e below P T (mkF m pcT Ls (S))) (kf : ¬ x.toInt = 0 → Go p.tables e below P T (mkF m pc' Ls (S))) : Go p.tables e below P T (mkF m pc Ls (.int x :: S)) := by
  subst hp
  by_cases q : x.toInt = 0
  · exact Go.st (fun t r => XS.ifYes X.here hx rfl rfl hd rfl (by rw [z_any, h_eq, z0]; exact decide_eq_true q) ho hT r) (kt q)
  · exact Go.st (fun t r => XS.ifNo X.here hx rfl hd rfl (by rw [z_any, h_eq, z0]; exact decide_eq_false q) r) (kf (by omega))
theorem icmp_ne (X : Stand p l e R s m args below meth c T locs cells slots) (hx : p.tables.exec = Jvm.exec) {o : Int} {x y : Int32} {pcT : Nat} (hd : decode c.code pc = .ok (.if_icmp .ne o, 3)) (ho : 0 ≤ (pc : Int) + o) (hT : ((pc : Int) + o).toNat = pcT) (hp : pc' = pc + 3)
    (kt : ¬ x.toInt = y.toInt → Go p.tables e below P T (mkF m pcT Ls (S))) (kf : x.toInt = y.toInt → Go p.tables e below P T (mkF m pc' Ls (S))) : Go p.tables e below P T (mkF m pc Ls (.int y :: .int x :: S)) := by
  subst hp
  by_cases q : ¬ x.toInt = y.toInt
  · exact Go.st (fun t r => XS.icmpYes X.here hx rfl rfl hd rfl (by rw [h_ne]; exact decide_eq_true q) ho hT r) (kt q)
  · exact Go.st (fun t r => XS.icmpNo X.here hx rfl hd rfl (by rw [h_ne]; exact decide_eq_false q) r) (kf (by omega))
theorem if_ne (X : Stand p l e R s m args below meth c T locs cells slots) (hx : p.tables.exec = Jvm.exec) {o : Int} {x : Int32} {pcT : Nat} (hd : decode c.code pc = .ok (.ifCond .ne o, 3)) (ho : 0 ≤ (pc : Int) + o) (hT : ((pc : Int) + o).toNat = pcT) (hp : pc' = pc + 3)
    (kt : ¬ x.toInt = 0 → Go p.tables e below P T (mkF m pcT Ls (S))) (kf : x.toInt = 0 → Go p.tables e below P T (mkF m pc' Ls (S))) : Go p.tables e below P T (mkF m pc Ls (.int x :: S)) := by
  subst hp
  by_cases q : ¬ x.toInt = 0
  · exact Go.st (fun t r => XS.ifYes X.here hx rfl rfl hd rfl (by rw [z_any, h_ne, z0]; exact decide_eq_true q) ho hT r) (kt q)
  · exact Go.st (fun t r => XS.ifNo X.here hx rfl hd rfl (by rw [z_any, h_ne, z0]; exact decide_eq_false q) r) (kf (by omega))
theorem lcmp_lt (X : Stand p l e R s m args below meth c T locs cells slots) (hx : p.tables.exec = Jvm.exec) {o : Int} {x y : Int64} {pc1 pcT : Nat} (hd0 : decode c.code pc = .ok (.lcmp, 1)) (hp1 : pc1 = pc + 1) (hd : decode c.code pc1 = .ok (.ifCond .lt o, 3)) (ho : 0 ≤ (pc1 : Int) + o) (hT : ((pc1 : Int) + o).toNat = pcT) (hp : pc' = pc1 + 3)
    (kt : x.toInt < y.toInt → Go p.tables e below P T (mkF m pcT Ls (S))) (kf : y.toInt ≤ x.toInt → Go p.tables e below P T (mkF m pc' Ls (S))) : Go p.tables e below P T (mkF m pc Ls (.long y :: .long x :: S)) := by
  subst hp
  subst hp1
  refine Go.st (fun t r => XT.lcmp X.here hx rfl hd0 rfl r) ?_
  by_cases q : x.toInt < y.toInt
  · exact Go.st (fun t r => XS.ifYes X.here hx rfl rfl hd rfl (XT.ll_lt_t (Int64.lt_iff_toInt_lt.mpr q)) ho hT r) (kt q)
  · exact Go.st (fun t r => XS.ifNo X.here hx rfl hd rfl (XT.ll_lt_f (fun z => q (Int64.lt_iff_toInt_lt.mp z))) r) (kf (by omega))
theorem lcmp_le (X : Stand p l e R s m args below meth c T locs cells slots) (hx : p.tables.exec = Jvm.exec) {o : Int} {x y : Int64} {pc1 pcT : Nat} (hd0 : decode c.code pc = .ok (.lcmp, 1)) (hp1 : pc1 = pc + 1) (hd : decode c.code pc1 = .ok (.ifCond .le o, 3)) (ho : 0 ≤ (pc1 : Int) + o) (hT : ((pc1 : Int) + o).toNat = pcT) (hp : pc' = pc1 + 3)
    (kt : x.toInt ≤ y.toInt → Go p.tables e below P T (mkF m pcT Ls (S))) (kf : y.toInt < x.toInt → Go p.tables e below P T (mkF m pc' Ls (S))) : Go p.tables e below P T (mkF m pc Ls (.long y :: .long x :: S)) := by
  subst hp
  subst hp1
  refine Go.st (fun t r => XT.lcmp X.here hx rfl hd0 rfl r) ?_
  by_cases q : x.toInt ≤ y.toInt
  · exact Go.st (fun t r => XS.ifYes X.here hx rfl rfl hd rfl (XT.ll_le_t (fun z => by have := Int64.lt_iff_toInt_lt.mp z; omega)) ho hT r) (kt q)
  · exact Go.st (fun t r => XS.ifNo X.here hx rfl hd rfl (XT.ll_le_f (Int64.lt_iff_toInt_lt.mpr (by omega))) r) (kf (by omega))
theorem lcmp_eq (X : Stand p l e R s m args below meth c T locs cells slots) (hx : p.tables.exec = Jvm.exec) {o : Int} {x y : Int64} {pc1 pcT : Nat} (hd0 : decode c.code pc = .ok (.lcmp, 1)) (hp1 : pc1 = pc + 1) (hd : decode c.code pc1 = .ok (.ifCond .eq o, 3)) (ho : 0 ≤ (pc1 : Int) + o) (hT : ((pc1 : Int) + o).toNat = pcT) (hp : pc' = pc1 + 3)
    (kt : x.toInt = y.toInt → Go p.tables e below P T (mkF m pcT Ls (S))) (kf : ¬ x.toInt = y.toInt → Go p.tables e below P T (mkF m pc' Ls (S))) : Go p.tables e below P T (mkF m pc Ls (.long y :: .long x :: S)) := by
  subst hp
  subst hp1
  refine Go.st (fun t r => XT.lcmp X.here hx rfl hd0 rfl r) ?_
  by_cases q : x.toInt = y.toInt
  · exact Go.st (fun t r => XS.ifYes X.here hx rfl rfl hd rfl (XT.ll_eq_t (Int64.toInt_inj.mp q)) ho hT r) (kt q)
  · exact Go.st (fun t r => XS.ifNo X.here hx rfl hd rfl (XT.ll_eq_f (fun z => q (Int64.toInt_inj.mpr z))) r) (kf (by omega))
theorem lcmp_ne (X : Stand p l e R s m args below meth c T locs cells slots) (hx : p.tables.exec = Jvm.exec) {o : Int} {x y : Int64} {pc1 pcT : Nat} (hd0 : decode c.code pc = .ok (.lcmp, 1)) (hp1 : pc1 = pc + 1) (hd : decode c.code pc1 = .ok (.ifCond .ne o, 3)) (ho : 0 ≤ (pc1 : Int) + o) (hT : ((pc1 : Int) + o).toNat = pcT) (hp : pc' = pc1 + 3)
    (kt : ¬ x.toInt = y.toInt → Go p.tables e below P T (mkF m pcT Ls (S))) (kf : x.toInt = y.toInt → Go p.tables e below P T (mkF m pc' Ls (S))) : Go p.tables e below P T (mkF m pc Ls (.long y :: .long x :: S)) := by
  subst hp
  subst hp1
  refine Go.st (fun t r => XT.lcmp X.here hx rfl hd0 rfl r) ?_
  by_cases q : ¬ x.toInt = y.toInt
  · exact Go.st (fun t r => XS.ifYes X.here hx rfl rfl hd rfl (XT.ll_ne_t (fun z => q (Int64.toInt_inj.mpr z))) ho hT r) (kt q)
  · exact Go.st (fun t r => XS.ifNo X.here hx rfl hd rfl (XT.ll_ne_f (Int64.toInt_inj.mp (Classical.not_not.mp q))) r) (kf (by omega))
theorem ifnonnull_ (X : Stand p l e R s m args below meth c T locs cells slots) (hx : p.tables.exec = Jvm.exec) {o : Int} {v : Value} {pcT : Nat} (hd : decode c.code pc = .ok (.ifnonnull o, 3)) (hv : v.isRef = true) (ho : 0 ≤ (pc : Int) + o) (hT : ((pc : Int) + o).toNat = pcT) (hp : pc' = pc + 3)
    (kt : ¬ v = .null → Go p.tables e below P T (mkF m pcT Ls (S))) (kf : v = .null → Go p.tables e below P T (mkF m pc' Ls (S))) : Go p.tables e below P T (mkF m pc Ls (v :: S)) := by
  subst hp
  by_cases q : ¬ v = .null
  · exact Go.st (fun t r => XT.nonnullYes X.here hx rfl rfl hd rfl hv q ho hT r) (kt q)
  · exact Go.st (fun t r => XT.nonnullNo X.here hx rfl hd rfl (Classical.not_not.mp q) r) (kf (Classical.not_not.mp q))
theorem ifnonnull_ref (X : Stand p l e R s m args below meth c T locs cells slots) (hx : p.tables.exec = Jvm.exec) {o : Int} {a : Addr} {pcT : Nat} (hd : decode c.code pc = .ok (.ifnonnull o, 3)) (ho : 0 ≤ (pc : Int) + o) (hT : ((pc : Int) + o).toNat = pcT) (hp : pc' = pc + 3)
    (k : Go p.tables e below P T (mkF m pcT Ls (S))) : Go p.tables e below P T (mkF m pc Ls (.ref a :: S)) :=
  ifnonnull_ X hx hd rfl ho hT hp (fun _ => k) (fun q => nomatch q)
theorem getF_ (X : Stand p l e R s m args below meth c T locs cells slots) (hx : p.tables.exec = Jvm.exec) (hZ : Z.Warmed39 s.vm) {own : String} (hown : s.vm.findClass own = some m.cls) {R0 O n d host : String} {i : Nat} (w : (Cond.fieldLink own i R0 n d).before a0 Z = true ∨ (Cond.fieldLinkNest own i R0 n d host).before a0 Z = true) (via : Via Z R0 O n d) (eT : T.heap = h) {a : Addr} {v : Value} (F : Fld Z h a O n d v) (hd : decode c.code pc = .ok (.getfield i, 3)) (hp : pc' = pc + 3)
    (k : ∀ T', Stand p l e R s m args below meth c T' locs cells slots → T'.heap = h → Go p.tables e below P T' (mkF m pc' Ls (v :: S))) : Go p.tables e below P T (mkF m pc Ls (.ref a :: S)) := by
  subst hp
  obtain ⟨T', X', e', st⟩ := getF X hx hZ hown w via eT F (g := mkF m pc Ls (.ref a :: S)) rfl rfl hd
  exact Go.st st (k T' X' e')
theorem putF_ (X : Stand p l e R s m args below meth c T locs cells slots) (hx : p.tables.exec = Jvm.exec) (hZ : Z.Warmed39 s.vm) {own : String} (hown : s.vm.findClass own = some m.cls) {R0 O n d C : String} {i kk : Nat} {ty : FieldType} (w : (Cond.fieldLink own i R0 n d).before a0 Z = true) (via : Via Z R0 O n d) (eT : T.heap = h) {a : Addr} {v v' old : Value} (F : Fld Z h a O n d old) (E : Exa Z h a C) (L : (Cond.lays C O n d).before a0 Z = true ∨ ((Cond.laysFinal C O n d).before a0 Z = true ∧ own = O ∧ meth.name = "<init>")) (wi : (Cond.instantiable C kk).before a0 Z = true) (hty : parseFieldDescriptor d = some ty) (hn : narrow ty v = v') (hf : fits ty v' = true) (hd : decode c.code pc = .ok (.putfield i, 3)) (hp : pc' = pc + 3)
    (k : ∀ T' h', Stand p l e R s m args below meth c T' (locs ++ [⟨a, Jvm.RoadKit.slotOf Z O n d⟩]) cells slots → T'.heap = h' → Wr h h' a (Jvm.RoadKit.slotOf Z O n d) v' → Go p.tables e below P T' (mkF m pc' Ls (S))) : Go p.tables e below P T (mkF m pc Ls (v :: .ref a :: S)) := by
  subst hp
  obtain ⟨T', h', X', e', W', st⟩ := putFN X hx hZ hown w via eT F E L wi hty hn hf (g := mkF m pc Ls (v :: .ref a :: S)) rfl rfl hd
  exact Go.st st (k T' h' X' e' W')
theorem new_ (X : Stand p l e R s m args below meth c T locs cells slots) (hx : p.tables.exec = Jvm.exec) (hZ : Z.Warmed39 s.vm) {own : String} (hown : s.vm.findClass own = some m.cls) {C : String} {i n : Nat} (w : (Cond.classLink own i C).before a0 Z = true) (wi : (Cond.instantiable C n).before a0 Z = true) (wz : (Cond.initialized C).before a0 Z = true) (eT : T.heap = h) (hd : decode c.code pc = .ok (.new i, 3)) (hp : pc' = pc + 3) (hc : cells + 1 ≤ R.cells) (hl : slots + n ≤ R.slots)
    (k : ∀ T' h' a, Stand p l e R s m args below meth c T' locs (cells + 1) (slots + n) → T'.heap = h' → a = h.size → Ext h h' → Exa Z h' a C → (∀ {O nm d : String} {ty : FieldType}, Laid Z a0 C O nm d → parseFieldDescriptor d = some ty → Fld Z h' a O nm d (defaultValue ty)) → Go p.tables e below P T' (mkF m pc' Ls (.ref a :: S))) : Go p.tables e below P T (mkF m pc Ls (S)) := by
  subst hp
  obtain ⟨T', h', X', e', E', A', D', -, st⟩ := newO X hx hZ hown w wi wz eT (g := mkF m pc Ls S) rfl hd hc hl
  exact Go.st st (k T' h' _ X' e' rfl E' A' D')
theorem jin {j z : Int32} (h0 : 0 ≤ j.toInt) (h1 : j.toInt < z.toInt) : ¬ j < 0 ∧ j < z := ⟨fun q => by have := Int32.lt_iff_toInt_lt.mp q; rw [z0] at this; omega, Int32.lt_iff_toInt_lt.mpr h1⟩
theorem jnat {j : Int32} {i : Nat} (h : j.toInt = i) : j.toNatClampNeg = i := by
  have q : ¬ j < 0 := fun q => by have := Int32.lt_iff_toInt_lt.mp q; rw [z0] at this; omega
  have := nat_of q; omega
theorem newP_ (X : Stand p l e R s m args below meth c T locs cells slots) (hx : p.tables.exec = Jvm.exec) (hZ : Z.Warmed39 s.vm) {aty : ArrayType} (w : (Cond.arrayClass (newarray.typeOf aty)).before a0 Z = true) (eT : T.heap = h) (hd : decode c.code pc = .ok (.newarray aty, 2)) (hp : pc' = pc + 2) {n : Int32} (hn : 0 ≤ n.toInt) {cap : Nat} (hcap : n.toInt ≤ cap) (hb : cap * 8 ≤ 536870912) (hc : cells + 1 ≤ R.cells) (hl : slots + cap ≤ R.slots) {ad : String} (had : "[" ++ (newarray.typeOf aty).toString = ad)
    (k : ∀ T' h' a cA, Stand p l e R s m args below meth c T' locs (cells + 1) (slots + cap) → T'.heap = h' → a = h.size → Ext h h' → Arv Z h' a cA (newarray.typeOf aty) n [] (defaultValue (newarray.typeOf aty)) → Exa Z h' a ad → Go p.tables e below P T' (mkF m pc' Ls (.ref a :: S))) : Go p.tables e below P T (mkF m pc Ls (.int n :: S)) := by
  subst hp
  have hn' : ¬ n < 0 := fun z => by have := Int32.lt_iff_toInt_lt.mp z; rw [z0] at this; omega
  obtain ⟨T', h', cA, X', e', E', A', Q', st⟩ := newPE X hx hZ w eT (g := mkF m pc Ls (.int n :: S)) rfl hd rfl hn' (cap := cap) (by have := nat_of hn'; omega) hb hc hl had
  exact Go.st st (k T' h' _ cA X' e' rfl E' (Arv.new A' hn') Q')
theorem clone_ (X : Stand p l e R s m args below meth c T locs cells slots) (hx : p.tables.exec = Jvm.exec) (hZ : Z.Warmed39 s.vm) {own ad : String} (hown : s.vm.findClass own = some m.cls) {i : Nat} (w1 : (Cond.methodLink own i ⟨ad, "clone", "()Ljava/lang/Object;"⟩).before a0 Z = true) (w2 : (Cond.sameMethod ad "java/lang/Object" "clone" "()Ljava/lang/Object;").before a0 Z = true) (w3 : (Cond.native ⟨"java/lang/Object", "clone", "()Ljava/lang/Object;"⟩).before a0 Z = true) (w4 : (Cond.instanceMethod ⟨"java/lang/Object", "clone", "()Ljava/lang/Object;"⟩).before a0 Z = true) (w5 : (Cond.selects ad ⟨ad, "clone", "()Ljava/lang/Object;"⟩ ⟨"java/lang/Object", "clone", "()Ljava/lang/Object;"⟩).before a0 Z = true) (w6 : (Cond.castable ad "java/lang/Cloneable").before a0 Z = true) (eT : T.heap = h) {a : Addr} {kA : ClassId} {ty : FieldType} {z : Int32} {vs : List Value} {dv : Value} (F : Arv Z h a kA ty z vs dv) (E : Exa Z h a ad) (hsize : Ls.size = c.maxLocals) (hd : decode c.code pc = .ok (.invokevirtual i, 3)) (hp : pc' = pc + 3) (hf : 1 ≤ R.frames) {W cap : Nat} (hW : (S.map fun v => v.category).sum ≤ W) (hl : W + 14 ≤ R.locals) (hcap : z.toInt ≤ cap) (hc : cells + 1 ≤ R.cells) (hsl : slots + cap ≤ R.slots)
    (k : ∀ T' h' b, Stand p l e R s m args below meth c T' locs (cells + 1) (slots + cap) → T'.heap = h' → b = h.size → Ext h h' → Arv Z h' b kA ty z vs dv → Exa Z h' b ad → Go p.tables e below P T' (mkF m pc' Ls (.ref b :: S))) : Go p.tables e below P T (mkF m pc Ls (.ref a :: S)) := by
  subst hp
  have hz : z.toNatClampNeg ≤ cap := by
    obtain ⟨_, _, _, _, q, _⟩ := F
    have := nat_of q; omega
  obtain ⟨T', h', X', e', E', A', Q', st⟩ := cloneH X hx hZ hown w1 w2 w3 w4 w5 w6 eT F.arh E (g := mkF m pc Ls (.ref a :: S)) rfl hsize rfl hd hf (W := W) (by show 2 * 0 + _ ≤ _; simpa using hW) hl hz hc hsl
  exact Go.st st (k T' h' _ X' e' rfl E' A' Q')
theorem arraycopy_ (X : Stand p l e R s m args below meth c T locs cells slots) (hx : p.tables.exec = Jvm.exec) (hZ : Z.Warmed39 s.vm) {own : String} (hown : s.vm.findClass own = some m.cls) {i : Nat} (w1 : (Cond.methodLink own i Jvm.Stand.acN).before a0 Z = true) (w2 : (Cond.native Jvm.Stand.acN).before a0 Z = true) (w3 : (Cond.static Jvm.Stand.acN).before a0 Z = true) (w4 : (Cond.initialized "java/lang/System").before a0 Z = true) (eT : T.heap = h) {a b : Addr} {k k' : ClassId} {ty ty' : FieldType} {z z' sp dp nn : Int32} {vs vd us : List Value} {dv dd : Value} (A : Arv Z h a k ty z vs dv) (B : Arv Z h b k' ty' z' vd dd) (hty : (ty = ty' ∧ refKind ty = false) ∨ (refKind ty = true ∧ refKind ty' = true ∧ StoL Z h b us)) {x y n : Nat} (hx' : sp.toInt = x) (hy' : dp.toInt = y) (hn' : nn.toInt = n) (h4 : (x : Int) + n ≤ z.toInt) (h5 : (y : Int) + n ≤ z'.toInt) (hus : us = (List.range n).map fun i => vs.getD (x + i) dv) (hl : y + n ≤ vd.length) {n0 : Nat} (N : Fr n0 locs) (ge : n0 ≤ b) (hsize : Ls.size = c.maxLocals) (hd : decode c.code pc = .ok (.invokestatic i, 3)) (hp : pc' = pc + 3) (hf : 1 ≤ R.frames) {W : Nat} (hW : (S.map fun v => v.category).sum ≤ W) (hlo : W + (nativeFrameWords "java/lang/System" "arraycopy" 5 + 11) ≤ R.locals)
    (kk : ∀ T' h' L, Stand p l e R s m args below meth c T' L cells slots → T'.heap = h' → Fr n0 L → Keep h h' [b] → Arv Z h' b k' ty' z' (vd.take y ++ us ++ vd.drop (y + n)) dd → Go p.tables e below P T' (mkF m pc' Ls (S))) : Go p.tables e below P T (mkF m pc Ls (.int nn :: .int dp :: .ref b :: .int sp :: .ref a :: S)) := by
  subst hp
  have e1 := jnat hx'; have e2 := jnat hy'; have e3 := jnat hn'
  have n1 : ¬ sp < 0 := fun q => by have := Int32.lt_iff_toInt_lt.mp q; rw [z0] at this; omega
  have n2 : ¬ dp < 0 := fun q => by have := Int32.lt_iff_toInt_lt.mp q; rw [z0] at this; omega
  have n3 : ¬ nn < 0 := fun q => by have := Int32.lt_iff_toInt_lt.mp q; rw [z0] at this; omega
  have m1 : x + n ≤ z.toNatClampNeg := by obtain ⟨_, _, _, _, q, _⟩ := A; have := nat_of q; omega
  have m2 : y + n ≤ z'.toNatClampNeg := by obtain ⟨_, _, _, _, q, _⟩ := B; have := nat_of q; omega
  obtain ⟨T', h', L, X', e', N', K', B', st⟩ := cpA X hx hZ hown w1 w2 w3 w4 eT A B hty n1 n2 n3 (by rw [e1, e3]; exact m1) (by rw [e2, e3]; exact m2) (us := us) (by rw [hus, e1, e3]) (by rw [e2, e3]; exact hl) N ge (g := mkF m pc Ls (.int nn :: .int dp :: .ref b :: .int sp :: .ref a :: S)) rfl hsize rfl hd hf (W := W) (by show 2 * 0 + _ ≤ _; simpa using hW) hlo
  rw [e2, e3] at B'
  exact Go.st st (kk T' h' L X' e' N' K' B')
theorem laload (X : Stand p l e R s m args below meth c T locs cells slots) (hx : p.tables.exec = Jvm.exec) (hZ : Z.Warmed39 s.vm) (eT : T.heap = h) {a : Addr} {kA : ClassId} {z j : Int32} {vs : List Value} {dv v : Value} (A : Arv Z h a kA .long z vs dv) (h0 : 0 ≤ j.toInt) (h1 : j.toInt < z.toInt) (hv : vs.getD j.toNatClampNeg dv = v) (hd : decode c.code pc = .ok (.laload, 1)) (hp : pc' = pc + 1)
    (k : Go p.tables e below P T (mkF m pc' Ls (v :: S))) : Go p.tables e below P T (mkF m pc Ls (.int j :: .ref a :: S)) := by
  subst hp
  obtain ⟨cl, Ar, -, Sz, Nz, H, -⟩ := A
  have hin := inb_of Sz (jin h0 h1)
  exact Go.st (fun t q => X.laload hx (j := j) (v := v) (by rw [eT]; exact Ar.1) (State.isArrayOf_alike hZ.alike Ar.2.1) Ar.2.2 hin (H.at hin hv) (g := mkF m pc Ls (.int j :: .ref a :: S)) rfl rfl hd t q) k
theorem arrlen (X : Stand p l e R s m args below meth c T locs cells slots) (hx : p.tables.exec = Jvm.exec) (hZ : Z.Warmed39 s.vm) (eT : T.heap = h) {a : Addr} {kA : ClassId} {ty : FieldType} {z : Int32} {vs : List Value} {dv : Value} (A : Arv Z h a kA ty z vs dv) (hd : decode c.code pc = .ok (.arraylength, 1)) (hp : pc' = pc + 1)
    (k : Go p.tables e below P T (mkF m pc' Ls (.int z :: S))) : Go p.tables e below P T (mkF m pc Ls (.ref a :: S)) := by
  subst hp
  obtain ⟨cl, Ar, -, Sz, Nz, H, -⟩ := A
  refine Go.st (fun t q => X.arraylength hx (by rw [eT]; exact Ar.1) (State.isArrayOf_alike hZ.alike Ar.2.1) (g := mkF m pc Ls (.ref a :: S)) rfl rfl hd t q) ?_
  rw [len_of Sz Nz]
  exact k
theorem iastore (X : Stand p l e R s m args below meth c T locs cells slots) (hx : p.tables.exec = Jvm.exec) (hZ : Z.Warmed39 s.vm) (eT : T.heap = h) {a : Addr} {kA : ClassId} {z j : Int32} {x : Int32} {vs : List Value} {dv : Value} (A : Arv Z h a kA .int z vs dv) {i : Nat} (hi : j.toInt = i) (hz : (i : Int) < z.toInt) (hl : i < vs.length) (hd : decode c.code pc = .ok (.iastore, 1)) (hp : pc' = pc + 1)
    (k : ∀ T' h', Stand p l e R s m args below meth c T' (locs ++ [⟨a, j.toNatClampNeg⟩]) cells slots → T'.heap = h' → Wr h h' a j.toNatClampNeg (.int x) → Arv Z h' a kA .int z (vs.set i (.int x)) dv → Go p.tables e below P T' (mkF m pc' Ls (S))) : Go p.tables e below P T (mkF m pc Ls (.int x :: .int j :: .ref a :: S)) := by
  subst hp
  obtain ⟨cl, Ar, q1, Sz, Nz, H, G⟩ := A
  have hin := inb_of Sz (jin (j := j) (z := z) (by omega) (by omega))
  obtain ⟨T', h', X', e', W', st⟩ := stI X hx hZ eT Ar (j := j) hin (g := mkF m pc Ls (.int x :: .int j :: .ref a :: S)) rfl rfl hd
  exact Go.st st (k T' h' X' e' W' (Arv.set Ar q1 Sz Nz H G rfl W' i (jnat hi) hl))
theorem lastore (X : Stand p l e R s m args below meth c T locs cells slots) (hx : p.tables.exec = Jvm.exec) (hZ : Z.Warmed39 s.vm) (eT : T.heap = h) {a : Addr} {kA : ClassId} {z j : Int32} {x : Int64} {vs : List Value} {dv : Value} (A : Arv Z h a kA .long z vs dv) {i : Nat} (hi : j.toInt = i) (hz : (i : Int) < z.toInt) (hl : i < vs.length) (hd : decode c.code pc = .ok (.lastore, 1)) (hp : pc' = pc + 1)
    (k : ∀ T' h', Stand p l e R s m args below meth c T' (locs ++ [⟨a, j.toNatClampNeg⟩]) cells slots → T'.heap = h' → Wr h h' a j.toNatClampNeg (.long x) → Arv Z h' a kA .long z (vs.set i (.long x)) dv → Go p.tables e below P T' (mkF m pc' Ls (S))) : Go p.tables e below P T (mkF m pc Ls (.long x :: .int j :: .ref a :: S)) := by
  subst hp
  obtain ⟨cl, Ar, q1, Sz, Nz, H, G⟩ := A
  have hin := inb_of Sz (jin (j := j) (z := z) (by omega) (by omega))
  obtain ⟨T', h', X', e', W', st⟩ := stJ X hx hZ eT Ar (j := j) hin (g := mkF m pc Ls (.long x :: .int j :: .ref a :: S)) rfl rfl hd
  exact Go.st st (k T' h' X' e' W' (Arv.set Ar q1 Sz Nz H G rfl W' i (jnat hi) hl))
theorem cast_ (X : Stand p l e R s m args below meth c T locs cells slots) (hx : p.tables.exec = Jvm.exec) (hZ : Z.Warmed39 s.vm) {own : String} (hown : s.vm.findClass own = some m.cls) {K : String} {i : Nat} (w : (Cond.classLink own i K).before a0 Z = true) (eT : T.heap = h) {a : Addr} (F : Ins Z h a K true) (hd : decode c.code pc = .ok (.checkcast i, 3)) (hp : pc' = pc + 3)
    (k : ∀ T', Stand p l e R s m args below meth c T' locs cells slots → T'.heap = h → Go p.tables e below P T' (mkF m pc' Ls (.ref a :: S))) : Go p.tables e below P T (mkF m pc Ls (.ref a :: S)) := by
  subst hp
  obtain ⟨T', X', e', st⟩ := castY X hx hZ hown w eT F (g := mkF m pc Ls (.ref a :: S)) rfl rfl hd
  exact Go.st st (k T' X' e')
theorem initO_ (X : Stand p l e R s m args below meth c T locs cells slots) (hx : p.tables.exec = Jvm.exec) (hZ : Z.Warmed39 s.vm) {own : String} (hown : s.vm.findClass own = some m.cls) {i : Nat} (w1 : (Cond.methodLink own i Lib.objectInit).before a0 Z = true) (w2 : (Cond.instanceMethod Lib.objectInit).before a0 Z = true) (w3 : (Cond.code Lib.objectInit ⟨#[0xb1]⟩ 1 none).before a0 Z = true) (eT : T.heap = h) (hsize : Ls.size = c.maxLocals) {a : Addr} (hd : decode c.code pc = .ok (.invokespecial i, 3)) (hp : pc' = pc + 3) (hf : 1 ≤ R.frames) {W : Nat} (hW : (S.map fun v => v.category).sum ≤ W) (hl : W + 12 ≤ R.locals)
    (k : ∀ T', Stand p l e R s m args below meth c T' locs cells slots → T'.heap = h → Go p.tables e below P T' (mkF m pc' Ls (S))) : Go p.tables e below P T (mkF m pc Ls (.ref a :: S)) := by
  subst hp
  obtain ⟨T', X', e', st⟩ := initO X hx hZ hown w1 w2 w3 eT (g := mkF m pc Ls (.ref a :: S)) rfl hsize rfl hd hf (W := W) (by show 2 * 0 + _ ≤ _; simpa using hW) hl
  exact Go.st st (k T' X' e')
theorem callS_ (X : Stand p l e R s m args below meth c T locs cells slots) (hx : p.tables.exec = Jvm.exec) (hZ : Z.Warmed39 s.vm) {own : String} (hown : s.vm.findClass own = some m.cls) {y : MethodName} {i : Nat} {bytes : ByteArray} {maxL : Nat} {ret : Option FieldType} {rm : Room} {Q : Option Value → Heap → List Loc → Prop} {argsL S0 : List Value} (w1 : (Cond.methodLink own i y).before a0 Z = true) (w2 : (Cond.static y).before a0 Z = true) (w3 : (Cond.initialized y.cls).before a0 Z = true) (w4 : (Cond.code y bytes maxL ret).before a0 Z = true) (hy : y.cls ≠ "java/lang/invoke/MethodHandle" ∧ y.cls ≠ "java/lang/invoke/VarHandle") (hM : MetFree l y (head1 [Cond.code y bytes maxL ret] rm) (fun ar U => ar = argsL.toArray ∧ Z.Warmed39 U.vm ∧ U.heap = h) (fun _ _ _ _ _ => True) (fun _ U o U' => ∃ v L, o = .returned v ∧ Q v U'.heap L ∧ FrameEnd U o U' L rm.cells rm.slots)) (hf : rm.frames + 1 ≤ R.frames) {W : Nat} (hl : W + (maxL + 11) + rm.locals ≤ R.locals) (eT : T.heap = h) (hsize : Ls.size = c.maxLocals) {ps : List FieldType} {rt : Option FieldType} (hdesc : parseMethodDescriptor y.desc = some ⟨ps, rt⟩) (hlen : argsL.length = ps.length) (hS : S0 = argsL.reverse ++ S) (hW : (S.map fun v => v.category).sum ≤ W) (hd : decode c.code pc = .ok (.invokestatic i, 3)) (hp : pc' = pc + 3) (hc : cells + rm.cells ≤ R.cells) (hs : slots + rm.slots ≤ R.slots)
    (k : ∀ T' v L, Stand p l e R s m args below meth c T' (locs ++ L) (cells + rm.cells) (slots + rm.slots) → Q v T'.heap L → Go p.tables e below P T' (mkF m pc' Ls (v.toList ++ S))) : Go p.tables e below P T (mkF m pc Ls (S0)) := by
  subst hp hS
  obtain ⟨v, vm₁, ⟨T', L', k', n'⟩, -, X', ⟨L, hQ, l', y', z'⟩, st⟩ := Jvm.LawKit.callS X hx hown (mvT hZ w1) (mvT hZ w2) (mvT hZ w3) (mvT hZ w4) hy (backOf (W := W) hM hZ w4 w3 hf hl) (g := mkF m pc Ls (argsL.reverse ++ S)) rfl hsize (argsL := argsL) (rest := S) (lenOf hdesc hlen) rfl (by show 2 * 0 + _ ≤ _; simpa using hW) hd (fun _ _ => ⟨rfl, eT, hc, hs⟩)
  dsimp only [Pt.U, Pt.locs, Pt.cells, Pt.slots] at X' l' y' z' st hQ
  subst l' y' z'
  exact Go.st st (k T' v L X' hQ)
theorem callI_ (X : Stand p l e R s m args below meth c T locs cells slots) (hx : p.tables.exec = Jvm.exec) (hZ : Z.Warmed39 s.vm) {own : String} (hown : s.vm.findClass own = some m.cls) {y : MethodName} {i : Nat} {a : Addr} {bytes : ByteArray} {maxL : Nat} {ret : Option FieldType} {rm : Room} {Q : Option Value → Heap → List Loc → Prop} {argsL S0 : List Value} (hy1 : y.name = "<init>") (w1 : (Cond.methodLink own i y).before a0 Z = true) (w2 : (Cond.instanceMethod y).before a0 Z = true) (w3 : (Cond.initialized y.cls).before a0 Z = true) (w4 : (Cond.code y bytes maxL none).before a0 Z = true) (hret : ret = none) (hy : y.cls ≠ "java/lang/invoke/MethodHandle" ∧ y.cls ≠ "java/lang/invoke/VarHandle") (hM : MetFree l y (head1 [Cond.code y bytes maxL ret] rm) (fun ar U => ar = (.ref a :: argsL).toArray ∧ Z.Warmed39 U.vm ∧ U.heap = h) (fun _ _ _ _ _ => True) (fun _ U o U' => ∃ v L, o = .returned v ∧ Q v U'.heap L ∧ FrameEnd U o U' L rm.cells rm.slots)) (hf : rm.frames + 1 ≤ R.frames) {W : Nat} (hl : W + (maxL + 11) + rm.locals ≤ R.locals) (eT : T.heap = h) (hsize : Ls.size = c.maxLocals) {ps : List FieldType} {rt : Option FieldType} (hdesc : parseMethodDescriptor y.desc = some ⟨ps, rt⟩) (hlen : argsL.length = ps.length) (hS : S0 = argsL.reverse ++ .ref a :: S) (hW : (S.map fun v => v.category).sum ≤ W) (hd : decode c.code pc = .ok (.invokespecial i, 3)) (hp : pc' = pc + 3) (hc : cells + rm.cells ≤ R.cells) (hs : slots + rm.slots ≤ R.slots)
    (k : ∀ T' v L, Stand p l e R s m args below meth c T' (locs ++ L) (cells + rm.cells) (slots + rm.slots) → Q v T'.heap L → Go p.tables e below P T' (mkF m pc' Ls (v.toList ++ S))) : Go p.tables e below P T (mkF m pc Ls (S0)) := by
  subst hp hS hret
  obtain ⟨v, vm₁, ⟨T', L', k', n'⟩, -, X', ⟨L, hQ, l', y', z'⟩, st⟩ := X.specialBack hx hy1 hown (mvT hZ w1) (mvT hZ w2) (mvT hZ w4) hy (backOf (W := W) hM hZ w4 w3 hf hl) (g := mkF m pc Ls (argsL.reverse ++ .ref a :: S)) rfl hsize (Steps.refl _) (a := a) (argsL := argsL) (rest := S) (lenOf hdesc hlen) rfl (by show 2 * 0 + _ ≤ _; simpa using hW) hd (fun _ _ => ⟨rfl, eT, hc, hs⟩)
  dsimp only [Pt.U, Pt.locs, Pt.cells, Pt.slots] at X' l' y' z' st hQ
  subst l' y' z'
  exact Go.st1 st (k T' v L X' hQ)
theorem callV_ (X : Stand p l e R s m args below meth c T locs cells slots) (hx : p.tables.exec = Jvm.exec) (hZ : Z.Warmed39 s.vm) {own : String} (hown : s.vm.findClass own = some m.cls) {C : String} {y z : MethodName} {i : Nat} {a : Addr} {bytes : ByteArray} {maxL : Nat} {ret : Option FieldType} {rm : Room} {Q : Option Value → Heap → List Loc → Prop} {argsL S0 : List Value} (w1 : (Cond.methodLink own i y).before a0 Z = true) (w2 : (Cond.declares y).before a0 Z = true) (nf : NotFace s y) (w3 : (Cond.selects C y z).before a0 Z = true) (w4 : (Cond.instanceMethod z).before a0 Z = true) (w5 : (Cond.code z bytes maxL ret).before a0 Z = true) (w6 : (Cond.initialized z.cls).before a0 Z = true) (hy : y.cls ≠ "java/lang/invoke/MethodHandle" ∧ y.cls ≠ "java/lang/invoke/VarHandle") (E : Exa Z h a C) (hM : MetFree l z (head1 [Cond.code z bytes maxL ret] rm) (fun ar U => ar = (.ref a :: argsL).toArray ∧ Z.Warmed39 U.vm ∧ U.heap = h) (fun _ _ _ _ _ => True) (fun _ U o U' => ∃ v L, o = .returned v ∧ Q v U'.heap L ∧ FrameEnd U o U' L rm.cells rm.slots)) (hf : rm.frames + 1 ≤ R.frames) {W : Nat} (hl : W + (maxL + 11) + rm.locals ≤ R.locals) (eT : T.heap = h) (hsize : Ls.size = c.maxLocals) {ps : List FieldType} {rt : Option FieldType} (hdesc : parseMethodDescriptor y.desc = some ⟨ps, rt⟩) (hlen : argsL.length = ps.length) (hS : S0 = argsL.reverse ++ .ref a :: S) (hW : (S.map fun v => v.category).sum ≤ W) (hd : decode c.code pc = .ok (.invokevirtual i, 3)) (hp : pc' = pc + 3) (hc : cells + rm.cells ≤ R.cells) (hs : slots + rm.slots ≤ R.slots)
    (k : ∀ T' v L, Stand p l e R s m args below meth c T' (locs ++ L) (cells + rm.cells) (slots + rm.slots) → Q v T'.heap L → Go p.tables e below P T' (mkF m pc' Ls (v.toList ++ S))) : Go p.tables e below P T (mkF m pc Ls (S0)) := by
  subst hp hS
  obtain ⟨cq, kq, qa, qb, qc⟩ := isOf hZ eT E
  obtain ⟨v, vm₁, ⟨T', L', k', n'⟩, -, X', ⟨L, hQ, l', y', z'⟩, st⟩ := X.virtualBack hx hown (mvT hZ w1) (mvT hZ w2) nf (mvT hZ w3) (mvT hZ w4) hy (backOf (W := W) hM hZ w5 w6 hf hl) qa qc (g := mkF m pc Ls (argsL.reverse ++ .ref a :: S)) rfl hsize (Steps.refl _) (argsL := argsL) (rest := S) (lenOf hdesc hlen) rfl (by show 2 * 0 + _ ≤ _; simpa using hW) hd (fun _ _ => ⟨rfl, eT, hc, hs⟩)
  dsimp only [Pt.U, Pt.locs, Pt.cells, Pt.slots] at X' l' y' z' st hQ
  subst l' y' z'
  exact Go.st1 st (k T' v L X' hQ)
theorem met {y : MethodName} {bytes : ByteArray} {maxL : Nat} {ret : Option FieldType} {rm : Room} {as' : Array Value} {Q : Option Value → Heap → List Loc → Prop} {ws : List Jvm.Cond} {C N : Nat} (hpl : plainFor y = true) (ef : ∀ m, entryFrame m as' maxL = mkF m 0 Ls [])
    (body : ∀ (p : Program) (e : Env) (s : State) (m : MethodId) (below : List Frame) (meth : Method) (c : Code) (T : State), Stand p l e rm s m as' below meth c T [] 0 0 → p.tables.exec = Jvm.exec → Z.Warmed39 s.vm → c.code = bytes → c.maxLocals = maxL → s.vm.findClass y.cls = some m.cls → meth.name = y.name → meth.sig.returnType = ret → meth.locks = false → T.heap = h →
      Go p.tables e below (PQ s Q C N) T (mkF m 0 Ls [])) :
    MetFree l y (head1 (Cond.code y bytes maxL ret :: ws) rm) (fun a U => a = as' ∧ Z.Warmed39 U.vm ∧ U.heap = h) (fun _ _ _ _ _ => True) (fun _ U o U' => ∃ v L, o = .returned v ∧ Q v U'.heap L ∧ FrameEnd U o U' L C N) := by
  refine MetFree.of_bodySF hpl hisR ?_
  intro p e s m args below meth c s₁ Bd hml0 hP hK
  obtain ⟨rfl, hZ, hh⟩ := hP
  have e0 : s₁.heap = h := by rw [← hh, Bd.state]; rfl
  obtain ⟨s₂, o, h1, h2⟩ := body p e s m below meth c s₁ (Stand.of_body Bd) Bd.exec hZ Bd.bytes hml0 (findClass_of_methodNamed Bd.named) (name_of_methodNamed Bd.named Bd.method).1 Bd.returns Bd.notSynchronized e0
  exact ⟨s₂, o, castTop (ef m) h1, h2⟩
theorem ret_ (X : Stand p l e R s m args below meth c T locs cells slots) (hx : p.tables.exec = Jvm.exec) {Q : Option Value → Heap → List Loc → Prop} {C N : Nat} {w : Value} {t : FieldType} {i : Instr} (hret : meth.sig.returnType = some t) (hlk : meth.locks = false) (hn : narrow t w = w)
    (hi : (i = .ireturn ∧ (t = .int ∨ t = .boolean ∨ t = .byte ∨ t = .char ∨ t = .short) ∧ ∃ z, w = .int z) ∨ (i = .lreturn ∧ t = .long ∧ ∃ z, w = .long z) ∨ (i = .dreturn ∧ t = .double ∧ ∃ z, w = .double z) ∨ (i = .freturn ∧ t = .float ∧ ∃ z, w = .float z) ∨ (i = .areturn ∧ t.isReference = true ∧ w.isRef = true))
    (hd : decode c.code pc = .ok (i, 1)) (hC : cells ≤ C) (hN : slots ≤ N) (q : Q (some w) T.heap locs) : Go p.tables e below (PQ s Q C N) T (mkF m pc Ls (w :: S)) := by
  obtain ⟨fs, hr, hrun, hended, hW, hsame⟩ := X.leave (v := some w) (fun h => by rw [hret] at h; cases h) hlk
  exact ⟨_, _, retOut X hx hret hn hi hd hr, hrun, hended, _, _, rfl, q, ⟨_, rfl⟩, hW, hsame.mono hC hN⟩
theorem retI_ (X : Stand p l e R s m args below meth c T locs cells slots) (hx : p.tables.exec = Jvm.exec) {Q : Option Value → Heap → List Loc → Prop} {C N : Nat} {z : Int32} (hret : meth.sig.returnType = some .int) (hlk : meth.locks = false) (hd : decode c.code pc = .ok (.ireturn, 1)) (hC : cells ≤ C) (hN : slots ≤ N) (q : Q (some (.int z)) T.heap locs) : Go p.tables e below (PQ s Q C N) T (mkF m pc Ls (.int z :: S)) :=
  ret_ X hx hret hlk rfl (Or.inl ⟨rfl, Or.inl rfl, z, rfl⟩) hd hC hN q
theorem retA_ (X : Stand p l e R s m args below meth c T locs cells slots) (hx : p.tables.exec = Jvm.exec) {Q : Option Value → Heap → List Loc → Prop} {C N : Nat} {w : Value} {t : FieldType} (hret : meth.sig.returnType = some t) (ht : t.isReference = true) (hw : w.isRef = true) (hlk : meth.locks = false) (hd : decode c.code pc = .ok (.areturn, 1)) (hC : cells ≤ C) (hN : slots ≤ N) (q : Q (some w) T.heap locs) : Go p.tables e below (PQ s Q C N) T (mkF m pc Ls (w :: S)) :=
  ret_ X hx hret hlk (by cases t <;> first | (cases ht; done) | rfl) (Or.inr (Or.inr (Or.inr (Or.inr ⟨rfl, ht, hw⟩)))) hd hC hN q
theorem retN_ (X : Stand p l e R s m args below meth c T locs cells slots) (hx : p.tables.exec = Jvm.exec) {Q : Option Value → Heap → List Loc → Prop} {C N : Nat} {z : Int32} {t : FieldType} (hret : meth.sig.returnType = some t) (ht : t = .boolean ∨ t = .byte ∨ t = .char ∨ t = .short) (hlk : meth.locks = false) (hd : decode c.code pc = .ok (.ireturn, 1)) (hC : cells ≤ C) (hN : slots ≤ N) (q : Q (some (.int (nar t z))) T.heap locs) : Go p.tables e below (PQ s Q C N) T (mkF m pc Ls (.int z :: S)) := by
  obtain ⟨fs, hr, hrun, hended, hW, hsame⟩ := X.leave (v := some (.int (nar t z))) (fun h => by rw [hret] at h; cases h) hlk
  exact ⟨_, _, retN X hx hret ht hd hr, hrun, hended, _, _, rfl, q, ⟨_, rfl⟩, hW, hsame.mono hC hN⟩
theorem retV_ (X : Stand p l e R s m args below meth c T locs cells slots) (hx : p.tables.exec = Jvm.exec) {Q : Option Value → Heap → List Loc → Prop} {C N : Nat} (hret : meth.sig.returnType = none) (hlk : meth.locks = false) (hd : decode c.code pc = .ok (.return_, 1)) (hC : cells ≤ C) (hN : slots ≤ N) (q : Q none T.heap locs) : Go p.tables e below (PQ s Q C N) T (mkF m pc Ls []) := by
  obtain ⟨fs, hr, hrun, hended, hW, hsame⟩ := X.leave (v := none) (fun _ => rfl) hlk
  exact ⟨_, _, X.returnOut hx hret hd hr, hrun, hended, _, _, rfl, q, ⟨_, rfl⟩, hW, hsame.mono hC hN⟩
end Steps
end Jvm.OwnK
namespace Jvm.Pilot.@@N@@
open Jvm Jvm.ClassFile Sem Op Lib Jvm.Free Jvm.Stand Jvm.LawKit Jvm.RoadKit Bundle Jvm.Pilot.@@N@@.Jvm.D
theorem own_ef_8 (p1 : Int32) (p2 : Int32)  (m : MethodId) : entryFrame m #[(.int p1), (.int p2)] 2 = mkF m 0 #[.val (.int p1), .val (.int p2)] [] := by first | (simp [entryFrame, mkF, argsToLocals, Value.category]; done) | rfl
theorem own_d8_0 : decode jdk_29_method_69_code 0 = .ok (.iload_n 0, 1) := by decide +kernel
theorem own_d8_1 : decode jdk_29_method_69_code 1 = .ok (.iload_n 1, 1) := by decide +kernel
theorem own_d8_2 : decode jdk_29_method_69_code 2 = .ok (.if_icmp .gt 7, 3) := by decide +kernel
theorem own_d8_9 : decode jdk_29_method_69_code 9 = .ok (.iload_n 1, 1) := by decide +kernel
theorem own_d8_10 : decode jdk_29_method_69_code 10 = .ok (.ireturn, 1) := by decide +kernel
theorem own_d8_5 : decode jdk_29_method_69_code 5 = .ok (.iload_n 0, 1) := by decide +kernel
theorem own_d8_6 : decode jdk_29_method_69_code 6 = .ok (.goto 4, 3) := by decide +kernel
theorem own_pl_8 : plainFor (⟨"java/lang/Math", "min", "(II)I"⟩ : MethodName) = true := Jvm.Free.JP.mathPlain rfl (by decide +kernel)
theorem own_ef_1 (p1 : Addr) (p2 : Int32) (p3 : Int32)  (m : MethodId) : entryFrame m #[(.ref p1), (.int p2), (.int p3)] 5 = mkF m 0 #[.val (.ref p1), .val (.int p2), .val (.int p3), .unset, .unset] [] := by first | (simp [entryFrame, mkF, argsToLocals, Value.category]; done) | rfl
theorem own_d1_0 : decode method_3_code 0 = .ok (.aload_n 0, 1) := by decide +kernel
theorem own_d1_1 : decode method_3_code 1 = .ok (.iload_n 1, 1) := by decide +kernel
theorem own_d1_2 : decode method_3_code 2 = .ok (.laload, 1) := by decide +kernel
theorem own_d1_3 : decode method_3_code 3 = .ok (.aload_n 0, 1) := by decide +kernel
theorem own_d1_4 : decode method_3_code 4 = .ok (.iload_n 2, 1) := by decide +kernel
theorem own_d1_5 : decode method_3_code 5 = .ok (.laload, 1) := by decide +kernel
theorem own_d1_6 : decode method_3_code 6 = .ok (.lcmp, 1) := by decide +kernel
theorem own_d1_7 : decode method_3_code 7 = .ok (.ifCond .le 17, 3) := by decide +kernel
theorem own_d1_24 : decode method_3_code 24 = .ok (.return_, 1) := by decide +kernel
theorem own_d1_10 : decode method_3_code 10 = .ok (.aload_n 0, 1) := by decide +kernel
theorem own_d1_11 : decode method_3_code 11 = .ok (.iload_n 1, 1) := by decide +kernel
theorem own_d1_12 : decode method_3_code 12 = .ok (.laload, 1) := by decide +kernel
theorem own_d1_13 : decode method_3_code 13 = .ok (.lstore_n 3, 1) := by decide +kernel
theorem own_d1_14 : decode method_3_code 14 = .ok (.aload_n 0, 1) := by decide +kernel
theorem own_d1_15 : decode method_3_code 15 = .ok (.iload_n 1, 1) := by decide +kernel
theorem own_d1_16 : decode method_3_code 16 = .ok (.aload_n 0, 1) := by decide +kernel
theorem own_d1_17 : decode method_3_code 17 = .ok (.iload_n 2, 1) := by decide +kernel
theorem own_d1_18 : decode method_3_code 18 = .ok (.laload, 1) := by decide +kernel
theorem own_d1_19 : decode method_3_code 19 = .ok (.lastore, 1) := by decide +kernel
theorem own_d1_20 : decode method_3_code 20 = .ok (.aload_n 0, 1) := by decide +kernel
theorem own_d1_21 : decode method_3_code 21 = .ok (.iload_n 2, 1) := by decide +kernel
theorem own_d1_22 : decode method_3_code 22 = .ok (.lload_n 3, 1) := by decide +kernel
theorem own_d1_23 : decode method_3_code 23 = .ok (.lastore, 1) := by decide +kernel
theorem own_pl_1 : plainFor (⟨"com/example/ledgerwire/ledgerwire/store/EntriesRecordsPinLaw", "cs", "([JII)V"⟩ : MethodName) = true := plainFor_of_name (by first | (simp [plainName, overriddenIn]; done) | decide +kernel)
theorem own_ef_2 (p1 : Addr) (p2 : Addr) (p3 : Addr) (p4 : Int32)  (m : MethodId) : entryFrame m #[(.ref p1), (.ref p2), (.ref p3), (.int p4)] 4 = mkF m 0 #[.val (.ref p1), .val (.ref p2), .val (.ref p3), .val (.int p4)] [] := by first | (simp [entryFrame, mkF, argsToLocals, Value.category]; done) | rfl
theorem own_d2_0 : decode prog_46_method_1_code 0 = .ok (.aload_n 0, 1) := by decide +kernel
theorem own_d2_1 : decode prog_46_method_1_code 1 = .ok (.invokespecial 1, 3) := by decide +kernel
theorem own_d2_4 : decode prog_46_method_1_code 4 = .ok (.aload_n 0, 1) := by decide +kernel
theorem own_d2_5 : decode prog_46_method_1_code 5 = .ok (.aload_n 1, 1) := by decide +kernel
theorem own_d2_6 : decode prog_46_method_1_code 6 = .ok (.putfield 7, 3) := by decide +kernel
theorem own_d2_9 : decode prog_46_method_1_code 9 = .ok (.aload_n 0, 1) := by decide +kernel
theorem own_d2_10 : decode prog_46_method_1_code 10 = .ok (.aload_n 2, 1) := by decide +kernel
theorem own_d2_11 : decode prog_46_method_1_code 11 = .ok (.putfield 13, 3) := by decide +kernel
theorem own_d2_14 : decode prog_46_method_1_code 14 = .ok (.aload_n 0, 1) := by decide +kernel
theorem own_d2_15 : decode prog_46_method_1_code 15 = .ok (.iload_n 3, 1) := by decide +kernel
theorem own_d2_16 : decode prog_46_method_1_code 16 = .ok (.putfield 17, 3) := by decide +kernel
theorem own_d2_19 : decode prog_46_method_1_code 19 = .ok (.return_, 1) := by decide +kernel
theorem own_pl_2 : plainFor (⟨"com/example/ledgerwire/ledgerwire/store/Entries", "<init>", "([J[II)V"⟩ : MethodName) = true := plainFor_of_name (by first | (simp [plainName, overriddenIn]; done) | decide +kernel)
theorem own_ef_5 (p1 : Addr) (p2 : Int32)  (m : MethodId) : entryFrame m #[(.ref p1), (.int p2)] 3 = mkF m 0 #[.val (.ref p1), .val (.int p2), .unset] [] := by first | (simp [entryFrame, mkF, argsToLocals, Value.category]; done) | rfl
theorem own_d5_0 : decode jdk_65_method_124_code 0 = .ok (.iload_n 1, 1) := by decide +kernel
theorem own_d5_1 : decode jdk_65_method_124_code 1 = .ok (.aload_n 0, 1) := by decide +kernel
theorem own_d5_2 : decode jdk_65_method_124_code 2 = .ok (.arraylength, 1) := by decide +kernel
theorem own_d5_3 : decode jdk_65_method_124_code 3 = .ok (.if_icmp .ne 11, 3) := by decide +kernel
theorem own_d5_14 : decode jdk_65_method_124_code 14 = .ok (.iload_n 1, 1) := by decide +kernel
theorem own_d5_15 : decode jdk_65_method_124_code 15 = .ok (.newarray .long, 2) := by decide +kernel
theorem own_d5_17 : decode jdk_65_method_124_code 17 = .ok (.astore_n 2, 1) := by decide +kernel
theorem own_d5_18 : decode jdk_65_method_124_code 18 = .ok (.aload_n 0, 1) := by decide +kernel
theorem own_d5_19 : decode jdk_65_method_124_code 19 = .ok (.iconst 0, 1) := by decide +kernel
theorem own_d5_20 : decode jdk_65_method_124_code 20 = .ok (.aload_n 2, 1) := by decide +kernel
theorem own_d5_21 : decode jdk_65_method_124_code 21 = .ok (.iconst 0, 1) := by decide +kernel
theorem own_d5_22 : decode jdk_65_method_124_code 22 = .ok (.aload_n 0, 1) := by decide +kernel
theorem own_d5_23 : decode jdk_65_method_124_code 23 = .ok (.arraylength, 1) := by decide +kernel
theorem own_d5_24 : decode jdk_65_method_124_code 24 = .ok (.iload_n 1, 1) := by decide +kernel
theorem own_d5_25 : decode jdk_65_method_124_code 25 = .ok (.invokestatic 304, 3) := by decide +kernel
theorem own_pd_3 : parseMethodDescriptor "(II)I" = some ⟨[.int, .int], some .int⟩ := by decide +kernel
theorem own_d5_28 : decode jdk_65_method_124_code 28 = .ok (.invokestatic 150, 3) := by decide +kernel
theorem own_d5_31 : decode jdk_65_method_124_code 31 = .ok (.aload_n 2, 1) := by decide +kernel
theorem own_d5_32 : decode jdk_65_method_124_code 32 = .ok (.areturn, 1) := by decide +kernel
theorem own_d5_6 : decode jdk_65_method_124_code 6 = .ok (.aload_n 0, 1) := by decide +kernel
theorem own_d5_7 : decode jdk_65_method_124_code 7 = .ok (.invokevirtual 319, 3) := by decide +kernel
theorem own_d5_10 : decode jdk_65_method_124_code 10 = .ok (.checkcast 320, 3) := by decide +kernel
theorem own_d5_13 : decode jdk_65_method_124_code 13 = .ok (.areturn, 1) := by decide +kernel
theorem own_pl_5 : plainFor (⟨"java/util/Arrays", "copyOf", "([JI)[J"⟩ : MethodName) = true := plainFor_of_name (by first | (simp [plainName, overriddenIn]; done) | decide +kernel)
theorem own_ef_4 (p1 : Addr)  (m : MethodId) : entryFrame m #[(.ref p1)] 4 = mkF m 0 #[.val (.ref p1), .unset, .unset, .unset] [] := by first | (simp [entryFrame, mkF, argsToLocals, Value.category]; done) | rfl
theorem own_d4_0 : decode prog_46_method_5_code 0 = .ok (.aload_n 0, 1) := by decide +kernel
theorem own_d4_1 : decode prog_46_method_5_code 1 = .ok (.getfield 17, 3) := by decide +kernel
theorem own_d4_4 : decode prog_46_method_5_code 4 = .ok (.newarray .long, 2) := by decide +kernel
theorem own_d4_6 : decode prog_46_method_5_code 6 = .ok (.astore_n 1, 1) := by decide +kernel
theorem own_d4_7 : decode prog_46_method_5_code 7 = .ok (.iconst 0, 1) := by decide +kernel
theorem own_d4_8 : decode prog_46_method_5_code 8 = .ok (.istore_n 2, 1) := by decide +kernel
theorem own_d4_9 : decode prog_46_method_5_code 9 = .ok (.iconst 0, 1) := by decide +kernel
theorem own_d4_10 : decode prog_46_method_5_code 10 = .ok (.istore_n 3, 1) := by decide +kernel
theorem own_d4_11 : decode prog_46_method_5_code 11 = .ok (.iload_n 3, 1) := by decide +kernel
theorem own_d4_12 : decode prog_46_method_5_code 12 = .ok (.aload_n 0, 1) := by decide +kernel
theorem own_d4_13 : decode prog_46_method_5_code 13 = .ok (.getfield 17, 3) := by decide +kernel
theorem own_d4_16 : decode prog_46_method_5_code 16 = .ok (.if_icmp .ge 40, 3) := by decide +kernel
theorem own_d4_56 : decode prog_46_method_5_code 56 = .ok (.aload_n 1, 1) := by decide +kernel
theorem own_d4_57 : decode prog_46_method_5_code 57 = .ok (.iload_n 2, 1) := by decide +kernel
theorem own_d4_58 : decode prog_46_method_5_code 58 = .ok (.invokestatic 38, 3) := by decide +kernel
theorem own_pd_5 : parseMethodDescriptor "([JI)[J" = some ⟨[(.array .long), .int], some (.array .long)⟩ := by decide +kernel
theorem own_d4_61 : decode prog_46_method_5_code 61 = .ok (.areturn, 1) := by decide +kernel
theorem own_pl_4 : plainFor (⟨"com/example/ledgerwire/ledgerwire/store/Entries", "records", "()[J"⟩ : MethodName) = true := plainFor_of_name (by first | (simp [plainName, overriddenIn]; done) | decide +kernel)
theorem own_d4_19 : decode prog_46_method_5_code 19 = .ok (.iload_n 2, 1) := by decide +kernel
theorem own_d4_20 : decode prog_46_method_5_code 20 = .ok (.ifCond .eq 18, 3) := by decide +kernel
theorem own_d4_38 : decode prog_46_method_5_code 38 = .ok (.aload_n 1, 1) := by decide +kernel
theorem own_d4_39 : decode prog_46_method_5_code 39 = .ok (.iload_n 2, 1) := by decide +kernel
theorem own_d4_40 : decode prog_46_method_5_code 40 = .ok (.iinc 2 1, 3) := by decide +kernel
theorem own_d4_43 : decode prog_46_method_5_code 43 = .ok (.aload_n 0, 1) := by decide +kernel
theorem own_d4_44 : decode prog_46_method_5_code 44 = .ok (.getfield 7, 3) := by decide +kernel
theorem own_d4_47 : decode prog_46_method_5_code 47 = .ok (.iload_n 3, 1) := by decide +kernel
theorem own_d4_48 : decode prog_46_method_5_code 48 = .ok (.laload, 1) := by decide +kernel
theorem own_d4_49 : decode prog_46_method_5_code 49 = .ok (.lastore, 1) := by decide +kernel
theorem own_d4_50 : decode prog_46_method_5_code 50 = .ok (.iinc 3 1, 3) := by decide +kernel
theorem own_d4_53 : decode prog_46_method_5_code 53 = .ok (.goto (-42), 3) := by decide +kernel
theorem own_d4_23 : decode prog_46_method_5_code 23 = .ok (.aload_n 1, 1) := by decide +kernel
theorem own_d4_24 : decode prog_46_method_5_code 24 = .ok (.iload_n 2, 1) := by decide +kernel
theorem own_d4_25 : decode prog_46_method_5_code 25 = .ok (.iconst 1, 1) := by decide +kernel
theorem own_d4_26 : decode prog_46_method_5_code 26 = .ok (.isub, 1) := by decide +kernel
theorem own_d4_27 : decode prog_46_method_5_code 27 = .ok (.laload, 1) := by decide +kernel
theorem own_d4_28 : decode prog_46_method_5_code 28 = .ok (.aload_n 0, 1) := by decide +kernel
theorem own_d4_29 : decode prog_46_method_5_code 29 = .ok (.getfield 7, 3) := by decide +kernel
theorem own_d4_32 : decode prog_46_method_5_code 32 = .ok (.iload_n 3, 1) := by decide +kernel
theorem own_d4_33 : decode prog_46_method_5_code 33 = .ok (.laload, 1) := by decide +kernel
theorem own_d4_34 : decode prog_46_method_5_code 34 = .ok (.lcmp, 1) := by decide +kernel
theorem own_d4_35 : decode prog_46_method_5_code 35 = .ok (.ifCond .eq 15, 3) := by decide +kernel
theorem own_ef_6 (p1 : Addr) (p2 : Int32) (p3 : Int64)  (m : MethodId) : entryFrame m #[(.ref p1), (.int p2), (.long p3)] 4 = mkF m 0 #[.val (.ref p1), .val (.int p2), .val (.long p3), .second] [] := by first | (simp [entryFrame, mkF, argsToLocals, Value.category]; done) | rfl
theorem own_d6_0 : decode method_4_code 0 = .ok (.iload_n 1, 1) := by decide +kernel
theorem own_d6_1 : decode method_4_code 1 = .ok (.ifCond .le 11, 3) := by decide +kernel
theorem own_d6_12 : decode method_4_code 12 = .ok (.iload_n 1, 1) := by decide +kernel
theorem own_d6_13 : decode method_4_code 13 = .ok (.iconst 1, 1) := by decide +kernel
theorem own_d6_14 : decode method_4_code 14 = .ok (.if_icmp .le 11, 3) := by decide +kernel
theorem own_d6_25 : decode method_4_code 25 = .ok (.iload_n 1, 1) := by decide +kernel
theorem own_d6_26 : decode method_4_code 26 = .ok (.iconst 2, 1) := by decide +kernel
theorem own_d6_27 : decode method_4_code 27 = .ok (.if_icmp .le 11, 3) := by decide +kernel
theorem own_d6_38 : decode method_4_code 38 = .ok (.iload_n 1, 1) := by decide +kernel
theorem own_d6_39 : decode method_4_code 39 = .ok (.iconst 3, 1) := by decide +kernel
theorem own_d6_40 : decode method_4_code 40 = .ok (.if_icmp .le 15, 3) := by decide +kernel
theorem own_d6_55 : decode method_4_code 55 = .ok (.iconst 0, 1) := by decide +kernel
theorem own_d6_56 : decode method_4_code 56 = .ok (.ireturn, 1) := by decide +kernel
theorem own_d6_43 : decode method_4_code 43 = .ok (.aload_n 0, 1) := by decide +kernel
theorem own_d6_44 : decode method_4_code 44 = .ok (.iconst 3, 1) := by decide +kernel
theorem own_d6_45 : decode method_4_code 45 = .ok (.laload, 1) := by decide +kernel
theorem own_d6_46 : decode method_4_code 46 = .ok (.lload_n 2, 1) := by decide +kernel
theorem own_d6_47 : decode method_4_code 47 = .ok (.lcmp, 1) := by decide +kernel
theorem own_d6_48 : decode method_4_code 48 = .ok (.ifCond .ne 7, 3) := by decide +kernel
theorem own_d6_51 : decode method_4_code 51 = .ok (.iconst 1, 1) := by decide +kernel
theorem own_d6_52 : decode method_4_code 52 = .ok (.goto 4, 3) := by decide +kernel
theorem own_d6_30 : decode method_4_code 30 = .ok (.aload_n 0, 1) := by decide +kernel
theorem own_d6_31 : decode method_4_code 31 = .ok (.iconst 2, 1) := by decide +kernel
theorem own_d6_32 : decode method_4_code 32 = .ok (.laload, 1) := by decide +kernel
theorem own_d6_33 : decode method_4_code 33 = .ok (.lload_n 2, 1) := by decide +kernel
theorem own_d6_34 : decode method_4_code 34 = .ok (.lcmp, 1) := by decide +kernel
theorem own_d6_35 : decode method_4_code 35 = .ok (.ifCond .eq 16, 3) := by decide +kernel
theorem own_d6_17 : decode method_4_code 17 = .ok (.aload_n 0, 1) := by decide +kernel
theorem own_d6_18 : decode method_4_code 18 = .ok (.iconst 1, 1) := by decide +kernel
theorem own_d6_19 : decode method_4_code 19 = .ok (.laload, 1) := by decide +kernel
theorem own_d6_20 : decode method_4_code 20 = .ok (.lload_n 2, 1) := by decide +kernel
theorem own_d6_21 : decode method_4_code 21 = .ok (.lcmp, 1) := by decide +kernel
theorem own_d6_22 : decode method_4_code 22 = .ok (.ifCond .eq 29, 3) := by decide +kernel
theorem own_d6_4 : decode method_4_code 4 = .ok (.aload_n 0, 1) := by decide +kernel
theorem own_d6_5 : decode method_4_code 5 = .ok (.iconst 0, 1) := by decide +kernel
theorem own_d6_6 : decode method_4_code 6 = .ok (.laload, 1) := by decide +kernel
theorem own_d6_7 : decode method_4_code 7 = .ok (.lload_n 2, 1) := by decide +kernel
theorem own_d6_8 : decode method_4_code 8 = .ok (.lcmp, 1) := by decide +kernel
theorem own_d6_9 : decode method_4_code 9 = .ok (.ifCond .eq 42, 3) := by decide +kernel
theorem own_pl_6 : plainFor (⟨"com/example/ledgerwire/ledgerwire/store/EntriesRecordsPinLaw", "inS", "([JIJ)Z"⟩ : MethodName) = true := plainFor_of_name (by first | (simp [plainName, overriddenIn]; done) | decide +kernel)
theorem own_ef_7 (p1 : Addr) (p2 : Int64)  (m : MethodId) : entryFrame m #[(.ref p1), (.long p2)] 3 = mkF m 0 #[.val (.ref p1), .val (.long p2), .second] [] := by first | (simp [entryFrame, mkF, argsToLocals, Value.category]; done) | rfl
theorem own_d7_0 : decode method_5_code 0 = .ok (.aload_n 0, 1) := by decide +kernel
theorem own_d7_1 : decode method_5_code 1 = .ok (.arraylength, 1) := by decide +kernel
theorem own_d7_2 : decode method_5_code 2 = .ok (.ifCond .le 11, 3) := by decide +kernel
theorem own_d7_13 : decode method_5_code 13 = .ok (.aload_n 0, 1) := by decide +kernel
theorem own_d7_14 : decode method_5_code 14 = .ok (.arraylength, 1) := by decide +kernel
theorem own_d7_15 : decode method_5_code 15 = .ok (.iconst 1, 1) := by decide +kernel
theorem own_d7_16 : decode method_5_code 16 = .ok (.if_icmp .le 11, 3) := by decide +kernel
theorem own_d7_27 : decode method_5_code 27 = .ok (.aload_n 0, 1) := by decide +kernel
theorem own_d7_28 : decode method_5_code 28 = .ok (.arraylength, 1) := by decide +kernel
theorem own_d7_29 : decode method_5_code 29 = .ok (.iconst 2, 1) := by decide +kernel
theorem own_d7_30 : decode method_5_code 30 = .ok (.if_icmp .le 11, 3) := by decide +kernel
theorem own_d7_41 : decode method_5_code 41 = .ok (.aload_n 0, 1) := by decide +kernel
theorem own_d7_42 : decode method_5_code 42 = .ok (.arraylength, 1) := by decide +kernel
theorem own_d7_43 : decode method_5_code 43 = .ok (.iconst 3, 1) := by decide +kernel
theorem own_d7_44 : decode method_5_code 44 = .ok (.if_icmp .le 15, 3) := by decide +kernel
theorem own_d7_59 : decode method_5_code 59 = .ok (.iconst 0, 1) := by decide +kernel
theorem own_d7_60 : decode method_5_code 60 = .ok (.ireturn, 1) := by decide +kernel
theorem own_d7_47 : decode method_5_code 47 = .ok (.aload_n 0, 1) := by decide +kernel
theorem own_d7_48 : decode method_5_code 48 = .ok (.iconst 3, 1) := by decide +kernel
theorem own_d7_49 : decode method_5_code 49 = .ok (.laload, 1) := by decide +kernel
theorem own_d7_50 : decode method_5_code 50 = .ok (.lload_n 1, 1) := by decide +kernel
theorem own_d7_51 : decode method_5_code 51 = .ok (.lcmp, 1) := by decide +kernel
theorem own_d7_52 : decode method_5_code 52 = .ok (.ifCond .ne 7, 3) := by decide +kernel
theorem own_d7_55 : decode method_5_code 55 = .ok (.iconst 1, 1) := by decide +kernel
theorem own_d7_56 : decode method_5_code 56 = .ok (.goto 4, 3) := by decide +kernel
theorem own_d7_33 : decode method_5_code 33 = .ok (.aload_n 0, 1) := by decide +kernel
theorem own_d7_34 : decode method_5_code 34 = .ok (.iconst 2, 1) := by decide +kernel
theorem own_d7_35 : decode method_5_code 35 = .ok (.laload, 1) := by decide +kernel
theorem own_d7_36 : decode method_5_code 36 = .ok (.lload_n 1, 1) := by decide +kernel
theorem own_d7_37 : decode method_5_code 37 = .ok (.lcmp, 1) := by decide +kernel
theorem own_d7_38 : decode method_5_code 38 = .ok (.ifCond .eq 17, 3) := by decide +kernel
theorem own_d7_19 : decode method_5_code 19 = .ok (.aload_n 0, 1) := by decide +kernel
theorem own_d7_20 : decode method_5_code 20 = .ok (.iconst 1, 1) := by decide +kernel
theorem own_d7_21 : decode method_5_code 21 = .ok (.laload, 1) := by decide +kernel
theorem own_d7_22 : decode method_5_code 22 = .ok (.lload_n 1, 1) := by decide +kernel
theorem own_d7_23 : decode method_5_code 23 = .ok (.lcmp, 1) := by decide +kernel
theorem own_d7_24 : decode method_5_code 24 = .ok (.ifCond .eq 31, 3) := by decide +kernel
theorem own_d7_5 : decode method_5_code 5 = .ok (.aload_n 0, 1) := by decide +kernel
theorem own_d7_6 : decode method_5_code 6 = .ok (.iconst 0, 1) := by decide +kernel
theorem own_d7_7 : decode method_5_code 7 = .ok (.laload, 1) := by decide +kernel
theorem own_d7_8 : decode method_5_code 8 = .ok (.lload_n 1, 1) := by decide +kernel
theorem own_d7_9 : decode method_5_code 9 = .ok (.lcmp, 1) := by decide +kernel
theorem own_d7_10 : decode method_5_code 10 = .ok (.ifCond .eq 45, 3) := by decide +kernel
theorem own_pl_7 : plainFor (⟨"com/example/ledgerwire/ledgerwire/store/EntriesRecordsPinLaw", "inR", "([JJ)Z"⟩ : MethodName) = true := plainFor_of_name (by first | (simp [plainName, overriddenIn]; done) | decide +kernel)
theorem own_ef_0 (p0 : Int64) (p1 : Int64) (p2 : Int64) (p3 : Int64) (p4 : Int32) (p5 : Int32)  (m : MethodId) : entryFrame m #[(.long p0), (.long p1), (.long p2), (.long p3), (.int p4), (.int p5)] maxLocals = mkF m 0 #[.val (.long p0), .second, .val (.long p1), .second, .val (.long p2), .second, .val (.long p3), .second, .val (.int p4), .val (.int p5), .unset, .unset, .unset, .unset, .unset, .unset] [] := by first | (simp [entryFrame, mkF, argsToLocals, Value.category, maxLocals]; done) | rfl
theorem own_pd_6 : parseMethodDescriptor "([JII)V" = some ⟨[(.array .long), .int, .int], none⟩ := by decide +kernel
theorem own_pd_9 : parseMethodDescriptor "([J[II)V" = some ⟨[(.array .long), (.array .int), .int], none⟩ := by decide +kernel
theorem own_pd_2 : parseMethodDescriptor "()[J" = some ⟨[], some (.array .long)⟩ := by decide +kernel
theorem own_pd_7 : parseMethodDescriptor "([JIJ)Z" = some ⟨[(.array .long), .int, .long], some .boolean⟩ := by decide +kernel
theorem own_pd_8 : parseMethodDescriptor "([JJ)Z" = some ⟨[(.array .long), .long], some .boolean⟩ := by decide +kernel
theorem own_pl_0 : plainFor x = true := plainFor_of_name (by first | (simp [plainName, overriddenIn]; done) | decide +kernel)
def own_lo (a b : Int64) : Int64 := if a.toInt ≤ b.toInt then a else b
def own_hi (a b : Int64) : Int64 := if a.toInt ≤ b.toInt then b else a
theorem own_lohi (a b : Int64) : ((own_lo a b).toInt = a.toInt ∧ (own_hi a b).toInt = b.toInt ∧ a.toInt ≤ b.toInt) ∨ ((own_lo a b).toInt = b.toInt ∧ (own_hi a b).toInt = a.toInt ∧ b.toInt < a.toInt) := by
  unfold own_lo own_hi
  by_cases h : a.toInt ≤ b.toInt
  · rw [if_pos h, if_pos h]; exact Or.inl ⟨rfl, rfl, h⟩
  · rw [if_neg h, if_neg h]; exact Or.inr ⟨rfl, rfl, by omega⟩
theorem own_setself {vs : List Value} {i : Nat} {d x : Value} (hi : i < vs.length) (h : vs.getD i d = x) : vs.set i x = vs := by
  rw [← h, List.getD_eq_getElem?_getD, List.getElem?_eq_getElem hi]
  exact List.set_getElem_self hi
theorem own_noswap {vs : List Value} {i j : Nat} {d : Value} {a b : Int64} (hi : i < vs.length) (hj : j < vs.length) (ha : vs.getD i d = .long a) (hb : vs.getD j d = .long b) (h : a.toInt ≤ b.toInt) : (vs.set i (.long (own_lo a b))).set j (.long (own_hi a b)) = vs := by
  unfold own_lo own_hi
  rw [if_pos h, if_pos h, own_setself hi ha, own_setself hj hb]
theorem own_swap {vs : List Value} {i j : Nat} {a b : Int64} (h : b.toInt < a.toInt) : (vs.set i (.long (own_lo a b))).set j (.long (own_hi a b)) = (vs.set i (.long b)).set j (.long a) := by
  unfold own_lo own_hi
  rw [if_neg (by omega), if_neg (by omega)]
def own_go (last : Int64) : List Int64 → List Int64
  | [] => []
  | x :: xs => if last.toInt = x.toInt then own_go last xs else x :: own_go x xs
def own_dd : List Int64 → List Int64
  | [] => []
  | w :: ws => w :: own_go w ws
theorem own_g0 {l : Int64} : own_go l [] = [] := rfl
theorem own_ge {l x : Int64} {xs : List Int64} (h : l.toInt = x.toInt) : own_go l (x :: xs) = own_go l xs := if_pos h
theorem own_gn {l x : Int64} {xs : List Int64} (h : ¬ l.toInt = x.toInt) : own_go l (x :: xs) = x :: own_go x xs := if_neg h
def own_in (z el0 el1 el2 el3 v : Int) : Int32 := if (0 < z ∧ el0 = v) ∨ (1 < z ∧ el1 = v) ∨ (2 < z ∧ el2 = v) ∨ (3 < z ∧ el3 = v) then 1 else 0
theorem own_in1 {z el0 el1 el2 el3 v : Int} (h : (0 < z ∧ el0 = v) ∨ (1 < z ∧ el1 = v) ∨ (2 < z ∧ el2 = v) ∨ (3 < z ∧ el3 = v)) : own_in z el0 el1 el2 el3 v = 1 := if_pos h
theorem own_in0 {z el0 el1 el2 el3 v : Int} (h : ¬ ((0 < z ∧ el0 = v) ∨ (1 < z ∧ el1 = v) ∨ (2 < z ∧ el2 = v) ∨ (3 < z ∧ el3 = v))) : own_in z el0 el1 el2 el3 v = 0 := if_neg h
theorem own_nar1 : nar .boolean (1 : Int32) = 1 := by decide
theorem own_nar0 : nar .boolean (0 : Int32) = 0 := by decide
theorem own_tk {vs : List Value} {n : Nat} (d : Value) (h : n ≤ vs.length) : (List.replicate n d).take 0 ++ ((List.range n).map fun i => vs.getD (0 + i) d) ++ (List.replicate n d).drop (0 + n) = vs.take n := by
  simp only [List.take_zero, List.nil_append, Nat.zero_add, List.drop_replicate, Nat.sub_self, List.replicate_zero, List.append_nil]
  refine List.ext_getElem (by simp; omega) fun i h1 h2 => ?_
  simp at h1
  simp [List.getD_eq_getElem?_getD, List.getElem?_eq_getElem (show i < vs.length by omega)]
theorem own_minv {a b : Int32} (h : b.toInt ≤ a.toInt) {n : Nat} (hn : b.toInt = n) : (if b.toInt < a.toInt then b else a).toInt = n := by split <;> omega
theorem own_len5 (x : Int32) : ((x &&& (7 : Int32)) % (5 : Int32)) = 0 ∨ ((x &&& (7 : Int32)) % (5 : Int32)) = 1 ∨ ((x &&& (7 : Int32)) % (5 : Int32)) = 2 ∨ ((x &&& (7 : Int32)) % (5 : Int32)) = 3 ∨ ((x &&& (7 : Int32)) % (5 : Int32)) = 4 := by
  have h := Jvm.Kit.i32_mask x 7 (k := 3) (by decide) (by decide)
  have e := Jvm.Kit.i32_rem_nonneg (x := x &&& 7) (y := 5) (by omega)
  rw [show (5 : Int32).toInt = 5 from by decide] at e
  have q : ((x &&& (7 : Int32)) % (5 : Int32)).toInt = 0 ∨ ((x &&& (7 : Int32)) % (5 : Int32)).toInt = 1 ∨ ((x &&& (7 : Int32)) % (5 : Int32)).toInt = 2 ∨ ((x &&& (7 : Int32)) % (5 : Int32)).toInt = 3 ∨ ((x &&& (7 : Int32)) % (5 : Int32)).toInt = 4 := by omega
  rcases q with q | q | q | q | q
  · exact Or.inl (Int32.toInt_inj.mp (by rw [q]; decide))
  · exact Or.inr (Or.inl (Int32.toInt_inj.mp (by rw [q]; decide)))
  · exact Or.inr (Or.inr (Or.inl (Int32.toInt_inj.mp (by rw [q]; decide))))
  · exact Or.inr (Or.inr (Or.inr (Or.inl (Int32.toInt_inj.mp (by rw [q]; decide)))))
  · exact Or.inr (Or.inr (Or.inr (Or.inr (Int32.toInt_inj.mp (by rw [q]; decide)))))

def own_Qmet8 (h0 : Heap) (p1 : Int32) (p2 : Int32) (v : Option Value) (h : Heap) (L : List Loc) : Prop := v = some (.int (if p2.toInt < p1.toInt then p2 else p1)) ∧ h = h0 ∧ L = []
set_option maxRecDepth 65536 in
set_option maxHeartbeats 40000000 in
theorem own_met8 (l : Launch) (Z : State) (a0 : Array Value) (hw : ∀ d ∈ tables_1, d.before a0 Z = true) (h0 : Heap) (p1 : Int32) (p2 : Int32)  :
    MetFree l (⟨"java/lang/Math", "min", "(II)I"⟩ : MethodName) (head1 [Jvm.Cond.code (⟨"java/lang/Math", "min", "(II)I"⟩ : MethodName) jdk_29_method_69_code 2 (some .int)] ({ frames := 0, cells := 0, slots := 0, locals := 0 } : Room)) (fun a U => a = #[(.int p1), (.int p2)] ∧ Z.Warmed39 U.vm ∧ U.heap = h0) (fun _ _ _ _ _ => True) (fun _ U o U' => ∃ v L, o = .returned v ∧ (own_Qmet8 h0 p1 p2 ) v U'.heap L ∧ FrameEnd U o U' L ({ frames := 0, cells := 0, slots := 0, locals := 0 } : Room).cells ({ frames := 0, cells := 0, slots := 0, locals := 0 } : Room).slots) := by
  refine OwnK.met (Q := (own_Qmet8 h0 p1 p2 )) (C := ({ frames := 0, cells := 0, slots := 0, locals := 0 } : Room).cells) (N := ({ frames := 0, cells := 0, slots := 0, locals := 0 } : Room).slots) own_pl_8 (own_ef_8 p1 p2) ?_
  intro p e s m below meth c T0 X0 hx hZ hby hml hown hnm hret hlk e0
  refine OwnK.iloadN X0 hx (hb hby own_d8_0) (pc' := 1) rfl (v := p1) rfl ?_
  refine OwnK.iloadN X0 hx (hb hby own_d8_1) (pc' := 2) rfl (v := p2) rfl ?_
  refine OwnK.icmp_gt X0 hx (hb hby own_d8_2) (by decide) (pcT := 9) (by decide) (pc' := 5) rfl (fun (hc1 : p2.toInt < p1.toInt) => ?_) (fun (hc1 : p1.toInt ≤ p2.toInt) => ?_)
  · refine OwnK.iloadN X0 hx (hb hby own_d8_9) (pc' := 10) rfl (v := p2) rfl ?_
    refine OwnK.retI_ X0 hx hret hlk (hb hby own_d8_10) (by decide) (by decide) ?_
    exact ⟨by first | rw [if_pos (by assumption)] | rw [if_neg (by omega)], e0, rfl⟩
  · refine OwnK.iloadN X0 hx (hb hby own_d8_5) (pc' := 6) rfl (v := p1) rfl ?_
    refine OwnK.goto_ X0 hx (hb hby own_d8_6) (by decide) (pc' := 10) (by decide) ?_
    refine OwnK.retI_ X0 hx hret hlk (hb hby own_d8_10) (by decide) (by decide) ?_
    exact ⟨by first | rw [if_pos (by assumption)] | rw [if_neg (by omega)], e0, rfl⟩
def own_Qmet1 (Z : State) (h0 : Heap) (n0 : Nat) (p1 : Addr) (p2 : Int32) (p3 : Int32) (kA : ClassId) (vs : List Value) (i j : Nat) (ei ej : Int64) (v : Option Value) (h : Heap) (L : List Loc) : Prop := v = none ∧ Fr n0 L ∧ Keep h0 h [p1] ∧ Arv Z h p1 kA .long (4 : Int32) ((vs.set i (.long (own_lo ei ej))).set j (.long (own_hi ei ej))) (.long (0 : Int64))
set_option maxRecDepth 65536 in
set_option maxHeartbeats 40000000 in
theorem own_met1 (l : Launch) (Z : State) (a0 : Array Value) (hw : ∀ d ∈ tables_1, d.before a0 Z = true) (h0 : Heap) (n0 : Nat) (Z0 : n0 ≤ h0.size) (p1 : Addr) (p2 : Int32) (p3 : Int32) (kA : ClassId) (vs : List Value) (i j : Nat) (ei ej : Int64) (ge_p1 : n0 ≤ p1) (V0 : Arv Z h0 p1 kA .long (4 : Int32) vs (.long (0 : Int64))) (hi : p2.toInt = i) (hj : p3.toInt = j) (hi4 : i < 4) (hj4 : j < 4) (hl : vs.length = 4) (hvi : vs.getD i (.long (0 : Int64)) = .long ei) (hvj : vs.getD j (.long (0 : Int64)) = .long ej) :
    MetFree l (⟨"com/example/ledgerwire/ledgerwire/store/EntriesRecordsPinLaw", "cs", "([JII)V"⟩ : MethodName) (head1 [Jvm.Cond.code (⟨"com/example/ledgerwire/ledgerwire/store/EntriesRecordsPinLaw", "cs", "([JII)V"⟩ : MethodName) method_3_code 5 none] ({ frames := 0, cells := 0, slots := 0, locals := 0 } : Room)) (fun a U => a = #[(.ref p1), (.int p2), (.int p3)] ∧ Z.Warmed39 U.vm ∧ U.heap = h0) (fun _ _ _ _ _ => True) (fun _ U o U' => ∃ v L, o = .returned v ∧ (own_Qmet1 Z h0 n0 p1 p2 p3 kA vs i j ei ej) v U'.heap L ∧ FrameEnd U o U' L ({ frames := 0, cells := 0, slots := 0, locals := 0 } : Room).cells ({ frames := 0, cells := 0, slots := 0, locals := 0 } : Room).slots) := by
  refine OwnK.met (Q := (own_Qmet1 Z h0 n0 p1 p2 p3 kA vs i j ei ej)) (C := ({ frames := 0, cells := 0, slots := 0, locals := 0 } : Room).cells) (N := ({ frames := 0, cells := 0, slots := 0, locals := 0 } : Room).slots) own_pl_1 (own_ef_1 p1 p2 p3) ?_
  intro p e s m below meth c T0 X0 hx hZ hby hml hown hnm hret hlk e0
  have N0 := Fr.nil n0
  have K0 := Keep.refl h0 [p1]
  refine OwnK.aloadN X0 hx (hb hby own_d1_0) (pc' := 1) rfl (v := (.ref p1)) rfl rfl ?_
  refine OwnK.iloadN X0 hx (hb hby own_d1_1) (pc' := 2) rfl (v := p2) rfl ?_
  refine OwnK.laload X0 hx hZ e0 V0 (by omega) (by show _ < (4 : Int); omega) (v := (.long ei)) (by rw [OwnK.jnat hi]; exact hvi) (hb hby own_d1_2) (pc' := 3) rfl ?_
  refine OwnK.aloadN X0 hx (hb hby own_d1_3) (pc' := 4) rfl (v := (.ref p1)) rfl rfl ?_
  refine OwnK.iloadN X0 hx (hb hby own_d1_4) (pc' := 5) rfl (v := p3) rfl ?_
  refine OwnK.laload X0 hx hZ e0 V0 (by omega) (by show _ < (4 : Int); omega) (v := (.long ej)) (by rw [OwnK.jnat hj]; exact hvj) (hb hby own_d1_5) (pc' := 6) rfl ?_
  refine OwnK.lcmp_le X0 hx (hb hby own_d1_6) (pc1 := 7) rfl (hb hby own_d1_7) (by decide) (pcT := 24) (by decide) (pc' := 10) rfl (fun (hc1 : ei.toInt ≤ ej.toInt) => ?_) (fun (hc1 : ej.toInt < ei.toInt) => ?_)
  · refine OwnK.retV_ X0 hx hret hlk (hb hby own_d1_24) (by decide) (by decide) ?_
    rw [show T0.heap = h0 from e0]
    exact ⟨rfl, N0, K0, by rw [own_noswap (by omega) (by omega) hvi hvj (by assumption)]; exact V0⟩
  · refine OwnK.aloadN X0 hx (hb hby own_d1_10) (pc' := 11) rfl (v := (.ref p1)) rfl rfl ?_
    refine OwnK.iloadN X0 hx (hb hby own_d1_11) (pc' := 12) rfl (v := p2) rfl ?_
    refine OwnK.laload X0 hx hZ e0 V0 (by omega) (by show _ < (4 : Int); omega) (v := (.long ei)) (by rw [OwnK.jnat hi]; exact hvi) (hb hby own_d1_12) (pc' := 13) rfl ?_
    refine OwnK.lstoreN X0 hx (hb hby own_d1_13) (pc' := 14) rfl (Ls' := #[.val (.ref p1), .val (.int p2), .val (.int p3), .val (.long ei), .second]) rfl ?_
    refine OwnK.aloadN X0 hx (hb hby own_d1_14) (pc' := 15) rfl (v := (.ref p1)) rfl rfl ?_
    refine OwnK.iloadN X0 hx (hb hby own_d1_15) (pc' := 16) rfl (v := p2) rfl ?_
    refine OwnK.aloadN X0 hx (hb hby own_d1_16) (pc' := 17) rfl (v := (.ref p1)) rfl rfl ?_
    refine OwnK.iloadN X0 hx (hb hby own_d1_17) (pc' := 18) rfl (v := p3) rfl ?_
    refine OwnK.laload X0 hx hZ e0 V0 (by omega) (by show _ < (4 : Int); omega) (v := (.long ej)) (by rw [OwnK.jnat hj]; exact hvj) (hb hby own_d1_18) (pc' := 19) rfl ?_
    refine OwnK.lastore X0 hx hZ e0 V0 (i := i) hi (by show _ < (4 : Int); omega) (by first | omega | (simp; omega)) (hb hby own_d1_19) (pc' := 20) rfl (fun T2 h2 X2 e2 W2 V2 => ?_)
    have N3 := Fr.snoc X2 N0 ge_p1
    have K4 := K0.wr W2 (Or.inl (List.mem_of_getElem? (i := 0) rfl))
    have z5 : n0 ≤ h2.size := Nat.le_trans Z0 (Keep.of_wr W2).1
    refine OwnK.aloadN X2 hx (hb hby own_d1_20) (pc' := 21) rfl (v := (.ref p1)) rfl rfl ?_
    refine OwnK.iloadN X2 hx (hb hby own_d1_21) (pc' := 22) rfl (v := p3) rfl ?_
    refine OwnK.lloadN X2 hx (hb hby own_d1_22) (pc' := 23) rfl (v := ei) rfl ?_
    refine OwnK.lastore X2 hx hZ e2 V2 (i := j) hj (by show _ < (4 : Int); omega) (by first | omega | (simp; omega)) (hb hby own_d1_23) (pc' := 24) rfl (fun T6 h6 X6 e6 W6 V6 => ?_)
    have N7 := Fr.snoc X6 N3 ge_p1
    have K8 := K4.wr W6 (Or.inl (List.mem_of_getElem? (i := 0) rfl))
    have z9 : n0 ≤ h6.size := Nat.le_trans z5 (Keep.of_wr W6).1
    refine OwnK.retV_ X6 hx hret hlk (hb hby own_d1_24) (by decide) (by decide) ?_
    rw [show T6.heap = h6 from e6]
    exact ⟨rfl, N7, K8, by rw [own_swap (by assumption)]; exact V6⟩
def own_Qmet2 (Z : State) (h0 : Heap) (n0 : Nat) (p1 : Addr) (p2 : Addr) (p3 : Addr) (p4 : Int32) (v : Option Value) (h : Heap) (L : List Loc) : Prop := v = none ∧ Fr n0 L ∧ Keep h0 h [p1] ∧ Exa Z h p1 "com/example/ledgerwire/ledgerwire/store/Entries" ∧ Fld Z h p1 "com/example/ledgerwire/ledgerwire/store/Entries" "seqs" "[J" (.ref p2) ∧ Fld Z h p1 "com/example/ledgerwire/ledgerwire/store/Entries" "size" "I" (.int p4)
set_option maxRecDepth 65536 in
set_option maxHeartbeats 40000000 in
theorem own_met2 (l : Launch) (Z : State) (a0 : Array Value) (hw : ∀ d ∈ tables_1, d.before a0 Z = true) (h0 : Heap) (n0 : Nat) (Z0 : n0 ≤ h0.size) (p1 : Addr) (p2 : Addr) (p3 : Addr) (p4 : Int32)  (ge_p1 : n0 ≤ p1) (F_seqs : Fld Z h0 p1 "com/example/ledgerwire/ledgerwire/store/Entries" "seqs" "[J" .null) (F_parts : Fld Z h0 p1 "com/example/ledgerwire/ledgerwire/store/Entries" "parts" "[I" .null) (F_size : Fld Z h0 p1 "com/example/ledgerwire/ledgerwire/store/Entries" "size" "I" (.int (0 : Int32))) (E0 : Exa Z h0 p1 "com/example/ledgerwire/ledgerwire/store/Entries") :
    MetFree l (⟨"com/example/ledgerwire/ledgerwire/store/Entries", "<init>", "([J[II)V"⟩ : MethodName) (head1 [Jvm.Cond.code (⟨"com/example/ledgerwire/ledgerwire/store/Entries", "<init>", "([J[II)V"⟩ : MethodName) prog_46_method_1_code 4 none] ({ frames := 1, cells := 0, slots := 0, locals := 12 } : Room)) (fun a U => a = #[(.ref p1), (.ref p2), (.ref p3), (.int p4)] ∧ Z.Warmed39 U.vm ∧ U.heap = h0) (fun _ _ _ _ _ => True) (fun _ U o U' => ∃ v L, o = .returned v ∧ (own_Qmet2 Z h0 n0 p1 p2 p3 p4 ) v U'.heap L ∧ FrameEnd U o U' L ({ frames := 1, cells := 0, slots := 0, locals := 12 } : Room).cells ({ frames := 1, cells := 0, slots := 0, locals := 12 } : Room).slots) := by
  refine OwnK.met (Q := (own_Qmet2 Z h0 n0 p1 p2 p3 p4 )) (C := ({ frames := 1, cells := 0, slots := 0, locals := 12 } : Room).cells) (N := ({ frames := 1, cells := 0, slots := 0, locals := 12 } : Room).slots) own_pl_2 (own_ef_2 p1 p2 p3 p4) ?_
  intro p e s m below meth c T0 X0 hx hZ hby hml hown hnm hret hlk e0
  have N0 := Fr.nil n0
  have K0 := Keep.refl h0 [p1]
  refine OwnK.aloadN X0 hx (hb hby own_d2_0) (pc' := 1) rfl (v := (.ref p1)) rfl rfl ?_
  refine OwnK.initO_ X0 hx hZ hown (hw _ (List.mem_of_getElem? (i := 12) rfl)) (hw _ (List.mem_of_getElem? (i := 13) rfl)) (hw _ (List.mem_of_getElem? (i := 14) rfl)) e0 (by rw [hml]; rfl) (hb hby own_d2_1) (pc' := 4) rfl (by decide) (W := 0) (Nat.le_of_eq rfl) (by decide) (fun T1 X1 e1 => ?_)
  refine OwnK.aloadN X1 hx (hb hby own_d2_4) (pc' := 5) rfl (v := (.ref p1)) rfl rfl ?_
  refine OwnK.aloadN X1 hx (hb hby own_d2_5) (pc' := 6) rfl (v := (.ref p2)) rfl rfl ?_
  refine OwnK.putF_ X1 hx hZ hown (hw _ (List.mem_of_getElem? (i := 15) rfl)) Via.refl e1 F_seqs E0 (Or.inr ⟨(hw _ (List.mem_of_getElem? (i := 16) rfl)), rfl, hnm⟩) (hw _ (List.mem_of_getElem? (i := 7) rfl)) (ty := (.array .long)) (by decide) (v' := (.ref p2)) rfl rfl (hb hby own_d2_6) (pc' := 9) rfl (fun T2 h2 X2 e2 W2 => ?_)
  have f3 := F_seqs.same W2
  have f4 := F_parts.other W2 (Or.inr (slot_ne (Or.inr (hw _ (List.mem_of_getElem? (i := 18) rfl))) (Or.inr (hw _ (List.mem_of_getElem? (i := 16) rfl))) (by decide) (t := (.array .int)) (t' := (.array .long)) (by decide) (by decide)))
  have f5 := F_size.other W2 (Or.inr (slot_ne (Or.inr (hw _ (List.mem_of_getElem? (i := 20) rfl))) (Or.inr (hw _ (List.mem_of_getElem? (i := 16) rfl))) (by decide) (t := .int) (t' := (.array .long)) (by decide) (by decide)))
  have f6 := E0.wr W2
  have N7 := Fr.snoc X2 N0 ge_p1
  have K8 := K0.wr W2 (Or.inl (List.mem_of_getElem? (i := 0) rfl))
  have z9 : n0 ≤ h2.size := Nat.le_trans Z0 (Keep.of_wr W2).1
  refine OwnK.aloadN X2 hx (hb hby own_d2_9) (pc' := 10) rfl (v := (.ref p1)) rfl rfl ?_
  refine OwnK.aloadN X2 hx (hb hby own_d2_10) (pc' := 11) rfl (v := (.ref p3)) rfl rfl ?_
  refine OwnK.putF_ X2 hx hZ hown (hw _ (List.mem_of_getElem? (i := 17) rfl)) Via.refl e2 f4 f6 (Or.inr ⟨(hw _ (List.mem_of_getElem? (i := 18) rfl)), rfl, hnm⟩) (hw _ (List.mem_of_getElem? (i := 7) rfl)) (ty := (.array .int)) (by decide) (v' := (.ref p3)) rfl rfl (hb hby own_d2_11) (pc' := 14) rfl (fun T10 h10 X10 e10 W10 => ?_)
  have f11 := f4.same W10
  have f12 := f3.other W10 (Or.inr (slot_ne (Or.inr (hw _ (List.mem_of_getElem? (i := 16) rfl))) (Or.inr (hw _ (List.mem_of_getElem? (i := 18) rfl))) (by decide) (t := (.array .long)) (t' := (.array .int)) (by decide) (by decide)))
  have f13 := f5.other W10 (Or.inr (slot_ne (Or.inr (hw _ (List.mem_of_getElem? (i := 20) rfl))) (Or.inr (hw _ (List.mem_of_getElem? (i := 18) rfl))) (by decide) (t := .int) (t' := (.array .int)) (by decide) (by decide)))
  have f14 := f6.wr W10
  have N15 := Fr.snoc X10 N7 ge_p1
  have K16 := K8.wr W10 (Or.inl (List.mem_of_getElem? (i := 0) rfl))
  have z17 : n0 ≤ h10.size := Nat.le_trans z9 (Keep.of_wr W10).1
  refine OwnK.aloadN X10 hx (hb hby own_d2_14) (pc' := 15) rfl (v := (.ref p1)) rfl rfl ?_
  refine OwnK.iloadN X10 hx (hb hby own_d2_15) (pc' := 16) rfl (v := p4) rfl ?_
  refine OwnK.putF_ X10 hx hZ hown (hw _ (List.mem_of_getElem? (i := 19) rfl)) Via.refl e10 f13 f14 (Or.inr ⟨(hw _ (List.mem_of_getElem? (i := 20) rfl)), rfl, hnm⟩) (hw _ (List.mem_of_getElem? (i := 7) rfl)) (ty := .int) (by decide) (v' := (.int p4)) rfl rfl (hb hby own_d2_16) (pc' := 19) rfl (fun T18 h18 X18 e18 W18 => ?_)
  have f19 := f13.same W18
  have f20 := f12.other W18 (Or.inr (slot_ne (Or.inr (hw _ (List.mem_of_getElem? (i := 16) rfl))) (Or.inr (hw _ (List.mem_of_getElem? (i := 20) rfl))) (by decide) (t := (.array .long)) (t' := .int) (by decide) (by decide)))
  have f21 := f11.other W18 (Or.inr (slot_ne (Or.inr (hw _ (List.mem_of_getElem? (i := 18) rfl))) (Or.inr (hw _ (List.mem_of_getElem? (i := 20) rfl))) (by decide) (t := (.array .int)) (t' := .int) (by decide) (by decide)))
  have f22 := f14.wr W18
  have N23 := Fr.snoc X18 N15 ge_p1
  have K24 := K16.wr W18 (Or.inl (List.mem_of_getElem? (i := 0) rfl))
  have z25 : n0 ≤ h18.size := Nat.le_trans z17 (Keep.of_wr W18).1
  refine OwnK.retV_ X18 hx hret hlk (hb hby own_d2_19) (by decide) (by decide) ?_
  rw [show T18.heap = h18 from e18]
  exact ⟨rfl, N23, K24, f22, f20, f19⟩
def own_Qmet5 (Z : State) (h0 : Heap) (n0 : Nat) (p1 : Addr) (p2 : Int32) (kA : ClassId) (vs : List Value) (z : Int32) (ZN N : Nat) (v : Option Value) (h : Heap) (L : List Loc) : Prop := ∃ r kR, v = some (.ref r) ∧ Fr n0 L ∧ Keep h0 h [] ∧ h0.size ≤ r ∧ Arv Z h r kR .long p2 (vs.take N) (.long (0 : Int64))
set_option maxRecDepth 65536 in
set_option maxHeartbeats 40000000 in
theorem own_met5 (l : Launch) (Z : State) (a0 : Array Value) (hw : ∀ d ∈ tables_1, d.before a0 Z = true) (h0 : Heap) (n0 : Nat) (Z0 : n0 ≤ h0.size) (p1 : Addr) (p2 : Int32) (kA : ClassId) (vs : List Value) (z : Int32) (ZN N : Nat) (V0 : Arv Z h0 p1 kA .long z vs (.long (0 : Int64))) (E0 : Exa Z h0 p1 "[J") (hz : z.toInt = ZN) (hn : p2.toInt = N) (hN4 : N ≤ ZN ∧ ZN ≤ 4) (hle : p2.toInt ≤ z.toInt) (hvl : vs.length = ZN) :
    MetFree l (⟨"java/util/Arrays", "copyOf", "([JI)[J"⟩ : MethodName) (head1 [Jvm.Cond.code (⟨"java/util/Arrays", "copyOf", "([JI)[J"⟩ : MethodName) jdk_65_method_124_code 3 (some (.array .long))] ({ frames := 1, cells := 1, slots := 4, locals := 40 } : Room)) (fun a U => a = #[(.ref p1), (.int p2)] ∧ Z.Warmed39 U.vm ∧ U.heap = h0) (fun _ _ _ _ _ => True) (fun _ U o U' => ∃ v L, o = .returned v ∧ (own_Qmet5 Z h0 n0 p1 p2 kA vs z ZN N) v U'.heap L ∧ FrameEnd U o U' L ({ frames := 1, cells := 1, slots := 4, locals := 40 } : Room).cells ({ frames := 1, cells := 1, slots := 4, locals := 40 } : Room).slots) := by
  refine OwnK.met (Q := (own_Qmet5 Z h0 n0 p1 p2 kA vs z ZN N)) (C := ({ frames := 1, cells := 1, slots := 4, locals := 40 } : Room).cells) (N := ({ frames := 1, cells := 1, slots := 4, locals := 40 } : Room).slots) own_pl_5 (own_ef_5 p1 p2) ?_
  intro p e s m below meth c T0 X0 hx hZ hby hml hown hnm hret hlk e0
  have N0 := Fr.nil n0
  have K0 := Keep.refl h0 []
  refine OwnK.iloadN X0 hx (hb hby own_d5_0) (pc' := 1) rfl (v := p2) rfl ?_
  refine OwnK.aloadN X0 hx (hb hby own_d5_1) (pc' := 2) rfl (v := (.ref p1)) rfl rfl ?_
  refine OwnK.arrlen X0 hx hZ e0 V0 (hb hby own_d5_2) (pc' := 3) rfl ?_
  refine OwnK.icmp_ne X0 hx (hb hby own_d5_3) (by decide) (pcT := 14) (by decide) (pc' := 6) rfl (fun (hc1 : ¬ p2.toInt = z.toInt) => ?_) (fun (hc1 : p2.toInt = z.toInt) => ?_)
  · refine OwnK.iloadN X0 hx (hb hby own_d5_14) (pc' := 15) rfl (v := p2) rfl ?_
    refine OwnK.newP_ X0 hx hZ (hw _ (List.mem_of_getElem? (i := 0) rfl)) e0 (hb hby own_d5_15) (pc' := 17) rfl (n := p2) (by omega) (cap := 4) (by omega) (by decide) (by decide) (by decide) (ad := "[J") (by decide) (fun T2 h2 a2 k2 X2 e2 g2 E2 V2 Q2 => ?_)
    have q3 : p1 ≠ a2 := Nat.ne_of_lt (Nat.lt_of_lt_of_le V0.lt (Nat.le_of_eq g2.symm))
    have ge_a2 : n0 ≤ a2 := Nat.le_trans Z0 (Nat.le_of_eq g2.symm)
    have sz_a2 : h0.size ≤ a2 := Nat.le_trans K0.1 (Nat.le_of_eq g2.symm)
    have z4 : n0 ≤ h2.size := Nat.le_trans Z0 E2.1
    have K5 := K0.ext E2
    have f6 := V0.ext E2
    have f7 := E0.ext E2
    refine OwnK.astoreN X2 hx (hb hby own_d5_17) (pc' := 18) rfl rfl (Ls' := #[.val (.ref p1), .val (.int p2), .val (.ref a2)]) rfl ?_
    refine OwnK.aloadN X2 hx (hb hby own_d5_18) (pc' := 19) rfl (v := (.ref p1)) rfl rfl ?_
    refine OwnK.iconst X2 hx (hb hby own_d5_19) (pc' := 20) rfl (v := (0 : Int32)) (by decide) ?_
    refine OwnK.aloadN X2 hx (hb hby own_d5_20) (pc' := 21) rfl (v := (.ref a2)) rfl rfl ?_
    refine OwnK.iconst X2 hx (hb hby own_d5_21) (pc' := 22) rfl (v := (0 : Int32)) (by decide) ?_
    refine OwnK.aloadN X2 hx (hb hby own_d5_22) (pc' := 23) rfl (v := (.ref p1)) rfl rfl ?_
    refine OwnK.arrlen X2 hx hZ e2 f6 (hb hby own_d5_23) (pc' := 24) rfl ?_
    refine OwnK.iloadN X2 hx (hb hby own_d5_24) (pc' := 25) rfl (v := p2) rfl ?_
    refine OwnK.callS_ X2 hx hZ hown (y := (⟨"java/lang/Math", "min", "(II)I"⟩ : MethodName)) (hw _ (List.mem_of_getElem? (i := 45) rfl)) (hw _ (List.mem_of_getElem? (i := 46) rfl)) (hw _ (List.mem_of_getElem? (i := 47) rfl)) (hw _ (List.mem_of_getElem? (i := 48) rfl)) (by decide) (own_met8 l Z a0 hw h2 z p2  ) (by decide) (W := 4) (by decide) e2 (by rw [hml]; rfl) own_pd_3 (argsL := [(.int z), (.int p2)]) rfl (S := [(.int (0 : Int32)), (.ref a2), (.int (0 : Int32)), (.ref p1)]) rfl (Nat.le_of_eq rfl) (hb hby own_d5_25) (pc' := 28) rfl (by decide) (by decide) (fun T8 v8 L8 X8 hQ8 => ?_)
    obtain ⟨rfl, e8, rfl⟩ := hQ8
    have N10 := Fr.app N0 (Fr.nil n0)
    have f13 := V2.pad (pad_rep [] (.long (0 : Int64)) N)
    refine OwnK.arraycopy_ X8 hx hZ hown (hw _ (List.mem_of_getElem? (i := 49) rfl)) (hw _ (List.mem_of_getElem? (i := 52) rfl)) (hw _ (List.mem_of_getElem? (i := 50) rfl)) (hw _ (List.mem_of_getElem? (i := 51) rfl)) e8 f6 f13 (Or.inl ⟨rfl, rfl⟩) (x := 0) (y := 0) (n := N) (by decide) (by decide) (own_minv hle hn) (by omega) (by omega) rfl (by simp) N10 ge_a2 (by rw [hml]; rfl) (hb hby own_d5_28) (pc' := 31) rfl (by decide) (W := 0) (Nat.le_of_eq rfl) (by decide) (fun T12 h12 L12 X12 e12 N12 K12 V12 => ?_)
    have K14 := K5.trans K12 (allS (Or.inr sz_a2) all0)
    refine OwnK.aloadN X12 hx (hb hby own_d5_31) (pc' := 32) rfl (v := (.ref a2)) rfl rfl ?_
    refine OwnK.retA_ X12 hx hret rfl rfl hlk (hb hby own_d5_32) (by decide) (by decide) ?_
    rw [show T12.heap = h12 from e12]
    exact ⟨a2, _, rfl, N12, K14, sz_a2, by rw [← own_tk (.long (0 : Int64)) (by omega)]; exact V12⟩
  · refine OwnK.aloadN X0 hx (hb hby own_d5_6) (pc' := 7) rfl (v := (.ref p1)) rfl rfl ?_
    refine OwnK.clone_ X0 hx hZ hown (ad := "[J") (hw _ (List.mem_of_getElem? (i := 30) rfl)) (hw _ (List.mem_of_getElem? (i := 31) rfl)) (hw _ (List.mem_of_getElem? (i := 35) rfl)) (hw _ (List.mem_of_getElem? (i := 33) rfl)) (hw _ (List.mem_of_getElem? (i := 34) rfl)) (hw _ (List.mem_of_getElem? (i := 36) rfl)) e0 V0 E0 (by rw [hml]; rfl) (hb hby own_d5_7) (pc' := 10) rfl (by decide) (W := 0) (cap := 4) (Nat.le_of_eq rfl) (by decide) (by omega) (by decide) (by decide) (fun T16 h16 b16 X16 e16 g16 E16 V16 Q16 => ?_)
    have q17 : p1 ≠ b16 := Nat.ne_of_lt (Nat.lt_of_lt_of_le V0.lt (Nat.le_of_eq g16.symm))
    have ge_b16 : n0 ≤ b16 := Nat.le_trans Z0 (Nat.le_of_eq g16.symm)
    have sz_b16 : h0.size ≤ b16 := Nat.le_trans K0.1 (Nat.le_of_eq g16.symm)
    have z18 : n0 ≤ h16.size := Nat.le_trans Z0 E16.1
    have K19 := K0.ext E16
    have f20 := V0.ext E16
    have f21 := E0.ext E16
    refine OwnK.cast_ X16 hx hZ hown (hw _ (List.mem_of_getElem? (i := 37) rfl)) e16 (Ins.self Q16) (hb hby own_d5_10) (pc' := 13) rfl (fun T22 X22 e22 => ?_)
    refine OwnK.retA_ X22 hx hret rfl rfl hlk (hb hby own_d5_13) (by decide) (by decide) ?_
    rw [show T22.heap = h16 from e22]
    exact ⟨b16, _, rfl, N0, K19, sz_b16, by rw [List.take_of_length_le (by omega), show p2 = z from Int32.toInt_inj.mp (by omega)]; exact V16⟩
def own_Qrec0 (Z : State) (h0 : Heap) (n0 : Nat) (p1 : Addr) (a : Addr) (kA : ClassId) (w0 w1 w2 w3 : Int64) (v : Option Value) (h : Heap) (L : List Loc) : Prop := ∃ r kR, v = some (.ref r) ∧ Fr n0 L ∧ Keep h0 h [] ∧ h0.size ≤ r ∧ Arv Z h r kR .long (Int32.ofNat (own_dd []).length) ((own_dd []).map Value.long) (.long (0 : Int64))
set_option maxRecDepth 65536 in
set_option maxHeartbeats 40000000 in
theorem own_rec0 (l : Launch) (Z : State) (a0 : Array Value) (hw : ∀ d ∈ tables_1, d.before a0 Z = true) (h0 : Heap) (n0 : Nat) (Z0 : n0 ≤ h0.size) (p1 : Addr) (a : Addr) (kA : ClassId) (w0 w1 w2 w3 : Int64) (F0 : Fld Z h0 p1 "com/example/ledgerwire/ledgerwire/store/Entries" "seqs" "[J" (.ref a)) (F1 : Fld Z h0 p1 "com/example/ledgerwire/ledgerwire/store/Entries" "size" "I" (.int (0 : Int32))) (V0 : Arv Z h0 a kA .long (4 : Int32) [(.long w0), (.long w1), (.long w2), (.long w3)] (.long (0 : Int64))) :
    MetFree l (⟨"com/example/ledgerwire/ledgerwire/store/Entries", "records", "()[J"⟩ : MethodName) (head1 [Jvm.Cond.code (⟨"com/example/ledgerwire/ledgerwire/store/Entries", "records", "()[J"⟩ : MethodName) prog_46_method_5_code 4 (some (.array .long))] ({ frames := 2, cells := 2, slots := 4, locals := 54 } : Room)) (fun a U => a = #[(.ref p1)] ∧ Z.Warmed39 U.vm ∧ U.heap = h0) (fun _ _ _ _ _ => True) (fun _ U o U' => ∃ v L, o = .returned v ∧ (own_Qrec0 Z h0 n0 p1 a kA w0 w1 w2 w3) v U'.heap L ∧ FrameEnd U o U' L ({ frames := 2, cells := 2, slots := 4, locals := 54 } : Room).cells ({ frames := 2, cells := 2, slots := 4, locals := 54 } : Room).slots) := by
  refine OwnK.met (Q := (own_Qrec0 Z h0 n0 p1 a kA w0 w1 w2 w3)) (C := ({ frames := 2, cells := 2, slots := 4, locals := 54 } : Room).cells) (N := ({ frames := 2, cells := 2, slots := 4, locals := 54 } : Room).slots) own_pl_4 (own_ef_4 p1) ?_
  intro p e s m below meth c T0 X0 hx hZ hby hml hown hnm hret hlk e0
  have N0 := Fr.nil n0
  have K0 := Keep.refl h0 []
  refine OwnK.aloadN X0 hx (hb hby own_d4_0) (pc' := 1) rfl (v := (.ref p1)) rfl rfl ?_
  refine OwnK.getF_ X0 hx hZ hown (host := "") (Or.inl (hw _ (List.mem_of_getElem? (i := 19) rfl))) Via.refl e0 F1 (hb hby own_d4_1) (pc' := 4) rfl (fun T1 X1 e1 => ?_)
  refine OwnK.newP_ X1 hx hZ (hw _ (List.mem_of_getElem? (i := 0) rfl)) e1 (hb hby own_d4_4) (pc' := 6) rfl (n := (0 : Int32)) (by decide) (cap := 0) (by decide) (by decide) (by decide) (by decide) (ad := "[J") (by decide) (fun T2 h2 a2 k2 X2 e2 g2 E2 V2 Q2 => ?_)
  have q3 : a ≠ a2 := Nat.ne_of_lt (Nat.lt_of_lt_of_le V0.lt (Nat.le_of_eq g2.symm))
  have q4 : p1 ≠ a2 := Nat.ne_of_lt (Nat.lt_of_lt_of_le F0.lt (Nat.le_of_eq g2.symm))
  have ge_a2 : n0 ≤ a2 := Nat.le_trans Z0 (Nat.le_of_eq g2.symm)
  have sz_a2 : h0.size ≤ a2 := Nat.le_trans K0.1 (Nat.le_of_eq g2.symm)
  have z5 : n0 ≤ h2.size := Nat.le_trans Z0 E2.1
  have K6 := K0.ext E2
  have f7 := F0.ext E2
  have f8 := F1.ext E2
  have f9 := V0.ext E2
  have f10 : Arv Z h2 a2 k2 .long (0 : Int32) [] (.long (0 : Int64)) := V2.pad (pad_rep [] (.long (0 : Int64)) 0)
  refine OwnK.astoreN X2 hx (hb hby own_d4_6) (pc' := 7) rfl rfl (Ls' := #[.val (.ref p1), .val (.ref a2), .unset, .unset]) rfl ?_
  refine OwnK.iconst X2 hx (hb hby own_d4_7) (pc' := 8) rfl (v := (0 : Int32)) (by decide) ?_
  refine OwnK.istoreN X2 hx (hb hby own_d4_8) (pc' := 9) rfl (Ls' := #[.val (.ref p1), .val (.ref a2), .val (.int (0 : Int32)), .unset]) rfl ?_
  refine OwnK.iconst X2 hx (hb hby own_d4_9) (pc' := 10) rfl (v := (0 : Int32)) (by decide) ?_
  refine OwnK.istoreN X2 hx (hb hby own_d4_10) (pc' := 11) rfl (Ls' := #[.val (.ref p1), .val (.ref a2), .val (.int (0 : Int32)), .val (.int (0 : Int32))]) rfl ?_
  refine OwnK.iloadN X2 hx (hb hby own_d4_11) (pc' := 12) rfl (v := (0 : Int32)) rfl ?_
  refine OwnK.aloadN X2 hx (hb hby own_d4_12) (pc' := 13) rfl (v := (.ref p1)) rfl rfl ?_
  refine OwnK.getF_ X2 hx hZ hown (host := "") (Or.inl (hw _ (List.mem_of_getElem? (i := 19) rfl))) Via.refl e2 f8 (hb hby own_d4_13) (pc' := 16) rfl (fun T11 X11 e11 => ?_)
  refine OwnK.icmp_ge X11 hx (hb hby own_d4_16) (by decide) (pcT := 56) (by decide) (pc' := 19) rfl (fun hc16 => ?_) (fun (hc16 : 0 < 0) => absurd hc16 (by decide))
  refine OwnK.aloadN X11 hx (hb hby own_d4_56) (pc' := 57) rfl (v := (.ref a2)) rfl rfl ?_
  refine OwnK.iloadN X11 hx (hb hby own_d4_57) (pc' := 58) rfl (v := (0 : Int32)) rfl ?_
  refine OwnK.callS_ X11 hx hZ hown (y := (⟨"java/util/Arrays", "copyOf", "([JI)[J"⟩ : MethodName)) (hw _ (List.mem_of_getElem? (i := 26) rfl)) (hw _ (List.mem_of_getElem? (i := 27) rfl)) (hw _ (List.mem_of_getElem? (i := 28) rfl)) (hw _ (List.mem_of_getElem? (i := 29) rfl)) (by decide) (own_met5 l Z a0 hw h2 n0 z5 a2 (0 : Int32) _ _ (0 : Int32) 0 0   f10 Q2 (by decide) (by decide) (by decide) (by decide) rfl ) (by decide) (W := 0) (by decide) e11 (by rw [hml]; rfl) own_pd_5 (argsL := [(.ref a2), (.int (0 : Int32))]) rfl (S := []) rfl (Nat.le_of_eq rfl) (hb hby own_d4_58) (pc' := 61) rfl (by decide) (by decide) (fun T12 v12 L12 X12 hQ12 => ?_)
  obtain ⟨r12, kr12, rfl, N12q, K12, hr12, V12⟩ := hQ12
  have N13 := Fr.app N0 N12q
  have q14 : a ≠ r12 := Nat.ne_of_lt (Nat.lt_of_lt_of_le f9.lt hr12)
  have q15 : a2 ≠ r12 := Nat.ne_of_lt (Nat.lt_of_lt_of_le f10.lt hr12)
  have q16 : p1 ≠ r12 := Nat.ne_of_lt (Nat.lt_of_lt_of_le f7.lt hr12)
  have ge_r12 : n0 ≤ r12 := Nat.le_trans z5 hr12
  have sz_r12 : h0.size ≤ r12 := Nat.le_trans K6.1 hr12
  have f17 := f7.keep K12 nin0
  have f18 := f8.keep K12 nin0
  have f19 := f9.keep K12 nin0
  have f20 := f10.keep K12 nin0
  have f21 := Q2.keep K12
  have z22 : n0 ≤ T12.heap.size := Nat.le_trans z5 K12.1
  have K23 := K6.trans K12 all0
  have f24 : Arv Z T12.heap r12 _ .long (0 : Int32) [] (.long (0 : Int64)) := V12
  refine OwnK.retA_ X12 hx hret rfl rfl hlk (hb hby own_d4_61) (by decide) (by decide) ?_
  exact ⟨r12, _, rfl, N13, K23, sz_r12, by rw [show own_dd [] = [] from by rfl]; exact f24⟩
def own_Qrec1 (Z : State) (h0 : Heap) (n0 : Nat) (p1 : Addr) (a : Addr) (kA : ClassId) (w0 w1 w2 w3 : Int64) (v : Option Value) (h : Heap) (L : List Loc) : Prop := ∃ r kR, v = some (.ref r) ∧ Fr n0 L ∧ Keep h0 h [] ∧ h0.size ≤ r ∧ Arv Z h r kR .long (Int32.ofNat (own_dd [w0]).length) ((own_dd [w0]).map Value.long) (.long (0 : Int64))
set_option maxRecDepth 65536 in
set_option maxHeartbeats 40000000 in
theorem own_rec1 (l : Launch) (Z : State) (a0 : Array Value) (hw : ∀ d ∈ tables_1, d.before a0 Z = true) (h0 : Heap) (n0 : Nat) (Z0 : n0 ≤ h0.size) (p1 : Addr) (a : Addr) (kA : ClassId) (w0 w1 w2 w3 : Int64) (F0 : Fld Z h0 p1 "com/example/ledgerwire/ledgerwire/store/Entries" "seqs" "[J" (.ref a)) (F1 : Fld Z h0 p1 "com/example/ledgerwire/ledgerwire/store/Entries" "size" "I" (.int (1 : Int32))) (V0 : Arv Z h0 a kA .long (4 : Int32) [(.long w0), (.long w1), (.long w2), (.long w3)] (.long (0 : Int64))) :
    MetFree l (⟨"com/example/ledgerwire/ledgerwire/store/Entries", "records", "()[J"⟩ : MethodName) (head1 [Jvm.Cond.code (⟨"com/example/ledgerwire/ledgerwire/store/Entries", "records", "()[J"⟩ : MethodName) prog_46_method_5_code 4 (some (.array .long))] ({ frames := 2, cells := 2, slots := 5, locals := 54 } : Room)) (fun a U => a = #[(.ref p1)] ∧ Z.Warmed39 U.vm ∧ U.heap = h0) (fun _ _ _ _ _ => True) (fun _ U o U' => ∃ v L, o = .returned v ∧ (own_Qrec1 Z h0 n0 p1 a kA w0 w1 w2 w3) v U'.heap L ∧ FrameEnd U o U' L ({ frames := 2, cells := 2, slots := 5, locals := 54 } : Room).cells ({ frames := 2, cells := 2, slots := 5, locals := 54 } : Room).slots) := by
  refine OwnK.met (Q := (own_Qrec1 Z h0 n0 p1 a kA w0 w1 w2 w3)) (C := ({ frames := 2, cells := 2, slots := 5, locals := 54 } : Room).cells) (N := ({ frames := 2, cells := 2, slots := 5, locals := 54 } : Room).slots) own_pl_4 (own_ef_4 p1) ?_
  intro p e s m below meth c T0 X0 hx hZ hby hml hown hnm hret hlk e0
  have N0 := Fr.nil n0
  have K0 := Keep.refl h0 []
  refine OwnK.aloadN X0 hx (hb hby own_d4_0) (pc' := 1) rfl (v := (.ref p1)) rfl rfl ?_
  refine OwnK.getF_ X0 hx hZ hown (host := "") (Or.inl (hw _ (List.mem_of_getElem? (i := 19) rfl))) Via.refl e0 F1 (hb hby own_d4_1) (pc' := 4) rfl (fun T1 X1 e1 => ?_)
  refine OwnK.newP_ X1 hx hZ (hw _ (List.mem_of_getElem? (i := 0) rfl)) e1 (hb hby own_d4_4) (pc' := 6) rfl (n := (1 : Int32)) (by decide) (cap := 1) (by decide) (by decide) (by decide) (by decide) (ad := "[J") (by decide) (fun T2 h2 a2 k2 X2 e2 g2 E2 V2 Q2 => ?_)
  have q3 : a ≠ a2 := Nat.ne_of_lt (Nat.lt_of_lt_of_le V0.lt (Nat.le_of_eq g2.symm))
  have q4 : p1 ≠ a2 := Nat.ne_of_lt (Nat.lt_of_lt_of_le F0.lt (Nat.le_of_eq g2.symm))
  have ge_a2 : n0 ≤ a2 := Nat.le_trans Z0 (Nat.le_of_eq g2.symm)
  have sz_a2 : h0.size ≤ a2 := Nat.le_trans K0.1 (Nat.le_of_eq g2.symm)
  have z5 : n0 ≤ h2.size := Nat.le_trans Z0 E2.1
  have K6 := K0.ext E2
  have f7 := F0.ext E2
  have f8 := F1.ext E2
  have f9 := V0.ext E2
  have f10 : Arv Z h2 a2 k2 .long (1 : Int32) [(.long (0 : Int64))] (.long (0 : Int64)) := V2.pad (pad_rep [] (.long (0 : Int64)) 1)
  refine OwnK.astoreN X2 hx (hb hby own_d4_6) (pc' := 7) rfl rfl (Ls' := #[.val (.ref p1), .val (.ref a2), .unset, .unset]) rfl ?_
  refine OwnK.iconst X2 hx (hb hby own_d4_7) (pc' := 8) rfl (v := (0 : Int32)) (by decide) ?_
  refine OwnK.istoreN X2 hx (hb hby own_d4_8) (pc' := 9) rfl (Ls' := #[.val (.ref p1), .val (.ref a2), .val (.int (0 : Int32)), .unset]) rfl ?_
  refine OwnK.iconst X2 hx (hb hby own_d4_9) (pc' := 10) rfl (v := (0 : Int32)) (by decide) ?_
  refine OwnK.istoreN X2 hx (hb hby own_d4_10) (pc' := 11) rfl (Ls' := #[.val (.ref p1), .val (.ref a2), .val (.int (0 : Int32)), .val (.int (0 : Int32))]) rfl ?_
  refine OwnK.iloadN X2 hx (hb hby own_d4_11) (pc' := 12) rfl (v := (0 : Int32)) rfl ?_
  refine OwnK.aloadN X2 hx (hb hby own_d4_12) (pc' := 13) rfl (v := (.ref p1)) rfl rfl ?_
  refine OwnK.getF_ X2 hx hZ hown (host := "") (Or.inl (hw _ (List.mem_of_getElem? (i := 19) rfl))) Via.refl e2 f8 (hb hby own_d4_13) (pc' := 16) rfl (fun T11 X11 e11 => ?_)
  refine OwnK.icmp_ge X11 hx (hb hby own_d4_16) (by decide) (pcT := 56) (by decide) (pc' := 19) rfl (fun (hc16 : 1 ≤ 0) => absurd hc16 (by decide)) (fun hc16 => ?_)
  refine OwnK.iloadN X11 hx (hb hby own_d4_19) (pc' := 20) rfl (v := (0 : Int32)) rfl ?_
  refine OwnK.if_eq X11 hx (hb hby own_d4_20) (by decide) (pcT := 38) (by decide) (pc' := 23) rfl (fun hc20 => ?_) (fun (hc20 : ¬ 0 = 0) => absurd hc20 (by decide))
  refine OwnK.aloadN X11 hx (hb hby own_d4_38) (pc' := 39) rfl (v := (.ref a2)) rfl rfl ?_
  refine OwnK.iloadN X11 hx (hb hby own_d4_39) (pc' := 40) rfl (v := (0 : Int32)) rfl ?_
  refine OwnK.iincL X11 hx (hb hby own_d4_40) (pc' := 43) rfl (x := (0 : Int32)) rfl (v := (1 : Int32)) (by decide) (Ls' := #[.val (.ref p1), .val (.ref a2), .val (.int (1 : Int32)), .val (.int (0 : Int32))]) rfl ?_
  refine OwnK.aloadN X11 hx (hb hby own_d4_43) (pc' := 44) rfl (v := (.ref p1)) rfl rfl ?_
  refine OwnK.getF_ X11 hx hZ hown (host := "") (Or.inl (hw _ (List.mem_of_getElem? (i := 15) rfl))) Via.refl e11 f7 (hb hby own_d4_44) (pc' := 47) rfl (fun T12 X12 e12 => ?_)
  refine OwnK.iloadN X12 hx (hb hby own_d4_47) (pc' := 48) rfl (v := (0 : Int32)) rfl ?_
  refine OwnK.laload X12 hx hZ e12 f9 (by decide) (by first | decide | omega) (v := (.long w0)) rfl (hb hby own_d4_48) (pc' := 49) rfl ?_
  refine OwnK.lastore X12 hx hZ e12 f10 (i := 0) (by decide) (by first | decide | omega) (Nat.le_of_ble_eq_true rfl) (hb hby own_d4_49) (pc' := 50) rfl (fun T13 h13 X13 e13 W13 V13 => ?_)
  have f14 := f7.other W13 (Or.inl q4)
  have f15 := f8.other W13 (Or.inl q4)
  have f16 := f9.other W13 q3
  have f17 := Q2.wr W13
  have f18 : Arv Z h13 a2 _ .long (1 : Int32) [(.long w0)] (.long (0 : Int64)) := V13
  have N19 := Fr.snoc X13 N0 ge_a2
  have K20 := K6.wr W13 (Or.inr sz_a2)
  have z21 : n0 ≤ h13.size := Nat.le_trans z5 (Keep.of_wr W13).1
  refine OwnK.iincL X13 hx (hb hby own_d4_50) (pc' := 53) rfl (x := (0 : Int32)) rfl (v := (1 : Int32)) (by decide) (Ls' := #[.val (.ref p1), .val (.ref a2), .val (.int (1 : Int32)), .val (.int (1 : Int32))]) rfl ?_
  refine OwnK.goto_ X13 hx (hb hby own_d4_53) (by decide) (pc' := 11) (by decide) ?_
  refine OwnK.iloadN X13 hx (hb hby own_d4_11) (pc' := 12) rfl (v := (1 : Int32)) rfl ?_
  refine OwnK.aloadN X13 hx (hb hby own_d4_12) (pc' := 13) rfl (v := (.ref p1)) rfl rfl ?_
  refine OwnK.getF_ X13 hx hZ hown (host := "") (Or.inl (hw _ (List.mem_of_getElem? (i := 19) rfl))) Via.refl e13 f15 (hb hby own_d4_13) (pc' := 16) rfl (fun T22 X22 e22 => ?_)
  refine OwnK.icmp_ge X22 hx (hb hby own_d4_16) (by decide) (pcT := 56) (by decide) (pc' := 19) rfl (fun hc16 => ?_) (fun (hc16 : 1 < 1) => absurd hc16 (by decide))
  refine OwnK.aloadN X22 hx (hb hby own_d4_56) (pc' := 57) rfl (v := (.ref a2)) rfl rfl ?_
  refine OwnK.iloadN X22 hx (hb hby own_d4_57) (pc' := 58) rfl (v := (1 : Int32)) rfl ?_
  refine OwnK.callS_ X22 hx hZ hown (y := (⟨"java/util/Arrays", "copyOf", "([JI)[J"⟩ : MethodName)) (hw _ (List.mem_of_getElem? (i := 26) rfl)) (hw _ (List.mem_of_getElem? (i := 27) rfl)) (hw _ (List.mem_of_getElem? (i := 28) rfl)) (hw _ (List.mem_of_getElem? (i := 29) rfl)) (by decide) (own_met5 l Z a0 hw h13 n0 z21 a2 (1 : Int32) _ _ (1 : Int32) 1 1   f18 f17 (by decide) (by decide) (by decide) (by decide) rfl ) (by decide) (W := 0) (by decide) e22 (by rw [hml]; rfl) own_pd_5 (argsL := [(.ref a2), (.int (1 : Int32))]) rfl (S := []) rfl (Nat.le_of_eq rfl) (hb hby own_d4_58) (pc' := 61) rfl (by decide) (by decide) (fun T23 v23 L23 X23 hQ23 => ?_)
  obtain ⟨r23, kr23, rfl, N23q, K23, hr23, V23⟩ := hQ23
  have N24 := Fr.app N19 N23q
  have q25 : a ≠ r23 := Nat.ne_of_lt (Nat.lt_of_lt_of_le f16.lt hr23)
  have q26 : a2 ≠ r23 := Nat.ne_of_lt (Nat.lt_of_lt_of_le f18.lt hr23)
  have q27 : p1 ≠ r23 := Nat.ne_of_lt (Nat.lt_of_lt_of_le f14.lt hr23)
  have ge_r23 : n0 ≤ r23 := Nat.le_trans z21 hr23
  have sz_r23 : h0.size ≤ r23 := Nat.le_trans K20.1 hr23
  have f28 := f14.keep K23 nin0
  have f29 := f15.keep K23 nin0
  have f30 := f16.keep K23 nin0
  have f31 := f18.keep K23 nin0
  have f32 := f17.keep K23
  have z33 : n0 ≤ T23.heap.size := Nat.le_trans z21 K23.1
  have K34 := K20.trans K23 all0
  have f35 : Arv Z T23.heap r23 _ .long (1 : Int32) [(.long w0)] (.long (0 : Int64)) := V23
  refine OwnK.retA_ X23 hx hret rfl rfl hlk (hb hby own_d4_61) (by decide) (by decide) ?_
  exact ⟨r23, _, rfl, N24, K34, sz_r23, by rw [show own_dd [w0] = [w0] from by show _ :: own_go _ _ = _; rw [own_g0]]; exact f35⟩
def own_Qrec2 (Z : State) (h0 : Heap) (n0 : Nat) (p1 : Addr) (a : Addr) (kA : ClassId) (w0 w1 w2 w3 : Int64) (v : Option Value) (h : Heap) (L : List Loc) : Prop := ∃ r kR, v = some (.ref r) ∧ Fr n0 L ∧ Keep h0 h [] ∧ h0.size ≤ r ∧ Arv Z h r kR .long (Int32.ofNat (own_dd [w0, w1]).length) ((own_dd [w0, w1]).map Value.long) (.long (0 : Int64))
set_option maxRecDepth 65536 in
set_option maxHeartbeats 40000000 in
theorem own_rec2 (l : Launch) (Z : State) (a0 : Array Value) (hw : ∀ d ∈ tables_1, d.before a0 Z = true) (h0 : Heap) (n0 : Nat) (Z0 : n0 ≤ h0.size) (p1 : Addr) (a : Addr) (kA : ClassId) (w0 w1 w2 w3 : Int64) (F0 : Fld Z h0 p1 "com/example/ledgerwire/ledgerwire/store/Entries" "seqs" "[J" (.ref a)) (F1 : Fld Z h0 p1 "com/example/ledgerwire/ledgerwire/store/Entries" "size" "I" (.int (2 : Int32))) (V0 : Arv Z h0 a kA .long (4 : Int32) [(.long w0), (.long w1), (.long w2), (.long w3)] (.long (0 : Int64))) :
    MetFree l (⟨"com/example/ledgerwire/ledgerwire/store/Entries", "records", "()[J"⟩ : MethodName) (head1 [Jvm.Cond.code (⟨"com/example/ledgerwire/ledgerwire/store/Entries", "records", "()[J"⟩ : MethodName) prog_46_method_5_code 4 (some (.array .long))] ({ frames := 2, cells := 2, slots := 6, locals := 54 } : Room)) (fun a U => a = #[(.ref p1)] ∧ Z.Warmed39 U.vm ∧ U.heap = h0) (fun _ _ _ _ _ => True) (fun _ U o U' => ∃ v L, o = .returned v ∧ (own_Qrec2 Z h0 n0 p1 a kA w0 w1 w2 w3) v U'.heap L ∧ FrameEnd U o U' L ({ frames := 2, cells := 2, slots := 6, locals := 54 } : Room).cells ({ frames := 2, cells := 2, slots := 6, locals := 54 } : Room).slots) := by
  refine OwnK.met (Q := (own_Qrec2 Z h0 n0 p1 a kA w0 w1 w2 w3)) (C := ({ frames := 2, cells := 2, slots := 6, locals := 54 } : Room).cells) (N := ({ frames := 2, cells := 2, slots := 6, locals := 54 } : Room).slots) own_pl_4 (own_ef_4 p1) ?_
  intro p e s m below meth c T0 X0 hx hZ hby hml hown hnm hret hlk e0
  have N0 := Fr.nil n0
  have K0 := Keep.refl h0 []
  refine OwnK.aloadN X0 hx (hb hby own_d4_0) (pc' := 1) rfl (v := (.ref p1)) rfl rfl ?_
  refine OwnK.getF_ X0 hx hZ hown (host := "") (Or.inl (hw _ (List.mem_of_getElem? (i := 19) rfl))) Via.refl e0 F1 (hb hby own_d4_1) (pc' := 4) rfl (fun T1 X1 e1 => ?_)
  refine OwnK.newP_ X1 hx hZ (hw _ (List.mem_of_getElem? (i := 0) rfl)) e1 (hb hby own_d4_4) (pc' := 6) rfl (n := (2 : Int32)) (by decide) (cap := 2) (by decide) (by decide) (by decide) (by decide) (ad := "[J") (by decide) (fun T2 h2 a2 k2 X2 e2 g2 E2 V2 Q2 => ?_)
  have q3 : a ≠ a2 := Nat.ne_of_lt (Nat.lt_of_lt_of_le V0.lt (Nat.le_of_eq g2.symm))
  have q4 : p1 ≠ a2 := Nat.ne_of_lt (Nat.lt_of_lt_of_le F0.lt (Nat.le_of_eq g2.symm))
  have ge_a2 : n0 ≤ a2 := Nat.le_trans Z0 (Nat.le_of_eq g2.symm)
  have sz_a2 : h0.size ≤ a2 := Nat.le_trans K0.1 (Nat.le_of_eq g2.symm)
  have z5 : n0 ≤ h2.size := Nat.le_trans Z0 E2.1
  have K6 := K0.ext E2
  have f7 := F0.ext E2
  have f8 := F1.ext E2
  have f9 := V0.ext E2
  have f10 : Arv Z h2 a2 k2 .long (2 : Int32) [(.long (0 : Int64)), (.long (0 : Int64))] (.long (0 : Int64)) := V2.pad (pad_rep [] (.long (0 : Int64)) 2)
  refine OwnK.astoreN X2 hx (hb hby own_d4_6) (pc' := 7) rfl rfl (Ls' := #[.val (.ref p1), .val (.ref a2), .unset, .unset]) rfl ?_
  refine OwnK.iconst X2 hx (hb hby own_d4_7) (pc' := 8) rfl (v := (0 : Int32)) (by decide) ?_
  refine OwnK.istoreN X2 hx (hb hby own_d4_8) (pc' := 9) rfl (Ls' := #[.val (.ref p1), .val (.ref a2), .val (.int (0 : Int32)), .unset]) rfl ?_
  refine OwnK.iconst X2 hx (hb hby own_d4_9) (pc' := 10) rfl (v := (0 : Int32)) (by decide) ?_
  refine OwnK.istoreN X2 hx (hb hby own_d4_10) (pc' := 11) rfl (Ls' := #[.val (.ref p1), .val (.ref a2), .val (.int (0 : Int32)), .val (.int (0 : Int32))]) rfl ?_
  refine OwnK.iloadN X2 hx (hb hby own_d4_11) (pc' := 12) rfl (v := (0 : Int32)) rfl ?_
  refine OwnK.aloadN X2 hx (hb hby own_d4_12) (pc' := 13) rfl (v := (.ref p1)) rfl rfl ?_
  refine OwnK.getF_ X2 hx hZ hown (host := "") (Or.inl (hw _ (List.mem_of_getElem? (i := 19) rfl))) Via.refl e2 f8 (hb hby own_d4_13) (pc' := 16) rfl (fun T11 X11 e11 => ?_)
  refine OwnK.icmp_ge X11 hx (hb hby own_d4_16) (by decide) (pcT := 56) (by decide) (pc' := 19) rfl (fun (hc16 : 2 ≤ 0) => absurd hc16 (by decide)) (fun hc16 => ?_)
  refine OwnK.iloadN X11 hx (hb hby own_d4_19) (pc' := 20) rfl (v := (0 : Int32)) rfl ?_
  refine OwnK.if_eq X11 hx (hb hby own_d4_20) (by decide) (pcT := 38) (by decide) (pc' := 23) rfl (fun hc20 => ?_) (fun (hc20 : ¬ 0 = 0) => absurd hc20 (by decide))
  refine OwnK.aloadN X11 hx (hb hby own_d4_38) (pc' := 39) rfl (v := (.ref a2)) rfl rfl ?_
  refine OwnK.iloadN X11 hx (hb hby own_d4_39) (pc' := 40) rfl (v := (0 : Int32)) rfl ?_
  refine OwnK.iincL X11 hx (hb hby own_d4_40) (pc' := 43) rfl (x := (0 : Int32)) rfl (v := (1 : Int32)) (by decide) (Ls' := #[.val (.ref p1), .val (.ref a2), .val (.int (1 : Int32)), .val (.int (0 : Int32))]) rfl ?_
  refine OwnK.aloadN X11 hx (hb hby own_d4_43) (pc' := 44) rfl (v := (.ref p1)) rfl rfl ?_
  refine OwnK.getF_ X11 hx hZ hown (host := "") (Or.inl (hw _ (List.mem_of_getElem? (i := 15) rfl))) Via.refl e11 f7 (hb hby own_d4_44) (pc' := 47) rfl (fun T12 X12 e12 => ?_)
  refine OwnK.iloadN X12 hx (hb hby own_d4_47) (pc' := 48) rfl (v := (0 : Int32)) rfl ?_
  refine OwnK.laload X12 hx hZ e12 f9 (by decide) (by first | decide | omega) (v := (.long w0)) rfl (hb hby own_d4_48) (pc' := 49) rfl ?_
  refine OwnK.lastore X12 hx hZ e12 f10 (i := 0) (by decide) (by first | decide | omega) (Nat.le_of_ble_eq_true rfl) (hb hby own_d4_49) (pc' := 50) rfl (fun T13 h13 X13 e13 W13 V13 => ?_)
  have f14 := f7.other W13 (Or.inl q4)
  have f15 := f8.other W13 (Or.inl q4)
  have f16 := f9.other W13 q3
  have f17 := Q2.wr W13
  have f18 : Arv Z h13 a2 _ .long (2 : Int32) [(.long w0), (.long (0 : Int64))] (.long (0 : Int64)) := V13
  have N19 := Fr.snoc X13 N0 ge_a2
  have K20 := K6.wr W13 (Or.inr sz_a2)
  have z21 : n0 ≤ h13.size := Nat.le_trans z5 (Keep.of_wr W13).1
  refine OwnK.iincL X13 hx (hb hby own_d4_50) (pc' := 53) rfl (x := (0 : Int32)) rfl (v := (1 : Int32)) (by decide) (Ls' := #[.val (.ref p1), .val (.ref a2), .val (.int (1 : Int32)), .val (.int (1 : Int32))]) rfl ?_
  refine OwnK.goto_ X13 hx (hb hby own_d4_53) (by decide) (pc' := 11) (by decide) ?_
  refine OwnK.iloadN X13 hx (hb hby own_d4_11) (pc' := 12) rfl (v := (1 : Int32)) rfl ?_
  refine OwnK.aloadN X13 hx (hb hby own_d4_12) (pc' := 13) rfl (v := (.ref p1)) rfl rfl ?_
  refine OwnK.getF_ X13 hx hZ hown (host := "") (Or.inl (hw _ (List.mem_of_getElem? (i := 19) rfl))) Via.refl e13 f15 (hb hby own_d4_13) (pc' := 16) rfl (fun T22 X22 e22 => ?_)
  refine OwnK.icmp_ge X22 hx (hb hby own_d4_16) (by decide) (pcT := 56) (by decide) (pc' := 19) rfl (fun (hc16 : 2 ≤ 1) => absurd hc16 (by decide)) (fun hc16 => ?_)
  refine OwnK.iloadN X22 hx (hb hby own_d4_19) (pc' := 20) rfl (v := (1 : Int32)) rfl ?_
  refine OwnK.if_eq X22 hx (hb hby own_d4_20) (by decide) (pcT := 38) (by decide) (pc' := 23) rfl (fun (hc20 : 1 = 0) => absurd hc20 (by decide)) (fun hc20 => ?_)
  refine OwnK.aloadN X22 hx (hb hby own_d4_23) (pc' := 24) rfl (v := (.ref a2)) rfl rfl ?_
  refine OwnK.iloadN X22 hx (hb hby own_d4_24) (pc' := 25) rfl (v := (1 : Int32)) rfl ?_
  refine OwnK.iconst X22 hx (hb hby own_d4_25) (pc' := 26) rfl (v := (1 : Int32)) (by decide) ?_
  refine OwnK.isubL X22 hx (hb hby own_d4_26) (pc' := 27) rfl (z := (0 : Int32)) (by decide) ?_
  refine OwnK.laload X22 hx hZ e22 f18 (by decide) (by first | decide | omega) (v := (.long w0)) rfl (hb hby own_d4_27) (pc' := 28) rfl ?_
  refine OwnK.aloadN X22 hx (hb hby own_d4_28) (pc' := 29) rfl (v := (.ref p1)) rfl rfl ?_
  refine OwnK.getF_ X22 hx hZ hown (host := "") (Or.inl (hw _ (List.mem_of_getElem? (i := 15) rfl))) Via.refl e22 f14 (hb hby own_d4_29) (pc' := 32) rfl (fun T23 X23 e23 => ?_)
  refine OwnK.iloadN X23 hx (hb hby own_d4_32) (pc' := 33) rfl (v := (1 : Int32)) rfl ?_
  refine OwnK.laload X23 hx hZ e23 f16 (by decide) (by first | decide | omega) (v := (.long w1)) rfl (hb hby own_d4_33) (pc' := 34) rfl ?_
  refine OwnK.lcmp_eq X23 hx (hb hby own_d4_34) (pc1 := 35) rfl (hb hby own_d4_35) (by decide) (pcT := 50) (by decide) (pc' := 38) rfl (fun (hc24 : w0.toInt = w1.toInt) => ?_) (fun (hc24 : ¬ w0.toInt = w1.toInt) => ?_)
  · refine OwnK.iincL X23 hx (hb hby own_d4_50) (pc' := 53) rfl (x := (1 : Int32)) rfl (v := (2 : Int32)) (by decide) (Ls' := #[.val (.ref p1), .val (.ref a2), .val (.int (1 : Int32)), .val (.int (2 : Int32))]) rfl ?_
    refine OwnK.goto_ X23 hx (hb hby own_d4_53) (by decide) (pc' := 11) (by decide) ?_
    refine OwnK.iloadN X23 hx (hb hby own_d4_11) (pc' := 12) rfl (v := (2 : Int32)) rfl ?_
    refine OwnK.aloadN X23 hx (hb hby own_d4_12) (pc' := 13) rfl (v := (.ref p1)) rfl rfl ?_
    refine OwnK.getF_ X23 hx hZ hown (host := "") (Or.inl (hw _ (List.mem_of_getElem? (i := 19) rfl))) Via.refl e23 f15 (hb hby own_d4_13) (pc' := 16) rfl (fun T25 X25 e25 => ?_)
    refine OwnK.icmp_ge X25 hx (hb hby own_d4_16) (by decide) (pcT := 56) (by decide) (pc' := 19) rfl (fun hc16 => ?_) (fun (hc16 : 2 < 2) => absurd hc16 (by decide))
    refine OwnK.aloadN X25 hx (hb hby own_d4_56) (pc' := 57) rfl (v := (.ref a2)) rfl rfl ?_
    refine OwnK.iloadN X25 hx (hb hby own_d4_57) (pc' := 58) rfl (v := (1 : Int32)) rfl ?_
    refine OwnK.callS_ X25 hx hZ hown (y := (⟨"java/util/Arrays", "copyOf", "([JI)[J"⟩ : MethodName)) (hw _ (List.mem_of_getElem? (i := 26) rfl)) (hw _ (List.mem_of_getElem? (i := 27) rfl)) (hw _ (List.mem_of_getElem? (i := 28) rfl)) (hw _ (List.mem_of_getElem? (i := 29) rfl)) (by decide) (own_met5 l Z a0 hw h13 n0 z21 a2 (1 : Int32) _ _ (2 : Int32) 2 1   f18 f17 (by decide) (by decide) (by decide) (by decide) rfl ) (by decide) (W := 0) (by decide) e25 (by rw [hml]; rfl) own_pd_5 (argsL := [(.ref a2), (.int (1 : Int32))]) rfl (S := []) rfl (Nat.le_of_eq rfl) (hb hby own_d4_58) (pc' := 61) rfl (by decide) (by decide) (fun T26 v26 L26 X26 hQ26 => ?_)
    obtain ⟨r26, kr26, rfl, N26q, K26, hr26, V26⟩ := hQ26
    have N27 := Fr.app N19 N26q
    have q28 : a ≠ r26 := Nat.ne_of_lt (Nat.lt_of_lt_of_le f16.lt hr26)
    have q29 : a2 ≠ r26 := Nat.ne_of_lt (Nat.lt_of_lt_of_le f18.lt hr26)
    have q30 : p1 ≠ r26 := Nat.ne_of_lt (Nat.lt_of_lt_of_le f14.lt hr26)
    have ge_r26 : n0 ≤ r26 := Nat.le_trans z21 hr26
    have sz_r26 : h0.size ≤ r26 := Nat.le_trans K20.1 hr26
    have f31 := f14.keep K26 nin0
    have f32 := f15.keep K26 nin0
    have f33 := f16.keep K26 nin0
    have f34 := f18.keep K26 nin0
    have f35 := f17.keep K26
    have z36 : n0 ≤ T26.heap.size := Nat.le_trans z21 K26.1
    have K37 := K20.trans K26 all0
    have f38 : Arv Z T26.heap r26 _ .long (1 : Int32) [(.long w0)] (.long (0 : Int64)) := V26
    refine OwnK.retA_ X26 hx hret rfl rfl hlk (hb hby own_d4_61) (by decide) (by decide) ?_
    exact ⟨r26, _, rfl, N27, K37, sz_r26, by rw [show own_dd [w0, w1] = [w0] from by show _ :: own_go _ _ = _; rw [own_ge hc24, own_g0]]; exact f38⟩
  · refine OwnK.aloadN X23 hx (hb hby own_d4_38) (pc' := 39) rfl (v := (.ref a2)) rfl rfl ?_
    refine OwnK.iloadN X23 hx (hb hby own_d4_39) (pc' := 40) rfl (v := (1 : Int32)) rfl ?_
    refine OwnK.iincL X23 hx (hb hby own_d4_40) (pc' := 43) rfl (x := (1 : Int32)) rfl (v := (2 : Int32)) (by decide) (Ls' := #[.val (.ref p1), .val (.ref a2), .val (.int (2 : Int32)), .val (.int (1 : Int32))]) rfl ?_
    refine OwnK.aloadN X23 hx (hb hby own_d4_43) (pc' := 44) rfl (v := (.ref p1)) rfl rfl ?_
    refine OwnK.getF_ X23 hx hZ hown (host := "") (Or.inl (hw _ (List.mem_of_getElem? (i := 15) rfl))) Via.refl e23 f14 (hb hby own_d4_44) (pc' := 47) rfl (fun T39 X39 e39 => ?_)
    refine OwnK.iloadN X39 hx (hb hby own_d4_47) (pc' := 48) rfl (v := (1 : Int32)) rfl ?_
    refine OwnK.laload X39 hx hZ e39 f16 (by decide) (by first | decide | omega) (v := (.long w1)) rfl (hb hby own_d4_48) (pc' := 49) rfl ?_
    refine OwnK.lastore X39 hx hZ e39 f18 (i := 1) (by decide) (by first | decide | omega) (Nat.le_of_ble_eq_true rfl) (hb hby own_d4_49) (pc' := 50) rfl (fun T40 h40 X40 e40 W40 V40 => ?_)
    have f41 := f14.other W40 (Or.inl q4)
    have f42 := f15.other W40 (Or.inl q4)
    have f43 := f16.other W40 q3
    have f44 := f17.wr W40
    have f45 : Arv Z h40 a2 _ .long (2 : Int32) [(.long w0), (.long w1)] (.long (0 : Int64)) := V40
    have N46 := Fr.snoc X40 N19 ge_a2
    have K47 := K20.wr W40 (Or.inr sz_a2)
    have z48 : n0 ≤ h40.size := Nat.le_trans z21 (Keep.of_wr W40).1
    refine OwnK.iincL X40 hx (hb hby own_d4_50) (pc' := 53) rfl (x := (1 : Int32)) rfl (v := (2 : Int32)) (by decide) (Ls' := #[.val (.ref p1), .val (.ref a2), .val (.int (2 : Int32)), .val (.int (2 : Int32))]) rfl ?_
    refine OwnK.goto_ X40 hx (hb hby own_d4_53) (by decide) (pc' := 11) (by decide) ?_
    refine OwnK.iloadN X40 hx (hb hby own_d4_11) (pc' := 12) rfl (v := (2 : Int32)) rfl ?_
    refine OwnK.aloadN X40 hx (hb hby own_d4_12) (pc' := 13) rfl (v := (.ref p1)) rfl rfl ?_
    refine OwnK.getF_ X40 hx hZ hown (host := "") (Or.inl (hw _ (List.mem_of_getElem? (i := 19) rfl))) Via.refl e40 f42 (hb hby own_d4_13) (pc' := 16) rfl (fun T49 X49 e49 => ?_)
    refine OwnK.icmp_ge X49 hx (hb hby own_d4_16) (by decide) (pcT := 56) (by decide) (pc' := 19) rfl (fun hc16 => ?_) (fun (hc16 : 2 < 2) => absurd hc16 (by decide))
    refine OwnK.aloadN X49 hx (hb hby own_d4_56) (pc' := 57) rfl (v := (.ref a2)) rfl rfl ?_
    refine OwnK.iloadN X49 hx (hb hby own_d4_57) (pc' := 58) rfl (v := (2 : Int32)) rfl ?_
    refine OwnK.callS_ X49 hx hZ hown (y := (⟨"java/util/Arrays", "copyOf", "([JI)[J"⟩ : MethodName)) (hw _ (List.mem_of_getElem? (i := 26) rfl)) (hw _ (List.mem_of_getElem? (i := 27) rfl)) (hw _ (List.mem_of_getElem? (i := 28) rfl)) (hw _ (List.mem_of_getElem? (i := 29) rfl)) (by decide) (own_met5 l Z a0 hw h40 n0 z48 a2 (2 : Int32) _ _ (2 : Int32) 2 2   f45 f44 (by decide) (by decide) (by decide) (by decide) rfl ) (by decide) (W := 0) (by decide) e49 (by rw [hml]; rfl) own_pd_5 (argsL := [(.ref a2), (.int (2 : Int32))]) rfl (S := []) rfl (Nat.le_of_eq rfl) (hb hby own_d4_58) (pc' := 61) rfl (by decide) (by decide) (fun T50 v50 L50 X50 hQ50 => ?_)
    obtain ⟨r50, kr50, rfl, N50q, K50, hr50, V50⟩ := hQ50
    have N51 := Fr.app N46 N50q
    have q52 : a ≠ r50 := Nat.ne_of_lt (Nat.lt_of_lt_of_le f43.lt hr50)
    have q53 : a2 ≠ r50 := Nat.ne_of_lt (Nat.lt_of_lt_of_le f45.lt hr50)
    have q54 : p1 ≠ r50 := Nat.ne_of_lt (Nat.lt_of_lt_of_le f41.lt hr50)
    have ge_r50 : n0 ≤ r50 := Nat.le_trans z48 hr50
    have sz_r50 : h0.size ≤ r50 := Nat.le_trans K47.1 hr50
    have f55 := f41.keep K50 nin0
    have f56 := f42.keep K50 nin0
    have f57 := f43.keep K50 nin0
    have f58 := f45.keep K50 nin0
    have f59 := f44.keep K50
    have z60 : n0 ≤ T50.heap.size := Nat.le_trans z48 K50.1
    have K61 := K47.trans K50 all0
    have f62 : Arv Z T50.heap r50 _ .long (2 : Int32) [(.long w0), (.long w1)] (.long (0 : Int64)) := V50
    refine OwnK.retA_ X50 hx hret rfl rfl hlk (hb hby own_d4_61) (by decide) (by decide) ?_
    exact ⟨r50, _, rfl, N51, K61, sz_r50, by rw [show own_dd [w0, w1] = [w0, w1] from by show _ :: own_go _ _ = _; rw [own_gn hc24, own_g0]]; exact f62⟩
def own_Qrec3 (Z : State) (h0 : Heap) (n0 : Nat) (p1 : Addr) (a : Addr) (kA : ClassId) (w0 w1 w2 w3 : Int64) (v : Option Value) (h : Heap) (L : List Loc) : Prop := ∃ r kR, v = some (.ref r) ∧ Fr n0 L ∧ Keep h0 h [] ∧ h0.size ≤ r ∧ Arv Z h r kR .long (Int32.ofNat (own_dd [w0, w1, w2]).length) ((own_dd [w0, w1, w2]).map Value.long) (.long (0 : Int64))
set_option maxRecDepth 65536 in
set_option maxHeartbeats 40000000 in
theorem own_rec3 (l : Launch) (Z : State) (a0 : Array Value) (hw : ∀ d ∈ tables_1, d.before a0 Z = true) (h0 : Heap) (n0 : Nat) (Z0 : n0 ≤ h0.size) (p1 : Addr) (a : Addr) (kA : ClassId) (w0 w1 w2 w3 : Int64) (F0 : Fld Z h0 p1 "com/example/ledgerwire/ledgerwire/store/Entries" "seqs" "[J" (.ref a)) (F1 : Fld Z h0 p1 "com/example/ledgerwire/ledgerwire/store/Entries" "size" "I" (.int (3 : Int32))) (V0 : Arv Z h0 a kA .long (4 : Int32) [(.long w0), (.long w1), (.long w2), (.long w3)] (.long (0 : Int64))) :
    MetFree l (⟨"com/example/ledgerwire/ledgerwire/store/Entries", "records", "()[J"⟩ : MethodName) (head1 [Jvm.Cond.code (⟨"com/example/ledgerwire/ledgerwire/store/Entries", "records", "()[J"⟩ : MethodName) prog_46_method_5_code 4 (some (.array .long))] ({ frames := 2, cells := 2, slots := 7, locals := 54 } : Room)) (fun a U => a = #[(.ref p1)] ∧ Z.Warmed39 U.vm ∧ U.heap = h0) (fun _ _ _ _ _ => True) (fun _ U o U' => ∃ v L, o = .returned v ∧ (own_Qrec3 Z h0 n0 p1 a kA w0 w1 w2 w3) v U'.heap L ∧ FrameEnd U o U' L ({ frames := 2, cells := 2, slots := 7, locals := 54 } : Room).cells ({ frames := 2, cells := 2, slots := 7, locals := 54 } : Room).slots) := by
  refine OwnK.met (Q := (own_Qrec3 Z h0 n0 p1 a kA w0 w1 w2 w3)) (C := ({ frames := 2, cells := 2, slots := 7, locals := 54 } : Room).cells) (N := ({ frames := 2, cells := 2, slots := 7, locals := 54 } : Room).slots) own_pl_4 (own_ef_4 p1) ?_
  intro p e s m below meth c T0 X0 hx hZ hby hml hown hnm hret hlk e0
  have N0 := Fr.nil n0
  have K0 := Keep.refl h0 []
  refine OwnK.aloadN X0 hx (hb hby own_d4_0) (pc' := 1) rfl (v := (.ref p1)) rfl rfl ?_
  refine OwnK.getF_ X0 hx hZ hown (host := "") (Or.inl (hw _ (List.mem_of_getElem? (i := 19) rfl))) Via.refl e0 F1 (hb hby own_d4_1) (pc' := 4) rfl (fun T1 X1 e1 => ?_)
  refine OwnK.newP_ X1 hx hZ (hw _ (List.mem_of_getElem? (i := 0) rfl)) e1 (hb hby own_d4_4) (pc' := 6) rfl (n := (3 : Int32)) (by decide) (cap := 3) (by decide) (by decide) (by decide) (by decide) (ad := "[J") (by decide) (fun T2 h2 a2 k2 X2 e2 g2 E2 V2 Q2 => ?_)
  have q3 : a ≠ a2 := Nat.ne_of_lt (Nat.lt_of_lt_of_le V0.lt (Nat.le_of_eq g2.symm))
  have q4 : p1 ≠ a2 := Nat.ne_of_lt (Nat.lt_of_lt_of_le F0.lt (Nat.le_of_eq g2.symm))
  have ge_a2 : n0 ≤ a2 := Nat.le_trans Z0 (Nat.le_of_eq g2.symm)
  have sz_a2 : h0.size ≤ a2 := Nat.le_trans K0.1 (Nat.le_of_eq g2.symm)
  have z5 : n0 ≤ h2.size := Nat.le_trans Z0 E2.1
  have K6 := K0.ext E2
  have f7 := F0.ext E2
  have f8 := F1.ext E2
  have f9 := V0.ext E2
  have f10 : Arv Z h2 a2 k2 .long (3 : Int32) [(.long (0 : Int64)), (.long (0 : Int64)), (.long (0 : Int64))] (.long (0 : Int64)) := V2.pad (pad_rep [] (.long (0 : Int64)) 3)
  refine OwnK.astoreN X2 hx (hb hby own_d4_6) (pc' := 7) rfl rfl (Ls' := #[.val (.ref p1), .val (.ref a2), .unset, .unset]) rfl ?_
  refine OwnK.iconst X2 hx (hb hby own_d4_7) (pc' := 8) rfl (v := (0 : Int32)) (by decide) ?_
  refine OwnK.istoreN X2 hx (hb hby own_d4_8) (pc' := 9) rfl (Ls' := #[.val (.ref p1), .val (.ref a2), .val (.int (0 : Int32)), .unset]) rfl ?_
  refine OwnK.iconst X2 hx (hb hby own_d4_9) (pc' := 10) rfl (v := (0 : Int32)) (by decide) ?_
  refine OwnK.istoreN X2 hx (hb hby own_d4_10) (pc' := 11) rfl (Ls' := #[.val (.ref p1), .val (.ref a2), .val (.int (0 : Int32)), .val (.int (0 : Int32))]) rfl ?_
  refine OwnK.iloadN X2 hx (hb hby own_d4_11) (pc' := 12) rfl (v := (0 : Int32)) rfl ?_
  refine OwnK.aloadN X2 hx (hb hby own_d4_12) (pc' := 13) rfl (v := (.ref p1)) rfl rfl ?_
  refine OwnK.getF_ X2 hx hZ hown (host := "") (Or.inl (hw _ (List.mem_of_getElem? (i := 19) rfl))) Via.refl e2 f8 (hb hby own_d4_13) (pc' := 16) rfl (fun T11 X11 e11 => ?_)
  refine OwnK.icmp_ge X11 hx (hb hby own_d4_16) (by decide) (pcT := 56) (by decide) (pc' := 19) rfl (fun (hc16 : 3 ≤ 0) => absurd hc16 (by decide)) (fun hc16 => ?_)
  refine OwnK.iloadN X11 hx (hb hby own_d4_19) (pc' := 20) rfl (v := (0 : Int32)) rfl ?_
  refine OwnK.if_eq X11 hx (hb hby own_d4_20) (by decide) (pcT := 38) (by decide) (pc' := 23) rfl (fun hc20 => ?_) (fun (hc20 : ¬ 0 = 0) => absurd hc20 (by decide))
  refine OwnK.aloadN X11 hx (hb hby own_d4_38) (pc' := 39) rfl (v := (.ref a2)) rfl rfl ?_
  refine OwnK.iloadN X11 hx (hb hby own_d4_39) (pc' := 40) rfl (v := (0 : Int32)) rfl ?_
  refine OwnK.iincL X11 hx (hb hby own_d4_40) (pc' := 43) rfl (x := (0 : Int32)) rfl (v := (1 : Int32)) (by decide) (Ls' := #[.val (.ref p1), .val (.ref a2), .val (.int (1 : Int32)), .val (.int (0 : Int32))]) rfl ?_
  refine OwnK.aloadN X11 hx (hb hby own_d4_43) (pc' := 44) rfl (v := (.ref p1)) rfl rfl ?_
  refine OwnK.getF_ X11 hx hZ hown (host := "") (Or.inl (hw _ (List.mem_of_getElem? (i := 15) rfl))) Via.refl e11 f7 (hb hby own_d4_44) (pc' := 47) rfl (fun T12 X12 e12 => ?_)
  refine OwnK.iloadN X12 hx (hb hby own_d4_47) (pc' := 48) rfl (v := (0 : Int32)) rfl ?_
  refine OwnK.laload X12 hx hZ e12 f9 (by decide) (by first | decide | omega) (v := (.long w0)) rfl (hb hby own_d4_48) (pc' := 49) rfl ?_
  refine OwnK.lastore X12 hx hZ e12 f10 (i := 0) (by decide) (by first | decide | omega) (Nat.le_of_ble_eq_true rfl) (hb hby own_d4_49) (pc' := 50) rfl (fun T13 h13 X13 e13 W13 V13 => ?_)
  have f14 := f7.other W13 (Or.inl q4)
  have f15 := f8.other W13 (Or.inl q4)
  have f16 := f9.other W13 q3
  have f17 := Q2.wr W13
  have f18 : Arv Z h13 a2 _ .long (3 : Int32) [(.long w0), (.long (0 : Int64)), (.long (0 : Int64))] (.long (0 : Int64)) := V13
  have N19 := Fr.snoc X13 N0 ge_a2
  have K20 := K6.wr W13 (Or.inr sz_a2)
  have z21 : n0 ≤ h13.size := Nat.le_trans z5 (Keep.of_wr W13).1
  refine OwnK.iincL X13 hx (hb hby own_d4_50) (pc' := 53) rfl (x := (0 : Int32)) rfl (v := (1 : Int32)) (by decide) (Ls' := #[.val (.ref p1), .val (.ref a2), .val (.int (1 : Int32)), .val (.int (1 : Int32))]) rfl ?_
  refine OwnK.goto_ X13 hx (hb hby own_d4_53) (by decide) (pc' := 11) (by decide) ?_
  refine OwnK.iloadN X13 hx (hb hby own_d4_11) (pc' := 12) rfl (v := (1 : Int32)) rfl ?_
  refine OwnK.aloadN X13 hx (hb hby own_d4_12) (pc' := 13) rfl (v := (.ref p1)) rfl rfl ?_
  refine OwnK.getF_ X13 hx hZ hown (host := "") (Or.inl (hw _ (List.mem_of_getElem? (i := 19) rfl))) Via.refl e13 f15 (hb hby own_d4_13) (pc' := 16) rfl (fun T22 X22 e22 => ?_)
  refine OwnK.icmp_ge X22 hx (hb hby own_d4_16) (by decide) (pcT := 56) (by decide) (pc' := 19) rfl (fun (hc16 : 3 ≤ 1) => absurd hc16 (by decide)) (fun hc16 => ?_)
  refine OwnK.iloadN X22 hx (hb hby own_d4_19) (pc' := 20) rfl (v := (1 : Int32)) rfl ?_
  refine OwnK.if_eq X22 hx (hb hby own_d4_20) (by decide) (pcT := 38) (by decide) (pc' := 23) rfl (fun (hc20 : 1 = 0) => absurd hc20 (by decide)) (fun hc20 => ?_)
  refine OwnK.aloadN X22 hx (hb hby own_d4_23) (pc' := 24) rfl (v := (.ref a2)) rfl rfl ?_
  refine OwnK.iloadN X22 hx (hb hby own_d4_24) (pc' := 25) rfl (v := (1 : Int32)) rfl ?_
  refine OwnK.iconst X22 hx (hb hby own_d4_25) (pc' := 26) rfl (v := (1 : Int32)) (by decide) ?_
  refine OwnK.isubL X22 hx (hb hby own_d4_26) (pc' := 27) rfl (z := (0 : Int32)) (by decide) ?_
  refine OwnK.laload X22 hx hZ e22 f18 (by decide) (by first | decide | omega) (v := (.long w0)) rfl (hb hby own_d4_27) (pc' := 28) rfl ?_
  refine OwnK.aloadN X22 hx (hb hby own_d4_28) (pc' := 29) rfl (v := (.ref p1)) rfl rfl ?_
  refine OwnK.getF_ X22 hx hZ hown (host := "") (Or.inl (hw _ (List.mem_of_getElem? (i := 15) rfl))) Via.refl e22 f14 (hb hby own_d4_29) (pc' := 32) rfl (fun T23 X23 e23 => ?_)
  refine OwnK.iloadN X23 hx (hb hby own_d4_32) (pc' := 33) rfl (v := (1 : Int32)) rfl ?_
  refine OwnK.laload X23 hx hZ e23 f16 (by decide) (by first | decide | omega) (v := (.long w1)) rfl (hb hby own_d4_33) (pc' := 34) rfl ?_
  refine OwnK.lcmp_eq X23 hx (hb hby own_d4_34) (pc1 := 35) rfl (hb hby own_d4_35) (by decide) (pcT := 50) (by decide) (pc' := 38) rfl (fun (hc24 : w0.toInt = w1.toInt) => ?_) (fun (hc24 : ¬ w0.toInt = w1.toInt) => ?_)
  · refine OwnK.iincL X23 hx (hb hby own_d4_50) (pc' := 53) rfl (x := (1 : Int32)) rfl (v := (2 : Int32)) (by decide) (Ls' := #[.val (.ref p1), .val (.ref a2), .val (.int (1 : Int32)), .val (.int (2 : Int32))]) rfl ?_
    refine OwnK.goto_ X23 hx (hb hby own_d4_53) (by decide) (pc' := 11) (by decide) ?_
    refine OwnK.iloadN X23 hx (hb hby own_d4_11) (pc' := 12) rfl (v := (2 : Int32)) rfl ?_
    refine OwnK.aloadN X23 hx (hb hby own_d4_12) (pc' := 13) rfl (v := (.ref p1)) rfl rfl ?_
    refine OwnK.getF_ X23 hx hZ hown (host := "") (Or.inl (hw _ (List.mem_of_getElem? (i := 19) rfl))) Via.refl e23 f15 (hb hby own_d4_13) (pc' := 16) rfl (fun T25 X25 e25 => ?_)
    refine OwnK.icmp_ge X25 hx (hb hby own_d4_16) (by decide) (pcT := 56) (by decide) (pc' := 19) rfl (fun (hc16 : 3 ≤ 2) => absurd hc16 (by decide)) (fun hc16 => ?_)
    refine OwnK.iloadN X25 hx (hb hby own_d4_19) (pc' := 20) rfl (v := (1 : Int32)) rfl ?_
    refine OwnK.if_eq X25 hx (hb hby own_d4_20) (by decide) (pcT := 38) (by decide) (pc' := 23) rfl (fun (hc20 : 1 = 0) => absurd hc20 (by decide)) (fun hc20 => ?_)
    refine OwnK.aloadN X25 hx (hb hby own_d4_23) (pc' := 24) rfl (v := (.ref a2)) rfl rfl ?_
    refine OwnK.iloadN X25 hx (hb hby own_d4_24) (pc' := 25) rfl (v := (1 : Int32)) rfl ?_
    refine OwnK.iconst X25 hx (hb hby own_d4_25) (pc' := 26) rfl (v := (1 : Int32)) (by decide) ?_
    refine OwnK.isubL X25 hx (hb hby own_d4_26) (pc' := 27) rfl (z := (0 : Int32)) (by decide) ?_
    refine OwnK.laload X25 hx hZ e25 f18 (by decide) (by first | decide | omega) (v := (.long w0)) rfl (hb hby own_d4_27) (pc' := 28) rfl ?_
    refine OwnK.aloadN X25 hx (hb hby own_d4_28) (pc' := 29) rfl (v := (.ref p1)) rfl rfl ?_
    refine OwnK.getF_ X25 hx hZ hown (host := "") (Or.inl (hw _ (List.mem_of_getElem? (i := 15) rfl))) Via.refl e25 f14 (hb hby own_d4_29) (pc' := 32) rfl (fun T26 X26 e26 => ?_)
    refine OwnK.iloadN X26 hx (hb hby own_d4_32) (pc' := 33) rfl (v := (2 : Int32)) rfl ?_
    refine OwnK.laload X26 hx hZ e26 f16 (by decide) (by first | decide | omega) (v := (.long w2)) rfl (hb hby own_d4_33) (pc' := 34) rfl ?_
    refine OwnK.lcmp_eq X26 hx (hb hby own_d4_34) (pc1 := 35) rfl (hb hby own_d4_35) (by decide) (pcT := 50) (by decide) (pc' := 38) rfl (fun (hc27 : w0.toInt = w2.toInt) => ?_) (fun (hc27 : ¬ w0.toInt = w2.toInt) => ?_)
    · refine OwnK.iincL X26 hx (hb hby own_d4_50) (pc' := 53) rfl (x := (2 : Int32)) rfl (v := (3 : Int32)) (by decide) (Ls' := #[.val (.ref p1), .val (.ref a2), .val (.int (1 : Int32)), .val (.int (3 : Int32))]) rfl ?_
      refine OwnK.goto_ X26 hx (hb hby own_d4_53) (by decide) (pc' := 11) (by decide) ?_
      refine OwnK.iloadN X26 hx (hb hby own_d4_11) (pc' := 12) rfl (v := (3 : Int32)) rfl ?_
      refine OwnK.aloadN X26 hx (hb hby own_d4_12) (pc' := 13) rfl (v := (.ref p1)) rfl rfl ?_
      refine OwnK.getF_ X26 hx hZ hown (host := "") (Or.inl (hw _ (List.mem_of_getElem? (i := 19) rfl))) Via.refl e26 f15 (hb hby own_d4_13) (pc' := 16) rfl (fun T28 X28 e28 => ?_)
      refine OwnK.icmp_ge X28 hx (hb hby own_d4_16) (by decide) (pcT := 56) (by decide) (pc' := 19) rfl (fun hc16 => ?_) (fun (hc16 : 3 < 3) => absurd hc16 (by decide))
      refine OwnK.aloadN X28 hx (hb hby own_d4_56) (pc' := 57) rfl (v := (.ref a2)) rfl rfl ?_
      refine OwnK.iloadN X28 hx (hb hby own_d4_57) (pc' := 58) rfl (v := (1 : Int32)) rfl ?_
      refine OwnK.callS_ X28 hx hZ hown (y := (⟨"java/util/Arrays", "copyOf", "([JI)[J"⟩ : MethodName)) (hw _ (List.mem_of_getElem? (i := 26) rfl)) (hw _ (List.mem_of_getElem? (i := 27) rfl)) (hw _ (List.mem_of_getElem? (i := 28) rfl)) (hw _ (List.mem_of_getElem? (i := 29) rfl)) (by decide) (own_met5 l Z a0 hw h13 n0 z21 a2 (1 : Int32) _ _ (3 : Int32) 3 1   f18 f17 (by decide) (by decide) (by decide) (by decide) rfl ) (by decide) (W := 0) (by decide) e28 (by rw [hml]; rfl) own_pd_5 (argsL := [(.ref a2), (.int (1 : Int32))]) rfl (S := []) rfl (Nat.le_of_eq rfl) (hb hby own_d4_58) (pc' := 61) rfl (by decide) (by decide) (fun T29 v29 L29 X29 hQ29 => ?_)
      obtain ⟨r29, kr29, rfl, N29q, K29, hr29, V29⟩ := hQ29
      have N30 := Fr.app N19 N29q
      have q31 : a ≠ r29 := Nat.ne_of_lt (Nat.lt_of_lt_of_le f16.lt hr29)
      have q32 : a2 ≠ r29 := Nat.ne_of_lt (Nat.lt_of_lt_of_le f18.lt hr29)
      have q33 : p1 ≠ r29 := Nat.ne_of_lt (Nat.lt_of_lt_of_le f14.lt hr29)
      have ge_r29 : n0 ≤ r29 := Nat.le_trans z21 hr29
      have sz_r29 : h0.size ≤ r29 := Nat.le_trans K20.1 hr29
      have f34 := f14.keep K29 nin0
      have f35 := f15.keep K29 nin0
      have f36 := f16.keep K29 nin0
      have f37 := f18.keep K29 nin0
      have f38 := f17.keep K29
      have z39 : n0 ≤ T29.heap.size := Nat.le_trans z21 K29.1
      have K40 := K20.trans K29 all0
      have f41 : Arv Z T29.heap r29 _ .long (1 : Int32) [(.long w0)] (.long (0 : Int64)) := V29
      refine OwnK.retA_ X29 hx hret rfl rfl hlk (hb hby own_d4_61) (by decide) (by decide) ?_
      exact ⟨r29, _, rfl, N30, K40, sz_r29, by rw [show own_dd [w0, w1, w2] = [w0] from by show _ :: own_go _ _ = _; rw [own_ge hc24, own_ge hc27, own_g0]]; exact f41⟩
    · refine OwnK.aloadN X26 hx (hb hby own_d4_38) (pc' := 39) rfl (v := (.ref a2)) rfl rfl ?_
      refine OwnK.iloadN X26 hx (hb hby own_d4_39) (pc' := 40) rfl (v := (1 : Int32)) rfl ?_
      refine OwnK.iincL X26 hx (hb hby own_d4_40) (pc' := 43) rfl (x := (1 : Int32)) rfl (v := (2 : Int32)) (by decide) (Ls' := #[.val (.ref p1), .val (.ref a2), .val (.int (2 : Int32)), .val (.int (2 : Int32))]) rfl ?_
      refine OwnK.aloadN X26 hx (hb hby own_d4_43) (pc' := 44) rfl (v := (.ref p1)) rfl rfl ?_
      refine OwnK.getF_ X26 hx hZ hown (host := "") (Or.inl (hw _ (List.mem_of_getElem? (i := 15) rfl))) Via.refl e26 f14 (hb hby own_d4_44) (pc' := 47) rfl (fun T42 X42 e42 => ?_)
      refine OwnK.iloadN X42 hx (hb hby own_d4_47) (pc' := 48) rfl (v := (2 : Int32)) rfl ?_
      refine OwnK.laload X42 hx hZ e42 f16 (by decide) (by first | decide | omega) (v := (.long w2)) rfl (hb hby own_d4_48) (pc' := 49) rfl ?_
      refine OwnK.lastore X42 hx hZ e42 f18 (i := 1) (by decide) (by first | decide | omega) (Nat.le_of_ble_eq_true rfl) (hb hby own_d4_49) (pc' := 50) rfl (fun T43 h43 X43 e43 W43 V43 => ?_)
      have f44 := f14.other W43 (Or.inl q4)
      have f45 := f15.other W43 (Or.inl q4)
      have f46 := f16.other W43 q3
      have f47 := f17.wr W43
      have f48 : Arv Z h43 a2 _ .long (3 : Int32) [(.long w0), (.long w2), (.long (0 : Int64))] (.long (0 : Int64)) := V43
      have N49 := Fr.snoc X43 N19 ge_a2
      have K50 := K20.wr W43 (Or.inr sz_a2)
      have z51 : n0 ≤ h43.size := Nat.le_trans z21 (Keep.of_wr W43).1
      refine OwnK.iincL X43 hx (hb hby own_d4_50) (pc' := 53) rfl (x := (2 : Int32)) rfl (v := (3 : Int32)) (by decide) (Ls' := #[.val (.ref p1), .val (.ref a2), .val (.int (2 : Int32)), .val (.int (3 : Int32))]) rfl ?_
      refine OwnK.goto_ X43 hx (hb hby own_d4_53) (by decide) (pc' := 11) (by decide) ?_
      refine OwnK.iloadN X43 hx (hb hby own_d4_11) (pc' := 12) rfl (v := (3 : Int32)) rfl ?_
      refine OwnK.aloadN X43 hx (hb hby own_d4_12) (pc' := 13) rfl (v := (.ref p1)) rfl rfl ?_
      refine OwnK.getF_ X43 hx hZ hown (host := "") (Or.inl (hw _ (List.mem_of_getElem? (i := 19) rfl))) Via.refl e43 f45 (hb hby own_d4_13) (pc' := 16) rfl (fun T52 X52 e52 => ?_)
      refine OwnK.icmp_ge X52 hx (hb hby own_d4_16) (by decide) (pcT := 56) (by decide) (pc' := 19) rfl (fun hc16 => ?_) (fun (hc16 : 3 < 3) => absurd hc16 (by decide))
      refine OwnK.aloadN X52 hx (hb hby own_d4_56) (pc' := 57) rfl (v := (.ref a2)) rfl rfl ?_
      refine OwnK.iloadN X52 hx (hb hby own_d4_57) (pc' := 58) rfl (v := (2 : Int32)) rfl ?_
      refine OwnK.callS_ X52 hx hZ hown (y := (⟨"java/util/Arrays", "copyOf", "([JI)[J"⟩ : MethodName)) (hw _ (List.mem_of_getElem? (i := 26) rfl)) (hw _ (List.mem_of_getElem? (i := 27) rfl)) (hw _ (List.mem_of_getElem? (i := 28) rfl)) (hw _ (List.mem_of_getElem? (i := 29) rfl)) (by decide) (own_met5 l Z a0 hw h43 n0 z51 a2 (2 : Int32) _ _ (3 : Int32) 3 2   f48 f47 (by decide) (by decide) (by decide) (by decide) rfl ) (by decide) (W := 0) (by decide) e52 (by rw [hml]; rfl) own_pd_5 (argsL := [(.ref a2), (.int (2 : Int32))]) rfl (S := []) rfl (Nat.le_of_eq rfl) (hb hby own_d4_58) (pc' := 61) rfl (by decide) (by decide) (fun T53 v53 L53 X53 hQ53 => ?_)
      obtain ⟨r53, kr53, rfl, N53q, K53, hr53, V53⟩ := hQ53
      have N54 := Fr.app N49 N53q
      have q55 : a ≠ r53 := Nat.ne_of_lt (Nat.lt_of_lt_of_le f46.lt hr53)
      have q56 : a2 ≠ r53 := Nat.ne_of_lt (Nat.lt_of_lt_of_le f48.lt hr53)
      have q57 : p1 ≠ r53 := Nat.ne_of_lt (Nat.lt_of_lt_of_le f44.lt hr53)
      have ge_r53 : n0 ≤ r53 := Nat.le_trans z51 hr53
      have sz_r53 : h0.size ≤ r53 := Nat.le_trans K50.1 hr53
      have f58 := f44.keep K53 nin0
      have f59 := f45.keep K53 nin0
      have f60 := f46.keep K53 nin0
      have f61 := f48.keep K53 nin0
      have f62 := f47.keep K53
      have z63 : n0 ≤ T53.heap.size := Nat.le_trans z51 K53.1
      have K64 := K50.trans K53 all0
      have f65 : Arv Z T53.heap r53 _ .long (2 : Int32) [(.long w0), (.long w2)] (.long (0 : Int64)) := V53
      refine OwnK.retA_ X53 hx hret rfl rfl hlk (hb hby own_d4_61) (by decide) (by decide) ?_
      exact ⟨r53, _, rfl, N54, K64, sz_r53, by rw [show own_dd [w0, w1, w2] = [w0, w2] from by show _ :: own_go _ _ = _; rw [own_ge hc24, own_gn hc27, own_g0]]; exact f65⟩
  · refine OwnK.aloadN X23 hx (hb hby own_d4_38) (pc' := 39) rfl (v := (.ref a2)) rfl rfl ?_
    refine OwnK.iloadN X23 hx (hb hby own_d4_39) (pc' := 40) rfl (v := (1 : Int32)) rfl ?_
    refine OwnK.iincL X23 hx (hb hby own_d4_40) (pc' := 43) rfl (x := (1 : Int32)) rfl (v := (2 : Int32)) (by decide) (Ls' := #[.val (.ref p1), .val (.ref a2), .val (.int (2 : Int32)), .val (.int (1 : Int32))]) rfl ?_
    refine OwnK.aloadN X23 hx (hb hby own_d4_43) (pc' := 44) rfl (v := (.ref p1)) rfl rfl ?_
    refine OwnK.getF_ X23 hx hZ hown (host := "") (Or.inl (hw _ (List.mem_of_getElem? (i := 15) rfl))) Via.refl e23 f14 (hb hby own_d4_44) (pc' := 47) rfl (fun T66 X66 e66 => ?_)
    refine OwnK.iloadN X66 hx (hb hby own_d4_47) (pc' := 48) rfl (v := (1 : Int32)) rfl ?_
    refine OwnK.laload X66 hx hZ e66 f16 (by decide) (by first | decide | omega) (v := (.long w1)) rfl (hb hby own_d4_48) (pc' := 49) rfl ?_
    refine OwnK.lastore X66 hx hZ e66 f18 (i := 1) (by decide) (by first | decide | omega) (Nat.le_of_ble_eq_true rfl) (hb hby own_d4_49) (pc' := 50) rfl (fun T67 h67 X67 e67 W67 V67 => ?_)
    have f68 := f14.other W67 (Or.inl q4)
    have f69 := f15.other W67 (Or.inl q4)
    have f70 := f16.other W67 q3
    have f71 := f17.wr W67
    have f72 : Arv Z h67 a2 _ .long (3 : Int32) [(.long w0), (.long w1), (.long (0 : Int64))] (.long (0 : Int64)) := V67
    have N73 := Fr.snoc X67 N19 ge_a2
    have K74 := K20.wr W67 (Or.inr sz_a2)
    have z75 : n0 ≤ h67.size := Nat.le_trans z21 (Keep.of_wr W67).1
    refine OwnK.iincL X67 hx (hb hby own_d4_50) (pc' := 53) rfl (x := (1 : Int32)) rfl (v := (2 : Int32)) (by decide) (Ls' := #[.val (.ref p1), .val (.ref a2), .val (.int (2 : Int32)), .val (.int (2 : Int32))]) rfl ?_
    refine OwnK.goto_ X67 hx (hb hby own_d4_53) (by decide) (pc' := 11) (by decide) ?_
    refine OwnK.iloadN X67 hx (hb hby own_d4_11) (pc' := 12) rfl (v := (2 : Int32)) rfl ?_
    refine OwnK.aloadN X67 hx (hb hby own_d4_12) (pc' := 13) rfl (v := (.ref p1)) rfl rfl ?_
    refine OwnK.getF_ X67 hx hZ hown (host := "") (Or.inl (hw _ (List.mem_of_getElem? (i := 19) rfl))) Via.refl e67 f69 (hb hby own_d4_13) (pc' := 16) rfl (fun T76 X76 e76 => ?_)
    refine OwnK.icmp_ge X76 hx (hb hby own_d4_16) (by decide) (pcT := 56) (by decide) (pc' := 19) rfl (fun (hc16 : 3 ≤ 2) => absurd hc16 (by decide)) (fun hc16 => ?_)
    refine OwnK.iloadN X76 hx (hb hby own_d4_19) (pc' := 20) rfl (v := (2 : Int32)) rfl ?_
    refine OwnK.if_eq X76 hx (hb hby own_d4_20) (by decide) (pcT := 38) (by decide) (pc' := 23) rfl (fun (hc20 : 2 = 0) => absurd hc20 (by decide)) (fun hc20 => ?_)
    refine OwnK.aloadN X76 hx (hb hby own_d4_23) (pc' := 24) rfl (v := (.ref a2)) rfl rfl ?_
    refine OwnK.iloadN X76 hx (hb hby own_d4_24) (pc' := 25) rfl (v := (2 : Int32)) rfl ?_
    refine OwnK.iconst X76 hx (hb hby own_d4_25) (pc' := 26) rfl (v := (1 : Int32)) (by decide) ?_
    refine OwnK.isubL X76 hx (hb hby own_d4_26) (pc' := 27) rfl (z := (1 : Int32)) (by decide) ?_
    refine OwnK.laload X76 hx hZ e76 f72 (by decide) (by first | decide | omega) (v := (.long w1)) rfl (hb hby own_d4_27) (pc' := 28) rfl ?_
    refine OwnK.aloadN X76 hx (hb hby own_d4_28) (pc' := 29) rfl (v := (.ref p1)) rfl rfl ?_
    refine OwnK.getF_ X76 hx hZ hown (host := "") (Or.inl (hw _ (List.mem_of_getElem? (i := 15) rfl))) Via.refl e76 f68 (hb hby own_d4_29) (pc' := 32) rfl (fun T77 X77 e77 => ?_)
    refine OwnK.iloadN X77 hx (hb hby own_d4_32) (pc' := 33) rfl (v := (2 : Int32)) rfl ?_
    refine OwnK.laload X77 hx hZ e77 f70 (by decide) (by first | decide | omega) (v := (.long w2)) rfl (hb hby own_d4_33) (pc' := 34) rfl ?_
    refine OwnK.lcmp_eq X77 hx (hb hby own_d4_34) (pc1 := 35) rfl (hb hby own_d4_35) (by decide) (pcT := 50) (by decide) (pc' := 38) rfl (fun (hc78 : w1.toInt = w2.toInt) => ?_) (fun (hc78 : ¬ w1.toInt = w2.toInt) => ?_)
    · refine OwnK.iincL X77 hx (hb hby own_d4_50) (pc' := 53) rfl (x := (2 : Int32)) rfl (v := (3 : Int32)) (by decide) (Ls' := #[.val (.ref p1), .val (.ref a2), .val (.int (2 : Int32)), .val (.int (3 : Int32))]) rfl ?_
      refine OwnK.goto_ X77 hx (hb hby own_d4_53) (by decide) (pc' := 11) (by decide) ?_
      refine OwnK.iloadN X77 hx (hb hby own_d4_11) (pc' := 12) rfl (v := (3 : Int32)) rfl ?_
      refine OwnK.aloadN X77 hx (hb hby own_d4_12) (pc' := 13) rfl (v := (.ref p1)) rfl rfl ?_
      refine OwnK.getF_ X77 hx hZ hown (host := "") (Or.inl (hw _ (List.mem_of_getElem? (i := 19) rfl))) Via.refl e77 f69 (hb hby own_d4_13) (pc' := 16) rfl (fun T79 X79 e79 => ?_)
      refine OwnK.icmp_ge X79 hx (hb hby own_d4_16) (by decide) (pcT := 56) (by decide) (pc' := 19) rfl (fun hc16 => ?_) (fun (hc16 : 3 < 3) => absurd hc16 (by decide))
      refine OwnK.aloadN X79 hx (hb hby own_d4_56) (pc' := 57) rfl (v := (.ref a2)) rfl rfl ?_
      refine OwnK.iloadN X79 hx (hb hby own_d4_57) (pc' := 58) rfl (v := (2 : Int32)) rfl ?_
      refine OwnK.callS_ X79 hx hZ hown (y := (⟨"java/util/Arrays", "copyOf", "([JI)[J"⟩ : MethodName)) (hw _ (List.mem_of_getElem? (i := 26) rfl)) (hw _ (List.mem_of_getElem? (i := 27) rfl)) (hw _ (List.mem_of_getElem? (i := 28) rfl)) (hw _ (List.mem_of_getElem? (i := 29) rfl)) (by decide) (own_met5 l Z a0 hw h67 n0 z75 a2 (2 : Int32) _ _ (3 : Int32) 3 2   f72 f71 (by decide) (by decide) (by decide) (by decide) rfl ) (by decide) (W := 0) (by decide) e79 (by rw [hml]; rfl) own_pd_5 (argsL := [(.ref a2), (.int (2 : Int32))]) rfl (S := []) rfl (Nat.le_of_eq rfl) (hb hby own_d4_58) (pc' := 61) rfl (by decide) (by decide) (fun T80 v80 L80 X80 hQ80 => ?_)
      obtain ⟨r80, kr80, rfl, N80q, K80, hr80, V80⟩ := hQ80
      have N81 := Fr.app N73 N80q
      have q82 : a ≠ r80 := Nat.ne_of_lt (Nat.lt_of_lt_of_le f70.lt hr80)
      have q83 : a2 ≠ r80 := Nat.ne_of_lt (Nat.lt_of_lt_of_le f72.lt hr80)
      have q84 : p1 ≠ r80 := Nat.ne_of_lt (Nat.lt_of_lt_of_le f68.lt hr80)
      have ge_r80 : n0 ≤ r80 := Nat.le_trans z75 hr80
      have sz_r80 : h0.size ≤ r80 := Nat.le_trans K74.1 hr80
      have f85 := f68.keep K80 nin0
      have f86 := f69.keep K80 nin0
      have f87 := f70.keep K80 nin0
      have f88 := f72.keep K80 nin0
      have f89 := f71.keep K80
      have z90 : n0 ≤ T80.heap.size := Nat.le_trans z75 K80.1
      have K91 := K74.trans K80 all0
      have f92 : Arv Z T80.heap r80 _ .long (2 : Int32) [(.long w0), (.long w1)] (.long (0 : Int64)) := V80
      refine OwnK.retA_ X80 hx hret rfl rfl hlk (hb hby own_d4_61) (by decide) (by decide) ?_
      exact ⟨r80, _, rfl, N81, K91, sz_r80, by rw [show own_dd [w0, w1, w2] = [w0, w1] from by show _ :: own_go _ _ = _; rw [own_gn hc24, own_ge hc78, own_g0]]; exact f92⟩
    · refine OwnK.aloadN X77 hx (hb hby own_d4_38) (pc' := 39) rfl (v := (.ref a2)) rfl rfl ?_
      refine OwnK.iloadN X77 hx (hb hby own_d4_39) (pc' := 40) rfl (v := (2 : Int32)) rfl ?_
      refine OwnK.iincL X77 hx (hb hby own_d4_40) (pc' := 43) rfl (x := (2 : Int32)) rfl (v := (3 : Int32)) (by decide) (Ls' := #[.val (.ref p1), .val (.ref a2), .val (.int (3 : Int32)), .val (.int (2 : Int32))]) rfl ?_
      refine OwnK.aloadN X77 hx (hb hby own_d4_43) (pc' := 44) rfl (v := (.ref p1)) rfl rfl ?_
      refine OwnK.getF_ X77 hx hZ hown (host := "") (Or.inl (hw _ (List.mem_of_getElem? (i := 15) rfl))) Via.refl e77 f68 (hb hby own_d4_44) (pc' := 47) rfl (fun T93 X93 e93 => ?_)
      refine OwnK.iloadN X93 hx (hb hby own_d4_47) (pc' := 48) rfl (v := (2 : Int32)) rfl ?_
      refine OwnK.laload X93 hx hZ e93 f70 (by decide) (by first | decide | omega) (v := (.long w2)) rfl (hb hby own_d4_48) (pc' := 49) rfl ?_
      refine OwnK.lastore X93 hx hZ e93 f72 (i := 2) (by decide) (by first | decide | omega) (Nat.le_of_ble_eq_true rfl) (hb hby own_d4_49) (pc' := 50) rfl (fun T94 h94 X94 e94 W94 V94 => ?_)
      have f95 := f68.other W94 (Or.inl q4)
      have f96 := f69.other W94 (Or.inl q4)
      have f97 := f70.other W94 q3
      have f98 := f71.wr W94
      have f99 : Arv Z h94 a2 _ .long (3 : Int32) [(.long w0), (.long w1), (.long w2)] (.long (0 : Int64)) := V94
      have N100 := Fr.snoc X94 N73 ge_a2
      have K101 := K74.wr W94 (Or.inr sz_a2)
      have z102 : n0 ≤ h94.size := Nat.le_trans z75 (Keep.of_wr W94).1
      refine OwnK.iincL X94 hx (hb hby own_d4_50) (pc' := 53) rfl (x := (2 : Int32)) rfl (v := (3 : Int32)) (by decide) (Ls' := #[.val (.ref p1), .val (.ref a2), .val (.int (3 : Int32)), .val (.int (3 : Int32))]) rfl ?_
      refine OwnK.goto_ X94 hx (hb hby own_d4_53) (by decide) (pc' := 11) (by decide) ?_
      refine OwnK.iloadN X94 hx (hb hby own_d4_11) (pc' := 12) rfl (v := (3 : Int32)) rfl ?_
      refine OwnK.aloadN X94 hx (hb hby own_d4_12) (pc' := 13) rfl (v := (.ref p1)) rfl rfl ?_
      refine OwnK.getF_ X94 hx hZ hown (host := "") (Or.inl (hw _ (List.mem_of_getElem? (i := 19) rfl))) Via.refl e94 f96 (hb hby own_d4_13) (pc' := 16) rfl (fun T103 X103 e103 => ?_)
      refine OwnK.icmp_ge X103 hx (hb hby own_d4_16) (by decide) (pcT := 56) (by decide) (pc' := 19) rfl (fun hc16 => ?_) (fun (hc16 : 3 < 3) => absurd hc16 (by decide))
      refine OwnK.aloadN X103 hx (hb hby own_d4_56) (pc' := 57) rfl (v := (.ref a2)) rfl rfl ?_
      refine OwnK.iloadN X103 hx (hb hby own_d4_57) (pc' := 58) rfl (v := (3 : Int32)) rfl ?_
      refine OwnK.callS_ X103 hx hZ hown (y := (⟨"java/util/Arrays", "copyOf", "([JI)[J"⟩ : MethodName)) (hw _ (List.mem_of_getElem? (i := 26) rfl)) (hw _ (List.mem_of_getElem? (i := 27) rfl)) (hw _ (List.mem_of_getElem? (i := 28) rfl)) (hw _ (List.mem_of_getElem? (i := 29) rfl)) (by decide) (own_met5 l Z a0 hw h94 n0 z102 a2 (3 : Int32) _ _ (3 : Int32) 3 3   f99 f98 (by decide) (by decide) (by decide) (by decide) rfl ) (by decide) (W := 0) (by decide) e103 (by rw [hml]; rfl) own_pd_5 (argsL := [(.ref a2), (.int (3 : Int32))]) rfl (S := []) rfl (Nat.le_of_eq rfl) (hb hby own_d4_58) (pc' := 61) rfl (by decide) (by decide) (fun T104 v104 L104 X104 hQ104 => ?_)
      obtain ⟨r104, kr104, rfl, N104q, K104, hr104, V104⟩ := hQ104
      have N105 := Fr.app N100 N104q
      have q106 : a ≠ r104 := Nat.ne_of_lt (Nat.lt_of_lt_of_le f97.lt hr104)
      have q107 : a2 ≠ r104 := Nat.ne_of_lt (Nat.lt_of_lt_of_le f99.lt hr104)
      have q108 : p1 ≠ r104 := Nat.ne_of_lt (Nat.lt_of_lt_of_le f95.lt hr104)
      have ge_r104 : n0 ≤ r104 := Nat.le_trans z102 hr104
      have sz_r104 : h0.size ≤ r104 := Nat.le_trans K101.1 hr104
      have f109 := f95.keep K104 nin0
      have f110 := f96.keep K104 nin0
      have f111 := f97.keep K104 nin0
      have f112 := f99.keep K104 nin0
      have f113 := f98.keep K104
      have z114 : n0 ≤ T104.heap.size := Nat.le_trans z102 K104.1
      have K115 := K101.trans K104 all0
      have f116 : Arv Z T104.heap r104 _ .long (3 : Int32) [(.long w0), (.long w1), (.long w2)] (.long (0 : Int64)) := V104
      refine OwnK.retA_ X104 hx hret rfl rfl hlk (hb hby own_d4_61) (by decide) (by decide) ?_
      exact ⟨r104, _, rfl, N105, K115, sz_r104, by rw [show own_dd [w0, w1, w2] = [w0, w1, w2] from by show _ :: own_go _ _ = _; rw [own_gn hc24, own_gn hc78, own_g0]]; exact f116⟩
def own_Qrec4 (Z : State) (h0 : Heap) (n0 : Nat) (p1 : Addr) (a : Addr) (kA : ClassId) (w0 w1 w2 w3 : Int64) (v : Option Value) (h : Heap) (L : List Loc) : Prop := ∃ r kR, v = some (.ref r) ∧ Fr n0 L ∧ Keep h0 h [] ∧ h0.size ≤ r ∧ Arv Z h r kR .long (Int32.ofNat (own_dd [w0, w1, w2, w3]).length) ((own_dd [w0, w1, w2, w3]).map Value.long) (.long (0 : Int64))
set_option maxRecDepth 65536 in
set_option maxHeartbeats 40000000 in
theorem own_rec4 (l : Launch) (Z : State) (a0 : Array Value) (hw : ∀ d ∈ tables_1, d.before a0 Z = true) (h0 : Heap) (n0 : Nat) (Z0 : n0 ≤ h0.size) (p1 : Addr) (a : Addr) (kA : ClassId) (w0 w1 w2 w3 : Int64) (F0 : Fld Z h0 p1 "com/example/ledgerwire/ledgerwire/store/Entries" "seqs" "[J" (.ref a)) (F1 : Fld Z h0 p1 "com/example/ledgerwire/ledgerwire/store/Entries" "size" "I" (.int (4 : Int32))) (V0 : Arv Z h0 a kA .long (4 : Int32) [(.long w0), (.long w1), (.long w2), (.long w3)] (.long (0 : Int64))) :
    MetFree l (⟨"com/example/ledgerwire/ledgerwire/store/Entries", "records", "()[J"⟩ : MethodName) (head1 [Jvm.Cond.code (⟨"com/example/ledgerwire/ledgerwire/store/Entries", "records", "()[J"⟩ : MethodName) prog_46_method_5_code 4 (some (.array .long))] ({ frames := 2, cells := 2, slots := 8, locals := 54 } : Room)) (fun a U => a = #[(.ref p1)] ∧ Z.Warmed39 U.vm ∧ U.heap = h0) (fun _ _ _ _ _ => True) (fun _ U o U' => ∃ v L, o = .returned v ∧ (own_Qrec4 Z h0 n0 p1 a kA w0 w1 w2 w3) v U'.heap L ∧ FrameEnd U o U' L ({ frames := 2, cells := 2, slots := 8, locals := 54 } : Room).cells ({ frames := 2, cells := 2, slots := 8, locals := 54 } : Room).slots) := by
  refine OwnK.met (Q := (own_Qrec4 Z h0 n0 p1 a kA w0 w1 w2 w3)) (C := ({ frames := 2, cells := 2, slots := 8, locals := 54 } : Room).cells) (N := ({ frames := 2, cells := 2, slots := 8, locals := 54 } : Room).slots) own_pl_4 (own_ef_4 p1) ?_
  intro p e s m below meth c T0 X0 hx hZ hby hml hown hnm hret hlk e0
  have N0 := Fr.nil n0
  have K0 := Keep.refl h0 []
  refine OwnK.aloadN X0 hx (hb hby own_d4_0) (pc' := 1) rfl (v := (.ref p1)) rfl rfl ?_
  refine OwnK.getF_ X0 hx hZ hown (host := "") (Or.inl (hw _ (List.mem_of_getElem? (i := 19) rfl))) Via.refl e0 F1 (hb hby own_d4_1) (pc' := 4) rfl (fun T1 X1 e1 => ?_)
  refine OwnK.newP_ X1 hx hZ (hw _ (List.mem_of_getElem? (i := 0) rfl)) e1 (hb hby own_d4_4) (pc' := 6) rfl (n := (4 : Int32)) (by decide) (cap := 4) (by decide) (by decide) (by decide) (by decide) (ad := "[J") (by decide) (fun T2 h2 a2 k2 X2 e2 g2 E2 V2 Q2 => ?_)
  have q3 : a ≠ a2 := Nat.ne_of_lt (Nat.lt_of_lt_of_le V0.lt (Nat.le_of_eq g2.symm))
  have q4 : p1 ≠ a2 := Nat.ne_of_lt (Nat.lt_of_lt_of_le F0.lt (Nat.le_of_eq g2.symm))
  have ge_a2 : n0 ≤ a2 := Nat.le_trans Z0 (Nat.le_of_eq g2.symm)
  have sz_a2 : h0.size ≤ a2 := Nat.le_trans K0.1 (Nat.le_of_eq g2.symm)
  have z5 : n0 ≤ h2.size := Nat.le_trans Z0 E2.1
  have K6 := K0.ext E2
  have f7 := F0.ext E2
  have f8 := F1.ext E2
  have f9 := V0.ext E2
  have f10 : Arv Z h2 a2 k2 .long (4 : Int32) [(.long (0 : Int64)), (.long (0 : Int64)), (.long (0 : Int64)), (.long (0 : Int64))] (.long (0 : Int64)) := V2.pad (pad_rep [] (.long (0 : Int64)) 4)
  refine OwnK.astoreN X2 hx (hb hby own_d4_6) (pc' := 7) rfl rfl (Ls' := #[.val (.ref p1), .val (.ref a2), .unset, .unset]) rfl ?_
  refine OwnK.iconst X2 hx (hb hby own_d4_7) (pc' := 8) rfl (v := (0 : Int32)) (by decide) ?_
  refine OwnK.istoreN X2 hx (hb hby own_d4_8) (pc' := 9) rfl (Ls' := #[.val (.ref p1), .val (.ref a2), .val (.int (0 : Int32)), .unset]) rfl ?_
  refine OwnK.iconst X2 hx (hb hby own_d4_9) (pc' := 10) rfl (v := (0 : Int32)) (by decide) ?_
  refine OwnK.istoreN X2 hx (hb hby own_d4_10) (pc' := 11) rfl (Ls' := #[.val (.ref p1), .val (.ref a2), .val (.int (0 : Int32)), .val (.int (0 : Int32))]) rfl ?_
  refine OwnK.iloadN X2 hx (hb hby own_d4_11) (pc' := 12) rfl (v := (0 : Int32)) rfl ?_
  refine OwnK.aloadN X2 hx (hb hby own_d4_12) (pc' := 13) rfl (v := (.ref p1)) rfl rfl ?_
  refine OwnK.getF_ X2 hx hZ hown (host := "") (Or.inl (hw _ (List.mem_of_getElem? (i := 19) rfl))) Via.refl e2 f8 (hb hby own_d4_13) (pc' := 16) rfl (fun T11 X11 e11 => ?_)
  refine OwnK.icmp_ge X11 hx (hb hby own_d4_16) (by decide) (pcT := 56) (by decide) (pc' := 19) rfl (fun (hc16 : 4 ≤ 0) => absurd hc16 (by decide)) (fun hc16 => ?_)
  refine OwnK.iloadN X11 hx (hb hby own_d4_19) (pc' := 20) rfl (v := (0 : Int32)) rfl ?_
  refine OwnK.if_eq X11 hx (hb hby own_d4_20) (by decide) (pcT := 38) (by decide) (pc' := 23) rfl (fun hc20 => ?_) (fun (hc20 : ¬ 0 = 0) => absurd hc20 (by decide))
  refine OwnK.aloadN X11 hx (hb hby own_d4_38) (pc' := 39) rfl (v := (.ref a2)) rfl rfl ?_
  refine OwnK.iloadN X11 hx (hb hby own_d4_39) (pc' := 40) rfl (v := (0 : Int32)) rfl ?_
  refine OwnK.iincL X11 hx (hb hby own_d4_40) (pc' := 43) rfl (x := (0 : Int32)) rfl (v := (1 : Int32)) (by decide) (Ls' := #[.val (.ref p1), .val (.ref a2), .val (.int (1 : Int32)), .val (.int (0 : Int32))]) rfl ?_
  refine OwnK.aloadN X11 hx (hb hby own_d4_43) (pc' := 44) rfl (v := (.ref p1)) rfl rfl ?_
  refine OwnK.getF_ X11 hx hZ hown (host := "") (Or.inl (hw _ (List.mem_of_getElem? (i := 15) rfl))) Via.refl e11 f7 (hb hby own_d4_44) (pc' := 47) rfl (fun T12 X12 e12 => ?_)
  refine OwnK.iloadN X12 hx (hb hby own_d4_47) (pc' := 48) rfl (v := (0 : Int32)) rfl ?_
  refine OwnK.laload X12 hx hZ e12 f9 (by decide) (by first | decide | omega) (v := (.long w0)) rfl (hb hby own_d4_48) (pc' := 49) rfl ?_
  refine OwnK.lastore X12 hx hZ e12 f10 (i := 0) (by decide) (by first | decide | omega) (Nat.le_of_ble_eq_true rfl) (hb hby own_d4_49) (pc' := 50) rfl (fun T13 h13 X13 e13 W13 V13 => ?_)
  have f14 := f7.other W13 (Or.inl q4)
  have f15 := f8.other W13 (Or.inl q4)
  have f16 := f9.other W13 q3
  have f17 := Q2.wr W13
  have f18 : Arv Z h13 a2 _ .long (4 : Int32) [(.long w0), (.long (0 : Int64)), (.long (0 : Int64)), (.long (0 : Int64))] (.long (0 : Int64)) := V13
  have N19 := Fr.snoc X13 N0 ge_a2
  have K20 := K6.wr W13 (Or.inr sz_a2)
  have z21 : n0 ≤ h13.size := Nat.le_trans z5 (Keep.of_wr W13).1
  refine OwnK.iincL X13 hx (hb hby own_d4_50) (pc' := 53) rfl (x := (0 : Int32)) rfl (v := (1 : Int32)) (by decide) (Ls' := #[.val (.ref p1), .val (.ref a2), .val (.int (1 : Int32)), .val (.int (1 : Int32))]) rfl ?_
  refine OwnK.goto_ X13 hx (hb hby own_d4_53) (by decide) (pc' := 11) (by decide) ?_
  refine OwnK.iloadN X13 hx (hb hby own_d4_11) (pc' := 12) rfl (v := (1 : Int32)) rfl ?_
  refine OwnK.aloadN X13 hx (hb hby own_d4_12) (pc' := 13) rfl (v := (.ref p1)) rfl rfl ?_
  refine OwnK.getF_ X13 hx hZ hown (host := "") (Or.inl (hw _ (List.mem_of_getElem? (i := 19) rfl))) Via.refl e13 f15 (hb hby own_d4_13) (pc' := 16) rfl (fun T22 X22 e22 => ?_)
  refine OwnK.icmp_ge X22 hx (hb hby own_d4_16) (by decide) (pcT := 56) (by decide) (pc' := 19) rfl (fun (hc16 : 4 ≤ 1) => absurd hc16 (by decide)) (fun hc16 => ?_)
  refine OwnK.iloadN X22 hx (hb hby own_d4_19) (pc' := 20) rfl (v := (1 : Int32)) rfl ?_
  refine OwnK.if_eq X22 hx (hb hby own_d4_20) (by decide) (pcT := 38) (by decide) (pc' := 23) rfl (fun (hc20 : 1 = 0) => absurd hc20 (by decide)) (fun hc20 => ?_)
  refine OwnK.aloadN X22 hx (hb hby own_d4_23) (pc' := 24) rfl (v := (.ref a2)) rfl rfl ?_
  refine OwnK.iloadN X22 hx (hb hby own_d4_24) (pc' := 25) rfl (v := (1 : Int32)) rfl ?_
  refine OwnK.iconst X22 hx (hb hby own_d4_25) (pc' := 26) rfl (v := (1 : Int32)) (by decide) ?_
  refine OwnK.isubL X22 hx (hb hby own_d4_26) (pc' := 27) rfl (z := (0 : Int32)) (by decide) ?_
  refine OwnK.laload X22 hx hZ e22 f18 (by decide) (by first | decide | omega) (v := (.long w0)) rfl (hb hby own_d4_27) (pc' := 28) rfl ?_
  refine OwnK.aloadN X22 hx (hb hby own_d4_28) (pc' := 29) rfl (v := (.ref p1)) rfl rfl ?_
  refine OwnK.getF_ X22 hx hZ hown (host := "") (Or.inl (hw _ (List.mem_of_getElem? (i := 15) rfl))) Via.refl e22 f14 (hb hby own_d4_29) (pc' := 32) rfl (fun T23 X23 e23 => ?_)
  refine OwnK.iloadN X23 hx (hb hby own_d4_32) (pc' := 33) rfl (v := (1 : Int32)) rfl ?_
  refine OwnK.laload X23 hx hZ e23 f16 (by decide) (by first | decide | omega) (v := (.long w1)) rfl (hb hby own_d4_33) (pc' := 34) rfl ?_
  refine OwnK.lcmp_eq X23 hx (hb hby own_d4_34) (pc1 := 35) rfl (hb hby own_d4_35) (by decide) (pcT := 50) (by decide) (pc' := 38) rfl (fun (hc24 : w0.toInt = w1.toInt) => ?_) (fun (hc24 : ¬ w0.toInt = w1.toInt) => ?_)
  · refine OwnK.iincL X23 hx (hb hby own_d4_50) (pc' := 53) rfl (x := (1 : Int32)) rfl (v := (2 : Int32)) (by decide) (Ls' := #[.val (.ref p1), .val (.ref a2), .val (.int (1 : Int32)), .val (.int (2 : Int32))]) rfl ?_
    refine OwnK.goto_ X23 hx (hb hby own_d4_53) (by decide) (pc' := 11) (by decide) ?_
    refine OwnK.iloadN X23 hx (hb hby own_d4_11) (pc' := 12) rfl (v := (2 : Int32)) rfl ?_
    refine OwnK.aloadN X23 hx (hb hby own_d4_12) (pc' := 13) rfl (v := (.ref p1)) rfl rfl ?_
    refine OwnK.getF_ X23 hx hZ hown (host := "") (Or.inl (hw _ (List.mem_of_getElem? (i := 19) rfl))) Via.refl e23 f15 (hb hby own_d4_13) (pc' := 16) rfl (fun T25 X25 e25 => ?_)
    refine OwnK.icmp_ge X25 hx (hb hby own_d4_16) (by decide) (pcT := 56) (by decide) (pc' := 19) rfl (fun (hc16 : 4 ≤ 2) => absurd hc16 (by decide)) (fun hc16 => ?_)
    refine OwnK.iloadN X25 hx (hb hby own_d4_19) (pc' := 20) rfl (v := (1 : Int32)) rfl ?_
    refine OwnK.if_eq X25 hx (hb hby own_d4_20) (by decide) (pcT := 38) (by decide) (pc' := 23) rfl (fun (hc20 : 1 = 0) => absurd hc20 (by decide)) (fun hc20 => ?_)
    refine OwnK.aloadN X25 hx (hb hby own_d4_23) (pc' := 24) rfl (v := (.ref a2)) rfl rfl ?_
    refine OwnK.iloadN X25 hx (hb hby own_d4_24) (pc' := 25) rfl (v := (1 : Int32)) rfl ?_
    refine OwnK.iconst X25 hx (hb hby own_d4_25) (pc' := 26) rfl (v := (1 : Int32)) (by decide) ?_
    refine OwnK.isubL X25 hx (hb hby own_d4_26) (pc' := 27) rfl (z := (0 : Int32)) (by decide) ?_
    refine OwnK.laload X25 hx hZ e25 f18 (by decide) (by first | decide | omega) (v := (.long w0)) rfl (hb hby own_d4_27) (pc' := 28) rfl ?_
    refine OwnK.aloadN X25 hx (hb hby own_d4_28) (pc' := 29) rfl (v := (.ref p1)) rfl rfl ?_
    refine OwnK.getF_ X25 hx hZ hown (host := "") (Or.inl (hw _ (List.mem_of_getElem? (i := 15) rfl))) Via.refl e25 f14 (hb hby own_d4_29) (pc' := 32) rfl (fun T26 X26 e26 => ?_)
    refine OwnK.iloadN X26 hx (hb hby own_d4_32) (pc' := 33) rfl (v := (2 : Int32)) rfl ?_
    refine OwnK.laload X26 hx hZ e26 f16 (by decide) (by first | decide | omega) (v := (.long w2)) rfl (hb hby own_d4_33) (pc' := 34) rfl ?_
    refine OwnK.lcmp_eq X26 hx (hb hby own_d4_34) (pc1 := 35) rfl (hb hby own_d4_35) (by decide) (pcT := 50) (by decide) (pc' := 38) rfl (fun (hc27 : w0.toInt = w2.toInt) => ?_) (fun (hc27 : ¬ w0.toInt = w2.toInt) => ?_)
    · refine OwnK.iincL X26 hx (hb hby own_d4_50) (pc' := 53) rfl (x := (2 : Int32)) rfl (v := (3 : Int32)) (by decide) (Ls' := #[.val (.ref p1), .val (.ref a2), .val (.int (1 : Int32)), .val (.int (3 : Int32))]) rfl ?_
      refine OwnK.goto_ X26 hx (hb hby own_d4_53) (by decide) (pc' := 11) (by decide) ?_
      refine OwnK.iloadN X26 hx (hb hby own_d4_11) (pc' := 12) rfl (v := (3 : Int32)) rfl ?_
      refine OwnK.aloadN X26 hx (hb hby own_d4_12) (pc' := 13) rfl (v := (.ref p1)) rfl rfl ?_
      refine OwnK.getF_ X26 hx hZ hown (host := "") (Or.inl (hw _ (List.mem_of_getElem? (i := 19) rfl))) Via.refl e26 f15 (hb hby own_d4_13) (pc' := 16) rfl (fun T28 X28 e28 => ?_)
      refine OwnK.icmp_ge X28 hx (hb hby own_d4_16) (by decide) (pcT := 56) (by decide) (pc' := 19) rfl (fun (hc16 : 4 ≤ 3) => absurd hc16 (by decide)) (fun hc16 => ?_)
      refine OwnK.iloadN X28 hx (hb hby own_d4_19) (pc' := 20) rfl (v := (1 : Int32)) rfl ?_
      refine OwnK.if_eq X28 hx (hb hby own_d4_20) (by decide) (pcT := 38) (by decide) (pc' := 23) rfl (fun (hc20 : 1 = 0) => absurd hc20 (by decide)) (fun hc20 => ?_)
      refine OwnK.aloadN X28 hx (hb hby own_d4_23) (pc' := 24) rfl (v := (.ref a2)) rfl rfl ?_
      refine OwnK.iloadN X28 hx (hb hby own_d4_24) (pc' := 25) rfl (v := (1 : Int32)) rfl ?_
      refine OwnK.iconst X28 hx (hb hby own_d4_25) (pc' := 26) rfl (v := (1 : Int32)) (by decide) ?_
      refine OwnK.isubL X28 hx (hb hby own_d4_26) (pc' := 27) rfl (z := (0 : Int32)) (by decide) ?_
      refine OwnK.laload X28 hx hZ e28 f18 (by decide) (by first | decide | omega) (v := (.long w0)) rfl (hb hby own_d4_27) (pc' := 28) rfl ?_
      refine OwnK.aloadN X28 hx (hb hby own_d4_28) (pc' := 29) rfl (v := (.ref p1)) rfl rfl ?_
      refine OwnK.getF_ X28 hx hZ hown (host := "") (Or.inl (hw _ (List.mem_of_getElem? (i := 15) rfl))) Via.refl e28 f14 (hb hby own_d4_29) (pc' := 32) rfl (fun T29 X29 e29 => ?_)
      refine OwnK.iloadN X29 hx (hb hby own_d4_32) (pc' := 33) rfl (v := (3 : Int32)) rfl ?_
      refine OwnK.laload X29 hx hZ e29 f16 (by decide) (by first | decide | omega) (v := (.long w3)) rfl (hb hby own_d4_33) (pc' := 34) rfl ?_
      refine OwnK.lcmp_eq X29 hx (hb hby own_d4_34) (pc1 := 35) rfl (hb hby own_d4_35) (by decide) (pcT := 50) (by decide) (pc' := 38) rfl (fun (hc30 : w0.toInt = w3.toInt) => ?_) (fun (hc30 : ¬ w0.toInt = w3.toInt) => ?_)
      · refine OwnK.iincL X29 hx (hb hby own_d4_50) (pc' := 53) rfl (x := (3 : Int32)) rfl (v := (4 : Int32)) (by decide) (Ls' := #[.val (.ref p1), .val (.ref a2), .val (.int (1 : Int32)), .val (.int (4 : Int32))]) rfl ?_
        refine OwnK.goto_ X29 hx (hb hby own_d4_53) (by decide) (pc' := 11) (by decide) ?_
        refine OwnK.iloadN X29 hx (hb hby own_d4_11) (pc' := 12) rfl (v := (4 : Int32)) rfl ?_
        refine OwnK.aloadN X29 hx (hb hby own_d4_12) (pc' := 13) rfl (v := (.ref p1)) rfl rfl ?_
        refine OwnK.getF_ X29 hx hZ hown (host := "") (Or.inl (hw _ (List.mem_of_getElem? (i := 19) rfl))) Via.refl e29 f15 (hb hby own_d4_13) (pc' := 16) rfl (fun T31 X31 e31 => ?_)
        refine OwnK.icmp_ge X31 hx (hb hby own_d4_16) (by decide) (pcT := 56) (by decide) (pc' := 19) rfl (fun hc16 => ?_) (fun (hc16 : 4 < 4) => absurd hc16 (by decide))
        refine OwnK.aloadN X31 hx (hb hby own_d4_56) (pc' := 57) rfl (v := (.ref a2)) rfl rfl ?_
        refine OwnK.iloadN X31 hx (hb hby own_d4_57) (pc' := 58) rfl (v := (1 : Int32)) rfl ?_
        refine OwnK.callS_ X31 hx hZ hown (y := (⟨"java/util/Arrays", "copyOf", "([JI)[J"⟩ : MethodName)) (hw _ (List.mem_of_getElem? (i := 26) rfl)) (hw _ (List.mem_of_getElem? (i := 27) rfl)) (hw _ (List.mem_of_getElem? (i := 28) rfl)) (hw _ (List.mem_of_getElem? (i := 29) rfl)) (by decide) (own_met5 l Z a0 hw h13 n0 z21 a2 (1 : Int32) _ _ (4 : Int32) 4 1   f18 f17 (by decide) (by decide) (by decide) (by decide) rfl ) (by decide) (W := 0) (by decide) e31 (by rw [hml]; rfl) own_pd_5 (argsL := [(.ref a2), (.int (1 : Int32))]) rfl (S := []) rfl (Nat.le_of_eq rfl) (hb hby own_d4_58) (pc' := 61) rfl (by decide) (by decide) (fun T32 v32 L32 X32 hQ32 => ?_)
        obtain ⟨r32, kr32, rfl, N32q, K32, hr32, V32⟩ := hQ32
        have N33 := Fr.app N19 N32q
        have q34 : a ≠ r32 := Nat.ne_of_lt (Nat.lt_of_lt_of_le f16.lt hr32)
        have q35 : a2 ≠ r32 := Nat.ne_of_lt (Nat.lt_of_lt_of_le f18.lt hr32)
        have q36 : p1 ≠ r32 := Nat.ne_of_lt (Nat.lt_of_lt_of_le f14.lt hr32)
        have ge_r32 : n0 ≤ r32 := Nat.le_trans z21 hr32
        have sz_r32 : h0.size ≤ r32 := Nat.le_trans K20.1 hr32
        have f37 := f14.keep K32 nin0
        have f38 := f15.keep K32 nin0
        have f39 := f16.keep K32 nin0
        have f40 := f18.keep K32 nin0
        have f41 := f17.keep K32
        have z42 : n0 ≤ T32.heap.size := Nat.le_trans z21 K32.1
        have K43 := K20.trans K32 all0
        have f44 : Arv Z T32.heap r32 _ .long (1 : Int32) [(.long w0)] (.long (0 : Int64)) := V32
        refine OwnK.retA_ X32 hx hret rfl rfl hlk (hb hby own_d4_61) (by decide) (by decide) ?_
        exact ⟨r32, _, rfl, N33, K43, sz_r32, by rw [show own_dd [w0, w1, w2, w3] = [w0] from by show _ :: own_go _ _ = _; rw [own_ge hc24, own_ge hc27, own_ge hc30, own_g0]]; exact f44⟩
      · refine OwnK.aloadN X29 hx (hb hby own_d4_38) (pc' := 39) rfl (v := (.ref a2)) rfl rfl ?_
        refine OwnK.iloadN X29 hx (hb hby own_d4_39) (pc' := 40) rfl (v := (1 : Int32)) rfl ?_
        refine OwnK.iincL X29 hx (hb hby own_d4_40) (pc' := 43) rfl (x := (1 : Int32)) rfl (v := (2 : Int32)) (by decide) (Ls' := #[.val (.ref p1), .val (.ref a2), .val (.int (2 : Int32)), .val (.int (3 : Int32))]) rfl ?_
        refine OwnK.aloadN X29 hx (hb hby own_d4_43) (pc' := 44) rfl (v := (.ref p1)) rfl rfl ?_
        refine OwnK.getF_ X29 hx hZ hown (host := "") (Or.inl (hw _ (List.mem_of_getElem? (i := 15) rfl))) Via.refl e29 f14 (hb hby own_d4_44) (pc' := 47) rfl (fun T45 X45 e45 => ?_)
        refine OwnK.iloadN X45 hx (hb hby own_d4_47) (pc' := 48) rfl (v := (3 : Int32)) rfl ?_
        refine OwnK.laload X45 hx hZ e45 f16 (by decide) (by first | decide | omega) (v := (.long w3)) rfl (hb hby own_d4_48) (pc' := 49) rfl ?_
        refine OwnK.lastore X45 hx hZ e45 f18 (i := 1) (by decide) (by first | decide | omega) (Nat.le_of_ble_eq_true rfl) (hb hby own_d4_49) (pc' := 50) rfl (fun T46 h46 X46 e46 W46 V46 => ?_)
        have f47 := f14.other W46 (Or.inl q4)
        have f48 := f15.other W46 (Or.inl q4)
        have f49 := f16.other W46 q3
        have f50 := f17.wr W46
        have f51 : Arv Z h46 a2 _ .long (4 : Int32) [(.long w0), (.long w3), (.long (0 : Int64)), (.long (0 : Int64))] (.long (0 : Int64)) := V46
        have N52 := Fr.snoc X46 N19 ge_a2
        have K53 := K20.wr W46 (Or.inr sz_a2)
        have z54 : n0 ≤ h46.size := Nat.le_trans z21 (Keep.of_wr W46).1
        refine OwnK.iincL X46 hx (hb hby own_d4_50) (pc' := 53) rfl (x := (3 : Int32)) rfl (v := (4 : Int32)) (by decide) (Ls' := #[.val (.ref p1), .val (.ref a2), .val (.int (2 : Int32)), .val (.int (4 : Int32))]) rfl ?_
        refine OwnK.goto_ X46 hx (hb hby own_d4_53) (by decide) (pc' := 11) (by decide) ?_
        refine OwnK.iloadN X46 hx (hb hby own_d4_11) (pc' := 12) rfl (v := (4 : Int32)) rfl ?_
        refine OwnK.aloadN X46 hx (hb hby own_d4_12) (pc' := 13) rfl (v := (.ref p1)) rfl rfl ?_
        refine OwnK.getF_ X46 hx hZ hown (host := "") (Or.inl (hw _ (List.mem_of_getElem? (i := 19) rfl))) Via.refl e46 f48 (hb hby own_d4_13) (pc' := 16) rfl (fun T55 X55 e55 => ?_)
        refine OwnK.icmp_ge X55 hx (hb hby own_d4_16) (by decide) (pcT := 56) (by decide) (pc' := 19) rfl (fun hc16 => ?_) (fun (hc16 : 4 < 4) => absurd hc16 (by decide))
        refine OwnK.aloadN X55 hx (hb hby own_d4_56) (pc' := 57) rfl (v := (.ref a2)) rfl rfl ?_
        refine OwnK.iloadN X55 hx (hb hby own_d4_57) (pc' := 58) rfl (v := (2 : Int32)) rfl ?_
        refine OwnK.callS_ X55 hx hZ hown (y := (⟨"java/util/Arrays", "copyOf", "([JI)[J"⟩ : MethodName)) (hw _ (List.mem_of_getElem? (i := 26) rfl)) (hw _ (List.mem_of_getElem? (i := 27) rfl)) (hw _ (List.mem_of_getElem? (i := 28) rfl)) (hw _ (List.mem_of_getElem? (i := 29) rfl)) (by decide) (own_met5 l Z a0 hw h46 n0 z54 a2 (2 : Int32) _ _ (4 : Int32) 4 2   f51 f50 (by decide) (by decide) (by decide) (by decide) rfl ) (by decide) (W := 0) (by decide) e55 (by rw [hml]; rfl) own_pd_5 (argsL := [(.ref a2), (.int (2 : Int32))]) rfl (S := []) rfl (Nat.le_of_eq rfl) (hb hby own_d4_58) (pc' := 61) rfl (by decide) (by decide) (fun T56 v56 L56 X56 hQ56 => ?_)
        obtain ⟨r56, kr56, rfl, N56q, K56, hr56, V56⟩ := hQ56
        have N57 := Fr.app N52 N56q
        have q58 : a ≠ r56 := Nat.ne_of_lt (Nat.lt_of_lt_of_le f49.lt hr56)
        have q59 : a2 ≠ r56 := Nat.ne_of_lt (Nat.lt_of_lt_of_le f51.lt hr56)
        have q60 : p1 ≠ r56 := Nat.ne_of_lt (Nat.lt_of_lt_of_le f47.lt hr56)
        have ge_r56 : n0 ≤ r56 := Nat.le_trans z54 hr56
        have sz_r56 : h0.size ≤ r56 := Nat.le_trans K53.1 hr56
        have f61 := f47.keep K56 nin0
        have f62 := f48.keep K56 nin0
        have f63 := f49.keep K56 nin0
        have f64 := f51.keep K56 nin0
        have f65 := f50.keep K56
        have z66 : n0 ≤ T56.heap.size := Nat.le_trans z54 K56.1
        have K67 := K53.trans K56 all0
        have f68 : Arv Z T56.heap r56 _ .long (2 : Int32) [(.long w0), (.long w3)] (.long (0 : Int64)) := V56
        refine OwnK.retA_ X56 hx hret rfl rfl hlk (hb hby own_d4_61) (by decide) (by decide) ?_
        exact ⟨r56, _, rfl, N57, K67, sz_r56, by rw [show own_dd [w0, w1, w2, w3] = [w0, w3] from by show _ :: own_go _ _ = _; rw [own_ge hc24, own_ge hc27, own_gn hc30, own_g0]]; exact f68⟩
    · refine OwnK.aloadN X26 hx (hb hby own_d4_38) (pc' := 39) rfl (v := (.ref a2)) rfl rfl ?_
      refine OwnK.iloadN X26 hx (hb hby own_d4_39) (pc' := 40) rfl (v := (1 : Int32)) rfl ?_
      refine OwnK.iincL X26 hx (hb hby own_d4_40) (pc' := 43) rfl (x := (1 : Int32)) rfl (v := (2 : Int32)) (by decide) (Ls' := #[.val (.ref p1), .val (.ref a2), .val (.int (2 : Int32)), .val (.int (2 : Int32))]) rfl ?_
      refine OwnK.aloadN X26 hx (hb hby own_d4_43) (pc' := 44) rfl (v := (.ref p1)) rfl rfl ?_
      refine OwnK.getF_ X26 hx hZ hown (host := "") (Or.inl (hw _ (List.mem_of_getElem? (i := 15) rfl))) Via.refl e26 f14 (hb hby own_d4_44) (pc' := 47) rfl (fun T69 X69 e69 => ?_)
      refine OwnK.iloadN X69 hx (hb hby own_d4_47) (pc' := 48) rfl (v := (2 : Int32)) rfl ?_
      refine OwnK.laload X69 hx hZ e69 f16 (by decide) (by first | decide | omega) (v := (.long w2)) rfl (hb hby own_d4_48) (pc' := 49) rfl ?_
      refine OwnK.lastore X69 hx hZ e69 f18 (i := 1) (by decide) (by first | decide | omega) (Nat.le_of_ble_eq_true rfl) (hb hby own_d4_49) (pc' := 50) rfl (fun T70 h70 X70 e70 W70 V70 => ?_)
      have f71 := f14.other W70 (Or.inl q4)
      have f72 := f15.other W70 (Or.inl q4)
      have f73 := f16.other W70 q3
      have f74 := f17.wr W70
      have f75 : Arv Z h70 a2 _ .long (4 : Int32) [(.long w0), (.long w2), (.long (0 : Int64)), (.long (0 : Int64))] (.long (0 : Int64)) := V70
      have N76 := Fr.snoc X70 N19 ge_a2
      have K77 := K20.wr W70 (Or.inr sz_a2)
      have z78 : n0 ≤ h70.size := Nat.le_trans z21 (Keep.of_wr W70).1
      refine OwnK.iincL X70 hx (hb hby own_d4_50) (pc' := 53) rfl (x := (2 : Int32)) rfl (v := (3 : Int32)) (by decide) (Ls' := #[.val (.ref p1), .val (.ref a2), .val (.int (2 : Int32)), .val (.int (3 : Int32))]) rfl ?_
      refine OwnK.goto_ X70 hx (hb hby own_d4_53) (by decide) (pc' := 11) (by decide) ?_
      refine OwnK.iloadN X70 hx (hb hby own_d4_11) (pc' := 12) rfl (v := (3 : Int32)) rfl ?_
      refine OwnK.aloadN X70 hx (hb hby own_d4_12) (pc' := 13) rfl (v := (.ref p1)) rfl rfl ?_
      refine OwnK.getF_ X70 hx hZ hown (host := "") (Or.inl (hw _ (List.mem_of_getElem? (i := 19) rfl))) Via.refl e70 f72 (hb hby own_d4_13) (pc' := 16) rfl (fun T79 X79 e79 => ?_)
      refine OwnK.icmp_ge X79 hx (hb hby own_d4_16) (by decide) (pcT := 56) (by decide) (pc' := 19) rfl (fun (hc16 : 4 ≤ 3) => absurd hc16 (by decide)) (fun hc16 => ?_)
      refine OwnK.iloadN X79 hx (hb hby own_d4_19) (pc' := 20) rfl (v := (2 : Int32)) rfl ?_
      refine OwnK.if_eq X79 hx (hb hby own_d4_20) (by decide) (pcT := 38) (by decide) (pc' := 23) rfl (fun (hc20 : 2 = 0) => absurd hc20 (by decide)) (fun hc20 => ?_)
      refine OwnK.aloadN X79 hx (hb hby own_d4_23) (pc' := 24) rfl (v := (.ref a2)) rfl rfl ?_
      refine OwnK.iloadN X79 hx (hb hby own_d4_24) (pc' := 25) rfl (v := (2 : Int32)) rfl ?_
      refine OwnK.iconst X79 hx (hb hby own_d4_25) (pc' := 26) rfl (v := (1 : Int32)) (by decide) ?_
      refine OwnK.isubL X79 hx (hb hby own_d4_26) (pc' := 27) rfl (z := (1 : Int32)) (by decide) ?_
      refine OwnK.laload X79 hx hZ e79 f75 (by decide) (by first | decide | omega) (v := (.long w2)) rfl (hb hby own_d4_27) (pc' := 28) rfl ?_
      refine OwnK.aloadN X79 hx (hb hby own_d4_28) (pc' := 29) rfl (v := (.ref p1)) rfl rfl ?_
      refine OwnK.getF_ X79 hx hZ hown (host := "") (Or.inl (hw _ (List.mem_of_getElem? (i := 15) rfl))) Via.refl e79 f71 (hb hby own_d4_29) (pc' := 32) rfl (fun T80 X80 e80 => ?_)
      refine OwnK.iloadN X80 hx (hb hby own_d4_32) (pc' := 33) rfl (v := (3 : Int32)) rfl ?_
      refine OwnK.laload X80 hx hZ e80 f73 (by decide) (by first | decide | omega) (v := (.long w3)) rfl (hb hby own_d4_33) (pc' := 34) rfl ?_
      refine OwnK.lcmp_eq X80 hx (hb hby own_d4_34) (pc1 := 35) rfl (hb hby own_d4_35) (by decide) (pcT := 50) (by decide) (pc' := 38) rfl (fun (hc81 : w2.toInt = w3.toInt) => ?_) (fun (hc81 : ¬ w2.toInt = w3.toInt) => ?_)
      · refine OwnK.iincL X80 hx (hb hby own_d4_50) (pc' := 53) rfl (x := (3 : Int32)) rfl (v := (4 : Int32)) (by decide) (Ls' := #[.val (.ref p1), .val (.ref a2), .val (.int (2 : Int32)), .val (.int (4 : Int32))]) rfl ?_
        refine OwnK.goto_ X80 hx (hb hby own_d4_53) (by decide) (pc' := 11) (by decide) ?_
        refine OwnK.iloadN X80 hx (hb hby own_d4_11) (pc' := 12) rfl (v := (4 : Int32)) rfl ?_
        refine OwnK.aloadN X80 hx (hb hby own_d4_12) (pc' := 13) rfl (v := (.ref p1)) rfl rfl ?_
        refine OwnK.getF_ X80 hx hZ hown (host := "") (Or.inl (hw _ (List.mem_of_getElem? (i := 19) rfl))) Via.refl e80 f72 (hb hby own_d4_13) (pc' := 16) rfl (fun T82 X82 e82 => ?_)
        refine OwnK.icmp_ge X82 hx (hb hby own_d4_16) (by decide) (pcT := 56) (by decide) (pc' := 19) rfl (fun hc16 => ?_) (fun (hc16 : 4 < 4) => absurd hc16 (by decide))
        refine OwnK.aloadN X82 hx (hb hby own_d4_56) (pc' := 57) rfl (v := (.ref a2)) rfl rfl ?_
        refine OwnK.iloadN X82 hx (hb hby own_d4_57) (pc' := 58) rfl (v := (2 : Int32)) rfl ?_
        refine OwnK.callS_ X82 hx hZ hown (y := (⟨"java/util/Arrays", "copyOf", "([JI)[J"⟩ : MethodName)) (hw _ (List.mem_of_getElem? (i := 26) rfl)) (hw _ (List.mem_of_getElem? (i := 27) rfl)) (hw _ (List.mem_of_getElem? (i := 28) rfl)) (hw _ (List.mem_of_getElem? (i := 29) rfl)) (by decide) (own_met5 l Z a0 hw h70 n0 z78 a2 (2 : Int32) _ _ (4 : Int32) 4 2   f75 f74 (by decide) (by decide) (by decide) (by decide) rfl ) (by decide) (W := 0) (by decide) e82 (by rw [hml]; rfl) own_pd_5 (argsL := [(.ref a2), (.int (2 : Int32))]) rfl (S := []) rfl (Nat.le_of_eq rfl) (hb hby own_d4_58) (pc' := 61) rfl (by decide) (by decide) (fun T83 v83 L83 X83 hQ83 => ?_)
        obtain ⟨r83, kr83, rfl, N83q, K83, hr83, V83⟩ := hQ83
        have N84 := Fr.app N76 N83q
        have q85 : a ≠ r83 := Nat.ne_of_lt (Nat.lt_of_lt_of_le f73.lt hr83)
        have q86 : a2 ≠ r83 := Nat.ne_of_lt (Nat.lt_of_lt_of_le f75.lt hr83)
        have q87 : p1 ≠ r83 := Nat.ne_of_lt (Nat.lt_of_lt_of_le f71.lt hr83)
        have ge_r83 : n0 ≤ r83 := Nat.le_trans z78 hr83
        have sz_r83 : h0.size ≤ r83 := Nat.le_trans K77.1 hr83
        have f88 := f71.keep K83 nin0
        have f89 := f72.keep K83 nin0
        have f90 := f73.keep K83 nin0
        have f91 := f75.keep K83 nin0
        have f92 := f74.keep K83
        have z93 : n0 ≤ T83.heap.size := Nat.le_trans z78 K83.1
        have K94 := K77.trans K83 all0
        have f95 : Arv Z T83.heap r83 _ .long (2 : Int32) [(.long w0), (.long w2)] (.long (0 : Int64)) := V83
        refine OwnK.retA_ X83 hx hret rfl rfl hlk (hb hby own_d4_61) (by decide) (by decide) ?_
        exact ⟨r83, _, rfl, N84, K94, sz_r83, by rw [show own_dd [w0, w1, w2, w3] = [w0, w2] from by show _ :: own_go _ _ = _; rw [own_ge hc24, own_gn hc27, own_ge hc81, own_g0]]; exact f95⟩
      · refine OwnK.aloadN X80 hx (hb hby own_d4_38) (pc' := 39) rfl (v := (.ref a2)) rfl rfl ?_
        refine OwnK.iloadN X80 hx (hb hby own_d4_39) (pc' := 40) rfl (v := (2 : Int32)) rfl ?_
        refine OwnK.iincL X80 hx (hb hby own_d4_40) (pc' := 43) rfl (x := (2 : Int32)) rfl (v := (3 : Int32)) (by decide) (Ls' := #[.val (.ref p1), .val (.ref a2), .val (.int (3 : Int32)), .val (.int (3 : Int32))]) rfl ?_
        refine OwnK.aloadN X80 hx (hb hby own_d4_43) (pc' := 44) rfl (v := (.ref p1)) rfl rfl ?_
        refine OwnK.getF_ X80 hx hZ hown (host := "") (Or.inl (hw _ (List.mem_of_getElem? (i := 15) rfl))) Via.refl e80 f71 (hb hby own_d4_44) (pc' := 47) rfl (fun T96 X96 e96 => ?_)
        refine OwnK.iloadN X96 hx (hb hby own_d4_47) (pc' := 48) rfl (v := (3 : Int32)) rfl ?_
        refine OwnK.laload X96 hx hZ e96 f73 (by decide) (by first | decide | omega) (v := (.long w3)) rfl (hb hby own_d4_48) (pc' := 49) rfl ?_
        refine OwnK.lastore X96 hx hZ e96 f75 (i := 2) (by decide) (by first | decide | omega) (Nat.le_of_ble_eq_true rfl) (hb hby own_d4_49) (pc' := 50) rfl (fun T97 h97 X97 e97 W97 V97 => ?_)
        have f98 := f71.other W97 (Or.inl q4)
        have f99 := f72.other W97 (Or.inl q4)
        have f100 := f73.other W97 q3
        have f101 := f74.wr W97
        have f102 : Arv Z h97 a2 _ .long (4 : Int32) [(.long w0), (.long w2), (.long w3), (.long (0 : Int64))] (.long (0 : Int64)) := V97
        have N103 := Fr.snoc X97 N76 ge_a2
        have K104 := K77.wr W97 (Or.inr sz_a2)
        have z105 : n0 ≤ h97.size := Nat.le_trans z78 (Keep.of_wr W97).1
        refine OwnK.iincL X97 hx (hb hby own_d4_50) (pc' := 53) rfl (x := (3 : Int32)) rfl (v := (4 : Int32)) (by decide) (Ls' := #[.val (.ref p1), .val (.ref a2), .val (.int (3 : Int32)), .val (.int (4 : Int32))]) rfl ?_
        refine OwnK.goto_ X97 hx (hb hby own_d4_53) (by decide) (pc' := 11) (by decide) ?_
        refine OwnK.iloadN X97 hx (hb hby own_d4_11) (pc' := 12) rfl (v := (4 : Int32)) rfl ?_
        refine OwnK.aloadN X97 hx (hb hby own_d4_12) (pc' := 13) rfl (v := (.ref p1)) rfl rfl ?_
        refine OwnK.getF_ X97 hx hZ hown (host := "") (Or.inl (hw _ (List.mem_of_getElem? (i := 19) rfl))) Via.refl e97 f99 (hb hby own_d4_13) (pc' := 16) rfl (fun T106 X106 e106 => ?_)
        refine OwnK.icmp_ge X106 hx (hb hby own_d4_16) (by decide) (pcT := 56) (by decide) (pc' := 19) rfl (fun hc16 => ?_) (fun (hc16 : 4 < 4) => absurd hc16 (by decide))
        refine OwnK.aloadN X106 hx (hb hby own_d4_56) (pc' := 57) rfl (v := (.ref a2)) rfl rfl ?_
        refine OwnK.iloadN X106 hx (hb hby own_d4_57) (pc' := 58) rfl (v := (3 : Int32)) rfl ?_
        refine OwnK.callS_ X106 hx hZ hown (y := (⟨"java/util/Arrays", "copyOf", "([JI)[J"⟩ : MethodName)) (hw _ (List.mem_of_getElem? (i := 26) rfl)) (hw _ (List.mem_of_getElem? (i := 27) rfl)) (hw _ (List.mem_of_getElem? (i := 28) rfl)) (hw _ (List.mem_of_getElem? (i := 29) rfl)) (by decide) (own_met5 l Z a0 hw h97 n0 z105 a2 (3 : Int32) _ _ (4 : Int32) 4 3   f102 f101 (by decide) (by decide) (by decide) (by decide) rfl ) (by decide) (W := 0) (by decide) e106 (by rw [hml]; rfl) own_pd_5 (argsL := [(.ref a2), (.int (3 : Int32))]) rfl (S := []) rfl (Nat.le_of_eq rfl) (hb hby own_d4_58) (pc' := 61) rfl (by decide) (by decide) (fun T107 v107 L107 X107 hQ107 => ?_)
        obtain ⟨r107, kr107, rfl, N107q, K107, hr107, V107⟩ := hQ107
        have N108 := Fr.app N103 N107q
        have q109 : a ≠ r107 := Nat.ne_of_lt (Nat.lt_of_lt_of_le f100.lt hr107)
        have q110 : a2 ≠ r107 := Nat.ne_of_lt (Nat.lt_of_lt_of_le f102.lt hr107)
        have q111 : p1 ≠ r107 := Nat.ne_of_lt (Nat.lt_of_lt_of_le f98.lt hr107)
        have ge_r107 : n0 ≤ r107 := Nat.le_trans z105 hr107
        have sz_r107 : h0.size ≤ r107 := Nat.le_trans K104.1 hr107
        have f112 := f98.keep K107 nin0
        have f113 := f99.keep K107 nin0
        have f114 := f100.keep K107 nin0
        have f115 := f102.keep K107 nin0
        have f116 := f101.keep K107
        have z117 : n0 ≤ T107.heap.size := Nat.le_trans z105 K107.1
        have K118 := K104.trans K107 all0
        have f119 : Arv Z T107.heap r107 _ .long (3 : Int32) [(.long w0), (.long w2), (.long w3)] (.long (0 : Int64)) := V107
        refine OwnK.retA_ X107 hx hret rfl rfl hlk (hb hby own_d4_61) (by decide) (by decide) ?_
        exact ⟨r107, _, rfl, N108, K118, sz_r107, by rw [show own_dd [w0, w1, w2, w3] = [w0, w2, w3] from by show _ :: own_go _ _ = _; rw [own_ge hc24, own_gn hc27, own_gn hc81, own_g0]]; exact f119⟩
  · refine OwnK.aloadN X23 hx (hb hby own_d4_38) (pc' := 39) rfl (v := (.ref a2)) rfl rfl ?_
    refine OwnK.iloadN X23 hx (hb hby own_d4_39) (pc' := 40) rfl (v := (1 : Int32)) rfl ?_
    refine OwnK.iincL X23 hx (hb hby own_d4_40) (pc' := 43) rfl (x := (1 : Int32)) rfl (v := (2 : Int32)) (by decide) (Ls' := #[.val (.ref p1), .val (.ref a2), .val (.int (2 : Int32)), .val (.int (1 : Int32))]) rfl ?_
    refine OwnK.aloadN X23 hx (hb hby own_d4_43) (pc' := 44) rfl (v := (.ref p1)) rfl rfl ?_
    refine OwnK.getF_ X23 hx hZ hown (host := "") (Or.inl (hw _ (List.mem_of_getElem? (i := 15) rfl))) Via.refl e23 f14 (hb hby own_d4_44) (pc' := 47) rfl (fun T120 X120 e120 => ?_)
    refine OwnK.iloadN X120 hx (hb hby own_d4_47) (pc' := 48) rfl (v := (1 : Int32)) rfl ?_
    refine OwnK.laload X120 hx hZ e120 f16 (by decide) (by first | decide | omega) (v := (.long w1)) rfl (hb hby own_d4_48) (pc' := 49) rfl ?_
    refine OwnK.lastore X120 hx hZ e120 f18 (i := 1) (by decide) (by first | decide | omega) (Nat.le_of_ble_eq_true rfl) (hb hby own_d4_49) (pc' := 50) rfl (fun T121 h121 X121 e121 W121 V121 => ?_)
    have f122 := f14.other W121 (Or.inl q4)
    have f123 := f15.other W121 (Or.inl q4)
    have f124 := f16.other W121 q3
    have f125 := f17.wr W121
    have f126 : Arv Z h121 a2 _ .long (4 : Int32) [(.long w0), (.long w1), (.long (0 : Int64)), (.long (0 : Int64))] (.long (0 : Int64)) := V121
    have N127 := Fr.snoc X121 N19 ge_a2
    have K128 := K20.wr W121 (Or.inr sz_a2)
    have z129 : n0 ≤ h121.size := Nat.le_trans z21 (Keep.of_wr W121).1
    refine OwnK.iincL X121 hx (hb hby own_d4_50) (pc' := 53) rfl (x := (1 : Int32)) rfl (v := (2 : Int32)) (by decide) (Ls' := #[.val (.ref p1), .val (.ref a2), .val (.int (2 : Int32)), .val (.int (2 : Int32))]) rfl ?_
    refine OwnK.goto_ X121 hx (hb hby own_d4_53) (by decide) (pc' := 11) (by decide) ?_
    refine OwnK.iloadN X121 hx (hb hby own_d4_11) (pc' := 12) rfl (v := (2 : Int32)) rfl ?_
    refine OwnK.aloadN X121 hx (hb hby own_d4_12) (pc' := 13) rfl (v := (.ref p1)) rfl rfl ?_
    refine OwnK.getF_ X121 hx hZ hown (host := "") (Or.inl (hw _ (List.mem_of_getElem? (i := 19) rfl))) Via.refl e121 f123 (hb hby own_d4_13) (pc' := 16) rfl (fun T130 X130 e130 => ?_)
    refine OwnK.icmp_ge X130 hx (hb hby own_d4_16) (by decide) (pcT := 56) (by decide) (pc' := 19) rfl (fun (hc16 : 4 ≤ 2) => absurd hc16 (by decide)) (fun hc16 => ?_)
    refine OwnK.iloadN X130 hx (hb hby own_d4_19) (pc' := 20) rfl (v := (2 : Int32)) rfl ?_
    refine OwnK.if_eq X130 hx (hb hby own_d4_20) (by decide) (pcT := 38) (by decide) (pc' := 23) rfl (fun (hc20 : 2 = 0) => absurd hc20 (by decide)) (fun hc20 => ?_)
    refine OwnK.aloadN X130 hx (hb hby own_d4_23) (pc' := 24) rfl (v := (.ref a2)) rfl rfl ?_
    refine OwnK.iloadN X130 hx (hb hby own_d4_24) (pc' := 25) rfl (v := (2 : Int32)) rfl ?_
    refine OwnK.iconst X130 hx (hb hby own_d4_25) (pc' := 26) rfl (v := (1 : Int32)) (by decide) ?_
    refine OwnK.isubL X130 hx (hb hby own_d4_26) (pc' := 27) rfl (z := (1 : Int32)) (by decide) ?_
    refine OwnK.laload X130 hx hZ e130 f126 (by decide) (by first | decide | omega) (v := (.long w1)) rfl (hb hby own_d4_27) (pc' := 28) rfl ?_
    refine OwnK.aloadN X130 hx (hb hby own_d4_28) (pc' := 29) rfl (v := (.ref p1)) rfl rfl ?_
    refine OwnK.getF_ X130 hx hZ hown (host := "") (Or.inl (hw _ (List.mem_of_getElem? (i := 15) rfl))) Via.refl e130 f122 (hb hby own_d4_29) (pc' := 32) rfl (fun T131 X131 e131 => ?_)
    refine OwnK.iloadN X131 hx (hb hby own_d4_32) (pc' := 33) rfl (v := (2 : Int32)) rfl ?_
    refine OwnK.laload X131 hx hZ e131 f124 (by decide) (by first | decide | omega) (v := (.long w2)) rfl (hb hby own_d4_33) (pc' := 34) rfl ?_
    refine OwnK.lcmp_eq X131 hx (hb hby own_d4_34) (pc1 := 35) rfl (hb hby own_d4_35) (by decide) (pcT := 50) (by decide) (pc' := 38) rfl (fun (hc132 : w1.toInt = w2.toInt) => ?_) (fun (hc132 : ¬ w1.toInt = w2.toInt) => ?_)
    · refine OwnK.iincL X131 hx (hb hby own_d4_50) (pc' := 53) rfl (x := (2 : Int32)) rfl (v := (3 : Int32)) (by decide) (Ls' := #[.val (.ref p1), .val (.ref a2), .val (.int (2 : Int32)), .val (.int (3 : Int32))]) rfl ?_
      refine OwnK.goto_ X131 hx (hb hby own_d4_53) (by decide) (pc' := 11) (by decide) ?_
      refine OwnK.iloadN X131 hx (hb hby own_d4_11) (pc' := 12) rfl (v := (3 : Int32)) rfl ?_
      refine OwnK.aloadN X131 hx (hb hby own_d4_12) (pc' := 13) rfl (v := (.ref p1)) rfl rfl ?_
      refine OwnK.getF_ X131 hx hZ hown (host := "") (Or.inl (hw _ (List.mem_of_getElem? (i := 19) rfl))) Via.refl e131 f123 (hb hby own_d4_13) (pc' := 16) rfl (fun T133 X133 e133 => ?_)
      refine OwnK.icmp_ge X133 hx (hb hby own_d4_16) (by decide) (pcT := 56) (by decide) (pc' := 19) rfl (fun (hc16 : 4 ≤ 3) => absurd hc16 (by decide)) (fun hc16 => ?_)
      refine OwnK.iloadN X133 hx (hb hby own_d4_19) (pc' := 20) rfl (v := (2 : Int32)) rfl ?_
      refine OwnK.if_eq X133 hx (hb hby own_d4_20) (by decide) (pcT := 38) (by decide) (pc' := 23) rfl (fun (hc20 : 2 = 0) => absurd hc20 (by decide)) (fun hc20 => ?_)
      refine OwnK.aloadN X133 hx (hb hby own_d4_23) (pc' := 24) rfl (v := (.ref a2)) rfl rfl ?_
      refine OwnK.iloadN X133 hx (hb hby own_d4_24) (pc' := 25) rfl (v := (2 : Int32)) rfl ?_
      refine OwnK.iconst X133 hx (hb hby own_d4_25) (pc' := 26) rfl (v := (1 : Int32)) (by decide) ?_
      refine OwnK.isubL X133 hx (hb hby own_d4_26) (pc' := 27) rfl (z := (1 : Int32)) (by decide) ?_
      refine OwnK.laload X133 hx hZ e133 f126 (by decide) (by first | decide | omega) (v := (.long w1)) rfl (hb hby own_d4_27) (pc' := 28) rfl ?_
      refine OwnK.aloadN X133 hx (hb hby own_d4_28) (pc' := 29) rfl (v := (.ref p1)) rfl rfl ?_
      refine OwnK.getF_ X133 hx hZ hown (host := "") (Or.inl (hw _ (List.mem_of_getElem? (i := 15) rfl))) Via.refl e133 f122 (hb hby own_d4_29) (pc' := 32) rfl (fun T134 X134 e134 => ?_)
      refine OwnK.iloadN X134 hx (hb hby own_d4_32) (pc' := 33) rfl (v := (3 : Int32)) rfl ?_
      refine OwnK.laload X134 hx hZ e134 f124 (by decide) (by first | decide | omega) (v := (.long w3)) rfl (hb hby own_d4_33) (pc' := 34) rfl ?_
      refine OwnK.lcmp_eq X134 hx (hb hby own_d4_34) (pc1 := 35) rfl (hb hby own_d4_35) (by decide) (pcT := 50) (by decide) (pc' := 38) rfl (fun (hc135 : w1.toInt = w3.toInt) => ?_) (fun (hc135 : ¬ w1.toInt = w3.toInt) => ?_)
      · refine OwnK.iincL X134 hx (hb hby own_d4_50) (pc' := 53) rfl (x := (3 : Int32)) rfl (v := (4 : Int32)) (by decide) (Ls' := #[.val (.ref p1), .val (.ref a2), .val (.int (2 : Int32)), .val (.int (4 : Int32))]) rfl ?_
        refine OwnK.goto_ X134 hx (hb hby own_d4_53) (by decide) (pc' := 11) (by decide) ?_
        refine OwnK.iloadN X134 hx (hb hby own_d4_11) (pc' := 12) rfl (v := (4 : Int32)) rfl ?_
        refine OwnK.aloadN X134 hx (hb hby own_d4_12) (pc' := 13) rfl (v := (.ref p1)) rfl rfl ?_
        refine OwnK.getF_ X134 hx hZ hown (host := "") (Or.inl (hw _ (List.mem_of_getElem? (i := 19) rfl))) Via.refl e134 f123 (hb hby own_d4_13) (pc' := 16) rfl (fun T136 X136 e136 => ?_)
        refine OwnK.icmp_ge X136 hx (hb hby own_d4_16) (by decide) (pcT := 56) (by decide) (pc' := 19) rfl (fun hc16 => ?_) (fun (hc16 : 4 < 4) => absurd hc16 (by decide))
        refine OwnK.aloadN X136 hx (hb hby own_d4_56) (pc' := 57) rfl (v := (.ref a2)) rfl rfl ?_
        refine OwnK.iloadN X136 hx (hb hby own_d4_57) (pc' := 58) rfl (v := (2 : Int32)) rfl ?_
        refine OwnK.callS_ X136 hx hZ hown (y := (⟨"java/util/Arrays", "copyOf", "([JI)[J"⟩ : MethodName)) (hw _ (List.mem_of_getElem? (i := 26) rfl)) (hw _ (List.mem_of_getElem? (i := 27) rfl)) (hw _ (List.mem_of_getElem? (i := 28) rfl)) (hw _ (List.mem_of_getElem? (i := 29) rfl)) (by decide) (own_met5 l Z a0 hw h121 n0 z129 a2 (2 : Int32) _ _ (4 : Int32) 4 2   f126 f125 (by decide) (by decide) (by decide) (by decide) rfl ) (by decide) (W := 0) (by decide) e136 (by rw [hml]; rfl) own_pd_5 (argsL := [(.ref a2), (.int (2 : Int32))]) rfl (S := []) rfl (Nat.le_of_eq rfl) (hb hby own_d4_58) (pc' := 61) rfl (by decide) (by decide) (fun T137 v137 L137 X137 hQ137 => ?_)
        obtain ⟨r137, kr137, rfl, N137q, K137, hr137, V137⟩ := hQ137
        have N138 := Fr.app N127 N137q
        have q139 : a ≠ r137 := Nat.ne_of_lt (Nat.lt_of_lt_of_le f124.lt hr137)
        have q140 : a2 ≠ r137 := Nat.ne_of_lt (Nat.lt_of_lt_of_le f126.lt hr137)
        have q141 : p1 ≠ r137 := Nat.ne_of_lt (Nat.lt_of_lt_of_le f122.lt hr137)
        have ge_r137 : n0 ≤ r137 := Nat.le_trans z129 hr137
        have sz_r137 : h0.size ≤ r137 := Nat.le_trans K128.1 hr137
        have f142 := f122.keep K137 nin0
        have f143 := f123.keep K137 nin0
        have f144 := f124.keep K137 nin0
        have f145 := f126.keep K137 nin0
        have f146 := f125.keep K137
        have z147 : n0 ≤ T137.heap.size := Nat.le_trans z129 K137.1
        have K148 := K128.trans K137 all0
        have f149 : Arv Z T137.heap r137 _ .long (2 : Int32) [(.long w0), (.long w1)] (.long (0 : Int64)) := V137
        refine OwnK.retA_ X137 hx hret rfl rfl hlk (hb hby own_d4_61) (by decide) (by decide) ?_
        exact ⟨r137, _, rfl, N138, K148, sz_r137, by rw [show own_dd [w0, w1, w2, w3] = [w0, w1] from by show _ :: own_go _ _ = _; rw [own_gn hc24, own_ge hc132, own_ge hc135, own_g0]]; exact f149⟩
      · refine OwnK.aloadN X134 hx (hb hby own_d4_38) (pc' := 39) rfl (v := (.ref a2)) rfl rfl ?_
        refine OwnK.iloadN X134 hx (hb hby own_d4_39) (pc' := 40) rfl (v := (2 : Int32)) rfl ?_
        refine OwnK.iincL X134 hx (hb hby own_d4_40) (pc' := 43) rfl (x := (2 : Int32)) rfl (v := (3 : Int32)) (by decide) (Ls' := #[.val (.ref p1), .val (.ref a2), .val (.int (3 : Int32)), .val (.int (3 : Int32))]) rfl ?_
        refine OwnK.aloadN X134 hx (hb hby own_d4_43) (pc' := 44) rfl (v := (.ref p1)) rfl rfl ?_
        refine OwnK.getF_ X134 hx hZ hown (host := "") (Or.inl (hw _ (List.mem_of_getElem? (i := 15) rfl))) Via.refl e134 f122 (hb hby own_d4_44) (pc' := 47) rfl (fun T150 X150 e150 => ?_)
        refine OwnK.iloadN X150 hx (hb hby own_d4_47) (pc' := 48) rfl (v := (3 : Int32)) rfl ?_
        refine OwnK.laload X150 hx hZ e150 f124 (by decide) (by first | decide | omega) (v := (.long w3)) rfl (hb hby own_d4_48) (pc' := 49) rfl ?_
        refine OwnK.lastore X150 hx hZ e150 f126 (i := 2) (by decide) (by first | decide | omega) (Nat.le_of_ble_eq_true rfl) (hb hby own_d4_49) (pc' := 50) rfl (fun T151 h151 X151 e151 W151 V151 => ?_)
        have f152 := f122.other W151 (Or.inl q4)
        have f153 := f123.other W151 (Or.inl q4)
        have f154 := f124.other W151 q3
        have f155 := f125.wr W151
        have f156 : Arv Z h151 a2 _ .long (4 : Int32) [(.long w0), (.long w1), (.long w3), (.long (0 : Int64))] (.long (0 : Int64)) := V151
        have N157 := Fr.snoc X151 N127 ge_a2
        have K158 := K128.wr W151 (Or.inr sz_a2)
        have z159 : n0 ≤ h151.size := Nat.le_trans z129 (Keep.of_wr W151).1
        refine OwnK.iincL X151 hx (hb hby own_d4_50) (pc' := 53) rfl (x := (3 : Int32)) rfl (v := (4 : Int32)) (by decide) (Ls' := #[.val (.ref p1), .val (.ref a2), .val (.int (3 : Int32)), .val (.int (4 : Int32))]) rfl ?_
        refine OwnK.goto_ X151 hx (hb hby own_d4_53) (by decide) (pc' := 11) (by decide) ?_
        refine OwnK.iloadN X151 hx (hb hby own_d4_11) (pc' := 12) rfl (v := (4 : Int32)) rfl ?_
        refine OwnK.aloadN X151 hx (hb hby own_d4_12) (pc' := 13) rfl (v := (.ref p1)) rfl rfl ?_
        refine OwnK.getF_ X151 hx hZ hown (host := "") (Or.inl (hw _ (List.mem_of_getElem? (i := 19) rfl))) Via.refl e151 f153 (hb hby own_d4_13) (pc' := 16) rfl (fun T160 X160 e160 => ?_)
        refine OwnK.icmp_ge X160 hx (hb hby own_d4_16) (by decide) (pcT := 56) (by decide) (pc' := 19) rfl (fun hc16 => ?_) (fun (hc16 : 4 < 4) => absurd hc16 (by decide))
        refine OwnK.aloadN X160 hx (hb hby own_d4_56) (pc' := 57) rfl (v := (.ref a2)) rfl rfl ?_
        refine OwnK.iloadN X160 hx (hb hby own_d4_57) (pc' := 58) rfl (v := (3 : Int32)) rfl ?_
        refine OwnK.callS_ X160 hx hZ hown (y := (⟨"java/util/Arrays", "copyOf", "([JI)[J"⟩ : MethodName)) (hw _ (List.mem_of_getElem? (i := 26) rfl)) (hw _ (List.mem_of_getElem? (i := 27) rfl)) (hw _ (List.mem_of_getElem? (i := 28) rfl)) (hw _ (List.mem_of_getElem? (i := 29) rfl)) (by decide) (own_met5 l Z a0 hw h151 n0 z159 a2 (3 : Int32) _ _ (4 : Int32) 4 3   f156 f155 (by decide) (by decide) (by decide) (by decide) rfl ) (by decide) (W := 0) (by decide) e160 (by rw [hml]; rfl) own_pd_5 (argsL := [(.ref a2), (.int (3 : Int32))]) rfl (S := []) rfl (Nat.le_of_eq rfl) (hb hby own_d4_58) (pc' := 61) rfl (by decide) (by decide) (fun T161 v161 L161 X161 hQ161 => ?_)
        obtain ⟨r161, kr161, rfl, N161q, K161, hr161, V161⟩ := hQ161
        have N162 := Fr.app N157 N161q
        have q163 : a ≠ r161 := Nat.ne_of_lt (Nat.lt_of_lt_of_le f154.lt hr161)
        have q164 : a2 ≠ r161 := Nat.ne_of_lt (Nat.lt_of_lt_of_le f156.lt hr161)
        have q165 : p1 ≠ r161 := Nat.ne_of_lt (Nat.lt_of_lt_of_le f152.lt hr161)
        have ge_r161 : n0 ≤ r161 := Nat.le_trans z159 hr161
        have sz_r161 : h0.size ≤ r161 := Nat.le_trans K158.1 hr161
        have f166 := f152.keep K161 nin0
        have f167 := f153.keep K161 nin0
        have f168 := f154.keep K161 nin0
        have f169 := f156.keep K161 nin0
        have f170 := f155.keep K161
        have z171 : n0 ≤ T161.heap.size := Nat.le_trans z159 K161.1
        have K172 := K158.trans K161 all0
        have f173 : Arv Z T161.heap r161 _ .long (3 : Int32) [(.long w0), (.long w1), (.long w3)] (.long (0 : Int64)) := V161
        refine OwnK.retA_ X161 hx hret rfl rfl hlk (hb hby own_d4_61) (by decide) (by decide) ?_
        exact ⟨r161, _, rfl, N162, K172, sz_r161, by rw [show own_dd [w0, w1, w2, w3] = [w0, w1, w3] from by show _ :: own_go _ _ = _; rw [own_gn hc24, own_ge hc132, own_gn hc135, own_g0]]; exact f173⟩
    · refine OwnK.aloadN X131 hx (hb hby own_d4_38) (pc' := 39) rfl (v := (.ref a2)) rfl rfl ?_
      refine OwnK.iloadN X131 hx (hb hby own_d4_39) (pc' := 40) rfl (v := (2 : Int32)) rfl ?_
      refine OwnK.iincL X131 hx (hb hby own_d4_40) (pc' := 43) rfl (x := (2 : Int32)) rfl (v := (3 : Int32)) (by decide) (Ls' := #[.val (.ref p1), .val (.ref a2), .val (.int (3 : Int32)), .val (.int (2 : Int32))]) rfl ?_
      refine OwnK.aloadN X131 hx (hb hby own_d4_43) (pc' := 44) rfl (v := (.ref p1)) rfl rfl ?_
      refine OwnK.getF_ X131 hx hZ hown (host := "") (Or.inl (hw _ (List.mem_of_getElem? (i := 15) rfl))) Via.refl e131 f122 (hb hby own_d4_44) (pc' := 47) rfl (fun T174 X174 e174 => ?_)
      refine OwnK.iloadN X174 hx (hb hby own_d4_47) (pc' := 48) rfl (v := (2 : Int32)) rfl ?_
      refine OwnK.laload X174 hx hZ e174 f124 (by decide) (by first | decide | omega) (v := (.long w2)) rfl (hb hby own_d4_48) (pc' := 49) rfl ?_
      refine OwnK.lastore X174 hx hZ e174 f126 (i := 2) (by decide) (by first | decide | omega) (Nat.le_of_ble_eq_true rfl) (hb hby own_d4_49) (pc' := 50) rfl (fun T175 h175 X175 e175 W175 V175 => ?_)
      have f176 := f122.other W175 (Or.inl q4)
      have f177 := f123.other W175 (Or.inl q4)
      have f178 := f124.other W175 q3
      have f179 := f125.wr W175
      have f180 : Arv Z h175 a2 _ .long (4 : Int32) [(.long w0), (.long w1), (.long w2), (.long (0 : Int64))] (.long (0 : Int64)) := V175
      have N181 := Fr.snoc X175 N127 ge_a2
      have K182 := K128.wr W175 (Or.inr sz_a2)
      have z183 : n0 ≤ h175.size := Nat.le_trans z129 (Keep.of_wr W175).1
      refine OwnK.iincL X175 hx (hb hby own_d4_50) (pc' := 53) rfl (x := (2 : Int32)) rfl (v := (3 : Int32)) (by decide) (Ls' := #[.val (.ref p1), .val (.ref a2), .val (.int (3 : Int32)), .val (.int (3 : Int32))]) rfl ?_
      refine OwnK.goto_ X175 hx (hb hby own_d4_53) (by decide) (pc' := 11) (by decide) ?_
      refine OwnK.iloadN X175 hx (hb hby own_d4_11) (pc' := 12) rfl (v := (3 : Int32)) rfl ?_
      refine OwnK.aloadN X175 hx (hb hby own_d4_12) (pc' := 13) rfl (v := (.ref p1)) rfl rfl ?_
      refine OwnK.getF_ X175 hx hZ hown (host := "") (Or.inl (hw _ (List.mem_of_getElem? (i := 19) rfl))) Via.refl e175 f177 (hb hby own_d4_13) (pc' := 16) rfl (fun T184 X184 e184 => ?_)
      refine OwnK.icmp_ge X184 hx (hb hby own_d4_16) (by decide) (pcT := 56) (by decide) (pc' := 19) rfl (fun (hc16 : 4 ≤ 3) => absurd hc16 (by decide)) (fun hc16 => ?_)
      refine OwnK.iloadN X184 hx (hb hby own_d4_19) (pc' := 20) rfl (v := (3 : Int32)) rfl ?_
      refine OwnK.if_eq X184 hx (hb hby own_d4_20) (by decide) (pcT := 38) (by decide) (pc' := 23) rfl (fun (hc20 : 3 = 0) => absurd hc20 (by decide)) (fun hc20 => ?_)
      refine OwnK.aloadN X184 hx (hb hby own_d4_23) (pc' := 24) rfl (v := (.ref a2)) rfl rfl ?_
      refine OwnK.iloadN X184 hx (hb hby own_d4_24) (pc' := 25) rfl (v := (3 : Int32)) rfl ?_
      refine OwnK.iconst X184 hx (hb hby own_d4_25) (pc' := 26) rfl (v := (1 : Int32)) (by decide) ?_
      refine OwnK.isubL X184 hx (hb hby own_d4_26) (pc' := 27) rfl (z := (2 : Int32)) (by decide) ?_
      refine OwnK.laload X184 hx hZ e184 f180 (by decide) (by first | decide | omega) (v := (.long w2)) rfl (hb hby own_d4_27) (pc' := 28) rfl ?_
      refine OwnK.aloadN X184 hx (hb hby own_d4_28) (pc' := 29) rfl (v := (.ref p1)) rfl rfl ?_
      refine OwnK.getF_ X184 hx hZ hown (host := "") (Or.inl (hw _ (List.mem_of_getElem? (i := 15) rfl))) Via.refl e184 f176 (hb hby own_d4_29) (pc' := 32) rfl (fun T185 X185 e185 => ?_)
      refine OwnK.iloadN X185 hx (hb hby own_d4_32) (pc' := 33) rfl (v := (3 : Int32)) rfl ?_
      refine OwnK.laload X185 hx hZ e185 f178 (by decide) (by first | decide | omega) (v := (.long w3)) rfl (hb hby own_d4_33) (pc' := 34) rfl ?_
      refine OwnK.lcmp_eq X185 hx (hb hby own_d4_34) (pc1 := 35) rfl (hb hby own_d4_35) (by decide) (pcT := 50) (by decide) (pc' := 38) rfl (fun (hc186 : w2.toInt = w3.toInt) => ?_) (fun (hc186 : ¬ w2.toInt = w3.toInt) => ?_)
      · refine OwnK.iincL X185 hx (hb hby own_d4_50) (pc' := 53) rfl (x := (3 : Int32)) rfl (v := (4 : Int32)) (by decide) (Ls' := #[.val (.ref p1), .val (.ref a2), .val (.int (3 : Int32)), .val (.int (4 : Int32))]) rfl ?_
        refine OwnK.goto_ X185 hx (hb hby own_d4_53) (by decide) (pc' := 11) (by decide) ?_
        refine OwnK.iloadN X185 hx (hb hby own_d4_11) (pc' := 12) rfl (v := (4 : Int32)) rfl ?_
        refine OwnK.aloadN X185 hx (hb hby own_d4_12) (pc' := 13) rfl (v := (.ref p1)) rfl rfl ?_
        refine OwnK.getF_ X185 hx hZ hown (host := "") (Or.inl (hw _ (List.mem_of_getElem? (i := 19) rfl))) Via.refl e185 f177 (hb hby own_d4_13) (pc' := 16) rfl (fun T187 X187 e187 => ?_)
        refine OwnK.icmp_ge X187 hx (hb hby own_d4_16) (by decide) (pcT := 56) (by decide) (pc' := 19) rfl (fun hc16 => ?_) (fun (hc16 : 4 < 4) => absurd hc16 (by decide))
        refine OwnK.aloadN X187 hx (hb hby own_d4_56) (pc' := 57) rfl (v := (.ref a2)) rfl rfl ?_
        refine OwnK.iloadN X187 hx (hb hby own_d4_57) (pc' := 58) rfl (v := (3 : Int32)) rfl ?_
        refine OwnK.callS_ X187 hx hZ hown (y := (⟨"java/util/Arrays", "copyOf", "([JI)[J"⟩ : MethodName)) (hw _ (List.mem_of_getElem? (i := 26) rfl)) (hw _ (List.mem_of_getElem? (i := 27) rfl)) (hw _ (List.mem_of_getElem? (i := 28) rfl)) (hw _ (List.mem_of_getElem? (i := 29) rfl)) (by decide) (own_met5 l Z a0 hw h175 n0 z183 a2 (3 : Int32) _ _ (4 : Int32) 4 3   f180 f179 (by decide) (by decide) (by decide) (by decide) rfl ) (by decide) (W := 0) (by decide) e187 (by rw [hml]; rfl) own_pd_5 (argsL := [(.ref a2), (.int (3 : Int32))]) rfl (S := []) rfl (Nat.le_of_eq rfl) (hb hby own_d4_58) (pc' := 61) rfl (by decide) (by decide) (fun T188 v188 L188 X188 hQ188 => ?_)
        obtain ⟨r188, kr188, rfl, N188q, K188, hr188, V188⟩ := hQ188
        have N189 := Fr.app N181 N188q
        have q190 : a ≠ r188 := Nat.ne_of_lt (Nat.lt_of_lt_of_le f178.lt hr188)
        have q191 : a2 ≠ r188 := Nat.ne_of_lt (Nat.lt_of_lt_of_le f180.lt hr188)
        have q192 : p1 ≠ r188 := Nat.ne_of_lt (Nat.lt_of_lt_of_le f176.lt hr188)
        have ge_r188 : n0 ≤ r188 := Nat.le_trans z183 hr188
        have sz_r188 : h0.size ≤ r188 := Nat.le_trans K182.1 hr188
        have f193 := f176.keep K188 nin0
        have f194 := f177.keep K188 nin0
        have f195 := f178.keep K188 nin0
        have f196 := f180.keep K188 nin0
        have f197 := f179.keep K188
        have z198 : n0 ≤ T188.heap.size := Nat.le_trans z183 K188.1
        have K199 := K182.trans K188 all0
        have f200 : Arv Z T188.heap r188 _ .long (3 : Int32) [(.long w0), (.long w1), (.long w2)] (.long (0 : Int64)) := V188
        refine OwnK.retA_ X188 hx hret rfl rfl hlk (hb hby own_d4_61) (by decide) (by decide) ?_
        exact ⟨r188, _, rfl, N189, K199, sz_r188, by rw [show own_dd [w0, w1, w2, w3] = [w0, w1, w2] from by show _ :: own_go _ _ = _; rw [own_gn hc24, own_gn hc132, own_ge hc186, own_g0]]; exact f200⟩
      · refine OwnK.aloadN X185 hx (hb hby own_d4_38) (pc' := 39) rfl (v := (.ref a2)) rfl rfl ?_
        refine OwnK.iloadN X185 hx (hb hby own_d4_39) (pc' := 40) rfl (v := (3 : Int32)) rfl ?_
        refine OwnK.iincL X185 hx (hb hby own_d4_40) (pc' := 43) rfl (x := (3 : Int32)) rfl (v := (4 : Int32)) (by decide) (Ls' := #[.val (.ref p1), .val (.ref a2), .val (.int (4 : Int32)), .val (.int (3 : Int32))]) rfl ?_
        refine OwnK.aloadN X185 hx (hb hby own_d4_43) (pc' := 44) rfl (v := (.ref p1)) rfl rfl ?_
        refine OwnK.getF_ X185 hx hZ hown (host := "") (Or.inl (hw _ (List.mem_of_getElem? (i := 15) rfl))) Via.refl e185 f176 (hb hby own_d4_44) (pc' := 47) rfl (fun T201 X201 e201 => ?_)
        refine OwnK.iloadN X201 hx (hb hby own_d4_47) (pc' := 48) rfl (v := (3 : Int32)) rfl ?_
        refine OwnK.laload X201 hx hZ e201 f178 (by decide) (by first | decide | omega) (v := (.long w3)) rfl (hb hby own_d4_48) (pc' := 49) rfl ?_
        refine OwnK.lastore X201 hx hZ e201 f180 (i := 3) (by decide) (by first | decide | omega) (Nat.le_of_ble_eq_true rfl) (hb hby own_d4_49) (pc' := 50) rfl (fun T202 h202 X202 e202 W202 V202 => ?_)
        have f203 := f176.other W202 (Or.inl q4)
        have f204 := f177.other W202 (Or.inl q4)
        have f205 := f178.other W202 q3
        have f206 := f179.wr W202
        have f207 : Arv Z h202 a2 _ .long (4 : Int32) [(.long w0), (.long w1), (.long w2), (.long w3)] (.long (0 : Int64)) := V202
        have N208 := Fr.snoc X202 N181 ge_a2
        have K209 := K182.wr W202 (Or.inr sz_a2)
        have z210 : n0 ≤ h202.size := Nat.le_trans z183 (Keep.of_wr W202).1
        refine OwnK.iincL X202 hx (hb hby own_d4_50) (pc' := 53) rfl (x := (3 : Int32)) rfl (v := (4 : Int32)) (by decide) (Ls' := #[.val (.ref p1), .val (.ref a2), .val (.int (4 : Int32)), .val (.int (4 : Int32))]) rfl ?_
        refine OwnK.goto_ X202 hx (hb hby own_d4_53) (by decide) (pc' := 11) (by decide) ?_
        refine OwnK.iloadN X202 hx (hb hby own_d4_11) (pc' := 12) rfl (v := (4 : Int32)) rfl ?_
        refine OwnK.aloadN X202 hx (hb hby own_d4_12) (pc' := 13) rfl (v := (.ref p1)) rfl rfl ?_
        refine OwnK.getF_ X202 hx hZ hown (host := "") (Or.inl (hw _ (List.mem_of_getElem? (i := 19) rfl))) Via.refl e202 f204 (hb hby own_d4_13) (pc' := 16) rfl (fun T211 X211 e211 => ?_)
        refine OwnK.icmp_ge X211 hx (hb hby own_d4_16) (by decide) (pcT := 56) (by decide) (pc' := 19) rfl (fun hc16 => ?_) (fun (hc16 : 4 < 4) => absurd hc16 (by decide))
        refine OwnK.aloadN X211 hx (hb hby own_d4_56) (pc' := 57) rfl (v := (.ref a2)) rfl rfl ?_
        refine OwnK.iloadN X211 hx (hb hby own_d4_57) (pc' := 58) rfl (v := (4 : Int32)) rfl ?_
        refine OwnK.callS_ X211 hx hZ hown (y := (⟨"java/util/Arrays", "copyOf", "([JI)[J"⟩ : MethodName)) (hw _ (List.mem_of_getElem? (i := 26) rfl)) (hw _ (List.mem_of_getElem? (i := 27) rfl)) (hw _ (List.mem_of_getElem? (i := 28) rfl)) (hw _ (List.mem_of_getElem? (i := 29) rfl)) (by decide) (own_met5 l Z a0 hw h202 n0 z210 a2 (4 : Int32) _ _ (4 : Int32) 4 4   f207 f206 (by decide) (by decide) (by decide) (by decide) rfl ) (by decide) (W := 0) (by decide) e211 (by rw [hml]; rfl) own_pd_5 (argsL := [(.ref a2), (.int (4 : Int32))]) rfl (S := []) rfl (Nat.le_of_eq rfl) (hb hby own_d4_58) (pc' := 61) rfl (by decide) (by decide) (fun T212 v212 L212 X212 hQ212 => ?_)
        obtain ⟨r212, kr212, rfl, N212q, K212, hr212, V212⟩ := hQ212
        have N213 := Fr.app N208 N212q
        have q214 : a ≠ r212 := Nat.ne_of_lt (Nat.lt_of_lt_of_le f205.lt hr212)
        have q215 : a2 ≠ r212 := Nat.ne_of_lt (Nat.lt_of_lt_of_le f207.lt hr212)
        have q216 : p1 ≠ r212 := Nat.ne_of_lt (Nat.lt_of_lt_of_le f203.lt hr212)
        have ge_r212 : n0 ≤ r212 := Nat.le_trans z210 hr212
        have sz_r212 : h0.size ≤ r212 := Nat.le_trans K209.1 hr212
        have f217 := f203.keep K212 nin0
        have f218 := f204.keep K212 nin0
        have f219 := f205.keep K212 nin0
        have f220 := f207.keep K212 nin0
        have f221 := f206.keep K212
        have z222 : n0 ≤ T212.heap.size := Nat.le_trans z210 K212.1
        have K223 := K209.trans K212 all0
        have f224 : Arv Z T212.heap r212 _ .long (4 : Int32) [(.long w0), (.long w1), (.long w2), (.long w3)] (.long (0 : Int64)) := V212
        refine OwnK.retA_ X212 hx hret rfl rfl hlk (hb hby own_d4_61) (by decide) (by decide) ?_
        exact ⟨r212, _, rfl, N213, K223, sz_r212, by rw [show own_dd [w0, w1, w2, w3] = [w0, w1, w2, w3] from by show _ :: own_go _ _ = _; rw [own_gn hc24, own_gn hc132, own_gn hc186, own_g0]]; exact f224⟩
def own_Qmet6 (h0 : Heap) (p1 : Addr) (p2 : Int32) (p3 : Int64) (kA : ClassId) (el0 el1 el2 el3 : Int64) (v : Option Value) (h : Heap) (L : List Loc) : Prop := v = some (.int (own_in p2.toInt el0.toInt el1.toInt el2.toInt el3.toInt p3.toInt)) ∧ h = h0 ∧ L = []
set_option maxRecDepth 65536 in
set_option maxHeartbeats 40000000 in
theorem own_met6 (l : Launch) (Z : State) (a0 : Array Value) (hw : ∀ d ∈ tables_1, d.before a0 Z = true) (h0 : Heap) (p1 : Addr) (p2 : Int32) (p3 : Int64) (kA : ClassId) (el0 el1 el2 el3 : Int64) (V0 : Arv Z h0 p1 kA .long (4 : Int32) [(.long el0), (.long el1), (.long el2), (.long el3)] (.long (0 : Int64))) :
    MetFree l (⟨"com/example/ledgerwire/ledgerwire/store/EntriesRecordsPinLaw", "inS", "([JIJ)Z"⟩ : MethodName) (head1 [Jvm.Cond.code (⟨"com/example/ledgerwire/ledgerwire/store/EntriesRecordsPinLaw", "inS", "([JIJ)Z"⟩ : MethodName) method_4_code 4 (some .boolean)] ({ frames := 0, cells := 0, slots := 0, locals := 0 } : Room)) (fun a U => a = #[(.ref p1), (.int p2), (.long p3)] ∧ Z.Warmed39 U.vm ∧ U.heap = h0) (fun _ _ _ _ _ => True) (fun _ U o U' => ∃ v L, o = .returned v ∧ (own_Qmet6 h0 p1 p2 p3 kA el0 el1 el2 el3) v U'.heap L ∧ FrameEnd U o U' L ({ frames := 0, cells := 0, slots := 0, locals := 0 } : Room).cells ({ frames := 0, cells := 0, slots := 0, locals := 0 } : Room).slots) := by
  refine OwnK.met (Q := (own_Qmet6 h0 p1 p2 p3 kA el0 el1 el2 el3)) (C := ({ frames := 0, cells := 0, slots := 0, locals := 0 } : Room).cells) (N := ({ frames := 0, cells := 0, slots := 0, locals := 0 } : Room).slots) own_pl_6 (own_ef_6 p1 p2 p3) ?_
  intro p e s m below meth c T0 X0 hx hZ hby hml hown hnm hret hlk e0
  refine OwnK.iloadN X0 hx (hb hby own_d6_0) (pc' := 1) rfl (v := p2) rfl ?_
  refine OwnK.if_le X0 hx (hb hby own_d6_1) (by decide) (pcT := 12) (by decide) (pc' := 4) rfl (fun (hc1 : p2.toInt ≤ 0) => ?_) (fun (hc1 : 0 < p2.toInt) => ?_)
  · refine OwnK.iloadN X0 hx (hb hby own_d6_12) (pc' := 13) rfl (v := p2) rfl ?_
    refine OwnK.iconst X0 hx (hb hby own_d6_13) (pc' := 14) rfl (v := (1 : Int32)) (by decide) ?_
    refine OwnK.icmp_le X0 hx (hb hby own_d6_14) (by decide) (pcT := 25) (by decide) (pc' := 17) rfl (fun (hc2 : p2.toInt ≤ 1) => ?_) (fun (hc2 : 1 < p2.toInt) => ?_)
    · refine OwnK.iloadN X0 hx (hb hby own_d6_25) (pc' := 26) rfl (v := p2) rfl ?_
      refine OwnK.iconst X0 hx (hb hby own_d6_26) (pc' := 27) rfl (v := (2 : Int32)) (by decide) ?_
      refine OwnK.icmp_le X0 hx (hb hby own_d6_27) (by decide) (pcT := 38) (by decide) (pc' := 30) rfl (fun (hc3 : p2.toInt ≤ 2) => ?_) (fun (hc3 : 2 < p2.toInt) => ?_)
      · refine OwnK.iloadN X0 hx (hb hby own_d6_38) (pc' := 39) rfl (v := p2) rfl ?_
        refine OwnK.iconst X0 hx (hb hby own_d6_39) (pc' := 40) rfl (v := (3 : Int32)) (by decide) ?_
        refine OwnK.icmp_le X0 hx (hb hby own_d6_40) (by decide) (pcT := 55) (by decide) (pc' := 43) rfl (fun (hc4 : p2.toInt ≤ 3) => ?_) (fun (hc4 : 3 < p2.toInt) => ?_)
        · refine OwnK.iconst X0 hx (hb hby own_d6_55) (pc' := 56) rfl (v := (0 : Int32)) (by decide) ?_
          refine OwnK.retN_ X0 hx hret (by simp) hlk (hb hby own_d6_56) (by decide) (by decide) ?_
          exact ⟨by rw [own_in0 (by omega), own_nar0], e0, rfl⟩
        · refine OwnK.aloadN X0 hx (hb hby own_d6_43) (pc' := 44) rfl (v := (.ref p1)) rfl rfl ?_
          refine OwnK.iconst X0 hx (hb hby own_d6_44) (pc' := 45) rfl (v := (3 : Int32)) (by decide) ?_
          refine OwnK.laload X0 hx hZ e0 V0 (by decide) (by show (3 : Int) < _; first | decide | omega) (v := (.long el3)) rfl (hb hby own_d6_45) (pc' := 46) rfl ?_
          refine OwnK.lloadN X0 hx (hb hby own_d6_46) (pc' := 47) rfl (v := p3) rfl ?_
          refine OwnK.lcmp_ne X0 hx (hb hby own_d6_47) (pc1 := 48) rfl (hb hby own_d6_48) (by decide) (pcT := 55) (by decide) (pc' := 51) rfl (fun (hc5 : ¬ el3.toInt = p3.toInt) => ?_) (fun (hc5 : el3.toInt = p3.toInt) => ?_)
          · refine OwnK.iconst X0 hx (hb hby own_d6_55) (pc' := 56) rfl (v := (0 : Int32)) (by decide) ?_
            refine OwnK.retN_ X0 hx hret (by simp) hlk (hb hby own_d6_56) (by decide) (by decide) ?_
            exact ⟨by rw [own_in0 (by omega), own_nar0], e0, rfl⟩
          · refine OwnK.iconst X0 hx (hb hby own_d6_51) (pc' := 52) rfl (v := (1 : Int32)) (by decide) ?_
            refine OwnK.goto_ X0 hx (hb hby own_d6_52) (by decide) (pc' := 56) (by decide) ?_
            refine OwnK.retN_ X0 hx hret (by simp) hlk (hb hby own_d6_56) (by decide) (by decide) ?_
            exact ⟨by rw [own_in1 (by omega), own_nar1], e0, rfl⟩
      · refine OwnK.aloadN X0 hx (hb hby own_d6_30) (pc' := 31) rfl (v := (.ref p1)) rfl rfl ?_
        refine OwnK.iconst X0 hx (hb hby own_d6_31) (pc' := 32) rfl (v := (2 : Int32)) (by decide) ?_
        refine OwnK.laload X0 hx hZ e0 V0 (by decide) (by show (2 : Int) < _; first | decide | omega) (v := (.long el2)) rfl (hb hby own_d6_32) (pc' := 33) rfl ?_
        refine OwnK.lloadN X0 hx (hb hby own_d6_33) (pc' := 34) rfl (v := p3) rfl ?_
        refine OwnK.lcmp_eq X0 hx (hb hby own_d6_34) (pc1 := 35) rfl (hb hby own_d6_35) (by decide) (pcT := 51) (by decide) (pc' := 38) rfl (fun (hc6 : el2.toInt = p3.toInt) => ?_) (fun (hc6 : ¬ el2.toInt = p3.toInt) => ?_)
        · refine OwnK.iconst X0 hx (hb hby own_d6_51) (pc' := 52) rfl (v := (1 : Int32)) (by decide) ?_
          refine OwnK.goto_ X0 hx (hb hby own_d6_52) (by decide) (pc' := 56) (by decide) ?_
          refine OwnK.retN_ X0 hx hret (by simp) hlk (hb hby own_d6_56) (by decide) (by decide) ?_
          exact ⟨by rw [own_in1 (by omega), own_nar1], e0, rfl⟩
        · refine OwnK.iloadN X0 hx (hb hby own_d6_38) (pc' := 39) rfl (v := p2) rfl ?_
          refine OwnK.iconst X0 hx (hb hby own_d6_39) (pc' := 40) rfl (v := (3 : Int32)) (by decide) ?_
          refine OwnK.icmp_le X0 hx (hb hby own_d6_40) (by decide) (pcT := 55) (by decide) (pc' := 43) rfl (fun (hc7 : p2.toInt ≤ 3) => ?_) (fun (hc7 : 3 < p2.toInt) => ?_)
          · refine OwnK.iconst X0 hx (hb hby own_d6_55) (pc' := 56) rfl (v := (0 : Int32)) (by decide) ?_
            refine OwnK.retN_ X0 hx hret (by simp) hlk (hb hby own_d6_56) (by decide) (by decide) ?_
            exact ⟨by rw [own_in0 (by omega), own_nar0], e0, rfl⟩
          · refine OwnK.aloadN X0 hx (hb hby own_d6_43) (pc' := 44) rfl (v := (.ref p1)) rfl rfl ?_
            refine OwnK.iconst X0 hx (hb hby own_d6_44) (pc' := 45) rfl (v := (3 : Int32)) (by decide) ?_
            refine OwnK.laload X0 hx hZ e0 V0 (by decide) (by show (3 : Int) < _; first | decide | omega) (v := (.long el3)) rfl (hb hby own_d6_45) (pc' := 46) rfl ?_
            refine OwnK.lloadN X0 hx (hb hby own_d6_46) (pc' := 47) rfl (v := p3) rfl ?_
            refine OwnK.lcmp_ne X0 hx (hb hby own_d6_47) (pc1 := 48) rfl (hb hby own_d6_48) (by decide) (pcT := 55) (by decide) (pc' := 51) rfl (fun (hc8 : ¬ el3.toInt = p3.toInt) => ?_) (fun (hc8 : el3.toInt = p3.toInt) => ?_)
            · refine OwnK.iconst X0 hx (hb hby own_d6_55) (pc' := 56) rfl (v := (0 : Int32)) (by decide) ?_
              refine OwnK.retN_ X0 hx hret (by simp) hlk (hb hby own_d6_56) (by decide) (by decide) ?_
              exact ⟨by rw [own_in0 (by omega), own_nar0], e0, rfl⟩
            · refine OwnK.iconst X0 hx (hb hby own_d6_51) (pc' := 52) rfl (v := (1 : Int32)) (by decide) ?_
              refine OwnK.goto_ X0 hx (hb hby own_d6_52) (by decide) (pc' := 56) (by decide) ?_
              refine OwnK.retN_ X0 hx hret (by simp) hlk (hb hby own_d6_56) (by decide) (by decide) ?_
              exact ⟨by rw [own_in1 (by omega), own_nar1], e0, rfl⟩
    · refine OwnK.aloadN X0 hx (hb hby own_d6_17) (pc' := 18) rfl (v := (.ref p1)) rfl rfl ?_
      refine OwnK.iconst X0 hx (hb hby own_d6_18) (pc' := 19) rfl (v := (1 : Int32)) (by decide) ?_
      refine OwnK.laload X0 hx hZ e0 V0 (by decide) (by show (1 : Int) < _; first | decide | omega) (v := (.long el1)) rfl (hb hby own_d6_19) (pc' := 20) rfl ?_
      refine OwnK.lloadN X0 hx (hb hby own_d6_20) (pc' := 21) rfl (v := p3) rfl ?_
      refine OwnK.lcmp_eq X0 hx (hb hby own_d6_21) (pc1 := 22) rfl (hb hby own_d6_22) (by decide) (pcT := 51) (by decide) (pc' := 25) rfl (fun (hc9 : el1.toInt = p3.toInt) => ?_) (fun (hc9 : ¬ el1.toInt = p3.toInt) => ?_)
      · refine OwnK.iconst X0 hx (hb hby own_d6_51) (pc' := 52) rfl (v := (1 : Int32)) (by decide) ?_
        refine OwnK.goto_ X0 hx (hb hby own_d6_52) (by decide) (pc' := 56) (by decide) ?_
        refine OwnK.retN_ X0 hx hret (by simp) hlk (hb hby own_d6_56) (by decide) (by decide) ?_
        exact ⟨by rw [own_in1 (by omega), own_nar1], e0, rfl⟩
      · refine OwnK.iloadN X0 hx (hb hby own_d6_25) (pc' := 26) rfl (v := p2) rfl ?_
        refine OwnK.iconst X0 hx (hb hby own_d6_26) (pc' := 27) rfl (v := (2 : Int32)) (by decide) ?_
        refine OwnK.icmp_le X0 hx (hb hby own_d6_27) (by decide) (pcT := 38) (by decide) (pc' := 30) rfl (fun (hc10 : p2.toInt ≤ 2) => ?_) (fun (hc10 : 2 < p2.toInt) => ?_)
        · refine OwnK.iloadN X0 hx (hb hby own_d6_38) (pc' := 39) rfl (v := p2) rfl ?_
          refine OwnK.iconst X0 hx (hb hby own_d6_39) (pc' := 40) rfl (v := (3 : Int32)) (by decide) ?_
          refine OwnK.icmp_le X0 hx (hb hby own_d6_40) (by decide) (pcT := 55) (by decide) (pc' := 43) rfl (fun (hc11 : p2.toInt ≤ 3) => ?_) (fun (hc11 : 3 < p2.toInt) => ?_)
          · refine OwnK.iconst X0 hx (hb hby own_d6_55) (pc' := 56) rfl (v := (0 : Int32)) (by decide) ?_
            refine OwnK.retN_ X0 hx hret (by simp) hlk (hb hby own_d6_56) (by decide) (by decide) ?_
            exact ⟨by rw [own_in0 (by omega), own_nar0], e0, rfl⟩
          · refine OwnK.aloadN X0 hx (hb hby own_d6_43) (pc' := 44) rfl (v := (.ref p1)) rfl rfl ?_
            refine OwnK.iconst X0 hx (hb hby own_d6_44) (pc' := 45) rfl (v := (3 : Int32)) (by decide) ?_
            refine OwnK.laload X0 hx hZ e0 V0 (by decide) (by show (3 : Int) < _; first | decide | omega) (v := (.long el3)) rfl (hb hby own_d6_45) (pc' := 46) rfl ?_
            refine OwnK.lloadN X0 hx (hb hby own_d6_46) (pc' := 47) rfl (v := p3) rfl ?_
            refine OwnK.lcmp_ne X0 hx (hb hby own_d6_47) (pc1 := 48) rfl (hb hby own_d6_48) (by decide) (pcT := 55) (by decide) (pc' := 51) rfl (fun (hc12 : ¬ el3.toInt = p3.toInt) => ?_) (fun (hc12 : el3.toInt = p3.toInt) => ?_)
            · refine OwnK.iconst X0 hx (hb hby own_d6_55) (pc' := 56) rfl (v := (0 : Int32)) (by decide) ?_
              refine OwnK.retN_ X0 hx hret (by simp) hlk (hb hby own_d6_56) (by decide) (by decide) ?_
              exact ⟨by rw [own_in0 (by omega), own_nar0], e0, rfl⟩
            · refine OwnK.iconst X0 hx (hb hby own_d6_51) (pc' := 52) rfl (v := (1 : Int32)) (by decide) ?_
              refine OwnK.goto_ X0 hx (hb hby own_d6_52) (by decide) (pc' := 56) (by decide) ?_
              refine OwnK.retN_ X0 hx hret (by simp) hlk (hb hby own_d6_56) (by decide) (by decide) ?_
              exact ⟨by rw [own_in1 (by omega), own_nar1], e0, rfl⟩
        · refine OwnK.aloadN X0 hx (hb hby own_d6_30) (pc' := 31) rfl (v := (.ref p1)) rfl rfl ?_
          refine OwnK.iconst X0 hx (hb hby own_d6_31) (pc' := 32) rfl (v := (2 : Int32)) (by decide) ?_
          refine OwnK.laload X0 hx hZ e0 V0 (by decide) (by show (2 : Int) < _; first | decide | omega) (v := (.long el2)) rfl (hb hby own_d6_32) (pc' := 33) rfl ?_
          refine OwnK.lloadN X0 hx (hb hby own_d6_33) (pc' := 34) rfl (v := p3) rfl ?_
          refine OwnK.lcmp_eq X0 hx (hb hby own_d6_34) (pc1 := 35) rfl (hb hby own_d6_35) (by decide) (pcT := 51) (by decide) (pc' := 38) rfl (fun (hc13 : el2.toInt = p3.toInt) => ?_) (fun (hc13 : ¬ el2.toInt = p3.toInt) => ?_)
          · refine OwnK.iconst X0 hx (hb hby own_d6_51) (pc' := 52) rfl (v := (1 : Int32)) (by decide) ?_
            refine OwnK.goto_ X0 hx (hb hby own_d6_52) (by decide) (pc' := 56) (by decide) ?_
            refine OwnK.retN_ X0 hx hret (by simp) hlk (hb hby own_d6_56) (by decide) (by decide) ?_
            exact ⟨by rw [own_in1 (by omega), own_nar1], e0, rfl⟩
          · refine OwnK.iloadN X0 hx (hb hby own_d6_38) (pc' := 39) rfl (v := p2) rfl ?_
            refine OwnK.iconst X0 hx (hb hby own_d6_39) (pc' := 40) rfl (v := (3 : Int32)) (by decide) ?_
            refine OwnK.icmp_le X0 hx (hb hby own_d6_40) (by decide) (pcT := 55) (by decide) (pc' := 43) rfl (fun (hc14 : p2.toInt ≤ 3) => ?_) (fun (hc14 : 3 < p2.toInt) => ?_)
            · refine OwnK.iconst X0 hx (hb hby own_d6_55) (pc' := 56) rfl (v := (0 : Int32)) (by decide) ?_
              refine OwnK.retN_ X0 hx hret (by simp) hlk (hb hby own_d6_56) (by decide) (by decide) ?_
              exact ⟨by rw [own_in0 (by omega), own_nar0], e0, rfl⟩
            · refine OwnK.aloadN X0 hx (hb hby own_d6_43) (pc' := 44) rfl (v := (.ref p1)) rfl rfl ?_
              refine OwnK.iconst X0 hx (hb hby own_d6_44) (pc' := 45) rfl (v := (3 : Int32)) (by decide) ?_
              refine OwnK.laload X0 hx hZ e0 V0 (by decide) (by show (3 : Int) < _; first | decide | omega) (v := (.long el3)) rfl (hb hby own_d6_45) (pc' := 46) rfl ?_
              refine OwnK.lloadN X0 hx (hb hby own_d6_46) (pc' := 47) rfl (v := p3) rfl ?_
              refine OwnK.lcmp_ne X0 hx (hb hby own_d6_47) (pc1 := 48) rfl (hb hby own_d6_48) (by decide) (pcT := 55) (by decide) (pc' := 51) rfl (fun (hc15 : ¬ el3.toInt = p3.toInt) => ?_) (fun (hc15 : el3.toInt = p3.toInt) => ?_)
              · refine OwnK.iconst X0 hx (hb hby own_d6_55) (pc' := 56) rfl (v := (0 : Int32)) (by decide) ?_
                refine OwnK.retN_ X0 hx hret (by simp) hlk (hb hby own_d6_56) (by decide) (by decide) ?_
                exact ⟨by rw [own_in0 (by omega), own_nar0], e0, rfl⟩
              · refine OwnK.iconst X0 hx (hb hby own_d6_51) (pc' := 52) rfl (v := (1 : Int32)) (by decide) ?_
                refine OwnK.goto_ X0 hx (hb hby own_d6_52) (by decide) (pc' := 56) (by decide) ?_
                refine OwnK.retN_ X0 hx hret (by simp) hlk (hb hby own_d6_56) (by decide) (by decide) ?_
                exact ⟨by rw [own_in1 (by omega), own_nar1], e0, rfl⟩
  · refine OwnK.aloadN X0 hx (hb hby own_d6_4) (pc' := 5) rfl (v := (.ref p1)) rfl rfl ?_
    refine OwnK.iconst X0 hx (hb hby own_d6_5) (pc' := 6) rfl (v := (0 : Int32)) (by decide) ?_
    refine OwnK.laload X0 hx hZ e0 V0 (by decide) (by show (0 : Int) < _; first | decide | omega) (v := (.long el0)) rfl (hb hby own_d6_6) (pc' := 7) rfl ?_
    refine OwnK.lloadN X0 hx (hb hby own_d6_7) (pc' := 8) rfl (v := p3) rfl ?_
    refine OwnK.lcmp_eq X0 hx (hb hby own_d6_8) (pc1 := 9) rfl (hb hby own_d6_9) (by decide) (pcT := 51) (by decide) (pc' := 12) rfl (fun (hc16 : el0.toInt = p3.toInt) => ?_) (fun (hc16 : ¬ el0.toInt = p3.toInt) => ?_)
    · refine OwnK.iconst X0 hx (hb hby own_d6_51) (pc' := 52) rfl (v := (1 : Int32)) (by decide) ?_
      refine OwnK.goto_ X0 hx (hb hby own_d6_52) (by decide) (pc' := 56) (by decide) ?_
      refine OwnK.retN_ X0 hx hret (by simp) hlk (hb hby own_d6_56) (by decide) (by decide) ?_
      exact ⟨by rw [own_in1 (by omega), own_nar1], e0, rfl⟩
    · refine OwnK.iloadN X0 hx (hb hby own_d6_12) (pc' := 13) rfl (v := p2) rfl ?_
      refine OwnK.iconst X0 hx (hb hby own_d6_13) (pc' := 14) rfl (v := (1 : Int32)) (by decide) ?_
      refine OwnK.icmp_le X0 hx (hb hby own_d6_14) (by decide) (pcT := 25) (by decide) (pc' := 17) rfl (fun (hc17 : p2.toInt ≤ 1) => ?_) (fun (hc17 : 1 < p2.toInt) => ?_)
      · refine OwnK.iloadN X0 hx (hb hby own_d6_25) (pc' := 26) rfl (v := p2) rfl ?_
        refine OwnK.iconst X0 hx (hb hby own_d6_26) (pc' := 27) rfl (v := (2 : Int32)) (by decide) ?_
        refine OwnK.icmp_le X0 hx (hb hby own_d6_27) (by decide) (pcT := 38) (by decide) (pc' := 30) rfl (fun (hc18 : p2.toInt ≤ 2) => ?_) (fun (hc18 : 2 < p2.toInt) => ?_)
        · refine OwnK.iloadN X0 hx (hb hby own_d6_38) (pc' := 39) rfl (v := p2) rfl ?_
          refine OwnK.iconst X0 hx (hb hby own_d6_39) (pc' := 40) rfl (v := (3 : Int32)) (by decide) ?_
          refine OwnK.icmp_le X0 hx (hb hby own_d6_40) (by decide) (pcT := 55) (by decide) (pc' := 43) rfl (fun (hc19 : p2.toInt ≤ 3) => ?_) (fun (hc19 : 3 < p2.toInt) => ?_)
          · refine OwnK.iconst X0 hx (hb hby own_d6_55) (pc' := 56) rfl (v := (0 : Int32)) (by decide) ?_
            refine OwnK.retN_ X0 hx hret (by simp) hlk (hb hby own_d6_56) (by decide) (by decide) ?_
            exact ⟨by rw [own_in0 (by omega), own_nar0], e0, rfl⟩
          · refine OwnK.aloadN X0 hx (hb hby own_d6_43) (pc' := 44) rfl (v := (.ref p1)) rfl rfl ?_
            refine OwnK.iconst X0 hx (hb hby own_d6_44) (pc' := 45) rfl (v := (3 : Int32)) (by decide) ?_
            refine OwnK.laload X0 hx hZ e0 V0 (by decide) (by show (3 : Int) < _; first | decide | omega) (v := (.long el3)) rfl (hb hby own_d6_45) (pc' := 46) rfl ?_
            refine OwnK.lloadN X0 hx (hb hby own_d6_46) (pc' := 47) rfl (v := p3) rfl ?_
            refine OwnK.lcmp_ne X0 hx (hb hby own_d6_47) (pc1 := 48) rfl (hb hby own_d6_48) (by decide) (pcT := 55) (by decide) (pc' := 51) rfl (fun (hc20 : ¬ el3.toInt = p3.toInt) => ?_) (fun (hc20 : el3.toInt = p3.toInt) => ?_)
            · refine OwnK.iconst X0 hx (hb hby own_d6_55) (pc' := 56) rfl (v := (0 : Int32)) (by decide) ?_
              refine OwnK.retN_ X0 hx hret (by simp) hlk (hb hby own_d6_56) (by decide) (by decide) ?_
              exact ⟨by rw [own_in0 (by omega), own_nar0], e0, rfl⟩
            · refine OwnK.iconst X0 hx (hb hby own_d6_51) (pc' := 52) rfl (v := (1 : Int32)) (by decide) ?_
              refine OwnK.goto_ X0 hx (hb hby own_d6_52) (by decide) (pc' := 56) (by decide) ?_
              refine OwnK.retN_ X0 hx hret (by simp) hlk (hb hby own_d6_56) (by decide) (by decide) ?_
              exact ⟨by rw [own_in1 (by omega), own_nar1], e0, rfl⟩
        · refine OwnK.aloadN X0 hx (hb hby own_d6_30) (pc' := 31) rfl (v := (.ref p1)) rfl rfl ?_
          refine OwnK.iconst X0 hx (hb hby own_d6_31) (pc' := 32) rfl (v := (2 : Int32)) (by decide) ?_
          refine OwnK.laload X0 hx hZ e0 V0 (by decide) (by show (2 : Int) < _; first | decide | omega) (v := (.long el2)) rfl (hb hby own_d6_32) (pc' := 33) rfl ?_
          refine OwnK.lloadN X0 hx (hb hby own_d6_33) (pc' := 34) rfl (v := p3) rfl ?_
          refine OwnK.lcmp_eq X0 hx (hb hby own_d6_34) (pc1 := 35) rfl (hb hby own_d6_35) (by decide) (pcT := 51) (by decide) (pc' := 38) rfl (fun (hc21 : el2.toInt = p3.toInt) => ?_) (fun (hc21 : ¬ el2.toInt = p3.toInt) => ?_)
          · refine OwnK.iconst X0 hx (hb hby own_d6_51) (pc' := 52) rfl (v := (1 : Int32)) (by decide) ?_
            refine OwnK.goto_ X0 hx (hb hby own_d6_52) (by decide) (pc' := 56) (by decide) ?_
            refine OwnK.retN_ X0 hx hret (by simp) hlk (hb hby own_d6_56) (by decide) (by decide) ?_
            exact ⟨by rw [own_in1 (by omega), own_nar1], e0, rfl⟩
          · refine OwnK.iloadN X0 hx (hb hby own_d6_38) (pc' := 39) rfl (v := p2) rfl ?_
            refine OwnK.iconst X0 hx (hb hby own_d6_39) (pc' := 40) rfl (v := (3 : Int32)) (by decide) ?_
            refine OwnK.icmp_le X0 hx (hb hby own_d6_40) (by decide) (pcT := 55) (by decide) (pc' := 43) rfl (fun (hc22 : p2.toInt ≤ 3) => ?_) (fun (hc22 : 3 < p2.toInt) => ?_)
            · refine OwnK.iconst X0 hx (hb hby own_d6_55) (pc' := 56) rfl (v := (0 : Int32)) (by decide) ?_
              refine OwnK.retN_ X0 hx hret (by simp) hlk (hb hby own_d6_56) (by decide) (by decide) ?_
              exact ⟨by rw [own_in0 (by omega), own_nar0], e0, rfl⟩
            · refine OwnK.aloadN X0 hx (hb hby own_d6_43) (pc' := 44) rfl (v := (.ref p1)) rfl rfl ?_
              refine OwnK.iconst X0 hx (hb hby own_d6_44) (pc' := 45) rfl (v := (3 : Int32)) (by decide) ?_
              refine OwnK.laload X0 hx hZ e0 V0 (by decide) (by show (3 : Int) < _; first | decide | omega) (v := (.long el3)) rfl (hb hby own_d6_45) (pc' := 46) rfl ?_
              refine OwnK.lloadN X0 hx (hb hby own_d6_46) (pc' := 47) rfl (v := p3) rfl ?_
              refine OwnK.lcmp_ne X0 hx (hb hby own_d6_47) (pc1 := 48) rfl (hb hby own_d6_48) (by decide) (pcT := 55) (by decide) (pc' := 51) rfl (fun (hc23 : ¬ el3.toInt = p3.toInt) => ?_) (fun (hc23 : el3.toInt = p3.toInt) => ?_)
              · refine OwnK.iconst X0 hx (hb hby own_d6_55) (pc' := 56) rfl (v := (0 : Int32)) (by decide) ?_
                refine OwnK.retN_ X0 hx hret (by simp) hlk (hb hby own_d6_56) (by decide) (by decide) ?_
                exact ⟨by rw [own_in0 (by omega), own_nar0], e0, rfl⟩
              · refine OwnK.iconst X0 hx (hb hby own_d6_51) (pc' := 52) rfl (v := (1 : Int32)) (by decide) ?_
                refine OwnK.goto_ X0 hx (hb hby own_d6_52) (by decide) (pc' := 56) (by decide) ?_
                refine OwnK.retN_ X0 hx hret (by simp) hlk (hb hby own_d6_56) (by decide) (by decide) ?_
                exact ⟨by rw [own_in1 (by omega), own_nar1], e0, rfl⟩
      · refine OwnK.aloadN X0 hx (hb hby own_d6_17) (pc' := 18) rfl (v := (.ref p1)) rfl rfl ?_
        refine OwnK.iconst X0 hx (hb hby own_d6_18) (pc' := 19) rfl (v := (1 : Int32)) (by decide) ?_
        refine OwnK.laload X0 hx hZ e0 V0 (by decide) (by show (1 : Int) < _; first | decide | omega) (v := (.long el1)) rfl (hb hby own_d6_19) (pc' := 20) rfl ?_
        refine OwnK.lloadN X0 hx (hb hby own_d6_20) (pc' := 21) rfl (v := p3) rfl ?_
        refine OwnK.lcmp_eq X0 hx (hb hby own_d6_21) (pc1 := 22) rfl (hb hby own_d6_22) (by decide) (pcT := 51) (by decide) (pc' := 25) rfl (fun (hc24 : el1.toInt = p3.toInt) => ?_) (fun (hc24 : ¬ el1.toInt = p3.toInt) => ?_)
        · refine OwnK.iconst X0 hx (hb hby own_d6_51) (pc' := 52) rfl (v := (1 : Int32)) (by decide) ?_
          refine OwnK.goto_ X0 hx (hb hby own_d6_52) (by decide) (pc' := 56) (by decide) ?_
          refine OwnK.retN_ X0 hx hret (by simp) hlk (hb hby own_d6_56) (by decide) (by decide) ?_
          exact ⟨by rw [own_in1 (by omega), own_nar1], e0, rfl⟩
        · refine OwnK.iloadN X0 hx (hb hby own_d6_25) (pc' := 26) rfl (v := p2) rfl ?_
          refine OwnK.iconst X0 hx (hb hby own_d6_26) (pc' := 27) rfl (v := (2 : Int32)) (by decide) ?_
          refine OwnK.icmp_le X0 hx (hb hby own_d6_27) (by decide) (pcT := 38) (by decide) (pc' := 30) rfl (fun (hc25 : p2.toInt ≤ 2) => ?_) (fun (hc25 : 2 < p2.toInt) => ?_)
          · refine OwnK.iloadN X0 hx (hb hby own_d6_38) (pc' := 39) rfl (v := p2) rfl ?_
            refine OwnK.iconst X0 hx (hb hby own_d6_39) (pc' := 40) rfl (v := (3 : Int32)) (by decide) ?_
            refine OwnK.icmp_le X0 hx (hb hby own_d6_40) (by decide) (pcT := 55) (by decide) (pc' := 43) rfl (fun (hc26 : p2.toInt ≤ 3) => ?_) (fun (hc26 : 3 < p2.toInt) => ?_)
            · refine OwnK.iconst X0 hx (hb hby own_d6_55) (pc' := 56) rfl (v := (0 : Int32)) (by decide) ?_
              refine OwnK.retN_ X0 hx hret (by simp) hlk (hb hby own_d6_56) (by decide) (by decide) ?_
              exact ⟨by rw [own_in0 (by omega), own_nar0], e0, rfl⟩
            · refine OwnK.aloadN X0 hx (hb hby own_d6_43) (pc' := 44) rfl (v := (.ref p1)) rfl rfl ?_
              refine OwnK.iconst X0 hx (hb hby own_d6_44) (pc' := 45) rfl (v := (3 : Int32)) (by decide) ?_
              refine OwnK.laload X0 hx hZ e0 V0 (by decide) (by show (3 : Int) < _; first | decide | omega) (v := (.long el3)) rfl (hb hby own_d6_45) (pc' := 46) rfl ?_
              refine OwnK.lloadN X0 hx (hb hby own_d6_46) (pc' := 47) rfl (v := p3) rfl ?_
              refine OwnK.lcmp_ne X0 hx (hb hby own_d6_47) (pc1 := 48) rfl (hb hby own_d6_48) (by decide) (pcT := 55) (by decide) (pc' := 51) rfl (fun (hc27 : ¬ el3.toInt = p3.toInt) => ?_) (fun (hc27 : el3.toInt = p3.toInt) => ?_)
              · refine OwnK.iconst X0 hx (hb hby own_d6_55) (pc' := 56) rfl (v := (0 : Int32)) (by decide) ?_
                refine OwnK.retN_ X0 hx hret (by simp) hlk (hb hby own_d6_56) (by decide) (by decide) ?_
                exact ⟨by rw [own_in0 (by omega), own_nar0], e0, rfl⟩
              · refine OwnK.iconst X0 hx (hb hby own_d6_51) (pc' := 52) rfl (v := (1 : Int32)) (by decide) ?_
                refine OwnK.goto_ X0 hx (hb hby own_d6_52) (by decide) (pc' := 56) (by decide) ?_
                refine OwnK.retN_ X0 hx hret (by simp) hlk (hb hby own_d6_56) (by decide) (by decide) ?_
                exact ⟨by rw [own_in1 (by omega), own_nar1], e0, rfl⟩
          · refine OwnK.aloadN X0 hx (hb hby own_d6_30) (pc' := 31) rfl (v := (.ref p1)) rfl rfl ?_
            refine OwnK.iconst X0 hx (hb hby own_d6_31) (pc' := 32) rfl (v := (2 : Int32)) (by decide) ?_
            refine OwnK.laload X0 hx hZ e0 V0 (by decide) (by show (2 : Int) < _; first | decide | omega) (v := (.long el2)) rfl (hb hby own_d6_32) (pc' := 33) rfl ?_
            refine OwnK.lloadN X0 hx (hb hby own_d6_33) (pc' := 34) rfl (v := p3) rfl ?_
            refine OwnK.lcmp_eq X0 hx (hb hby own_d6_34) (pc1 := 35) rfl (hb hby own_d6_35) (by decide) (pcT := 51) (by decide) (pc' := 38) rfl (fun (hc28 : el2.toInt = p3.toInt) => ?_) (fun (hc28 : ¬ el2.toInt = p3.toInt) => ?_)
            · refine OwnK.iconst X0 hx (hb hby own_d6_51) (pc' := 52) rfl (v := (1 : Int32)) (by decide) ?_
              refine OwnK.goto_ X0 hx (hb hby own_d6_52) (by decide) (pc' := 56) (by decide) ?_
              refine OwnK.retN_ X0 hx hret (by simp) hlk (hb hby own_d6_56) (by decide) (by decide) ?_
              exact ⟨by rw [own_in1 (by omega), own_nar1], e0, rfl⟩
            · refine OwnK.iloadN X0 hx (hb hby own_d6_38) (pc' := 39) rfl (v := p2) rfl ?_
              refine OwnK.iconst X0 hx (hb hby own_d6_39) (pc' := 40) rfl (v := (3 : Int32)) (by decide) ?_
              refine OwnK.icmp_le X0 hx (hb hby own_d6_40) (by decide) (pcT := 55) (by decide) (pc' := 43) rfl (fun (hc29 : p2.toInt ≤ 3) => ?_) (fun (hc29 : 3 < p2.toInt) => ?_)
              · refine OwnK.iconst X0 hx (hb hby own_d6_55) (pc' := 56) rfl (v := (0 : Int32)) (by decide) ?_
                refine OwnK.retN_ X0 hx hret (by simp) hlk (hb hby own_d6_56) (by decide) (by decide) ?_
                exact ⟨by rw [own_in0 (by omega), own_nar0], e0, rfl⟩
              · refine OwnK.aloadN X0 hx (hb hby own_d6_43) (pc' := 44) rfl (v := (.ref p1)) rfl rfl ?_
                refine OwnK.iconst X0 hx (hb hby own_d6_44) (pc' := 45) rfl (v := (3 : Int32)) (by decide) ?_
                refine OwnK.laload X0 hx hZ e0 V0 (by decide) (by show (3 : Int) < _; first | decide | omega) (v := (.long el3)) rfl (hb hby own_d6_45) (pc' := 46) rfl ?_
                refine OwnK.lloadN X0 hx (hb hby own_d6_46) (pc' := 47) rfl (v := p3) rfl ?_
                refine OwnK.lcmp_ne X0 hx (hb hby own_d6_47) (pc1 := 48) rfl (hb hby own_d6_48) (by decide) (pcT := 55) (by decide) (pc' := 51) rfl (fun (hc30 : ¬ el3.toInt = p3.toInt) => ?_) (fun (hc30 : el3.toInt = p3.toInt) => ?_)
                · refine OwnK.iconst X0 hx (hb hby own_d6_55) (pc' := 56) rfl (v := (0 : Int32)) (by decide) ?_
                  refine OwnK.retN_ X0 hx hret (by simp) hlk (hb hby own_d6_56) (by decide) (by decide) ?_
                  exact ⟨by rw [own_in0 (by omega), own_nar0], e0, rfl⟩
                · refine OwnK.iconst X0 hx (hb hby own_d6_51) (pc' := 52) rfl (v := (1 : Int32)) (by decide) ?_
                  refine OwnK.goto_ X0 hx (hb hby own_d6_52) (by decide) (pc' := 56) (by decide) ?_
                  refine OwnK.retN_ X0 hx hret (by simp) hlk (hb hby own_d6_56) (by decide) (by decide) ?_
                  exact ⟨by rw [own_in1 (by omega), own_nar1], e0, rfl⟩
def own_Qmet7 (h0 : Heap) (p1 : Addr) (p2 : Int64) (kA : ClassId) (z : Int32) (el0 el1 el2 el3 : Int64) (v : Option Value) (h : Heap) (L : List Loc) : Prop := v = some (.int (own_in z.toInt el0.toInt el1.toInt el2.toInt el3.toInt p2.toInt)) ∧ h = h0 ∧ L = []
set_option maxRecDepth 65536 in
set_option maxHeartbeats 40000000 in
theorem own_met7 (l : Launch) (Z : State) (a0 : Array Value) (hw : ∀ d ∈ tables_1, d.before a0 Z = true) (h0 : Heap) (p1 : Addr) (p2 : Int64) (kA : ClassId) (z : Int32) (el0 el1 el2 el3 : Int64) (V0 : Arv Z h0 p1 kA .long z [(.long el0), (.long el1), (.long el2), (.long el3)] (.long (0 : Int64))) :
    MetFree l (⟨"com/example/ledgerwire/ledgerwire/store/EntriesRecordsPinLaw", "inR", "([JJ)Z"⟩ : MethodName) (head1 [Jvm.Cond.code (⟨"com/example/ledgerwire/ledgerwire/store/EntriesRecordsPinLaw", "inR", "([JJ)Z"⟩ : MethodName) method_5_code 3 (some .boolean)] ({ frames := 0, cells := 0, slots := 0, locals := 0 } : Room)) (fun a U => a = #[(.ref p1), (.long p2)] ∧ Z.Warmed39 U.vm ∧ U.heap = h0) (fun _ _ _ _ _ => True) (fun _ U o U' => ∃ v L, o = .returned v ∧ (own_Qmet7 h0 p1 p2 kA z el0 el1 el2 el3) v U'.heap L ∧ FrameEnd U o U' L ({ frames := 0, cells := 0, slots := 0, locals := 0 } : Room).cells ({ frames := 0, cells := 0, slots := 0, locals := 0 } : Room).slots) := by
  refine OwnK.met (Q := (own_Qmet7 h0 p1 p2 kA z el0 el1 el2 el3)) (C := ({ frames := 0, cells := 0, slots := 0, locals := 0 } : Room).cells) (N := ({ frames := 0, cells := 0, slots := 0, locals := 0 } : Room).slots) own_pl_7 (own_ef_7 p1 p2) ?_
  intro p e s m below meth c T0 X0 hx hZ hby hml hown hnm hret hlk e0
  refine OwnK.aloadN X0 hx (hb hby own_d7_0) (pc' := 1) rfl (v := (.ref p1)) rfl rfl ?_
  refine OwnK.arrlen X0 hx hZ e0 V0 (hb hby own_d7_1) (pc' := 2) rfl ?_
  refine OwnK.if_le X0 hx (hb hby own_d7_2) (by decide) (pcT := 13) (by decide) (pc' := 5) rfl (fun (hc1 : z.toInt ≤ 0) => ?_) (fun (hc1 : 0 < z.toInt) => ?_)
  · refine OwnK.aloadN X0 hx (hb hby own_d7_13) (pc' := 14) rfl (v := (.ref p1)) rfl rfl ?_
    refine OwnK.arrlen X0 hx hZ e0 V0 (hb hby own_d7_14) (pc' := 15) rfl ?_
    refine OwnK.iconst X0 hx (hb hby own_d7_15) (pc' := 16) rfl (v := (1 : Int32)) (by decide) ?_
    refine OwnK.icmp_le X0 hx (hb hby own_d7_16) (by decide) (pcT := 27) (by decide) (pc' := 19) rfl (fun (hc2 : z.toInt ≤ 1) => ?_) (fun (hc2 : 1 < z.toInt) => ?_)
    · refine OwnK.aloadN X0 hx (hb hby own_d7_27) (pc' := 28) rfl (v := (.ref p1)) rfl rfl ?_
      refine OwnK.arrlen X0 hx hZ e0 V0 (hb hby own_d7_28) (pc' := 29) rfl ?_
      refine OwnK.iconst X0 hx (hb hby own_d7_29) (pc' := 30) rfl (v := (2 : Int32)) (by decide) ?_
      refine OwnK.icmp_le X0 hx (hb hby own_d7_30) (by decide) (pcT := 41) (by decide) (pc' := 33) rfl (fun (hc3 : z.toInt ≤ 2) => ?_) (fun (hc3 : 2 < z.toInt) => ?_)
      · refine OwnK.aloadN X0 hx (hb hby own_d7_41) (pc' := 42) rfl (v := (.ref p1)) rfl rfl ?_
        refine OwnK.arrlen X0 hx hZ e0 V0 (hb hby own_d7_42) (pc' := 43) rfl ?_
        refine OwnK.iconst X0 hx (hb hby own_d7_43) (pc' := 44) rfl (v := (3 : Int32)) (by decide) ?_
        refine OwnK.icmp_le X0 hx (hb hby own_d7_44) (by decide) (pcT := 59) (by decide) (pc' := 47) rfl (fun (hc4 : z.toInt ≤ 3) => ?_) (fun (hc4 : 3 < z.toInt) => ?_)
        · refine OwnK.iconst X0 hx (hb hby own_d7_59) (pc' := 60) rfl (v := (0 : Int32)) (by decide) ?_
          refine OwnK.retN_ X0 hx hret (by simp) hlk (hb hby own_d7_60) (by decide) (by decide) ?_
          exact ⟨by rw [own_in0 (by omega), own_nar0], e0, rfl⟩
        · refine OwnK.aloadN X0 hx (hb hby own_d7_47) (pc' := 48) rfl (v := (.ref p1)) rfl rfl ?_
          refine OwnK.iconst X0 hx (hb hby own_d7_48) (pc' := 49) rfl (v := (3 : Int32)) (by decide) ?_
          refine OwnK.laload X0 hx hZ e0 V0 (by decide) (by show (3 : Int) < _; first | decide | omega) (v := (.long el3)) rfl (hb hby own_d7_49) (pc' := 50) rfl ?_
          refine OwnK.lloadN X0 hx (hb hby own_d7_50) (pc' := 51) rfl (v := p2) rfl ?_
          refine OwnK.lcmp_ne X0 hx (hb hby own_d7_51) (pc1 := 52) rfl (hb hby own_d7_52) (by decide) (pcT := 59) (by decide) (pc' := 55) rfl (fun (hc5 : ¬ el3.toInt = p2.toInt) => ?_) (fun (hc5 : el3.toInt = p2.toInt) => ?_)
          · refine OwnK.iconst X0 hx (hb hby own_d7_59) (pc' := 60) rfl (v := (0 : Int32)) (by decide) ?_
            refine OwnK.retN_ X0 hx hret (by simp) hlk (hb hby own_d7_60) (by decide) (by decide) ?_
            exact ⟨by rw [own_in0 (by omega), own_nar0], e0, rfl⟩
          · refine OwnK.iconst X0 hx (hb hby own_d7_55) (pc' := 56) rfl (v := (1 : Int32)) (by decide) ?_
            refine OwnK.goto_ X0 hx (hb hby own_d7_56) (by decide) (pc' := 60) (by decide) ?_
            refine OwnK.retN_ X0 hx hret (by simp) hlk (hb hby own_d7_60) (by decide) (by decide) ?_
            exact ⟨by rw [own_in1 (by omega), own_nar1], e0, rfl⟩
      · refine OwnK.aloadN X0 hx (hb hby own_d7_33) (pc' := 34) rfl (v := (.ref p1)) rfl rfl ?_
        refine OwnK.iconst X0 hx (hb hby own_d7_34) (pc' := 35) rfl (v := (2 : Int32)) (by decide) ?_
        refine OwnK.laload X0 hx hZ e0 V0 (by decide) (by show (2 : Int) < _; first | decide | omega) (v := (.long el2)) rfl (hb hby own_d7_35) (pc' := 36) rfl ?_
        refine OwnK.lloadN X0 hx (hb hby own_d7_36) (pc' := 37) rfl (v := p2) rfl ?_
        refine OwnK.lcmp_eq X0 hx (hb hby own_d7_37) (pc1 := 38) rfl (hb hby own_d7_38) (by decide) (pcT := 55) (by decide) (pc' := 41) rfl (fun (hc6 : el2.toInt = p2.toInt) => ?_) (fun (hc6 : ¬ el2.toInt = p2.toInt) => ?_)
        · refine OwnK.iconst X0 hx (hb hby own_d7_55) (pc' := 56) rfl (v := (1 : Int32)) (by decide) ?_
          refine OwnK.goto_ X0 hx (hb hby own_d7_56) (by decide) (pc' := 60) (by decide) ?_
          refine OwnK.retN_ X0 hx hret (by simp) hlk (hb hby own_d7_60) (by decide) (by decide) ?_
          exact ⟨by rw [own_in1 (by omega), own_nar1], e0, rfl⟩
        · refine OwnK.aloadN X0 hx (hb hby own_d7_41) (pc' := 42) rfl (v := (.ref p1)) rfl rfl ?_
          refine OwnK.arrlen X0 hx hZ e0 V0 (hb hby own_d7_42) (pc' := 43) rfl ?_
          refine OwnK.iconst X0 hx (hb hby own_d7_43) (pc' := 44) rfl (v := (3 : Int32)) (by decide) ?_
          refine OwnK.icmp_le X0 hx (hb hby own_d7_44) (by decide) (pcT := 59) (by decide) (pc' := 47) rfl (fun (hc7 : z.toInt ≤ 3) => ?_) (fun (hc7 : 3 < z.toInt) => ?_)
          · refine OwnK.iconst X0 hx (hb hby own_d7_59) (pc' := 60) rfl (v := (0 : Int32)) (by decide) ?_
            refine OwnK.retN_ X0 hx hret (by simp) hlk (hb hby own_d7_60) (by decide) (by decide) ?_
            exact ⟨by rw [own_in0 (by omega), own_nar0], e0, rfl⟩
          · refine OwnK.aloadN X0 hx (hb hby own_d7_47) (pc' := 48) rfl (v := (.ref p1)) rfl rfl ?_
            refine OwnK.iconst X0 hx (hb hby own_d7_48) (pc' := 49) rfl (v := (3 : Int32)) (by decide) ?_
            refine OwnK.laload X0 hx hZ e0 V0 (by decide) (by show (3 : Int) < _; first | decide | omega) (v := (.long el3)) rfl (hb hby own_d7_49) (pc' := 50) rfl ?_
            refine OwnK.lloadN X0 hx (hb hby own_d7_50) (pc' := 51) rfl (v := p2) rfl ?_
            refine OwnK.lcmp_ne X0 hx (hb hby own_d7_51) (pc1 := 52) rfl (hb hby own_d7_52) (by decide) (pcT := 59) (by decide) (pc' := 55) rfl (fun (hc8 : ¬ el3.toInt = p2.toInt) => ?_) (fun (hc8 : el3.toInt = p2.toInt) => ?_)
            · refine OwnK.iconst X0 hx (hb hby own_d7_59) (pc' := 60) rfl (v := (0 : Int32)) (by decide) ?_
              refine OwnK.retN_ X0 hx hret (by simp) hlk (hb hby own_d7_60) (by decide) (by decide) ?_
              exact ⟨by rw [own_in0 (by omega), own_nar0], e0, rfl⟩
            · refine OwnK.iconst X0 hx (hb hby own_d7_55) (pc' := 56) rfl (v := (1 : Int32)) (by decide) ?_
              refine OwnK.goto_ X0 hx (hb hby own_d7_56) (by decide) (pc' := 60) (by decide) ?_
              refine OwnK.retN_ X0 hx hret (by simp) hlk (hb hby own_d7_60) (by decide) (by decide) ?_
              exact ⟨by rw [own_in1 (by omega), own_nar1], e0, rfl⟩
    · refine OwnK.aloadN X0 hx (hb hby own_d7_19) (pc' := 20) rfl (v := (.ref p1)) rfl rfl ?_
      refine OwnK.iconst X0 hx (hb hby own_d7_20) (pc' := 21) rfl (v := (1 : Int32)) (by decide) ?_
      refine OwnK.laload X0 hx hZ e0 V0 (by decide) (by show (1 : Int) < _; first | decide | omega) (v := (.long el1)) rfl (hb hby own_d7_21) (pc' := 22) rfl ?_
      refine OwnK.lloadN X0 hx (hb hby own_d7_22) (pc' := 23) rfl (v := p2) rfl ?_
      refine OwnK.lcmp_eq X0 hx (hb hby own_d7_23) (pc1 := 24) rfl (hb hby own_d7_24) (by decide) (pcT := 55) (by decide) (pc' := 27) rfl (fun (hc9 : el1.toInt = p2.toInt) => ?_) (fun (hc9 : ¬ el1.toInt = p2.toInt) => ?_)
      · refine OwnK.iconst X0 hx (hb hby own_d7_55) (pc' := 56) rfl (v := (1 : Int32)) (by decide) ?_
        refine OwnK.goto_ X0 hx (hb hby own_d7_56) (by decide) (pc' := 60) (by decide) ?_
        refine OwnK.retN_ X0 hx hret (by simp) hlk (hb hby own_d7_60) (by decide) (by decide) ?_
        exact ⟨by rw [own_in1 (by omega), own_nar1], e0, rfl⟩
      · refine OwnK.aloadN X0 hx (hb hby own_d7_27) (pc' := 28) rfl (v := (.ref p1)) rfl rfl ?_
        refine OwnK.arrlen X0 hx hZ e0 V0 (hb hby own_d7_28) (pc' := 29) rfl ?_
        refine OwnK.iconst X0 hx (hb hby own_d7_29) (pc' := 30) rfl (v := (2 : Int32)) (by decide) ?_
        refine OwnK.icmp_le X0 hx (hb hby own_d7_30) (by decide) (pcT := 41) (by decide) (pc' := 33) rfl (fun (hc10 : z.toInt ≤ 2) => ?_) (fun (hc10 : 2 < z.toInt) => ?_)
        · refine OwnK.aloadN X0 hx (hb hby own_d7_41) (pc' := 42) rfl (v := (.ref p1)) rfl rfl ?_
          refine OwnK.arrlen X0 hx hZ e0 V0 (hb hby own_d7_42) (pc' := 43) rfl ?_
          refine OwnK.iconst X0 hx (hb hby own_d7_43) (pc' := 44) rfl (v := (3 : Int32)) (by decide) ?_
          refine OwnK.icmp_le X0 hx (hb hby own_d7_44) (by decide) (pcT := 59) (by decide) (pc' := 47) rfl (fun (hc11 : z.toInt ≤ 3) => ?_) (fun (hc11 : 3 < z.toInt) => ?_)
          · refine OwnK.iconst X0 hx (hb hby own_d7_59) (pc' := 60) rfl (v := (0 : Int32)) (by decide) ?_
            refine OwnK.retN_ X0 hx hret (by simp) hlk (hb hby own_d7_60) (by decide) (by decide) ?_
            exact ⟨by rw [own_in0 (by omega), own_nar0], e0, rfl⟩
          · refine OwnK.aloadN X0 hx (hb hby own_d7_47) (pc' := 48) rfl (v := (.ref p1)) rfl rfl ?_
            refine OwnK.iconst X0 hx (hb hby own_d7_48) (pc' := 49) rfl (v := (3 : Int32)) (by decide) ?_
            refine OwnK.laload X0 hx hZ e0 V0 (by decide) (by show (3 : Int) < _; first | decide | omega) (v := (.long el3)) rfl (hb hby own_d7_49) (pc' := 50) rfl ?_
            refine OwnK.lloadN X0 hx (hb hby own_d7_50) (pc' := 51) rfl (v := p2) rfl ?_
            refine OwnK.lcmp_ne X0 hx (hb hby own_d7_51) (pc1 := 52) rfl (hb hby own_d7_52) (by decide) (pcT := 59) (by decide) (pc' := 55) rfl (fun (hc12 : ¬ el3.toInt = p2.toInt) => ?_) (fun (hc12 : el3.toInt = p2.toInt) => ?_)
            · refine OwnK.iconst X0 hx (hb hby own_d7_59) (pc' := 60) rfl (v := (0 : Int32)) (by decide) ?_
              refine OwnK.retN_ X0 hx hret (by simp) hlk (hb hby own_d7_60) (by decide) (by decide) ?_
              exact ⟨by rw [own_in0 (by omega), own_nar0], e0, rfl⟩
            · refine OwnK.iconst X0 hx (hb hby own_d7_55) (pc' := 56) rfl (v := (1 : Int32)) (by decide) ?_
              refine OwnK.goto_ X0 hx (hb hby own_d7_56) (by decide) (pc' := 60) (by decide) ?_
              refine OwnK.retN_ X0 hx hret (by simp) hlk (hb hby own_d7_60) (by decide) (by decide) ?_
              exact ⟨by rw [own_in1 (by omega), own_nar1], e0, rfl⟩
        · refine OwnK.aloadN X0 hx (hb hby own_d7_33) (pc' := 34) rfl (v := (.ref p1)) rfl rfl ?_
          refine OwnK.iconst X0 hx (hb hby own_d7_34) (pc' := 35) rfl (v := (2 : Int32)) (by decide) ?_
          refine OwnK.laload X0 hx hZ e0 V0 (by decide) (by show (2 : Int) < _; first | decide | omega) (v := (.long el2)) rfl (hb hby own_d7_35) (pc' := 36) rfl ?_
          refine OwnK.lloadN X0 hx (hb hby own_d7_36) (pc' := 37) rfl (v := p2) rfl ?_
          refine OwnK.lcmp_eq X0 hx (hb hby own_d7_37) (pc1 := 38) rfl (hb hby own_d7_38) (by decide) (pcT := 55) (by decide) (pc' := 41) rfl (fun (hc13 : el2.toInt = p2.toInt) => ?_) (fun (hc13 : ¬ el2.toInt = p2.toInt) => ?_)
          · refine OwnK.iconst X0 hx (hb hby own_d7_55) (pc' := 56) rfl (v := (1 : Int32)) (by decide) ?_
            refine OwnK.goto_ X0 hx (hb hby own_d7_56) (by decide) (pc' := 60) (by decide) ?_
            refine OwnK.retN_ X0 hx hret (by simp) hlk (hb hby own_d7_60) (by decide) (by decide) ?_
            exact ⟨by rw [own_in1 (by omega), own_nar1], e0, rfl⟩
          · refine OwnK.aloadN X0 hx (hb hby own_d7_41) (pc' := 42) rfl (v := (.ref p1)) rfl rfl ?_
            refine OwnK.arrlen X0 hx hZ e0 V0 (hb hby own_d7_42) (pc' := 43) rfl ?_
            refine OwnK.iconst X0 hx (hb hby own_d7_43) (pc' := 44) rfl (v := (3 : Int32)) (by decide) ?_
            refine OwnK.icmp_le X0 hx (hb hby own_d7_44) (by decide) (pcT := 59) (by decide) (pc' := 47) rfl (fun (hc14 : z.toInt ≤ 3) => ?_) (fun (hc14 : 3 < z.toInt) => ?_)
            · refine OwnK.iconst X0 hx (hb hby own_d7_59) (pc' := 60) rfl (v := (0 : Int32)) (by decide) ?_
              refine OwnK.retN_ X0 hx hret (by simp) hlk (hb hby own_d7_60) (by decide) (by decide) ?_
              exact ⟨by rw [own_in0 (by omega), own_nar0], e0, rfl⟩
            · refine OwnK.aloadN X0 hx (hb hby own_d7_47) (pc' := 48) rfl (v := (.ref p1)) rfl rfl ?_
              refine OwnK.iconst X0 hx (hb hby own_d7_48) (pc' := 49) rfl (v := (3 : Int32)) (by decide) ?_
              refine OwnK.laload X0 hx hZ e0 V0 (by decide) (by show (3 : Int) < _; first | decide | omega) (v := (.long el3)) rfl (hb hby own_d7_49) (pc' := 50) rfl ?_
              refine OwnK.lloadN X0 hx (hb hby own_d7_50) (pc' := 51) rfl (v := p2) rfl ?_
              refine OwnK.lcmp_ne X0 hx (hb hby own_d7_51) (pc1 := 52) rfl (hb hby own_d7_52) (by decide) (pcT := 59) (by decide) (pc' := 55) rfl (fun (hc15 : ¬ el3.toInt = p2.toInt) => ?_) (fun (hc15 : el3.toInt = p2.toInt) => ?_)
              · refine OwnK.iconst X0 hx (hb hby own_d7_59) (pc' := 60) rfl (v := (0 : Int32)) (by decide) ?_
                refine OwnK.retN_ X0 hx hret (by simp) hlk (hb hby own_d7_60) (by decide) (by decide) ?_
                exact ⟨by rw [own_in0 (by omega), own_nar0], e0, rfl⟩
              · refine OwnK.iconst X0 hx (hb hby own_d7_55) (pc' := 56) rfl (v := (1 : Int32)) (by decide) ?_
                refine OwnK.goto_ X0 hx (hb hby own_d7_56) (by decide) (pc' := 60) (by decide) ?_
                refine OwnK.retN_ X0 hx hret (by simp) hlk (hb hby own_d7_60) (by decide) (by decide) ?_
                exact ⟨by rw [own_in1 (by omega), own_nar1], e0, rfl⟩
  · refine OwnK.aloadN X0 hx (hb hby own_d7_5) (pc' := 6) rfl (v := (.ref p1)) rfl rfl ?_
    refine OwnK.iconst X0 hx (hb hby own_d7_6) (pc' := 7) rfl (v := (0 : Int32)) (by decide) ?_
    refine OwnK.laload X0 hx hZ e0 V0 (by decide) (by show (0 : Int) < _; first | decide | omega) (v := (.long el0)) rfl (hb hby own_d7_7) (pc' := 8) rfl ?_
    refine OwnK.lloadN X0 hx (hb hby own_d7_8) (pc' := 9) rfl (v := p2) rfl ?_
    refine OwnK.lcmp_eq X0 hx (hb hby own_d7_9) (pc1 := 10) rfl (hb hby own_d7_10) (by decide) (pcT := 55) (by decide) (pc' := 13) rfl (fun (hc16 : el0.toInt = p2.toInt) => ?_) (fun (hc16 : ¬ el0.toInt = p2.toInt) => ?_)
    · refine OwnK.iconst X0 hx (hb hby own_d7_55) (pc' := 56) rfl (v := (1 : Int32)) (by decide) ?_
      refine OwnK.goto_ X0 hx (hb hby own_d7_56) (by decide) (pc' := 60) (by decide) ?_
      refine OwnK.retN_ X0 hx hret (by simp) hlk (hb hby own_d7_60) (by decide) (by decide) ?_
      exact ⟨by rw [own_in1 (by omega), own_nar1], e0, rfl⟩
    · refine OwnK.aloadN X0 hx (hb hby own_d7_13) (pc' := 14) rfl (v := (.ref p1)) rfl rfl ?_
      refine OwnK.arrlen X0 hx hZ e0 V0 (hb hby own_d7_14) (pc' := 15) rfl ?_
      refine OwnK.iconst X0 hx (hb hby own_d7_15) (pc' := 16) rfl (v := (1 : Int32)) (by decide) ?_
      refine OwnK.icmp_le X0 hx (hb hby own_d7_16) (by decide) (pcT := 27) (by decide) (pc' := 19) rfl (fun (hc17 : z.toInt ≤ 1) => ?_) (fun (hc17 : 1 < z.toInt) => ?_)
      · refine OwnK.aloadN X0 hx (hb hby own_d7_27) (pc' := 28) rfl (v := (.ref p1)) rfl rfl ?_
        refine OwnK.arrlen X0 hx hZ e0 V0 (hb hby own_d7_28) (pc' := 29) rfl ?_
        refine OwnK.iconst X0 hx (hb hby own_d7_29) (pc' := 30) rfl (v := (2 : Int32)) (by decide) ?_
        refine OwnK.icmp_le X0 hx (hb hby own_d7_30) (by decide) (pcT := 41) (by decide) (pc' := 33) rfl (fun (hc18 : z.toInt ≤ 2) => ?_) (fun (hc18 : 2 < z.toInt) => ?_)
        · refine OwnK.aloadN X0 hx (hb hby own_d7_41) (pc' := 42) rfl (v := (.ref p1)) rfl rfl ?_
          refine OwnK.arrlen X0 hx hZ e0 V0 (hb hby own_d7_42) (pc' := 43) rfl ?_
          refine OwnK.iconst X0 hx (hb hby own_d7_43) (pc' := 44) rfl (v := (3 : Int32)) (by decide) ?_
          refine OwnK.icmp_le X0 hx (hb hby own_d7_44) (by decide) (pcT := 59) (by decide) (pc' := 47) rfl (fun (hc19 : z.toInt ≤ 3) => ?_) (fun (hc19 : 3 < z.toInt) => ?_)
          · refine OwnK.iconst X0 hx (hb hby own_d7_59) (pc' := 60) rfl (v := (0 : Int32)) (by decide) ?_
            refine OwnK.retN_ X0 hx hret (by simp) hlk (hb hby own_d7_60) (by decide) (by decide) ?_
            exact ⟨by rw [own_in0 (by omega), own_nar0], e0, rfl⟩
          · refine OwnK.aloadN X0 hx (hb hby own_d7_47) (pc' := 48) rfl (v := (.ref p1)) rfl rfl ?_
            refine OwnK.iconst X0 hx (hb hby own_d7_48) (pc' := 49) rfl (v := (3 : Int32)) (by decide) ?_
            refine OwnK.laload X0 hx hZ e0 V0 (by decide) (by show (3 : Int) < _; first | decide | omega) (v := (.long el3)) rfl (hb hby own_d7_49) (pc' := 50) rfl ?_
            refine OwnK.lloadN X0 hx (hb hby own_d7_50) (pc' := 51) rfl (v := p2) rfl ?_
            refine OwnK.lcmp_ne X0 hx (hb hby own_d7_51) (pc1 := 52) rfl (hb hby own_d7_52) (by decide) (pcT := 59) (by decide) (pc' := 55) rfl (fun (hc20 : ¬ el3.toInt = p2.toInt) => ?_) (fun (hc20 : el3.toInt = p2.toInt) => ?_)
            · refine OwnK.iconst X0 hx (hb hby own_d7_59) (pc' := 60) rfl (v := (0 : Int32)) (by decide) ?_
              refine OwnK.retN_ X0 hx hret (by simp) hlk (hb hby own_d7_60) (by decide) (by decide) ?_
              exact ⟨by rw [own_in0 (by omega), own_nar0], e0, rfl⟩
            · refine OwnK.iconst X0 hx (hb hby own_d7_55) (pc' := 56) rfl (v := (1 : Int32)) (by decide) ?_
              refine OwnK.goto_ X0 hx (hb hby own_d7_56) (by decide) (pc' := 60) (by decide) ?_
              refine OwnK.retN_ X0 hx hret (by simp) hlk (hb hby own_d7_60) (by decide) (by decide) ?_
              exact ⟨by rw [own_in1 (by omega), own_nar1], e0, rfl⟩
        · refine OwnK.aloadN X0 hx (hb hby own_d7_33) (pc' := 34) rfl (v := (.ref p1)) rfl rfl ?_
          refine OwnK.iconst X0 hx (hb hby own_d7_34) (pc' := 35) rfl (v := (2 : Int32)) (by decide) ?_
          refine OwnK.laload X0 hx hZ e0 V0 (by decide) (by show (2 : Int) < _; first | decide | omega) (v := (.long el2)) rfl (hb hby own_d7_35) (pc' := 36) rfl ?_
          refine OwnK.lloadN X0 hx (hb hby own_d7_36) (pc' := 37) rfl (v := p2) rfl ?_
          refine OwnK.lcmp_eq X0 hx (hb hby own_d7_37) (pc1 := 38) rfl (hb hby own_d7_38) (by decide) (pcT := 55) (by decide) (pc' := 41) rfl (fun (hc21 : el2.toInt = p2.toInt) => ?_) (fun (hc21 : ¬ el2.toInt = p2.toInt) => ?_)
          · refine OwnK.iconst X0 hx (hb hby own_d7_55) (pc' := 56) rfl (v := (1 : Int32)) (by decide) ?_
            refine OwnK.goto_ X0 hx (hb hby own_d7_56) (by decide) (pc' := 60) (by decide) ?_
            refine OwnK.retN_ X0 hx hret (by simp) hlk (hb hby own_d7_60) (by decide) (by decide) ?_
            exact ⟨by rw [own_in1 (by omega), own_nar1], e0, rfl⟩
          · refine OwnK.aloadN X0 hx (hb hby own_d7_41) (pc' := 42) rfl (v := (.ref p1)) rfl rfl ?_
            refine OwnK.arrlen X0 hx hZ e0 V0 (hb hby own_d7_42) (pc' := 43) rfl ?_
            refine OwnK.iconst X0 hx (hb hby own_d7_43) (pc' := 44) rfl (v := (3 : Int32)) (by decide) ?_
            refine OwnK.icmp_le X0 hx (hb hby own_d7_44) (by decide) (pcT := 59) (by decide) (pc' := 47) rfl (fun (hc22 : z.toInt ≤ 3) => ?_) (fun (hc22 : 3 < z.toInt) => ?_)
            · refine OwnK.iconst X0 hx (hb hby own_d7_59) (pc' := 60) rfl (v := (0 : Int32)) (by decide) ?_
              refine OwnK.retN_ X0 hx hret (by simp) hlk (hb hby own_d7_60) (by decide) (by decide) ?_
              exact ⟨by rw [own_in0 (by omega), own_nar0], e0, rfl⟩
            · refine OwnK.aloadN X0 hx (hb hby own_d7_47) (pc' := 48) rfl (v := (.ref p1)) rfl rfl ?_
              refine OwnK.iconst X0 hx (hb hby own_d7_48) (pc' := 49) rfl (v := (3 : Int32)) (by decide) ?_
              refine OwnK.laload X0 hx hZ e0 V0 (by decide) (by show (3 : Int) < _; first | decide | omega) (v := (.long el3)) rfl (hb hby own_d7_49) (pc' := 50) rfl ?_
              refine OwnK.lloadN X0 hx (hb hby own_d7_50) (pc' := 51) rfl (v := p2) rfl ?_
              refine OwnK.lcmp_ne X0 hx (hb hby own_d7_51) (pc1 := 52) rfl (hb hby own_d7_52) (by decide) (pcT := 59) (by decide) (pc' := 55) rfl (fun (hc23 : ¬ el3.toInt = p2.toInt) => ?_) (fun (hc23 : el3.toInt = p2.toInt) => ?_)
              · refine OwnK.iconst X0 hx (hb hby own_d7_59) (pc' := 60) rfl (v := (0 : Int32)) (by decide) ?_
                refine OwnK.retN_ X0 hx hret (by simp) hlk (hb hby own_d7_60) (by decide) (by decide) ?_
                exact ⟨by rw [own_in0 (by omega), own_nar0], e0, rfl⟩
              · refine OwnK.iconst X0 hx (hb hby own_d7_55) (pc' := 56) rfl (v := (1 : Int32)) (by decide) ?_
                refine OwnK.goto_ X0 hx (hb hby own_d7_56) (by decide) (pc' := 60) (by decide) ?_
                refine OwnK.retN_ X0 hx hret (by simp) hlk (hb hby own_d7_60) (by decide) (by decide) ?_
                exact ⟨by rw [own_in1 (by omega), own_nar1], e0, rfl⟩
      · refine OwnK.aloadN X0 hx (hb hby own_d7_19) (pc' := 20) rfl (v := (.ref p1)) rfl rfl ?_
        refine OwnK.iconst X0 hx (hb hby own_d7_20) (pc' := 21) rfl (v := (1 : Int32)) (by decide) ?_
        refine OwnK.laload X0 hx hZ e0 V0 (by decide) (by show (1 : Int) < _; first | decide | omega) (v := (.long el1)) rfl (hb hby own_d7_21) (pc' := 22) rfl ?_
        refine OwnK.lloadN X0 hx (hb hby own_d7_22) (pc' := 23) rfl (v := p2) rfl ?_
        refine OwnK.lcmp_eq X0 hx (hb hby own_d7_23) (pc1 := 24) rfl (hb hby own_d7_24) (by decide) (pcT := 55) (by decide) (pc' := 27) rfl (fun (hc24 : el1.toInt = p2.toInt) => ?_) (fun (hc24 : ¬ el1.toInt = p2.toInt) => ?_)
        · refine OwnK.iconst X0 hx (hb hby own_d7_55) (pc' := 56) rfl (v := (1 : Int32)) (by decide) ?_
          refine OwnK.goto_ X0 hx (hb hby own_d7_56) (by decide) (pc' := 60) (by decide) ?_
          refine OwnK.retN_ X0 hx hret (by simp) hlk (hb hby own_d7_60) (by decide) (by decide) ?_
          exact ⟨by rw [own_in1 (by omega), own_nar1], e0, rfl⟩
        · refine OwnK.aloadN X0 hx (hb hby own_d7_27) (pc' := 28) rfl (v := (.ref p1)) rfl rfl ?_
          refine OwnK.arrlen X0 hx hZ e0 V0 (hb hby own_d7_28) (pc' := 29) rfl ?_
          refine OwnK.iconst X0 hx (hb hby own_d7_29) (pc' := 30) rfl (v := (2 : Int32)) (by decide) ?_
          refine OwnK.icmp_le X0 hx (hb hby own_d7_30) (by decide) (pcT := 41) (by decide) (pc' := 33) rfl (fun (hc25 : z.toInt ≤ 2) => ?_) (fun (hc25 : 2 < z.toInt) => ?_)
          · refine OwnK.aloadN X0 hx (hb hby own_d7_41) (pc' := 42) rfl (v := (.ref p1)) rfl rfl ?_
            refine OwnK.arrlen X0 hx hZ e0 V0 (hb hby own_d7_42) (pc' := 43) rfl ?_
            refine OwnK.iconst X0 hx (hb hby own_d7_43) (pc' := 44) rfl (v := (3 : Int32)) (by decide) ?_
            refine OwnK.icmp_le X0 hx (hb hby own_d7_44) (by decide) (pcT := 59) (by decide) (pc' := 47) rfl (fun (hc26 : z.toInt ≤ 3) => ?_) (fun (hc26 : 3 < z.toInt) => ?_)
            · refine OwnK.iconst X0 hx (hb hby own_d7_59) (pc' := 60) rfl (v := (0 : Int32)) (by decide) ?_
              refine OwnK.retN_ X0 hx hret (by simp) hlk (hb hby own_d7_60) (by decide) (by decide) ?_
              exact ⟨by rw [own_in0 (by omega), own_nar0], e0, rfl⟩
            · refine OwnK.aloadN X0 hx (hb hby own_d7_47) (pc' := 48) rfl (v := (.ref p1)) rfl rfl ?_
              refine OwnK.iconst X0 hx (hb hby own_d7_48) (pc' := 49) rfl (v := (3 : Int32)) (by decide) ?_
              refine OwnK.laload X0 hx hZ e0 V0 (by decide) (by show (3 : Int) < _; first | decide | omega) (v := (.long el3)) rfl (hb hby own_d7_49) (pc' := 50) rfl ?_
              refine OwnK.lloadN X0 hx (hb hby own_d7_50) (pc' := 51) rfl (v := p2) rfl ?_
              refine OwnK.lcmp_ne X0 hx (hb hby own_d7_51) (pc1 := 52) rfl (hb hby own_d7_52) (by decide) (pcT := 59) (by decide) (pc' := 55) rfl (fun (hc27 : ¬ el3.toInt = p2.toInt) => ?_) (fun (hc27 : el3.toInt = p2.toInt) => ?_)
              · refine OwnK.iconst X0 hx (hb hby own_d7_59) (pc' := 60) rfl (v := (0 : Int32)) (by decide) ?_
                refine OwnK.retN_ X0 hx hret (by simp) hlk (hb hby own_d7_60) (by decide) (by decide) ?_
                exact ⟨by rw [own_in0 (by omega), own_nar0], e0, rfl⟩
              · refine OwnK.iconst X0 hx (hb hby own_d7_55) (pc' := 56) rfl (v := (1 : Int32)) (by decide) ?_
                refine OwnK.goto_ X0 hx (hb hby own_d7_56) (by decide) (pc' := 60) (by decide) ?_
                refine OwnK.retN_ X0 hx hret (by simp) hlk (hb hby own_d7_60) (by decide) (by decide) ?_
                exact ⟨by rw [own_in1 (by omega), own_nar1], e0, rfl⟩
          · refine OwnK.aloadN X0 hx (hb hby own_d7_33) (pc' := 34) rfl (v := (.ref p1)) rfl rfl ?_
            refine OwnK.iconst X0 hx (hb hby own_d7_34) (pc' := 35) rfl (v := (2 : Int32)) (by decide) ?_
            refine OwnK.laload X0 hx hZ e0 V0 (by decide) (by show (2 : Int) < _; first | decide | omega) (v := (.long el2)) rfl (hb hby own_d7_35) (pc' := 36) rfl ?_
            refine OwnK.lloadN X0 hx (hb hby own_d7_36) (pc' := 37) rfl (v := p2) rfl ?_
            refine OwnK.lcmp_eq X0 hx (hb hby own_d7_37) (pc1 := 38) rfl (hb hby own_d7_38) (by decide) (pcT := 55) (by decide) (pc' := 41) rfl (fun (hc28 : el2.toInt = p2.toInt) => ?_) (fun (hc28 : ¬ el2.toInt = p2.toInt) => ?_)
            · refine OwnK.iconst X0 hx (hb hby own_d7_55) (pc' := 56) rfl (v := (1 : Int32)) (by decide) ?_
              refine OwnK.goto_ X0 hx (hb hby own_d7_56) (by decide) (pc' := 60) (by decide) ?_
              refine OwnK.retN_ X0 hx hret (by simp) hlk (hb hby own_d7_60) (by decide) (by decide) ?_
              exact ⟨by rw [own_in1 (by omega), own_nar1], e0, rfl⟩
            · refine OwnK.aloadN X0 hx (hb hby own_d7_41) (pc' := 42) rfl (v := (.ref p1)) rfl rfl ?_
              refine OwnK.arrlen X0 hx hZ e0 V0 (hb hby own_d7_42) (pc' := 43) rfl ?_
              refine OwnK.iconst X0 hx (hb hby own_d7_43) (pc' := 44) rfl (v := (3 : Int32)) (by decide) ?_
              refine OwnK.icmp_le X0 hx (hb hby own_d7_44) (by decide) (pcT := 59) (by decide) (pc' := 47) rfl (fun (hc29 : z.toInt ≤ 3) => ?_) (fun (hc29 : 3 < z.toInt) => ?_)
              · refine OwnK.iconst X0 hx (hb hby own_d7_59) (pc' := 60) rfl (v := (0 : Int32)) (by decide) ?_
                refine OwnK.retN_ X0 hx hret (by simp) hlk (hb hby own_d7_60) (by decide) (by decide) ?_
                exact ⟨by rw [own_in0 (by omega), own_nar0], e0, rfl⟩
              · refine OwnK.aloadN X0 hx (hb hby own_d7_47) (pc' := 48) rfl (v := (.ref p1)) rfl rfl ?_
                refine OwnK.iconst X0 hx (hb hby own_d7_48) (pc' := 49) rfl (v := (3 : Int32)) (by decide) ?_
                refine OwnK.laload X0 hx hZ e0 V0 (by decide) (by show (3 : Int) < _; first | decide | omega) (v := (.long el3)) rfl (hb hby own_d7_49) (pc' := 50) rfl ?_
                refine OwnK.lloadN X0 hx (hb hby own_d7_50) (pc' := 51) rfl (v := p2) rfl ?_
                refine OwnK.lcmp_ne X0 hx (hb hby own_d7_51) (pc1 := 52) rfl (hb hby own_d7_52) (by decide) (pcT := 59) (by decide) (pc' := 55) rfl (fun (hc30 : ¬ el3.toInt = p2.toInt) => ?_) (fun (hc30 : el3.toInt = p2.toInt) => ?_)
                · refine OwnK.iconst X0 hx (hb hby own_d7_59) (pc' := 60) rfl (v := (0 : Int32)) (by decide) ?_
                  refine OwnK.retN_ X0 hx hret (by simp) hlk (hb hby own_d7_60) (by decide) (by decide) ?_
                  exact ⟨by rw [own_in0 (by omega), own_nar0], e0, rfl⟩
                · refine OwnK.iconst X0 hx (hb hby own_d7_55) (pc' := 56) rfl (v := (1 : Int32)) (by decide) ?_
                  refine OwnK.goto_ X0 hx (hb hby own_d7_56) (by decide) (pc' := 60) (by decide) ?_
                  refine OwnK.retN_ X0 hx hret (by simp) hlk (hb hby own_d7_60) (by decide) (by decide) ?_
                  exact ⟨by rw [own_in1 (by omega), own_nar1], e0, rfl⟩
set_option maxRecDepth 65536 in
set_option maxHeartbeats 40000000 in
theorem own_law (l : Launch) (Z : State) (a0 : Array Value) (hw : ∀ d ∈ tables_1, d.before a0 Z = true) (ws : List Jvm.Cond) (h0 : Heap) (n0 : Nat) (Z0 : n0 ≤ h0.size) (p0 : Int64) (p1 : Int64) (p2 : Int64) (p3 : Int64) (p4 : Int32) (p5 : Int32)  :
    MetFree l x (head1 (Jvm.Cond.code x code maxLocals ret :: ws) room_1) (fun a U => a = #[(.long p0), (.long p1), (.long p2), (.long p3), (.int p4), (.int p5)] ∧ Z.Warmed39 U.vm ∧ U.heap = h0) (fun _ _ _ _ _ => True) (fun _ U o U' => ∃ v L, o = .returned v ∧ (fun (v : Option Value) (_ : Heap) (L : List Loc) => v = some (.int (1 : Int32)) ∧ Fr n0 L) v U'.heap L ∧ FrameEnd U o U' L 6 23) := by
  refine OwnK.met (Q := (fun (v : Option Value) (_ : Heap) (L : List Loc) => v = some (.int (1 : Int32)) ∧ Fr n0 L)) (C := 6) (N := 23) own_pl_0 (own_ef_0 p0 p1 p2 p3 p4 p5) ?_
  intro p e s m below meth c T0 X0 hx hZ hby hml hown hnm hret hlk e0
  have N0 := Fr.nil n0
  have lit0 : (0 : Int32).toInt = 0 := by decide
  have lit1 : (1 : Int32).toInt = 1 := by decide
  have lit2 : (2 : Int32).toInt = 2 := by decide
  have lit3 : (3 : Int32).toInt = 3 := by decide
  have lit4 : (4 : Int32).toInt = 4 := by decide
  have litz : (0 : Int64).toInt = 0 := by decide
  refine OwnK.iconst X0 hx (hb hby at_0) (pc' := 1) rfl (v := (4 : Int32)) (by decide) ?_
  refine OwnK.newP_ X0 hx hZ (hw _ (List.mem_of_getElem? (i := 0) rfl)) e0 (hb hby at_1) (pc' := 3) rfl (n := (4 : Int32)) (by decide) (cap := 4) (by decide) (by decide) (by decide) (by decide) (ad := "[J") (by decide) (fun T1 h1 a1 k1 X1 e1 g1 E1 V1 Q1 => ?_)
  have ge_a1 : n0 ≤ a1 := Nat.le_trans Z0 (Nat.le_of_eq g1.symm)
  have z2 : n0 ≤ h1.size := Nat.le_trans Z0 E1.1
  have f3 : Arv Z h1 a1 k1 .long (4 : Int32) [(.long (0 : Int64)), (.long (0 : Int64)), (.long (0 : Int64)), (.long (0 : Int64))] (.long (0 : Int64)) := V1.pad (pad_rep [] (.long (0 : Int64)) 4)
  refine OwnK.dup X1 hx (hb hby at_3) (pc' := 4) rfl rfl ?_
  refine OwnK.iconst X1 hx (hb hby at_4) (pc' := 5) rfl (v := (0 : Int32)) (by decide) ?_
  refine OwnK.lloadN X1 hx (hb hby at_5) (pc' := 6) rfl (v := p0) rfl ?_
  refine OwnK.lastore X1 hx hZ e1 f3 (i := 0) (by decide) (by first | decide | omega) (Nat.le_of_ble_eq_true rfl) (hb hby at_6) (pc' := 7) rfl (fun T4 h4 X4 e4 W4 V4 => ?_)
  have f5 := Q1.wr W4
  have f6 : Arv Z h4 a1 _ .long (4 : Int32) [(.long p0), (.long (0 : Int64)), (.long (0 : Int64)), (.long (0 : Int64))] (.long (0 : Int64)) := V4
  have N7 := Fr.snoc X4 N0 ge_a1
  have z8 : n0 ≤ h4.size := Nat.le_trans z2 (Keep.of_wr W4).1
  refine OwnK.dup X4 hx (hb hby at_7) (pc' := 8) rfl rfl ?_
  refine OwnK.iconst X4 hx (hb hby at_8) (pc' := 9) rfl (v := (1 : Int32)) (by decide) ?_
  refine OwnK.lloadN X4 hx (hb hby at_9) (pc' := 10) rfl (v := p1) rfl ?_
  refine OwnK.lastore X4 hx hZ e4 f6 (i := 1) (by decide) (by first | decide | omega) (Nat.le_of_ble_eq_true rfl) (hb hby at_10) (pc' := 11) rfl (fun T9 h9 X9 e9 W9 V9 => ?_)
  have f10 := f5.wr W9
  have f11 : Arv Z h9 a1 _ .long (4 : Int32) [(.long p0), (.long p1), (.long (0 : Int64)), (.long (0 : Int64))] (.long (0 : Int64)) := V9
  have N12 := Fr.snoc X9 N7 ge_a1
  have z13 : n0 ≤ h9.size := Nat.le_trans z8 (Keep.of_wr W9).1
  refine OwnK.dup X9 hx (hb hby at_11) (pc' := 12) rfl rfl ?_
  refine OwnK.iconst X9 hx (hb hby at_12) (pc' := 13) rfl (v := (2 : Int32)) (by decide) ?_
  refine OwnK.lload X9 hx (hb hby at_13) (pc' := 15) rfl (v := p2) rfl ?_
  refine OwnK.lastore X9 hx hZ e9 f11 (i := 2) (by decide) (by first | decide | omega) (Nat.le_of_ble_eq_true rfl) (hb hby at_15) (pc' := 16) rfl (fun T14 h14 X14 e14 W14 V14 => ?_)
  have f15 := f10.wr W14
  have f16 : Arv Z h14 a1 _ .long (4 : Int32) [(.long p0), (.long p1), (.long p2), (.long (0 : Int64))] (.long (0 : Int64)) := V14
  have N17 := Fr.snoc X14 N12 ge_a1
  have z18 : n0 ≤ h14.size := Nat.le_trans z13 (Keep.of_wr W14).1
  refine OwnK.dup X14 hx (hb hby at_16) (pc' := 17) rfl rfl ?_
  refine OwnK.iconst X14 hx (hb hby at_17) (pc' := 18) rfl (v := (3 : Int32)) (by decide) ?_
  refine OwnK.lload X14 hx (hb hby at_18) (pc' := 20) rfl (v := p3) rfl ?_
  refine OwnK.lastore X14 hx hZ e14 f16 (i := 3) (by decide) (by first | decide | omega) (Nat.le_of_ble_eq_true rfl) (hb hby at_20) (pc' := 21) rfl (fun T19 h19 X19 e19 W19 V19 => ?_)
  have f20 := f15.wr W19
  have f21 : Arv Z h19 a1 _ .long (4 : Int32) [(.long p0), (.long p1), (.long p2), (.long p3)] (.long (0 : Int64)) := V19
  have N22 := Fr.snoc X19 N17 ge_a1
  have z23 : n0 ≤ h19.size := Nat.le_trans z18 (Keep.of_wr W19).1
  refine OwnK.astore X19 hx (hb hby at_21) (pc' := 23) rfl rfl (Ls' := #[.val (.long p0), .second, .val (.long p1), .second, .val (.long p2), .second, .val (.long p3), .second, .val (.int p4), .val (.int p5), .val (.ref a1), .unset, .unset, .unset, .unset, .unset]) rfl ?_
  refine OwnK.aload X19 hx (hb hby at_23) (pc' := 25) rfl (v := (.ref a1)) rfl rfl ?_
  refine OwnK.iconst X19 hx (hb hby at_25) (pc' := 26) rfl (v := (0 : Int32)) (by decide) ?_
  refine OwnK.iconst X19 hx (hb hby at_26) (pc' := 27) rfl (v := (1 : Int32)) (by decide) ?_
  refine OwnK.callS_ X19 hx hZ hown (y := (⟨"com/example/ledgerwire/ledgerwire/store/EntriesRecordsPinLaw", "cs", "([JII)V"⟩ : MethodName)) (hw _ (List.mem_of_getElem? (i := 1) rfl)) (hw _ (List.mem_of_getElem? (i := 2) rfl)) (hw _ (List.mem_of_getElem? (i := 3) rfl)) (hw _ (List.mem_of_getElem? (i := 4) rfl)) (by decide) (own_met1 l Z a0 hw h19 n0 z23 a1 (0 : Int32) (1 : Int32) _ _ 0 1 p0 p1  ge_a1 f21 (by decide) (by decide) (by decide) (by decide) rfl rfl rfl ) (by decide) (W := 0) (by decide) e19 (by rw [hml]; rfl) own_pd_6 (argsL := [(.ref a1), (.int (0 : Int32)), (.int (1 : Int32))]) rfl (S := []) rfl (Nat.le_of_eq rfl) (hb hby at_27) (pc' := 30) rfl (by decide) (by decide) (fun T24 v24 L24 X24 hQ24 => ?_)
  obtain ⟨rfl, N24q, K24, V24⟩ := hQ24
  have N25 := Fr.app N22 N24q
  have f26 := f20.keep K24
  have z27 : n0 ≤ T24.heap.size := Nat.le_trans z23 K24.1
  have o24 := own_lohi p0 p1
  obtain ⟨lo24, hlo24⟩ : ∃ z, z = own_lo p0 p1 := ⟨_, rfl⟩
  obtain ⟨hi24, hhi24⟩ : ∃ z, z = own_hi p0 p1 := ⟨_, rfl⟩
  rw [← hlo24, ← hhi24] at V24 o24
  have f28 : Arv Z T24.heap a1 _ .long (4 : Int32) [(.long lo24), (.long hi24), (.long p2), (.long p3)] (.long (0 : Int64)) := V24
  refine OwnK.aload X24 hx (hb hby at_30) (pc' := 32) rfl (v := (.ref a1)) rfl rfl ?_
  refine OwnK.iconst X24 hx (hb hby at_32) (pc' := 33) rfl (v := (2 : Int32)) (by decide) ?_
  refine OwnK.iconst X24 hx (hb hby at_33) (pc' := 34) rfl (v := (3 : Int32)) (by decide) ?_
  refine OwnK.callS_ X24 hx hZ hown (y := (⟨"com/example/ledgerwire/ledgerwire/store/EntriesRecordsPinLaw", "cs", "([JII)V"⟩ : MethodName)) (hw _ (List.mem_of_getElem? (i := 1) rfl)) (hw _ (List.mem_of_getElem? (i := 2) rfl)) (hw _ (List.mem_of_getElem? (i := 3) rfl)) (hw _ (List.mem_of_getElem? (i := 4) rfl)) (by decide) (own_met1 l Z a0 hw T24.heap n0 z27 a1 (2 : Int32) (3 : Int32) _ _ 2 3 p2 p3  ge_a1 f28 (by decide) (by decide) (by decide) (by decide) rfl rfl rfl ) (by decide) (W := 0) (by decide) rfl (by rw [hml]; rfl) own_pd_6 (argsL := [(.ref a1), (.int (2 : Int32)), (.int (3 : Int32))]) rfl (S := []) rfl (Nat.le_of_eq rfl) (hb hby at_34) (pc' := 37) rfl (by decide) (by decide) (fun T29 v29 L29 X29 hQ29 => ?_)
  obtain ⟨rfl, N29q, K29, V29⟩ := hQ29
  have N30 := Fr.app N25 N29q
  have f31 := f26.keep K29
  have z32 : n0 ≤ T29.heap.size := Nat.le_trans z27 K29.1
  have o29 := own_lohi p2 p3
  obtain ⟨lo29, hlo29⟩ : ∃ z, z = own_lo p2 p3 := ⟨_, rfl⟩
  obtain ⟨hi29, hhi29⟩ : ∃ z, z = own_hi p2 p3 := ⟨_, rfl⟩
  rw [← hlo29, ← hhi29] at V29 o29
  have f33 : Arv Z T29.heap a1 _ .long (4 : Int32) [(.long lo24), (.long hi24), (.long lo29), (.long hi29)] (.long (0 : Int64)) := V29
  refine OwnK.aload X29 hx (hb hby at_37) (pc' := 39) rfl (v := (.ref a1)) rfl rfl ?_
  refine OwnK.iconst X29 hx (hb hby at_39) (pc' := 40) rfl (v := (0 : Int32)) (by decide) ?_
  refine OwnK.iconst X29 hx (hb hby at_40) (pc' := 41) rfl (v := (2 : Int32)) (by decide) ?_
  refine OwnK.callS_ X29 hx hZ hown (y := (⟨"com/example/ledgerwire/ledgerwire/store/EntriesRecordsPinLaw", "cs", "([JII)V"⟩ : MethodName)) (hw _ (List.mem_of_getElem? (i := 1) rfl)) (hw _ (List.mem_of_getElem? (i := 2) rfl)) (hw _ (List.mem_of_getElem? (i := 3) rfl)) (hw _ (List.mem_of_getElem? (i := 4) rfl)) (by decide) (own_met1 l Z a0 hw T29.heap n0 z32 a1 (0 : Int32) (2 : Int32) _ _ 0 2 lo24 lo29  ge_a1 f33 (by decide) (by decide) (by decide) (by decide) rfl rfl rfl ) (by decide) (W := 0) (by decide) rfl (by rw [hml]; rfl) own_pd_6 (argsL := [(.ref a1), (.int (0 : Int32)), (.int (2 : Int32))]) rfl (S := []) rfl (Nat.le_of_eq rfl) (hb hby at_41) (pc' := 44) rfl (by decide) (by decide) (fun T34 v34 L34 X34 hQ34 => ?_)
  obtain ⟨rfl, N34q, K34, V34⟩ := hQ34
  have N35 := Fr.app N30 N34q
  have f36 := f31.keep K34
  have z37 : n0 ≤ T34.heap.size := Nat.le_trans z32 K34.1
  have o34 := own_lohi lo24 lo29
  obtain ⟨lo34, hlo34⟩ : ∃ z, z = own_lo lo24 lo29 := ⟨_, rfl⟩
  obtain ⟨hi34, hhi34⟩ : ∃ z, z = own_hi lo24 lo29 := ⟨_, rfl⟩
  rw [← hlo34, ← hhi34] at V34 o34
  have f38 : Arv Z T34.heap a1 _ .long (4 : Int32) [(.long lo34), (.long hi24), (.long hi34), (.long hi29)] (.long (0 : Int64)) := V34
  refine OwnK.aload X34 hx (hb hby at_44) (pc' := 46) rfl (v := (.ref a1)) rfl rfl ?_
  refine OwnK.iconst X34 hx (hb hby at_46) (pc' := 47) rfl (v := (1 : Int32)) (by decide) ?_
  refine OwnK.iconst X34 hx (hb hby at_47) (pc' := 48) rfl (v := (3 : Int32)) (by decide) ?_
  refine OwnK.callS_ X34 hx hZ hown (y := (⟨"com/example/ledgerwire/ledgerwire/store/EntriesRecordsPinLaw", "cs", "([JII)V"⟩ : MethodName)) (hw _ (List.mem_of_getElem? (i := 1) rfl)) (hw _ (List.mem_of_getElem? (i := 2) rfl)) (hw _ (List.mem_of_getElem? (i := 3) rfl)) (hw _ (List.mem_of_getElem? (i := 4) rfl)) (by decide) (own_met1 l Z a0 hw T34.heap n0 z37 a1 (1 : Int32) (3 : Int32) _ _ 1 3 hi24 hi29  ge_a1 f38 (by decide) (by decide) (by decide) (by decide) rfl rfl rfl ) (by decide) (W := 0) (by decide) rfl (by rw [hml]; rfl) own_pd_6 (argsL := [(.ref a1), (.int (1 : Int32)), (.int (3 : Int32))]) rfl (S := []) rfl (Nat.le_of_eq rfl) (hb hby at_48) (pc' := 51) rfl (by decide) (by decide) (fun T39 v39 L39 X39 hQ39 => ?_)
  obtain ⟨rfl, N39q, K39, V39⟩ := hQ39
  have N40 := Fr.app N35 N39q
  have f41 := f36.keep K39
  have z42 : n0 ≤ T39.heap.size := Nat.le_trans z37 K39.1
  have o39 := own_lohi hi24 hi29
  obtain ⟨lo39, hlo39⟩ : ∃ z, z = own_lo hi24 hi29 := ⟨_, rfl⟩
  obtain ⟨hi39, hhi39⟩ : ∃ z, z = own_hi hi24 hi29 := ⟨_, rfl⟩
  rw [← hlo39, ← hhi39] at V39 o39
  have f43 : Arv Z T39.heap a1 _ .long (4 : Int32) [(.long lo34), (.long lo39), (.long hi34), (.long hi39)] (.long (0 : Int64)) := V39
  refine OwnK.aload X39 hx (hb hby at_51) (pc' := 53) rfl (v := (.ref a1)) rfl rfl ?_
  refine OwnK.iconst X39 hx (hb hby at_53) (pc' := 54) rfl (v := (1 : Int32)) (by decide) ?_
  refine OwnK.iconst X39 hx (hb hby at_54) (pc' := 55) rfl (v := (2 : Int32)) (by decide) ?_
  refine OwnK.callS_ X39 hx hZ hown (y := (⟨"com/example/ledgerwire/ledgerwire/store/EntriesRecordsPinLaw", "cs", "([JII)V"⟩ : MethodName)) (hw _ (List.mem_of_getElem? (i := 1) rfl)) (hw _ (List.mem_of_getElem? (i := 2) rfl)) (hw _ (List.mem_of_getElem? (i := 3) rfl)) (hw _ (List.mem_of_getElem? (i := 4) rfl)) (by decide) (own_met1 l Z a0 hw T39.heap n0 z42 a1 (1 : Int32) (2 : Int32) _ _ 1 2 lo39 hi34  ge_a1 f43 (by decide) (by decide) (by decide) (by decide) rfl rfl rfl ) (by decide) (W := 0) (by decide) rfl (by rw [hml]; rfl) own_pd_6 (argsL := [(.ref a1), (.int (1 : Int32)), (.int (2 : Int32))]) rfl (S := []) rfl (Nat.le_of_eq rfl) (hb hby at_55) (pc' := 58) rfl (by decide) (by decide) (fun T44 v44 L44 X44 hQ44 => ?_)
  obtain ⟨rfl, N44q, K44, V44⟩ := hQ44
  have N45 := Fr.app N40 N44q
  have f46 := f41.keep K44
  have z47 : n0 ≤ T44.heap.size := Nat.le_trans z42 K44.1
  have o44 := own_lohi lo39 hi34
  obtain ⟨lo44, hlo44⟩ : ∃ z, z = own_lo lo39 hi34 := ⟨_, rfl⟩
  obtain ⟨hi44, hhi44⟩ : ∃ z, z = own_hi lo39 hi34 := ⟨_, rfl⟩
  rw [← hlo44, ← hhi44] at V44 o44
  have f48 : Arv Z T44.heap a1 _ .long (4 : Int32) [(.long lo34), (.long lo44), (.long hi44), (.long hi39)] (.long (0 : Int64)) := V44
  have hs : lo34.toInt ≤ lo44.toInt ∧ lo44.toInt ≤ hi44.toInt ∧ hi44.toInt ≤ hi39.toInt := by omega
  have J103 : ∀ (T1 : State) (L1 : List Loc) (h1 : Heap) (w0 w1 w2 w3 : Int64), Stand p l e room_1 s m #[(.long p0), (.long p1), (.long p2), (.long p3), (.int p4), (.int p5)] below meth c T1 L1 1 4 → T1.heap = h1 → Fr n0 L1 → n0 ≤ h1.size → Arv Z h1 a1 k1 .long (4 : Int32) [(.long w0), (.long w1), (.long w2), (.long w3)] (.long (0 : Int64)) → Exa Z h1 a1 "[J" → (w0.toInt ≤ w1.toInt ∧ w1.toInt ≤ w2.toInt ∧ w2.toInt ≤ w3.toInt) → OwnK.Go p.tables e below (OwnK.PQ s (fun (v : Option Value) (_ : Heap) (L : List Loc) => v = some (.int (1 : Int32)) ∧ Fr n0 L) 6 23) T1 (mkF m 103 #[.val (.long p0), .second, .val (.long p1), .second, .val (.long p2), .second, .val (.long p3), .second, .val (.int p4), .val (.int p5), .val (.ref a1), .unset, .unset, .unset, .unset, .unset] []) := by
    intro T1 L1 h1 w0 w1 w2 w3 X1 el1 N1 z1 V1 Q1 hsw
    refine OwnK.iload X1 hx (hb hby at_103) (pc' := 105) rfl (v := p5) rfl ?_
    refine OwnK.bipush X1 hx (hb hby at_105) (pc' := 107) rfl (v := (7 : Int32)) (by decide) ?_
    refine OwnK.iand X1 hx (hb hby at_107) (pc' := 108) rfl ?_
    refine OwnK.iconst X1 hx (hb hby at_108) (pc' := 109) rfl (v := (5 : Int32)) (by decide) ?_
    refine OwnK.irem X1 hx (hb hby at_109) (pc' := 110) rfl (by decide) ?_
    refine OwnK.istoreG X1 hx (hb hby at_110) (pc' := 112) rfl (Ls' := fun u => #[.val (.long p0), .second, .val (.long p1), .second, .val (.long p2), .second, .val (.long p3), .second, .val (.int p4), .val (.int p5), .val (.ref a1), .val (.int u), .unset, .unset, .unset, .unset]) (fun u => rfl) (fun u49 (hu49 : u49 = ((p5 &&& (7 : Int32)) % (5 : Int32))) => ?_)
    have m5 := own_len5 p5
    rw [← hu49] at m5
    rcases m5 with rfl | rfl | rfl | rfl | rfl
    · refine OwnK.iconst X1 hx (hb hby at_112) (pc' := 113) rfl (v := (4 : Int32)) (by decide) ?_
      refine OwnK.newP_ X1 hx hZ (hw _ (List.mem_of_getElem? (i := 5) rfl)) el1 (hb hby at_113) (pc' := 115) rfl (n := (4 : Int32)) (by decide) (cap := 4) (by decide) (by decide) (by decide) (by decide) (ad := "[I") (by decide) (fun T50 h50 a50 k50 X50 e50 g50 E50 V50 Q50 => ?_)
      have q51 : a1 ≠ a50 := Nat.ne_of_lt (Nat.lt_of_lt_of_le V1.lt (Nat.le_of_eq g50.symm))
      have ge_a50 : n0 ≤ a50 := Nat.le_trans z1 (Nat.le_of_eq g50.symm)
      have z52 : n0 ≤ h50.size := Nat.le_trans z1 E50.1
      have f53 := V1.ext E50
      have f54 := Q1.ext E50
      have f55 : Arv Z h50 a50 k50 .int (4 : Int32) [(.int (0 : Int32)), (.int (0 : Int32)), (.int (0 : Int32)), (.int (0 : Int32))] (.int (0 : Int32)) := V50.pad (pad_rep [] (.int (0 : Int32)) 4)
      refine OwnK.dup X50 hx (hb hby at_115) (pc' := 116) rfl rfl ?_
      refine OwnK.iconst X50 hx (hb hby at_116) (pc' := 117) rfl (v := (0 : Int32)) (by decide) ?_
      refine OwnK.iconst X50 hx (hb hby at_117) (pc' := 118) rfl (v := (0 : Int32)) (by decide) ?_
      refine OwnK.iastore X50 hx hZ e50 f55 (i := 0) (by decide) (by first | decide | omega) (Nat.le_of_ble_eq_true rfl) (hb hby at_118) (pc' := 119) rfl (fun T56 h56 X56 e56 W56 V56 => ?_)
      have f57 := f53.other W56 q51
      have f58 := f54.wr W56
      have f59 := Q50.wr W56
      have f60 : Arv Z h56 a50 _ .int (4 : Int32) [(.int (0 : Int32)), (.int (0 : Int32)), (.int (0 : Int32)), (.int (0 : Int32))] (.int (0 : Int32)) := V56
      have N61 := Fr.snoc X56 N1 ge_a50
      have z62 : n0 ≤ h56.size := Nat.le_trans z52 (Keep.of_wr W56).1
      refine OwnK.dup X56 hx (hb hby at_119) (pc' := 120) rfl rfl ?_
      refine OwnK.iconst X56 hx (hb hby at_120) (pc' := 121) rfl (v := (1 : Int32)) (by decide) ?_
      refine OwnK.iconst X56 hx (hb hby at_121) (pc' := 122) rfl (v := (1 : Int32)) (by decide) ?_
      refine OwnK.iastore X56 hx hZ e56 f60 (i := 1) (by decide) (by first | decide | omega) (Nat.le_of_ble_eq_true rfl) (hb hby at_122) (pc' := 123) rfl (fun T63 h63 X63 e63 W63 V63 => ?_)
      have f64 := f57.other W63 q51
      have f65 := f58.wr W63
      have f66 := f59.wr W63
      have f67 : Arv Z h63 a50 _ .int (4 : Int32) [(.int (0 : Int32)), (.int (1 : Int32)), (.int (0 : Int32)), (.int (0 : Int32))] (.int (0 : Int32)) := V63
      have N68 := Fr.snoc X63 N61 ge_a50
      have z69 : n0 ≤ h63.size := Nat.le_trans z62 (Keep.of_wr W63).1
      refine OwnK.dup X63 hx (hb hby at_123) (pc' := 124) rfl rfl ?_
      refine OwnK.iconst X63 hx (hb hby at_124) (pc' := 125) rfl (v := (2 : Int32)) (by decide) ?_
      refine OwnK.iconst X63 hx (hb hby at_125) (pc' := 126) rfl (v := (2 : Int32)) (by decide) ?_
      refine OwnK.iastore X63 hx hZ e63 f67 (i := 2) (by decide) (by first | decide | omega) (Nat.le_of_ble_eq_true rfl) (hb hby at_126) (pc' := 127) rfl (fun T70 h70 X70 e70 W70 V70 => ?_)
      have f71 := f64.other W70 q51
      have f72 := f65.wr W70
      have f73 := f66.wr W70
      have f74 : Arv Z h70 a50 _ .int (4 : Int32) [(.int (0 : Int32)), (.int (1 : Int32)), (.int (2 : Int32)), (.int (0 : Int32))] (.int (0 : Int32)) := V70
      have N75 := Fr.snoc X70 N68 ge_a50
      have z76 : n0 ≤ h70.size := Nat.le_trans z69 (Keep.of_wr W70).1
      refine OwnK.dup X70 hx (hb hby at_127) (pc' := 128) rfl rfl ?_
      refine OwnK.iconst X70 hx (hb hby at_128) (pc' := 129) rfl (v := (3 : Int32)) (by decide) ?_
      refine OwnK.iconst X70 hx (hb hby at_129) (pc' := 130) rfl (v := (3 : Int32)) (by decide) ?_
      refine OwnK.iastore X70 hx hZ e70 f74 (i := 3) (by decide) (by first | decide | omega) (Nat.le_of_ble_eq_true rfl) (hb hby at_130) (pc' := 131) rfl (fun T77 h77 X77 e77 W77 V77 => ?_)
      have f78 := f71.other W77 q51
      have f79 := f72.wr W77
      have f80 := f73.wr W77
      have f81 : Arv Z h77 a50 _ .int (4 : Int32) [(.int (0 : Int32)), (.int (1 : Int32)), (.int (2 : Int32)), (.int (3 : Int32))] (.int (0 : Int32)) := V77
      have N82 := Fr.snoc X77 N75 ge_a50
      have z83 : n0 ≤ h77.size := Nat.le_trans z76 (Keep.of_wr W77).1
      refine OwnK.astore X77 hx (hb hby at_131) (pc' := 133) rfl rfl (Ls' := #[.val (.long p0), .second, .val (.long p1), .second, .val (.long p2), .second, .val (.long p3), .second, .val (.int p4), .val (.int p5), .val (.ref a1), .val (.int (0 : Int32)), .val (.ref a50), .unset, .unset, .unset]) rfl ?_
      refine OwnK.iconst X77 hx (hb hby at_133) (pc' := 134) rfl (v := (4 : Int32)) (by decide) ?_
      refine OwnK.newP_ X77 hx hZ (hw _ (List.mem_of_getElem? (i := 0) rfl)) e77 (hb hby at_134) (pc' := 136) rfl (n := (4 : Int32)) (by decide) (cap := 4) (by decide) (by decide) (by decide) (by decide) (ad := "[J") (by decide) (fun T84 h84 a84 k84 X84 e84 g84 E84 V84 Q84 => ?_)
      have q85 : a1 ≠ a84 := Nat.ne_of_lt (Nat.lt_of_lt_of_le f78.lt (Nat.le_of_eq g84.symm))
      have q86 : a50 ≠ a84 := Nat.ne_of_lt (Nat.lt_of_lt_of_le f81.lt (Nat.le_of_eq g84.symm))
      have ge_a84 : n0 ≤ a84 := Nat.le_trans z83 (Nat.le_of_eq g84.symm)
      have z87 : n0 ≤ h84.size := Nat.le_trans z83 E84.1
      have f88 := f78.ext E84
      have f89 := f79.ext E84
      have f90 := f81.ext E84
      have f91 := f80.ext E84
      have f92 : Arv Z h84 a84 k84 .long (4 : Int32) [(.long (0 : Int64)), (.long (0 : Int64)), (.long (0 : Int64)), (.long (0 : Int64))] (.long (0 : Int64)) := V84.pad (pad_rep [] (.long (0 : Int64)) 4)
      refine OwnK.dup X84 hx (hb hby at_136) (pc' := 137) rfl rfl ?_
      refine OwnK.iconst X84 hx (hb hby at_137) (pc' := 138) rfl (v := (0 : Int32)) (by decide) ?_
      refine OwnK.aload X84 hx (hb hby at_138) (pc' := 140) rfl (v := (.ref a1)) rfl rfl ?_
      refine OwnK.iconst X84 hx (hb hby at_140) (pc' := 141) rfl (v := (0 : Int32)) (by decide) ?_
      refine OwnK.laload X84 hx hZ e84 f88 (by decide) (by first | decide | omega) (v := (.long w0)) rfl (hb hby at_141) (pc' := 142) rfl ?_
      refine OwnK.lastore X84 hx hZ e84 f92 (i := 0) (by decide) (by first | decide | omega) (Nat.le_of_ble_eq_true rfl) (hb hby at_142) (pc' := 143) rfl (fun T93 h93 X93 e93 W93 V93 => ?_)
      have f94 := f88.other W93 q85
      have f95 := f89.wr W93
      have f96 := f90.other W93 q86
      have f97 := f91.wr W93
      have f98 := Q84.wr W93
      have f99 : Arv Z h93 a84 _ .long (4 : Int32) [(.long w0), (.long (0 : Int64)), (.long (0 : Int64)), (.long (0 : Int64))] (.long (0 : Int64)) := V93
      have N100 := Fr.snoc X93 N82 ge_a84
      have z101 : n0 ≤ h93.size := Nat.le_trans z87 (Keep.of_wr W93).1
      refine OwnK.dup X93 hx (hb hby at_143) (pc' := 144) rfl rfl ?_
      refine OwnK.iconst X93 hx (hb hby at_144) (pc' := 145) rfl (v := (1 : Int32)) (by decide) ?_
      refine OwnK.aload X93 hx (hb hby at_145) (pc' := 147) rfl (v := (.ref a1)) rfl rfl ?_
      refine OwnK.iconst X93 hx (hb hby at_147) (pc' := 148) rfl (v := (1 : Int32)) (by decide) ?_
      refine OwnK.laload X93 hx hZ e93 f94 (by decide) (by first | decide | omega) (v := (.long w1)) rfl (hb hby at_148) (pc' := 149) rfl ?_
      refine OwnK.lastore X93 hx hZ e93 f99 (i := 1) (by decide) (by first | decide | omega) (Nat.le_of_ble_eq_true rfl) (hb hby at_149) (pc' := 150) rfl (fun T102 h102 X102 e102 W102 V102 => ?_)
      have f103 := f94.other W102 q85
      have f104 := f95.wr W102
      have f105 := f96.other W102 q86
      have f106 := f97.wr W102
      have f107 := f98.wr W102
      have f108 : Arv Z h102 a84 _ .long (4 : Int32) [(.long w0), (.long w1), (.long (0 : Int64)), (.long (0 : Int64))] (.long (0 : Int64)) := V102
      have N109 := Fr.snoc X102 N100 ge_a84
      have z110 : n0 ≤ h102.size := Nat.le_trans z101 (Keep.of_wr W102).1
      refine OwnK.dup X102 hx (hb hby at_150) (pc' := 151) rfl rfl ?_
      refine OwnK.iconst X102 hx (hb hby at_151) (pc' := 152) rfl (v := (2 : Int32)) (by decide) ?_
      refine OwnK.aload X102 hx (hb hby at_152) (pc' := 154) rfl (v := (.ref a1)) rfl rfl ?_
      refine OwnK.iconst X102 hx (hb hby at_154) (pc' := 155) rfl (v := (2 : Int32)) (by decide) ?_
      refine OwnK.laload X102 hx hZ e102 f103 (by decide) (by first | decide | omega) (v := (.long w2)) rfl (hb hby at_155) (pc' := 156) rfl ?_
      refine OwnK.lastore X102 hx hZ e102 f108 (i := 2) (by decide) (by first | decide | omega) (Nat.le_of_ble_eq_true rfl) (hb hby at_156) (pc' := 157) rfl (fun T111 h111 X111 e111 W111 V111 => ?_)
      have f112 := f103.other W111 q85
      have f113 := f104.wr W111
      have f114 := f105.other W111 q86
      have f115 := f106.wr W111
      have f116 := f107.wr W111
      have f117 : Arv Z h111 a84 _ .long (4 : Int32) [(.long w0), (.long w1), (.long w2), (.long (0 : Int64))] (.long (0 : Int64)) := V111
      have N118 := Fr.snoc X111 N109 ge_a84
      have z119 : n0 ≤ h111.size := Nat.le_trans z110 (Keep.of_wr W111).1
      refine OwnK.dup X111 hx (hb hby at_157) (pc' := 158) rfl rfl ?_
      refine OwnK.iconst X111 hx (hb hby at_158) (pc' := 159) rfl (v := (3 : Int32)) (by decide) ?_
      refine OwnK.aload X111 hx (hb hby at_159) (pc' := 161) rfl (v := (.ref a1)) rfl rfl ?_
      refine OwnK.iconst X111 hx (hb hby at_161) (pc' := 162) rfl (v := (3 : Int32)) (by decide) ?_
      refine OwnK.laload X111 hx hZ e111 f112 (by decide) (by first | decide | omega) (v := (.long w3)) rfl (hb hby at_162) (pc' := 163) rfl ?_
      refine OwnK.lastore X111 hx hZ e111 f117 (i := 3) (by decide) (by first | decide | omega) (Nat.le_of_ble_eq_true rfl) (hb hby at_163) (pc' := 164) rfl (fun T120 h120 X120 e120 W120 V120 => ?_)
      have f121 := f112.other W120 q85
      have f122 := f113.wr W120
      have f123 := f114.other W120 q86
      have f124 := f115.wr W120
      have f125 := f116.wr W120
      have f126 : Arv Z h120 a84 _ .long (4 : Int32) [(.long w0), (.long w1), (.long w2), (.long w3)] (.long (0 : Int64)) := V120
      have N127 := Fr.snoc X120 N118 ge_a84
      have z128 : n0 ≤ h120.size := Nat.le_trans z119 (Keep.of_wr W120).1
      refine OwnK.astore X120 hx (hb hby at_164) (pc' := 166) rfl rfl (Ls' := #[.val (.long p0), .second, .val (.long p1), .second, .val (.long p2), .second, .val (.long p3), .second, .val (.int p4), .val (.int p5), .val (.ref a1), .val (.int (0 : Int32)), .val (.ref a50), .val (.ref a84), .unset, .unset]) rfl ?_
      refine OwnK.new_ X120 hx hZ hown (hw _ (List.mem_of_getElem? (i := 6) rfl)) (hw _ (List.mem_of_getElem? (i := 7) rfl)) (hw _ (List.mem_of_getElem? (i := 8) rfl)) e120 (hb hby at_166) (pc' := 169) rfl (by decide) (by decide) (fun T129 h129 a129 X129 e129 g129 E129 A129 D129 => ?_)
      have q130 : a1 ≠ a129 := Nat.ne_of_lt (Nat.lt_of_lt_of_le f121.lt (Nat.le_of_eq g129.symm))
      have q131 : a50 ≠ a129 := Nat.ne_of_lt (Nat.lt_of_lt_of_le f123.lt (Nat.le_of_eq g129.symm))
      have q132 : a84 ≠ a129 := Nat.ne_of_lt (Nat.lt_of_lt_of_le f126.lt (Nat.le_of_eq g129.symm))
      have ge_a129 : n0 ≤ a129 := Nat.le_trans z128 (Nat.le_of_eq g129.symm)
      have z133 : n0 ≤ h129.size := Nat.le_trans z128 E129.1
      have f134 := f121.ext E129
      have f135 := f122.ext E129
      have f136 := f123.ext E129
      have f137 := f124.ext E129
      have f138 := f126.ext E129
      have f139 := f125.ext E129
      have f140 : Fld Z h129 a129 "com/example/ledgerwire/ledgerwire/store/Entries" "seqs" "[J" .null := D129 (Or.inr (hw _ (List.mem_of_getElem? (i := 16) rfl))) (ty := (.array .long)) (by decide)
      have f141 : Fld Z h129 a129 "com/example/ledgerwire/ledgerwire/store/Entries" "parts" "[I" .null := D129 (Or.inr (hw _ (List.mem_of_getElem? (i := 18) rfl))) (ty := (.array .int)) (by decide)
      have f142 : Fld Z h129 a129 "com/example/ledgerwire/ledgerwire/store/Entries" "size" "I" (.int (0 : Int32)) := D129 (Or.inr (hw _ (List.mem_of_getElem? (i := 20) rfl))) (ty := .int) (by decide)
      refine OwnK.dup X129 hx (hb hby at_169) (pc' := 170) rfl rfl ?_
      refine OwnK.aload X129 hx (hb hby at_170) (pc' := 172) rfl (v := (.ref a84)) rfl rfl ?_
      refine OwnK.aload X129 hx (hb hby at_172) (pc' := 174) rfl (v := (.ref a50)) rfl rfl ?_
      refine OwnK.iload X129 hx (hb hby at_174) (pc' := 176) rfl (v := (0 : Int32)) rfl ?_
      refine OwnK.callI_ X129 hx hZ hown (y := (⟨"com/example/ledgerwire/ledgerwire/store/Entries", "<init>", "([J[II)V"⟩ : MethodName)) (a := a129) rfl (hw _ (List.mem_of_getElem? (i := 9) rfl)) (hw _ (List.mem_of_getElem? (i := 10) rfl)) (hw _ (List.mem_of_getElem? (i := 8) rfl)) (hw _ (List.mem_of_getElem? (i := 11) rfl)) rfl (by decide) (own_met2 l Z a0 hw h129 n0 z133 a129 a84 a50 (0 : Int32)   ge_a129 f140 f141 f142 A129 ) (by decide) (W := 1) (by decide) e129 (by rw [hml]; rfl) own_pd_9 (argsL := [(.ref a84), (.ref a50), (.int (0 : Int32))]) rfl (S := [(.ref a129)]) rfl (Nat.le_of_eq rfl) (hb hby at_176) (pc' := 179) rfl (by decide) (by decide) (fun T143 v143 L143 X143 hQ143 => ?_)
      obtain ⟨rfl, N143q, K143, E143q, Fs143, Fz143⟩ := hQ143
      have N144 := Fr.app N127 N143q
      have f145 := f134.keep K143 (ninS q130 nin0)
      have f146 := f135.keep K143
      have f147 := f136.keep K143 (ninS q131 nin0)
      have f148 := f137.keep K143
      have f149 := f138.keep K143 (ninS q132 nin0)
      have f150 := f139.keep K143
      have f151 := A129.keep K143
      have z152 : n0 ≤ T143.heap.size := Nat.le_trans z133 K143.1
      refine OwnK.callV_ X143 hx hZ hown (y := (⟨"com/example/ledgerwire/ledgerwire/store/Entries", "records", "()[J"⟩ : MethodName)) (z := (⟨"com/example/ledgerwire/ledgerwire/store/Entries", "records", "()[J"⟩ : MethodName)) (a := a129) (hw _ (List.mem_of_getElem? (i := 21) rfl)) (hw _ (List.mem_of_getElem? (i := 22) rfl)) (notFace_of_selects (args := #[]) (mvT hZ (hw _ (List.mem_of_getElem? (i := 24) rfl)))) (hw _ (List.mem_of_getElem? (i := 24) rfl)) (hw _ (List.mem_of_getElem? (i := 23) rfl)) (hw _ (List.mem_of_getElem? (i := 25) rfl)) (hw _ (List.mem_of_getElem? (i := 8) rfl)) (by decide) E143q (own_rec0 l Z a0 hw T143.heap n0 z152 a129 a84 _ w0 w1 w2 w3   Fs143 Fz143 f149 ) (by decide) (W := 0) (by decide) rfl (by rw [hml]; rfl) own_pd_2 (argsL := []) rfl (S := []) rfl (Nat.le_of_eq rfl) (hb hby at_179) (pc' := 182) rfl (by decide) (by decide) (fun T153 v153 L153 X153 hQ153 => ?_)
      obtain ⟨r153, kr153, rfl, N153q, K153, hr153, V153⟩ := hQ153
      have N154 := Fr.app N144 N153q
      have q155 : a1 ≠ r153 := Nat.ne_of_lt (Nat.lt_of_lt_of_le f145.lt hr153)
      have q156 : a129 ≠ r153 := Nat.ne_of_lt (Nat.lt_of_lt_of_le E143q.lt hr153)
      have q157 : a50 ≠ r153 := Nat.ne_of_lt (Nat.lt_of_lt_of_le f147.lt hr153)
      have q158 : a84 ≠ r153 := Nat.ne_of_lt (Nat.lt_of_lt_of_le f149.lt hr153)
      have ge_r153 : n0 ≤ r153 := Nat.le_trans z152 hr153
      have f159 := f145.keep K153 nin0
      have f160 := f146.keep K153
      have f161 := f147.keep K153 nin0
      have f162 := f148.keep K153
      have f163 := f149.keep K153 nin0
      have f164 := f150.keep K153
      have f165 := E143q.keep K153
      have f166 := Fs143.keep K153 nin0
      have f167 := Fz143.keep K153 nin0
      have z168 : n0 ≤ T153.heap.size := Nat.le_trans z152 K153.1
      refine OwnK.astore X153 hx (hb hby at_182) (pc' := 184) rfl rfl (Ls' := #[.val (.long p0), .second, .val (.long p1), .second, .val (.long p2), .second, .val (.long p3), .second, .val (.int p4), .val (.int p5), .val (.ref a1), .val (.int (0 : Int32)), .val (.ref a50), .val (.ref a84), .val (.ref r153), .unset]) rfl ?_
      refine OwnK.aload X153 hx (hb hby at_184) (pc' := 186) rfl (v := (.ref r153)) rfl rfl ?_
      refine OwnK.ifnonnull_ref X153 hx (hb hby at_186) (by decide) (pcT := 191) (by decide) (pc' := 189) rfl ?_
      refine OwnK.iconst X153 hx (hb hby at_191) (pc' := 192) rfl (v := (0 : Int32)) (by decide) ?_
      refine OwnK.istore X153 hx (hb hby at_192) (pc' := 194) rfl (Ls' := #[.val (.long p0), .second, .val (.long p1), .second, .val (.long p2), .second, .val (.long p3), .second, .val (.int p4), .val (.int p5), .val (.ref a1), .val (.int (0 : Int32)), .val (.ref a50), .val (.ref a84), .val (.ref r153), .val (.int (0 : Int32))]) rfl ?_
      refine OwnK.iload X153 hx (hb hby at_194) (pc' := 196) rfl (v := (0 : Int32)) rfl ?_
      refine OwnK.if_le X153 hx (hb hby at_196) (by decide) (pcT := 202) (by decide) (pc' := 199) rfl (fun hc196 => ?_) (fun (hc196 : 0 < 0) => absurd hc196 (by decide))
      refine OwnK.iload X153 hx (hb hby at_202) (pc' := 204) rfl (v := (0 : Int32)) rfl ?_
      refine OwnK.iconst X153 hx (hb hby at_204) (pc' := 205) rfl (v := (1 : Int32)) (by decide) ?_
      refine OwnK.icmp_le X153 hx (hb hby at_205) (by decide) (pcT := 223) (by decide) (pc' := 208) rfl (fun hc205 => ?_) (fun (hc205 : 1 < 0) => absurd hc205 (by decide))
      refine OwnK.iload X153 hx (hb hby at_223) (pc' := 225) rfl (v := (0 : Int32)) rfl ?_
      refine OwnK.iconst X153 hx (hb hby at_225) (pc' := 226) rfl (v := (2 : Int32)) (by decide) ?_
      refine OwnK.icmp_le X153 hx (hb hby at_226) (by decide) (pcT := 244) (by decide) (pc' := 229) rfl (fun hc226 => ?_) (fun (hc226 : 2 < 0) => absurd hc226 (by decide))
      refine OwnK.iload X153 hx (hb hby at_244) (pc' := 246) rfl (v := (0 : Int32)) rfl ?_
      refine OwnK.iconst X153 hx (hb hby at_246) (pc' := 247) rfl (v := (3 : Int32)) (by decide) ?_
      refine OwnK.icmp_le X153 hx (hb hby at_247) (by decide) (pcT := 265) (by decide) (pc' := 250) rfl (fun hc247 => ?_) (fun (hc247 : 3 < 0) => absurd hc247 (by decide))
      have hdd : own_dd [] = [] := by rfl
      have f169 := V153
      rw [hdd] at f169
      have f170 : Arv Z T153.heap r153 _ .long (0 : Int32) [] (.long (0 : Int64)) := f169
      refine OwnK.aload X153 hx (hb hby at_265) (pc' := 267) rfl (v := (.ref r153)) rfl rfl ?_
      refine OwnK.arrlen X153 hx hZ rfl f170 (hb hby at_267) (pc' := 268) rfl ?_
      refine OwnK.iload X153 hx (hb hby at_268) (pc' := 270) rfl (v := (0 : Int32)) rfl ?_
      refine OwnK.icmp_eq X153 hx (hb hby at_270) (by decide) (pcT := 275) (by decide) (pc' := 273) rfl (fun hc270 => ?_) (fun (hc270 : ¬ 0 = 0) => absurd hc270 (by decide))
      refine OwnK.iload X153 hx (hb hby at_275) (pc' := 277) rfl (v := (0 : Int32)) rfl ?_
      refine OwnK.iconst X153 hx (hb hby at_277) (pc' := 278) rfl (v := (1 : Int32)) (by decide) ?_
      refine OwnK.icmp_le X153 hx (hb hby at_278) (by decide) (pcT := 295) (by decide) (pc' := 281) rfl (fun hc278 => ?_) (fun (hc278 : 1 < 0) => absurd hc278 (by decide))
      refine OwnK.iload X153 hx (hb hby at_295) (pc' := 297) rfl (v := (0 : Int32)) rfl ?_
      refine OwnK.iconst X153 hx (hb hby at_297) (pc' := 298) rfl (v := (2 : Int32)) (by decide) ?_
      refine OwnK.icmp_le X153 hx (hb hby at_298) (by decide) (pcT := 315) (by decide) (pc' := 301) rfl (fun hc298 => ?_) (fun (hc298 : 2 < 0) => absurd hc298 (by decide))
      refine OwnK.iload X153 hx (hb hby at_315) (pc' := 317) rfl (v := (0 : Int32)) rfl ?_
      refine OwnK.iconst X153 hx (hb hby at_317) (pc' := 318) rfl (v := (3 : Int32)) (by decide) ?_
      refine OwnK.icmp_le X153 hx (hb hby at_318) (by decide) (pcT := 335) (by decide) (pc' := 321) rfl (fun hc318 => ?_) (fun (hc318 : 3 < 0) => absurd hc318 (by decide))
      refine OwnK.iload X153 hx (hb hby at_335) (pc' := 337) rfl (v := (0 : Int32)) rfl ?_
      refine OwnK.if_le X153 hx (hb hby at_337) (by decide) (pcT := 356) (by decide) (pc' := 340) rfl (fun hc337 => ?_) (fun (hc337 : 0 < 0) => absurd hc337 (by decide))
      refine OwnK.iload X153 hx (hb hby at_356) (pc' := 358) rfl (v := (0 : Int32)) rfl ?_
      refine OwnK.iconst X153 hx (hb hby at_358) (pc' := 359) rfl (v := (1 : Int32)) (by decide) ?_
      refine OwnK.icmp_le X153 hx (hb hby at_359) (by decide) (pcT := 378) (by decide) (pc' := 362) rfl (fun hc359 => ?_) (fun (hc359 : 1 < 0) => absurd hc359 (by decide))
      refine OwnK.iload X153 hx (hb hby at_378) (pc' := 380) rfl (v := (0 : Int32)) rfl ?_
      refine OwnK.iconst X153 hx (hb hby at_380) (pc' := 381) rfl (v := (2 : Int32)) (by decide) ?_
      refine OwnK.icmp_le X153 hx (hb hby at_381) (by decide) (pcT := 400) (by decide) (pc' := 384) rfl (fun hc381 => ?_) (fun (hc381 : 2 < 0) => absurd hc381 (by decide))
      refine OwnK.iload X153 hx (hb hby at_400) (pc' := 402) rfl (v := (0 : Int32)) rfl ?_
      refine OwnK.iconst X153 hx (hb hby at_402) (pc' := 403) rfl (v := (3 : Int32)) (by decide) ?_
      refine OwnK.icmp_le X153 hx (hb hby at_403) (by decide) (pcT := 422) (by decide) (pc' := 406) rfl (fun hc403 => ?_) (fun (hc403 : 3 < 0) => absurd hc403 (by decide))
      refine OwnK.iload X153 hx (hb hby at_422) (pc' := 424) rfl (v := (0 : Int32)) rfl ?_
      refine OwnK.if_le X153 hx (hb hby at_424) (by decide) (pcT := 441) (by decide) (pc' := 427) rfl (fun hc424 => ?_) (fun (hc424 : 0 < 0) => absurd hc424 (by decide))
      refine OwnK.iload X153 hx (hb hby at_441) (pc' := 443) rfl (v := (0 : Int32)) rfl ?_
      refine OwnK.iconst X153 hx (hb hby at_443) (pc' := 444) rfl (v := (1 : Int32)) (by decide) ?_
      refine OwnK.icmp_le X153 hx (hb hby at_444) (by decide) (pcT := 461) (by decide) (pc' := 447) rfl (fun hc444 => ?_) (fun (hc444 : 1 < 0) => absurd hc444 (by decide))
      refine OwnK.iload X153 hx (hb hby at_461) (pc' := 463) rfl (v := (0 : Int32)) rfl ?_
      refine OwnK.iconst X153 hx (hb hby at_463) (pc' := 464) rfl (v := (2 : Int32)) (by decide) ?_
      refine OwnK.icmp_le X153 hx (hb hby at_464) (by decide) (pcT := 481) (by decide) (pc' := 467) rfl (fun hc464 => ?_) (fun (hc464 : 2 < 0) => absurd hc464 (by decide))
      refine OwnK.iload X153 hx (hb hby at_481) (pc' := 483) rfl (v := (0 : Int32)) rfl ?_
      refine OwnK.iconst X153 hx (hb hby at_483) (pc' := 484) rfl (v := (3 : Int32)) (by decide) ?_
      refine OwnK.icmp_le X153 hx (hb hby at_484) (by decide) (pcT := 501) (by decide) (pc' := 487) rfl (fun hc484 => ?_) (fun (hc484 : 3 < 0) => absurd hc484 (by decide))
      refine OwnK.iconst X153 hx (hb hby at_501) (pc' := 502) rfl (v := (1 : Int32)) (by decide) ?_
      refine OwnK.retN_ X153 hx hret (by simp) hlk (hb hby at_502) (by decide) (by decide) ?_
      exact ⟨rfl, N154⟩
    · refine OwnK.iconst X1 hx (hb hby at_112) (pc' := 113) rfl (v := (4 : Int32)) (by decide) ?_
      refine OwnK.newP_ X1 hx hZ (hw _ (List.mem_of_getElem? (i := 5) rfl)) el1 (hb hby at_113) (pc' := 115) rfl (n := (4 : Int32)) (by decide) (cap := 4) (by decide) (by decide) (by decide) (by decide) (ad := "[I") (by decide) (fun T171 h171 a171 k171 X171 e171 g171 E171 V171 Q171 => ?_)
      have q172 : a1 ≠ a171 := Nat.ne_of_lt (Nat.lt_of_lt_of_le V1.lt (Nat.le_of_eq g171.symm))
      have ge_a171 : n0 ≤ a171 := Nat.le_trans z1 (Nat.le_of_eq g171.symm)
      have z173 : n0 ≤ h171.size := Nat.le_trans z1 E171.1
      have f174 := V1.ext E171
      have f175 := Q1.ext E171
      have f176 : Arv Z h171 a171 k171 .int (4 : Int32) [(.int (0 : Int32)), (.int (0 : Int32)), (.int (0 : Int32)), (.int (0 : Int32))] (.int (0 : Int32)) := V171.pad (pad_rep [] (.int (0 : Int32)) 4)
      refine OwnK.dup X171 hx (hb hby at_115) (pc' := 116) rfl rfl ?_
      refine OwnK.iconst X171 hx (hb hby at_116) (pc' := 117) rfl (v := (0 : Int32)) (by decide) ?_
      refine OwnK.iconst X171 hx (hb hby at_117) (pc' := 118) rfl (v := (0 : Int32)) (by decide) ?_
      refine OwnK.iastore X171 hx hZ e171 f176 (i := 0) (by decide) (by first | decide | omega) (Nat.le_of_ble_eq_true rfl) (hb hby at_118) (pc' := 119) rfl (fun T177 h177 X177 e177 W177 V177 => ?_)
      have f178 := f174.other W177 q172
      have f179 := f175.wr W177
      have f180 := Q171.wr W177
      have f181 : Arv Z h177 a171 _ .int (4 : Int32) [(.int (0 : Int32)), (.int (0 : Int32)), (.int (0 : Int32)), (.int (0 : Int32))] (.int (0 : Int32)) := V177
      have N182 := Fr.snoc X177 N1 ge_a171
      have z183 : n0 ≤ h177.size := Nat.le_trans z173 (Keep.of_wr W177).1
      refine OwnK.dup X177 hx (hb hby at_119) (pc' := 120) rfl rfl ?_
      refine OwnK.iconst X177 hx (hb hby at_120) (pc' := 121) rfl (v := (1 : Int32)) (by decide) ?_
      refine OwnK.iconst X177 hx (hb hby at_121) (pc' := 122) rfl (v := (1 : Int32)) (by decide) ?_
      refine OwnK.iastore X177 hx hZ e177 f181 (i := 1) (by decide) (by first | decide | omega) (Nat.le_of_ble_eq_true rfl) (hb hby at_122) (pc' := 123) rfl (fun T184 h184 X184 e184 W184 V184 => ?_)
      have f185 := f178.other W184 q172
      have f186 := f179.wr W184
      have f187 := f180.wr W184
      have f188 : Arv Z h184 a171 _ .int (4 : Int32) [(.int (0 : Int32)), (.int (1 : Int32)), (.int (0 : Int32)), (.int (0 : Int32))] (.int (0 : Int32)) := V184
      have N189 := Fr.snoc X184 N182 ge_a171
      have z190 : n0 ≤ h184.size := Nat.le_trans z183 (Keep.of_wr W184).1
      refine OwnK.dup X184 hx (hb hby at_123) (pc' := 124) rfl rfl ?_
      refine OwnK.iconst X184 hx (hb hby at_124) (pc' := 125) rfl (v := (2 : Int32)) (by decide) ?_
      refine OwnK.iconst X184 hx (hb hby at_125) (pc' := 126) rfl (v := (2 : Int32)) (by decide) ?_
      refine OwnK.iastore X184 hx hZ e184 f188 (i := 2) (by decide) (by first | decide | omega) (Nat.le_of_ble_eq_true rfl) (hb hby at_126) (pc' := 127) rfl (fun T191 h191 X191 e191 W191 V191 => ?_)
      have f192 := f185.other W191 q172
      have f193 := f186.wr W191
      have f194 := f187.wr W191
      have f195 : Arv Z h191 a171 _ .int (4 : Int32) [(.int (0 : Int32)), (.int (1 : Int32)), (.int (2 : Int32)), (.int (0 : Int32))] (.int (0 : Int32)) := V191
      have N196 := Fr.snoc X191 N189 ge_a171
      have z197 : n0 ≤ h191.size := Nat.le_trans z190 (Keep.of_wr W191).1
      refine OwnK.dup X191 hx (hb hby at_127) (pc' := 128) rfl rfl ?_
      refine OwnK.iconst X191 hx (hb hby at_128) (pc' := 129) rfl (v := (3 : Int32)) (by decide) ?_
      refine OwnK.iconst X191 hx (hb hby at_129) (pc' := 130) rfl (v := (3 : Int32)) (by decide) ?_
      refine OwnK.iastore X191 hx hZ e191 f195 (i := 3) (by decide) (by first | decide | omega) (Nat.le_of_ble_eq_true rfl) (hb hby at_130) (pc' := 131) rfl (fun T198 h198 X198 e198 W198 V198 => ?_)
      have f199 := f192.other W198 q172
      have f200 := f193.wr W198
      have f201 := f194.wr W198
      have f202 : Arv Z h198 a171 _ .int (4 : Int32) [(.int (0 : Int32)), (.int (1 : Int32)), (.int (2 : Int32)), (.int (3 : Int32))] (.int (0 : Int32)) := V198
      have N203 := Fr.snoc X198 N196 ge_a171
      have z204 : n0 ≤ h198.size := Nat.le_trans z197 (Keep.of_wr W198).1
      refine OwnK.astore X198 hx (hb hby at_131) (pc' := 133) rfl rfl (Ls' := #[.val (.long p0), .second, .val (.long p1), .second, .val (.long p2), .second, .val (.long p3), .second, .val (.int p4), .val (.int p5), .val (.ref a1), .val (.int (1 : Int32)), .val (.ref a171), .unset, .unset, .unset]) rfl ?_
      refine OwnK.iconst X198 hx (hb hby at_133) (pc' := 134) rfl (v := (4 : Int32)) (by decide) ?_
      refine OwnK.newP_ X198 hx hZ (hw _ (List.mem_of_getElem? (i := 0) rfl)) e198 (hb hby at_134) (pc' := 136) rfl (n := (4 : Int32)) (by decide) (cap := 4) (by decide) (by decide) (by decide) (by decide) (ad := "[J") (by decide) (fun T205 h205 a205 k205 X205 e205 g205 E205 V205 Q205 => ?_)
      have q206 : a1 ≠ a205 := Nat.ne_of_lt (Nat.lt_of_lt_of_le f199.lt (Nat.le_of_eq g205.symm))
      have q207 : a171 ≠ a205 := Nat.ne_of_lt (Nat.lt_of_lt_of_le f202.lt (Nat.le_of_eq g205.symm))
      have ge_a205 : n0 ≤ a205 := Nat.le_trans z204 (Nat.le_of_eq g205.symm)
      have z208 : n0 ≤ h205.size := Nat.le_trans z204 E205.1
      have f209 := f199.ext E205
      have f210 := f200.ext E205
      have f211 := f202.ext E205
      have f212 := f201.ext E205
      have f213 : Arv Z h205 a205 k205 .long (4 : Int32) [(.long (0 : Int64)), (.long (0 : Int64)), (.long (0 : Int64)), (.long (0 : Int64))] (.long (0 : Int64)) := V205.pad (pad_rep [] (.long (0 : Int64)) 4)
      refine OwnK.dup X205 hx (hb hby at_136) (pc' := 137) rfl rfl ?_
      refine OwnK.iconst X205 hx (hb hby at_137) (pc' := 138) rfl (v := (0 : Int32)) (by decide) ?_
      refine OwnK.aload X205 hx (hb hby at_138) (pc' := 140) rfl (v := (.ref a1)) rfl rfl ?_
      refine OwnK.iconst X205 hx (hb hby at_140) (pc' := 141) rfl (v := (0 : Int32)) (by decide) ?_
      refine OwnK.laload X205 hx hZ e205 f209 (by decide) (by first | decide | omega) (v := (.long w0)) rfl (hb hby at_141) (pc' := 142) rfl ?_
      refine OwnK.lastore X205 hx hZ e205 f213 (i := 0) (by decide) (by first | decide | omega) (Nat.le_of_ble_eq_true rfl) (hb hby at_142) (pc' := 143) rfl (fun T214 h214 X214 e214 W214 V214 => ?_)
      have f215 := f209.other W214 q206
      have f216 := f210.wr W214
      have f217 := f211.other W214 q207
      have f218 := f212.wr W214
      have f219 := Q205.wr W214
      have f220 : Arv Z h214 a205 _ .long (4 : Int32) [(.long w0), (.long (0 : Int64)), (.long (0 : Int64)), (.long (0 : Int64))] (.long (0 : Int64)) := V214
      have N221 := Fr.snoc X214 N203 ge_a205
      have z222 : n0 ≤ h214.size := Nat.le_trans z208 (Keep.of_wr W214).1
      refine OwnK.dup X214 hx (hb hby at_143) (pc' := 144) rfl rfl ?_
      refine OwnK.iconst X214 hx (hb hby at_144) (pc' := 145) rfl (v := (1 : Int32)) (by decide) ?_
      refine OwnK.aload X214 hx (hb hby at_145) (pc' := 147) rfl (v := (.ref a1)) rfl rfl ?_
      refine OwnK.iconst X214 hx (hb hby at_147) (pc' := 148) rfl (v := (1 : Int32)) (by decide) ?_
      refine OwnK.laload X214 hx hZ e214 f215 (by decide) (by first | decide | omega) (v := (.long w1)) rfl (hb hby at_148) (pc' := 149) rfl ?_
      refine OwnK.lastore X214 hx hZ e214 f220 (i := 1) (by decide) (by first | decide | omega) (Nat.le_of_ble_eq_true rfl) (hb hby at_149) (pc' := 150) rfl (fun T223 h223 X223 e223 W223 V223 => ?_)
      have f224 := f215.other W223 q206
      have f225 := f216.wr W223
      have f226 := f217.other W223 q207
      have f227 := f218.wr W223
      have f228 := f219.wr W223
      have f229 : Arv Z h223 a205 _ .long (4 : Int32) [(.long w0), (.long w1), (.long (0 : Int64)), (.long (0 : Int64))] (.long (0 : Int64)) := V223
      have N230 := Fr.snoc X223 N221 ge_a205
      have z231 : n0 ≤ h223.size := Nat.le_trans z222 (Keep.of_wr W223).1
      refine OwnK.dup X223 hx (hb hby at_150) (pc' := 151) rfl rfl ?_
      refine OwnK.iconst X223 hx (hb hby at_151) (pc' := 152) rfl (v := (2 : Int32)) (by decide) ?_
      refine OwnK.aload X223 hx (hb hby at_152) (pc' := 154) rfl (v := (.ref a1)) rfl rfl ?_
      refine OwnK.iconst X223 hx (hb hby at_154) (pc' := 155) rfl (v := (2 : Int32)) (by decide) ?_
      refine OwnK.laload X223 hx hZ e223 f224 (by decide) (by first | decide | omega) (v := (.long w2)) rfl (hb hby at_155) (pc' := 156) rfl ?_
      refine OwnK.lastore X223 hx hZ e223 f229 (i := 2) (by decide) (by first | decide | omega) (Nat.le_of_ble_eq_true rfl) (hb hby at_156) (pc' := 157) rfl (fun T232 h232 X232 e232 W232 V232 => ?_)
      have f233 := f224.other W232 q206
      have f234 := f225.wr W232
      have f235 := f226.other W232 q207
      have f236 := f227.wr W232
      have f237 := f228.wr W232
      have f238 : Arv Z h232 a205 _ .long (4 : Int32) [(.long w0), (.long w1), (.long w2), (.long (0 : Int64))] (.long (0 : Int64)) := V232
      have N239 := Fr.snoc X232 N230 ge_a205
      have z240 : n0 ≤ h232.size := Nat.le_trans z231 (Keep.of_wr W232).1
      refine OwnK.dup X232 hx (hb hby at_157) (pc' := 158) rfl rfl ?_
      refine OwnK.iconst X232 hx (hb hby at_158) (pc' := 159) rfl (v := (3 : Int32)) (by decide) ?_
      refine OwnK.aload X232 hx (hb hby at_159) (pc' := 161) rfl (v := (.ref a1)) rfl rfl ?_
      refine OwnK.iconst X232 hx (hb hby at_161) (pc' := 162) rfl (v := (3 : Int32)) (by decide) ?_
      refine OwnK.laload X232 hx hZ e232 f233 (by decide) (by first | decide | omega) (v := (.long w3)) rfl (hb hby at_162) (pc' := 163) rfl ?_
      refine OwnK.lastore X232 hx hZ e232 f238 (i := 3) (by decide) (by first | decide | omega) (Nat.le_of_ble_eq_true rfl) (hb hby at_163) (pc' := 164) rfl (fun T241 h241 X241 e241 W241 V241 => ?_)
      have f242 := f233.other W241 q206
      have f243 := f234.wr W241
      have f244 := f235.other W241 q207
      have f245 := f236.wr W241
      have f246 := f237.wr W241
      have f247 : Arv Z h241 a205 _ .long (4 : Int32) [(.long w0), (.long w1), (.long w2), (.long w3)] (.long (0 : Int64)) := V241
      have N248 := Fr.snoc X241 N239 ge_a205
      have z249 : n0 ≤ h241.size := Nat.le_trans z240 (Keep.of_wr W241).1
      refine OwnK.astore X241 hx (hb hby at_164) (pc' := 166) rfl rfl (Ls' := #[.val (.long p0), .second, .val (.long p1), .second, .val (.long p2), .second, .val (.long p3), .second, .val (.int p4), .val (.int p5), .val (.ref a1), .val (.int (1 : Int32)), .val (.ref a171), .val (.ref a205), .unset, .unset]) rfl ?_
      refine OwnK.new_ X241 hx hZ hown (hw _ (List.mem_of_getElem? (i := 6) rfl)) (hw _ (List.mem_of_getElem? (i := 7) rfl)) (hw _ (List.mem_of_getElem? (i := 8) rfl)) e241 (hb hby at_166) (pc' := 169) rfl (by decide) (by decide) (fun T250 h250 a250 X250 e250 g250 E250 A250 D250 => ?_)
      have q251 : a1 ≠ a250 := Nat.ne_of_lt (Nat.lt_of_lt_of_le f242.lt (Nat.le_of_eq g250.symm))
      have q252 : a171 ≠ a250 := Nat.ne_of_lt (Nat.lt_of_lt_of_le f244.lt (Nat.le_of_eq g250.symm))
      have q253 : a205 ≠ a250 := Nat.ne_of_lt (Nat.lt_of_lt_of_le f247.lt (Nat.le_of_eq g250.symm))
      have ge_a250 : n0 ≤ a250 := Nat.le_trans z249 (Nat.le_of_eq g250.symm)
      have z254 : n0 ≤ h250.size := Nat.le_trans z249 E250.1
      have f255 := f242.ext E250
      have f256 := f243.ext E250
      have f257 := f244.ext E250
      have f258 := f245.ext E250
      have f259 := f247.ext E250
      have f260 := f246.ext E250
      have f261 : Fld Z h250 a250 "com/example/ledgerwire/ledgerwire/store/Entries" "seqs" "[J" .null := D250 (Or.inr (hw _ (List.mem_of_getElem? (i := 16) rfl))) (ty := (.array .long)) (by decide)
      have f262 : Fld Z h250 a250 "com/example/ledgerwire/ledgerwire/store/Entries" "parts" "[I" .null := D250 (Or.inr (hw _ (List.mem_of_getElem? (i := 18) rfl))) (ty := (.array .int)) (by decide)
      have f263 : Fld Z h250 a250 "com/example/ledgerwire/ledgerwire/store/Entries" "size" "I" (.int (0 : Int32)) := D250 (Or.inr (hw _ (List.mem_of_getElem? (i := 20) rfl))) (ty := .int) (by decide)
      refine OwnK.dup X250 hx (hb hby at_169) (pc' := 170) rfl rfl ?_
      refine OwnK.aload X250 hx (hb hby at_170) (pc' := 172) rfl (v := (.ref a205)) rfl rfl ?_
      refine OwnK.aload X250 hx (hb hby at_172) (pc' := 174) rfl (v := (.ref a171)) rfl rfl ?_
      refine OwnK.iload X250 hx (hb hby at_174) (pc' := 176) rfl (v := (1 : Int32)) rfl ?_
      refine OwnK.callI_ X250 hx hZ hown (y := (⟨"com/example/ledgerwire/ledgerwire/store/Entries", "<init>", "([J[II)V"⟩ : MethodName)) (a := a250) rfl (hw _ (List.mem_of_getElem? (i := 9) rfl)) (hw _ (List.mem_of_getElem? (i := 10) rfl)) (hw _ (List.mem_of_getElem? (i := 8) rfl)) (hw _ (List.mem_of_getElem? (i := 11) rfl)) rfl (by decide) (own_met2 l Z a0 hw h250 n0 z254 a250 a205 a171 (1 : Int32)   ge_a250 f261 f262 f263 A250 ) (by decide) (W := 1) (by decide) e250 (by rw [hml]; rfl) own_pd_9 (argsL := [(.ref a205), (.ref a171), (.int (1 : Int32))]) rfl (S := [(.ref a250)]) rfl (Nat.le_of_eq rfl) (hb hby at_176) (pc' := 179) rfl (by decide) (by decide) (fun T264 v264 L264 X264 hQ264 => ?_)
      obtain ⟨rfl, N264q, K264, E264q, Fs264, Fz264⟩ := hQ264
      have N265 := Fr.app N248 N264q
      have f266 := f255.keep K264 (ninS q251 nin0)
      have f267 := f256.keep K264
      have f268 := f257.keep K264 (ninS q252 nin0)
      have f269 := f258.keep K264
      have f270 := f259.keep K264 (ninS q253 nin0)
      have f271 := f260.keep K264
      have f272 := A250.keep K264
      have z273 : n0 ≤ T264.heap.size := Nat.le_trans z254 K264.1
      refine OwnK.callV_ X264 hx hZ hown (y := (⟨"com/example/ledgerwire/ledgerwire/store/Entries", "records", "()[J"⟩ : MethodName)) (z := (⟨"com/example/ledgerwire/ledgerwire/store/Entries", "records", "()[J"⟩ : MethodName)) (a := a250) (hw _ (List.mem_of_getElem? (i := 21) rfl)) (hw _ (List.mem_of_getElem? (i := 22) rfl)) (notFace_of_selects (args := #[]) (mvT hZ (hw _ (List.mem_of_getElem? (i := 24) rfl)))) (hw _ (List.mem_of_getElem? (i := 24) rfl)) (hw _ (List.mem_of_getElem? (i := 23) rfl)) (hw _ (List.mem_of_getElem? (i := 25) rfl)) (hw _ (List.mem_of_getElem? (i := 8) rfl)) (by decide) E264q (own_rec1 l Z a0 hw T264.heap n0 z273 a250 a205 _ w0 w1 w2 w3   Fs264 Fz264 f270 ) (by decide) (W := 0) (by decide) rfl (by rw [hml]; rfl) own_pd_2 (argsL := []) rfl (S := []) rfl (Nat.le_of_eq rfl) (hb hby at_179) (pc' := 182) rfl (by decide) (by decide) (fun T274 v274 L274 X274 hQ274 => ?_)
      obtain ⟨r274, kr274, rfl, N274q, K274, hr274, V274⟩ := hQ274
      have N275 := Fr.app N265 N274q
      have q276 : a1 ≠ r274 := Nat.ne_of_lt (Nat.lt_of_lt_of_le f266.lt hr274)
      have q277 : a171 ≠ r274 := Nat.ne_of_lt (Nat.lt_of_lt_of_le f268.lt hr274)
      have q278 : a205 ≠ r274 := Nat.ne_of_lt (Nat.lt_of_lt_of_le f270.lt hr274)
      have q279 : a250 ≠ r274 := Nat.ne_of_lt (Nat.lt_of_lt_of_le E264q.lt hr274)
      have ge_r274 : n0 ≤ r274 := Nat.le_trans z273 hr274
      have f280 := f266.keep K274 nin0
      have f281 := f267.keep K274
      have f282 := f268.keep K274 nin0
      have f283 := f269.keep K274
      have f284 := f270.keep K274 nin0
      have f285 := f271.keep K274
      have f286 := E264q.keep K274
      have f287 := Fs264.keep K274 nin0
      have f288 := Fz264.keep K274 nin0
      have z289 : n0 ≤ T274.heap.size := Nat.le_trans z273 K274.1
      refine OwnK.astore X274 hx (hb hby at_182) (pc' := 184) rfl rfl (Ls' := #[.val (.long p0), .second, .val (.long p1), .second, .val (.long p2), .second, .val (.long p3), .second, .val (.int p4), .val (.int p5), .val (.ref a1), .val (.int (1 : Int32)), .val (.ref a171), .val (.ref a205), .val (.ref r274), .unset]) rfl ?_
      refine OwnK.aload X274 hx (hb hby at_184) (pc' := 186) rfl (v := (.ref r274)) rfl rfl ?_
      refine OwnK.ifnonnull_ref X274 hx (hb hby at_186) (by decide) (pcT := 191) (by decide) (pc' := 189) rfl ?_
      refine OwnK.iconst X274 hx (hb hby at_191) (pc' := 192) rfl (v := (0 : Int32)) (by decide) ?_
      refine OwnK.istore X274 hx (hb hby at_192) (pc' := 194) rfl (Ls' := #[.val (.long p0), .second, .val (.long p1), .second, .val (.long p2), .second, .val (.long p3), .second, .val (.int p4), .val (.int p5), .val (.ref a1), .val (.int (1 : Int32)), .val (.ref a171), .val (.ref a205), .val (.ref r274), .val (.int (0 : Int32))]) rfl ?_
      refine OwnK.iload X274 hx (hb hby at_194) (pc' := 196) rfl (v := (1 : Int32)) rfl ?_
      refine OwnK.if_le X274 hx (hb hby at_196) (by decide) (pcT := 202) (by decide) (pc' := 199) rfl (fun (hc196 : 1 ≤ 0) => absurd hc196 (by decide)) (fun hc196 => ?_)
      refine OwnK.iconst X274 hx (hb hby at_199) (pc' := 200) rfl (v := (1 : Int32)) (by decide) ?_
      refine OwnK.istore X274 hx (hb hby at_200) (pc' := 202) rfl (Ls' := #[.val (.long p0), .second, .val (.long p1), .second, .val (.long p2), .second, .val (.long p3), .second, .val (.int p4), .val (.int p5), .val (.ref a1), .val (.int (1 : Int32)), .val (.ref a171), .val (.ref a205), .val (.ref r274), .val (.int (1 : Int32))]) rfl ?_
      refine OwnK.iload X274 hx (hb hby at_202) (pc' := 204) rfl (v := (1 : Int32)) rfl ?_
      refine OwnK.iconst X274 hx (hb hby at_204) (pc' := 205) rfl (v := (1 : Int32)) (by decide) ?_
      refine OwnK.icmp_le X274 hx (hb hby at_205) (by decide) (pcT := 223) (by decide) (pc' := 208) rfl (fun hc205 => ?_) (fun (hc205 : 1 < 1) => absurd hc205 (by decide))
      refine OwnK.iload X274 hx (hb hby at_223) (pc' := 225) rfl (v := (1 : Int32)) rfl ?_
      refine OwnK.iconst X274 hx (hb hby at_225) (pc' := 226) rfl (v := (2 : Int32)) (by decide) ?_
      refine OwnK.icmp_le X274 hx (hb hby at_226) (by decide) (pcT := 244) (by decide) (pc' := 229) rfl (fun hc226 => ?_) (fun (hc226 : 2 < 1) => absurd hc226 (by decide))
      refine OwnK.iload X274 hx (hb hby at_244) (pc' := 246) rfl (v := (1 : Int32)) rfl ?_
      refine OwnK.iconst X274 hx (hb hby at_246) (pc' := 247) rfl (v := (3 : Int32)) (by decide) ?_
      refine OwnK.icmp_le X274 hx (hb hby at_247) (by decide) (pcT := 265) (by decide) (pc' := 250) rfl (fun hc247 => ?_) (fun (hc247 : 3 < 1) => absurd hc247 (by decide))
      have hdd : own_dd [w0] = [w0] := by show _ :: own_go _ _ = _; rw [own_g0]
      have f290 := V274
      rw [hdd] at f290
      have f291 : Arv Z T274.heap r274 _ .long (1 : Int32) [(.long w0)] (.long (0 : Int64)) := f290
      refine OwnK.aload X274 hx (hb hby at_265) (pc' := 267) rfl (v := (.ref r274)) rfl rfl ?_
      refine OwnK.arrlen X274 hx hZ rfl f291 (hb hby at_267) (pc' := 268) rfl ?_
      refine OwnK.iload X274 hx (hb hby at_268) (pc' := 270) rfl (v := (1 : Int32)) rfl ?_
      refine OwnK.icmp_eq X274 hx (hb hby at_270) (by decide) (pcT := 275) (by decide) (pc' := 273) rfl (fun hc270 => ?_) (fun (hc270 : ¬ 1 = 1) => absurd hc270 (by decide))
      refine OwnK.iload X274 hx (hb hby at_275) (pc' := 277) rfl (v := (1 : Int32)) rfl ?_
      refine OwnK.iconst X274 hx (hb hby at_277) (pc' := 278) rfl (v := (1 : Int32)) (by decide) ?_
      refine OwnK.icmp_le X274 hx (hb hby at_278) (by decide) (pcT := 295) (by decide) (pc' := 281) rfl (fun hc278 => ?_) (fun (hc278 : 1 < 1) => absurd hc278 (by decide))
      refine OwnK.iload X274 hx (hb hby at_295) (pc' := 297) rfl (v := (1 : Int32)) rfl ?_
      refine OwnK.iconst X274 hx (hb hby at_297) (pc' := 298) rfl (v := (2 : Int32)) (by decide) ?_
      refine OwnK.icmp_le X274 hx (hb hby at_298) (by decide) (pcT := 315) (by decide) (pc' := 301) rfl (fun hc298 => ?_) (fun (hc298 : 2 < 1) => absurd hc298 (by decide))
      refine OwnK.iload X274 hx (hb hby at_315) (pc' := 317) rfl (v := (1 : Int32)) rfl ?_
      refine OwnK.iconst X274 hx (hb hby at_317) (pc' := 318) rfl (v := (3 : Int32)) (by decide) ?_
      refine OwnK.icmp_le X274 hx (hb hby at_318) (by decide) (pcT := 335) (by decide) (pc' := 321) rfl (fun hc318 => ?_) (fun (hc318 : 3 < 1) => absurd hc318 (by decide))
      refine OwnK.iload X274 hx (hb hby at_335) (pc' := 337) rfl (v := (1 : Int32)) rfl ?_
      refine OwnK.if_le X274 hx (hb hby at_337) (by decide) (pcT := 356) (by decide) (pc' := 340) rfl (fun (hc337 : 1 ≤ 0) => absurd hc337 (by decide)) (fun hc337 => ?_)
      refine OwnK.aload X274 hx (hb hby at_340) (pc' := 342) rfl (v := (.ref a1)) rfl rfl ?_
      refine OwnK.iload X274 hx (hb hby at_342) (pc' := 344) rfl (v := (1 : Int32)) rfl ?_
      refine OwnK.aload X274 hx (hb hby at_344) (pc' := 346) rfl (v := (.ref r274)) rfl rfl ?_
      refine OwnK.iconst X274 hx (hb hby at_346) (pc' := 347) rfl (v := (0 : Int32)) (by decide) ?_
      refine OwnK.laload X274 hx hZ rfl f291 (by decide) (by first | decide | omega) (v := (.long w0)) rfl (hb hby at_347) (pc' := 348) rfl ?_
      refine OwnK.callS_ X274 hx hZ hown (y := (⟨"com/example/ledgerwire/ledgerwire/store/EntriesRecordsPinLaw", "inS", "([JIJ)Z"⟩ : MethodName)) (hw _ (List.mem_of_getElem? (i := 39) rfl)) (hw _ (List.mem_of_getElem? (i := 40) rfl)) (hw _ (List.mem_of_getElem? (i := 3) rfl)) (hw _ (List.mem_of_getElem? (i := 41) rfl)) (by decide) (own_met6 l Z a0 hw T274.heap a1 (1 : Int32) w0 _ w0 w1 w2 w3 f280 ) (by decide) (W := 0) (by decide) rfl (by rw [hml]; rfl) own_pd_7 (argsL := [(.ref a1), (.int (1 : Int32)), (.long w0)]) rfl (S := []) rfl (Nat.le_of_eq rfl) (hb hby at_348) (pc' := 351) rfl (by decide) (by decide) (fun T292 v292 L292 X292 hQ292 => ?_)
      obtain ⟨rfl, e292, rfl⟩ := hQ292
      have N293 := Fr.app N275 (Fr.nil n0)
      refine OwnK.if_ne X292 hx (hb hby at_351) (by decide) (pcT := 356) (by decide) (pc' := 354) rfl (fun hc351 => ?_) (fun (hc351 : (own_in (1 : Int32).toInt w0.toInt w1.toInt w2.toInt w3.toInt w0.toInt).toInt = 0) => absurd ((congrArg Int32.toInt (own_in1 (by omega) : (own_in (1 : Int32).toInt w0.toInt w1.toInt w2.toInt w3.toInt w0.toInt) = 1)).symm.trans hc351) (by decide))
      refine OwnK.iload X292 hx (hb hby at_356) (pc' := 358) rfl (v := (1 : Int32)) rfl ?_
      refine OwnK.iconst X292 hx (hb hby at_358) (pc' := 359) rfl (v := (1 : Int32)) (by decide) ?_
      refine OwnK.icmp_le X292 hx (hb hby at_359) (by decide) (pcT := 378) (by decide) (pc' := 362) rfl (fun hc359 => ?_) (fun (hc359 : 1 < 1) => absurd hc359 (by decide))
      refine OwnK.iload X292 hx (hb hby at_378) (pc' := 380) rfl (v := (1 : Int32)) rfl ?_
      refine OwnK.iconst X292 hx (hb hby at_380) (pc' := 381) rfl (v := (2 : Int32)) (by decide) ?_
      refine OwnK.icmp_le X292 hx (hb hby at_381) (by decide) (pcT := 400) (by decide) (pc' := 384) rfl (fun hc381 => ?_) (fun (hc381 : 2 < 1) => absurd hc381 (by decide))
      refine OwnK.iload X292 hx (hb hby at_400) (pc' := 402) rfl (v := (1 : Int32)) rfl ?_
      refine OwnK.iconst X292 hx (hb hby at_402) (pc' := 403) rfl (v := (3 : Int32)) (by decide) ?_
      refine OwnK.icmp_le X292 hx (hb hby at_403) (by decide) (pcT := 422) (by decide) (pc' := 406) rfl (fun hc403 => ?_) (fun (hc403 : 3 < 1) => absurd hc403 (by decide))
      refine OwnK.iload X292 hx (hb hby at_422) (pc' := 424) rfl (v := (1 : Int32)) rfl ?_
      refine OwnK.if_le X292 hx (hb hby at_424) (by decide) (pcT := 441) (by decide) (pc' := 427) rfl (fun (hc424 : 1 ≤ 0) => absurd hc424 (by decide)) (fun hc424 => ?_)
      refine OwnK.aload X292 hx (hb hby at_427) (pc' := 429) rfl (v := (.ref r274)) rfl rfl ?_
      refine OwnK.aload X292 hx (hb hby at_429) (pc' := 431) rfl (v := (.ref a1)) rfl rfl ?_
      refine OwnK.iconst X292 hx (hb hby at_431) (pc' := 432) rfl (v := (0 : Int32)) (by decide) ?_
      refine OwnK.laload X292 hx hZ e292 f280 (by decide) (by first | decide | omega) (v := (.long w0)) rfl (hb hby at_432) (pc' := 433) rfl ?_
      refine OwnK.callS_ X292 hx hZ hown (y := (⟨"com/example/ledgerwire/ledgerwire/store/EntriesRecordsPinLaw", "inR", "([JJ)Z"⟩ : MethodName)) (hw _ (List.mem_of_getElem? (i := 42) rfl)) (hw _ (List.mem_of_getElem? (i := 43) rfl)) (hw _ (List.mem_of_getElem? (i := 3) rfl)) (hw _ (List.mem_of_getElem? (i := 44) rfl)) (by decide) (own_met7 l Z a0 hw T274.heap r274 w0 _ (1 : Int32) w0 (0 : Int64) (0 : Int64) (0 : Int64) (f291.pad (pad_rep [(.long w0)] (.long (0 : Int64)) 3)) ) (by decide) (W := 0) (by decide) e292 (by rw [hml]; rfl) own_pd_8 (argsL := [(.ref r274), (.long w0)]) rfl (S := []) rfl (Nat.le_of_eq rfl) (hb hby at_433) (pc' := 436) rfl (by decide) (by decide) (fun T294 v294 L294 X294 hQ294 => ?_)
      obtain ⟨rfl, e294, rfl⟩ := hQ294
      have N295 := Fr.app N293 (Fr.nil n0)
      refine OwnK.if_ne X294 hx (hb hby at_436) (by decide) (pcT := 441) (by decide) (pc' := 439) rfl (fun hc436 => ?_) (fun (hc436 : (own_in (1 : Int32).toInt w0.toInt (0 : Int64).toInt (0 : Int64).toInt (0 : Int64).toInt w0.toInt).toInt = 0) => absurd ((congrArg Int32.toInt (own_in1 (by omega) : (own_in (1 : Int32).toInt w0.toInt (0 : Int64).toInt (0 : Int64).toInt (0 : Int64).toInt w0.toInt) = 1)).symm.trans hc436) (by decide))
      refine OwnK.iload X294 hx (hb hby at_441) (pc' := 443) rfl (v := (1 : Int32)) rfl ?_
      refine OwnK.iconst X294 hx (hb hby at_443) (pc' := 444) rfl (v := (1 : Int32)) (by decide) ?_
      refine OwnK.icmp_le X294 hx (hb hby at_444) (by decide) (pcT := 461) (by decide) (pc' := 447) rfl (fun hc444 => ?_) (fun (hc444 : 1 < 1) => absurd hc444 (by decide))
      refine OwnK.iload X294 hx (hb hby at_461) (pc' := 463) rfl (v := (1 : Int32)) rfl ?_
      refine OwnK.iconst X294 hx (hb hby at_463) (pc' := 464) rfl (v := (2 : Int32)) (by decide) ?_
      refine OwnK.icmp_le X294 hx (hb hby at_464) (by decide) (pcT := 481) (by decide) (pc' := 467) rfl (fun hc464 => ?_) (fun (hc464 : 2 < 1) => absurd hc464 (by decide))
      refine OwnK.iload X294 hx (hb hby at_481) (pc' := 483) rfl (v := (1 : Int32)) rfl ?_
      refine OwnK.iconst X294 hx (hb hby at_483) (pc' := 484) rfl (v := (3 : Int32)) (by decide) ?_
      refine OwnK.icmp_le X294 hx (hb hby at_484) (by decide) (pcT := 501) (by decide) (pc' := 487) rfl (fun hc484 => ?_) (fun (hc484 : 3 < 1) => absurd hc484 (by decide))
      refine OwnK.iconst X294 hx (hb hby at_501) (pc' := 502) rfl (v := (1 : Int32)) (by decide) ?_
      refine OwnK.retN_ X294 hx hret (by simp) hlk (hb hby at_502) (by decide) (by decide) ?_
      exact ⟨rfl, N295⟩
    · refine OwnK.iconst X1 hx (hb hby at_112) (pc' := 113) rfl (v := (4 : Int32)) (by decide) ?_
      refine OwnK.newP_ X1 hx hZ (hw _ (List.mem_of_getElem? (i := 5) rfl)) el1 (hb hby at_113) (pc' := 115) rfl (n := (4 : Int32)) (by decide) (cap := 4) (by decide) (by decide) (by decide) (by decide) (ad := "[I") (by decide) (fun T296 h296 a296 k296 X296 e296 g296 E296 V296 Q296 => ?_)
      have q297 : a1 ≠ a296 := Nat.ne_of_lt (Nat.lt_of_lt_of_le V1.lt (Nat.le_of_eq g296.symm))
      have ge_a296 : n0 ≤ a296 := Nat.le_trans z1 (Nat.le_of_eq g296.symm)
      have z298 : n0 ≤ h296.size := Nat.le_trans z1 E296.1
      have f299 := V1.ext E296
      have f300 := Q1.ext E296
      have f301 : Arv Z h296 a296 k296 .int (4 : Int32) [(.int (0 : Int32)), (.int (0 : Int32)), (.int (0 : Int32)), (.int (0 : Int32))] (.int (0 : Int32)) := V296.pad (pad_rep [] (.int (0 : Int32)) 4)
      refine OwnK.dup X296 hx (hb hby at_115) (pc' := 116) rfl rfl ?_
      refine OwnK.iconst X296 hx (hb hby at_116) (pc' := 117) rfl (v := (0 : Int32)) (by decide) ?_
      refine OwnK.iconst X296 hx (hb hby at_117) (pc' := 118) rfl (v := (0 : Int32)) (by decide) ?_
      refine OwnK.iastore X296 hx hZ e296 f301 (i := 0) (by decide) (by first | decide | omega) (Nat.le_of_ble_eq_true rfl) (hb hby at_118) (pc' := 119) rfl (fun T302 h302 X302 e302 W302 V302 => ?_)
      have f303 := f299.other W302 q297
      have f304 := f300.wr W302
      have f305 := Q296.wr W302
      have f306 : Arv Z h302 a296 _ .int (4 : Int32) [(.int (0 : Int32)), (.int (0 : Int32)), (.int (0 : Int32)), (.int (0 : Int32))] (.int (0 : Int32)) := V302
      have N307 := Fr.snoc X302 N1 ge_a296
      have z308 : n0 ≤ h302.size := Nat.le_trans z298 (Keep.of_wr W302).1
      refine OwnK.dup X302 hx (hb hby at_119) (pc' := 120) rfl rfl ?_
      refine OwnK.iconst X302 hx (hb hby at_120) (pc' := 121) rfl (v := (1 : Int32)) (by decide) ?_
      refine OwnK.iconst X302 hx (hb hby at_121) (pc' := 122) rfl (v := (1 : Int32)) (by decide) ?_
      refine OwnK.iastore X302 hx hZ e302 f306 (i := 1) (by decide) (by first | decide | omega) (Nat.le_of_ble_eq_true rfl) (hb hby at_122) (pc' := 123) rfl (fun T309 h309 X309 e309 W309 V309 => ?_)
      have f310 := f303.other W309 q297
      have f311 := f304.wr W309
      have f312 := f305.wr W309
      have f313 : Arv Z h309 a296 _ .int (4 : Int32) [(.int (0 : Int32)), (.int (1 : Int32)), (.int (0 : Int32)), (.int (0 : Int32))] (.int (0 : Int32)) := V309
      have N314 := Fr.snoc X309 N307 ge_a296
      have z315 : n0 ≤ h309.size := Nat.le_trans z308 (Keep.of_wr W309).1
      refine OwnK.dup X309 hx (hb hby at_123) (pc' := 124) rfl rfl ?_
      refine OwnK.iconst X309 hx (hb hby at_124) (pc' := 125) rfl (v := (2 : Int32)) (by decide) ?_
      refine OwnK.iconst X309 hx (hb hby at_125) (pc' := 126) rfl (v := (2 : Int32)) (by decide) ?_
      refine OwnK.iastore X309 hx hZ e309 f313 (i := 2) (by decide) (by first | decide | omega) (Nat.le_of_ble_eq_true rfl) (hb hby at_126) (pc' := 127) rfl (fun T316 h316 X316 e316 W316 V316 => ?_)
      have f317 := f310.other W316 q297
      have f318 := f311.wr W316
      have f319 := f312.wr W316
      have f320 : Arv Z h316 a296 _ .int (4 : Int32) [(.int (0 : Int32)), (.int (1 : Int32)), (.int (2 : Int32)), (.int (0 : Int32))] (.int (0 : Int32)) := V316
      have N321 := Fr.snoc X316 N314 ge_a296
      have z322 : n0 ≤ h316.size := Nat.le_trans z315 (Keep.of_wr W316).1
      refine OwnK.dup X316 hx (hb hby at_127) (pc' := 128) rfl rfl ?_
      refine OwnK.iconst X316 hx (hb hby at_128) (pc' := 129) rfl (v := (3 : Int32)) (by decide) ?_
      refine OwnK.iconst X316 hx (hb hby at_129) (pc' := 130) rfl (v := (3 : Int32)) (by decide) ?_
      refine OwnK.iastore X316 hx hZ e316 f320 (i := 3) (by decide) (by first | decide | omega) (Nat.le_of_ble_eq_true rfl) (hb hby at_130) (pc' := 131) rfl (fun T323 h323 X323 e323 W323 V323 => ?_)
      have f324 := f317.other W323 q297
      have f325 := f318.wr W323
      have f326 := f319.wr W323
      have f327 : Arv Z h323 a296 _ .int (4 : Int32) [(.int (0 : Int32)), (.int (1 : Int32)), (.int (2 : Int32)), (.int (3 : Int32))] (.int (0 : Int32)) := V323
      have N328 := Fr.snoc X323 N321 ge_a296
      have z329 : n0 ≤ h323.size := Nat.le_trans z322 (Keep.of_wr W323).1
      refine OwnK.astore X323 hx (hb hby at_131) (pc' := 133) rfl rfl (Ls' := #[.val (.long p0), .second, .val (.long p1), .second, .val (.long p2), .second, .val (.long p3), .second, .val (.int p4), .val (.int p5), .val (.ref a1), .val (.int (2 : Int32)), .val (.ref a296), .unset, .unset, .unset]) rfl ?_
      refine OwnK.iconst X323 hx (hb hby at_133) (pc' := 134) rfl (v := (4 : Int32)) (by decide) ?_
      refine OwnK.newP_ X323 hx hZ (hw _ (List.mem_of_getElem? (i := 0) rfl)) e323 (hb hby at_134) (pc' := 136) rfl (n := (4 : Int32)) (by decide) (cap := 4) (by decide) (by decide) (by decide) (by decide) (ad := "[J") (by decide) (fun T330 h330 a330 k330 X330 e330 g330 E330 V330 Q330 => ?_)
      have q331 : a1 ≠ a330 := Nat.ne_of_lt (Nat.lt_of_lt_of_le f324.lt (Nat.le_of_eq g330.symm))
      have q332 : a296 ≠ a330 := Nat.ne_of_lt (Nat.lt_of_lt_of_le f327.lt (Nat.le_of_eq g330.symm))
      have ge_a330 : n0 ≤ a330 := Nat.le_trans z329 (Nat.le_of_eq g330.symm)
      have z333 : n0 ≤ h330.size := Nat.le_trans z329 E330.1
      have f334 := f324.ext E330
      have f335 := f325.ext E330
      have f336 := f327.ext E330
      have f337 := f326.ext E330
      have f338 : Arv Z h330 a330 k330 .long (4 : Int32) [(.long (0 : Int64)), (.long (0 : Int64)), (.long (0 : Int64)), (.long (0 : Int64))] (.long (0 : Int64)) := V330.pad (pad_rep [] (.long (0 : Int64)) 4)
      refine OwnK.dup X330 hx (hb hby at_136) (pc' := 137) rfl rfl ?_
      refine OwnK.iconst X330 hx (hb hby at_137) (pc' := 138) rfl (v := (0 : Int32)) (by decide) ?_
      refine OwnK.aload X330 hx (hb hby at_138) (pc' := 140) rfl (v := (.ref a1)) rfl rfl ?_
      refine OwnK.iconst X330 hx (hb hby at_140) (pc' := 141) rfl (v := (0 : Int32)) (by decide) ?_
      refine OwnK.laload X330 hx hZ e330 f334 (by decide) (by first | decide | omega) (v := (.long w0)) rfl (hb hby at_141) (pc' := 142) rfl ?_
      refine OwnK.lastore X330 hx hZ e330 f338 (i := 0) (by decide) (by first | decide | omega) (Nat.le_of_ble_eq_true rfl) (hb hby at_142) (pc' := 143) rfl (fun T339 h339 X339 e339 W339 V339 => ?_)
      have f340 := f334.other W339 q331
      have f341 := f335.wr W339
      have f342 := f336.other W339 q332
      have f343 := f337.wr W339
      have f344 := Q330.wr W339
      have f345 : Arv Z h339 a330 _ .long (4 : Int32) [(.long w0), (.long (0 : Int64)), (.long (0 : Int64)), (.long (0 : Int64))] (.long (0 : Int64)) := V339
      have N346 := Fr.snoc X339 N328 ge_a330
      have z347 : n0 ≤ h339.size := Nat.le_trans z333 (Keep.of_wr W339).1
      refine OwnK.dup X339 hx (hb hby at_143) (pc' := 144) rfl rfl ?_
      refine OwnK.iconst X339 hx (hb hby at_144) (pc' := 145) rfl (v := (1 : Int32)) (by decide) ?_
      refine OwnK.aload X339 hx (hb hby at_145) (pc' := 147) rfl (v := (.ref a1)) rfl rfl ?_
      refine OwnK.iconst X339 hx (hb hby at_147) (pc' := 148) rfl (v := (1 : Int32)) (by decide) ?_
      refine OwnK.laload X339 hx hZ e339 f340 (by decide) (by first | decide | omega) (v := (.long w1)) rfl (hb hby at_148) (pc' := 149) rfl ?_
      refine OwnK.lastore X339 hx hZ e339 f345 (i := 1) (by decide) (by first | decide | omega) (Nat.le_of_ble_eq_true rfl) (hb hby at_149) (pc' := 150) rfl (fun T348 h348 X348 e348 W348 V348 => ?_)
      have f349 := f340.other W348 q331
      have f350 := f341.wr W348
      have f351 := f342.other W348 q332
      have f352 := f343.wr W348
      have f353 := f344.wr W348
      have f354 : Arv Z h348 a330 _ .long (4 : Int32) [(.long w0), (.long w1), (.long (0 : Int64)), (.long (0 : Int64))] (.long (0 : Int64)) := V348
      have N355 := Fr.snoc X348 N346 ge_a330
      have z356 : n0 ≤ h348.size := Nat.le_trans z347 (Keep.of_wr W348).1
      refine OwnK.dup X348 hx (hb hby at_150) (pc' := 151) rfl rfl ?_
      refine OwnK.iconst X348 hx (hb hby at_151) (pc' := 152) rfl (v := (2 : Int32)) (by decide) ?_
      refine OwnK.aload X348 hx (hb hby at_152) (pc' := 154) rfl (v := (.ref a1)) rfl rfl ?_
      refine OwnK.iconst X348 hx (hb hby at_154) (pc' := 155) rfl (v := (2 : Int32)) (by decide) ?_
      refine OwnK.laload X348 hx hZ e348 f349 (by decide) (by first | decide | omega) (v := (.long w2)) rfl (hb hby at_155) (pc' := 156) rfl ?_
      refine OwnK.lastore X348 hx hZ e348 f354 (i := 2) (by decide) (by first | decide | omega) (Nat.le_of_ble_eq_true rfl) (hb hby at_156) (pc' := 157) rfl (fun T357 h357 X357 e357 W357 V357 => ?_)
      have f358 := f349.other W357 q331
      have f359 := f350.wr W357
      have f360 := f351.other W357 q332
      have f361 := f352.wr W357
      have f362 := f353.wr W357
      have f363 : Arv Z h357 a330 _ .long (4 : Int32) [(.long w0), (.long w1), (.long w2), (.long (0 : Int64))] (.long (0 : Int64)) := V357
      have N364 := Fr.snoc X357 N355 ge_a330
      have z365 : n0 ≤ h357.size := Nat.le_trans z356 (Keep.of_wr W357).1
      refine OwnK.dup X357 hx (hb hby at_157) (pc' := 158) rfl rfl ?_
      refine OwnK.iconst X357 hx (hb hby at_158) (pc' := 159) rfl (v := (3 : Int32)) (by decide) ?_
      refine OwnK.aload X357 hx (hb hby at_159) (pc' := 161) rfl (v := (.ref a1)) rfl rfl ?_
      refine OwnK.iconst X357 hx (hb hby at_161) (pc' := 162) rfl (v := (3 : Int32)) (by decide) ?_
      refine OwnK.laload X357 hx hZ e357 f358 (by decide) (by first | decide | omega) (v := (.long w3)) rfl (hb hby at_162) (pc' := 163) rfl ?_
      refine OwnK.lastore X357 hx hZ e357 f363 (i := 3) (by decide) (by first | decide | omega) (Nat.le_of_ble_eq_true rfl) (hb hby at_163) (pc' := 164) rfl (fun T366 h366 X366 e366 W366 V366 => ?_)
      have f367 := f358.other W366 q331
      have f368 := f359.wr W366
      have f369 := f360.other W366 q332
      have f370 := f361.wr W366
      have f371 := f362.wr W366
      have f372 : Arv Z h366 a330 _ .long (4 : Int32) [(.long w0), (.long w1), (.long w2), (.long w3)] (.long (0 : Int64)) := V366
      have N373 := Fr.snoc X366 N364 ge_a330
      have z374 : n0 ≤ h366.size := Nat.le_trans z365 (Keep.of_wr W366).1
      refine OwnK.astore X366 hx (hb hby at_164) (pc' := 166) rfl rfl (Ls' := #[.val (.long p0), .second, .val (.long p1), .second, .val (.long p2), .second, .val (.long p3), .second, .val (.int p4), .val (.int p5), .val (.ref a1), .val (.int (2 : Int32)), .val (.ref a296), .val (.ref a330), .unset, .unset]) rfl ?_
      refine OwnK.new_ X366 hx hZ hown (hw _ (List.mem_of_getElem? (i := 6) rfl)) (hw _ (List.mem_of_getElem? (i := 7) rfl)) (hw _ (List.mem_of_getElem? (i := 8) rfl)) e366 (hb hby at_166) (pc' := 169) rfl (by decide) (by decide) (fun T375 h375 a375 X375 e375 g375 E375 A375 D375 => ?_)
      have q376 : a1 ≠ a375 := Nat.ne_of_lt (Nat.lt_of_lt_of_le f367.lt (Nat.le_of_eq g375.symm))
      have q377 : a296 ≠ a375 := Nat.ne_of_lt (Nat.lt_of_lt_of_le f369.lt (Nat.le_of_eq g375.symm))
      have q378 : a330 ≠ a375 := Nat.ne_of_lt (Nat.lt_of_lt_of_le f372.lt (Nat.le_of_eq g375.symm))
      have ge_a375 : n0 ≤ a375 := Nat.le_trans z374 (Nat.le_of_eq g375.symm)
      have z379 : n0 ≤ h375.size := Nat.le_trans z374 E375.1
      have f380 := f367.ext E375
      have f381 := f368.ext E375
      have f382 := f369.ext E375
      have f383 := f370.ext E375
      have f384 := f372.ext E375
      have f385 := f371.ext E375
      have f386 : Fld Z h375 a375 "com/example/ledgerwire/ledgerwire/store/Entries" "seqs" "[J" .null := D375 (Or.inr (hw _ (List.mem_of_getElem? (i := 16) rfl))) (ty := (.array .long)) (by decide)
      have f387 : Fld Z h375 a375 "com/example/ledgerwire/ledgerwire/store/Entries" "parts" "[I" .null := D375 (Or.inr (hw _ (List.mem_of_getElem? (i := 18) rfl))) (ty := (.array .int)) (by decide)
      have f388 : Fld Z h375 a375 "com/example/ledgerwire/ledgerwire/store/Entries" "size" "I" (.int (0 : Int32)) := D375 (Or.inr (hw _ (List.mem_of_getElem? (i := 20) rfl))) (ty := .int) (by decide)
      refine OwnK.dup X375 hx (hb hby at_169) (pc' := 170) rfl rfl ?_
      refine OwnK.aload X375 hx (hb hby at_170) (pc' := 172) rfl (v := (.ref a330)) rfl rfl ?_
      refine OwnK.aload X375 hx (hb hby at_172) (pc' := 174) rfl (v := (.ref a296)) rfl rfl ?_
      refine OwnK.iload X375 hx (hb hby at_174) (pc' := 176) rfl (v := (2 : Int32)) rfl ?_
      refine OwnK.callI_ X375 hx hZ hown (y := (⟨"com/example/ledgerwire/ledgerwire/store/Entries", "<init>", "([J[II)V"⟩ : MethodName)) (a := a375) rfl (hw _ (List.mem_of_getElem? (i := 9) rfl)) (hw _ (List.mem_of_getElem? (i := 10) rfl)) (hw _ (List.mem_of_getElem? (i := 8) rfl)) (hw _ (List.mem_of_getElem? (i := 11) rfl)) rfl (by decide) (own_met2 l Z a0 hw h375 n0 z379 a375 a330 a296 (2 : Int32)   ge_a375 f386 f387 f388 A375 ) (by decide) (W := 1) (by decide) e375 (by rw [hml]; rfl) own_pd_9 (argsL := [(.ref a330), (.ref a296), (.int (2 : Int32))]) rfl (S := [(.ref a375)]) rfl (Nat.le_of_eq rfl) (hb hby at_176) (pc' := 179) rfl (by decide) (by decide) (fun T389 v389 L389 X389 hQ389 => ?_)
      obtain ⟨rfl, N389q, K389, E389q, Fs389, Fz389⟩ := hQ389
      have N390 := Fr.app N373 N389q
      have f391 := f380.keep K389 (ninS q376 nin0)
      have f392 := f381.keep K389
      have f393 := f382.keep K389 (ninS q377 nin0)
      have f394 := f383.keep K389
      have f395 := f384.keep K389 (ninS q378 nin0)
      have f396 := f385.keep K389
      have f397 := A375.keep K389
      have z398 : n0 ≤ T389.heap.size := Nat.le_trans z379 K389.1
      refine OwnK.callV_ X389 hx hZ hown (y := (⟨"com/example/ledgerwire/ledgerwire/store/Entries", "records", "()[J"⟩ : MethodName)) (z := (⟨"com/example/ledgerwire/ledgerwire/store/Entries", "records", "()[J"⟩ : MethodName)) (a := a375) (hw _ (List.mem_of_getElem? (i := 21) rfl)) (hw _ (List.mem_of_getElem? (i := 22) rfl)) (notFace_of_selects (args := #[]) (mvT hZ (hw _ (List.mem_of_getElem? (i := 24) rfl)))) (hw _ (List.mem_of_getElem? (i := 24) rfl)) (hw _ (List.mem_of_getElem? (i := 23) rfl)) (hw _ (List.mem_of_getElem? (i := 25) rfl)) (hw _ (List.mem_of_getElem? (i := 8) rfl)) (by decide) E389q (own_rec2 l Z a0 hw T389.heap n0 z398 a375 a330 _ w0 w1 w2 w3   Fs389 Fz389 f395 ) (by decide) (W := 0) (by decide) rfl (by rw [hml]; rfl) own_pd_2 (argsL := []) rfl (S := []) rfl (Nat.le_of_eq rfl) (hb hby at_179) (pc' := 182) rfl (by decide) (by decide) (fun T399 v399 L399 X399 hQ399 => ?_)
      obtain ⟨r399, kr399, rfl, N399q, K399, hr399, V399⟩ := hQ399
      have N400 := Fr.app N390 N399q
      have q401 : a1 ≠ r399 := Nat.ne_of_lt (Nat.lt_of_lt_of_le f391.lt hr399)
      have q402 : a296 ≠ r399 := Nat.ne_of_lt (Nat.lt_of_lt_of_le f393.lt hr399)
      have q403 : a330 ≠ r399 := Nat.ne_of_lt (Nat.lt_of_lt_of_le f395.lt hr399)
      have q404 : a375 ≠ r399 := Nat.ne_of_lt (Nat.lt_of_lt_of_le E389q.lt hr399)
      have ge_r399 : n0 ≤ r399 := Nat.le_trans z398 hr399
      have f405 := f391.keep K399 nin0
      have f406 := f392.keep K399
      have f407 := f393.keep K399 nin0
      have f408 := f394.keep K399
      have f409 := f395.keep K399 nin0
      have f410 := f396.keep K399
      have f411 := E389q.keep K399
      have f412 := Fs389.keep K399 nin0
      have f413 := Fz389.keep K399 nin0
      have z414 : n0 ≤ T399.heap.size := Nat.le_trans z398 K399.1
      refine OwnK.astore X399 hx (hb hby at_182) (pc' := 184) rfl rfl (Ls' := #[.val (.long p0), .second, .val (.long p1), .second, .val (.long p2), .second, .val (.long p3), .second, .val (.int p4), .val (.int p5), .val (.ref a1), .val (.int (2 : Int32)), .val (.ref a296), .val (.ref a330), .val (.ref r399), .unset]) rfl ?_
      refine OwnK.aload X399 hx (hb hby at_184) (pc' := 186) rfl (v := (.ref r399)) rfl rfl ?_
      refine OwnK.ifnonnull_ref X399 hx (hb hby at_186) (by decide) (pcT := 191) (by decide) (pc' := 189) rfl ?_
      refine OwnK.iconst X399 hx (hb hby at_191) (pc' := 192) rfl (v := (0 : Int32)) (by decide) ?_
      refine OwnK.istore X399 hx (hb hby at_192) (pc' := 194) rfl (Ls' := #[.val (.long p0), .second, .val (.long p1), .second, .val (.long p2), .second, .val (.long p3), .second, .val (.int p4), .val (.int p5), .val (.ref a1), .val (.int (2 : Int32)), .val (.ref a296), .val (.ref a330), .val (.ref r399), .val (.int (0 : Int32))]) rfl ?_
      refine OwnK.iload X399 hx (hb hby at_194) (pc' := 196) rfl (v := (2 : Int32)) rfl ?_
      refine OwnK.if_le X399 hx (hb hby at_196) (by decide) (pcT := 202) (by decide) (pc' := 199) rfl (fun (hc196 : 2 ≤ 0) => absurd hc196 (by decide)) (fun hc196 => ?_)
      refine OwnK.iconst X399 hx (hb hby at_199) (pc' := 200) rfl (v := (1 : Int32)) (by decide) ?_
      refine OwnK.istore X399 hx (hb hby at_200) (pc' := 202) rfl (Ls' := #[.val (.long p0), .second, .val (.long p1), .second, .val (.long p2), .second, .val (.long p3), .second, .val (.int p4), .val (.int p5), .val (.ref a1), .val (.int (2 : Int32)), .val (.ref a296), .val (.ref a330), .val (.ref r399), .val (.int (1 : Int32))]) rfl ?_
      refine OwnK.iload X399 hx (hb hby at_202) (pc' := 204) rfl (v := (2 : Int32)) rfl ?_
      refine OwnK.iconst X399 hx (hb hby at_204) (pc' := 205) rfl (v := (1 : Int32)) (by decide) ?_
      refine OwnK.icmp_le X399 hx (hb hby at_205) (by decide) (pcT := 223) (by decide) (pc' := 208) rfl (fun (hc205 : 2 ≤ 1) => absurd hc205 (by decide)) (fun hc205 => ?_)
      refine OwnK.aload X399 hx (hb hby at_208) (pc' := 210) rfl (v := (.ref a1)) rfl rfl ?_
      refine OwnK.iconst X399 hx (hb hby at_210) (pc' := 211) rfl (v := (1 : Int32)) (by decide) ?_
      refine OwnK.laload X399 hx hZ rfl f405 (by decide) (by first | decide | omega) (v := (.long w1)) rfl (hb hby at_211) (pc' := 212) rfl ?_
      refine OwnK.aload X399 hx (hb hby at_212) (pc' := 214) rfl (v := (.ref a1)) rfl rfl ?_
      refine OwnK.iconst X399 hx (hb hby at_214) (pc' := 215) rfl (v := (0 : Int32)) (by decide) ?_
      refine OwnK.laload X399 hx hZ rfl f405 (by decide) (by first | decide | omega) (v := (.long w0)) rfl (hb hby at_215) (pc' := 216) rfl ?_
      refine OwnK.lcmp_eq X399 hx (hb hby at_216) (pc1 := 217) rfl (hb hby at_217) (by decide) (pcT := 223) (by decide) (pc' := 220) rfl (fun (hc415 : w1.toInt = w0.toInt) => ?_) (fun (hc415 : ¬ w1.toInt = w0.toInt) => ?_)
      · refine OwnK.iload X399 hx (hb hby at_223) (pc' := 225) rfl (v := (2 : Int32)) rfl ?_
        refine OwnK.iconst X399 hx (hb hby at_225) (pc' := 226) rfl (v := (2 : Int32)) (by decide) ?_
        refine OwnK.icmp_le X399 hx (hb hby at_226) (by decide) (pcT := 244) (by decide) (pc' := 229) rfl (fun hc226 => ?_) (fun (hc226 : 2 < 2) => absurd hc226 (by decide))
        refine OwnK.iload X399 hx (hb hby at_244) (pc' := 246) rfl (v := (2 : Int32)) rfl ?_
        refine OwnK.iconst X399 hx (hb hby at_246) (pc' := 247) rfl (v := (3 : Int32)) (by decide) ?_
        refine OwnK.icmp_le X399 hx (hb hby at_247) (by decide) (pcT := 265) (by decide) (pc' := 250) rfl (fun hc247 => ?_) (fun (hc247 : 3 < 2) => absurd hc247 (by decide))
        have hdd : own_dd [w0, w1] = [w0] := by show _ :: own_go _ _ = _; rw [own_ge (by omega), own_g0]
        have f416 := V399
        rw [hdd] at f416
        have f417 : Arv Z T399.heap r399 _ .long (1 : Int32) [(.long w0)] (.long (0 : Int64)) := f416
        refine OwnK.aload X399 hx (hb hby at_265) (pc' := 267) rfl (v := (.ref r399)) rfl rfl ?_
        refine OwnK.arrlen X399 hx hZ rfl f417 (hb hby at_267) (pc' := 268) rfl ?_
        refine OwnK.iload X399 hx (hb hby at_268) (pc' := 270) rfl (v := (1 : Int32)) rfl ?_
        refine OwnK.icmp_eq X399 hx (hb hby at_270) (by decide) (pcT := 275) (by decide) (pc' := 273) rfl (fun hc270 => ?_) (fun (hc270 : ¬ 1 = 1) => absurd hc270 (by decide))
        refine OwnK.iload X399 hx (hb hby at_275) (pc' := 277) rfl (v := (1 : Int32)) rfl ?_
        refine OwnK.iconst X399 hx (hb hby at_277) (pc' := 278) rfl (v := (1 : Int32)) (by decide) ?_
        refine OwnK.icmp_le X399 hx (hb hby at_278) (by decide) (pcT := 295) (by decide) (pc' := 281) rfl (fun hc278 => ?_) (fun (hc278 : 1 < 1) => absurd hc278 (by decide))
        refine OwnK.iload X399 hx (hb hby at_295) (pc' := 297) rfl (v := (1 : Int32)) rfl ?_
        refine OwnK.iconst X399 hx (hb hby at_297) (pc' := 298) rfl (v := (2 : Int32)) (by decide) ?_
        refine OwnK.icmp_le X399 hx (hb hby at_298) (by decide) (pcT := 315) (by decide) (pc' := 301) rfl (fun hc298 => ?_) (fun (hc298 : 2 < 1) => absurd hc298 (by decide))
        refine OwnK.iload X399 hx (hb hby at_315) (pc' := 317) rfl (v := (1 : Int32)) rfl ?_
        refine OwnK.iconst X399 hx (hb hby at_317) (pc' := 318) rfl (v := (3 : Int32)) (by decide) ?_
        refine OwnK.icmp_le X399 hx (hb hby at_318) (by decide) (pcT := 335) (by decide) (pc' := 321) rfl (fun hc318 => ?_) (fun (hc318 : 3 < 1) => absurd hc318 (by decide))
        refine OwnK.iload X399 hx (hb hby at_335) (pc' := 337) rfl (v := (1 : Int32)) rfl ?_
        refine OwnK.if_le X399 hx (hb hby at_337) (by decide) (pcT := 356) (by decide) (pc' := 340) rfl (fun (hc337 : 1 ≤ 0) => absurd hc337 (by decide)) (fun hc337 => ?_)
        refine OwnK.aload X399 hx (hb hby at_340) (pc' := 342) rfl (v := (.ref a1)) rfl rfl ?_
        refine OwnK.iload X399 hx (hb hby at_342) (pc' := 344) rfl (v := (2 : Int32)) rfl ?_
        refine OwnK.aload X399 hx (hb hby at_344) (pc' := 346) rfl (v := (.ref r399)) rfl rfl ?_
        refine OwnK.iconst X399 hx (hb hby at_346) (pc' := 347) rfl (v := (0 : Int32)) (by decide) ?_
        refine OwnK.laload X399 hx hZ rfl f417 (by decide) (by first | decide | omega) (v := (.long w0)) rfl (hb hby at_347) (pc' := 348) rfl ?_
        refine OwnK.callS_ X399 hx hZ hown (y := (⟨"com/example/ledgerwire/ledgerwire/store/EntriesRecordsPinLaw", "inS", "([JIJ)Z"⟩ : MethodName)) (hw _ (List.mem_of_getElem? (i := 39) rfl)) (hw _ (List.mem_of_getElem? (i := 40) rfl)) (hw _ (List.mem_of_getElem? (i := 3) rfl)) (hw _ (List.mem_of_getElem? (i := 41) rfl)) (by decide) (own_met6 l Z a0 hw T399.heap a1 (2 : Int32) w0 _ w0 w1 w2 w3 f405 ) (by decide) (W := 0) (by decide) rfl (by rw [hml]; rfl) own_pd_7 (argsL := [(.ref a1), (.int (2 : Int32)), (.long w0)]) rfl (S := []) rfl (Nat.le_of_eq rfl) (hb hby at_348) (pc' := 351) rfl (by decide) (by decide) (fun T418 v418 L418 X418 hQ418 => ?_)
        obtain ⟨rfl, e418, rfl⟩ := hQ418
        have N419 := Fr.app N400 (Fr.nil n0)
        refine OwnK.if_ne X418 hx (hb hby at_351) (by decide) (pcT := 356) (by decide) (pc' := 354) rfl (fun hc351 => ?_) (fun (hc351 : (own_in (2 : Int32).toInt w0.toInt w1.toInt w2.toInt w3.toInt w0.toInt).toInt = 0) => absurd ((congrArg Int32.toInt (own_in1 (by omega) : (own_in (2 : Int32).toInt w0.toInt w1.toInt w2.toInt w3.toInt w0.toInt) = 1)).symm.trans hc351) (by decide))
        refine OwnK.iload X418 hx (hb hby at_356) (pc' := 358) rfl (v := (1 : Int32)) rfl ?_
        refine OwnK.iconst X418 hx (hb hby at_358) (pc' := 359) rfl (v := (1 : Int32)) (by decide) ?_
        refine OwnK.icmp_le X418 hx (hb hby at_359) (by decide) (pcT := 378) (by decide) (pc' := 362) rfl (fun hc359 => ?_) (fun (hc359 : 1 < 1) => absurd hc359 (by decide))
        refine OwnK.iload X418 hx (hb hby at_378) (pc' := 380) rfl (v := (1 : Int32)) rfl ?_
        refine OwnK.iconst X418 hx (hb hby at_380) (pc' := 381) rfl (v := (2 : Int32)) (by decide) ?_
        refine OwnK.icmp_le X418 hx (hb hby at_381) (by decide) (pcT := 400) (by decide) (pc' := 384) rfl (fun hc381 => ?_) (fun (hc381 : 2 < 1) => absurd hc381 (by decide))
        refine OwnK.iload X418 hx (hb hby at_400) (pc' := 402) rfl (v := (1 : Int32)) rfl ?_
        refine OwnK.iconst X418 hx (hb hby at_402) (pc' := 403) rfl (v := (3 : Int32)) (by decide) ?_
        refine OwnK.icmp_le X418 hx (hb hby at_403) (by decide) (pcT := 422) (by decide) (pc' := 406) rfl (fun hc403 => ?_) (fun (hc403 : 3 < 1) => absurd hc403 (by decide))
        refine OwnK.iload X418 hx (hb hby at_422) (pc' := 424) rfl (v := (2 : Int32)) rfl ?_
        refine OwnK.if_le X418 hx (hb hby at_424) (by decide) (pcT := 441) (by decide) (pc' := 427) rfl (fun (hc424 : 2 ≤ 0) => absurd hc424 (by decide)) (fun hc424 => ?_)
        refine OwnK.aload X418 hx (hb hby at_427) (pc' := 429) rfl (v := (.ref r399)) rfl rfl ?_
        refine OwnK.aload X418 hx (hb hby at_429) (pc' := 431) rfl (v := (.ref a1)) rfl rfl ?_
        refine OwnK.iconst X418 hx (hb hby at_431) (pc' := 432) rfl (v := (0 : Int32)) (by decide) ?_
        refine OwnK.laload X418 hx hZ e418 f405 (by decide) (by first | decide | omega) (v := (.long w0)) rfl (hb hby at_432) (pc' := 433) rfl ?_
        refine OwnK.callS_ X418 hx hZ hown (y := (⟨"com/example/ledgerwire/ledgerwire/store/EntriesRecordsPinLaw", "inR", "([JJ)Z"⟩ : MethodName)) (hw _ (List.mem_of_getElem? (i := 42) rfl)) (hw _ (List.mem_of_getElem? (i := 43) rfl)) (hw _ (List.mem_of_getElem? (i := 3) rfl)) (hw _ (List.mem_of_getElem? (i := 44) rfl)) (by decide) (own_met7 l Z a0 hw T399.heap r399 w0 _ (1 : Int32) w0 (0 : Int64) (0 : Int64) (0 : Int64) (f417.pad (pad_rep [(.long w0)] (.long (0 : Int64)) 3)) ) (by decide) (W := 0) (by decide) e418 (by rw [hml]; rfl) own_pd_8 (argsL := [(.ref r399), (.long w0)]) rfl (S := []) rfl (Nat.le_of_eq rfl) (hb hby at_433) (pc' := 436) rfl (by decide) (by decide) (fun T420 v420 L420 X420 hQ420 => ?_)
        obtain ⟨rfl, e420, rfl⟩ := hQ420
        have N421 := Fr.app N419 (Fr.nil n0)
        refine OwnK.if_ne X420 hx (hb hby at_436) (by decide) (pcT := 441) (by decide) (pc' := 439) rfl (fun hc436 => ?_) (fun (hc436 : (own_in (1 : Int32).toInt w0.toInt (0 : Int64).toInt (0 : Int64).toInt (0 : Int64).toInt w0.toInt).toInt = 0) => absurd ((congrArg Int32.toInt (own_in1 (by omega) : (own_in (1 : Int32).toInt w0.toInt (0 : Int64).toInt (0 : Int64).toInt (0 : Int64).toInt w0.toInt) = 1)).symm.trans hc436) (by decide))
        refine OwnK.iload X420 hx (hb hby at_441) (pc' := 443) rfl (v := (2 : Int32)) rfl ?_
        refine OwnK.iconst X420 hx (hb hby at_443) (pc' := 444) rfl (v := (1 : Int32)) (by decide) ?_
        refine OwnK.icmp_le X420 hx (hb hby at_444) (by decide) (pcT := 461) (by decide) (pc' := 447) rfl (fun (hc444 : 2 ≤ 1) => absurd hc444 (by decide)) (fun hc444 => ?_)
        refine OwnK.aload X420 hx (hb hby at_447) (pc' := 449) rfl (v := (.ref r399)) rfl rfl ?_
        refine OwnK.aload X420 hx (hb hby at_449) (pc' := 451) rfl (v := (.ref a1)) rfl rfl ?_
        refine OwnK.iconst X420 hx (hb hby at_451) (pc' := 452) rfl (v := (1 : Int32)) (by decide) ?_
        refine OwnK.laload X420 hx hZ e420 f405 (by decide) (by first | decide | omega) (v := (.long w1)) rfl (hb hby at_452) (pc' := 453) rfl ?_
        refine OwnK.callS_ X420 hx hZ hown (y := (⟨"com/example/ledgerwire/ledgerwire/store/EntriesRecordsPinLaw", "inR", "([JJ)Z"⟩ : MethodName)) (hw _ (List.mem_of_getElem? (i := 42) rfl)) (hw _ (List.mem_of_getElem? (i := 43) rfl)) (hw _ (List.mem_of_getElem? (i := 3) rfl)) (hw _ (List.mem_of_getElem? (i := 44) rfl)) (by decide) (own_met7 l Z a0 hw T399.heap r399 w1 _ (1 : Int32) w0 (0 : Int64) (0 : Int64) (0 : Int64) (f417.pad (pad_rep [(.long w0)] (.long (0 : Int64)) 3)) ) (by decide) (W := 0) (by decide) e420 (by rw [hml]; rfl) own_pd_8 (argsL := [(.ref r399), (.long w1)]) rfl (S := []) rfl (Nat.le_of_eq rfl) (hb hby at_453) (pc' := 456) rfl (by decide) (by decide) (fun T422 v422 L422 X422 hQ422 => ?_)
        obtain ⟨rfl, e422, rfl⟩ := hQ422
        have N423 := Fr.app N421 (Fr.nil n0)
        refine OwnK.if_ne X422 hx (hb hby at_456) (by decide) (pcT := 461) (by decide) (pc' := 459) rfl (fun hc456 => ?_) (fun (hc456 : (own_in (1 : Int32).toInt w0.toInt (0 : Int64).toInt (0 : Int64).toInt (0 : Int64).toInt w1.toInt).toInt = 0) => absurd ((congrArg Int32.toInt (own_in1 (by omega) : (own_in (1 : Int32).toInt w0.toInt (0 : Int64).toInt (0 : Int64).toInt (0 : Int64).toInt w1.toInt) = 1)).symm.trans hc456) (by decide))
        refine OwnK.iload X422 hx (hb hby at_461) (pc' := 463) rfl (v := (2 : Int32)) rfl ?_
        refine OwnK.iconst X422 hx (hb hby at_463) (pc' := 464) rfl (v := (2 : Int32)) (by decide) ?_
        refine OwnK.icmp_le X422 hx (hb hby at_464) (by decide) (pcT := 481) (by decide) (pc' := 467) rfl (fun hc464 => ?_) (fun (hc464 : 2 < 2) => absurd hc464 (by decide))
        refine OwnK.iload X422 hx (hb hby at_481) (pc' := 483) rfl (v := (2 : Int32)) rfl ?_
        refine OwnK.iconst X422 hx (hb hby at_483) (pc' := 484) rfl (v := (3 : Int32)) (by decide) ?_
        refine OwnK.icmp_le X422 hx (hb hby at_484) (by decide) (pcT := 501) (by decide) (pc' := 487) rfl (fun hc484 => ?_) (fun (hc484 : 3 < 2) => absurd hc484 (by decide))
        refine OwnK.iconst X422 hx (hb hby at_501) (pc' := 502) rfl (v := (1 : Int32)) (by decide) ?_
        refine OwnK.retN_ X422 hx hret (by simp) hlk (hb hby at_502) (by decide) (by decide) ?_
        exact ⟨rfl, N423⟩
      · refine OwnK.iincL X399 hx (hb hby at_220) (pc' := 223) rfl (x := (1 : Int32)) rfl (v := (2 : Int32)) (by decide) (Ls' := #[.val (.long p0), .second, .val (.long p1), .second, .val (.long p2), .second, .val (.long p3), .second, .val (.int p4), .val (.int p5), .val (.ref a1), .val (.int (2 : Int32)), .val (.ref a296), .val (.ref a330), .val (.ref r399), .val (.int (2 : Int32))]) rfl ?_
        refine OwnK.iload X399 hx (hb hby at_223) (pc' := 225) rfl (v := (2 : Int32)) rfl ?_
        refine OwnK.iconst X399 hx (hb hby at_225) (pc' := 226) rfl (v := (2 : Int32)) (by decide) ?_
        refine OwnK.icmp_le X399 hx (hb hby at_226) (by decide) (pcT := 244) (by decide) (pc' := 229) rfl (fun hc226 => ?_) (fun (hc226 : 2 < 2) => absurd hc226 (by decide))
        refine OwnK.iload X399 hx (hb hby at_244) (pc' := 246) rfl (v := (2 : Int32)) rfl ?_
        refine OwnK.iconst X399 hx (hb hby at_246) (pc' := 247) rfl (v := (3 : Int32)) (by decide) ?_
        refine OwnK.icmp_le X399 hx (hb hby at_247) (by decide) (pcT := 265) (by decide) (pc' := 250) rfl (fun hc247 => ?_) (fun (hc247 : 3 < 2) => absurd hc247 (by decide))
        have hdd : own_dd [w0, w1] = [w0, w1] := by show _ :: own_go _ _ = _; rw [own_gn (by omega), own_g0]
        have f424 := V399
        rw [hdd] at f424
        have f425 : Arv Z T399.heap r399 _ .long (2 : Int32) [(.long w0), (.long w1)] (.long (0 : Int64)) := f424
        refine OwnK.aload X399 hx (hb hby at_265) (pc' := 267) rfl (v := (.ref r399)) rfl rfl ?_
        refine OwnK.arrlen X399 hx hZ rfl f425 (hb hby at_267) (pc' := 268) rfl ?_
        refine OwnK.iload X399 hx (hb hby at_268) (pc' := 270) rfl (v := (2 : Int32)) rfl ?_
        refine OwnK.icmp_eq X399 hx (hb hby at_270) (by decide) (pcT := 275) (by decide) (pc' := 273) rfl (fun hc270 => ?_) (fun (hc270 : ¬ 2 = 2) => absurd hc270 (by decide))
        refine OwnK.iload X399 hx (hb hby at_275) (pc' := 277) rfl (v := (2 : Int32)) rfl ?_
        refine OwnK.iconst X399 hx (hb hby at_277) (pc' := 278) rfl (v := (1 : Int32)) (by decide) ?_
        refine OwnK.icmp_le X399 hx (hb hby at_278) (by decide) (pcT := 295) (by decide) (pc' := 281) rfl (fun (hc278 : 2 ≤ 1) => absurd hc278 (by decide)) (fun hc278 => ?_)
        refine OwnK.aload X399 hx (hb hby at_281) (pc' := 283) rfl (v := (.ref r399)) rfl rfl ?_
        refine OwnK.iconst X399 hx (hb hby at_283) (pc' := 284) rfl (v := (0 : Int32)) (by decide) ?_
        refine OwnK.laload X399 hx hZ rfl f425 (by decide) (by first | decide | omega) (v := (.long w0)) rfl (hb hby at_284) (pc' := 285) rfl ?_
        refine OwnK.aload X399 hx (hb hby at_285) (pc' := 287) rfl (v := (.ref r399)) rfl rfl ?_
        refine OwnK.iconst X399 hx (hb hby at_287) (pc' := 288) rfl (v := (1 : Int32)) (by decide) ?_
        refine OwnK.laload X399 hx hZ rfl f425 (by decide) (by first | decide | omega) (v := (.long w1)) rfl (hb hby at_288) (pc' := 289) rfl ?_
        refine OwnK.lcmp_lt X399 hx (hb hby at_289) (pc1 := 290) rfl (hb hby at_290) (by decide) (pcT := 295) (by decide) (pc' := 293) rfl (fun hc289 => ?_) (fun (hc289 : w1.toInt ≤ w0.toInt) => by omega)
        refine OwnK.iload X399 hx (hb hby at_295) (pc' := 297) rfl (v := (2 : Int32)) rfl ?_
        refine OwnK.iconst X399 hx (hb hby at_297) (pc' := 298) rfl (v := (2 : Int32)) (by decide) ?_
        refine OwnK.icmp_le X399 hx (hb hby at_298) (by decide) (pcT := 315) (by decide) (pc' := 301) rfl (fun hc298 => ?_) (fun (hc298 : 2 < 2) => absurd hc298 (by decide))
        refine OwnK.iload X399 hx (hb hby at_315) (pc' := 317) rfl (v := (2 : Int32)) rfl ?_
        refine OwnK.iconst X399 hx (hb hby at_317) (pc' := 318) rfl (v := (3 : Int32)) (by decide) ?_
        refine OwnK.icmp_le X399 hx (hb hby at_318) (by decide) (pcT := 335) (by decide) (pc' := 321) rfl (fun hc318 => ?_) (fun (hc318 : 3 < 2) => absurd hc318 (by decide))
        refine OwnK.iload X399 hx (hb hby at_335) (pc' := 337) rfl (v := (2 : Int32)) rfl ?_
        refine OwnK.if_le X399 hx (hb hby at_337) (by decide) (pcT := 356) (by decide) (pc' := 340) rfl (fun (hc337 : 2 ≤ 0) => absurd hc337 (by decide)) (fun hc337 => ?_)
        refine OwnK.aload X399 hx (hb hby at_340) (pc' := 342) rfl (v := (.ref a1)) rfl rfl ?_
        refine OwnK.iload X399 hx (hb hby at_342) (pc' := 344) rfl (v := (2 : Int32)) rfl ?_
        refine OwnK.aload X399 hx (hb hby at_344) (pc' := 346) rfl (v := (.ref r399)) rfl rfl ?_
        refine OwnK.iconst X399 hx (hb hby at_346) (pc' := 347) rfl (v := (0 : Int32)) (by decide) ?_
        refine OwnK.laload X399 hx hZ rfl f425 (by decide) (by first | decide | omega) (v := (.long w0)) rfl (hb hby at_347) (pc' := 348) rfl ?_
        refine OwnK.callS_ X399 hx hZ hown (y := (⟨"com/example/ledgerwire/ledgerwire/store/EntriesRecordsPinLaw", "inS", "([JIJ)Z"⟩ : MethodName)) (hw _ (List.mem_of_getElem? (i := 39) rfl)) (hw _ (List.mem_of_getElem? (i := 40) rfl)) (hw _ (List.mem_of_getElem? (i := 3) rfl)) (hw _ (List.mem_of_getElem? (i := 41) rfl)) (by decide) (own_met6 l Z a0 hw T399.heap a1 (2 : Int32) w0 _ w0 w1 w2 w3 f405 ) (by decide) (W := 0) (by decide) rfl (by rw [hml]; rfl) own_pd_7 (argsL := [(.ref a1), (.int (2 : Int32)), (.long w0)]) rfl (S := []) rfl (Nat.le_of_eq rfl) (hb hby at_348) (pc' := 351) rfl (by decide) (by decide) (fun T426 v426 L426 X426 hQ426 => ?_)
        obtain ⟨rfl, e426, rfl⟩ := hQ426
        have N427 := Fr.app N400 (Fr.nil n0)
        refine OwnK.if_ne X426 hx (hb hby at_351) (by decide) (pcT := 356) (by decide) (pc' := 354) rfl (fun hc351 => ?_) (fun (hc351 : (own_in (2 : Int32).toInt w0.toInt w1.toInt w2.toInt w3.toInt w0.toInt).toInt = 0) => absurd ((congrArg Int32.toInt (own_in1 (by omega) : (own_in (2 : Int32).toInt w0.toInt w1.toInt w2.toInt w3.toInt w0.toInt) = 1)).symm.trans hc351) (by decide))
        refine OwnK.iload X426 hx (hb hby at_356) (pc' := 358) rfl (v := (2 : Int32)) rfl ?_
        refine OwnK.iconst X426 hx (hb hby at_358) (pc' := 359) rfl (v := (1 : Int32)) (by decide) ?_
        refine OwnK.icmp_le X426 hx (hb hby at_359) (by decide) (pcT := 378) (by decide) (pc' := 362) rfl (fun (hc359 : 2 ≤ 1) => absurd hc359 (by decide)) (fun hc359 => ?_)
        refine OwnK.aload X426 hx (hb hby at_362) (pc' := 364) rfl (v := (.ref a1)) rfl rfl ?_
        refine OwnK.iload X426 hx (hb hby at_364) (pc' := 366) rfl (v := (2 : Int32)) rfl ?_
        refine OwnK.aload X426 hx (hb hby at_366) (pc' := 368) rfl (v := (.ref r399)) rfl rfl ?_
        refine OwnK.iconst X426 hx (hb hby at_368) (pc' := 369) rfl (v := (1 : Int32)) (by decide) ?_
        refine OwnK.laload X426 hx hZ e426 f425 (by decide) (by first | decide | omega) (v := (.long w1)) rfl (hb hby at_369) (pc' := 370) rfl ?_
        refine OwnK.callS_ X426 hx hZ hown (y := (⟨"com/example/ledgerwire/ledgerwire/store/EntriesRecordsPinLaw", "inS", "([JIJ)Z"⟩ : MethodName)) (hw _ (List.mem_of_getElem? (i := 39) rfl)) (hw _ (List.mem_of_getElem? (i := 40) rfl)) (hw _ (List.mem_of_getElem? (i := 3) rfl)) (hw _ (List.mem_of_getElem? (i := 41) rfl)) (by decide) (own_met6 l Z a0 hw T399.heap a1 (2 : Int32) w1 _ w0 w1 w2 w3 f405 ) (by decide) (W := 0) (by decide) e426 (by rw [hml]; rfl) own_pd_7 (argsL := [(.ref a1), (.int (2 : Int32)), (.long w1)]) rfl (S := []) rfl (Nat.le_of_eq rfl) (hb hby at_370) (pc' := 373) rfl (by decide) (by decide) (fun T428 v428 L428 X428 hQ428 => ?_)
        obtain ⟨rfl, e428, rfl⟩ := hQ428
        have N429 := Fr.app N427 (Fr.nil n0)
        refine OwnK.if_ne X428 hx (hb hby at_373) (by decide) (pcT := 378) (by decide) (pc' := 376) rfl (fun hc373 => ?_) (fun (hc373 : (own_in (2 : Int32).toInt w0.toInt w1.toInt w2.toInt w3.toInt w1.toInt).toInt = 0) => absurd ((congrArg Int32.toInt (own_in1 (by omega) : (own_in (2 : Int32).toInt w0.toInt w1.toInt w2.toInt w3.toInt w1.toInt) = 1)).symm.trans hc373) (by decide))
        refine OwnK.iload X428 hx (hb hby at_378) (pc' := 380) rfl (v := (2 : Int32)) rfl ?_
        refine OwnK.iconst X428 hx (hb hby at_380) (pc' := 381) rfl (v := (2 : Int32)) (by decide) ?_
        refine OwnK.icmp_le X428 hx (hb hby at_381) (by decide) (pcT := 400) (by decide) (pc' := 384) rfl (fun hc381 => ?_) (fun (hc381 : 2 < 2) => absurd hc381 (by decide))
        refine OwnK.iload X428 hx (hb hby at_400) (pc' := 402) rfl (v := (2 : Int32)) rfl ?_
        refine OwnK.iconst X428 hx (hb hby at_402) (pc' := 403) rfl (v := (3 : Int32)) (by decide) ?_
        refine OwnK.icmp_le X428 hx (hb hby at_403) (by decide) (pcT := 422) (by decide) (pc' := 406) rfl (fun hc403 => ?_) (fun (hc403 : 3 < 2) => absurd hc403 (by decide))
        refine OwnK.iload X428 hx (hb hby at_422) (pc' := 424) rfl (v := (2 : Int32)) rfl ?_
        refine OwnK.if_le X428 hx (hb hby at_424) (by decide) (pcT := 441) (by decide) (pc' := 427) rfl (fun (hc424 : 2 ≤ 0) => absurd hc424 (by decide)) (fun hc424 => ?_)
        refine OwnK.aload X428 hx (hb hby at_427) (pc' := 429) rfl (v := (.ref r399)) rfl rfl ?_
        refine OwnK.aload X428 hx (hb hby at_429) (pc' := 431) rfl (v := (.ref a1)) rfl rfl ?_
        refine OwnK.iconst X428 hx (hb hby at_431) (pc' := 432) rfl (v := (0 : Int32)) (by decide) ?_
        refine OwnK.laload X428 hx hZ e428 f405 (by decide) (by first | decide | omega) (v := (.long w0)) rfl (hb hby at_432) (pc' := 433) rfl ?_
        refine OwnK.callS_ X428 hx hZ hown (y := (⟨"com/example/ledgerwire/ledgerwire/store/EntriesRecordsPinLaw", "inR", "([JJ)Z"⟩ : MethodName)) (hw _ (List.mem_of_getElem? (i := 42) rfl)) (hw _ (List.mem_of_getElem? (i := 43) rfl)) (hw _ (List.mem_of_getElem? (i := 3) rfl)) (hw _ (List.mem_of_getElem? (i := 44) rfl)) (by decide) (own_met7 l Z a0 hw T399.heap r399 w0 _ (2 : Int32) w0 w1 (0 : Int64) (0 : Int64) (f425.pad (pad_rep [(.long w0), (.long w1)] (.long (0 : Int64)) 2)) ) (by decide) (W := 0) (by decide) e428 (by rw [hml]; rfl) own_pd_8 (argsL := [(.ref r399), (.long w0)]) rfl (S := []) rfl (Nat.le_of_eq rfl) (hb hby at_433) (pc' := 436) rfl (by decide) (by decide) (fun T430 v430 L430 X430 hQ430 => ?_)
        obtain ⟨rfl, e430, rfl⟩ := hQ430
        have N431 := Fr.app N429 (Fr.nil n0)
        refine OwnK.if_ne X430 hx (hb hby at_436) (by decide) (pcT := 441) (by decide) (pc' := 439) rfl (fun hc436 => ?_) (fun (hc436 : (own_in (2 : Int32).toInt w0.toInt w1.toInt (0 : Int64).toInt (0 : Int64).toInt w0.toInt).toInt = 0) => absurd ((congrArg Int32.toInt (own_in1 (by omega) : (own_in (2 : Int32).toInt w0.toInt w1.toInt (0 : Int64).toInt (0 : Int64).toInt w0.toInt) = 1)).symm.trans hc436) (by decide))
        refine OwnK.iload X430 hx (hb hby at_441) (pc' := 443) rfl (v := (2 : Int32)) rfl ?_
        refine OwnK.iconst X430 hx (hb hby at_443) (pc' := 444) rfl (v := (1 : Int32)) (by decide) ?_
        refine OwnK.icmp_le X430 hx (hb hby at_444) (by decide) (pcT := 461) (by decide) (pc' := 447) rfl (fun (hc444 : 2 ≤ 1) => absurd hc444 (by decide)) (fun hc444 => ?_)
        refine OwnK.aload X430 hx (hb hby at_447) (pc' := 449) rfl (v := (.ref r399)) rfl rfl ?_
        refine OwnK.aload X430 hx (hb hby at_449) (pc' := 451) rfl (v := (.ref a1)) rfl rfl ?_
        refine OwnK.iconst X430 hx (hb hby at_451) (pc' := 452) rfl (v := (1 : Int32)) (by decide) ?_
        refine OwnK.laload X430 hx hZ e430 f405 (by decide) (by first | decide | omega) (v := (.long w1)) rfl (hb hby at_452) (pc' := 453) rfl ?_
        refine OwnK.callS_ X430 hx hZ hown (y := (⟨"com/example/ledgerwire/ledgerwire/store/EntriesRecordsPinLaw", "inR", "([JJ)Z"⟩ : MethodName)) (hw _ (List.mem_of_getElem? (i := 42) rfl)) (hw _ (List.mem_of_getElem? (i := 43) rfl)) (hw _ (List.mem_of_getElem? (i := 3) rfl)) (hw _ (List.mem_of_getElem? (i := 44) rfl)) (by decide) (own_met7 l Z a0 hw T399.heap r399 w1 _ (2 : Int32) w0 w1 (0 : Int64) (0 : Int64) (f425.pad (pad_rep [(.long w0), (.long w1)] (.long (0 : Int64)) 2)) ) (by decide) (W := 0) (by decide) e430 (by rw [hml]; rfl) own_pd_8 (argsL := [(.ref r399), (.long w1)]) rfl (S := []) rfl (Nat.le_of_eq rfl) (hb hby at_453) (pc' := 456) rfl (by decide) (by decide) (fun T432 v432 L432 X432 hQ432 => ?_)
        obtain ⟨rfl, e432, rfl⟩ := hQ432
        have N433 := Fr.app N431 (Fr.nil n0)
        refine OwnK.if_ne X432 hx (hb hby at_456) (by decide) (pcT := 461) (by decide) (pc' := 459) rfl (fun hc456 => ?_) (fun (hc456 : (own_in (2 : Int32).toInt w0.toInt w1.toInt (0 : Int64).toInt (0 : Int64).toInt w1.toInt).toInt = 0) => absurd ((congrArg Int32.toInt (own_in1 (by omega) : (own_in (2 : Int32).toInt w0.toInt w1.toInt (0 : Int64).toInt (0 : Int64).toInt w1.toInt) = 1)).symm.trans hc456) (by decide))
        refine OwnK.iload X432 hx (hb hby at_461) (pc' := 463) rfl (v := (2 : Int32)) rfl ?_
        refine OwnK.iconst X432 hx (hb hby at_463) (pc' := 464) rfl (v := (2 : Int32)) (by decide) ?_
        refine OwnK.icmp_le X432 hx (hb hby at_464) (by decide) (pcT := 481) (by decide) (pc' := 467) rfl (fun hc464 => ?_) (fun (hc464 : 2 < 2) => absurd hc464 (by decide))
        refine OwnK.iload X432 hx (hb hby at_481) (pc' := 483) rfl (v := (2 : Int32)) rfl ?_
        refine OwnK.iconst X432 hx (hb hby at_483) (pc' := 484) rfl (v := (3 : Int32)) (by decide) ?_
        refine OwnK.icmp_le X432 hx (hb hby at_484) (by decide) (pcT := 501) (by decide) (pc' := 487) rfl (fun hc484 => ?_) (fun (hc484 : 3 < 2) => absurd hc484 (by decide))
        refine OwnK.iconst X432 hx (hb hby at_501) (pc' := 502) rfl (v := (1 : Int32)) (by decide) ?_
        refine OwnK.retN_ X432 hx hret (by simp) hlk (hb hby at_502) (by decide) (by decide) ?_
        exact ⟨rfl, N433⟩
    · refine OwnK.iconst X1 hx (hb hby at_112) (pc' := 113) rfl (v := (4 : Int32)) (by decide) ?_
      refine OwnK.newP_ X1 hx hZ (hw _ (List.mem_of_getElem? (i := 5) rfl)) el1 (hb hby at_113) (pc' := 115) rfl (n := (4 : Int32)) (by decide) (cap := 4) (by decide) (by decide) (by decide) (by decide) (ad := "[I") (by decide) (fun T434 h434 a434 k434 X434 e434 g434 E434 V434 Q434 => ?_)
      have q435 : a1 ≠ a434 := Nat.ne_of_lt (Nat.lt_of_lt_of_le V1.lt (Nat.le_of_eq g434.symm))
      have ge_a434 : n0 ≤ a434 := Nat.le_trans z1 (Nat.le_of_eq g434.symm)
      have z436 : n0 ≤ h434.size := Nat.le_trans z1 E434.1
      have f437 := V1.ext E434
      have f438 := Q1.ext E434
      have f439 : Arv Z h434 a434 k434 .int (4 : Int32) [(.int (0 : Int32)), (.int (0 : Int32)), (.int (0 : Int32)), (.int (0 : Int32))] (.int (0 : Int32)) := V434.pad (pad_rep [] (.int (0 : Int32)) 4)
      refine OwnK.dup X434 hx (hb hby at_115) (pc' := 116) rfl rfl ?_
      refine OwnK.iconst X434 hx (hb hby at_116) (pc' := 117) rfl (v := (0 : Int32)) (by decide) ?_
      refine OwnK.iconst X434 hx (hb hby at_117) (pc' := 118) rfl (v := (0 : Int32)) (by decide) ?_
      refine OwnK.iastore X434 hx hZ e434 f439 (i := 0) (by decide) (by first | decide | omega) (Nat.le_of_ble_eq_true rfl) (hb hby at_118) (pc' := 119) rfl (fun T440 h440 X440 e440 W440 V440 => ?_)
      have f441 := f437.other W440 q435
      have f442 := f438.wr W440
      have f443 := Q434.wr W440
      have f444 : Arv Z h440 a434 _ .int (4 : Int32) [(.int (0 : Int32)), (.int (0 : Int32)), (.int (0 : Int32)), (.int (0 : Int32))] (.int (0 : Int32)) := V440
      have N445 := Fr.snoc X440 N1 ge_a434
      have z446 : n0 ≤ h440.size := Nat.le_trans z436 (Keep.of_wr W440).1
      refine OwnK.dup X440 hx (hb hby at_119) (pc' := 120) rfl rfl ?_
      refine OwnK.iconst X440 hx (hb hby at_120) (pc' := 121) rfl (v := (1 : Int32)) (by decide) ?_
      refine OwnK.iconst X440 hx (hb hby at_121) (pc' := 122) rfl (v := (1 : Int32)) (by decide) ?_
      refine OwnK.iastore X440 hx hZ e440 f444 (i := 1) (by decide) (by first | decide | omega) (Nat.le_of_ble_eq_true rfl) (hb hby at_122) (pc' := 123) rfl (fun T447 h447 X447 e447 W447 V447 => ?_)
      have f448 := f441.other W447 q435
      have f449 := f442.wr W447
      have f450 := f443.wr W447
      have f451 : Arv Z h447 a434 _ .int (4 : Int32) [(.int (0 : Int32)), (.int (1 : Int32)), (.int (0 : Int32)), (.int (0 : Int32))] (.int (0 : Int32)) := V447
      have N452 := Fr.snoc X447 N445 ge_a434
      have z453 : n0 ≤ h447.size := Nat.le_trans z446 (Keep.of_wr W447).1
      refine OwnK.dup X447 hx (hb hby at_123) (pc' := 124) rfl rfl ?_
      refine OwnK.iconst X447 hx (hb hby at_124) (pc' := 125) rfl (v := (2 : Int32)) (by decide) ?_
      refine OwnK.iconst X447 hx (hb hby at_125) (pc' := 126) rfl (v := (2 : Int32)) (by decide) ?_
      refine OwnK.iastore X447 hx hZ e447 f451 (i := 2) (by decide) (by first | decide | omega) (Nat.le_of_ble_eq_true rfl) (hb hby at_126) (pc' := 127) rfl (fun T454 h454 X454 e454 W454 V454 => ?_)
      have f455 := f448.other W454 q435
      have f456 := f449.wr W454
      have f457 := f450.wr W454
      have f458 : Arv Z h454 a434 _ .int (4 : Int32) [(.int (0 : Int32)), (.int (1 : Int32)), (.int (2 : Int32)), (.int (0 : Int32))] (.int (0 : Int32)) := V454
      have N459 := Fr.snoc X454 N452 ge_a434
      have z460 : n0 ≤ h454.size := Nat.le_trans z453 (Keep.of_wr W454).1
      refine OwnK.dup X454 hx (hb hby at_127) (pc' := 128) rfl rfl ?_
      refine OwnK.iconst X454 hx (hb hby at_128) (pc' := 129) rfl (v := (3 : Int32)) (by decide) ?_
      refine OwnK.iconst X454 hx (hb hby at_129) (pc' := 130) rfl (v := (3 : Int32)) (by decide) ?_
      refine OwnK.iastore X454 hx hZ e454 f458 (i := 3) (by decide) (by first | decide | omega) (Nat.le_of_ble_eq_true rfl) (hb hby at_130) (pc' := 131) rfl (fun T461 h461 X461 e461 W461 V461 => ?_)
      have f462 := f455.other W461 q435
      have f463 := f456.wr W461
      have f464 := f457.wr W461
      have f465 : Arv Z h461 a434 _ .int (4 : Int32) [(.int (0 : Int32)), (.int (1 : Int32)), (.int (2 : Int32)), (.int (3 : Int32))] (.int (0 : Int32)) := V461
      have N466 := Fr.snoc X461 N459 ge_a434
      have z467 : n0 ≤ h461.size := Nat.le_trans z460 (Keep.of_wr W461).1
      refine OwnK.astore X461 hx (hb hby at_131) (pc' := 133) rfl rfl (Ls' := #[.val (.long p0), .second, .val (.long p1), .second, .val (.long p2), .second, .val (.long p3), .second, .val (.int p4), .val (.int p5), .val (.ref a1), .val (.int (3 : Int32)), .val (.ref a434), .unset, .unset, .unset]) rfl ?_
      refine OwnK.iconst X461 hx (hb hby at_133) (pc' := 134) rfl (v := (4 : Int32)) (by decide) ?_
      refine OwnK.newP_ X461 hx hZ (hw _ (List.mem_of_getElem? (i := 0) rfl)) e461 (hb hby at_134) (pc' := 136) rfl (n := (4 : Int32)) (by decide) (cap := 4) (by decide) (by decide) (by decide) (by decide) (ad := "[J") (by decide) (fun T468 h468 a468 k468 X468 e468 g468 E468 V468 Q468 => ?_)
      have q469 : a1 ≠ a468 := Nat.ne_of_lt (Nat.lt_of_lt_of_le f462.lt (Nat.le_of_eq g468.symm))
      have q470 : a434 ≠ a468 := Nat.ne_of_lt (Nat.lt_of_lt_of_le f465.lt (Nat.le_of_eq g468.symm))
      have ge_a468 : n0 ≤ a468 := Nat.le_trans z467 (Nat.le_of_eq g468.symm)
      have z471 : n0 ≤ h468.size := Nat.le_trans z467 E468.1
      have f472 := f462.ext E468
      have f473 := f463.ext E468
      have f474 := f465.ext E468
      have f475 := f464.ext E468
      have f476 : Arv Z h468 a468 k468 .long (4 : Int32) [(.long (0 : Int64)), (.long (0 : Int64)), (.long (0 : Int64)), (.long (0 : Int64))] (.long (0 : Int64)) := V468.pad (pad_rep [] (.long (0 : Int64)) 4)
      refine OwnK.dup X468 hx (hb hby at_136) (pc' := 137) rfl rfl ?_
      refine OwnK.iconst X468 hx (hb hby at_137) (pc' := 138) rfl (v := (0 : Int32)) (by decide) ?_
      refine OwnK.aload X468 hx (hb hby at_138) (pc' := 140) rfl (v := (.ref a1)) rfl rfl ?_
      refine OwnK.iconst X468 hx (hb hby at_140) (pc' := 141) rfl (v := (0 : Int32)) (by decide) ?_
      refine OwnK.laload X468 hx hZ e468 f472 (by decide) (by first | decide | omega) (v := (.long w0)) rfl (hb hby at_141) (pc' := 142) rfl ?_
      refine OwnK.lastore X468 hx hZ e468 f476 (i := 0) (by decide) (by first | decide | omega) (Nat.le_of_ble_eq_true rfl) (hb hby at_142) (pc' := 143) rfl (fun T477 h477 X477 e477 W477 V477 => ?_)
      have f478 := f472.other W477 q469
      have f479 := f473.wr W477
      have f480 := f474.other W477 q470
      have f481 := f475.wr W477
      have f482 := Q468.wr W477
      have f483 : Arv Z h477 a468 _ .long (4 : Int32) [(.long w0), (.long (0 : Int64)), (.long (0 : Int64)), (.long (0 : Int64))] (.long (0 : Int64)) := V477
      have N484 := Fr.snoc X477 N466 ge_a468
      have z485 : n0 ≤ h477.size := Nat.le_trans z471 (Keep.of_wr W477).1
      refine OwnK.dup X477 hx (hb hby at_143) (pc' := 144) rfl rfl ?_
      refine OwnK.iconst X477 hx (hb hby at_144) (pc' := 145) rfl (v := (1 : Int32)) (by decide) ?_
      refine OwnK.aload X477 hx (hb hby at_145) (pc' := 147) rfl (v := (.ref a1)) rfl rfl ?_
      refine OwnK.iconst X477 hx (hb hby at_147) (pc' := 148) rfl (v := (1 : Int32)) (by decide) ?_
      refine OwnK.laload X477 hx hZ e477 f478 (by decide) (by first | decide | omega) (v := (.long w1)) rfl (hb hby at_148) (pc' := 149) rfl ?_
      refine OwnK.lastore X477 hx hZ e477 f483 (i := 1) (by decide) (by first | decide | omega) (Nat.le_of_ble_eq_true rfl) (hb hby at_149) (pc' := 150) rfl (fun T486 h486 X486 e486 W486 V486 => ?_)
      have f487 := f478.other W486 q469
      have f488 := f479.wr W486
      have f489 := f480.other W486 q470
      have f490 := f481.wr W486
      have f491 := f482.wr W486
      have f492 : Arv Z h486 a468 _ .long (4 : Int32) [(.long w0), (.long w1), (.long (0 : Int64)), (.long (0 : Int64))] (.long (0 : Int64)) := V486
      have N493 := Fr.snoc X486 N484 ge_a468
      have z494 : n0 ≤ h486.size := Nat.le_trans z485 (Keep.of_wr W486).1
      refine OwnK.dup X486 hx (hb hby at_150) (pc' := 151) rfl rfl ?_
      refine OwnK.iconst X486 hx (hb hby at_151) (pc' := 152) rfl (v := (2 : Int32)) (by decide) ?_
      refine OwnK.aload X486 hx (hb hby at_152) (pc' := 154) rfl (v := (.ref a1)) rfl rfl ?_
      refine OwnK.iconst X486 hx (hb hby at_154) (pc' := 155) rfl (v := (2 : Int32)) (by decide) ?_
      refine OwnK.laload X486 hx hZ e486 f487 (by decide) (by first | decide | omega) (v := (.long w2)) rfl (hb hby at_155) (pc' := 156) rfl ?_
      refine OwnK.lastore X486 hx hZ e486 f492 (i := 2) (by decide) (by first | decide | omega) (Nat.le_of_ble_eq_true rfl) (hb hby at_156) (pc' := 157) rfl (fun T495 h495 X495 e495 W495 V495 => ?_)
      have f496 := f487.other W495 q469
      have f497 := f488.wr W495
      have f498 := f489.other W495 q470
      have f499 := f490.wr W495
      have f500 := f491.wr W495
      have f501 : Arv Z h495 a468 _ .long (4 : Int32) [(.long w0), (.long w1), (.long w2), (.long (0 : Int64))] (.long (0 : Int64)) := V495
      have N502 := Fr.snoc X495 N493 ge_a468
      have z503 : n0 ≤ h495.size := Nat.le_trans z494 (Keep.of_wr W495).1
      refine OwnK.dup X495 hx (hb hby at_157) (pc' := 158) rfl rfl ?_
      refine OwnK.iconst X495 hx (hb hby at_158) (pc' := 159) rfl (v := (3 : Int32)) (by decide) ?_
      refine OwnK.aload X495 hx (hb hby at_159) (pc' := 161) rfl (v := (.ref a1)) rfl rfl ?_
      refine OwnK.iconst X495 hx (hb hby at_161) (pc' := 162) rfl (v := (3 : Int32)) (by decide) ?_
      refine OwnK.laload X495 hx hZ e495 f496 (by decide) (by first | decide | omega) (v := (.long w3)) rfl (hb hby at_162) (pc' := 163) rfl ?_
      refine OwnK.lastore X495 hx hZ e495 f501 (i := 3) (by decide) (by first | decide | omega) (Nat.le_of_ble_eq_true rfl) (hb hby at_163) (pc' := 164) rfl (fun T504 h504 X504 e504 W504 V504 => ?_)
      have f505 := f496.other W504 q469
      have f506 := f497.wr W504
      have f507 := f498.other W504 q470
      have f508 := f499.wr W504
      have f509 := f500.wr W504
      have f510 : Arv Z h504 a468 _ .long (4 : Int32) [(.long w0), (.long w1), (.long w2), (.long w3)] (.long (0 : Int64)) := V504
      have N511 := Fr.snoc X504 N502 ge_a468
      have z512 : n0 ≤ h504.size := Nat.le_trans z503 (Keep.of_wr W504).1
      refine OwnK.astore X504 hx (hb hby at_164) (pc' := 166) rfl rfl (Ls' := #[.val (.long p0), .second, .val (.long p1), .second, .val (.long p2), .second, .val (.long p3), .second, .val (.int p4), .val (.int p5), .val (.ref a1), .val (.int (3 : Int32)), .val (.ref a434), .val (.ref a468), .unset, .unset]) rfl ?_
      refine OwnK.new_ X504 hx hZ hown (hw _ (List.mem_of_getElem? (i := 6) rfl)) (hw _ (List.mem_of_getElem? (i := 7) rfl)) (hw _ (List.mem_of_getElem? (i := 8) rfl)) e504 (hb hby at_166) (pc' := 169) rfl (by decide) (by decide) (fun T513 h513 a513 X513 e513 g513 E513 A513 D513 => ?_)
      have q514 : a1 ≠ a513 := Nat.ne_of_lt (Nat.lt_of_lt_of_le f505.lt (Nat.le_of_eq g513.symm))
      have q515 : a434 ≠ a513 := Nat.ne_of_lt (Nat.lt_of_lt_of_le f507.lt (Nat.le_of_eq g513.symm))
      have q516 : a468 ≠ a513 := Nat.ne_of_lt (Nat.lt_of_lt_of_le f510.lt (Nat.le_of_eq g513.symm))
      have ge_a513 : n0 ≤ a513 := Nat.le_trans z512 (Nat.le_of_eq g513.symm)
      have z517 : n0 ≤ h513.size := Nat.le_trans z512 E513.1
      have f518 := f505.ext E513
      have f519 := f506.ext E513
      have f520 := f507.ext E513
      have f521 := f508.ext E513
      have f522 := f510.ext E513
      have f523 := f509.ext E513
      have f524 : Fld Z h513 a513 "com/example/ledgerwire/ledgerwire/store/Entries" "seqs" "[J" .null := D513 (Or.inr (hw _ (List.mem_of_getElem? (i := 16) rfl))) (ty := (.array .long)) (by decide)
      have f525 : Fld Z h513 a513 "com/example/ledgerwire/ledgerwire/store/Entries" "parts" "[I" .null := D513 (Or.inr (hw _ (List.mem_of_getElem? (i := 18) rfl))) (ty := (.array .int)) (by decide)
      have f526 : Fld Z h513 a513 "com/example/ledgerwire/ledgerwire/store/Entries" "size" "I" (.int (0 : Int32)) := D513 (Or.inr (hw _ (List.mem_of_getElem? (i := 20) rfl))) (ty := .int) (by decide)
      refine OwnK.dup X513 hx (hb hby at_169) (pc' := 170) rfl rfl ?_
      refine OwnK.aload X513 hx (hb hby at_170) (pc' := 172) rfl (v := (.ref a468)) rfl rfl ?_
      refine OwnK.aload X513 hx (hb hby at_172) (pc' := 174) rfl (v := (.ref a434)) rfl rfl ?_
      refine OwnK.iload X513 hx (hb hby at_174) (pc' := 176) rfl (v := (3 : Int32)) rfl ?_
      refine OwnK.callI_ X513 hx hZ hown (y := (⟨"com/example/ledgerwire/ledgerwire/store/Entries", "<init>", "([J[II)V"⟩ : MethodName)) (a := a513) rfl (hw _ (List.mem_of_getElem? (i := 9) rfl)) (hw _ (List.mem_of_getElem? (i := 10) rfl)) (hw _ (List.mem_of_getElem? (i := 8) rfl)) (hw _ (List.mem_of_getElem? (i := 11) rfl)) rfl (by decide) (own_met2 l Z a0 hw h513 n0 z517 a513 a468 a434 (3 : Int32)   ge_a513 f524 f525 f526 A513 ) (by decide) (W := 1) (by decide) e513 (by rw [hml]; rfl) own_pd_9 (argsL := [(.ref a468), (.ref a434), (.int (3 : Int32))]) rfl (S := [(.ref a513)]) rfl (Nat.le_of_eq rfl) (hb hby at_176) (pc' := 179) rfl (by decide) (by decide) (fun T527 v527 L527 X527 hQ527 => ?_)
      obtain ⟨rfl, N527q, K527, E527q, Fs527, Fz527⟩ := hQ527
      have N528 := Fr.app N511 N527q
      have f529 := f518.keep K527 (ninS q514 nin0)
      have f530 := f519.keep K527
      have f531 := f520.keep K527 (ninS q515 nin0)
      have f532 := f521.keep K527
      have f533 := f522.keep K527 (ninS q516 nin0)
      have f534 := f523.keep K527
      have f535 := A513.keep K527
      have z536 : n0 ≤ T527.heap.size := Nat.le_trans z517 K527.1
      refine OwnK.callV_ X527 hx hZ hown (y := (⟨"com/example/ledgerwire/ledgerwire/store/Entries", "records", "()[J"⟩ : MethodName)) (z := (⟨"com/example/ledgerwire/ledgerwire/store/Entries", "records", "()[J"⟩ : MethodName)) (a := a513) (hw _ (List.mem_of_getElem? (i := 21) rfl)) (hw _ (List.mem_of_getElem? (i := 22) rfl)) (notFace_of_selects (args := #[]) (mvT hZ (hw _ (List.mem_of_getElem? (i := 24) rfl)))) (hw _ (List.mem_of_getElem? (i := 24) rfl)) (hw _ (List.mem_of_getElem? (i := 23) rfl)) (hw _ (List.mem_of_getElem? (i := 25) rfl)) (hw _ (List.mem_of_getElem? (i := 8) rfl)) (by decide) E527q (own_rec3 l Z a0 hw T527.heap n0 z536 a513 a468 _ w0 w1 w2 w3   Fs527 Fz527 f533 ) (by decide) (W := 0) (by decide) rfl (by rw [hml]; rfl) own_pd_2 (argsL := []) rfl (S := []) rfl (Nat.le_of_eq rfl) (hb hby at_179) (pc' := 182) rfl (by decide) (by decide) (fun T537 v537 L537 X537 hQ537 => ?_)
      obtain ⟨r537, kr537, rfl, N537q, K537, hr537, V537⟩ := hQ537
      have N538 := Fr.app N528 N537q
      have q539 : a1 ≠ r537 := Nat.ne_of_lt (Nat.lt_of_lt_of_le f529.lt hr537)
      have q540 : a434 ≠ r537 := Nat.ne_of_lt (Nat.lt_of_lt_of_le f531.lt hr537)
      have q541 : a468 ≠ r537 := Nat.ne_of_lt (Nat.lt_of_lt_of_le f533.lt hr537)
      have q542 : a513 ≠ r537 := Nat.ne_of_lt (Nat.lt_of_lt_of_le E527q.lt hr537)
      have ge_r537 : n0 ≤ r537 := Nat.le_trans z536 hr537
      have f543 := f529.keep K537 nin0
      have f544 := f530.keep K537
      have f545 := f531.keep K537 nin0
      have f546 := f532.keep K537
      have f547 := f533.keep K537 nin0
      have f548 := f534.keep K537
      have f549 := E527q.keep K537
      have f550 := Fs527.keep K537 nin0
      have f551 := Fz527.keep K537 nin0
      have z552 : n0 ≤ T537.heap.size := Nat.le_trans z536 K537.1
      refine OwnK.astore X537 hx (hb hby at_182) (pc' := 184) rfl rfl (Ls' := #[.val (.long p0), .second, .val (.long p1), .second, .val (.long p2), .second, .val (.long p3), .second, .val (.int p4), .val (.int p5), .val (.ref a1), .val (.int (3 : Int32)), .val (.ref a434), .val (.ref a468), .val (.ref r537), .unset]) rfl ?_
      refine OwnK.aload X537 hx (hb hby at_184) (pc' := 186) rfl (v := (.ref r537)) rfl rfl ?_
      refine OwnK.ifnonnull_ref X537 hx (hb hby at_186) (by decide) (pcT := 191) (by decide) (pc' := 189) rfl ?_
      refine OwnK.iconst X537 hx (hb hby at_191) (pc' := 192) rfl (v := (0 : Int32)) (by decide) ?_
      refine OwnK.istore X537 hx (hb hby at_192) (pc' := 194) rfl (Ls' := #[.val (.long p0), .second, .val (.long p1), .second, .val (.long p2), .second, .val (.long p3), .second, .val (.int p4), .val (.int p5), .val (.ref a1), .val (.int (3 : Int32)), .val (.ref a434), .val (.ref a468), .val (.ref r537), .val (.int (0 : Int32))]) rfl ?_
      refine OwnK.iload X537 hx (hb hby at_194) (pc' := 196) rfl (v := (3 : Int32)) rfl ?_
      refine OwnK.if_le X537 hx (hb hby at_196) (by decide) (pcT := 202) (by decide) (pc' := 199) rfl (fun (hc196 : 3 ≤ 0) => absurd hc196 (by decide)) (fun hc196 => ?_)
      refine OwnK.iconst X537 hx (hb hby at_199) (pc' := 200) rfl (v := (1 : Int32)) (by decide) ?_
      refine OwnK.istore X537 hx (hb hby at_200) (pc' := 202) rfl (Ls' := #[.val (.long p0), .second, .val (.long p1), .second, .val (.long p2), .second, .val (.long p3), .second, .val (.int p4), .val (.int p5), .val (.ref a1), .val (.int (3 : Int32)), .val (.ref a434), .val (.ref a468), .val (.ref r537), .val (.int (1 : Int32))]) rfl ?_
      refine OwnK.iload X537 hx (hb hby at_202) (pc' := 204) rfl (v := (3 : Int32)) rfl ?_
      refine OwnK.iconst X537 hx (hb hby at_204) (pc' := 205) rfl (v := (1 : Int32)) (by decide) ?_
      refine OwnK.icmp_le X537 hx (hb hby at_205) (by decide) (pcT := 223) (by decide) (pc' := 208) rfl (fun (hc205 : 3 ≤ 1) => absurd hc205 (by decide)) (fun hc205 => ?_)
      refine OwnK.aload X537 hx (hb hby at_208) (pc' := 210) rfl (v := (.ref a1)) rfl rfl ?_
      refine OwnK.iconst X537 hx (hb hby at_210) (pc' := 211) rfl (v := (1 : Int32)) (by decide) ?_
      refine OwnK.laload X537 hx hZ rfl f543 (by decide) (by first | decide | omega) (v := (.long w1)) rfl (hb hby at_211) (pc' := 212) rfl ?_
      refine OwnK.aload X537 hx (hb hby at_212) (pc' := 214) rfl (v := (.ref a1)) rfl rfl ?_
      refine OwnK.iconst X537 hx (hb hby at_214) (pc' := 215) rfl (v := (0 : Int32)) (by decide) ?_
      refine OwnK.laload X537 hx hZ rfl f543 (by decide) (by first | decide | omega) (v := (.long w0)) rfl (hb hby at_215) (pc' := 216) rfl ?_
      refine OwnK.lcmp_eq X537 hx (hb hby at_216) (pc1 := 217) rfl (hb hby at_217) (by decide) (pcT := 223) (by decide) (pc' := 220) rfl (fun (hc553 : w1.toInt = w0.toInt) => ?_) (fun (hc553 : ¬ w1.toInt = w0.toInt) => ?_)
      · refine OwnK.iload X537 hx (hb hby at_223) (pc' := 225) rfl (v := (3 : Int32)) rfl ?_
        refine OwnK.iconst X537 hx (hb hby at_225) (pc' := 226) rfl (v := (2 : Int32)) (by decide) ?_
        refine OwnK.icmp_le X537 hx (hb hby at_226) (by decide) (pcT := 244) (by decide) (pc' := 229) rfl (fun (hc226 : 3 ≤ 2) => absurd hc226 (by decide)) (fun hc226 => ?_)
        refine OwnK.aload X537 hx (hb hby at_229) (pc' := 231) rfl (v := (.ref a1)) rfl rfl ?_
        refine OwnK.iconst X537 hx (hb hby at_231) (pc' := 232) rfl (v := (2 : Int32)) (by decide) ?_
        refine OwnK.laload X537 hx hZ rfl f543 (by decide) (by first | decide | omega) (v := (.long w2)) rfl (hb hby at_232) (pc' := 233) rfl ?_
        refine OwnK.aload X537 hx (hb hby at_233) (pc' := 235) rfl (v := (.ref a1)) rfl rfl ?_
        refine OwnK.iconst X537 hx (hb hby at_235) (pc' := 236) rfl (v := (1 : Int32)) (by decide) ?_
        refine OwnK.laload X537 hx hZ rfl f543 (by decide) (by first | decide | omega) (v := (.long w1)) rfl (hb hby at_236) (pc' := 237) rfl ?_
        refine OwnK.lcmp_eq X537 hx (hb hby at_237) (pc1 := 238) rfl (hb hby at_238) (by decide) (pcT := 244) (by decide) (pc' := 241) rfl (fun (hc554 : w2.toInt = w1.toInt) => ?_) (fun (hc554 : ¬ w2.toInt = w1.toInt) => ?_)
        · refine OwnK.iload X537 hx (hb hby at_244) (pc' := 246) rfl (v := (3 : Int32)) rfl ?_
          refine OwnK.iconst X537 hx (hb hby at_246) (pc' := 247) rfl (v := (3 : Int32)) (by decide) ?_
          refine OwnK.icmp_le X537 hx (hb hby at_247) (by decide) (pcT := 265) (by decide) (pc' := 250) rfl (fun hc247 => ?_) (fun (hc247 : 3 < 3) => absurd hc247 (by decide))
          have hdd : own_dd [w0, w1, w2] = [w0] := by show _ :: own_go _ _ = _; rw [own_ge (by omega), own_ge (by omega), own_g0]
          have f555 := V537
          rw [hdd] at f555
          have f556 : Arv Z T537.heap r537 _ .long (1 : Int32) [(.long w0)] (.long (0 : Int64)) := f555
          refine OwnK.aload X537 hx (hb hby at_265) (pc' := 267) rfl (v := (.ref r537)) rfl rfl ?_
          refine OwnK.arrlen X537 hx hZ rfl f556 (hb hby at_267) (pc' := 268) rfl ?_
          refine OwnK.iload X537 hx (hb hby at_268) (pc' := 270) rfl (v := (1 : Int32)) rfl ?_
          refine OwnK.icmp_eq X537 hx (hb hby at_270) (by decide) (pcT := 275) (by decide) (pc' := 273) rfl (fun hc270 => ?_) (fun (hc270 : ¬ 1 = 1) => absurd hc270 (by decide))
          refine OwnK.iload X537 hx (hb hby at_275) (pc' := 277) rfl (v := (1 : Int32)) rfl ?_
          refine OwnK.iconst X537 hx (hb hby at_277) (pc' := 278) rfl (v := (1 : Int32)) (by decide) ?_
          refine OwnK.icmp_le X537 hx (hb hby at_278) (by decide) (pcT := 295) (by decide) (pc' := 281) rfl (fun hc278 => ?_) (fun (hc278 : 1 < 1) => absurd hc278 (by decide))
          refine OwnK.iload X537 hx (hb hby at_295) (pc' := 297) rfl (v := (1 : Int32)) rfl ?_
          refine OwnK.iconst X537 hx (hb hby at_297) (pc' := 298) rfl (v := (2 : Int32)) (by decide) ?_
          refine OwnK.icmp_le X537 hx (hb hby at_298) (by decide) (pcT := 315) (by decide) (pc' := 301) rfl (fun hc298 => ?_) (fun (hc298 : 2 < 1) => absurd hc298 (by decide))
          refine OwnK.iload X537 hx (hb hby at_315) (pc' := 317) rfl (v := (1 : Int32)) rfl ?_
          refine OwnK.iconst X537 hx (hb hby at_317) (pc' := 318) rfl (v := (3 : Int32)) (by decide) ?_
          refine OwnK.icmp_le X537 hx (hb hby at_318) (by decide) (pcT := 335) (by decide) (pc' := 321) rfl (fun hc318 => ?_) (fun (hc318 : 3 < 1) => absurd hc318 (by decide))
          refine OwnK.iload X537 hx (hb hby at_335) (pc' := 337) rfl (v := (1 : Int32)) rfl ?_
          refine OwnK.if_le X537 hx (hb hby at_337) (by decide) (pcT := 356) (by decide) (pc' := 340) rfl (fun (hc337 : 1 ≤ 0) => absurd hc337 (by decide)) (fun hc337 => ?_)
          refine OwnK.aload X537 hx (hb hby at_340) (pc' := 342) rfl (v := (.ref a1)) rfl rfl ?_
          refine OwnK.iload X537 hx (hb hby at_342) (pc' := 344) rfl (v := (3 : Int32)) rfl ?_
          refine OwnK.aload X537 hx (hb hby at_344) (pc' := 346) rfl (v := (.ref r537)) rfl rfl ?_
          refine OwnK.iconst X537 hx (hb hby at_346) (pc' := 347) rfl (v := (0 : Int32)) (by decide) ?_
          refine OwnK.laload X537 hx hZ rfl f556 (by decide) (by first | decide | omega) (v := (.long w0)) rfl (hb hby at_347) (pc' := 348) rfl ?_
          refine OwnK.callS_ X537 hx hZ hown (y := (⟨"com/example/ledgerwire/ledgerwire/store/EntriesRecordsPinLaw", "inS", "([JIJ)Z"⟩ : MethodName)) (hw _ (List.mem_of_getElem? (i := 39) rfl)) (hw _ (List.mem_of_getElem? (i := 40) rfl)) (hw _ (List.mem_of_getElem? (i := 3) rfl)) (hw _ (List.mem_of_getElem? (i := 41) rfl)) (by decide) (own_met6 l Z a0 hw T537.heap a1 (3 : Int32) w0 _ w0 w1 w2 w3 f543 ) (by decide) (W := 0) (by decide) rfl (by rw [hml]; rfl) own_pd_7 (argsL := [(.ref a1), (.int (3 : Int32)), (.long w0)]) rfl (S := []) rfl (Nat.le_of_eq rfl) (hb hby at_348) (pc' := 351) rfl (by decide) (by decide) (fun T557 v557 L557 X557 hQ557 => ?_)
          obtain ⟨rfl, e557, rfl⟩ := hQ557
          have N558 := Fr.app N538 (Fr.nil n0)
          refine OwnK.if_ne X557 hx (hb hby at_351) (by decide) (pcT := 356) (by decide) (pc' := 354) rfl (fun hc351 => ?_) (fun (hc351 : (own_in (3 : Int32).toInt w0.toInt w1.toInt w2.toInt w3.toInt w0.toInt).toInt = 0) => absurd ((congrArg Int32.toInt (own_in1 (by omega) : (own_in (3 : Int32).toInt w0.toInt w1.toInt w2.toInt w3.toInt w0.toInt) = 1)).symm.trans hc351) (by decide))
          refine OwnK.iload X557 hx (hb hby at_356) (pc' := 358) rfl (v := (1 : Int32)) rfl ?_
          refine OwnK.iconst X557 hx (hb hby at_358) (pc' := 359) rfl (v := (1 : Int32)) (by decide) ?_
          refine OwnK.icmp_le X557 hx (hb hby at_359) (by decide) (pcT := 378) (by decide) (pc' := 362) rfl (fun hc359 => ?_) (fun (hc359 : 1 < 1) => absurd hc359 (by decide))
          refine OwnK.iload X557 hx (hb hby at_378) (pc' := 380) rfl (v := (1 : Int32)) rfl ?_
          refine OwnK.iconst X557 hx (hb hby at_380) (pc' := 381) rfl (v := (2 : Int32)) (by decide) ?_
          refine OwnK.icmp_le X557 hx (hb hby at_381) (by decide) (pcT := 400) (by decide) (pc' := 384) rfl (fun hc381 => ?_) (fun (hc381 : 2 < 1) => absurd hc381 (by decide))
          refine OwnK.iload X557 hx (hb hby at_400) (pc' := 402) rfl (v := (1 : Int32)) rfl ?_
          refine OwnK.iconst X557 hx (hb hby at_402) (pc' := 403) rfl (v := (3 : Int32)) (by decide) ?_
          refine OwnK.icmp_le X557 hx (hb hby at_403) (by decide) (pcT := 422) (by decide) (pc' := 406) rfl (fun hc403 => ?_) (fun (hc403 : 3 < 1) => absurd hc403 (by decide))
          refine OwnK.iload X557 hx (hb hby at_422) (pc' := 424) rfl (v := (3 : Int32)) rfl ?_
          refine OwnK.if_le X557 hx (hb hby at_424) (by decide) (pcT := 441) (by decide) (pc' := 427) rfl (fun (hc424 : 3 ≤ 0) => absurd hc424 (by decide)) (fun hc424 => ?_)
          refine OwnK.aload X557 hx (hb hby at_427) (pc' := 429) rfl (v := (.ref r537)) rfl rfl ?_
          refine OwnK.aload X557 hx (hb hby at_429) (pc' := 431) rfl (v := (.ref a1)) rfl rfl ?_
          refine OwnK.iconst X557 hx (hb hby at_431) (pc' := 432) rfl (v := (0 : Int32)) (by decide) ?_
          refine OwnK.laload X557 hx hZ e557 f543 (by decide) (by first | decide | omega) (v := (.long w0)) rfl (hb hby at_432) (pc' := 433) rfl ?_
          refine OwnK.callS_ X557 hx hZ hown (y := (⟨"com/example/ledgerwire/ledgerwire/store/EntriesRecordsPinLaw", "inR", "([JJ)Z"⟩ : MethodName)) (hw _ (List.mem_of_getElem? (i := 42) rfl)) (hw _ (List.mem_of_getElem? (i := 43) rfl)) (hw _ (List.mem_of_getElem? (i := 3) rfl)) (hw _ (List.mem_of_getElem? (i := 44) rfl)) (by decide) (own_met7 l Z a0 hw T537.heap r537 w0 _ (1 : Int32) w0 (0 : Int64) (0 : Int64) (0 : Int64) (f556.pad (pad_rep [(.long w0)] (.long (0 : Int64)) 3)) ) (by decide) (W := 0) (by decide) e557 (by rw [hml]; rfl) own_pd_8 (argsL := [(.ref r537), (.long w0)]) rfl (S := []) rfl (Nat.le_of_eq rfl) (hb hby at_433) (pc' := 436) rfl (by decide) (by decide) (fun T559 v559 L559 X559 hQ559 => ?_)
          obtain ⟨rfl, e559, rfl⟩ := hQ559
          have N560 := Fr.app N558 (Fr.nil n0)
          refine OwnK.if_ne X559 hx (hb hby at_436) (by decide) (pcT := 441) (by decide) (pc' := 439) rfl (fun hc436 => ?_) (fun (hc436 : (own_in (1 : Int32).toInt w0.toInt (0 : Int64).toInt (0 : Int64).toInt (0 : Int64).toInt w0.toInt).toInt = 0) => absurd ((congrArg Int32.toInt (own_in1 (by omega) : (own_in (1 : Int32).toInt w0.toInt (0 : Int64).toInt (0 : Int64).toInt (0 : Int64).toInt w0.toInt) = 1)).symm.trans hc436) (by decide))
          refine OwnK.iload X559 hx (hb hby at_441) (pc' := 443) rfl (v := (3 : Int32)) rfl ?_
          refine OwnK.iconst X559 hx (hb hby at_443) (pc' := 444) rfl (v := (1 : Int32)) (by decide) ?_
          refine OwnK.icmp_le X559 hx (hb hby at_444) (by decide) (pcT := 461) (by decide) (pc' := 447) rfl (fun (hc444 : 3 ≤ 1) => absurd hc444 (by decide)) (fun hc444 => ?_)
          refine OwnK.aload X559 hx (hb hby at_447) (pc' := 449) rfl (v := (.ref r537)) rfl rfl ?_
          refine OwnK.aload X559 hx (hb hby at_449) (pc' := 451) rfl (v := (.ref a1)) rfl rfl ?_
          refine OwnK.iconst X559 hx (hb hby at_451) (pc' := 452) rfl (v := (1 : Int32)) (by decide) ?_
          refine OwnK.laload X559 hx hZ e559 f543 (by decide) (by first | decide | omega) (v := (.long w1)) rfl (hb hby at_452) (pc' := 453) rfl ?_
          refine OwnK.callS_ X559 hx hZ hown (y := (⟨"com/example/ledgerwire/ledgerwire/store/EntriesRecordsPinLaw", "inR", "([JJ)Z"⟩ : MethodName)) (hw _ (List.mem_of_getElem? (i := 42) rfl)) (hw _ (List.mem_of_getElem? (i := 43) rfl)) (hw _ (List.mem_of_getElem? (i := 3) rfl)) (hw _ (List.mem_of_getElem? (i := 44) rfl)) (by decide) (own_met7 l Z a0 hw T537.heap r537 w1 _ (1 : Int32) w0 (0 : Int64) (0 : Int64) (0 : Int64) (f556.pad (pad_rep [(.long w0)] (.long (0 : Int64)) 3)) ) (by decide) (W := 0) (by decide) e559 (by rw [hml]; rfl) own_pd_8 (argsL := [(.ref r537), (.long w1)]) rfl (S := []) rfl (Nat.le_of_eq rfl) (hb hby at_453) (pc' := 456) rfl (by decide) (by decide) (fun T561 v561 L561 X561 hQ561 => ?_)
          obtain ⟨rfl, e561, rfl⟩ := hQ561
          have N562 := Fr.app N560 (Fr.nil n0)
          refine OwnK.if_ne X561 hx (hb hby at_456) (by decide) (pcT := 461) (by decide) (pc' := 459) rfl (fun hc456 => ?_) (fun (hc456 : (own_in (1 : Int32).toInt w0.toInt (0 : Int64).toInt (0 : Int64).toInt (0 : Int64).toInt w1.toInt).toInt = 0) => absurd ((congrArg Int32.toInt (own_in1 (by omega) : (own_in (1 : Int32).toInt w0.toInt (0 : Int64).toInt (0 : Int64).toInt (0 : Int64).toInt w1.toInt) = 1)).symm.trans hc456) (by decide))
          refine OwnK.iload X561 hx (hb hby at_461) (pc' := 463) rfl (v := (3 : Int32)) rfl ?_
          refine OwnK.iconst X561 hx (hb hby at_463) (pc' := 464) rfl (v := (2 : Int32)) (by decide) ?_
          refine OwnK.icmp_le X561 hx (hb hby at_464) (by decide) (pcT := 481) (by decide) (pc' := 467) rfl (fun (hc464 : 3 ≤ 2) => absurd hc464 (by decide)) (fun hc464 => ?_)
          refine OwnK.aload X561 hx (hb hby at_467) (pc' := 469) rfl (v := (.ref r537)) rfl rfl ?_
          refine OwnK.aload X561 hx (hb hby at_469) (pc' := 471) rfl (v := (.ref a1)) rfl rfl ?_
          refine OwnK.iconst X561 hx (hb hby at_471) (pc' := 472) rfl (v := (2 : Int32)) (by decide) ?_
          refine OwnK.laload X561 hx hZ e561 f543 (by decide) (by first | decide | omega) (v := (.long w2)) rfl (hb hby at_472) (pc' := 473) rfl ?_
          refine OwnK.callS_ X561 hx hZ hown (y := (⟨"com/example/ledgerwire/ledgerwire/store/EntriesRecordsPinLaw", "inR", "([JJ)Z"⟩ : MethodName)) (hw _ (List.mem_of_getElem? (i := 42) rfl)) (hw _ (List.mem_of_getElem? (i := 43) rfl)) (hw _ (List.mem_of_getElem? (i := 3) rfl)) (hw _ (List.mem_of_getElem? (i := 44) rfl)) (by decide) (own_met7 l Z a0 hw T537.heap r537 w2 _ (1 : Int32) w0 (0 : Int64) (0 : Int64) (0 : Int64) (f556.pad (pad_rep [(.long w0)] (.long (0 : Int64)) 3)) ) (by decide) (W := 0) (by decide) e561 (by rw [hml]; rfl) own_pd_8 (argsL := [(.ref r537), (.long w2)]) rfl (S := []) rfl (Nat.le_of_eq rfl) (hb hby at_473) (pc' := 476) rfl (by decide) (by decide) (fun T563 v563 L563 X563 hQ563 => ?_)
          obtain ⟨rfl, e563, rfl⟩ := hQ563
          have N564 := Fr.app N562 (Fr.nil n0)
          refine OwnK.if_ne X563 hx (hb hby at_476) (by decide) (pcT := 481) (by decide) (pc' := 479) rfl (fun hc476 => ?_) (fun (hc476 : (own_in (1 : Int32).toInt w0.toInt (0 : Int64).toInt (0 : Int64).toInt (0 : Int64).toInt w2.toInt).toInt = 0) => absurd ((congrArg Int32.toInt (own_in1 (by omega) : (own_in (1 : Int32).toInt w0.toInt (0 : Int64).toInt (0 : Int64).toInt (0 : Int64).toInt w2.toInt) = 1)).symm.trans hc476) (by decide))
          refine OwnK.iload X563 hx (hb hby at_481) (pc' := 483) rfl (v := (3 : Int32)) rfl ?_
          refine OwnK.iconst X563 hx (hb hby at_483) (pc' := 484) rfl (v := (3 : Int32)) (by decide) ?_
          refine OwnK.icmp_le X563 hx (hb hby at_484) (by decide) (pcT := 501) (by decide) (pc' := 487) rfl (fun hc484 => ?_) (fun (hc484 : 3 < 3) => absurd hc484 (by decide))
          refine OwnK.iconst X563 hx (hb hby at_501) (pc' := 502) rfl (v := (1 : Int32)) (by decide) ?_
          refine OwnK.retN_ X563 hx hret (by simp) hlk (hb hby at_502) (by decide) (by decide) ?_
          exact ⟨rfl, N564⟩
        · refine OwnK.iincL X537 hx (hb hby at_241) (pc' := 244) rfl (x := (1 : Int32)) rfl (v := (2 : Int32)) (by decide) (Ls' := #[.val (.long p0), .second, .val (.long p1), .second, .val (.long p2), .second, .val (.long p3), .second, .val (.int p4), .val (.int p5), .val (.ref a1), .val (.int (3 : Int32)), .val (.ref a434), .val (.ref a468), .val (.ref r537), .val (.int (2 : Int32))]) rfl ?_
          refine OwnK.iload X537 hx (hb hby at_244) (pc' := 246) rfl (v := (3 : Int32)) rfl ?_
          refine OwnK.iconst X537 hx (hb hby at_246) (pc' := 247) rfl (v := (3 : Int32)) (by decide) ?_
          refine OwnK.icmp_le X537 hx (hb hby at_247) (by decide) (pcT := 265) (by decide) (pc' := 250) rfl (fun hc247 => ?_) (fun (hc247 : 3 < 3) => absurd hc247 (by decide))
          have hdd : own_dd [w0, w1, w2] = [w0, w2] := by show _ :: own_go _ _ = _; rw [own_ge (by omega), own_gn (by omega), own_g0]
          have f565 := V537
          rw [hdd] at f565
          have f566 : Arv Z T537.heap r537 _ .long (2 : Int32) [(.long w0), (.long w2)] (.long (0 : Int64)) := f565
          refine OwnK.aload X537 hx (hb hby at_265) (pc' := 267) rfl (v := (.ref r537)) rfl rfl ?_
          refine OwnK.arrlen X537 hx hZ rfl f566 (hb hby at_267) (pc' := 268) rfl ?_
          refine OwnK.iload X537 hx (hb hby at_268) (pc' := 270) rfl (v := (2 : Int32)) rfl ?_
          refine OwnK.icmp_eq X537 hx (hb hby at_270) (by decide) (pcT := 275) (by decide) (pc' := 273) rfl (fun hc270 => ?_) (fun (hc270 : ¬ 2 = 2) => absurd hc270 (by decide))
          refine OwnK.iload X537 hx (hb hby at_275) (pc' := 277) rfl (v := (2 : Int32)) rfl ?_
          refine OwnK.iconst X537 hx (hb hby at_277) (pc' := 278) rfl (v := (1 : Int32)) (by decide) ?_
          refine OwnK.icmp_le X537 hx (hb hby at_278) (by decide) (pcT := 295) (by decide) (pc' := 281) rfl (fun (hc278 : 2 ≤ 1) => absurd hc278 (by decide)) (fun hc278 => ?_)
          refine OwnK.aload X537 hx (hb hby at_281) (pc' := 283) rfl (v := (.ref r537)) rfl rfl ?_
          refine OwnK.iconst X537 hx (hb hby at_283) (pc' := 284) rfl (v := (0 : Int32)) (by decide) ?_
          refine OwnK.laload X537 hx hZ rfl f566 (by decide) (by first | decide | omega) (v := (.long w0)) rfl (hb hby at_284) (pc' := 285) rfl ?_
          refine OwnK.aload X537 hx (hb hby at_285) (pc' := 287) rfl (v := (.ref r537)) rfl rfl ?_
          refine OwnK.iconst X537 hx (hb hby at_287) (pc' := 288) rfl (v := (1 : Int32)) (by decide) ?_
          refine OwnK.laload X537 hx hZ rfl f566 (by decide) (by first | decide | omega) (v := (.long w2)) rfl (hb hby at_288) (pc' := 289) rfl ?_
          refine OwnK.lcmp_lt X537 hx (hb hby at_289) (pc1 := 290) rfl (hb hby at_290) (by decide) (pcT := 295) (by decide) (pc' := 293) rfl (fun hc289 => ?_) (fun (hc289 : w2.toInt ≤ w0.toInt) => by omega)
          refine OwnK.iload X537 hx (hb hby at_295) (pc' := 297) rfl (v := (2 : Int32)) rfl ?_
          refine OwnK.iconst X537 hx (hb hby at_297) (pc' := 298) rfl (v := (2 : Int32)) (by decide) ?_
          refine OwnK.icmp_le X537 hx (hb hby at_298) (by decide) (pcT := 315) (by decide) (pc' := 301) rfl (fun hc298 => ?_) (fun (hc298 : 2 < 2) => absurd hc298 (by decide))
          refine OwnK.iload X537 hx (hb hby at_315) (pc' := 317) rfl (v := (2 : Int32)) rfl ?_
          refine OwnK.iconst X537 hx (hb hby at_317) (pc' := 318) rfl (v := (3 : Int32)) (by decide) ?_
          refine OwnK.icmp_le X537 hx (hb hby at_318) (by decide) (pcT := 335) (by decide) (pc' := 321) rfl (fun hc318 => ?_) (fun (hc318 : 3 < 2) => absurd hc318 (by decide))
          refine OwnK.iload X537 hx (hb hby at_335) (pc' := 337) rfl (v := (2 : Int32)) rfl ?_
          refine OwnK.if_le X537 hx (hb hby at_337) (by decide) (pcT := 356) (by decide) (pc' := 340) rfl (fun (hc337 : 2 ≤ 0) => absurd hc337 (by decide)) (fun hc337 => ?_)
          refine OwnK.aload X537 hx (hb hby at_340) (pc' := 342) rfl (v := (.ref a1)) rfl rfl ?_
          refine OwnK.iload X537 hx (hb hby at_342) (pc' := 344) rfl (v := (3 : Int32)) rfl ?_
          refine OwnK.aload X537 hx (hb hby at_344) (pc' := 346) rfl (v := (.ref r537)) rfl rfl ?_
          refine OwnK.iconst X537 hx (hb hby at_346) (pc' := 347) rfl (v := (0 : Int32)) (by decide) ?_
          refine OwnK.laload X537 hx hZ rfl f566 (by decide) (by first | decide | omega) (v := (.long w0)) rfl (hb hby at_347) (pc' := 348) rfl ?_
          refine OwnK.callS_ X537 hx hZ hown (y := (⟨"com/example/ledgerwire/ledgerwire/store/EntriesRecordsPinLaw", "inS", "([JIJ)Z"⟩ : MethodName)) (hw _ (List.mem_of_getElem? (i := 39) rfl)) (hw _ (List.mem_of_getElem? (i := 40) rfl)) (hw _ (List.mem_of_getElem? (i := 3) rfl)) (hw _ (List.mem_of_getElem? (i := 41) rfl)) (by decide) (own_met6 l Z a0 hw T537.heap a1 (3 : Int32) w0 _ w0 w1 w2 w3 f543 ) (by decide) (W := 0) (by decide) rfl (by rw [hml]; rfl) own_pd_7 (argsL := [(.ref a1), (.int (3 : Int32)), (.long w0)]) rfl (S := []) rfl (Nat.le_of_eq rfl) (hb hby at_348) (pc' := 351) rfl (by decide) (by decide) (fun T567 v567 L567 X567 hQ567 => ?_)
          obtain ⟨rfl, e567, rfl⟩ := hQ567
          have N568 := Fr.app N538 (Fr.nil n0)
          refine OwnK.if_ne X567 hx (hb hby at_351) (by decide) (pcT := 356) (by decide) (pc' := 354) rfl (fun hc351 => ?_) (fun (hc351 : (own_in (3 : Int32).toInt w0.toInt w1.toInt w2.toInt w3.toInt w0.toInt).toInt = 0) => absurd ((congrArg Int32.toInt (own_in1 (by omega) : (own_in (3 : Int32).toInt w0.toInt w1.toInt w2.toInt w3.toInt w0.toInt) = 1)).symm.trans hc351) (by decide))
          refine OwnK.iload X567 hx (hb hby at_356) (pc' := 358) rfl (v := (2 : Int32)) rfl ?_
          refine OwnK.iconst X567 hx (hb hby at_358) (pc' := 359) rfl (v := (1 : Int32)) (by decide) ?_
          refine OwnK.icmp_le X567 hx (hb hby at_359) (by decide) (pcT := 378) (by decide) (pc' := 362) rfl (fun (hc359 : 2 ≤ 1) => absurd hc359 (by decide)) (fun hc359 => ?_)
          refine OwnK.aload X567 hx (hb hby at_362) (pc' := 364) rfl (v := (.ref a1)) rfl rfl ?_
          refine OwnK.iload X567 hx (hb hby at_364) (pc' := 366) rfl (v := (3 : Int32)) rfl ?_
          refine OwnK.aload X567 hx (hb hby at_366) (pc' := 368) rfl (v := (.ref r537)) rfl rfl ?_
          refine OwnK.iconst X567 hx (hb hby at_368) (pc' := 369) rfl (v := (1 : Int32)) (by decide) ?_
          refine OwnK.laload X567 hx hZ e567 f566 (by decide) (by first | decide | omega) (v := (.long w2)) rfl (hb hby at_369) (pc' := 370) rfl ?_
          refine OwnK.callS_ X567 hx hZ hown (y := (⟨"com/example/ledgerwire/ledgerwire/store/EntriesRecordsPinLaw", "inS", "([JIJ)Z"⟩ : MethodName)) (hw _ (List.mem_of_getElem? (i := 39) rfl)) (hw _ (List.mem_of_getElem? (i := 40) rfl)) (hw _ (List.mem_of_getElem? (i := 3) rfl)) (hw _ (List.mem_of_getElem? (i := 41) rfl)) (by decide) (own_met6 l Z a0 hw T537.heap a1 (3 : Int32) w2 _ w0 w1 w2 w3 f543 ) (by decide) (W := 0) (by decide) e567 (by rw [hml]; rfl) own_pd_7 (argsL := [(.ref a1), (.int (3 : Int32)), (.long w2)]) rfl (S := []) rfl (Nat.le_of_eq rfl) (hb hby at_370) (pc' := 373) rfl (by decide) (by decide) (fun T569 v569 L569 X569 hQ569 => ?_)
          obtain ⟨rfl, e569, rfl⟩ := hQ569
          have N570 := Fr.app N568 (Fr.nil n0)
          refine OwnK.if_ne X569 hx (hb hby at_373) (by decide) (pcT := 378) (by decide) (pc' := 376) rfl (fun hc373 => ?_) (fun (hc373 : (own_in (3 : Int32).toInt w0.toInt w1.toInt w2.toInt w3.toInt w2.toInt).toInt = 0) => absurd ((congrArg Int32.toInt (own_in1 (by omega) : (own_in (3 : Int32).toInt w0.toInt w1.toInt w2.toInt w3.toInt w2.toInt) = 1)).symm.trans hc373) (by decide))
          refine OwnK.iload X569 hx (hb hby at_378) (pc' := 380) rfl (v := (2 : Int32)) rfl ?_
          refine OwnK.iconst X569 hx (hb hby at_380) (pc' := 381) rfl (v := (2 : Int32)) (by decide) ?_
          refine OwnK.icmp_le X569 hx (hb hby at_381) (by decide) (pcT := 400) (by decide) (pc' := 384) rfl (fun hc381 => ?_) (fun (hc381 : 2 < 2) => absurd hc381 (by decide))
          refine OwnK.iload X569 hx (hb hby at_400) (pc' := 402) rfl (v := (2 : Int32)) rfl ?_
          refine OwnK.iconst X569 hx (hb hby at_402) (pc' := 403) rfl (v := (3 : Int32)) (by decide) ?_
          refine OwnK.icmp_le X569 hx (hb hby at_403) (by decide) (pcT := 422) (by decide) (pc' := 406) rfl (fun hc403 => ?_) (fun (hc403 : 3 < 2) => absurd hc403 (by decide))
          refine OwnK.iload X569 hx (hb hby at_422) (pc' := 424) rfl (v := (3 : Int32)) rfl ?_
          refine OwnK.if_le X569 hx (hb hby at_424) (by decide) (pcT := 441) (by decide) (pc' := 427) rfl (fun (hc424 : 3 ≤ 0) => absurd hc424 (by decide)) (fun hc424 => ?_)
          refine OwnK.aload X569 hx (hb hby at_427) (pc' := 429) rfl (v := (.ref r537)) rfl rfl ?_
          refine OwnK.aload X569 hx (hb hby at_429) (pc' := 431) rfl (v := (.ref a1)) rfl rfl ?_
          refine OwnK.iconst X569 hx (hb hby at_431) (pc' := 432) rfl (v := (0 : Int32)) (by decide) ?_
          refine OwnK.laload X569 hx hZ e569 f543 (by decide) (by first | decide | omega) (v := (.long w0)) rfl (hb hby at_432) (pc' := 433) rfl ?_
          refine OwnK.callS_ X569 hx hZ hown (y := (⟨"com/example/ledgerwire/ledgerwire/store/EntriesRecordsPinLaw", "inR", "([JJ)Z"⟩ : MethodName)) (hw _ (List.mem_of_getElem? (i := 42) rfl)) (hw _ (List.mem_of_getElem? (i := 43) rfl)) (hw _ (List.mem_of_getElem? (i := 3) rfl)) (hw _ (List.mem_of_getElem? (i := 44) rfl)) (by decide) (own_met7 l Z a0 hw T537.heap r537 w0 _ (2 : Int32) w0 w2 (0 : Int64) (0 : Int64) (f566.pad (pad_rep [(.long w0), (.long w2)] (.long (0 : Int64)) 2)) ) (by decide) (W := 0) (by decide) e569 (by rw [hml]; rfl) own_pd_8 (argsL := [(.ref r537), (.long w0)]) rfl (S := []) rfl (Nat.le_of_eq rfl) (hb hby at_433) (pc' := 436) rfl (by decide) (by decide) (fun T571 v571 L571 X571 hQ571 => ?_)
          obtain ⟨rfl, e571, rfl⟩ := hQ571
          have N572 := Fr.app N570 (Fr.nil n0)
          refine OwnK.if_ne X571 hx (hb hby at_436) (by decide) (pcT := 441) (by decide) (pc' := 439) rfl (fun hc436 => ?_) (fun (hc436 : (own_in (2 : Int32).toInt w0.toInt w2.toInt (0 : Int64).toInt (0 : Int64).toInt w0.toInt).toInt = 0) => absurd ((congrArg Int32.toInt (own_in1 (by omega) : (own_in (2 : Int32).toInt w0.toInt w2.toInt (0 : Int64).toInt (0 : Int64).toInt w0.toInt) = 1)).symm.trans hc436) (by decide))
          refine OwnK.iload X571 hx (hb hby at_441) (pc' := 443) rfl (v := (3 : Int32)) rfl ?_
          refine OwnK.iconst X571 hx (hb hby at_443) (pc' := 444) rfl (v := (1 : Int32)) (by decide) ?_
          refine OwnK.icmp_le X571 hx (hb hby at_444) (by decide) (pcT := 461) (by decide) (pc' := 447) rfl (fun (hc444 : 3 ≤ 1) => absurd hc444 (by decide)) (fun hc444 => ?_)
          refine OwnK.aload X571 hx (hb hby at_447) (pc' := 449) rfl (v := (.ref r537)) rfl rfl ?_
          refine OwnK.aload X571 hx (hb hby at_449) (pc' := 451) rfl (v := (.ref a1)) rfl rfl ?_
          refine OwnK.iconst X571 hx (hb hby at_451) (pc' := 452) rfl (v := (1 : Int32)) (by decide) ?_
          refine OwnK.laload X571 hx hZ e571 f543 (by decide) (by first | decide | omega) (v := (.long w1)) rfl (hb hby at_452) (pc' := 453) rfl ?_
          refine OwnK.callS_ X571 hx hZ hown (y := (⟨"com/example/ledgerwire/ledgerwire/store/EntriesRecordsPinLaw", "inR", "([JJ)Z"⟩ : MethodName)) (hw _ (List.mem_of_getElem? (i := 42) rfl)) (hw _ (List.mem_of_getElem? (i := 43) rfl)) (hw _ (List.mem_of_getElem? (i := 3) rfl)) (hw _ (List.mem_of_getElem? (i := 44) rfl)) (by decide) (own_met7 l Z a0 hw T537.heap r537 w1 _ (2 : Int32) w0 w2 (0 : Int64) (0 : Int64) (f566.pad (pad_rep [(.long w0), (.long w2)] (.long (0 : Int64)) 2)) ) (by decide) (W := 0) (by decide) e571 (by rw [hml]; rfl) own_pd_8 (argsL := [(.ref r537), (.long w1)]) rfl (S := []) rfl (Nat.le_of_eq rfl) (hb hby at_453) (pc' := 456) rfl (by decide) (by decide) (fun T573 v573 L573 X573 hQ573 => ?_)
          obtain ⟨rfl, e573, rfl⟩ := hQ573
          have N574 := Fr.app N572 (Fr.nil n0)
          refine OwnK.if_ne X573 hx (hb hby at_456) (by decide) (pcT := 461) (by decide) (pc' := 459) rfl (fun hc456 => ?_) (fun (hc456 : (own_in (2 : Int32).toInt w0.toInt w2.toInt (0 : Int64).toInt (0 : Int64).toInt w1.toInt).toInt = 0) => absurd ((congrArg Int32.toInt (own_in1 (by omega) : (own_in (2 : Int32).toInt w0.toInt w2.toInt (0 : Int64).toInt (0 : Int64).toInt w1.toInt) = 1)).symm.trans hc456) (by decide))
          refine OwnK.iload X573 hx (hb hby at_461) (pc' := 463) rfl (v := (3 : Int32)) rfl ?_
          refine OwnK.iconst X573 hx (hb hby at_463) (pc' := 464) rfl (v := (2 : Int32)) (by decide) ?_
          refine OwnK.icmp_le X573 hx (hb hby at_464) (by decide) (pcT := 481) (by decide) (pc' := 467) rfl (fun (hc464 : 3 ≤ 2) => absurd hc464 (by decide)) (fun hc464 => ?_)
          refine OwnK.aload X573 hx (hb hby at_467) (pc' := 469) rfl (v := (.ref r537)) rfl rfl ?_
          refine OwnK.aload X573 hx (hb hby at_469) (pc' := 471) rfl (v := (.ref a1)) rfl rfl ?_
          refine OwnK.iconst X573 hx (hb hby at_471) (pc' := 472) rfl (v := (2 : Int32)) (by decide) ?_
          refine OwnK.laload X573 hx hZ e573 f543 (by decide) (by first | decide | omega) (v := (.long w2)) rfl (hb hby at_472) (pc' := 473) rfl ?_
          refine OwnK.callS_ X573 hx hZ hown (y := (⟨"com/example/ledgerwire/ledgerwire/store/EntriesRecordsPinLaw", "inR", "([JJ)Z"⟩ : MethodName)) (hw _ (List.mem_of_getElem? (i := 42) rfl)) (hw _ (List.mem_of_getElem? (i := 43) rfl)) (hw _ (List.mem_of_getElem? (i := 3) rfl)) (hw _ (List.mem_of_getElem? (i := 44) rfl)) (by decide) (own_met7 l Z a0 hw T537.heap r537 w2 _ (2 : Int32) w0 w2 (0 : Int64) (0 : Int64) (f566.pad (pad_rep [(.long w0), (.long w2)] (.long (0 : Int64)) 2)) ) (by decide) (W := 0) (by decide) e573 (by rw [hml]; rfl) own_pd_8 (argsL := [(.ref r537), (.long w2)]) rfl (S := []) rfl (Nat.le_of_eq rfl) (hb hby at_473) (pc' := 476) rfl (by decide) (by decide) (fun T575 v575 L575 X575 hQ575 => ?_)
          obtain ⟨rfl, e575, rfl⟩ := hQ575
          have N576 := Fr.app N574 (Fr.nil n0)
          refine OwnK.if_ne X575 hx (hb hby at_476) (by decide) (pcT := 481) (by decide) (pc' := 479) rfl (fun hc476 => ?_) (fun (hc476 : (own_in (2 : Int32).toInt w0.toInt w2.toInt (0 : Int64).toInt (0 : Int64).toInt w2.toInt).toInt = 0) => absurd ((congrArg Int32.toInt (own_in1 (by omega) : (own_in (2 : Int32).toInt w0.toInt w2.toInt (0 : Int64).toInt (0 : Int64).toInt w2.toInt) = 1)).symm.trans hc476) (by decide))
          refine OwnK.iload X575 hx (hb hby at_481) (pc' := 483) rfl (v := (3 : Int32)) rfl ?_
          refine OwnK.iconst X575 hx (hb hby at_483) (pc' := 484) rfl (v := (3 : Int32)) (by decide) ?_
          refine OwnK.icmp_le X575 hx (hb hby at_484) (by decide) (pcT := 501) (by decide) (pc' := 487) rfl (fun hc484 => ?_) (fun (hc484 : 3 < 3) => absurd hc484 (by decide))
          refine OwnK.iconst X575 hx (hb hby at_501) (pc' := 502) rfl (v := (1 : Int32)) (by decide) ?_
          refine OwnK.retN_ X575 hx hret (by simp) hlk (hb hby at_502) (by decide) (by decide) ?_
          exact ⟨rfl, N576⟩
      · refine OwnK.iincL X537 hx (hb hby at_220) (pc' := 223) rfl (x := (1 : Int32)) rfl (v := (2 : Int32)) (by decide) (Ls' := #[.val (.long p0), .second, .val (.long p1), .second, .val (.long p2), .second, .val (.long p3), .second, .val (.int p4), .val (.int p5), .val (.ref a1), .val (.int (3 : Int32)), .val (.ref a434), .val (.ref a468), .val (.ref r537), .val (.int (2 : Int32))]) rfl ?_
        refine OwnK.iload X537 hx (hb hby at_223) (pc' := 225) rfl (v := (3 : Int32)) rfl ?_
        refine OwnK.iconst X537 hx (hb hby at_225) (pc' := 226) rfl (v := (2 : Int32)) (by decide) ?_
        refine OwnK.icmp_le X537 hx (hb hby at_226) (by decide) (pcT := 244) (by decide) (pc' := 229) rfl (fun (hc226 : 3 ≤ 2) => absurd hc226 (by decide)) (fun hc226 => ?_)
        refine OwnK.aload X537 hx (hb hby at_229) (pc' := 231) rfl (v := (.ref a1)) rfl rfl ?_
        refine OwnK.iconst X537 hx (hb hby at_231) (pc' := 232) rfl (v := (2 : Int32)) (by decide) ?_
        refine OwnK.laload X537 hx hZ rfl f543 (by decide) (by first | decide | omega) (v := (.long w2)) rfl (hb hby at_232) (pc' := 233) rfl ?_
        refine OwnK.aload X537 hx (hb hby at_233) (pc' := 235) rfl (v := (.ref a1)) rfl rfl ?_
        refine OwnK.iconst X537 hx (hb hby at_235) (pc' := 236) rfl (v := (1 : Int32)) (by decide) ?_
        refine OwnK.laload X537 hx hZ rfl f543 (by decide) (by first | decide | omega) (v := (.long w1)) rfl (hb hby at_236) (pc' := 237) rfl ?_
        refine OwnK.lcmp_eq X537 hx (hb hby at_237) (pc1 := 238) rfl (hb hby at_238) (by decide) (pcT := 244) (by decide) (pc' := 241) rfl (fun (hc577 : w2.toInt = w1.toInt) => ?_) (fun (hc577 : ¬ w2.toInt = w1.toInt) => ?_)
        · refine OwnK.iload X537 hx (hb hby at_244) (pc' := 246) rfl (v := (3 : Int32)) rfl ?_
          refine OwnK.iconst X537 hx (hb hby at_246) (pc' := 247) rfl (v := (3 : Int32)) (by decide) ?_
          refine OwnK.icmp_le X537 hx (hb hby at_247) (by decide) (pcT := 265) (by decide) (pc' := 250) rfl (fun hc247 => ?_) (fun (hc247 : 3 < 3) => absurd hc247 (by decide))
          have hdd : own_dd [w0, w1, w2] = [w0, w1] := by show _ :: own_go _ _ = _; rw [own_gn (by omega), own_ge (by omega), own_g0]
          have f578 := V537
          rw [hdd] at f578
          have f579 : Arv Z T537.heap r537 _ .long (2 : Int32) [(.long w0), (.long w1)] (.long (0 : Int64)) := f578
          refine OwnK.aload X537 hx (hb hby at_265) (pc' := 267) rfl (v := (.ref r537)) rfl rfl ?_
          refine OwnK.arrlen X537 hx hZ rfl f579 (hb hby at_267) (pc' := 268) rfl ?_
          refine OwnK.iload X537 hx (hb hby at_268) (pc' := 270) rfl (v := (2 : Int32)) rfl ?_
          refine OwnK.icmp_eq X537 hx (hb hby at_270) (by decide) (pcT := 275) (by decide) (pc' := 273) rfl (fun hc270 => ?_) (fun (hc270 : ¬ 2 = 2) => absurd hc270 (by decide))
          refine OwnK.iload X537 hx (hb hby at_275) (pc' := 277) rfl (v := (2 : Int32)) rfl ?_
          refine OwnK.iconst X537 hx (hb hby at_277) (pc' := 278) rfl (v := (1 : Int32)) (by decide) ?_
          refine OwnK.icmp_le X537 hx (hb hby at_278) (by decide) (pcT := 295) (by decide) (pc' := 281) rfl (fun (hc278 : 2 ≤ 1) => absurd hc278 (by decide)) (fun hc278 => ?_)
          refine OwnK.aload X537 hx (hb hby at_281) (pc' := 283) rfl (v := (.ref r537)) rfl rfl ?_
          refine OwnK.iconst X537 hx (hb hby at_283) (pc' := 284) rfl (v := (0 : Int32)) (by decide) ?_
          refine OwnK.laload X537 hx hZ rfl f579 (by decide) (by first | decide | omega) (v := (.long w0)) rfl (hb hby at_284) (pc' := 285) rfl ?_
          refine OwnK.aload X537 hx (hb hby at_285) (pc' := 287) rfl (v := (.ref r537)) rfl rfl ?_
          refine OwnK.iconst X537 hx (hb hby at_287) (pc' := 288) rfl (v := (1 : Int32)) (by decide) ?_
          refine OwnK.laload X537 hx hZ rfl f579 (by decide) (by first | decide | omega) (v := (.long w1)) rfl (hb hby at_288) (pc' := 289) rfl ?_
          refine OwnK.lcmp_lt X537 hx (hb hby at_289) (pc1 := 290) rfl (hb hby at_290) (by decide) (pcT := 295) (by decide) (pc' := 293) rfl (fun hc289 => ?_) (fun (hc289 : w1.toInt ≤ w0.toInt) => by omega)
          refine OwnK.iload X537 hx (hb hby at_295) (pc' := 297) rfl (v := (2 : Int32)) rfl ?_
          refine OwnK.iconst X537 hx (hb hby at_297) (pc' := 298) rfl (v := (2 : Int32)) (by decide) ?_
          refine OwnK.icmp_le X537 hx (hb hby at_298) (by decide) (pcT := 315) (by decide) (pc' := 301) rfl (fun hc298 => ?_) (fun (hc298 : 2 < 2) => absurd hc298 (by decide))
          refine OwnK.iload X537 hx (hb hby at_315) (pc' := 317) rfl (v := (2 : Int32)) rfl ?_
          refine OwnK.iconst X537 hx (hb hby at_317) (pc' := 318) rfl (v := (3 : Int32)) (by decide) ?_
          refine OwnK.icmp_le X537 hx (hb hby at_318) (by decide) (pcT := 335) (by decide) (pc' := 321) rfl (fun hc318 => ?_) (fun (hc318 : 3 < 2) => absurd hc318 (by decide))
          refine OwnK.iload X537 hx (hb hby at_335) (pc' := 337) rfl (v := (2 : Int32)) rfl ?_
          refine OwnK.if_le X537 hx (hb hby at_337) (by decide) (pcT := 356) (by decide) (pc' := 340) rfl (fun (hc337 : 2 ≤ 0) => absurd hc337 (by decide)) (fun hc337 => ?_)
          refine OwnK.aload X537 hx (hb hby at_340) (pc' := 342) rfl (v := (.ref a1)) rfl rfl ?_
          refine OwnK.iload X537 hx (hb hby at_342) (pc' := 344) rfl (v := (3 : Int32)) rfl ?_
          refine OwnK.aload X537 hx (hb hby at_344) (pc' := 346) rfl (v := (.ref r537)) rfl rfl ?_
          refine OwnK.iconst X537 hx (hb hby at_346) (pc' := 347) rfl (v := (0 : Int32)) (by decide) ?_
          refine OwnK.laload X537 hx hZ rfl f579 (by decide) (by first | decide | omega) (v := (.long w0)) rfl (hb hby at_347) (pc' := 348) rfl ?_
          refine OwnK.callS_ X537 hx hZ hown (y := (⟨"com/example/ledgerwire/ledgerwire/store/EntriesRecordsPinLaw", "inS", "([JIJ)Z"⟩ : MethodName)) (hw _ (List.mem_of_getElem? (i := 39) rfl)) (hw _ (List.mem_of_getElem? (i := 40) rfl)) (hw _ (List.mem_of_getElem? (i := 3) rfl)) (hw _ (List.mem_of_getElem? (i := 41) rfl)) (by decide) (own_met6 l Z a0 hw T537.heap a1 (3 : Int32) w0 _ w0 w1 w2 w3 f543 ) (by decide) (W := 0) (by decide) rfl (by rw [hml]; rfl) own_pd_7 (argsL := [(.ref a1), (.int (3 : Int32)), (.long w0)]) rfl (S := []) rfl (Nat.le_of_eq rfl) (hb hby at_348) (pc' := 351) rfl (by decide) (by decide) (fun T580 v580 L580 X580 hQ580 => ?_)
          obtain ⟨rfl, e580, rfl⟩ := hQ580
          have N581 := Fr.app N538 (Fr.nil n0)
          refine OwnK.if_ne X580 hx (hb hby at_351) (by decide) (pcT := 356) (by decide) (pc' := 354) rfl (fun hc351 => ?_) (fun (hc351 : (own_in (3 : Int32).toInt w0.toInt w1.toInt w2.toInt w3.toInt w0.toInt).toInt = 0) => absurd ((congrArg Int32.toInt (own_in1 (by omega) : (own_in (3 : Int32).toInt w0.toInt w1.toInt w2.toInt w3.toInt w0.toInt) = 1)).symm.trans hc351) (by decide))
          refine OwnK.iload X580 hx (hb hby at_356) (pc' := 358) rfl (v := (2 : Int32)) rfl ?_
          refine OwnK.iconst X580 hx (hb hby at_358) (pc' := 359) rfl (v := (1 : Int32)) (by decide) ?_
          refine OwnK.icmp_le X580 hx (hb hby at_359) (by decide) (pcT := 378) (by decide) (pc' := 362) rfl (fun (hc359 : 2 ≤ 1) => absurd hc359 (by decide)) (fun hc359 => ?_)
          refine OwnK.aload X580 hx (hb hby at_362) (pc' := 364) rfl (v := (.ref a1)) rfl rfl ?_
          refine OwnK.iload X580 hx (hb hby at_364) (pc' := 366) rfl (v := (3 : Int32)) rfl ?_
          refine OwnK.aload X580 hx (hb hby at_366) (pc' := 368) rfl (v := (.ref r537)) rfl rfl ?_
          refine OwnK.iconst X580 hx (hb hby at_368) (pc' := 369) rfl (v := (1 : Int32)) (by decide) ?_
          refine OwnK.laload X580 hx hZ e580 f579 (by decide) (by first | decide | omega) (v := (.long w1)) rfl (hb hby at_369) (pc' := 370) rfl ?_
          refine OwnK.callS_ X580 hx hZ hown (y := (⟨"com/example/ledgerwire/ledgerwire/store/EntriesRecordsPinLaw", "inS", "([JIJ)Z"⟩ : MethodName)) (hw _ (List.mem_of_getElem? (i := 39) rfl)) (hw _ (List.mem_of_getElem? (i := 40) rfl)) (hw _ (List.mem_of_getElem? (i := 3) rfl)) (hw _ (List.mem_of_getElem? (i := 41) rfl)) (by decide) (own_met6 l Z a0 hw T537.heap a1 (3 : Int32) w1 _ w0 w1 w2 w3 f543 ) (by decide) (W := 0) (by decide) e580 (by rw [hml]; rfl) own_pd_7 (argsL := [(.ref a1), (.int (3 : Int32)), (.long w1)]) rfl (S := []) rfl (Nat.le_of_eq rfl) (hb hby at_370) (pc' := 373) rfl (by decide) (by decide) (fun T582 v582 L582 X582 hQ582 => ?_)
          obtain ⟨rfl, e582, rfl⟩ := hQ582
          have N583 := Fr.app N581 (Fr.nil n0)
          refine OwnK.if_ne X582 hx (hb hby at_373) (by decide) (pcT := 378) (by decide) (pc' := 376) rfl (fun hc373 => ?_) (fun (hc373 : (own_in (3 : Int32).toInt w0.toInt w1.toInt w2.toInt w3.toInt w1.toInt).toInt = 0) => absurd ((congrArg Int32.toInt (own_in1 (by omega) : (own_in (3 : Int32).toInt w0.toInt w1.toInt w2.toInt w3.toInt w1.toInt) = 1)).symm.trans hc373) (by decide))
          refine OwnK.iload X582 hx (hb hby at_378) (pc' := 380) rfl (v := (2 : Int32)) rfl ?_
          refine OwnK.iconst X582 hx (hb hby at_380) (pc' := 381) rfl (v := (2 : Int32)) (by decide) ?_
          refine OwnK.icmp_le X582 hx (hb hby at_381) (by decide) (pcT := 400) (by decide) (pc' := 384) rfl (fun hc381 => ?_) (fun (hc381 : 2 < 2) => absurd hc381 (by decide))
          refine OwnK.iload X582 hx (hb hby at_400) (pc' := 402) rfl (v := (2 : Int32)) rfl ?_
          refine OwnK.iconst X582 hx (hb hby at_402) (pc' := 403) rfl (v := (3 : Int32)) (by decide) ?_
          refine OwnK.icmp_le X582 hx (hb hby at_403) (by decide) (pcT := 422) (by decide) (pc' := 406) rfl (fun hc403 => ?_) (fun (hc403 : 3 < 2) => absurd hc403 (by decide))
          refine OwnK.iload X582 hx (hb hby at_422) (pc' := 424) rfl (v := (3 : Int32)) rfl ?_
          refine OwnK.if_le X582 hx (hb hby at_424) (by decide) (pcT := 441) (by decide) (pc' := 427) rfl (fun (hc424 : 3 ≤ 0) => absurd hc424 (by decide)) (fun hc424 => ?_)
          refine OwnK.aload X582 hx (hb hby at_427) (pc' := 429) rfl (v := (.ref r537)) rfl rfl ?_
          refine OwnK.aload X582 hx (hb hby at_429) (pc' := 431) rfl (v := (.ref a1)) rfl rfl ?_
          refine OwnK.iconst X582 hx (hb hby at_431) (pc' := 432) rfl (v := (0 : Int32)) (by decide) ?_
          refine OwnK.laload X582 hx hZ e582 f543 (by decide) (by first | decide | omega) (v := (.long w0)) rfl (hb hby at_432) (pc' := 433) rfl ?_
          refine OwnK.callS_ X582 hx hZ hown (y := (⟨"com/example/ledgerwire/ledgerwire/store/EntriesRecordsPinLaw", "inR", "([JJ)Z"⟩ : MethodName)) (hw _ (List.mem_of_getElem? (i := 42) rfl)) (hw _ (List.mem_of_getElem? (i := 43) rfl)) (hw _ (List.mem_of_getElem? (i := 3) rfl)) (hw _ (List.mem_of_getElem? (i := 44) rfl)) (by decide) (own_met7 l Z a0 hw T537.heap r537 w0 _ (2 : Int32) w0 w1 (0 : Int64) (0 : Int64) (f579.pad (pad_rep [(.long w0), (.long w1)] (.long (0 : Int64)) 2)) ) (by decide) (W := 0) (by decide) e582 (by rw [hml]; rfl) own_pd_8 (argsL := [(.ref r537), (.long w0)]) rfl (S := []) rfl (Nat.le_of_eq rfl) (hb hby at_433) (pc' := 436) rfl (by decide) (by decide) (fun T584 v584 L584 X584 hQ584 => ?_)
          obtain ⟨rfl, e584, rfl⟩ := hQ584
          have N585 := Fr.app N583 (Fr.nil n0)
          refine OwnK.if_ne X584 hx (hb hby at_436) (by decide) (pcT := 441) (by decide) (pc' := 439) rfl (fun hc436 => ?_) (fun (hc436 : (own_in (2 : Int32).toInt w0.toInt w1.toInt (0 : Int64).toInt (0 : Int64).toInt w0.toInt).toInt = 0) => absurd ((congrArg Int32.toInt (own_in1 (by omega) : (own_in (2 : Int32).toInt w0.toInt w1.toInt (0 : Int64).toInt (0 : Int64).toInt w0.toInt) = 1)).symm.trans hc436) (by decide))
          refine OwnK.iload X584 hx (hb hby at_441) (pc' := 443) rfl (v := (3 : Int32)) rfl ?_
          refine OwnK.iconst X584 hx (hb hby at_443) (pc' := 444) rfl (v := (1 : Int32)) (by decide) ?_
          refine OwnK.icmp_le X584 hx (hb hby at_444) (by decide) (pcT := 461) (by decide) (pc' := 447) rfl (fun (hc444 : 3 ≤ 1) => absurd hc444 (by decide)) (fun hc444 => ?_)
          refine OwnK.aload X584 hx (hb hby at_447) (pc' := 449) rfl (v := (.ref r537)) rfl rfl ?_
          refine OwnK.aload X584 hx (hb hby at_449) (pc' := 451) rfl (v := (.ref a1)) rfl rfl ?_
          refine OwnK.iconst X584 hx (hb hby at_451) (pc' := 452) rfl (v := (1 : Int32)) (by decide) ?_
          refine OwnK.laload X584 hx hZ e584 f543 (by decide) (by first | decide | omega) (v := (.long w1)) rfl (hb hby at_452) (pc' := 453) rfl ?_
          refine OwnK.callS_ X584 hx hZ hown (y := (⟨"com/example/ledgerwire/ledgerwire/store/EntriesRecordsPinLaw", "inR", "([JJ)Z"⟩ : MethodName)) (hw _ (List.mem_of_getElem? (i := 42) rfl)) (hw _ (List.mem_of_getElem? (i := 43) rfl)) (hw _ (List.mem_of_getElem? (i := 3) rfl)) (hw _ (List.mem_of_getElem? (i := 44) rfl)) (by decide) (own_met7 l Z a0 hw T537.heap r537 w1 _ (2 : Int32) w0 w1 (0 : Int64) (0 : Int64) (f579.pad (pad_rep [(.long w0), (.long w1)] (.long (0 : Int64)) 2)) ) (by decide) (W := 0) (by decide) e584 (by rw [hml]; rfl) own_pd_8 (argsL := [(.ref r537), (.long w1)]) rfl (S := []) rfl (Nat.le_of_eq rfl) (hb hby at_453) (pc' := 456) rfl (by decide) (by decide) (fun T586 v586 L586 X586 hQ586 => ?_)
          obtain ⟨rfl, e586, rfl⟩ := hQ586
          have N587 := Fr.app N585 (Fr.nil n0)
          refine OwnK.if_ne X586 hx (hb hby at_456) (by decide) (pcT := 461) (by decide) (pc' := 459) rfl (fun hc456 => ?_) (fun (hc456 : (own_in (2 : Int32).toInt w0.toInt w1.toInt (0 : Int64).toInt (0 : Int64).toInt w1.toInt).toInt = 0) => absurd ((congrArg Int32.toInt (own_in1 (by omega) : (own_in (2 : Int32).toInt w0.toInt w1.toInt (0 : Int64).toInt (0 : Int64).toInt w1.toInt) = 1)).symm.trans hc456) (by decide))
          refine OwnK.iload X586 hx (hb hby at_461) (pc' := 463) rfl (v := (3 : Int32)) rfl ?_
          refine OwnK.iconst X586 hx (hb hby at_463) (pc' := 464) rfl (v := (2 : Int32)) (by decide) ?_
          refine OwnK.icmp_le X586 hx (hb hby at_464) (by decide) (pcT := 481) (by decide) (pc' := 467) rfl (fun (hc464 : 3 ≤ 2) => absurd hc464 (by decide)) (fun hc464 => ?_)
          refine OwnK.aload X586 hx (hb hby at_467) (pc' := 469) rfl (v := (.ref r537)) rfl rfl ?_
          refine OwnK.aload X586 hx (hb hby at_469) (pc' := 471) rfl (v := (.ref a1)) rfl rfl ?_
          refine OwnK.iconst X586 hx (hb hby at_471) (pc' := 472) rfl (v := (2 : Int32)) (by decide) ?_
          refine OwnK.laload X586 hx hZ e586 f543 (by decide) (by first | decide | omega) (v := (.long w2)) rfl (hb hby at_472) (pc' := 473) rfl ?_
          refine OwnK.callS_ X586 hx hZ hown (y := (⟨"com/example/ledgerwire/ledgerwire/store/EntriesRecordsPinLaw", "inR", "([JJ)Z"⟩ : MethodName)) (hw _ (List.mem_of_getElem? (i := 42) rfl)) (hw _ (List.mem_of_getElem? (i := 43) rfl)) (hw _ (List.mem_of_getElem? (i := 3) rfl)) (hw _ (List.mem_of_getElem? (i := 44) rfl)) (by decide) (own_met7 l Z a0 hw T537.heap r537 w2 _ (2 : Int32) w0 w1 (0 : Int64) (0 : Int64) (f579.pad (pad_rep [(.long w0), (.long w1)] (.long (0 : Int64)) 2)) ) (by decide) (W := 0) (by decide) e586 (by rw [hml]; rfl) own_pd_8 (argsL := [(.ref r537), (.long w2)]) rfl (S := []) rfl (Nat.le_of_eq rfl) (hb hby at_473) (pc' := 476) rfl (by decide) (by decide) (fun T588 v588 L588 X588 hQ588 => ?_)
          obtain ⟨rfl, e588, rfl⟩ := hQ588
          have N589 := Fr.app N587 (Fr.nil n0)
          refine OwnK.if_ne X588 hx (hb hby at_476) (by decide) (pcT := 481) (by decide) (pc' := 479) rfl (fun hc476 => ?_) (fun (hc476 : (own_in (2 : Int32).toInt w0.toInt w1.toInt (0 : Int64).toInt (0 : Int64).toInt w2.toInt).toInt = 0) => absurd ((congrArg Int32.toInt (own_in1 (by omega) : (own_in (2 : Int32).toInt w0.toInt w1.toInt (0 : Int64).toInt (0 : Int64).toInt w2.toInt) = 1)).symm.trans hc476) (by decide))
          refine OwnK.iload X588 hx (hb hby at_481) (pc' := 483) rfl (v := (3 : Int32)) rfl ?_
          refine OwnK.iconst X588 hx (hb hby at_483) (pc' := 484) rfl (v := (3 : Int32)) (by decide) ?_
          refine OwnK.icmp_le X588 hx (hb hby at_484) (by decide) (pcT := 501) (by decide) (pc' := 487) rfl (fun hc484 => ?_) (fun (hc484 : 3 < 3) => absurd hc484 (by decide))
          refine OwnK.iconst X588 hx (hb hby at_501) (pc' := 502) rfl (v := (1 : Int32)) (by decide) ?_
          refine OwnK.retN_ X588 hx hret (by simp) hlk (hb hby at_502) (by decide) (by decide) ?_
          exact ⟨rfl, N589⟩
        · refine OwnK.iincL X537 hx (hb hby at_241) (pc' := 244) rfl (x := (2 : Int32)) rfl (v := (3 : Int32)) (by decide) (Ls' := #[.val (.long p0), .second, .val (.long p1), .second, .val (.long p2), .second, .val (.long p3), .second, .val (.int p4), .val (.int p5), .val (.ref a1), .val (.int (3 : Int32)), .val (.ref a434), .val (.ref a468), .val (.ref r537), .val (.int (3 : Int32))]) rfl ?_
          refine OwnK.iload X537 hx (hb hby at_244) (pc' := 246) rfl (v := (3 : Int32)) rfl ?_
          refine OwnK.iconst X537 hx (hb hby at_246) (pc' := 247) rfl (v := (3 : Int32)) (by decide) ?_
          refine OwnK.icmp_le X537 hx (hb hby at_247) (by decide) (pcT := 265) (by decide) (pc' := 250) rfl (fun hc247 => ?_) (fun (hc247 : 3 < 3) => absurd hc247 (by decide))
          have hdd : own_dd [w0, w1, w2] = [w0, w1, w2] := by show _ :: own_go _ _ = _; rw [own_gn (by omega), own_gn (by omega), own_g0]
          have f590 := V537
          rw [hdd] at f590
          have f591 : Arv Z T537.heap r537 _ .long (3 : Int32) [(.long w0), (.long w1), (.long w2)] (.long (0 : Int64)) := f590
          refine OwnK.aload X537 hx (hb hby at_265) (pc' := 267) rfl (v := (.ref r537)) rfl rfl ?_
          refine OwnK.arrlen X537 hx hZ rfl f591 (hb hby at_267) (pc' := 268) rfl ?_
          refine OwnK.iload X537 hx (hb hby at_268) (pc' := 270) rfl (v := (3 : Int32)) rfl ?_
          refine OwnK.icmp_eq X537 hx (hb hby at_270) (by decide) (pcT := 275) (by decide) (pc' := 273) rfl (fun hc270 => ?_) (fun (hc270 : ¬ 3 = 3) => absurd hc270 (by decide))
          refine OwnK.iload X537 hx (hb hby at_275) (pc' := 277) rfl (v := (3 : Int32)) rfl ?_
          refine OwnK.iconst X537 hx (hb hby at_277) (pc' := 278) rfl (v := (1 : Int32)) (by decide) ?_
          refine OwnK.icmp_le X537 hx (hb hby at_278) (by decide) (pcT := 295) (by decide) (pc' := 281) rfl (fun (hc278 : 3 ≤ 1) => absurd hc278 (by decide)) (fun hc278 => ?_)
          refine OwnK.aload X537 hx (hb hby at_281) (pc' := 283) rfl (v := (.ref r537)) rfl rfl ?_
          refine OwnK.iconst X537 hx (hb hby at_283) (pc' := 284) rfl (v := (0 : Int32)) (by decide) ?_
          refine OwnK.laload X537 hx hZ rfl f591 (by decide) (by first | decide | omega) (v := (.long w0)) rfl (hb hby at_284) (pc' := 285) rfl ?_
          refine OwnK.aload X537 hx (hb hby at_285) (pc' := 287) rfl (v := (.ref r537)) rfl rfl ?_
          refine OwnK.iconst X537 hx (hb hby at_287) (pc' := 288) rfl (v := (1 : Int32)) (by decide) ?_
          refine OwnK.laload X537 hx hZ rfl f591 (by decide) (by first | decide | omega) (v := (.long w1)) rfl (hb hby at_288) (pc' := 289) rfl ?_
          refine OwnK.lcmp_lt X537 hx (hb hby at_289) (pc1 := 290) rfl (hb hby at_290) (by decide) (pcT := 295) (by decide) (pc' := 293) rfl (fun hc289 => ?_) (fun (hc289 : w1.toInt ≤ w0.toInt) => by omega)
          refine OwnK.iload X537 hx (hb hby at_295) (pc' := 297) rfl (v := (3 : Int32)) rfl ?_
          refine OwnK.iconst X537 hx (hb hby at_297) (pc' := 298) rfl (v := (2 : Int32)) (by decide) ?_
          refine OwnK.icmp_le X537 hx (hb hby at_298) (by decide) (pcT := 315) (by decide) (pc' := 301) rfl (fun (hc298 : 3 ≤ 2) => absurd hc298 (by decide)) (fun hc298 => ?_)
          refine OwnK.aload X537 hx (hb hby at_301) (pc' := 303) rfl (v := (.ref r537)) rfl rfl ?_
          refine OwnK.iconst X537 hx (hb hby at_303) (pc' := 304) rfl (v := (1 : Int32)) (by decide) ?_
          refine OwnK.laload X537 hx hZ rfl f591 (by decide) (by first | decide | omega) (v := (.long w1)) rfl (hb hby at_304) (pc' := 305) rfl ?_
          refine OwnK.aload X537 hx (hb hby at_305) (pc' := 307) rfl (v := (.ref r537)) rfl rfl ?_
          refine OwnK.iconst X537 hx (hb hby at_307) (pc' := 308) rfl (v := (2 : Int32)) (by decide) ?_
          refine OwnK.laload X537 hx hZ rfl f591 (by decide) (by first | decide | omega) (v := (.long w2)) rfl (hb hby at_308) (pc' := 309) rfl ?_
          refine OwnK.lcmp_lt X537 hx (hb hby at_309) (pc1 := 310) rfl (hb hby at_310) (by decide) (pcT := 315) (by decide) (pc' := 313) rfl (fun hc309 => ?_) (fun (hc309 : w2.toInt ≤ w1.toInt) => by omega)
          refine OwnK.iload X537 hx (hb hby at_315) (pc' := 317) rfl (v := (3 : Int32)) rfl ?_
          refine OwnK.iconst X537 hx (hb hby at_317) (pc' := 318) rfl (v := (3 : Int32)) (by decide) ?_
          refine OwnK.icmp_le X537 hx (hb hby at_318) (by decide) (pcT := 335) (by decide) (pc' := 321) rfl (fun hc318 => ?_) (fun (hc318 : 3 < 3) => absurd hc318 (by decide))
          refine OwnK.iload X537 hx (hb hby at_335) (pc' := 337) rfl (v := (3 : Int32)) rfl ?_
          refine OwnK.if_le X537 hx (hb hby at_337) (by decide) (pcT := 356) (by decide) (pc' := 340) rfl (fun (hc337 : 3 ≤ 0) => absurd hc337 (by decide)) (fun hc337 => ?_)
          refine OwnK.aload X537 hx (hb hby at_340) (pc' := 342) rfl (v := (.ref a1)) rfl rfl ?_
          refine OwnK.iload X537 hx (hb hby at_342) (pc' := 344) rfl (v := (3 : Int32)) rfl ?_
          refine OwnK.aload X537 hx (hb hby at_344) (pc' := 346) rfl (v := (.ref r537)) rfl rfl ?_
          refine OwnK.iconst X537 hx (hb hby at_346) (pc' := 347) rfl (v := (0 : Int32)) (by decide) ?_
          refine OwnK.laload X537 hx hZ rfl f591 (by decide) (by first | decide | omega) (v := (.long w0)) rfl (hb hby at_347) (pc' := 348) rfl ?_
          refine OwnK.callS_ X537 hx hZ hown (y := (⟨"com/example/ledgerwire/ledgerwire/store/EntriesRecordsPinLaw", "inS", "([JIJ)Z"⟩ : MethodName)) (hw _ (List.mem_of_getElem? (i := 39) rfl)) (hw _ (List.mem_of_getElem? (i := 40) rfl)) (hw _ (List.mem_of_getElem? (i := 3) rfl)) (hw _ (List.mem_of_getElem? (i := 41) rfl)) (by decide) (own_met6 l Z a0 hw T537.heap a1 (3 : Int32) w0 _ w0 w1 w2 w3 f543 ) (by decide) (W := 0) (by decide) rfl (by rw [hml]; rfl) own_pd_7 (argsL := [(.ref a1), (.int (3 : Int32)), (.long w0)]) rfl (S := []) rfl (Nat.le_of_eq rfl) (hb hby at_348) (pc' := 351) rfl (by decide) (by decide) (fun T592 v592 L592 X592 hQ592 => ?_)
          obtain ⟨rfl, e592, rfl⟩ := hQ592
          have N593 := Fr.app N538 (Fr.nil n0)
          refine OwnK.if_ne X592 hx (hb hby at_351) (by decide) (pcT := 356) (by decide) (pc' := 354) rfl (fun hc351 => ?_) (fun (hc351 : (own_in (3 : Int32).toInt w0.toInt w1.toInt w2.toInt w3.toInt w0.toInt).toInt = 0) => absurd ((congrArg Int32.toInt (own_in1 (by omega) : (own_in (3 : Int32).toInt w0.toInt w1.toInt w2.toInt w3.toInt w0.toInt) = 1)).symm.trans hc351) (by decide))
          refine OwnK.iload X592 hx (hb hby at_356) (pc' := 358) rfl (v := (3 : Int32)) rfl ?_
          refine OwnK.iconst X592 hx (hb hby at_358) (pc' := 359) rfl (v := (1 : Int32)) (by decide) ?_
          refine OwnK.icmp_le X592 hx (hb hby at_359) (by decide) (pcT := 378) (by decide) (pc' := 362) rfl (fun (hc359 : 3 ≤ 1) => absurd hc359 (by decide)) (fun hc359 => ?_)
          refine OwnK.aload X592 hx (hb hby at_362) (pc' := 364) rfl (v := (.ref a1)) rfl rfl ?_
          refine OwnK.iload X592 hx (hb hby at_364) (pc' := 366) rfl (v := (3 : Int32)) rfl ?_
          refine OwnK.aload X592 hx (hb hby at_366) (pc' := 368) rfl (v := (.ref r537)) rfl rfl ?_
          refine OwnK.iconst X592 hx (hb hby at_368) (pc' := 369) rfl (v := (1 : Int32)) (by decide) ?_
          refine OwnK.laload X592 hx hZ e592 f591 (by decide) (by first | decide | omega) (v := (.long w1)) rfl (hb hby at_369) (pc' := 370) rfl ?_
          refine OwnK.callS_ X592 hx hZ hown (y := (⟨"com/example/ledgerwire/ledgerwire/store/EntriesRecordsPinLaw", "inS", "([JIJ)Z"⟩ : MethodName)) (hw _ (List.mem_of_getElem? (i := 39) rfl)) (hw _ (List.mem_of_getElem? (i := 40) rfl)) (hw _ (List.mem_of_getElem? (i := 3) rfl)) (hw _ (List.mem_of_getElem? (i := 41) rfl)) (by decide) (own_met6 l Z a0 hw T537.heap a1 (3 : Int32) w1 _ w0 w1 w2 w3 f543 ) (by decide) (W := 0) (by decide) e592 (by rw [hml]; rfl) own_pd_7 (argsL := [(.ref a1), (.int (3 : Int32)), (.long w1)]) rfl (S := []) rfl (Nat.le_of_eq rfl) (hb hby at_370) (pc' := 373) rfl (by decide) (by decide) (fun T594 v594 L594 X594 hQ594 => ?_)
          obtain ⟨rfl, e594, rfl⟩ := hQ594
          have N595 := Fr.app N593 (Fr.nil n0)
          refine OwnK.if_ne X594 hx (hb hby at_373) (by decide) (pcT := 378) (by decide) (pc' := 376) rfl (fun hc373 => ?_) (fun (hc373 : (own_in (3 : Int32).toInt w0.toInt w1.toInt w2.toInt w3.toInt w1.toInt).toInt = 0) => absurd ((congrArg Int32.toInt (own_in1 (by omega) : (own_in (3 : Int32).toInt w0.toInt w1.toInt w2.toInt w3.toInt w1.toInt) = 1)).symm.trans hc373) (by decide))
          refine OwnK.iload X594 hx (hb hby at_378) (pc' := 380) rfl (v := (3 : Int32)) rfl ?_
          refine OwnK.iconst X594 hx (hb hby at_380) (pc' := 381) rfl (v := (2 : Int32)) (by decide) ?_
          refine OwnK.icmp_le X594 hx (hb hby at_381) (by decide) (pcT := 400) (by decide) (pc' := 384) rfl (fun (hc381 : 3 ≤ 2) => absurd hc381 (by decide)) (fun hc381 => ?_)
          refine OwnK.aload X594 hx (hb hby at_384) (pc' := 386) rfl (v := (.ref a1)) rfl rfl ?_
          refine OwnK.iload X594 hx (hb hby at_386) (pc' := 388) rfl (v := (3 : Int32)) rfl ?_
          refine OwnK.aload X594 hx (hb hby at_388) (pc' := 390) rfl (v := (.ref r537)) rfl rfl ?_
          refine OwnK.iconst X594 hx (hb hby at_390) (pc' := 391) rfl (v := (2 : Int32)) (by decide) ?_
          refine OwnK.laload X594 hx hZ e594 f591 (by decide) (by first | decide | omega) (v := (.long w2)) rfl (hb hby at_391) (pc' := 392) rfl ?_
          refine OwnK.callS_ X594 hx hZ hown (y := (⟨"com/example/ledgerwire/ledgerwire/store/EntriesRecordsPinLaw", "inS", "([JIJ)Z"⟩ : MethodName)) (hw _ (List.mem_of_getElem? (i := 39) rfl)) (hw _ (List.mem_of_getElem? (i := 40) rfl)) (hw _ (List.mem_of_getElem? (i := 3) rfl)) (hw _ (List.mem_of_getElem? (i := 41) rfl)) (by decide) (own_met6 l Z a0 hw T537.heap a1 (3 : Int32) w2 _ w0 w1 w2 w3 f543 ) (by decide) (W := 0) (by decide) e594 (by rw [hml]; rfl) own_pd_7 (argsL := [(.ref a1), (.int (3 : Int32)), (.long w2)]) rfl (S := []) rfl (Nat.le_of_eq rfl) (hb hby at_392) (pc' := 395) rfl (by decide) (by decide) (fun T596 v596 L596 X596 hQ596 => ?_)
          obtain ⟨rfl, e596, rfl⟩ := hQ596
          have N597 := Fr.app N595 (Fr.nil n0)
          refine OwnK.if_ne X596 hx (hb hby at_395) (by decide) (pcT := 400) (by decide) (pc' := 398) rfl (fun hc395 => ?_) (fun (hc395 : (own_in (3 : Int32).toInt w0.toInt w1.toInt w2.toInt w3.toInt w2.toInt).toInt = 0) => absurd ((congrArg Int32.toInt (own_in1 (by omega) : (own_in (3 : Int32).toInt w0.toInt w1.toInt w2.toInt w3.toInt w2.toInt) = 1)).symm.trans hc395) (by decide))
          refine OwnK.iload X596 hx (hb hby at_400) (pc' := 402) rfl (v := (3 : Int32)) rfl ?_
          refine OwnK.iconst X596 hx (hb hby at_402) (pc' := 403) rfl (v := (3 : Int32)) (by decide) ?_
          refine OwnK.icmp_le X596 hx (hb hby at_403) (by decide) (pcT := 422) (by decide) (pc' := 406) rfl (fun hc403 => ?_) (fun (hc403 : 3 < 3) => absurd hc403 (by decide))
          refine OwnK.iload X596 hx (hb hby at_422) (pc' := 424) rfl (v := (3 : Int32)) rfl ?_
          refine OwnK.if_le X596 hx (hb hby at_424) (by decide) (pcT := 441) (by decide) (pc' := 427) rfl (fun (hc424 : 3 ≤ 0) => absurd hc424 (by decide)) (fun hc424 => ?_)
          refine OwnK.aload X596 hx (hb hby at_427) (pc' := 429) rfl (v := (.ref r537)) rfl rfl ?_
          refine OwnK.aload X596 hx (hb hby at_429) (pc' := 431) rfl (v := (.ref a1)) rfl rfl ?_
          refine OwnK.iconst X596 hx (hb hby at_431) (pc' := 432) rfl (v := (0 : Int32)) (by decide) ?_
          refine OwnK.laload X596 hx hZ e596 f543 (by decide) (by first | decide | omega) (v := (.long w0)) rfl (hb hby at_432) (pc' := 433) rfl ?_
          refine OwnK.callS_ X596 hx hZ hown (y := (⟨"com/example/ledgerwire/ledgerwire/store/EntriesRecordsPinLaw", "inR", "([JJ)Z"⟩ : MethodName)) (hw _ (List.mem_of_getElem? (i := 42) rfl)) (hw _ (List.mem_of_getElem? (i := 43) rfl)) (hw _ (List.mem_of_getElem? (i := 3) rfl)) (hw _ (List.mem_of_getElem? (i := 44) rfl)) (by decide) (own_met7 l Z a0 hw T537.heap r537 w0 _ (3 : Int32) w0 w1 w2 (0 : Int64) (f591.pad (pad_rep [(.long w0), (.long w1), (.long w2)] (.long (0 : Int64)) 1)) ) (by decide) (W := 0) (by decide) e596 (by rw [hml]; rfl) own_pd_8 (argsL := [(.ref r537), (.long w0)]) rfl (S := []) rfl (Nat.le_of_eq rfl) (hb hby at_433) (pc' := 436) rfl (by decide) (by decide) (fun T598 v598 L598 X598 hQ598 => ?_)
          obtain ⟨rfl, e598, rfl⟩ := hQ598
          have N599 := Fr.app N597 (Fr.nil n0)
          refine OwnK.if_ne X598 hx (hb hby at_436) (by decide) (pcT := 441) (by decide) (pc' := 439) rfl (fun hc436 => ?_) (fun (hc436 : (own_in (3 : Int32).toInt w0.toInt w1.toInt w2.toInt (0 : Int64).toInt w0.toInt).toInt = 0) => absurd ((congrArg Int32.toInt (own_in1 (by omega) : (own_in (3 : Int32).toInt w0.toInt w1.toInt w2.toInt (0 : Int64).toInt w0.toInt) = 1)).symm.trans hc436) (by decide))
          refine OwnK.iload X598 hx (hb hby at_441) (pc' := 443) rfl (v := (3 : Int32)) rfl ?_
          refine OwnK.iconst X598 hx (hb hby at_443) (pc' := 444) rfl (v := (1 : Int32)) (by decide) ?_
          refine OwnK.icmp_le X598 hx (hb hby at_444) (by decide) (pcT := 461) (by decide) (pc' := 447) rfl (fun (hc444 : 3 ≤ 1) => absurd hc444 (by decide)) (fun hc444 => ?_)
          refine OwnK.aload X598 hx (hb hby at_447) (pc' := 449) rfl (v := (.ref r537)) rfl rfl ?_
          refine OwnK.aload X598 hx (hb hby at_449) (pc' := 451) rfl (v := (.ref a1)) rfl rfl ?_
          refine OwnK.iconst X598 hx (hb hby at_451) (pc' := 452) rfl (v := (1 : Int32)) (by decide) ?_
          refine OwnK.laload X598 hx hZ e598 f543 (by decide) (by first | decide | omega) (v := (.long w1)) rfl (hb hby at_452) (pc' := 453) rfl ?_
          refine OwnK.callS_ X598 hx hZ hown (y := (⟨"com/example/ledgerwire/ledgerwire/store/EntriesRecordsPinLaw", "inR", "([JJ)Z"⟩ : MethodName)) (hw _ (List.mem_of_getElem? (i := 42) rfl)) (hw _ (List.mem_of_getElem? (i := 43) rfl)) (hw _ (List.mem_of_getElem? (i := 3) rfl)) (hw _ (List.mem_of_getElem? (i := 44) rfl)) (by decide) (own_met7 l Z a0 hw T537.heap r537 w1 _ (3 : Int32) w0 w1 w2 (0 : Int64) (f591.pad (pad_rep [(.long w0), (.long w1), (.long w2)] (.long (0 : Int64)) 1)) ) (by decide) (W := 0) (by decide) e598 (by rw [hml]; rfl) own_pd_8 (argsL := [(.ref r537), (.long w1)]) rfl (S := []) rfl (Nat.le_of_eq rfl) (hb hby at_453) (pc' := 456) rfl (by decide) (by decide) (fun T600 v600 L600 X600 hQ600 => ?_)
          obtain ⟨rfl, e600, rfl⟩ := hQ600
          have N601 := Fr.app N599 (Fr.nil n0)
          refine OwnK.if_ne X600 hx (hb hby at_456) (by decide) (pcT := 461) (by decide) (pc' := 459) rfl (fun hc456 => ?_) (fun (hc456 : (own_in (3 : Int32).toInt w0.toInt w1.toInt w2.toInt (0 : Int64).toInt w1.toInt).toInt = 0) => absurd ((congrArg Int32.toInt (own_in1 (by omega) : (own_in (3 : Int32).toInt w0.toInt w1.toInt w2.toInt (0 : Int64).toInt w1.toInt) = 1)).symm.trans hc456) (by decide))
          refine OwnK.iload X600 hx (hb hby at_461) (pc' := 463) rfl (v := (3 : Int32)) rfl ?_
          refine OwnK.iconst X600 hx (hb hby at_463) (pc' := 464) rfl (v := (2 : Int32)) (by decide) ?_
          refine OwnK.icmp_le X600 hx (hb hby at_464) (by decide) (pcT := 481) (by decide) (pc' := 467) rfl (fun (hc464 : 3 ≤ 2) => absurd hc464 (by decide)) (fun hc464 => ?_)
          refine OwnK.aload X600 hx (hb hby at_467) (pc' := 469) rfl (v := (.ref r537)) rfl rfl ?_
          refine OwnK.aload X600 hx (hb hby at_469) (pc' := 471) rfl (v := (.ref a1)) rfl rfl ?_
          refine OwnK.iconst X600 hx (hb hby at_471) (pc' := 472) rfl (v := (2 : Int32)) (by decide) ?_
          refine OwnK.laload X600 hx hZ e600 f543 (by decide) (by first | decide | omega) (v := (.long w2)) rfl (hb hby at_472) (pc' := 473) rfl ?_
          refine OwnK.callS_ X600 hx hZ hown (y := (⟨"com/example/ledgerwire/ledgerwire/store/EntriesRecordsPinLaw", "inR", "([JJ)Z"⟩ : MethodName)) (hw _ (List.mem_of_getElem? (i := 42) rfl)) (hw _ (List.mem_of_getElem? (i := 43) rfl)) (hw _ (List.mem_of_getElem? (i := 3) rfl)) (hw _ (List.mem_of_getElem? (i := 44) rfl)) (by decide) (own_met7 l Z a0 hw T537.heap r537 w2 _ (3 : Int32) w0 w1 w2 (0 : Int64) (f591.pad (pad_rep [(.long w0), (.long w1), (.long w2)] (.long (0 : Int64)) 1)) ) (by decide) (W := 0) (by decide) e600 (by rw [hml]; rfl) own_pd_8 (argsL := [(.ref r537), (.long w2)]) rfl (S := []) rfl (Nat.le_of_eq rfl) (hb hby at_473) (pc' := 476) rfl (by decide) (by decide) (fun T602 v602 L602 X602 hQ602 => ?_)
          obtain ⟨rfl, e602, rfl⟩ := hQ602
          have N603 := Fr.app N601 (Fr.nil n0)
          refine OwnK.if_ne X602 hx (hb hby at_476) (by decide) (pcT := 481) (by decide) (pc' := 479) rfl (fun hc476 => ?_) (fun (hc476 : (own_in (3 : Int32).toInt w0.toInt w1.toInt w2.toInt (0 : Int64).toInt w2.toInt).toInt = 0) => absurd ((congrArg Int32.toInt (own_in1 (by omega) : (own_in (3 : Int32).toInt w0.toInt w1.toInt w2.toInt (0 : Int64).toInt w2.toInt) = 1)).symm.trans hc476) (by decide))
          refine OwnK.iload X602 hx (hb hby at_481) (pc' := 483) rfl (v := (3 : Int32)) rfl ?_
          refine OwnK.iconst X602 hx (hb hby at_483) (pc' := 484) rfl (v := (3 : Int32)) (by decide) ?_
          refine OwnK.icmp_le X602 hx (hb hby at_484) (by decide) (pcT := 501) (by decide) (pc' := 487) rfl (fun hc484 => ?_) (fun (hc484 : 3 < 3) => absurd hc484 (by decide))
          refine OwnK.iconst X602 hx (hb hby at_501) (pc' := 502) rfl (v := (1 : Int32)) (by decide) ?_
          refine OwnK.retN_ X602 hx hret (by simp) hlk (hb hby at_502) (by decide) (by decide) ?_
          exact ⟨rfl, N603⟩
    · refine OwnK.iconst X1 hx (hb hby at_112) (pc' := 113) rfl (v := (4 : Int32)) (by decide) ?_
      refine OwnK.newP_ X1 hx hZ (hw _ (List.mem_of_getElem? (i := 5) rfl)) el1 (hb hby at_113) (pc' := 115) rfl (n := (4 : Int32)) (by decide) (cap := 4) (by decide) (by decide) (by decide) (by decide) (ad := "[I") (by decide) (fun T604 h604 a604 k604 X604 e604 g604 E604 V604 Q604 => ?_)
      have q605 : a1 ≠ a604 := Nat.ne_of_lt (Nat.lt_of_lt_of_le V1.lt (Nat.le_of_eq g604.symm))
      have ge_a604 : n0 ≤ a604 := Nat.le_trans z1 (Nat.le_of_eq g604.symm)
      have z606 : n0 ≤ h604.size := Nat.le_trans z1 E604.1
      have f607 := V1.ext E604
      have f608 := Q1.ext E604
      have f609 : Arv Z h604 a604 k604 .int (4 : Int32) [(.int (0 : Int32)), (.int (0 : Int32)), (.int (0 : Int32)), (.int (0 : Int32))] (.int (0 : Int32)) := V604.pad (pad_rep [] (.int (0 : Int32)) 4)
      refine OwnK.dup X604 hx (hb hby at_115) (pc' := 116) rfl rfl ?_
      refine OwnK.iconst X604 hx (hb hby at_116) (pc' := 117) rfl (v := (0 : Int32)) (by decide) ?_
      refine OwnK.iconst X604 hx (hb hby at_117) (pc' := 118) rfl (v := (0 : Int32)) (by decide) ?_
      refine OwnK.iastore X604 hx hZ e604 f609 (i := 0) (by decide) (by first | decide | omega) (Nat.le_of_ble_eq_true rfl) (hb hby at_118) (pc' := 119) rfl (fun T610 h610 X610 e610 W610 V610 => ?_)
      have f611 := f607.other W610 q605
      have f612 := f608.wr W610
      have f613 := Q604.wr W610
      have f614 : Arv Z h610 a604 _ .int (4 : Int32) [(.int (0 : Int32)), (.int (0 : Int32)), (.int (0 : Int32)), (.int (0 : Int32))] (.int (0 : Int32)) := V610
      have N615 := Fr.snoc X610 N1 ge_a604
      have z616 : n0 ≤ h610.size := Nat.le_trans z606 (Keep.of_wr W610).1
      refine OwnK.dup X610 hx (hb hby at_119) (pc' := 120) rfl rfl ?_
      refine OwnK.iconst X610 hx (hb hby at_120) (pc' := 121) rfl (v := (1 : Int32)) (by decide) ?_
      refine OwnK.iconst X610 hx (hb hby at_121) (pc' := 122) rfl (v := (1 : Int32)) (by decide) ?_
      refine OwnK.iastore X610 hx hZ e610 f614 (i := 1) (by decide) (by first | decide | omega) (Nat.le_of_ble_eq_true rfl) (hb hby at_122) (pc' := 123) rfl (fun T617 h617 X617 e617 W617 V617 => ?_)
      have f618 := f611.other W617 q605
      have f619 := f612.wr W617
      have f620 := f613.wr W617
      have f621 : Arv Z h617 a604 _ .int (4 : Int32) [(.int (0 : Int32)), (.int (1 : Int32)), (.int (0 : Int32)), (.int (0 : Int32))] (.int (0 : Int32)) := V617
      have N622 := Fr.snoc X617 N615 ge_a604
      have z623 : n0 ≤ h617.size := Nat.le_trans z616 (Keep.of_wr W617).1
      refine OwnK.dup X617 hx (hb hby at_123) (pc' := 124) rfl rfl ?_
      refine OwnK.iconst X617 hx (hb hby at_124) (pc' := 125) rfl (v := (2 : Int32)) (by decide) ?_
      refine OwnK.iconst X617 hx (hb hby at_125) (pc' := 126) rfl (v := (2 : Int32)) (by decide) ?_
      refine OwnK.iastore X617 hx hZ e617 f621 (i := 2) (by decide) (by first | decide | omega) (Nat.le_of_ble_eq_true rfl) (hb hby at_126) (pc' := 127) rfl (fun T624 h624 X624 e624 W624 V624 => ?_)
      have f625 := f618.other W624 q605
      have f626 := f619.wr W624
      have f627 := f620.wr W624
      have f628 : Arv Z h624 a604 _ .int (4 : Int32) [(.int (0 : Int32)), (.int (1 : Int32)), (.int (2 : Int32)), (.int (0 : Int32))] (.int (0 : Int32)) := V624
      have N629 := Fr.snoc X624 N622 ge_a604
      have z630 : n0 ≤ h624.size := Nat.le_trans z623 (Keep.of_wr W624).1
      refine OwnK.dup X624 hx (hb hby at_127) (pc' := 128) rfl rfl ?_
      refine OwnK.iconst X624 hx (hb hby at_128) (pc' := 129) rfl (v := (3 : Int32)) (by decide) ?_
      refine OwnK.iconst X624 hx (hb hby at_129) (pc' := 130) rfl (v := (3 : Int32)) (by decide) ?_
      refine OwnK.iastore X624 hx hZ e624 f628 (i := 3) (by decide) (by first | decide | omega) (Nat.le_of_ble_eq_true rfl) (hb hby at_130) (pc' := 131) rfl (fun T631 h631 X631 e631 W631 V631 => ?_)
      have f632 := f625.other W631 q605
      have f633 := f626.wr W631
      have f634 := f627.wr W631
      have f635 : Arv Z h631 a604 _ .int (4 : Int32) [(.int (0 : Int32)), (.int (1 : Int32)), (.int (2 : Int32)), (.int (3 : Int32))] (.int (0 : Int32)) := V631
      have N636 := Fr.snoc X631 N629 ge_a604
      have z637 : n0 ≤ h631.size := Nat.le_trans z630 (Keep.of_wr W631).1
      refine OwnK.astore X631 hx (hb hby at_131) (pc' := 133) rfl rfl (Ls' := #[.val (.long p0), .second, .val (.long p1), .second, .val (.long p2), .second, .val (.long p3), .second, .val (.int p4), .val (.int p5), .val (.ref a1), .val (.int (4 : Int32)), .val (.ref a604), .unset, .unset, .unset]) rfl ?_
      refine OwnK.iconst X631 hx (hb hby at_133) (pc' := 134) rfl (v := (4 : Int32)) (by decide) ?_
      refine OwnK.newP_ X631 hx hZ (hw _ (List.mem_of_getElem? (i := 0) rfl)) e631 (hb hby at_134) (pc' := 136) rfl (n := (4 : Int32)) (by decide) (cap := 4) (by decide) (by decide) (by decide) (by decide) (ad := "[J") (by decide) (fun T638 h638 a638 k638 X638 e638 g638 E638 V638 Q638 => ?_)
      have q639 : a1 ≠ a638 := Nat.ne_of_lt (Nat.lt_of_lt_of_le f632.lt (Nat.le_of_eq g638.symm))
      have q640 : a604 ≠ a638 := Nat.ne_of_lt (Nat.lt_of_lt_of_le f635.lt (Nat.le_of_eq g638.symm))
      have ge_a638 : n0 ≤ a638 := Nat.le_trans z637 (Nat.le_of_eq g638.symm)
      have z641 : n0 ≤ h638.size := Nat.le_trans z637 E638.1
      have f642 := f632.ext E638
      have f643 := f633.ext E638
      have f644 := f635.ext E638
      have f645 := f634.ext E638
      have f646 : Arv Z h638 a638 k638 .long (4 : Int32) [(.long (0 : Int64)), (.long (0 : Int64)), (.long (0 : Int64)), (.long (0 : Int64))] (.long (0 : Int64)) := V638.pad (pad_rep [] (.long (0 : Int64)) 4)
      refine OwnK.dup X638 hx (hb hby at_136) (pc' := 137) rfl rfl ?_
      refine OwnK.iconst X638 hx (hb hby at_137) (pc' := 138) rfl (v := (0 : Int32)) (by decide) ?_
      refine OwnK.aload X638 hx (hb hby at_138) (pc' := 140) rfl (v := (.ref a1)) rfl rfl ?_
      refine OwnK.iconst X638 hx (hb hby at_140) (pc' := 141) rfl (v := (0 : Int32)) (by decide) ?_
      refine OwnK.laload X638 hx hZ e638 f642 (by decide) (by first | decide | omega) (v := (.long w0)) rfl (hb hby at_141) (pc' := 142) rfl ?_
      refine OwnK.lastore X638 hx hZ e638 f646 (i := 0) (by decide) (by first | decide | omega) (Nat.le_of_ble_eq_true rfl) (hb hby at_142) (pc' := 143) rfl (fun T647 h647 X647 e647 W647 V647 => ?_)
      have f648 := f642.other W647 q639
      have f649 := f643.wr W647
      have f650 := f644.other W647 q640
      have f651 := f645.wr W647
      have f652 := Q638.wr W647
      have f653 : Arv Z h647 a638 _ .long (4 : Int32) [(.long w0), (.long (0 : Int64)), (.long (0 : Int64)), (.long (0 : Int64))] (.long (0 : Int64)) := V647
      have N654 := Fr.snoc X647 N636 ge_a638
      have z655 : n0 ≤ h647.size := Nat.le_trans z641 (Keep.of_wr W647).1
      refine OwnK.dup X647 hx (hb hby at_143) (pc' := 144) rfl rfl ?_
      refine OwnK.iconst X647 hx (hb hby at_144) (pc' := 145) rfl (v := (1 : Int32)) (by decide) ?_
      refine OwnK.aload X647 hx (hb hby at_145) (pc' := 147) rfl (v := (.ref a1)) rfl rfl ?_
      refine OwnK.iconst X647 hx (hb hby at_147) (pc' := 148) rfl (v := (1 : Int32)) (by decide) ?_
      refine OwnK.laload X647 hx hZ e647 f648 (by decide) (by first | decide | omega) (v := (.long w1)) rfl (hb hby at_148) (pc' := 149) rfl ?_
      refine OwnK.lastore X647 hx hZ e647 f653 (i := 1) (by decide) (by first | decide | omega) (Nat.le_of_ble_eq_true rfl) (hb hby at_149) (pc' := 150) rfl (fun T656 h656 X656 e656 W656 V656 => ?_)
      have f657 := f648.other W656 q639
      have f658 := f649.wr W656
      have f659 := f650.other W656 q640
      have f660 := f651.wr W656
      have f661 := f652.wr W656
      have f662 : Arv Z h656 a638 _ .long (4 : Int32) [(.long w0), (.long w1), (.long (0 : Int64)), (.long (0 : Int64))] (.long (0 : Int64)) := V656
      have N663 := Fr.snoc X656 N654 ge_a638
      have z664 : n0 ≤ h656.size := Nat.le_trans z655 (Keep.of_wr W656).1
      refine OwnK.dup X656 hx (hb hby at_150) (pc' := 151) rfl rfl ?_
      refine OwnK.iconst X656 hx (hb hby at_151) (pc' := 152) rfl (v := (2 : Int32)) (by decide) ?_
      refine OwnK.aload X656 hx (hb hby at_152) (pc' := 154) rfl (v := (.ref a1)) rfl rfl ?_
      refine OwnK.iconst X656 hx (hb hby at_154) (pc' := 155) rfl (v := (2 : Int32)) (by decide) ?_
      refine OwnK.laload X656 hx hZ e656 f657 (by decide) (by first | decide | omega) (v := (.long w2)) rfl (hb hby at_155) (pc' := 156) rfl ?_
      refine OwnK.lastore X656 hx hZ e656 f662 (i := 2) (by decide) (by first | decide | omega) (Nat.le_of_ble_eq_true rfl) (hb hby at_156) (pc' := 157) rfl (fun T665 h665 X665 e665 W665 V665 => ?_)
      have f666 := f657.other W665 q639
      have f667 := f658.wr W665
      have f668 := f659.other W665 q640
      have f669 := f660.wr W665
      have f670 := f661.wr W665
      have f671 : Arv Z h665 a638 _ .long (4 : Int32) [(.long w0), (.long w1), (.long w2), (.long (0 : Int64))] (.long (0 : Int64)) := V665
      have N672 := Fr.snoc X665 N663 ge_a638
      have z673 : n0 ≤ h665.size := Nat.le_trans z664 (Keep.of_wr W665).1
      refine OwnK.dup X665 hx (hb hby at_157) (pc' := 158) rfl rfl ?_
      refine OwnK.iconst X665 hx (hb hby at_158) (pc' := 159) rfl (v := (3 : Int32)) (by decide) ?_
      refine OwnK.aload X665 hx (hb hby at_159) (pc' := 161) rfl (v := (.ref a1)) rfl rfl ?_
      refine OwnK.iconst X665 hx (hb hby at_161) (pc' := 162) rfl (v := (3 : Int32)) (by decide) ?_
      refine OwnK.laload X665 hx hZ e665 f666 (by decide) (by first | decide | omega) (v := (.long w3)) rfl (hb hby at_162) (pc' := 163) rfl ?_
      refine OwnK.lastore X665 hx hZ e665 f671 (i := 3) (by decide) (by first | decide | omega) (Nat.le_of_ble_eq_true rfl) (hb hby at_163) (pc' := 164) rfl (fun T674 h674 X674 e674 W674 V674 => ?_)
      have f675 := f666.other W674 q639
      have f676 := f667.wr W674
      have f677 := f668.other W674 q640
      have f678 := f669.wr W674
      have f679 := f670.wr W674
      have f680 : Arv Z h674 a638 _ .long (4 : Int32) [(.long w0), (.long w1), (.long w2), (.long w3)] (.long (0 : Int64)) := V674
      have N681 := Fr.snoc X674 N672 ge_a638
      have z682 : n0 ≤ h674.size := Nat.le_trans z673 (Keep.of_wr W674).1
      refine OwnK.astore X674 hx (hb hby at_164) (pc' := 166) rfl rfl (Ls' := #[.val (.long p0), .second, .val (.long p1), .second, .val (.long p2), .second, .val (.long p3), .second, .val (.int p4), .val (.int p5), .val (.ref a1), .val (.int (4 : Int32)), .val (.ref a604), .val (.ref a638), .unset, .unset]) rfl ?_
      refine OwnK.new_ X674 hx hZ hown (hw _ (List.mem_of_getElem? (i := 6) rfl)) (hw _ (List.mem_of_getElem? (i := 7) rfl)) (hw _ (List.mem_of_getElem? (i := 8) rfl)) e674 (hb hby at_166) (pc' := 169) rfl (by decide) (by decide) (fun T683 h683 a683 X683 e683 g683 E683 A683 D683 => ?_)
      have q684 : a1 ≠ a683 := Nat.ne_of_lt (Nat.lt_of_lt_of_le f675.lt (Nat.le_of_eq g683.symm))
      have q685 : a604 ≠ a683 := Nat.ne_of_lt (Nat.lt_of_lt_of_le f677.lt (Nat.le_of_eq g683.symm))
      have q686 : a638 ≠ a683 := Nat.ne_of_lt (Nat.lt_of_lt_of_le f680.lt (Nat.le_of_eq g683.symm))
      have ge_a683 : n0 ≤ a683 := Nat.le_trans z682 (Nat.le_of_eq g683.symm)
      have z687 : n0 ≤ h683.size := Nat.le_trans z682 E683.1
      have f688 := f675.ext E683
      have f689 := f676.ext E683
      have f690 := f677.ext E683
      have f691 := f678.ext E683
      have f692 := f680.ext E683
      have f693 := f679.ext E683
      have f694 : Fld Z h683 a683 "com/example/ledgerwire/ledgerwire/store/Entries" "seqs" "[J" .null := D683 (Or.inr (hw _ (List.mem_of_getElem? (i := 16) rfl))) (ty := (.array .long)) (by decide)
      have f695 : Fld Z h683 a683 "com/example/ledgerwire/ledgerwire/store/Entries" "parts" "[I" .null := D683 (Or.inr (hw _ (List.mem_of_getElem? (i := 18) rfl))) (ty := (.array .int)) (by decide)
      have f696 : Fld Z h683 a683 "com/example/ledgerwire/ledgerwire/store/Entries" "size" "I" (.int (0 : Int32)) := D683 (Or.inr (hw _ (List.mem_of_getElem? (i := 20) rfl))) (ty := .int) (by decide)
      refine OwnK.dup X683 hx (hb hby at_169) (pc' := 170) rfl rfl ?_
      refine OwnK.aload X683 hx (hb hby at_170) (pc' := 172) rfl (v := (.ref a638)) rfl rfl ?_
      refine OwnK.aload X683 hx (hb hby at_172) (pc' := 174) rfl (v := (.ref a604)) rfl rfl ?_
      refine OwnK.iload X683 hx (hb hby at_174) (pc' := 176) rfl (v := (4 : Int32)) rfl ?_
      refine OwnK.callI_ X683 hx hZ hown (y := (⟨"com/example/ledgerwire/ledgerwire/store/Entries", "<init>", "([J[II)V"⟩ : MethodName)) (a := a683) rfl (hw _ (List.mem_of_getElem? (i := 9) rfl)) (hw _ (List.mem_of_getElem? (i := 10) rfl)) (hw _ (List.mem_of_getElem? (i := 8) rfl)) (hw _ (List.mem_of_getElem? (i := 11) rfl)) rfl (by decide) (own_met2 l Z a0 hw h683 n0 z687 a683 a638 a604 (4 : Int32)   ge_a683 f694 f695 f696 A683 ) (by decide) (W := 1) (by decide) e683 (by rw [hml]; rfl) own_pd_9 (argsL := [(.ref a638), (.ref a604), (.int (4 : Int32))]) rfl (S := [(.ref a683)]) rfl (Nat.le_of_eq rfl) (hb hby at_176) (pc' := 179) rfl (by decide) (by decide) (fun T697 v697 L697 X697 hQ697 => ?_)
      obtain ⟨rfl, N697q, K697, E697q, Fs697, Fz697⟩ := hQ697
      have N698 := Fr.app N681 N697q
      have f699 := f688.keep K697 (ninS q684 nin0)
      have f700 := f689.keep K697
      have f701 := f690.keep K697 (ninS q685 nin0)
      have f702 := f691.keep K697
      have f703 := f692.keep K697 (ninS q686 nin0)
      have f704 := f693.keep K697
      have f705 := A683.keep K697
      have z706 : n0 ≤ T697.heap.size := Nat.le_trans z687 K697.1
      refine OwnK.callV_ X697 hx hZ hown (y := (⟨"com/example/ledgerwire/ledgerwire/store/Entries", "records", "()[J"⟩ : MethodName)) (z := (⟨"com/example/ledgerwire/ledgerwire/store/Entries", "records", "()[J"⟩ : MethodName)) (a := a683) (hw _ (List.mem_of_getElem? (i := 21) rfl)) (hw _ (List.mem_of_getElem? (i := 22) rfl)) (notFace_of_selects (args := #[]) (mvT hZ (hw _ (List.mem_of_getElem? (i := 24) rfl)))) (hw _ (List.mem_of_getElem? (i := 24) rfl)) (hw _ (List.mem_of_getElem? (i := 23) rfl)) (hw _ (List.mem_of_getElem? (i := 25) rfl)) (hw _ (List.mem_of_getElem? (i := 8) rfl)) (by decide) E697q (own_rec4 l Z a0 hw T697.heap n0 z706 a683 a638 _ w0 w1 w2 w3   Fs697 Fz697 f703 ) (by decide) (W := 0) (by decide) rfl (by rw [hml]; rfl) own_pd_2 (argsL := []) rfl (S := []) rfl (Nat.le_of_eq rfl) (hb hby at_179) (pc' := 182) rfl (by decide) (by decide) (fun T707 v707 L707 X707 hQ707 => ?_)
      obtain ⟨r707, kr707, rfl, N707q, K707, hr707, V707⟩ := hQ707
      have N708 := Fr.app N698 N707q
      have q709 : a1 ≠ r707 := Nat.ne_of_lt (Nat.lt_of_lt_of_le f699.lt hr707)
      have q710 : a604 ≠ r707 := Nat.ne_of_lt (Nat.lt_of_lt_of_le f701.lt hr707)
      have q711 : a638 ≠ r707 := Nat.ne_of_lt (Nat.lt_of_lt_of_le f703.lt hr707)
      have q712 : a683 ≠ r707 := Nat.ne_of_lt (Nat.lt_of_lt_of_le E697q.lt hr707)
      have ge_r707 : n0 ≤ r707 := Nat.le_trans z706 hr707
      have f713 := f699.keep K707 nin0
      have f714 := f700.keep K707
      have f715 := f701.keep K707 nin0
      have f716 := f702.keep K707
      have f717 := f703.keep K707 nin0
      have f718 := f704.keep K707
      have f719 := E697q.keep K707
      have f720 := Fs697.keep K707 nin0
      have f721 := Fz697.keep K707 nin0
      have z722 : n0 ≤ T707.heap.size := Nat.le_trans z706 K707.1
      refine OwnK.astore X707 hx (hb hby at_182) (pc' := 184) rfl rfl (Ls' := #[.val (.long p0), .second, .val (.long p1), .second, .val (.long p2), .second, .val (.long p3), .second, .val (.int p4), .val (.int p5), .val (.ref a1), .val (.int (4 : Int32)), .val (.ref a604), .val (.ref a638), .val (.ref r707), .unset]) rfl ?_
      refine OwnK.aload X707 hx (hb hby at_184) (pc' := 186) rfl (v := (.ref r707)) rfl rfl ?_
      refine OwnK.ifnonnull_ref X707 hx (hb hby at_186) (by decide) (pcT := 191) (by decide) (pc' := 189) rfl ?_
      refine OwnK.iconst X707 hx (hb hby at_191) (pc' := 192) rfl (v := (0 : Int32)) (by decide) ?_
      refine OwnK.istore X707 hx (hb hby at_192) (pc' := 194) rfl (Ls' := #[.val (.long p0), .second, .val (.long p1), .second, .val (.long p2), .second, .val (.long p3), .second, .val (.int p4), .val (.int p5), .val (.ref a1), .val (.int (4 : Int32)), .val (.ref a604), .val (.ref a638), .val (.ref r707), .val (.int (0 : Int32))]) rfl ?_
      refine OwnK.iload X707 hx (hb hby at_194) (pc' := 196) rfl (v := (4 : Int32)) rfl ?_
      refine OwnK.if_le X707 hx (hb hby at_196) (by decide) (pcT := 202) (by decide) (pc' := 199) rfl (fun (hc196 : 4 ≤ 0) => absurd hc196 (by decide)) (fun hc196 => ?_)
      refine OwnK.iconst X707 hx (hb hby at_199) (pc' := 200) rfl (v := (1 : Int32)) (by decide) ?_
      refine OwnK.istore X707 hx (hb hby at_200) (pc' := 202) rfl (Ls' := #[.val (.long p0), .second, .val (.long p1), .second, .val (.long p2), .second, .val (.long p3), .second, .val (.int p4), .val (.int p5), .val (.ref a1), .val (.int (4 : Int32)), .val (.ref a604), .val (.ref a638), .val (.ref r707), .val (.int (1 : Int32))]) rfl ?_
      refine OwnK.iload X707 hx (hb hby at_202) (pc' := 204) rfl (v := (4 : Int32)) rfl ?_
      refine OwnK.iconst X707 hx (hb hby at_204) (pc' := 205) rfl (v := (1 : Int32)) (by decide) ?_
      refine OwnK.icmp_le X707 hx (hb hby at_205) (by decide) (pcT := 223) (by decide) (pc' := 208) rfl (fun (hc205 : 4 ≤ 1) => absurd hc205 (by decide)) (fun hc205 => ?_)
      refine OwnK.aload X707 hx (hb hby at_208) (pc' := 210) rfl (v := (.ref a1)) rfl rfl ?_
      refine OwnK.iconst X707 hx (hb hby at_210) (pc' := 211) rfl (v := (1 : Int32)) (by decide) ?_
      refine OwnK.laload X707 hx hZ rfl f713 (by decide) (by first | decide | omega) (v := (.long w1)) rfl (hb hby at_211) (pc' := 212) rfl ?_
      refine OwnK.aload X707 hx (hb hby at_212) (pc' := 214) rfl (v := (.ref a1)) rfl rfl ?_
      refine OwnK.iconst X707 hx (hb hby at_214) (pc' := 215) rfl (v := (0 : Int32)) (by decide) ?_
      refine OwnK.laload X707 hx hZ rfl f713 (by decide) (by first | decide | omega) (v := (.long w0)) rfl (hb hby at_215) (pc' := 216) rfl ?_
      refine OwnK.lcmp_eq X707 hx (hb hby at_216) (pc1 := 217) rfl (hb hby at_217) (by decide) (pcT := 223) (by decide) (pc' := 220) rfl (fun (hc723 : w1.toInt = w0.toInt) => ?_) (fun (hc723 : ¬ w1.toInt = w0.toInt) => ?_)
      · refine OwnK.iload X707 hx (hb hby at_223) (pc' := 225) rfl (v := (4 : Int32)) rfl ?_
        refine OwnK.iconst X707 hx (hb hby at_225) (pc' := 226) rfl (v := (2 : Int32)) (by decide) ?_
        refine OwnK.icmp_le X707 hx (hb hby at_226) (by decide) (pcT := 244) (by decide) (pc' := 229) rfl (fun (hc226 : 4 ≤ 2) => absurd hc226 (by decide)) (fun hc226 => ?_)
        refine OwnK.aload X707 hx (hb hby at_229) (pc' := 231) rfl (v := (.ref a1)) rfl rfl ?_
        refine OwnK.iconst X707 hx (hb hby at_231) (pc' := 232) rfl (v := (2 : Int32)) (by decide) ?_
        refine OwnK.laload X707 hx hZ rfl f713 (by decide) (by first | decide | omega) (v := (.long w2)) rfl (hb hby at_232) (pc' := 233) rfl ?_
        refine OwnK.aload X707 hx (hb hby at_233) (pc' := 235) rfl (v := (.ref a1)) rfl rfl ?_
        refine OwnK.iconst X707 hx (hb hby at_235) (pc' := 236) rfl (v := (1 : Int32)) (by decide) ?_
        refine OwnK.laload X707 hx hZ rfl f713 (by decide) (by first | decide | omega) (v := (.long w1)) rfl (hb hby at_236) (pc' := 237) rfl ?_
        refine OwnK.lcmp_eq X707 hx (hb hby at_237) (pc1 := 238) rfl (hb hby at_238) (by decide) (pcT := 244) (by decide) (pc' := 241) rfl (fun (hc724 : w2.toInt = w1.toInt) => ?_) (fun (hc724 : ¬ w2.toInt = w1.toInt) => ?_)
        · refine OwnK.iload X707 hx (hb hby at_244) (pc' := 246) rfl (v := (4 : Int32)) rfl ?_
          refine OwnK.iconst X707 hx (hb hby at_246) (pc' := 247) rfl (v := (3 : Int32)) (by decide) ?_
          refine OwnK.icmp_le X707 hx (hb hby at_247) (by decide) (pcT := 265) (by decide) (pc' := 250) rfl (fun (hc247 : 4 ≤ 3) => absurd hc247 (by decide)) (fun hc247 => ?_)
          refine OwnK.aload X707 hx (hb hby at_250) (pc' := 252) rfl (v := (.ref a1)) rfl rfl ?_
          refine OwnK.iconst X707 hx (hb hby at_252) (pc' := 253) rfl (v := (3 : Int32)) (by decide) ?_
          refine OwnK.laload X707 hx hZ rfl f713 (by decide) (by first | decide | omega) (v := (.long w3)) rfl (hb hby at_253) (pc' := 254) rfl ?_
          refine OwnK.aload X707 hx (hb hby at_254) (pc' := 256) rfl (v := (.ref a1)) rfl rfl ?_
          refine OwnK.iconst X707 hx (hb hby at_256) (pc' := 257) rfl (v := (2 : Int32)) (by decide) ?_
          refine OwnK.laload X707 hx hZ rfl f713 (by decide) (by first | decide | omega) (v := (.long w2)) rfl (hb hby at_257) (pc' := 258) rfl ?_
          refine OwnK.lcmp_eq X707 hx (hb hby at_258) (pc1 := 259) rfl (hb hby at_259) (by decide) (pcT := 265) (by decide) (pc' := 262) rfl (fun (hc725 : w3.toInt = w2.toInt) => ?_) (fun (hc725 : ¬ w3.toInt = w2.toInt) => ?_)
          · have hdd : own_dd [w0, w1, w2, w3] = [w0] := by show _ :: own_go _ _ = _; rw [own_ge (by omega), own_ge (by omega), own_ge (by omega), own_g0]
            have f726 := V707
            rw [hdd] at f726
            have f727 : Arv Z T707.heap r707 _ .long (1 : Int32) [(.long w0)] (.long (0 : Int64)) := f726
            refine OwnK.aload X707 hx (hb hby at_265) (pc' := 267) rfl (v := (.ref r707)) rfl rfl ?_
            refine OwnK.arrlen X707 hx hZ rfl f727 (hb hby at_267) (pc' := 268) rfl ?_
            refine OwnK.iload X707 hx (hb hby at_268) (pc' := 270) rfl (v := (1 : Int32)) rfl ?_
            refine OwnK.icmp_eq X707 hx (hb hby at_270) (by decide) (pcT := 275) (by decide) (pc' := 273) rfl (fun hc270 => ?_) (fun (hc270 : ¬ 1 = 1) => absurd hc270 (by decide))
            refine OwnK.iload X707 hx (hb hby at_275) (pc' := 277) rfl (v := (1 : Int32)) rfl ?_
            refine OwnK.iconst X707 hx (hb hby at_277) (pc' := 278) rfl (v := (1 : Int32)) (by decide) ?_
            refine OwnK.icmp_le X707 hx (hb hby at_278) (by decide) (pcT := 295) (by decide) (pc' := 281) rfl (fun hc278 => ?_) (fun (hc278 : 1 < 1) => absurd hc278 (by decide))
            refine OwnK.iload X707 hx (hb hby at_295) (pc' := 297) rfl (v := (1 : Int32)) rfl ?_
            refine OwnK.iconst X707 hx (hb hby at_297) (pc' := 298) rfl (v := (2 : Int32)) (by decide) ?_
            refine OwnK.icmp_le X707 hx (hb hby at_298) (by decide) (pcT := 315) (by decide) (pc' := 301) rfl (fun hc298 => ?_) (fun (hc298 : 2 < 1) => absurd hc298 (by decide))
            refine OwnK.iload X707 hx (hb hby at_315) (pc' := 317) rfl (v := (1 : Int32)) rfl ?_
            refine OwnK.iconst X707 hx (hb hby at_317) (pc' := 318) rfl (v := (3 : Int32)) (by decide) ?_
            refine OwnK.icmp_le X707 hx (hb hby at_318) (by decide) (pcT := 335) (by decide) (pc' := 321) rfl (fun hc318 => ?_) (fun (hc318 : 3 < 1) => absurd hc318 (by decide))
            refine OwnK.iload X707 hx (hb hby at_335) (pc' := 337) rfl (v := (1 : Int32)) rfl ?_
            refine OwnK.if_le X707 hx (hb hby at_337) (by decide) (pcT := 356) (by decide) (pc' := 340) rfl (fun (hc337 : 1 ≤ 0) => absurd hc337 (by decide)) (fun hc337 => ?_)
            refine OwnK.aload X707 hx (hb hby at_340) (pc' := 342) rfl (v := (.ref a1)) rfl rfl ?_
            refine OwnK.iload X707 hx (hb hby at_342) (pc' := 344) rfl (v := (4 : Int32)) rfl ?_
            refine OwnK.aload X707 hx (hb hby at_344) (pc' := 346) rfl (v := (.ref r707)) rfl rfl ?_
            refine OwnK.iconst X707 hx (hb hby at_346) (pc' := 347) rfl (v := (0 : Int32)) (by decide) ?_
            refine OwnK.laload X707 hx hZ rfl f727 (by decide) (by first | decide | omega) (v := (.long w0)) rfl (hb hby at_347) (pc' := 348) rfl ?_
            refine OwnK.callS_ X707 hx hZ hown (y := (⟨"com/example/ledgerwire/ledgerwire/store/EntriesRecordsPinLaw", "inS", "([JIJ)Z"⟩ : MethodName)) (hw _ (List.mem_of_getElem? (i := 39) rfl)) (hw _ (List.mem_of_getElem? (i := 40) rfl)) (hw _ (List.mem_of_getElem? (i := 3) rfl)) (hw _ (List.mem_of_getElem? (i := 41) rfl)) (by decide) (own_met6 l Z a0 hw T707.heap a1 (4 : Int32) w0 _ w0 w1 w2 w3 f713 ) (by decide) (W := 0) (by decide) rfl (by rw [hml]; rfl) own_pd_7 (argsL := [(.ref a1), (.int (4 : Int32)), (.long w0)]) rfl (S := []) rfl (Nat.le_of_eq rfl) (hb hby at_348) (pc' := 351) rfl (by decide) (by decide) (fun T728 v728 L728 X728 hQ728 => ?_)
            obtain ⟨rfl, e728, rfl⟩ := hQ728
            have N729 := Fr.app N708 (Fr.nil n0)
            refine OwnK.if_ne X728 hx (hb hby at_351) (by decide) (pcT := 356) (by decide) (pc' := 354) rfl (fun hc351 => ?_) (fun (hc351 : (own_in (4 : Int32).toInt w0.toInt w1.toInt w2.toInt w3.toInt w0.toInt).toInt = 0) => absurd ((congrArg Int32.toInt (own_in1 (by omega) : (own_in (4 : Int32).toInt w0.toInt w1.toInt w2.toInt w3.toInt w0.toInt) = 1)).symm.trans hc351) (by decide))
            refine OwnK.iload X728 hx (hb hby at_356) (pc' := 358) rfl (v := (1 : Int32)) rfl ?_
            refine OwnK.iconst X728 hx (hb hby at_358) (pc' := 359) rfl (v := (1 : Int32)) (by decide) ?_
            refine OwnK.icmp_le X728 hx (hb hby at_359) (by decide) (pcT := 378) (by decide) (pc' := 362) rfl (fun hc359 => ?_) (fun (hc359 : 1 < 1) => absurd hc359 (by decide))
            refine OwnK.iload X728 hx (hb hby at_378) (pc' := 380) rfl (v := (1 : Int32)) rfl ?_
            refine OwnK.iconst X728 hx (hb hby at_380) (pc' := 381) rfl (v := (2 : Int32)) (by decide) ?_
            refine OwnK.icmp_le X728 hx (hb hby at_381) (by decide) (pcT := 400) (by decide) (pc' := 384) rfl (fun hc381 => ?_) (fun (hc381 : 2 < 1) => absurd hc381 (by decide))
            refine OwnK.iload X728 hx (hb hby at_400) (pc' := 402) rfl (v := (1 : Int32)) rfl ?_
            refine OwnK.iconst X728 hx (hb hby at_402) (pc' := 403) rfl (v := (3 : Int32)) (by decide) ?_
            refine OwnK.icmp_le X728 hx (hb hby at_403) (by decide) (pcT := 422) (by decide) (pc' := 406) rfl (fun hc403 => ?_) (fun (hc403 : 3 < 1) => absurd hc403 (by decide))
            refine OwnK.iload X728 hx (hb hby at_422) (pc' := 424) rfl (v := (4 : Int32)) rfl ?_
            refine OwnK.if_le X728 hx (hb hby at_424) (by decide) (pcT := 441) (by decide) (pc' := 427) rfl (fun (hc424 : 4 ≤ 0) => absurd hc424 (by decide)) (fun hc424 => ?_)
            refine OwnK.aload X728 hx (hb hby at_427) (pc' := 429) rfl (v := (.ref r707)) rfl rfl ?_
            refine OwnK.aload X728 hx (hb hby at_429) (pc' := 431) rfl (v := (.ref a1)) rfl rfl ?_
            refine OwnK.iconst X728 hx (hb hby at_431) (pc' := 432) rfl (v := (0 : Int32)) (by decide) ?_
            refine OwnK.laload X728 hx hZ e728 f713 (by decide) (by first | decide | omega) (v := (.long w0)) rfl (hb hby at_432) (pc' := 433) rfl ?_
            refine OwnK.callS_ X728 hx hZ hown (y := (⟨"com/example/ledgerwire/ledgerwire/store/EntriesRecordsPinLaw", "inR", "([JJ)Z"⟩ : MethodName)) (hw _ (List.mem_of_getElem? (i := 42) rfl)) (hw _ (List.mem_of_getElem? (i := 43) rfl)) (hw _ (List.mem_of_getElem? (i := 3) rfl)) (hw _ (List.mem_of_getElem? (i := 44) rfl)) (by decide) (own_met7 l Z a0 hw T707.heap r707 w0 _ (1 : Int32) w0 (0 : Int64) (0 : Int64) (0 : Int64) (f727.pad (pad_rep [(.long w0)] (.long (0 : Int64)) 3)) ) (by decide) (W := 0) (by decide) e728 (by rw [hml]; rfl) own_pd_8 (argsL := [(.ref r707), (.long w0)]) rfl (S := []) rfl (Nat.le_of_eq rfl) (hb hby at_433) (pc' := 436) rfl (by decide) (by decide) (fun T730 v730 L730 X730 hQ730 => ?_)
            obtain ⟨rfl, e730, rfl⟩ := hQ730
            have N731 := Fr.app N729 (Fr.nil n0)
            refine OwnK.if_ne X730 hx (hb hby at_436) (by decide) (pcT := 441) (by decide) (pc' := 439) rfl (fun hc436 => ?_) (fun (hc436 : (own_in (1 : Int32).toInt w0.toInt (0 : Int64).toInt (0 : Int64).toInt (0 : Int64).toInt w0.toInt).toInt = 0) => absurd ((congrArg Int32.toInt (own_in1 (by omega) : (own_in (1 : Int32).toInt w0.toInt (0 : Int64).toInt (0 : Int64).toInt (0 : Int64).toInt w0.toInt) = 1)).symm.trans hc436) (by decide))
            refine OwnK.iload X730 hx (hb hby at_441) (pc' := 443) rfl (v := (4 : Int32)) rfl ?_
            refine OwnK.iconst X730 hx (hb hby at_443) (pc' := 444) rfl (v := (1 : Int32)) (by decide) ?_
            refine OwnK.icmp_le X730 hx (hb hby at_444) (by decide) (pcT := 461) (by decide) (pc' := 447) rfl (fun (hc444 : 4 ≤ 1) => absurd hc444 (by decide)) (fun hc444 => ?_)
            refine OwnK.aload X730 hx (hb hby at_447) (pc' := 449) rfl (v := (.ref r707)) rfl rfl ?_
            refine OwnK.aload X730 hx (hb hby at_449) (pc' := 451) rfl (v := (.ref a1)) rfl rfl ?_
            refine OwnK.iconst X730 hx (hb hby at_451) (pc' := 452) rfl (v := (1 : Int32)) (by decide) ?_
            refine OwnK.laload X730 hx hZ e730 f713 (by decide) (by first | decide | omega) (v := (.long w1)) rfl (hb hby at_452) (pc' := 453) rfl ?_
            refine OwnK.callS_ X730 hx hZ hown (y := (⟨"com/example/ledgerwire/ledgerwire/store/EntriesRecordsPinLaw", "inR", "([JJ)Z"⟩ : MethodName)) (hw _ (List.mem_of_getElem? (i := 42) rfl)) (hw _ (List.mem_of_getElem? (i := 43) rfl)) (hw _ (List.mem_of_getElem? (i := 3) rfl)) (hw _ (List.mem_of_getElem? (i := 44) rfl)) (by decide) (own_met7 l Z a0 hw T707.heap r707 w1 _ (1 : Int32) w0 (0 : Int64) (0 : Int64) (0 : Int64) (f727.pad (pad_rep [(.long w0)] (.long (0 : Int64)) 3)) ) (by decide) (W := 0) (by decide) e730 (by rw [hml]; rfl) own_pd_8 (argsL := [(.ref r707), (.long w1)]) rfl (S := []) rfl (Nat.le_of_eq rfl) (hb hby at_453) (pc' := 456) rfl (by decide) (by decide) (fun T732 v732 L732 X732 hQ732 => ?_)
            obtain ⟨rfl, e732, rfl⟩ := hQ732
            have N733 := Fr.app N731 (Fr.nil n0)
            refine OwnK.if_ne X732 hx (hb hby at_456) (by decide) (pcT := 461) (by decide) (pc' := 459) rfl (fun hc456 => ?_) (fun (hc456 : (own_in (1 : Int32).toInt w0.toInt (0 : Int64).toInt (0 : Int64).toInt (0 : Int64).toInt w1.toInt).toInt = 0) => absurd ((congrArg Int32.toInt (own_in1 (by omega) : (own_in (1 : Int32).toInt w0.toInt (0 : Int64).toInt (0 : Int64).toInt (0 : Int64).toInt w1.toInt) = 1)).symm.trans hc456) (by decide))
            refine OwnK.iload X732 hx (hb hby at_461) (pc' := 463) rfl (v := (4 : Int32)) rfl ?_
            refine OwnK.iconst X732 hx (hb hby at_463) (pc' := 464) rfl (v := (2 : Int32)) (by decide) ?_
            refine OwnK.icmp_le X732 hx (hb hby at_464) (by decide) (pcT := 481) (by decide) (pc' := 467) rfl (fun (hc464 : 4 ≤ 2) => absurd hc464 (by decide)) (fun hc464 => ?_)
            refine OwnK.aload X732 hx (hb hby at_467) (pc' := 469) rfl (v := (.ref r707)) rfl rfl ?_
            refine OwnK.aload X732 hx (hb hby at_469) (pc' := 471) rfl (v := (.ref a1)) rfl rfl ?_
            refine OwnK.iconst X732 hx (hb hby at_471) (pc' := 472) rfl (v := (2 : Int32)) (by decide) ?_
            refine OwnK.laload X732 hx hZ e732 f713 (by decide) (by first | decide | omega) (v := (.long w2)) rfl (hb hby at_472) (pc' := 473) rfl ?_
            refine OwnK.callS_ X732 hx hZ hown (y := (⟨"com/example/ledgerwire/ledgerwire/store/EntriesRecordsPinLaw", "inR", "([JJ)Z"⟩ : MethodName)) (hw _ (List.mem_of_getElem? (i := 42) rfl)) (hw _ (List.mem_of_getElem? (i := 43) rfl)) (hw _ (List.mem_of_getElem? (i := 3) rfl)) (hw _ (List.mem_of_getElem? (i := 44) rfl)) (by decide) (own_met7 l Z a0 hw T707.heap r707 w2 _ (1 : Int32) w0 (0 : Int64) (0 : Int64) (0 : Int64) (f727.pad (pad_rep [(.long w0)] (.long (0 : Int64)) 3)) ) (by decide) (W := 0) (by decide) e732 (by rw [hml]; rfl) own_pd_8 (argsL := [(.ref r707), (.long w2)]) rfl (S := []) rfl (Nat.le_of_eq rfl) (hb hby at_473) (pc' := 476) rfl (by decide) (by decide) (fun T734 v734 L734 X734 hQ734 => ?_)
            obtain ⟨rfl, e734, rfl⟩ := hQ734
            have N735 := Fr.app N733 (Fr.nil n0)
            refine OwnK.if_ne X734 hx (hb hby at_476) (by decide) (pcT := 481) (by decide) (pc' := 479) rfl (fun hc476 => ?_) (fun (hc476 : (own_in (1 : Int32).toInt w0.toInt (0 : Int64).toInt (0 : Int64).toInt (0 : Int64).toInt w2.toInt).toInt = 0) => absurd ((congrArg Int32.toInt (own_in1 (by omega) : (own_in (1 : Int32).toInt w0.toInt (0 : Int64).toInt (0 : Int64).toInt (0 : Int64).toInt w2.toInt) = 1)).symm.trans hc476) (by decide))
            refine OwnK.iload X734 hx (hb hby at_481) (pc' := 483) rfl (v := (4 : Int32)) rfl ?_
            refine OwnK.iconst X734 hx (hb hby at_483) (pc' := 484) rfl (v := (3 : Int32)) (by decide) ?_
            refine OwnK.icmp_le X734 hx (hb hby at_484) (by decide) (pcT := 501) (by decide) (pc' := 487) rfl (fun (hc484 : 4 ≤ 3) => absurd hc484 (by decide)) (fun hc484 => ?_)
            refine OwnK.aload X734 hx (hb hby at_487) (pc' := 489) rfl (v := (.ref r707)) rfl rfl ?_
            refine OwnK.aload X734 hx (hb hby at_489) (pc' := 491) rfl (v := (.ref a1)) rfl rfl ?_
            refine OwnK.iconst X734 hx (hb hby at_491) (pc' := 492) rfl (v := (3 : Int32)) (by decide) ?_
            refine OwnK.laload X734 hx hZ e734 f713 (by decide) (by first | decide | omega) (v := (.long w3)) rfl (hb hby at_492) (pc' := 493) rfl ?_
            refine OwnK.callS_ X734 hx hZ hown (y := (⟨"com/example/ledgerwire/ledgerwire/store/EntriesRecordsPinLaw", "inR", "([JJ)Z"⟩ : MethodName)) (hw _ (List.mem_of_getElem? (i := 42) rfl)) (hw _ (List.mem_of_getElem? (i := 43) rfl)) (hw _ (List.mem_of_getElem? (i := 3) rfl)) (hw _ (List.mem_of_getElem? (i := 44) rfl)) (by decide) (own_met7 l Z a0 hw T707.heap r707 w3 _ (1 : Int32) w0 (0 : Int64) (0 : Int64) (0 : Int64) (f727.pad (pad_rep [(.long w0)] (.long (0 : Int64)) 3)) ) (by decide) (W := 0) (by decide) e734 (by rw [hml]; rfl) own_pd_8 (argsL := [(.ref r707), (.long w3)]) rfl (S := []) rfl (Nat.le_of_eq rfl) (hb hby at_493) (pc' := 496) rfl (by decide) (by decide) (fun T736 v736 L736 X736 hQ736 => ?_)
            obtain ⟨rfl, e736, rfl⟩ := hQ736
            have N737 := Fr.app N735 (Fr.nil n0)
            refine OwnK.if_ne X736 hx (hb hby at_496) (by decide) (pcT := 501) (by decide) (pc' := 499) rfl (fun hc496 => ?_) (fun (hc496 : (own_in (1 : Int32).toInt w0.toInt (0 : Int64).toInt (0 : Int64).toInt (0 : Int64).toInt w3.toInt).toInt = 0) => absurd ((congrArg Int32.toInt (own_in1 (by omega) : (own_in (1 : Int32).toInt w0.toInt (0 : Int64).toInt (0 : Int64).toInt (0 : Int64).toInt w3.toInt) = 1)).symm.trans hc496) (by decide))
            refine OwnK.iconst X736 hx (hb hby at_501) (pc' := 502) rfl (v := (1 : Int32)) (by decide) ?_
            refine OwnK.retN_ X736 hx hret (by simp) hlk (hb hby at_502) (by decide) (by decide) ?_
            exact ⟨rfl, N737⟩
          · refine OwnK.iincL X707 hx (hb hby at_262) (pc' := 265) rfl (x := (1 : Int32)) rfl (v := (2 : Int32)) (by decide) (Ls' := #[.val (.long p0), .second, .val (.long p1), .second, .val (.long p2), .second, .val (.long p3), .second, .val (.int p4), .val (.int p5), .val (.ref a1), .val (.int (4 : Int32)), .val (.ref a604), .val (.ref a638), .val (.ref r707), .val (.int (2 : Int32))]) rfl ?_
            have hdd : own_dd [w0, w1, w2, w3] = [w0, w3] := by show _ :: own_go _ _ = _; rw [own_ge (by omega), own_ge (by omega), own_gn (by omega), own_g0]
            have f738 := V707
            rw [hdd] at f738
            have f739 : Arv Z T707.heap r707 _ .long (2 : Int32) [(.long w0), (.long w3)] (.long (0 : Int64)) := f738
            refine OwnK.aload X707 hx (hb hby at_265) (pc' := 267) rfl (v := (.ref r707)) rfl rfl ?_
            refine OwnK.arrlen X707 hx hZ rfl f739 (hb hby at_267) (pc' := 268) rfl ?_
            refine OwnK.iload X707 hx (hb hby at_268) (pc' := 270) rfl (v := (2 : Int32)) rfl ?_
            refine OwnK.icmp_eq X707 hx (hb hby at_270) (by decide) (pcT := 275) (by decide) (pc' := 273) rfl (fun hc270 => ?_) (fun (hc270 : ¬ 2 = 2) => absurd hc270 (by decide))
            refine OwnK.iload X707 hx (hb hby at_275) (pc' := 277) rfl (v := (2 : Int32)) rfl ?_
            refine OwnK.iconst X707 hx (hb hby at_277) (pc' := 278) rfl (v := (1 : Int32)) (by decide) ?_
            refine OwnK.icmp_le X707 hx (hb hby at_278) (by decide) (pcT := 295) (by decide) (pc' := 281) rfl (fun (hc278 : 2 ≤ 1) => absurd hc278 (by decide)) (fun hc278 => ?_)
            refine OwnK.aload X707 hx (hb hby at_281) (pc' := 283) rfl (v := (.ref r707)) rfl rfl ?_
            refine OwnK.iconst X707 hx (hb hby at_283) (pc' := 284) rfl (v := (0 : Int32)) (by decide) ?_
            refine OwnK.laload X707 hx hZ rfl f739 (by decide) (by first | decide | omega) (v := (.long w0)) rfl (hb hby at_284) (pc' := 285) rfl ?_
            refine OwnK.aload X707 hx (hb hby at_285) (pc' := 287) rfl (v := (.ref r707)) rfl rfl ?_
            refine OwnK.iconst X707 hx (hb hby at_287) (pc' := 288) rfl (v := (1 : Int32)) (by decide) ?_
            refine OwnK.laload X707 hx hZ rfl f739 (by decide) (by first | decide | omega) (v := (.long w3)) rfl (hb hby at_288) (pc' := 289) rfl ?_
            refine OwnK.lcmp_lt X707 hx (hb hby at_289) (pc1 := 290) rfl (hb hby at_290) (by decide) (pcT := 295) (by decide) (pc' := 293) rfl (fun hc289 => ?_) (fun (hc289 : w3.toInt ≤ w0.toInt) => by omega)
            refine OwnK.iload X707 hx (hb hby at_295) (pc' := 297) rfl (v := (2 : Int32)) rfl ?_
            refine OwnK.iconst X707 hx (hb hby at_297) (pc' := 298) rfl (v := (2 : Int32)) (by decide) ?_
            refine OwnK.icmp_le X707 hx (hb hby at_298) (by decide) (pcT := 315) (by decide) (pc' := 301) rfl (fun hc298 => ?_) (fun (hc298 : 2 < 2) => absurd hc298 (by decide))
            refine OwnK.iload X707 hx (hb hby at_315) (pc' := 317) rfl (v := (2 : Int32)) rfl ?_
            refine OwnK.iconst X707 hx (hb hby at_317) (pc' := 318) rfl (v := (3 : Int32)) (by decide) ?_
            refine OwnK.icmp_le X707 hx (hb hby at_318) (by decide) (pcT := 335) (by decide) (pc' := 321) rfl (fun hc318 => ?_) (fun (hc318 : 3 < 2) => absurd hc318 (by decide))
            refine OwnK.iload X707 hx (hb hby at_335) (pc' := 337) rfl (v := (2 : Int32)) rfl ?_
            refine OwnK.if_le X707 hx (hb hby at_337) (by decide) (pcT := 356) (by decide) (pc' := 340) rfl (fun (hc337 : 2 ≤ 0) => absurd hc337 (by decide)) (fun hc337 => ?_)
            refine OwnK.aload X707 hx (hb hby at_340) (pc' := 342) rfl (v := (.ref a1)) rfl rfl ?_
            refine OwnK.iload X707 hx (hb hby at_342) (pc' := 344) rfl (v := (4 : Int32)) rfl ?_
            refine OwnK.aload X707 hx (hb hby at_344) (pc' := 346) rfl (v := (.ref r707)) rfl rfl ?_
            refine OwnK.iconst X707 hx (hb hby at_346) (pc' := 347) rfl (v := (0 : Int32)) (by decide) ?_
            refine OwnK.laload X707 hx hZ rfl f739 (by decide) (by first | decide | omega) (v := (.long w0)) rfl (hb hby at_347) (pc' := 348) rfl ?_
            refine OwnK.callS_ X707 hx hZ hown (y := (⟨"com/example/ledgerwire/ledgerwire/store/EntriesRecordsPinLaw", "inS", "([JIJ)Z"⟩ : MethodName)) (hw _ (List.mem_of_getElem? (i := 39) rfl)) (hw _ (List.mem_of_getElem? (i := 40) rfl)) (hw _ (List.mem_of_getElem? (i := 3) rfl)) (hw _ (List.mem_of_getElem? (i := 41) rfl)) (by decide) (own_met6 l Z a0 hw T707.heap a1 (4 : Int32) w0 _ w0 w1 w2 w3 f713 ) (by decide) (W := 0) (by decide) rfl (by rw [hml]; rfl) own_pd_7 (argsL := [(.ref a1), (.int (4 : Int32)), (.long w0)]) rfl (S := []) rfl (Nat.le_of_eq rfl) (hb hby at_348) (pc' := 351) rfl (by decide) (by decide) (fun T740 v740 L740 X740 hQ740 => ?_)
            obtain ⟨rfl, e740, rfl⟩ := hQ740
            have N741 := Fr.app N708 (Fr.nil n0)
            refine OwnK.if_ne X740 hx (hb hby at_351) (by decide) (pcT := 356) (by decide) (pc' := 354) rfl (fun hc351 => ?_) (fun (hc351 : (own_in (4 : Int32).toInt w0.toInt w1.toInt w2.toInt w3.toInt w0.toInt).toInt = 0) => absurd ((congrArg Int32.toInt (own_in1 (by omega) : (own_in (4 : Int32).toInt w0.toInt w1.toInt w2.toInt w3.toInt w0.toInt) = 1)).symm.trans hc351) (by decide))
            refine OwnK.iload X740 hx (hb hby at_356) (pc' := 358) rfl (v := (2 : Int32)) rfl ?_
            refine OwnK.iconst X740 hx (hb hby at_358) (pc' := 359) rfl (v := (1 : Int32)) (by decide) ?_
            refine OwnK.icmp_le X740 hx (hb hby at_359) (by decide) (pcT := 378) (by decide) (pc' := 362) rfl (fun (hc359 : 2 ≤ 1) => absurd hc359 (by decide)) (fun hc359 => ?_)
            refine OwnK.aload X740 hx (hb hby at_362) (pc' := 364) rfl (v := (.ref a1)) rfl rfl ?_
            refine OwnK.iload X740 hx (hb hby at_364) (pc' := 366) rfl (v := (4 : Int32)) rfl ?_
            refine OwnK.aload X740 hx (hb hby at_366) (pc' := 368) rfl (v := (.ref r707)) rfl rfl ?_
            refine OwnK.iconst X740 hx (hb hby at_368) (pc' := 369) rfl (v := (1 : Int32)) (by decide) ?_
            refine OwnK.laload X740 hx hZ e740 f739 (by decide) (by first | decide | omega) (v := (.long w3)) rfl (hb hby at_369) (pc' := 370) rfl ?_
            refine OwnK.callS_ X740 hx hZ hown (y := (⟨"com/example/ledgerwire/ledgerwire/store/EntriesRecordsPinLaw", "inS", "([JIJ)Z"⟩ : MethodName)) (hw _ (List.mem_of_getElem? (i := 39) rfl)) (hw _ (List.mem_of_getElem? (i := 40) rfl)) (hw _ (List.mem_of_getElem? (i := 3) rfl)) (hw _ (List.mem_of_getElem? (i := 41) rfl)) (by decide) (own_met6 l Z a0 hw T707.heap a1 (4 : Int32) w3 _ w0 w1 w2 w3 f713 ) (by decide) (W := 0) (by decide) e740 (by rw [hml]; rfl) own_pd_7 (argsL := [(.ref a1), (.int (4 : Int32)), (.long w3)]) rfl (S := []) rfl (Nat.le_of_eq rfl) (hb hby at_370) (pc' := 373) rfl (by decide) (by decide) (fun T742 v742 L742 X742 hQ742 => ?_)
            obtain ⟨rfl, e742, rfl⟩ := hQ742
            have N743 := Fr.app N741 (Fr.nil n0)
            refine OwnK.if_ne X742 hx (hb hby at_373) (by decide) (pcT := 378) (by decide) (pc' := 376) rfl (fun hc373 => ?_) (fun (hc373 : (own_in (4 : Int32).toInt w0.toInt w1.toInt w2.toInt w3.toInt w3.toInt).toInt = 0) => absurd ((congrArg Int32.toInt (own_in1 (by omega) : (own_in (4 : Int32).toInt w0.toInt w1.toInt w2.toInt w3.toInt w3.toInt) = 1)).symm.trans hc373) (by decide))
            refine OwnK.iload X742 hx (hb hby at_378) (pc' := 380) rfl (v := (2 : Int32)) rfl ?_
            refine OwnK.iconst X742 hx (hb hby at_380) (pc' := 381) rfl (v := (2 : Int32)) (by decide) ?_
            refine OwnK.icmp_le X742 hx (hb hby at_381) (by decide) (pcT := 400) (by decide) (pc' := 384) rfl (fun hc381 => ?_) (fun (hc381 : 2 < 2) => absurd hc381 (by decide))
            refine OwnK.iload X742 hx (hb hby at_400) (pc' := 402) rfl (v := (2 : Int32)) rfl ?_
            refine OwnK.iconst X742 hx (hb hby at_402) (pc' := 403) rfl (v := (3 : Int32)) (by decide) ?_
            refine OwnK.icmp_le X742 hx (hb hby at_403) (by decide) (pcT := 422) (by decide) (pc' := 406) rfl (fun hc403 => ?_) (fun (hc403 : 3 < 2) => absurd hc403 (by decide))
            refine OwnK.iload X742 hx (hb hby at_422) (pc' := 424) rfl (v := (4 : Int32)) rfl ?_
            refine OwnK.if_le X742 hx (hb hby at_424) (by decide) (pcT := 441) (by decide) (pc' := 427) rfl (fun (hc424 : 4 ≤ 0) => absurd hc424 (by decide)) (fun hc424 => ?_)
            refine OwnK.aload X742 hx (hb hby at_427) (pc' := 429) rfl (v := (.ref r707)) rfl rfl ?_
            refine OwnK.aload X742 hx (hb hby at_429) (pc' := 431) rfl (v := (.ref a1)) rfl rfl ?_
            refine OwnK.iconst X742 hx (hb hby at_431) (pc' := 432) rfl (v := (0 : Int32)) (by decide) ?_
            refine OwnK.laload X742 hx hZ e742 f713 (by decide) (by first | decide | omega) (v := (.long w0)) rfl (hb hby at_432) (pc' := 433) rfl ?_
            refine OwnK.callS_ X742 hx hZ hown (y := (⟨"com/example/ledgerwire/ledgerwire/store/EntriesRecordsPinLaw", "inR", "([JJ)Z"⟩ : MethodName)) (hw _ (List.mem_of_getElem? (i := 42) rfl)) (hw _ (List.mem_of_getElem? (i := 43) rfl)) (hw _ (List.mem_of_getElem? (i := 3) rfl)) (hw _ (List.mem_of_getElem? (i := 44) rfl)) (by decide) (own_met7 l Z a0 hw T707.heap r707 w0 _ (2 : Int32) w0 w3 (0 : Int64) (0 : Int64) (f739.pad (pad_rep [(.long w0), (.long w3)] (.long (0 : Int64)) 2)) ) (by decide) (W := 0) (by decide) e742 (by rw [hml]; rfl) own_pd_8 (argsL := [(.ref r707), (.long w0)]) rfl (S := []) rfl (Nat.le_of_eq rfl) (hb hby at_433) (pc' := 436) rfl (by decide) (by decide) (fun T744 v744 L744 X744 hQ744 => ?_)
            obtain ⟨rfl, e744, rfl⟩ := hQ744
            have N745 := Fr.app N743 (Fr.nil n0)
            refine OwnK.if_ne X744 hx (hb hby at_436) (by decide) (pcT := 441) (by decide) (pc' := 439) rfl (fun hc436 => ?_) (fun (hc436 : (own_in (2 : Int32).toInt w0.toInt w3.toInt (0 : Int64).toInt (0 : Int64).toInt w0.toInt).toInt = 0) => absurd ((congrArg Int32.toInt (own_in1 (by omega) : (own_in (2 : Int32).toInt w0.toInt w3.toInt (0 : Int64).toInt (0 : Int64).toInt w0.toInt) = 1)).symm.trans hc436) (by decide))
            refine OwnK.iload X744 hx (hb hby at_441) (pc' := 443) rfl (v := (4 : Int32)) rfl ?_
            refine OwnK.iconst X744 hx (hb hby at_443) (pc' := 444) rfl (v := (1 : Int32)) (by decide) ?_
            refine OwnK.icmp_le X744 hx (hb hby at_444) (by decide) (pcT := 461) (by decide) (pc' := 447) rfl (fun (hc444 : 4 ≤ 1) => absurd hc444 (by decide)) (fun hc444 => ?_)
            refine OwnK.aload X744 hx (hb hby at_447) (pc' := 449) rfl (v := (.ref r707)) rfl rfl ?_
            refine OwnK.aload X744 hx (hb hby at_449) (pc' := 451) rfl (v := (.ref a1)) rfl rfl ?_
            refine OwnK.iconst X744 hx (hb hby at_451) (pc' := 452) rfl (v := (1 : Int32)) (by decide) ?_
            refine OwnK.laload X744 hx hZ e744 f713 (by decide) (by first | decide | omega) (v := (.long w1)) rfl (hb hby at_452) (pc' := 453) rfl ?_
            refine OwnK.callS_ X744 hx hZ hown (y := (⟨"com/example/ledgerwire/ledgerwire/store/EntriesRecordsPinLaw", "inR", "([JJ)Z"⟩ : MethodName)) (hw _ (List.mem_of_getElem? (i := 42) rfl)) (hw _ (List.mem_of_getElem? (i := 43) rfl)) (hw _ (List.mem_of_getElem? (i := 3) rfl)) (hw _ (List.mem_of_getElem? (i := 44) rfl)) (by decide) (own_met7 l Z a0 hw T707.heap r707 w1 _ (2 : Int32) w0 w3 (0 : Int64) (0 : Int64) (f739.pad (pad_rep [(.long w0), (.long w3)] (.long (0 : Int64)) 2)) ) (by decide) (W := 0) (by decide) e744 (by rw [hml]; rfl) own_pd_8 (argsL := [(.ref r707), (.long w1)]) rfl (S := []) rfl (Nat.le_of_eq rfl) (hb hby at_453) (pc' := 456) rfl (by decide) (by decide) (fun T746 v746 L746 X746 hQ746 => ?_)
            obtain ⟨rfl, e746, rfl⟩ := hQ746
            have N747 := Fr.app N745 (Fr.nil n0)
            refine OwnK.if_ne X746 hx (hb hby at_456) (by decide) (pcT := 461) (by decide) (pc' := 459) rfl (fun hc456 => ?_) (fun (hc456 : (own_in (2 : Int32).toInt w0.toInt w3.toInt (0 : Int64).toInt (0 : Int64).toInt w1.toInt).toInt = 0) => absurd ((congrArg Int32.toInt (own_in1 (by omega) : (own_in (2 : Int32).toInt w0.toInt w3.toInt (0 : Int64).toInt (0 : Int64).toInt w1.toInt) = 1)).symm.trans hc456) (by decide))
            refine OwnK.iload X746 hx (hb hby at_461) (pc' := 463) rfl (v := (4 : Int32)) rfl ?_
            refine OwnK.iconst X746 hx (hb hby at_463) (pc' := 464) rfl (v := (2 : Int32)) (by decide) ?_
            refine OwnK.icmp_le X746 hx (hb hby at_464) (by decide) (pcT := 481) (by decide) (pc' := 467) rfl (fun (hc464 : 4 ≤ 2) => absurd hc464 (by decide)) (fun hc464 => ?_)
            refine OwnK.aload X746 hx (hb hby at_467) (pc' := 469) rfl (v := (.ref r707)) rfl rfl ?_
            refine OwnK.aload X746 hx (hb hby at_469) (pc' := 471) rfl (v := (.ref a1)) rfl rfl ?_
            refine OwnK.iconst X746 hx (hb hby at_471) (pc' := 472) rfl (v := (2 : Int32)) (by decide) ?_
            refine OwnK.laload X746 hx hZ e746 f713 (by decide) (by first | decide | omega) (v := (.long w2)) rfl (hb hby at_472) (pc' := 473) rfl ?_
            refine OwnK.callS_ X746 hx hZ hown (y := (⟨"com/example/ledgerwire/ledgerwire/store/EntriesRecordsPinLaw", "inR", "([JJ)Z"⟩ : MethodName)) (hw _ (List.mem_of_getElem? (i := 42) rfl)) (hw _ (List.mem_of_getElem? (i := 43) rfl)) (hw _ (List.mem_of_getElem? (i := 3) rfl)) (hw _ (List.mem_of_getElem? (i := 44) rfl)) (by decide) (own_met7 l Z a0 hw T707.heap r707 w2 _ (2 : Int32) w0 w3 (0 : Int64) (0 : Int64) (f739.pad (pad_rep [(.long w0), (.long w3)] (.long (0 : Int64)) 2)) ) (by decide) (W := 0) (by decide) e746 (by rw [hml]; rfl) own_pd_8 (argsL := [(.ref r707), (.long w2)]) rfl (S := []) rfl (Nat.le_of_eq rfl) (hb hby at_473) (pc' := 476) rfl (by decide) (by decide) (fun T748 v748 L748 X748 hQ748 => ?_)
            obtain ⟨rfl, e748, rfl⟩ := hQ748
            have N749 := Fr.app N747 (Fr.nil n0)
            refine OwnK.if_ne X748 hx (hb hby at_476) (by decide) (pcT := 481) (by decide) (pc' := 479) rfl (fun hc476 => ?_) (fun (hc476 : (own_in (2 : Int32).toInt w0.toInt w3.toInt (0 : Int64).toInt (0 : Int64).toInt w2.toInt).toInt = 0) => absurd ((congrArg Int32.toInt (own_in1 (by omega) : (own_in (2 : Int32).toInt w0.toInt w3.toInt (0 : Int64).toInt (0 : Int64).toInt w2.toInt) = 1)).symm.trans hc476) (by decide))
            refine OwnK.iload X748 hx (hb hby at_481) (pc' := 483) rfl (v := (4 : Int32)) rfl ?_
            refine OwnK.iconst X748 hx (hb hby at_483) (pc' := 484) rfl (v := (3 : Int32)) (by decide) ?_
            refine OwnK.icmp_le X748 hx (hb hby at_484) (by decide) (pcT := 501) (by decide) (pc' := 487) rfl (fun (hc484 : 4 ≤ 3) => absurd hc484 (by decide)) (fun hc484 => ?_)
            refine OwnK.aload X748 hx (hb hby at_487) (pc' := 489) rfl (v := (.ref r707)) rfl rfl ?_
            refine OwnK.aload X748 hx (hb hby at_489) (pc' := 491) rfl (v := (.ref a1)) rfl rfl ?_
            refine OwnK.iconst X748 hx (hb hby at_491) (pc' := 492) rfl (v := (3 : Int32)) (by decide) ?_
            refine OwnK.laload X748 hx hZ e748 f713 (by decide) (by first | decide | omega) (v := (.long w3)) rfl (hb hby at_492) (pc' := 493) rfl ?_
            refine OwnK.callS_ X748 hx hZ hown (y := (⟨"com/example/ledgerwire/ledgerwire/store/EntriesRecordsPinLaw", "inR", "([JJ)Z"⟩ : MethodName)) (hw _ (List.mem_of_getElem? (i := 42) rfl)) (hw _ (List.mem_of_getElem? (i := 43) rfl)) (hw _ (List.mem_of_getElem? (i := 3) rfl)) (hw _ (List.mem_of_getElem? (i := 44) rfl)) (by decide) (own_met7 l Z a0 hw T707.heap r707 w3 _ (2 : Int32) w0 w3 (0 : Int64) (0 : Int64) (f739.pad (pad_rep [(.long w0), (.long w3)] (.long (0 : Int64)) 2)) ) (by decide) (W := 0) (by decide) e748 (by rw [hml]; rfl) own_pd_8 (argsL := [(.ref r707), (.long w3)]) rfl (S := []) rfl (Nat.le_of_eq rfl) (hb hby at_493) (pc' := 496) rfl (by decide) (by decide) (fun T750 v750 L750 X750 hQ750 => ?_)
            obtain ⟨rfl, e750, rfl⟩ := hQ750
            have N751 := Fr.app N749 (Fr.nil n0)
            refine OwnK.if_ne X750 hx (hb hby at_496) (by decide) (pcT := 501) (by decide) (pc' := 499) rfl (fun hc496 => ?_) (fun (hc496 : (own_in (2 : Int32).toInt w0.toInt w3.toInt (0 : Int64).toInt (0 : Int64).toInt w3.toInt).toInt = 0) => absurd ((congrArg Int32.toInt (own_in1 (by omega) : (own_in (2 : Int32).toInt w0.toInt w3.toInt (0 : Int64).toInt (0 : Int64).toInt w3.toInt) = 1)).symm.trans hc496) (by decide))
            refine OwnK.iconst X750 hx (hb hby at_501) (pc' := 502) rfl (v := (1 : Int32)) (by decide) ?_
            refine OwnK.retN_ X750 hx hret (by simp) hlk (hb hby at_502) (by decide) (by decide) ?_
            exact ⟨rfl, N751⟩
        · refine OwnK.iincL X707 hx (hb hby at_241) (pc' := 244) rfl (x := (1 : Int32)) rfl (v := (2 : Int32)) (by decide) (Ls' := #[.val (.long p0), .second, .val (.long p1), .second, .val (.long p2), .second, .val (.long p3), .second, .val (.int p4), .val (.int p5), .val (.ref a1), .val (.int (4 : Int32)), .val (.ref a604), .val (.ref a638), .val (.ref r707), .val (.int (2 : Int32))]) rfl ?_
          refine OwnK.iload X707 hx (hb hby at_244) (pc' := 246) rfl (v := (4 : Int32)) rfl ?_
          refine OwnK.iconst X707 hx (hb hby at_246) (pc' := 247) rfl (v := (3 : Int32)) (by decide) ?_
          refine OwnK.icmp_le X707 hx (hb hby at_247) (by decide) (pcT := 265) (by decide) (pc' := 250) rfl (fun (hc247 : 4 ≤ 3) => absurd hc247 (by decide)) (fun hc247 => ?_)
          refine OwnK.aload X707 hx (hb hby at_250) (pc' := 252) rfl (v := (.ref a1)) rfl rfl ?_
          refine OwnK.iconst X707 hx (hb hby at_252) (pc' := 253) rfl (v := (3 : Int32)) (by decide) ?_
          refine OwnK.laload X707 hx hZ rfl f713 (by decide) (by first | decide | omega) (v := (.long w3)) rfl (hb hby at_253) (pc' := 254) rfl ?_
          refine OwnK.aload X707 hx (hb hby at_254) (pc' := 256) rfl (v := (.ref a1)) rfl rfl ?_
          refine OwnK.iconst X707 hx (hb hby at_256) (pc' := 257) rfl (v := (2 : Int32)) (by decide) ?_
          refine OwnK.laload X707 hx hZ rfl f713 (by decide) (by first | decide | omega) (v := (.long w2)) rfl (hb hby at_257) (pc' := 258) rfl ?_
          refine OwnK.lcmp_eq X707 hx (hb hby at_258) (pc1 := 259) rfl (hb hby at_259) (by decide) (pcT := 265) (by decide) (pc' := 262) rfl (fun (hc752 : w3.toInt = w2.toInt) => ?_) (fun (hc752 : ¬ w3.toInt = w2.toInt) => ?_)
          · have hdd : own_dd [w0, w1, w2, w3] = [w0, w2] := by show _ :: own_go _ _ = _; rw [own_ge (by omega), own_gn (by omega), own_ge (by omega), own_g0]
            have f753 := V707
            rw [hdd] at f753
            have f754 : Arv Z T707.heap r707 _ .long (2 : Int32) [(.long w0), (.long w2)] (.long (0 : Int64)) := f753
            refine OwnK.aload X707 hx (hb hby at_265) (pc' := 267) rfl (v := (.ref r707)) rfl rfl ?_
            refine OwnK.arrlen X707 hx hZ rfl f754 (hb hby at_267) (pc' := 268) rfl ?_
            refine OwnK.iload X707 hx (hb hby at_268) (pc' := 270) rfl (v := (2 : Int32)) rfl ?_
            refine OwnK.icmp_eq X707 hx (hb hby at_270) (by decide) (pcT := 275) (by decide) (pc' := 273) rfl (fun hc270 => ?_) (fun (hc270 : ¬ 2 = 2) => absurd hc270 (by decide))
            refine OwnK.iload X707 hx (hb hby at_275) (pc' := 277) rfl (v := (2 : Int32)) rfl ?_
            refine OwnK.iconst X707 hx (hb hby at_277) (pc' := 278) rfl (v := (1 : Int32)) (by decide) ?_
            refine OwnK.icmp_le X707 hx (hb hby at_278) (by decide) (pcT := 295) (by decide) (pc' := 281) rfl (fun (hc278 : 2 ≤ 1) => absurd hc278 (by decide)) (fun hc278 => ?_)
            refine OwnK.aload X707 hx (hb hby at_281) (pc' := 283) rfl (v := (.ref r707)) rfl rfl ?_
            refine OwnK.iconst X707 hx (hb hby at_283) (pc' := 284) rfl (v := (0 : Int32)) (by decide) ?_
            refine OwnK.laload X707 hx hZ rfl f754 (by decide) (by first | decide | omega) (v := (.long w0)) rfl (hb hby at_284) (pc' := 285) rfl ?_
            refine OwnK.aload X707 hx (hb hby at_285) (pc' := 287) rfl (v := (.ref r707)) rfl rfl ?_
            refine OwnK.iconst X707 hx (hb hby at_287) (pc' := 288) rfl (v := (1 : Int32)) (by decide) ?_
            refine OwnK.laload X707 hx hZ rfl f754 (by decide) (by first | decide | omega) (v := (.long w2)) rfl (hb hby at_288) (pc' := 289) rfl ?_
            refine OwnK.lcmp_lt X707 hx (hb hby at_289) (pc1 := 290) rfl (hb hby at_290) (by decide) (pcT := 295) (by decide) (pc' := 293) rfl (fun hc289 => ?_) (fun (hc289 : w2.toInt ≤ w0.toInt) => by omega)
            refine OwnK.iload X707 hx (hb hby at_295) (pc' := 297) rfl (v := (2 : Int32)) rfl ?_
            refine OwnK.iconst X707 hx (hb hby at_297) (pc' := 298) rfl (v := (2 : Int32)) (by decide) ?_
            refine OwnK.icmp_le X707 hx (hb hby at_298) (by decide) (pcT := 315) (by decide) (pc' := 301) rfl (fun hc298 => ?_) (fun (hc298 : 2 < 2) => absurd hc298 (by decide))
            refine OwnK.iload X707 hx (hb hby at_315) (pc' := 317) rfl (v := (2 : Int32)) rfl ?_
            refine OwnK.iconst X707 hx (hb hby at_317) (pc' := 318) rfl (v := (3 : Int32)) (by decide) ?_
            refine OwnK.icmp_le X707 hx (hb hby at_318) (by decide) (pcT := 335) (by decide) (pc' := 321) rfl (fun hc318 => ?_) (fun (hc318 : 3 < 2) => absurd hc318 (by decide))
            refine OwnK.iload X707 hx (hb hby at_335) (pc' := 337) rfl (v := (2 : Int32)) rfl ?_
            refine OwnK.if_le X707 hx (hb hby at_337) (by decide) (pcT := 356) (by decide) (pc' := 340) rfl (fun (hc337 : 2 ≤ 0) => absurd hc337 (by decide)) (fun hc337 => ?_)
            refine OwnK.aload X707 hx (hb hby at_340) (pc' := 342) rfl (v := (.ref a1)) rfl rfl ?_
            refine OwnK.iload X707 hx (hb hby at_342) (pc' := 344) rfl (v := (4 : Int32)) rfl ?_
            refine OwnK.aload X707 hx (hb hby at_344) (pc' := 346) rfl (v := (.ref r707)) rfl rfl ?_
            refine OwnK.iconst X707 hx (hb hby at_346) (pc' := 347) rfl (v := (0 : Int32)) (by decide) ?_
            refine OwnK.laload X707 hx hZ rfl f754 (by decide) (by first | decide | omega) (v := (.long w0)) rfl (hb hby at_347) (pc' := 348) rfl ?_
            refine OwnK.callS_ X707 hx hZ hown (y := (⟨"com/example/ledgerwire/ledgerwire/store/EntriesRecordsPinLaw", "inS", "([JIJ)Z"⟩ : MethodName)) (hw _ (List.mem_of_getElem? (i := 39) rfl)) (hw _ (List.mem_of_getElem? (i := 40) rfl)) (hw _ (List.mem_of_getElem? (i := 3) rfl)) (hw _ (List.mem_of_getElem? (i := 41) rfl)) (by decide) (own_met6 l Z a0 hw T707.heap a1 (4 : Int32) w0 _ w0 w1 w2 w3 f713 ) (by decide) (W := 0) (by decide) rfl (by rw [hml]; rfl) own_pd_7 (argsL := [(.ref a1), (.int (4 : Int32)), (.long w0)]) rfl (S := []) rfl (Nat.le_of_eq rfl) (hb hby at_348) (pc' := 351) rfl (by decide) (by decide) (fun T755 v755 L755 X755 hQ755 => ?_)
            obtain ⟨rfl, e755, rfl⟩ := hQ755
            have N756 := Fr.app N708 (Fr.nil n0)
            refine OwnK.if_ne X755 hx (hb hby at_351) (by decide) (pcT := 356) (by decide) (pc' := 354) rfl (fun hc351 => ?_) (fun (hc351 : (own_in (4 : Int32).toInt w0.toInt w1.toInt w2.toInt w3.toInt w0.toInt).toInt = 0) => absurd ((congrArg Int32.toInt (own_in1 (by omega) : (own_in (4 : Int32).toInt w0.toInt w1.toInt w2.toInt w3.toInt w0.toInt) = 1)).symm.trans hc351) (by decide))
            refine OwnK.iload X755 hx (hb hby at_356) (pc' := 358) rfl (v := (2 : Int32)) rfl ?_
            refine OwnK.iconst X755 hx (hb hby at_358) (pc' := 359) rfl (v := (1 : Int32)) (by decide) ?_
            refine OwnK.icmp_le X755 hx (hb hby at_359) (by decide) (pcT := 378) (by decide) (pc' := 362) rfl (fun (hc359 : 2 ≤ 1) => absurd hc359 (by decide)) (fun hc359 => ?_)
            refine OwnK.aload X755 hx (hb hby at_362) (pc' := 364) rfl (v := (.ref a1)) rfl rfl ?_
            refine OwnK.iload X755 hx (hb hby at_364) (pc' := 366) rfl (v := (4 : Int32)) rfl ?_
            refine OwnK.aload X755 hx (hb hby at_366) (pc' := 368) rfl (v := (.ref r707)) rfl rfl ?_
            refine OwnK.iconst X755 hx (hb hby at_368) (pc' := 369) rfl (v := (1 : Int32)) (by decide) ?_
            refine OwnK.laload X755 hx hZ e755 f754 (by decide) (by first | decide | omega) (v := (.long w2)) rfl (hb hby at_369) (pc' := 370) rfl ?_
            refine OwnK.callS_ X755 hx hZ hown (y := (⟨"com/example/ledgerwire/ledgerwire/store/EntriesRecordsPinLaw", "inS", "([JIJ)Z"⟩ : MethodName)) (hw _ (List.mem_of_getElem? (i := 39) rfl)) (hw _ (List.mem_of_getElem? (i := 40) rfl)) (hw _ (List.mem_of_getElem? (i := 3) rfl)) (hw _ (List.mem_of_getElem? (i := 41) rfl)) (by decide) (own_met6 l Z a0 hw T707.heap a1 (4 : Int32) w2 _ w0 w1 w2 w3 f713 ) (by decide) (W := 0) (by decide) e755 (by rw [hml]; rfl) own_pd_7 (argsL := [(.ref a1), (.int (4 : Int32)), (.long w2)]) rfl (S := []) rfl (Nat.le_of_eq rfl) (hb hby at_370) (pc' := 373) rfl (by decide) (by decide) (fun T757 v757 L757 X757 hQ757 => ?_)
            obtain ⟨rfl, e757, rfl⟩ := hQ757
            have N758 := Fr.app N756 (Fr.nil n0)
            refine OwnK.if_ne X757 hx (hb hby at_373) (by decide) (pcT := 378) (by decide) (pc' := 376) rfl (fun hc373 => ?_) (fun (hc373 : (own_in (4 : Int32).toInt w0.toInt w1.toInt w2.toInt w3.toInt w2.toInt).toInt = 0) => absurd ((congrArg Int32.toInt (own_in1 (by omega) : (own_in (4 : Int32).toInt w0.toInt w1.toInt w2.toInt w3.toInt w2.toInt) = 1)).symm.trans hc373) (by decide))
            refine OwnK.iload X757 hx (hb hby at_378) (pc' := 380) rfl (v := (2 : Int32)) rfl ?_
            refine OwnK.iconst X757 hx (hb hby at_380) (pc' := 381) rfl (v := (2 : Int32)) (by decide) ?_
            refine OwnK.icmp_le X757 hx (hb hby at_381) (by decide) (pcT := 400) (by decide) (pc' := 384) rfl (fun hc381 => ?_) (fun (hc381 : 2 < 2) => absurd hc381 (by decide))
            refine OwnK.iload X757 hx (hb hby at_400) (pc' := 402) rfl (v := (2 : Int32)) rfl ?_
            refine OwnK.iconst X757 hx (hb hby at_402) (pc' := 403) rfl (v := (3 : Int32)) (by decide) ?_
            refine OwnK.icmp_le X757 hx (hb hby at_403) (by decide) (pcT := 422) (by decide) (pc' := 406) rfl (fun hc403 => ?_) (fun (hc403 : 3 < 2) => absurd hc403 (by decide))
            refine OwnK.iload X757 hx (hb hby at_422) (pc' := 424) rfl (v := (4 : Int32)) rfl ?_
            refine OwnK.if_le X757 hx (hb hby at_424) (by decide) (pcT := 441) (by decide) (pc' := 427) rfl (fun (hc424 : 4 ≤ 0) => absurd hc424 (by decide)) (fun hc424 => ?_)
            refine OwnK.aload X757 hx (hb hby at_427) (pc' := 429) rfl (v := (.ref r707)) rfl rfl ?_
            refine OwnK.aload X757 hx (hb hby at_429) (pc' := 431) rfl (v := (.ref a1)) rfl rfl ?_
            refine OwnK.iconst X757 hx (hb hby at_431) (pc' := 432) rfl (v := (0 : Int32)) (by decide) ?_
            refine OwnK.laload X757 hx hZ e757 f713 (by decide) (by first | decide | omega) (v := (.long w0)) rfl (hb hby at_432) (pc' := 433) rfl ?_
            refine OwnK.callS_ X757 hx hZ hown (y := (⟨"com/example/ledgerwire/ledgerwire/store/EntriesRecordsPinLaw", "inR", "([JJ)Z"⟩ : MethodName)) (hw _ (List.mem_of_getElem? (i := 42) rfl)) (hw _ (List.mem_of_getElem? (i := 43) rfl)) (hw _ (List.mem_of_getElem? (i := 3) rfl)) (hw _ (List.mem_of_getElem? (i := 44) rfl)) (by decide) (own_met7 l Z a0 hw T707.heap r707 w0 _ (2 : Int32) w0 w2 (0 : Int64) (0 : Int64) (f754.pad (pad_rep [(.long w0), (.long w2)] (.long (0 : Int64)) 2)) ) (by decide) (W := 0) (by decide) e757 (by rw [hml]; rfl) own_pd_8 (argsL := [(.ref r707), (.long w0)]) rfl (S := []) rfl (Nat.le_of_eq rfl) (hb hby at_433) (pc' := 436) rfl (by decide) (by decide) (fun T759 v759 L759 X759 hQ759 => ?_)
            obtain ⟨rfl, e759, rfl⟩ := hQ759
            have N760 := Fr.app N758 (Fr.nil n0)
            refine OwnK.if_ne X759 hx (hb hby at_436) (by decide) (pcT := 441) (by decide) (pc' := 439) rfl (fun hc436 => ?_) (fun (hc436 : (own_in (2 : Int32).toInt w0.toInt w2.toInt (0 : Int64).toInt (0 : Int64).toInt w0.toInt).toInt = 0) => absurd ((congrArg Int32.toInt (own_in1 (by omega) : (own_in (2 : Int32).toInt w0.toInt w2.toInt (0 : Int64).toInt (0 : Int64).toInt w0.toInt) = 1)).symm.trans hc436) (by decide))
            refine OwnK.iload X759 hx (hb hby at_441) (pc' := 443) rfl (v := (4 : Int32)) rfl ?_
            refine OwnK.iconst X759 hx (hb hby at_443) (pc' := 444) rfl (v := (1 : Int32)) (by decide) ?_
            refine OwnK.icmp_le X759 hx (hb hby at_444) (by decide) (pcT := 461) (by decide) (pc' := 447) rfl (fun (hc444 : 4 ≤ 1) => absurd hc444 (by decide)) (fun hc444 => ?_)
            refine OwnK.aload X759 hx (hb hby at_447) (pc' := 449) rfl (v := (.ref r707)) rfl rfl ?_
            refine OwnK.aload X759 hx (hb hby at_449) (pc' := 451) rfl (v := (.ref a1)) rfl rfl ?_
            refine OwnK.iconst X759 hx (hb hby at_451) (pc' := 452) rfl (v := (1 : Int32)) (by decide) ?_
            refine OwnK.laload X759 hx hZ e759 f713 (by decide) (by first | decide | omega) (v := (.long w1)) rfl (hb hby at_452) (pc' := 453) rfl ?_
            refine OwnK.callS_ X759 hx hZ hown (y := (⟨"com/example/ledgerwire/ledgerwire/store/EntriesRecordsPinLaw", "inR", "([JJ)Z"⟩ : MethodName)) (hw _ (List.mem_of_getElem? (i := 42) rfl)) (hw _ (List.mem_of_getElem? (i := 43) rfl)) (hw _ (List.mem_of_getElem? (i := 3) rfl)) (hw _ (List.mem_of_getElem? (i := 44) rfl)) (by decide) (own_met7 l Z a0 hw T707.heap r707 w1 _ (2 : Int32) w0 w2 (0 : Int64) (0 : Int64) (f754.pad (pad_rep [(.long w0), (.long w2)] (.long (0 : Int64)) 2)) ) (by decide) (W := 0) (by decide) e759 (by rw [hml]; rfl) own_pd_8 (argsL := [(.ref r707), (.long w1)]) rfl (S := []) rfl (Nat.le_of_eq rfl) (hb hby at_453) (pc' := 456) rfl (by decide) (by decide) (fun T761 v761 L761 X761 hQ761 => ?_)
            obtain ⟨rfl, e761, rfl⟩ := hQ761
            have N762 := Fr.app N760 (Fr.nil n0)
            refine OwnK.if_ne X761 hx (hb hby at_456) (by decide) (pcT := 461) (by decide) (pc' := 459) rfl (fun hc456 => ?_) (fun (hc456 : (own_in (2 : Int32).toInt w0.toInt w2.toInt (0 : Int64).toInt (0 : Int64).toInt w1.toInt).toInt = 0) => absurd ((congrArg Int32.toInt (own_in1 (by omega) : (own_in (2 : Int32).toInt w0.toInt w2.toInt (0 : Int64).toInt (0 : Int64).toInt w1.toInt) = 1)).symm.trans hc456) (by decide))
            refine OwnK.iload X761 hx (hb hby at_461) (pc' := 463) rfl (v := (4 : Int32)) rfl ?_
            refine OwnK.iconst X761 hx (hb hby at_463) (pc' := 464) rfl (v := (2 : Int32)) (by decide) ?_
            refine OwnK.icmp_le X761 hx (hb hby at_464) (by decide) (pcT := 481) (by decide) (pc' := 467) rfl (fun (hc464 : 4 ≤ 2) => absurd hc464 (by decide)) (fun hc464 => ?_)
            refine OwnK.aload X761 hx (hb hby at_467) (pc' := 469) rfl (v := (.ref r707)) rfl rfl ?_
            refine OwnK.aload X761 hx (hb hby at_469) (pc' := 471) rfl (v := (.ref a1)) rfl rfl ?_
            refine OwnK.iconst X761 hx (hb hby at_471) (pc' := 472) rfl (v := (2 : Int32)) (by decide) ?_
            refine OwnK.laload X761 hx hZ e761 f713 (by decide) (by first | decide | omega) (v := (.long w2)) rfl (hb hby at_472) (pc' := 473) rfl ?_
            refine OwnK.callS_ X761 hx hZ hown (y := (⟨"com/example/ledgerwire/ledgerwire/store/EntriesRecordsPinLaw", "inR", "([JJ)Z"⟩ : MethodName)) (hw _ (List.mem_of_getElem? (i := 42) rfl)) (hw _ (List.mem_of_getElem? (i := 43) rfl)) (hw _ (List.mem_of_getElem? (i := 3) rfl)) (hw _ (List.mem_of_getElem? (i := 44) rfl)) (by decide) (own_met7 l Z a0 hw T707.heap r707 w2 _ (2 : Int32) w0 w2 (0 : Int64) (0 : Int64) (f754.pad (pad_rep [(.long w0), (.long w2)] (.long (0 : Int64)) 2)) ) (by decide) (W := 0) (by decide) e761 (by rw [hml]; rfl) own_pd_8 (argsL := [(.ref r707), (.long w2)]) rfl (S := []) rfl (Nat.le_of_eq rfl) (hb hby at_473) (pc' := 476) rfl (by decide) (by decide) (fun T763 v763 L763 X763 hQ763 => ?_)
            obtain ⟨rfl, e763, rfl⟩ := hQ763
            have N764 := Fr.app N762 (Fr.nil n0)
            refine OwnK.if_ne X763 hx (hb hby at_476) (by decide) (pcT := 481) (by decide) (pc' := 479) rfl (fun hc476 => ?_) (fun (hc476 : (own_in (2 : Int32).toInt w0.toInt w2.toInt (0 : Int64).toInt (0 : Int64).toInt w2.toInt).toInt = 0) => absurd ((congrArg Int32.toInt (own_in1 (by omega) : (own_in (2 : Int32).toInt w0.toInt w2.toInt (0 : Int64).toInt (0 : Int64).toInt w2.toInt) = 1)).symm.trans hc476) (by decide))
            refine OwnK.iload X763 hx (hb hby at_481) (pc' := 483) rfl (v := (4 : Int32)) rfl ?_
            refine OwnK.iconst X763 hx (hb hby at_483) (pc' := 484) rfl (v := (3 : Int32)) (by decide) ?_
            refine OwnK.icmp_le X763 hx (hb hby at_484) (by decide) (pcT := 501) (by decide) (pc' := 487) rfl (fun (hc484 : 4 ≤ 3) => absurd hc484 (by decide)) (fun hc484 => ?_)
            refine OwnK.aload X763 hx (hb hby at_487) (pc' := 489) rfl (v := (.ref r707)) rfl rfl ?_
            refine OwnK.aload X763 hx (hb hby at_489) (pc' := 491) rfl (v := (.ref a1)) rfl rfl ?_
            refine OwnK.iconst X763 hx (hb hby at_491) (pc' := 492) rfl (v := (3 : Int32)) (by decide) ?_
            refine OwnK.laload X763 hx hZ e763 f713 (by decide) (by first | decide | omega) (v := (.long w3)) rfl (hb hby at_492) (pc' := 493) rfl ?_
            refine OwnK.callS_ X763 hx hZ hown (y := (⟨"com/example/ledgerwire/ledgerwire/store/EntriesRecordsPinLaw", "inR", "([JJ)Z"⟩ : MethodName)) (hw _ (List.mem_of_getElem? (i := 42) rfl)) (hw _ (List.mem_of_getElem? (i := 43) rfl)) (hw _ (List.mem_of_getElem? (i := 3) rfl)) (hw _ (List.mem_of_getElem? (i := 44) rfl)) (by decide) (own_met7 l Z a0 hw T707.heap r707 w3 _ (2 : Int32) w0 w2 (0 : Int64) (0 : Int64) (f754.pad (pad_rep [(.long w0), (.long w2)] (.long (0 : Int64)) 2)) ) (by decide) (W := 0) (by decide) e763 (by rw [hml]; rfl) own_pd_8 (argsL := [(.ref r707), (.long w3)]) rfl (S := []) rfl (Nat.le_of_eq rfl) (hb hby at_493) (pc' := 496) rfl (by decide) (by decide) (fun T765 v765 L765 X765 hQ765 => ?_)
            obtain ⟨rfl, e765, rfl⟩ := hQ765
            have N766 := Fr.app N764 (Fr.nil n0)
            refine OwnK.if_ne X765 hx (hb hby at_496) (by decide) (pcT := 501) (by decide) (pc' := 499) rfl (fun hc496 => ?_) (fun (hc496 : (own_in (2 : Int32).toInt w0.toInt w2.toInt (0 : Int64).toInt (0 : Int64).toInt w3.toInt).toInt = 0) => absurd ((congrArg Int32.toInt (own_in1 (by omega) : (own_in (2 : Int32).toInt w0.toInt w2.toInt (0 : Int64).toInt (0 : Int64).toInt w3.toInt) = 1)).symm.trans hc496) (by decide))
            refine OwnK.iconst X765 hx (hb hby at_501) (pc' := 502) rfl (v := (1 : Int32)) (by decide) ?_
            refine OwnK.retN_ X765 hx hret (by simp) hlk (hb hby at_502) (by decide) (by decide) ?_
            exact ⟨rfl, N766⟩
          · refine OwnK.iincL X707 hx (hb hby at_262) (pc' := 265) rfl (x := (2 : Int32)) rfl (v := (3 : Int32)) (by decide) (Ls' := #[.val (.long p0), .second, .val (.long p1), .second, .val (.long p2), .second, .val (.long p3), .second, .val (.int p4), .val (.int p5), .val (.ref a1), .val (.int (4 : Int32)), .val (.ref a604), .val (.ref a638), .val (.ref r707), .val (.int (3 : Int32))]) rfl ?_
            have hdd : own_dd [w0, w1, w2, w3] = [w0, w2, w3] := by show _ :: own_go _ _ = _; rw [own_ge (by omega), own_gn (by omega), own_gn (by omega), own_g0]
            have f767 := V707
            rw [hdd] at f767
            have f768 : Arv Z T707.heap r707 _ .long (3 : Int32) [(.long w0), (.long w2), (.long w3)] (.long (0 : Int64)) := f767
            refine OwnK.aload X707 hx (hb hby at_265) (pc' := 267) rfl (v := (.ref r707)) rfl rfl ?_
            refine OwnK.arrlen X707 hx hZ rfl f768 (hb hby at_267) (pc' := 268) rfl ?_
            refine OwnK.iload X707 hx (hb hby at_268) (pc' := 270) rfl (v := (3 : Int32)) rfl ?_
            refine OwnK.icmp_eq X707 hx (hb hby at_270) (by decide) (pcT := 275) (by decide) (pc' := 273) rfl (fun hc270 => ?_) (fun (hc270 : ¬ 3 = 3) => absurd hc270 (by decide))
            refine OwnK.iload X707 hx (hb hby at_275) (pc' := 277) rfl (v := (3 : Int32)) rfl ?_
            refine OwnK.iconst X707 hx (hb hby at_277) (pc' := 278) rfl (v := (1 : Int32)) (by decide) ?_
            refine OwnK.icmp_le X707 hx (hb hby at_278) (by decide) (pcT := 295) (by decide) (pc' := 281) rfl (fun (hc278 : 3 ≤ 1) => absurd hc278 (by decide)) (fun hc278 => ?_)
            refine OwnK.aload X707 hx (hb hby at_281) (pc' := 283) rfl (v := (.ref r707)) rfl rfl ?_
            refine OwnK.iconst X707 hx (hb hby at_283) (pc' := 284) rfl (v := (0 : Int32)) (by decide) ?_
            refine OwnK.laload X707 hx hZ rfl f768 (by decide) (by first | decide | omega) (v := (.long w0)) rfl (hb hby at_284) (pc' := 285) rfl ?_
            refine OwnK.aload X707 hx (hb hby at_285) (pc' := 287) rfl (v := (.ref r707)) rfl rfl ?_
            refine OwnK.iconst X707 hx (hb hby at_287) (pc' := 288) rfl (v := (1 : Int32)) (by decide) ?_
            refine OwnK.laload X707 hx hZ rfl f768 (by decide) (by first | decide | omega) (v := (.long w2)) rfl (hb hby at_288) (pc' := 289) rfl ?_
            refine OwnK.lcmp_lt X707 hx (hb hby at_289) (pc1 := 290) rfl (hb hby at_290) (by decide) (pcT := 295) (by decide) (pc' := 293) rfl (fun hc289 => ?_) (fun (hc289 : w2.toInt ≤ w0.toInt) => by omega)
            refine OwnK.iload X707 hx (hb hby at_295) (pc' := 297) rfl (v := (3 : Int32)) rfl ?_
            refine OwnK.iconst X707 hx (hb hby at_297) (pc' := 298) rfl (v := (2 : Int32)) (by decide) ?_
            refine OwnK.icmp_le X707 hx (hb hby at_298) (by decide) (pcT := 315) (by decide) (pc' := 301) rfl (fun (hc298 : 3 ≤ 2) => absurd hc298 (by decide)) (fun hc298 => ?_)
            refine OwnK.aload X707 hx (hb hby at_301) (pc' := 303) rfl (v := (.ref r707)) rfl rfl ?_
            refine OwnK.iconst X707 hx (hb hby at_303) (pc' := 304) rfl (v := (1 : Int32)) (by decide) ?_
            refine OwnK.laload X707 hx hZ rfl f768 (by decide) (by first | decide | omega) (v := (.long w2)) rfl (hb hby at_304) (pc' := 305) rfl ?_
            refine OwnK.aload X707 hx (hb hby at_305) (pc' := 307) rfl (v := (.ref r707)) rfl rfl ?_
            refine OwnK.iconst X707 hx (hb hby at_307) (pc' := 308) rfl (v := (2 : Int32)) (by decide) ?_
            refine OwnK.laload X707 hx hZ rfl f768 (by decide) (by first | decide | omega) (v := (.long w3)) rfl (hb hby at_308) (pc' := 309) rfl ?_
            refine OwnK.lcmp_lt X707 hx (hb hby at_309) (pc1 := 310) rfl (hb hby at_310) (by decide) (pcT := 315) (by decide) (pc' := 313) rfl (fun hc309 => ?_) (fun (hc309 : w3.toInt ≤ w2.toInt) => by omega)
            refine OwnK.iload X707 hx (hb hby at_315) (pc' := 317) rfl (v := (3 : Int32)) rfl ?_
            refine OwnK.iconst X707 hx (hb hby at_317) (pc' := 318) rfl (v := (3 : Int32)) (by decide) ?_
            refine OwnK.icmp_le X707 hx (hb hby at_318) (by decide) (pcT := 335) (by decide) (pc' := 321) rfl (fun hc318 => ?_) (fun (hc318 : 3 < 3) => absurd hc318 (by decide))
            refine OwnK.iload X707 hx (hb hby at_335) (pc' := 337) rfl (v := (3 : Int32)) rfl ?_
            refine OwnK.if_le X707 hx (hb hby at_337) (by decide) (pcT := 356) (by decide) (pc' := 340) rfl (fun (hc337 : 3 ≤ 0) => absurd hc337 (by decide)) (fun hc337 => ?_)
            refine OwnK.aload X707 hx (hb hby at_340) (pc' := 342) rfl (v := (.ref a1)) rfl rfl ?_
            refine OwnK.iload X707 hx (hb hby at_342) (pc' := 344) rfl (v := (4 : Int32)) rfl ?_
            refine OwnK.aload X707 hx (hb hby at_344) (pc' := 346) rfl (v := (.ref r707)) rfl rfl ?_
            refine OwnK.iconst X707 hx (hb hby at_346) (pc' := 347) rfl (v := (0 : Int32)) (by decide) ?_
            refine OwnK.laload X707 hx hZ rfl f768 (by decide) (by first | decide | omega) (v := (.long w0)) rfl (hb hby at_347) (pc' := 348) rfl ?_
            refine OwnK.callS_ X707 hx hZ hown (y := (⟨"com/example/ledgerwire/ledgerwire/store/EntriesRecordsPinLaw", "inS", "([JIJ)Z"⟩ : MethodName)) (hw _ (List.mem_of_getElem? (i := 39) rfl)) (hw _ (List.mem_of_getElem? (i := 40) rfl)) (hw _ (List.mem_of_getElem? (i := 3) rfl)) (hw _ (List.mem_of_getElem? (i := 41) rfl)) (by decide) (own_met6 l Z a0 hw T707.heap a1 (4 : Int32) w0 _ w0 w1 w2 w3 f713 ) (by decide) (W := 0) (by decide) rfl (by rw [hml]; rfl) own_pd_7 (argsL := [(.ref a1), (.int (4 : Int32)), (.long w0)]) rfl (S := []) rfl (Nat.le_of_eq rfl) (hb hby at_348) (pc' := 351) rfl (by decide) (by decide) (fun T769 v769 L769 X769 hQ769 => ?_)
            obtain ⟨rfl, e769, rfl⟩ := hQ769
            have N770 := Fr.app N708 (Fr.nil n0)
            refine OwnK.if_ne X769 hx (hb hby at_351) (by decide) (pcT := 356) (by decide) (pc' := 354) rfl (fun hc351 => ?_) (fun (hc351 : (own_in (4 : Int32).toInt w0.toInt w1.toInt w2.toInt w3.toInt w0.toInt).toInt = 0) => absurd ((congrArg Int32.toInt (own_in1 (by omega) : (own_in (4 : Int32).toInt w0.toInt w1.toInt w2.toInt w3.toInt w0.toInt) = 1)).symm.trans hc351) (by decide))
            refine OwnK.iload X769 hx (hb hby at_356) (pc' := 358) rfl (v := (3 : Int32)) rfl ?_
            refine OwnK.iconst X769 hx (hb hby at_358) (pc' := 359) rfl (v := (1 : Int32)) (by decide) ?_
            refine OwnK.icmp_le X769 hx (hb hby at_359) (by decide) (pcT := 378) (by decide) (pc' := 362) rfl (fun (hc359 : 3 ≤ 1) => absurd hc359 (by decide)) (fun hc359 => ?_)
            refine OwnK.aload X769 hx (hb hby at_362) (pc' := 364) rfl (v := (.ref a1)) rfl rfl ?_
            refine OwnK.iload X769 hx (hb hby at_364) (pc' := 366) rfl (v := (4 : Int32)) rfl ?_
            refine OwnK.aload X769 hx (hb hby at_366) (pc' := 368) rfl (v := (.ref r707)) rfl rfl ?_
            refine OwnK.iconst X769 hx (hb hby at_368) (pc' := 369) rfl (v := (1 : Int32)) (by decide) ?_
            refine OwnK.laload X769 hx hZ e769 f768 (by decide) (by first | decide | omega) (v := (.long w2)) rfl (hb hby at_369) (pc' := 370) rfl ?_
            refine OwnK.callS_ X769 hx hZ hown (y := (⟨"com/example/ledgerwire/ledgerwire/store/EntriesRecordsPinLaw", "inS", "([JIJ)Z"⟩ : MethodName)) (hw _ (List.mem_of_getElem? (i := 39) rfl)) (hw _ (List.mem_of_getElem? (i := 40) rfl)) (hw _ (List.mem_of_getElem? (i := 3) rfl)) (hw _ (List.mem_of_getElem? (i := 41) rfl)) (by decide) (own_met6 l Z a0 hw T707.heap a1 (4 : Int32) w2 _ w0 w1 w2 w3 f713 ) (by decide) (W := 0) (by decide) e769 (by rw [hml]; rfl) own_pd_7 (argsL := [(.ref a1), (.int (4 : Int32)), (.long w2)]) rfl (S := []) rfl (Nat.le_of_eq rfl) (hb hby at_370) (pc' := 373) rfl (by decide) (by decide) (fun T771 v771 L771 X771 hQ771 => ?_)
            obtain ⟨rfl, e771, rfl⟩ := hQ771
            have N772 := Fr.app N770 (Fr.nil n0)
            refine OwnK.if_ne X771 hx (hb hby at_373) (by decide) (pcT := 378) (by decide) (pc' := 376) rfl (fun hc373 => ?_) (fun (hc373 : (own_in (4 : Int32).toInt w0.toInt w1.toInt w2.toInt w3.toInt w2.toInt).toInt = 0) => absurd ((congrArg Int32.toInt (own_in1 (by omega) : (own_in (4 : Int32).toInt w0.toInt w1.toInt w2.toInt w3.toInt w2.toInt) = 1)).symm.trans hc373) (by decide))
            refine OwnK.iload X771 hx (hb hby at_378) (pc' := 380) rfl (v := (3 : Int32)) rfl ?_
            refine OwnK.iconst X771 hx (hb hby at_380) (pc' := 381) rfl (v := (2 : Int32)) (by decide) ?_
            refine OwnK.icmp_le X771 hx (hb hby at_381) (by decide) (pcT := 400) (by decide) (pc' := 384) rfl (fun (hc381 : 3 ≤ 2) => absurd hc381 (by decide)) (fun hc381 => ?_)
            refine OwnK.aload X771 hx (hb hby at_384) (pc' := 386) rfl (v := (.ref a1)) rfl rfl ?_
            refine OwnK.iload X771 hx (hb hby at_386) (pc' := 388) rfl (v := (4 : Int32)) rfl ?_
            refine OwnK.aload X771 hx (hb hby at_388) (pc' := 390) rfl (v := (.ref r707)) rfl rfl ?_
            refine OwnK.iconst X771 hx (hb hby at_390) (pc' := 391) rfl (v := (2 : Int32)) (by decide) ?_
            refine OwnK.laload X771 hx hZ e771 f768 (by decide) (by first | decide | omega) (v := (.long w3)) rfl (hb hby at_391) (pc' := 392) rfl ?_
            refine OwnK.callS_ X771 hx hZ hown (y := (⟨"com/example/ledgerwire/ledgerwire/store/EntriesRecordsPinLaw", "inS", "([JIJ)Z"⟩ : MethodName)) (hw _ (List.mem_of_getElem? (i := 39) rfl)) (hw _ (List.mem_of_getElem? (i := 40) rfl)) (hw _ (List.mem_of_getElem? (i := 3) rfl)) (hw _ (List.mem_of_getElem? (i := 41) rfl)) (by decide) (own_met6 l Z a0 hw T707.heap a1 (4 : Int32) w3 _ w0 w1 w2 w3 f713 ) (by decide) (W := 0) (by decide) e771 (by rw [hml]; rfl) own_pd_7 (argsL := [(.ref a1), (.int (4 : Int32)), (.long w3)]) rfl (S := []) rfl (Nat.le_of_eq rfl) (hb hby at_392) (pc' := 395) rfl (by decide) (by decide) (fun T773 v773 L773 X773 hQ773 => ?_)
            obtain ⟨rfl, e773, rfl⟩ := hQ773
            have N774 := Fr.app N772 (Fr.nil n0)
            refine OwnK.if_ne X773 hx (hb hby at_395) (by decide) (pcT := 400) (by decide) (pc' := 398) rfl (fun hc395 => ?_) (fun (hc395 : (own_in (4 : Int32).toInt w0.toInt w1.toInt w2.toInt w3.toInt w3.toInt).toInt = 0) => absurd ((congrArg Int32.toInt (own_in1 (by omega) : (own_in (4 : Int32).toInt w0.toInt w1.toInt w2.toInt w3.toInt w3.toInt) = 1)).symm.trans hc395) (by decide))
            refine OwnK.iload X773 hx (hb hby at_400) (pc' := 402) rfl (v := (3 : Int32)) rfl ?_
            refine OwnK.iconst X773 hx (hb hby at_402) (pc' := 403) rfl (v := (3 : Int32)) (by decide) ?_
            refine OwnK.icmp_le X773 hx (hb hby at_403) (by decide) (pcT := 422) (by decide) (pc' := 406) rfl (fun hc403 => ?_) (fun (hc403 : 3 < 3) => absurd hc403 (by decide))
            refine OwnK.iload X773 hx (hb hby at_422) (pc' := 424) rfl (v := (4 : Int32)) rfl ?_
            refine OwnK.if_le X773 hx (hb hby at_424) (by decide) (pcT := 441) (by decide) (pc' := 427) rfl (fun (hc424 : 4 ≤ 0) => absurd hc424 (by decide)) (fun hc424 => ?_)
            refine OwnK.aload X773 hx (hb hby at_427) (pc' := 429) rfl (v := (.ref r707)) rfl rfl ?_
            refine OwnK.aload X773 hx (hb hby at_429) (pc' := 431) rfl (v := (.ref a1)) rfl rfl ?_
            refine OwnK.iconst X773 hx (hb hby at_431) (pc' := 432) rfl (v := (0 : Int32)) (by decide) ?_
            refine OwnK.laload X773 hx hZ e773 f713 (by decide) (by first | decide | omega) (v := (.long w0)) rfl (hb hby at_432) (pc' := 433) rfl ?_
            refine OwnK.callS_ X773 hx hZ hown (y := (⟨"com/example/ledgerwire/ledgerwire/store/EntriesRecordsPinLaw", "inR", "([JJ)Z"⟩ : MethodName)) (hw _ (List.mem_of_getElem? (i := 42) rfl)) (hw _ (List.mem_of_getElem? (i := 43) rfl)) (hw _ (List.mem_of_getElem? (i := 3) rfl)) (hw _ (List.mem_of_getElem? (i := 44) rfl)) (by decide) (own_met7 l Z a0 hw T707.heap r707 w0 _ (3 : Int32) w0 w2 w3 (0 : Int64) (f768.pad (pad_rep [(.long w0), (.long w2), (.long w3)] (.long (0 : Int64)) 1)) ) (by decide) (W := 0) (by decide) e773 (by rw [hml]; rfl) own_pd_8 (argsL := [(.ref r707), (.long w0)]) rfl (S := []) rfl (Nat.le_of_eq rfl) (hb hby at_433) (pc' := 436) rfl (by decide) (by decide) (fun T775 v775 L775 X775 hQ775 => ?_)
            obtain ⟨rfl, e775, rfl⟩ := hQ775
            have N776 := Fr.app N774 (Fr.nil n0)
            refine OwnK.if_ne X775 hx (hb hby at_436) (by decide) (pcT := 441) (by decide) (pc' := 439) rfl (fun hc436 => ?_) (fun (hc436 : (own_in (3 : Int32).toInt w0.toInt w2.toInt w3.toInt (0 : Int64).toInt w0.toInt).toInt = 0) => absurd ((congrArg Int32.toInt (own_in1 (by omega) : (own_in (3 : Int32).toInt w0.toInt w2.toInt w3.toInt (0 : Int64).toInt w0.toInt) = 1)).symm.trans hc436) (by decide))
            refine OwnK.iload X775 hx (hb hby at_441) (pc' := 443) rfl (v := (4 : Int32)) rfl ?_
            refine OwnK.iconst X775 hx (hb hby at_443) (pc' := 444) rfl (v := (1 : Int32)) (by decide) ?_
            refine OwnK.icmp_le X775 hx (hb hby at_444) (by decide) (pcT := 461) (by decide) (pc' := 447) rfl (fun (hc444 : 4 ≤ 1) => absurd hc444 (by decide)) (fun hc444 => ?_)
            refine OwnK.aload X775 hx (hb hby at_447) (pc' := 449) rfl (v := (.ref r707)) rfl rfl ?_
            refine OwnK.aload X775 hx (hb hby at_449) (pc' := 451) rfl (v := (.ref a1)) rfl rfl ?_
            refine OwnK.iconst X775 hx (hb hby at_451) (pc' := 452) rfl (v := (1 : Int32)) (by decide) ?_
            refine OwnK.laload X775 hx hZ e775 f713 (by decide) (by first | decide | omega) (v := (.long w1)) rfl (hb hby at_452) (pc' := 453) rfl ?_
            refine OwnK.callS_ X775 hx hZ hown (y := (⟨"com/example/ledgerwire/ledgerwire/store/EntriesRecordsPinLaw", "inR", "([JJ)Z"⟩ : MethodName)) (hw _ (List.mem_of_getElem? (i := 42) rfl)) (hw _ (List.mem_of_getElem? (i := 43) rfl)) (hw _ (List.mem_of_getElem? (i := 3) rfl)) (hw _ (List.mem_of_getElem? (i := 44) rfl)) (by decide) (own_met7 l Z a0 hw T707.heap r707 w1 _ (3 : Int32) w0 w2 w3 (0 : Int64) (f768.pad (pad_rep [(.long w0), (.long w2), (.long w3)] (.long (0 : Int64)) 1)) ) (by decide) (W := 0) (by decide) e775 (by rw [hml]; rfl) own_pd_8 (argsL := [(.ref r707), (.long w1)]) rfl (S := []) rfl (Nat.le_of_eq rfl) (hb hby at_453) (pc' := 456) rfl (by decide) (by decide) (fun T777 v777 L777 X777 hQ777 => ?_)
            obtain ⟨rfl, e777, rfl⟩ := hQ777
            have N778 := Fr.app N776 (Fr.nil n0)
            refine OwnK.if_ne X777 hx (hb hby at_456) (by decide) (pcT := 461) (by decide) (pc' := 459) rfl (fun hc456 => ?_) (fun (hc456 : (own_in (3 : Int32).toInt w0.toInt w2.toInt w3.toInt (0 : Int64).toInt w1.toInt).toInt = 0) => absurd ((congrArg Int32.toInt (own_in1 (by omega) : (own_in (3 : Int32).toInt w0.toInt w2.toInt w3.toInt (0 : Int64).toInt w1.toInt) = 1)).symm.trans hc456) (by decide))
            refine OwnK.iload X777 hx (hb hby at_461) (pc' := 463) rfl (v := (4 : Int32)) rfl ?_
            refine OwnK.iconst X777 hx (hb hby at_463) (pc' := 464) rfl (v := (2 : Int32)) (by decide) ?_
            refine OwnK.icmp_le X777 hx (hb hby at_464) (by decide) (pcT := 481) (by decide) (pc' := 467) rfl (fun (hc464 : 4 ≤ 2) => absurd hc464 (by decide)) (fun hc464 => ?_)
            refine OwnK.aload X777 hx (hb hby at_467) (pc' := 469) rfl (v := (.ref r707)) rfl rfl ?_
            refine OwnK.aload X777 hx (hb hby at_469) (pc' := 471) rfl (v := (.ref a1)) rfl rfl ?_
            refine OwnK.iconst X777 hx (hb hby at_471) (pc' := 472) rfl (v := (2 : Int32)) (by decide) ?_
            refine OwnK.laload X777 hx hZ e777 f713 (by decide) (by first | decide | omega) (v := (.long w2)) rfl (hb hby at_472) (pc' := 473) rfl ?_
            refine OwnK.callS_ X777 hx hZ hown (y := (⟨"com/example/ledgerwire/ledgerwire/store/EntriesRecordsPinLaw", "inR", "([JJ)Z"⟩ : MethodName)) (hw _ (List.mem_of_getElem? (i := 42) rfl)) (hw _ (List.mem_of_getElem? (i := 43) rfl)) (hw _ (List.mem_of_getElem? (i := 3) rfl)) (hw _ (List.mem_of_getElem? (i := 44) rfl)) (by decide) (own_met7 l Z a0 hw T707.heap r707 w2 _ (3 : Int32) w0 w2 w3 (0 : Int64) (f768.pad (pad_rep [(.long w0), (.long w2), (.long w3)] (.long (0 : Int64)) 1)) ) (by decide) (W := 0) (by decide) e777 (by rw [hml]; rfl) own_pd_8 (argsL := [(.ref r707), (.long w2)]) rfl (S := []) rfl (Nat.le_of_eq rfl) (hb hby at_473) (pc' := 476) rfl (by decide) (by decide) (fun T779 v779 L779 X779 hQ779 => ?_)
            obtain ⟨rfl, e779, rfl⟩ := hQ779
            have N780 := Fr.app N778 (Fr.nil n0)
            refine OwnK.if_ne X779 hx (hb hby at_476) (by decide) (pcT := 481) (by decide) (pc' := 479) rfl (fun hc476 => ?_) (fun (hc476 : (own_in (3 : Int32).toInt w0.toInt w2.toInt w3.toInt (0 : Int64).toInt w2.toInt).toInt = 0) => absurd ((congrArg Int32.toInt (own_in1 (by omega) : (own_in (3 : Int32).toInt w0.toInt w2.toInt w3.toInt (0 : Int64).toInt w2.toInt) = 1)).symm.trans hc476) (by decide))
            refine OwnK.iload X779 hx (hb hby at_481) (pc' := 483) rfl (v := (4 : Int32)) rfl ?_
            refine OwnK.iconst X779 hx (hb hby at_483) (pc' := 484) rfl (v := (3 : Int32)) (by decide) ?_
            refine OwnK.icmp_le X779 hx (hb hby at_484) (by decide) (pcT := 501) (by decide) (pc' := 487) rfl (fun (hc484 : 4 ≤ 3) => absurd hc484 (by decide)) (fun hc484 => ?_)
            refine OwnK.aload X779 hx (hb hby at_487) (pc' := 489) rfl (v := (.ref r707)) rfl rfl ?_
            refine OwnK.aload X779 hx (hb hby at_489) (pc' := 491) rfl (v := (.ref a1)) rfl rfl ?_
            refine OwnK.iconst X779 hx (hb hby at_491) (pc' := 492) rfl (v := (3 : Int32)) (by decide) ?_
            refine OwnK.laload X779 hx hZ e779 f713 (by decide) (by first | decide | omega) (v := (.long w3)) rfl (hb hby at_492) (pc' := 493) rfl ?_
            refine OwnK.callS_ X779 hx hZ hown (y := (⟨"com/example/ledgerwire/ledgerwire/store/EntriesRecordsPinLaw", "inR", "([JJ)Z"⟩ : MethodName)) (hw _ (List.mem_of_getElem? (i := 42) rfl)) (hw _ (List.mem_of_getElem? (i := 43) rfl)) (hw _ (List.mem_of_getElem? (i := 3) rfl)) (hw _ (List.mem_of_getElem? (i := 44) rfl)) (by decide) (own_met7 l Z a0 hw T707.heap r707 w3 _ (3 : Int32) w0 w2 w3 (0 : Int64) (f768.pad (pad_rep [(.long w0), (.long w2), (.long w3)] (.long (0 : Int64)) 1)) ) (by decide) (W := 0) (by decide) e779 (by rw [hml]; rfl) own_pd_8 (argsL := [(.ref r707), (.long w3)]) rfl (S := []) rfl (Nat.le_of_eq rfl) (hb hby at_493) (pc' := 496) rfl (by decide) (by decide) (fun T781 v781 L781 X781 hQ781 => ?_)
            obtain ⟨rfl, e781, rfl⟩ := hQ781
            have N782 := Fr.app N780 (Fr.nil n0)
            refine OwnK.if_ne X781 hx (hb hby at_496) (by decide) (pcT := 501) (by decide) (pc' := 499) rfl (fun hc496 => ?_) (fun (hc496 : (own_in (3 : Int32).toInt w0.toInt w2.toInt w3.toInt (0 : Int64).toInt w3.toInt).toInt = 0) => absurd ((congrArg Int32.toInt (own_in1 (by omega) : (own_in (3 : Int32).toInt w0.toInt w2.toInt w3.toInt (0 : Int64).toInt w3.toInt) = 1)).symm.trans hc496) (by decide))
            refine OwnK.iconst X781 hx (hb hby at_501) (pc' := 502) rfl (v := (1 : Int32)) (by decide) ?_
            refine OwnK.retN_ X781 hx hret (by simp) hlk (hb hby at_502) (by decide) (by decide) ?_
            exact ⟨rfl, N782⟩
      · refine OwnK.iincL X707 hx (hb hby at_220) (pc' := 223) rfl (x := (1 : Int32)) rfl (v := (2 : Int32)) (by decide) (Ls' := #[.val (.long p0), .second, .val (.long p1), .second, .val (.long p2), .second, .val (.long p3), .second, .val (.int p4), .val (.int p5), .val (.ref a1), .val (.int (4 : Int32)), .val (.ref a604), .val (.ref a638), .val (.ref r707), .val (.int (2 : Int32))]) rfl ?_
        refine OwnK.iload X707 hx (hb hby at_223) (pc' := 225) rfl (v := (4 : Int32)) rfl ?_
        refine OwnK.iconst X707 hx (hb hby at_225) (pc' := 226) rfl (v := (2 : Int32)) (by decide) ?_
        refine OwnK.icmp_le X707 hx (hb hby at_226) (by decide) (pcT := 244) (by decide) (pc' := 229) rfl (fun (hc226 : 4 ≤ 2) => absurd hc226 (by decide)) (fun hc226 => ?_)
        refine OwnK.aload X707 hx (hb hby at_229) (pc' := 231) rfl (v := (.ref a1)) rfl rfl ?_
        refine OwnK.iconst X707 hx (hb hby at_231) (pc' := 232) rfl (v := (2 : Int32)) (by decide) ?_
        refine OwnK.laload X707 hx hZ rfl f713 (by decide) (by first | decide | omega) (v := (.long w2)) rfl (hb hby at_232) (pc' := 233) rfl ?_
        refine OwnK.aload X707 hx (hb hby at_233) (pc' := 235) rfl (v := (.ref a1)) rfl rfl ?_
        refine OwnK.iconst X707 hx (hb hby at_235) (pc' := 236) rfl (v := (1 : Int32)) (by decide) ?_
        refine OwnK.laload X707 hx hZ rfl f713 (by decide) (by first | decide | omega) (v := (.long w1)) rfl (hb hby at_236) (pc' := 237) rfl ?_
        refine OwnK.lcmp_eq X707 hx (hb hby at_237) (pc1 := 238) rfl (hb hby at_238) (by decide) (pcT := 244) (by decide) (pc' := 241) rfl (fun (hc783 : w2.toInt = w1.toInt) => ?_) (fun (hc783 : ¬ w2.toInt = w1.toInt) => ?_)
        · refine OwnK.iload X707 hx (hb hby at_244) (pc' := 246) rfl (v := (4 : Int32)) rfl ?_
          refine OwnK.iconst X707 hx (hb hby at_246) (pc' := 247) rfl (v := (3 : Int32)) (by decide) ?_
          refine OwnK.icmp_le X707 hx (hb hby at_247) (by decide) (pcT := 265) (by decide) (pc' := 250) rfl (fun (hc247 : 4 ≤ 3) => absurd hc247 (by decide)) (fun hc247 => ?_)
          refine OwnK.aload X707 hx (hb hby at_250) (pc' := 252) rfl (v := (.ref a1)) rfl rfl ?_
          refine OwnK.iconst X707 hx (hb hby at_252) (pc' := 253) rfl (v := (3 : Int32)) (by decide) ?_
          refine OwnK.laload X707 hx hZ rfl f713 (by decide) (by first | decide | omega) (v := (.long w3)) rfl (hb hby at_253) (pc' := 254) rfl ?_
          refine OwnK.aload X707 hx (hb hby at_254) (pc' := 256) rfl (v := (.ref a1)) rfl rfl ?_
          refine OwnK.iconst X707 hx (hb hby at_256) (pc' := 257) rfl (v := (2 : Int32)) (by decide) ?_
          refine OwnK.laload X707 hx hZ rfl f713 (by decide) (by first | decide | omega) (v := (.long w2)) rfl (hb hby at_257) (pc' := 258) rfl ?_
          refine OwnK.lcmp_eq X707 hx (hb hby at_258) (pc1 := 259) rfl (hb hby at_259) (by decide) (pcT := 265) (by decide) (pc' := 262) rfl (fun (hc784 : w3.toInt = w2.toInt) => ?_) (fun (hc784 : ¬ w3.toInt = w2.toInt) => ?_)
          · have hdd : own_dd [w0, w1, w2, w3] = [w0, w1] := by show _ :: own_go _ _ = _; rw [own_gn (by omega), own_ge (by omega), own_ge (by omega), own_g0]
            have f785 := V707
            rw [hdd] at f785
            have f786 : Arv Z T707.heap r707 _ .long (2 : Int32) [(.long w0), (.long w1)] (.long (0 : Int64)) := f785
            refine OwnK.aload X707 hx (hb hby at_265) (pc' := 267) rfl (v := (.ref r707)) rfl rfl ?_
            refine OwnK.arrlen X707 hx hZ rfl f786 (hb hby at_267) (pc' := 268) rfl ?_
            refine OwnK.iload X707 hx (hb hby at_268) (pc' := 270) rfl (v := (2 : Int32)) rfl ?_
            refine OwnK.icmp_eq X707 hx (hb hby at_270) (by decide) (pcT := 275) (by decide) (pc' := 273) rfl (fun hc270 => ?_) (fun (hc270 : ¬ 2 = 2) => absurd hc270 (by decide))
            refine OwnK.iload X707 hx (hb hby at_275) (pc' := 277) rfl (v := (2 : Int32)) rfl ?_
            refine OwnK.iconst X707 hx (hb hby at_277) (pc' := 278) rfl (v := (1 : Int32)) (by decide) ?_
            refine OwnK.icmp_le X707 hx (hb hby at_278) (by decide) (pcT := 295) (by decide) (pc' := 281) rfl (fun (hc278 : 2 ≤ 1) => absurd hc278 (by decide)) (fun hc278 => ?_)
            refine OwnK.aload X707 hx (hb hby at_281) (pc' := 283) rfl (v := (.ref r707)) rfl rfl ?_
            refine OwnK.iconst X707 hx (hb hby at_283) (pc' := 284) rfl (v := (0 : Int32)) (by decide) ?_
            refine OwnK.laload X707 hx hZ rfl f786 (by decide) (by first | decide | omega) (v := (.long w0)) rfl (hb hby at_284) (pc' := 285) rfl ?_
            refine OwnK.aload X707 hx (hb hby at_285) (pc' := 287) rfl (v := (.ref r707)) rfl rfl ?_
            refine OwnK.iconst X707 hx (hb hby at_287) (pc' := 288) rfl (v := (1 : Int32)) (by decide) ?_
            refine OwnK.laload X707 hx hZ rfl f786 (by decide) (by first | decide | omega) (v := (.long w1)) rfl (hb hby at_288) (pc' := 289) rfl ?_
            refine OwnK.lcmp_lt X707 hx (hb hby at_289) (pc1 := 290) rfl (hb hby at_290) (by decide) (pcT := 295) (by decide) (pc' := 293) rfl (fun hc289 => ?_) (fun (hc289 : w1.toInt ≤ w0.toInt) => by omega)
            refine OwnK.iload X707 hx (hb hby at_295) (pc' := 297) rfl (v := (2 : Int32)) rfl ?_
            refine OwnK.iconst X707 hx (hb hby at_297) (pc' := 298) rfl (v := (2 : Int32)) (by decide) ?_
            refine OwnK.icmp_le X707 hx (hb hby at_298) (by decide) (pcT := 315) (by decide) (pc' := 301) rfl (fun hc298 => ?_) (fun (hc298 : 2 < 2) => absurd hc298 (by decide))
            refine OwnK.iload X707 hx (hb hby at_315) (pc' := 317) rfl (v := (2 : Int32)) rfl ?_
            refine OwnK.iconst X707 hx (hb hby at_317) (pc' := 318) rfl (v := (3 : Int32)) (by decide) ?_
            refine OwnK.icmp_le X707 hx (hb hby at_318) (by decide) (pcT := 335) (by decide) (pc' := 321) rfl (fun hc318 => ?_) (fun (hc318 : 3 < 2) => absurd hc318 (by decide))
            refine OwnK.iload X707 hx (hb hby at_335) (pc' := 337) rfl (v := (2 : Int32)) rfl ?_
            refine OwnK.if_le X707 hx (hb hby at_337) (by decide) (pcT := 356) (by decide) (pc' := 340) rfl (fun (hc337 : 2 ≤ 0) => absurd hc337 (by decide)) (fun hc337 => ?_)
            refine OwnK.aload X707 hx (hb hby at_340) (pc' := 342) rfl (v := (.ref a1)) rfl rfl ?_
            refine OwnK.iload X707 hx (hb hby at_342) (pc' := 344) rfl (v := (4 : Int32)) rfl ?_
            refine OwnK.aload X707 hx (hb hby at_344) (pc' := 346) rfl (v := (.ref r707)) rfl rfl ?_
            refine OwnK.iconst X707 hx (hb hby at_346) (pc' := 347) rfl (v := (0 : Int32)) (by decide) ?_
            refine OwnK.laload X707 hx hZ rfl f786 (by decide) (by first | decide | omega) (v := (.long w0)) rfl (hb hby at_347) (pc' := 348) rfl ?_
            refine OwnK.callS_ X707 hx hZ hown (y := (⟨"com/example/ledgerwire/ledgerwire/store/EntriesRecordsPinLaw", "inS", "([JIJ)Z"⟩ : MethodName)) (hw _ (List.mem_of_getElem? (i := 39) rfl)) (hw _ (List.mem_of_getElem? (i := 40) rfl)) (hw _ (List.mem_of_getElem? (i := 3) rfl)) (hw _ (List.mem_of_getElem? (i := 41) rfl)) (by decide) (own_met6 l Z a0 hw T707.heap a1 (4 : Int32) w0 _ w0 w1 w2 w3 f713 ) (by decide) (W := 0) (by decide) rfl (by rw [hml]; rfl) own_pd_7 (argsL := [(.ref a1), (.int (4 : Int32)), (.long w0)]) rfl (S := []) rfl (Nat.le_of_eq rfl) (hb hby at_348) (pc' := 351) rfl (by decide) (by decide) (fun T787 v787 L787 X787 hQ787 => ?_)
            obtain ⟨rfl, e787, rfl⟩ := hQ787
            have N788 := Fr.app N708 (Fr.nil n0)
            refine OwnK.if_ne X787 hx (hb hby at_351) (by decide) (pcT := 356) (by decide) (pc' := 354) rfl (fun hc351 => ?_) (fun (hc351 : (own_in (4 : Int32).toInt w0.toInt w1.toInt w2.toInt w3.toInt w0.toInt).toInt = 0) => absurd ((congrArg Int32.toInt (own_in1 (by omega) : (own_in (4 : Int32).toInt w0.toInt w1.toInt w2.toInt w3.toInt w0.toInt) = 1)).symm.trans hc351) (by decide))
            refine OwnK.iload X787 hx (hb hby at_356) (pc' := 358) rfl (v := (2 : Int32)) rfl ?_
            refine OwnK.iconst X787 hx (hb hby at_358) (pc' := 359) rfl (v := (1 : Int32)) (by decide) ?_
            refine OwnK.icmp_le X787 hx (hb hby at_359) (by decide) (pcT := 378) (by decide) (pc' := 362) rfl (fun (hc359 : 2 ≤ 1) => absurd hc359 (by decide)) (fun hc359 => ?_)
            refine OwnK.aload X787 hx (hb hby at_362) (pc' := 364) rfl (v := (.ref a1)) rfl rfl ?_
            refine OwnK.iload X787 hx (hb hby at_364) (pc' := 366) rfl (v := (4 : Int32)) rfl ?_
            refine OwnK.aload X787 hx (hb hby at_366) (pc' := 368) rfl (v := (.ref r707)) rfl rfl ?_
            refine OwnK.iconst X787 hx (hb hby at_368) (pc' := 369) rfl (v := (1 : Int32)) (by decide) ?_
            refine OwnK.laload X787 hx hZ e787 f786 (by decide) (by first | decide | omega) (v := (.long w1)) rfl (hb hby at_369) (pc' := 370) rfl ?_
            refine OwnK.callS_ X787 hx hZ hown (y := (⟨"com/example/ledgerwire/ledgerwire/store/EntriesRecordsPinLaw", "inS", "([JIJ)Z"⟩ : MethodName)) (hw _ (List.mem_of_getElem? (i := 39) rfl)) (hw _ (List.mem_of_getElem? (i := 40) rfl)) (hw _ (List.mem_of_getElem? (i := 3) rfl)) (hw _ (List.mem_of_getElem? (i := 41) rfl)) (by decide) (own_met6 l Z a0 hw T707.heap a1 (4 : Int32) w1 _ w0 w1 w2 w3 f713 ) (by decide) (W := 0) (by decide) e787 (by rw [hml]; rfl) own_pd_7 (argsL := [(.ref a1), (.int (4 : Int32)), (.long w1)]) rfl (S := []) rfl (Nat.le_of_eq rfl) (hb hby at_370) (pc' := 373) rfl (by decide) (by decide) (fun T789 v789 L789 X789 hQ789 => ?_)
            obtain ⟨rfl, e789, rfl⟩ := hQ789
            have N790 := Fr.app N788 (Fr.nil n0)
            refine OwnK.if_ne X789 hx (hb hby at_373) (by decide) (pcT := 378) (by decide) (pc' := 376) rfl (fun hc373 => ?_) (fun (hc373 : (own_in (4 : Int32).toInt w0.toInt w1.toInt w2.toInt w3.toInt w1.toInt).toInt = 0) => absurd ((congrArg Int32.toInt (own_in1 (by omega) : (own_in (4 : Int32).toInt w0.toInt w1.toInt w2.toInt w3.toInt w1.toInt) = 1)).symm.trans hc373) (by decide))
            refine OwnK.iload X789 hx (hb hby at_378) (pc' := 380) rfl (v := (2 : Int32)) rfl ?_
            refine OwnK.iconst X789 hx (hb hby at_380) (pc' := 381) rfl (v := (2 : Int32)) (by decide) ?_
            refine OwnK.icmp_le X789 hx (hb hby at_381) (by decide) (pcT := 400) (by decide) (pc' := 384) rfl (fun hc381 => ?_) (fun (hc381 : 2 < 2) => absurd hc381 (by decide))
            refine OwnK.iload X789 hx (hb hby at_400) (pc' := 402) rfl (v := (2 : Int32)) rfl ?_
            refine OwnK.iconst X789 hx (hb hby at_402) (pc' := 403) rfl (v := (3 : Int32)) (by decide) ?_
            refine OwnK.icmp_le X789 hx (hb hby at_403) (by decide) (pcT := 422) (by decide) (pc' := 406) rfl (fun hc403 => ?_) (fun (hc403 : 3 < 2) => absurd hc403 (by decide))
            refine OwnK.iload X789 hx (hb hby at_422) (pc' := 424) rfl (v := (4 : Int32)) rfl ?_
            refine OwnK.if_le X789 hx (hb hby at_424) (by decide) (pcT := 441) (by decide) (pc' := 427) rfl (fun (hc424 : 4 ≤ 0) => absurd hc424 (by decide)) (fun hc424 => ?_)
            refine OwnK.aload X789 hx (hb hby at_427) (pc' := 429) rfl (v := (.ref r707)) rfl rfl ?_
            refine OwnK.aload X789 hx (hb hby at_429) (pc' := 431) rfl (v := (.ref a1)) rfl rfl ?_
            refine OwnK.iconst X789 hx (hb hby at_431) (pc' := 432) rfl (v := (0 : Int32)) (by decide) ?_
            refine OwnK.laload X789 hx hZ e789 f713 (by decide) (by first | decide | omega) (v := (.long w0)) rfl (hb hby at_432) (pc' := 433) rfl ?_
            refine OwnK.callS_ X789 hx hZ hown (y := (⟨"com/example/ledgerwire/ledgerwire/store/EntriesRecordsPinLaw", "inR", "([JJ)Z"⟩ : MethodName)) (hw _ (List.mem_of_getElem? (i := 42) rfl)) (hw _ (List.mem_of_getElem? (i := 43) rfl)) (hw _ (List.mem_of_getElem? (i := 3) rfl)) (hw _ (List.mem_of_getElem? (i := 44) rfl)) (by decide) (own_met7 l Z a0 hw T707.heap r707 w0 _ (2 : Int32) w0 w1 (0 : Int64) (0 : Int64) (f786.pad (pad_rep [(.long w0), (.long w1)] (.long (0 : Int64)) 2)) ) (by decide) (W := 0) (by decide) e789 (by rw [hml]; rfl) own_pd_8 (argsL := [(.ref r707), (.long w0)]) rfl (S := []) rfl (Nat.le_of_eq rfl) (hb hby at_433) (pc' := 436) rfl (by decide) (by decide) (fun T791 v791 L791 X791 hQ791 => ?_)
            obtain ⟨rfl, e791, rfl⟩ := hQ791
            have N792 := Fr.app N790 (Fr.nil n0)
            refine OwnK.if_ne X791 hx (hb hby at_436) (by decide) (pcT := 441) (by decide) (pc' := 439) rfl (fun hc436 => ?_) (fun (hc436 : (own_in (2 : Int32).toInt w0.toInt w1.toInt (0 : Int64).toInt (0 : Int64).toInt w0.toInt).toInt = 0) => absurd ((congrArg Int32.toInt (own_in1 (by omega) : (own_in (2 : Int32).toInt w0.toInt w1.toInt (0 : Int64).toInt (0 : Int64).toInt w0.toInt) = 1)).symm.trans hc436) (by decide))
            refine OwnK.iload X791 hx (hb hby at_441) (pc' := 443) rfl (v := (4 : Int32)) rfl ?_
            refine OwnK.iconst X791 hx (hb hby at_443) (pc' := 444) rfl (v := (1 : Int32)) (by decide) ?_
            refine OwnK.icmp_le X791 hx (hb hby at_444) (by decide) (pcT := 461) (by decide) (pc' := 447) rfl (fun (hc444 : 4 ≤ 1) => absurd hc444 (by decide)) (fun hc444 => ?_)
            refine OwnK.aload X791 hx (hb hby at_447) (pc' := 449) rfl (v := (.ref r707)) rfl rfl ?_
            refine OwnK.aload X791 hx (hb hby at_449) (pc' := 451) rfl (v := (.ref a1)) rfl rfl ?_
            refine OwnK.iconst X791 hx (hb hby at_451) (pc' := 452) rfl (v := (1 : Int32)) (by decide) ?_
            refine OwnK.laload X791 hx hZ e791 f713 (by decide) (by first | decide | omega) (v := (.long w1)) rfl (hb hby at_452) (pc' := 453) rfl ?_
            refine OwnK.callS_ X791 hx hZ hown (y := (⟨"com/example/ledgerwire/ledgerwire/store/EntriesRecordsPinLaw", "inR", "([JJ)Z"⟩ : MethodName)) (hw _ (List.mem_of_getElem? (i := 42) rfl)) (hw _ (List.mem_of_getElem? (i := 43) rfl)) (hw _ (List.mem_of_getElem? (i := 3) rfl)) (hw _ (List.mem_of_getElem? (i := 44) rfl)) (by decide) (own_met7 l Z a0 hw T707.heap r707 w1 _ (2 : Int32) w0 w1 (0 : Int64) (0 : Int64) (f786.pad (pad_rep [(.long w0), (.long w1)] (.long (0 : Int64)) 2)) ) (by decide) (W := 0) (by decide) e791 (by rw [hml]; rfl) own_pd_8 (argsL := [(.ref r707), (.long w1)]) rfl (S := []) rfl (Nat.le_of_eq rfl) (hb hby at_453) (pc' := 456) rfl (by decide) (by decide) (fun T793 v793 L793 X793 hQ793 => ?_)
            obtain ⟨rfl, e793, rfl⟩ := hQ793
            have N794 := Fr.app N792 (Fr.nil n0)
            refine OwnK.if_ne X793 hx (hb hby at_456) (by decide) (pcT := 461) (by decide) (pc' := 459) rfl (fun hc456 => ?_) (fun (hc456 : (own_in (2 : Int32).toInt w0.toInt w1.toInt (0 : Int64).toInt (0 : Int64).toInt w1.toInt).toInt = 0) => absurd ((congrArg Int32.toInt (own_in1 (by omega) : (own_in (2 : Int32).toInt w0.toInt w1.toInt (0 : Int64).toInt (0 : Int64).toInt w1.toInt) = 1)).symm.trans hc456) (by decide))
            refine OwnK.iload X793 hx (hb hby at_461) (pc' := 463) rfl (v := (4 : Int32)) rfl ?_
            refine OwnK.iconst X793 hx (hb hby at_463) (pc' := 464) rfl (v := (2 : Int32)) (by decide) ?_
            refine OwnK.icmp_le X793 hx (hb hby at_464) (by decide) (pcT := 481) (by decide) (pc' := 467) rfl (fun (hc464 : 4 ≤ 2) => absurd hc464 (by decide)) (fun hc464 => ?_)
            refine OwnK.aload X793 hx (hb hby at_467) (pc' := 469) rfl (v := (.ref r707)) rfl rfl ?_
            refine OwnK.aload X793 hx (hb hby at_469) (pc' := 471) rfl (v := (.ref a1)) rfl rfl ?_
            refine OwnK.iconst X793 hx (hb hby at_471) (pc' := 472) rfl (v := (2 : Int32)) (by decide) ?_
            refine OwnK.laload X793 hx hZ e793 f713 (by decide) (by first | decide | omega) (v := (.long w2)) rfl (hb hby at_472) (pc' := 473) rfl ?_
            refine OwnK.callS_ X793 hx hZ hown (y := (⟨"com/example/ledgerwire/ledgerwire/store/EntriesRecordsPinLaw", "inR", "([JJ)Z"⟩ : MethodName)) (hw _ (List.mem_of_getElem? (i := 42) rfl)) (hw _ (List.mem_of_getElem? (i := 43) rfl)) (hw _ (List.mem_of_getElem? (i := 3) rfl)) (hw _ (List.mem_of_getElem? (i := 44) rfl)) (by decide) (own_met7 l Z a0 hw T707.heap r707 w2 _ (2 : Int32) w0 w1 (0 : Int64) (0 : Int64) (f786.pad (pad_rep [(.long w0), (.long w1)] (.long (0 : Int64)) 2)) ) (by decide) (W := 0) (by decide) e793 (by rw [hml]; rfl) own_pd_8 (argsL := [(.ref r707), (.long w2)]) rfl (S := []) rfl (Nat.le_of_eq rfl) (hb hby at_473) (pc' := 476) rfl (by decide) (by decide) (fun T795 v795 L795 X795 hQ795 => ?_)
            obtain ⟨rfl, e795, rfl⟩ := hQ795
            have N796 := Fr.app N794 (Fr.nil n0)
            refine OwnK.if_ne X795 hx (hb hby at_476) (by decide) (pcT := 481) (by decide) (pc' := 479) rfl (fun hc476 => ?_) (fun (hc476 : (own_in (2 : Int32).toInt w0.toInt w1.toInt (0 : Int64).toInt (0 : Int64).toInt w2.toInt).toInt = 0) => absurd ((congrArg Int32.toInt (own_in1 (by omega) : (own_in (2 : Int32).toInt w0.toInt w1.toInt (0 : Int64).toInt (0 : Int64).toInt w2.toInt) = 1)).symm.trans hc476) (by decide))
            refine OwnK.iload X795 hx (hb hby at_481) (pc' := 483) rfl (v := (4 : Int32)) rfl ?_
            refine OwnK.iconst X795 hx (hb hby at_483) (pc' := 484) rfl (v := (3 : Int32)) (by decide) ?_
            refine OwnK.icmp_le X795 hx (hb hby at_484) (by decide) (pcT := 501) (by decide) (pc' := 487) rfl (fun (hc484 : 4 ≤ 3) => absurd hc484 (by decide)) (fun hc484 => ?_)
            refine OwnK.aload X795 hx (hb hby at_487) (pc' := 489) rfl (v := (.ref r707)) rfl rfl ?_
            refine OwnK.aload X795 hx (hb hby at_489) (pc' := 491) rfl (v := (.ref a1)) rfl rfl ?_
            refine OwnK.iconst X795 hx (hb hby at_491) (pc' := 492) rfl (v := (3 : Int32)) (by decide) ?_
            refine OwnK.laload X795 hx hZ e795 f713 (by decide) (by first | decide | omega) (v := (.long w3)) rfl (hb hby at_492) (pc' := 493) rfl ?_
            refine OwnK.callS_ X795 hx hZ hown (y := (⟨"com/example/ledgerwire/ledgerwire/store/EntriesRecordsPinLaw", "inR", "([JJ)Z"⟩ : MethodName)) (hw _ (List.mem_of_getElem? (i := 42) rfl)) (hw _ (List.mem_of_getElem? (i := 43) rfl)) (hw _ (List.mem_of_getElem? (i := 3) rfl)) (hw _ (List.mem_of_getElem? (i := 44) rfl)) (by decide) (own_met7 l Z a0 hw T707.heap r707 w3 _ (2 : Int32) w0 w1 (0 : Int64) (0 : Int64) (f786.pad (pad_rep [(.long w0), (.long w1)] (.long (0 : Int64)) 2)) ) (by decide) (W := 0) (by decide) e795 (by rw [hml]; rfl) own_pd_8 (argsL := [(.ref r707), (.long w3)]) rfl (S := []) rfl (Nat.le_of_eq rfl) (hb hby at_493) (pc' := 496) rfl (by decide) (by decide) (fun T797 v797 L797 X797 hQ797 => ?_)
            obtain ⟨rfl, e797, rfl⟩ := hQ797
            have N798 := Fr.app N796 (Fr.nil n0)
            refine OwnK.if_ne X797 hx (hb hby at_496) (by decide) (pcT := 501) (by decide) (pc' := 499) rfl (fun hc496 => ?_) (fun (hc496 : (own_in (2 : Int32).toInt w0.toInt w1.toInt (0 : Int64).toInt (0 : Int64).toInt w3.toInt).toInt = 0) => absurd ((congrArg Int32.toInt (own_in1 (by omega) : (own_in (2 : Int32).toInt w0.toInt w1.toInt (0 : Int64).toInt (0 : Int64).toInt w3.toInt) = 1)).symm.trans hc496) (by decide))
            refine OwnK.iconst X797 hx (hb hby at_501) (pc' := 502) rfl (v := (1 : Int32)) (by decide) ?_
            refine OwnK.retN_ X797 hx hret (by simp) hlk (hb hby at_502) (by decide) (by decide) ?_
            exact ⟨rfl, N798⟩
          · refine OwnK.iincL X707 hx (hb hby at_262) (pc' := 265) rfl (x := (2 : Int32)) rfl (v := (3 : Int32)) (by decide) (Ls' := #[.val (.long p0), .second, .val (.long p1), .second, .val (.long p2), .second, .val (.long p3), .second, .val (.int p4), .val (.int p5), .val (.ref a1), .val (.int (4 : Int32)), .val (.ref a604), .val (.ref a638), .val (.ref r707), .val (.int (3 : Int32))]) rfl ?_
            have hdd : own_dd [w0, w1, w2, w3] = [w0, w1, w3] := by show _ :: own_go _ _ = _; rw [own_gn (by omega), own_ge (by omega), own_gn (by omega), own_g0]
            have f799 := V707
            rw [hdd] at f799
            have f800 : Arv Z T707.heap r707 _ .long (3 : Int32) [(.long w0), (.long w1), (.long w3)] (.long (0 : Int64)) := f799
            refine OwnK.aload X707 hx (hb hby at_265) (pc' := 267) rfl (v := (.ref r707)) rfl rfl ?_
            refine OwnK.arrlen X707 hx hZ rfl f800 (hb hby at_267) (pc' := 268) rfl ?_
            refine OwnK.iload X707 hx (hb hby at_268) (pc' := 270) rfl (v := (3 : Int32)) rfl ?_
            refine OwnK.icmp_eq X707 hx (hb hby at_270) (by decide) (pcT := 275) (by decide) (pc' := 273) rfl (fun hc270 => ?_) (fun (hc270 : ¬ 3 = 3) => absurd hc270 (by decide))
            refine OwnK.iload X707 hx (hb hby at_275) (pc' := 277) rfl (v := (3 : Int32)) rfl ?_
            refine OwnK.iconst X707 hx (hb hby at_277) (pc' := 278) rfl (v := (1 : Int32)) (by decide) ?_
            refine OwnK.icmp_le X707 hx (hb hby at_278) (by decide) (pcT := 295) (by decide) (pc' := 281) rfl (fun (hc278 : 3 ≤ 1) => absurd hc278 (by decide)) (fun hc278 => ?_)
            refine OwnK.aload X707 hx (hb hby at_281) (pc' := 283) rfl (v := (.ref r707)) rfl rfl ?_
            refine OwnK.iconst X707 hx (hb hby at_283) (pc' := 284) rfl (v := (0 : Int32)) (by decide) ?_
            refine OwnK.laload X707 hx hZ rfl f800 (by decide) (by first | decide | omega) (v := (.long w0)) rfl (hb hby at_284) (pc' := 285) rfl ?_
            refine OwnK.aload X707 hx (hb hby at_285) (pc' := 287) rfl (v := (.ref r707)) rfl rfl ?_
            refine OwnK.iconst X707 hx (hb hby at_287) (pc' := 288) rfl (v := (1 : Int32)) (by decide) ?_
            refine OwnK.laload X707 hx hZ rfl f800 (by decide) (by first | decide | omega) (v := (.long w1)) rfl (hb hby at_288) (pc' := 289) rfl ?_
            refine OwnK.lcmp_lt X707 hx (hb hby at_289) (pc1 := 290) rfl (hb hby at_290) (by decide) (pcT := 295) (by decide) (pc' := 293) rfl (fun hc289 => ?_) (fun (hc289 : w1.toInt ≤ w0.toInt) => by omega)
            refine OwnK.iload X707 hx (hb hby at_295) (pc' := 297) rfl (v := (3 : Int32)) rfl ?_
            refine OwnK.iconst X707 hx (hb hby at_297) (pc' := 298) rfl (v := (2 : Int32)) (by decide) ?_
            refine OwnK.icmp_le X707 hx (hb hby at_298) (by decide) (pcT := 315) (by decide) (pc' := 301) rfl (fun (hc298 : 3 ≤ 2) => absurd hc298 (by decide)) (fun hc298 => ?_)
            refine OwnK.aload X707 hx (hb hby at_301) (pc' := 303) rfl (v := (.ref r707)) rfl rfl ?_
            refine OwnK.iconst X707 hx (hb hby at_303) (pc' := 304) rfl (v := (1 : Int32)) (by decide) ?_
            refine OwnK.laload X707 hx hZ rfl f800 (by decide) (by first | decide | omega) (v := (.long w1)) rfl (hb hby at_304) (pc' := 305) rfl ?_
            refine OwnK.aload X707 hx (hb hby at_305) (pc' := 307) rfl (v := (.ref r707)) rfl rfl ?_
            refine OwnK.iconst X707 hx (hb hby at_307) (pc' := 308) rfl (v := (2 : Int32)) (by decide) ?_
            refine OwnK.laload X707 hx hZ rfl f800 (by decide) (by first | decide | omega) (v := (.long w3)) rfl (hb hby at_308) (pc' := 309) rfl ?_
            refine OwnK.lcmp_lt X707 hx (hb hby at_309) (pc1 := 310) rfl (hb hby at_310) (by decide) (pcT := 315) (by decide) (pc' := 313) rfl (fun hc309 => ?_) (fun (hc309 : w3.toInt ≤ w1.toInt) => by omega)
            refine OwnK.iload X707 hx (hb hby at_315) (pc' := 317) rfl (v := (3 : Int32)) rfl ?_
            refine OwnK.iconst X707 hx (hb hby at_317) (pc' := 318) rfl (v := (3 : Int32)) (by decide) ?_
            refine OwnK.icmp_le X707 hx (hb hby at_318) (by decide) (pcT := 335) (by decide) (pc' := 321) rfl (fun hc318 => ?_) (fun (hc318 : 3 < 3) => absurd hc318 (by decide))
            refine OwnK.iload X707 hx (hb hby at_335) (pc' := 337) rfl (v := (3 : Int32)) rfl ?_
            refine OwnK.if_le X707 hx (hb hby at_337) (by decide) (pcT := 356) (by decide) (pc' := 340) rfl (fun (hc337 : 3 ≤ 0) => absurd hc337 (by decide)) (fun hc337 => ?_)
            refine OwnK.aload X707 hx (hb hby at_340) (pc' := 342) rfl (v := (.ref a1)) rfl rfl ?_
            refine OwnK.iload X707 hx (hb hby at_342) (pc' := 344) rfl (v := (4 : Int32)) rfl ?_
            refine OwnK.aload X707 hx (hb hby at_344) (pc' := 346) rfl (v := (.ref r707)) rfl rfl ?_
            refine OwnK.iconst X707 hx (hb hby at_346) (pc' := 347) rfl (v := (0 : Int32)) (by decide) ?_
            refine OwnK.laload X707 hx hZ rfl f800 (by decide) (by first | decide | omega) (v := (.long w0)) rfl (hb hby at_347) (pc' := 348) rfl ?_
            refine OwnK.callS_ X707 hx hZ hown (y := (⟨"com/example/ledgerwire/ledgerwire/store/EntriesRecordsPinLaw", "inS", "([JIJ)Z"⟩ : MethodName)) (hw _ (List.mem_of_getElem? (i := 39) rfl)) (hw _ (List.mem_of_getElem? (i := 40) rfl)) (hw _ (List.mem_of_getElem? (i := 3) rfl)) (hw _ (List.mem_of_getElem? (i := 41) rfl)) (by decide) (own_met6 l Z a0 hw T707.heap a1 (4 : Int32) w0 _ w0 w1 w2 w3 f713 ) (by decide) (W := 0) (by decide) rfl (by rw [hml]; rfl) own_pd_7 (argsL := [(.ref a1), (.int (4 : Int32)), (.long w0)]) rfl (S := []) rfl (Nat.le_of_eq rfl) (hb hby at_348) (pc' := 351) rfl (by decide) (by decide) (fun T801 v801 L801 X801 hQ801 => ?_)
            obtain ⟨rfl, e801, rfl⟩ := hQ801
            have N802 := Fr.app N708 (Fr.nil n0)
            refine OwnK.if_ne X801 hx (hb hby at_351) (by decide) (pcT := 356) (by decide) (pc' := 354) rfl (fun hc351 => ?_) (fun (hc351 : (own_in (4 : Int32).toInt w0.toInt w1.toInt w2.toInt w3.toInt w0.toInt).toInt = 0) => absurd ((congrArg Int32.toInt (own_in1 (by omega) : (own_in (4 : Int32).toInt w0.toInt w1.toInt w2.toInt w3.toInt w0.toInt) = 1)).symm.trans hc351) (by decide))
            refine OwnK.iload X801 hx (hb hby at_356) (pc' := 358) rfl (v := (3 : Int32)) rfl ?_
            refine OwnK.iconst X801 hx (hb hby at_358) (pc' := 359) rfl (v := (1 : Int32)) (by decide) ?_
            refine OwnK.icmp_le X801 hx (hb hby at_359) (by decide) (pcT := 378) (by decide) (pc' := 362) rfl (fun (hc359 : 3 ≤ 1) => absurd hc359 (by decide)) (fun hc359 => ?_)
            refine OwnK.aload X801 hx (hb hby at_362) (pc' := 364) rfl (v := (.ref a1)) rfl rfl ?_
            refine OwnK.iload X801 hx (hb hby at_364) (pc' := 366) rfl (v := (4 : Int32)) rfl ?_
            refine OwnK.aload X801 hx (hb hby at_366) (pc' := 368) rfl (v := (.ref r707)) rfl rfl ?_
            refine OwnK.iconst X801 hx (hb hby at_368) (pc' := 369) rfl (v := (1 : Int32)) (by decide) ?_
            refine OwnK.laload X801 hx hZ e801 f800 (by decide) (by first | decide | omega) (v := (.long w1)) rfl (hb hby at_369) (pc' := 370) rfl ?_
            refine OwnK.callS_ X801 hx hZ hown (y := (⟨"com/example/ledgerwire/ledgerwire/store/EntriesRecordsPinLaw", "inS", "([JIJ)Z"⟩ : MethodName)) (hw _ (List.mem_of_getElem? (i := 39) rfl)) (hw _ (List.mem_of_getElem? (i := 40) rfl)) (hw _ (List.mem_of_getElem? (i := 3) rfl)) (hw _ (List.mem_of_getElem? (i := 41) rfl)) (by decide) (own_met6 l Z a0 hw T707.heap a1 (4 : Int32) w1 _ w0 w1 w2 w3 f713 ) (by decide) (W := 0) (by decide) e801 (by rw [hml]; rfl) own_pd_7 (argsL := [(.ref a1), (.int (4 : Int32)), (.long w1)]) rfl (S := []) rfl (Nat.le_of_eq rfl) (hb hby at_370) (pc' := 373) rfl (by decide) (by decide) (fun T803 v803 L803 X803 hQ803 => ?_)
            obtain ⟨rfl, e803, rfl⟩ := hQ803
            have N804 := Fr.app N802 (Fr.nil n0)
            refine OwnK.if_ne X803 hx (hb hby at_373) (by decide) (pcT := 378) (by decide) (pc' := 376) rfl (fun hc373 => ?_) (fun (hc373 : (own_in (4 : Int32).toInt w0.toInt w1.toInt w2.toInt w3.toInt w1.toInt).toInt = 0) => absurd ((congrArg Int32.toInt (own_in1 (by omega) : (own_in (4 : Int32).toInt w0.toInt w1.toInt w2.toInt w3.toInt w1.toInt) = 1)).symm.trans hc373) (by decide))
            refine OwnK.iload X803 hx (hb hby at_378) (pc' := 380) rfl (v := (3 : Int32)) rfl ?_
            refine OwnK.iconst X803 hx (hb hby at_380) (pc' := 381) rfl (v := (2 : Int32)) (by decide) ?_
            refine OwnK.icmp_le X803 hx (hb hby at_381) (by decide) (pcT := 400) (by decide) (pc' := 384) rfl (fun (hc381 : 3 ≤ 2) => absurd hc381 (by decide)) (fun hc381 => ?_)
            refine OwnK.aload X803 hx (hb hby at_384) (pc' := 386) rfl (v := (.ref a1)) rfl rfl ?_
            refine OwnK.iload X803 hx (hb hby at_386) (pc' := 388) rfl (v := (4 : Int32)) rfl ?_
            refine OwnK.aload X803 hx (hb hby at_388) (pc' := 390) rfl (v := (.ref r707)) rfl rfl ?_
            refine OwnK.iconst X803 hx (hb hby at_390) (pc' := 391) rfl (v := (2 : Int32)) (by decide) ?_
            refine OwnK.laload X803 hx hZ e803 f800 (by decide) (by first | decide | omega) (v := (.long w3)) rfl (hb hby at_391) (pc' := 392) rfl ?_
            refine OwnK.callS_ X803 hx hZ hown (y := (⟨"com/example/ledgerwire/ledgerwire/store/EntriesRecordsPinLaw", "inS", "([JIJ)Z"⟩ : MethodName)) (hw _ (List.mem_of_getElem? (i := 39) rfl)) (hw _ (List.mem_of_getElem? (i := 40) rfl)) (hw _ (List.mem_of_getElem? (i := 3) rfl)) (hw _ (List.mem_of_getElem? (i := 41) rfl)) (by decide) (own_met6 l Z a0 hw T707.heap a1 (4 : Int32) w3 _ w0 w1 w2 w3 f713 ) (by decide) (W := 0) (by decide) e803 (by rw [hml]; rfl) own_pd_7 (argsL := [(.ref a1), (.int (4 : Int32)), (.long w3)]) rfl (S := []) rfl (Nat.le_of_eq rfl) (hb hby at_392) (pc' := 395) rfl (by decide) (by decide) (fun T805 v805 L805 X805 hQ805 => ?_)
            obtain ⟨rfl, e805, rfl⟩ := hQ805
            have N806 := Fr.app N804 (Fr.nil n0)
            refine OwnK.if_ne X805 hx (hb hby at_395) (by decide) (pcT := 400) (by decide) (pc' := 398) rfl (fun hc395 => ?_) (fun (hc395 : (own_in (4 : Int32).toInt w0.toInt w1.toInt w2.toInt w3.toInt w3.toInt).toInt = 0) => absurd ((congrArg Int32.toInt (own_in1 (by omega) : (own_in (4 : Int32).toInt w0.toInt w1.toInt w2.toInt w3.toInt w3.toInt) = 1)).symm.trans hc395) (by decide))
            refine OwnK.iload X805 hx (hb hby at_400) (pc' := 402) rfl (v := (3 : Int32)) rfl ?_
            refine OwnK.iconst X805 hx (hb hby at_402) (pc' := 403) rfl (v := (3 : Int32)) (by decide) ?_
            refine OwnK.icmp_le X805 hx (hb hby at_403) (by decide) (pcT := 422) (by decide) (pc' := 406) rfl (fun hc403 => ?_) (fun (hc403 : 3 < 3) => absurd hc403 (by decide))
            refine OwnK.iload X805 hx (hb hby at_422) (pc' := 424) rfl (v := (4 : Int32)) rfl ?_
            refine OwnK.if_le X805 hx (hb hby at_424) (by decide) (pcT := 441) (by decide) (pc' := 427) rfl (fun (hc424 : 4 ≤ 0) => absurd hc424 (by decide)) (fun hc424 => ?_)
            refine OwnK.aload X805 hx (hb hby at_427) (pc' := 429) rfl (v := (.ref r707)) rfl rfl ?_
            refine OwnK.aload X805 hx (hb hby at_429) (pc' := 431) rfl (v := (.ref a1)) rfl rfl ?_
            refine OwnK.iconst X805 hx (hb hby at_431) (pc' := 432) rfl (v := (0 : Int32)) (by decide) ?_
            refine OwnK.laload X805 hx hZ e805 f713 (by decide) (by first | decide | omega) (v := (.long w0)) rfl (hb hby at_432) (pc' := 433) rfl ?_
            refine OwnK.callS_ X805 hx hZ hown (y := (⟨"com/example/ledgerwire/ledgerwire/store/EntriesRecordsPinLaw", "inR", "([JJ)Z"⟩ : MethodName)) (hw _ (List.mem_of_getElem? (i := 42) rfl)) (hw _ (List.mem_of_getElem? (i := 43) rfl)) (hw _ (List.mem_of_getElem? (i := 3) rfl)) (hw _ (List.mem_of_getElem? (i := 44) rfl)) (by decide) (own_met7 l Z a0 hw T707.heap r707 w0 _ (3 : Int32) w0 w1 w3 (0 : Int64) (f800.pad (pad_rep [(.long w0), (.long w1), (.long w3)] (.long (0 : Int64)) 1)) ) (by decide) (W := 0) (by decide) e805 (by rw [hml]; rfl) own_pd_8 (argsL := [(.ref r707), (.long w0)]) rfl (S := []) rfl (Nat.le_of_eq rfl) (hb hby at_433) (pc' := 436) rfl (by decide) (by decide) (fun T807 v807 L807 X807 hQ807 => ?_)
            obtain ⟨rfl, e807, rfl⟩ := hQ807
            have N808 := Fr.app N806 (Fr.nil n0)
            refine OwnK.if_ne X807 hx (hb hby at_436) (by decide) (pcT := 441) (by decide) (pc' := 439) rfl (fun hc436 => ?_) (fun (hc436 : (own_in (3 : Int32).toInt w0.toInt w1.toInt w3.toInt (0 : Int64).toInt w0.toInt).toInt = 0) => absurd ((congrArg Int32.toInt (own_in1 (by omega) : (own_in (3 : Int32).toInt w0.toInt w1.toInt w3.toInt (0 : Int64).toInt w0.toInt) = 1)).symm.trans hc436) (by decide))
            refine OwnK.iload X807 hx (hb hby at_441) (pc' := 443) rfl (v := (4 : Int32)) rfl ?_
            refine OwnK.iconst X807 hx (hb hby at_443) (pc' := 444) rfl (v := (1 : Int32)) (by decide) ?_
            refine OwnK.icmp_le X807 hx (hb hby at_444) (by decide) (pcT := 461) (by decide) (pc' := 447) rfl (fun (hc444 : 4 ≤ 1) => absurd hc444 (by decide)) (fun hc444 => ?_)
            refine OwnK.aload X807 hx (hb hby at_447) (pc' := 449) rfl (v := (.ref r707)) rfl rfl ?_
            refine OwnK.aload X807 hx (hb hby at_449) (pc' := 451) rfl (v := (.ref a1)) rfl rfl ?_
            refine OwnK.iconst X807 hx (hb hby at_451) (pc' := 452) rfl (v := (1 : Int32)) (by decide) ?_
            refine OwnK.laload X807 hx hZ e807 f713 (by decide) (by first | decide | omega) (v := (.long w1)) rfl (hb hby at_452) (pc' := 453) rfl ?_
            refine OwnK.callS_ X807 hx hZ hown (y := (⟨"com/example/ledgerwire/ledgerwire/store/EntriesRecordsPinLaw", "inR", "([JJ)Z"⟩ : MethodName)) (hw _ (List.mem_of_getElem? (i := 42) rfl)) (hw _ (List.mem_of_getElem? (i := 43) rfl)) (hw _ (List.mem_of_getElem? (i := 3) rfl)) (hw _ (List.mem_of_getElem? (i := 44) rfl)) (by decide) (own_met7 l Z a0 hw T707.heap r707 w1 _ (3 : Int32) w0 w1 w3 (0 : Int64) (f800.pad (pad_rep [(.long w0), (.long w1), (.long w3)] (.long (0 : Int64)) 1)) ) (by decide) (W := 0) (by decide) e807 (by rw [hml]; rfl) own_pd_8 (argsL := [(.ref r707), (.long w1)]) rfl (S := []) rfl (Nat.le_of_eq rfl) (hb hby at_453) (pc' := 456) rfl (by decide) (by decide) (fun T809 v809 L809 X809 hQ809 => ?_)
            obtain ⟨rfl, e809, rfl⟩ := hQ809
            have N810 := Fr.app N808 (Fr.nil n0)
            refine OwnK.if_ne X809 hx (hb hby at_456) (by decide) (pcT := 461) (by decide) (pc' := 459) rfl (fun hc456 => ?_) (fun (hc456 : (own_in (3 : Int32).toInt w0.toInt w1.toInt w3.toInt (0 : Int64).toInt w1.toInt).toInt = 0) => absurd ((congrArg Int32.toInt (own_in1 (by omega) : (own_in (3 : Int32).toInt w0.toInt w1.toInt w3.toInt (0 : Int64).toInt w1.toInt) = 1)).symm.trans hc456) (by decide))
            refine OwnK.iload X809 hx (hb hby at_461) (pc' := 463) rfl (v := (4 : Int32)) rfl ?_
            refine OwnK.iconst X809 hx (hb hby at_463) (pc' := 464) rfl (v := (2 : Int32)) (by decide) ?_
            refine OwnK.icmp_le X809 hx (hb hby at_464) (by decide) (pcT := 481) (by decide) (pc' := 467) rfl (fun (hc464 : 4 ≤ 2) => absurd hc464 (by decide)) (fun hc464 => ?_)
            refine OwnK.aload X809 hx (hb hby at_467) (pc' := 469) rfl (v := (.ref r707)) rfl rfl ?_
            refine OwnK.aload X809 hx (hb hby at_469) (pc' := 471) rfl (v := (.ref a1)) rfl rfl ?_
            refine OwnK.iconst X809 hx (hb hby at_471) (pc' := 472) rfl (v := (2 : Int32)) (by decide) ?_
            refine OwnK.laload X809 hx hZ e809 f713 (by decide) (by first | decide | omega) (v := (.long w2)) rfl (hb hby at_472) (pc' := 473) rfl ?_
            refine OwnK.callS_ X809 hx hZ hown (y := (⟨"com/example/ledgerwire/ledgerwire/store/EntriesRecordsPinLaw", "inR", "([JJ)Z"⟩ : MethodName)) (hw _ (List.mem_of_getElem? (i := 42) rfl)) (hw _ (List.mem_of_getElem? (i := 43) rfl)) (hw _ (List.mem_of_getElem? (i := 3) rfl)) (hw _ (List.mem_of_getElem? (i := 44) rfl)) (by decide) (own_met7 l Z a0 hw T707.heap r707 w2 _ (3 : Int32) w0 w1 w3 (0 : Int64) (f800.pad (pad_rep [(.long w0), (.long w1), (.long w3)] (.long (0 : Int64)) 1)) ) (by decide) (W := 0) (by decide) e809 (by rw [hml]; rfl) own_pd_8 (argsL := [(.ref r707), (.long w2)]) rfl (S := []) rfl (Nat.le_of_eq rfl) (hb hby at_473) (pc' := 476) rfl (by decide) (by decide) (fun T811 v811 L811 X811 hQ811 => ?_)
            obtain ⟨rfl, e811, rfl⟩ := hQ811
            have N812 := Fr.app N810 (Fr.nil n0)
            refine OwnK.if_ne X811 hx (hb hby at_476) (by decide) (pcT := 481) (by decide) (pc' := 479) rfl (fun hc476 => ?_) (fun (hc476 : (own_in (3 : Int32).toInt w0.toInt w1.toInt w3.toInt (0 : Int64).toInt w2.toInt).toInt = 0) => absurd ((congrArg Int32.toInt (own_in1 (by omega) : (own_in (3 : Int32).toInt w0.toInt w1.toInt w3.toInt (0 : Int64).toInt w2.toInt) = 1)).symm.trans hc476) (by decide))
            refine OwnK.iload X811 hx (hb hby at_481) (pc' := 483) rfl (v := (4 : Int32)) rfl ?_
            refine OwnK.iconst X811 hx (hb hby at_483) (pc' := 484) rfl (v := (3 : Int32)) (by decide) ?_
            refine OwnK.icmp_le X811 hx (hb hby at_484) (by decide) (pcT := 501) (by decide) (pc' := 487) rfl (fun (hc484 : 4 ≤ 3) => absurd hc484 (by decide)) (fun hc484 => ?_)
            refine OwnK.aload X811 hx (hb hby at_487) (pc' := 489) rfl (v := (.ref r707)) rfl rfl ?_
            refine OwnK.aload X811 hx (hb hby at_489) (pc' := 491) rfl (v := (.ref a1)) rfl rfl ?_
            refine OwnK.iconst X811 hx (hb hby at_491) (pc' := 492) rfl (v := (3 : Int32)) (by decide) ?_
            refine OwnK.laload X811 hx hZ e811 f713 (by decide) (by first | decide | omega) (v := (.long w3)) rfl (hb hby at_492) (pc' := 493) rfl ?_
            refine OwnK.callS_ X811 hx hZ hown (y := (⟨"com/example/ledgerwire/ledgerwire/store/EntriesRecordsPinLaw", "inR", "([JJ)Z"⟩ : MethodName)) (hw _ (List.mem_of_getElem? (i := 42) rfl)) (hw _ (List.mem_of_getElem? (i := 43) rfl)) (hw _ (List.mem_of_getElem? (i := 3) rfl)) (hw _ (List.mem_of_getElem? (i := 44) rfl)) (by decide) (own_met7 l Z a0 hw T707.heap r707 w3 _ (3 : Int32) w0 w1 w3 (0 : Int64) (f800.pad (pad_rep [(.long w0), (.long w1), (.long w3)] (.long (0 : Int64)) 1)) ) (by decide) (W := 0) (by decide) e811 (by rw [hml]; rfl) own_pd_8 (argsL := [(.ref r707), (.long w3)]) rfl (S := []) rfl (Nat.le_of_eq rfl) (hb hby at_493) (pc' := 496) rfl (by decide) (by decide) (fun T813 v813 L813 X813 hQ813 => ?_)
            obtain ⟨rfl, e813, rfl⟩ := hQ813
            have N814 := Fr.app N812 (Fr.nil n0)
            refine OwnK.if_ne X813 hx (hb hby at_496) (by decide) (pcT := 501) (by decide) (pc' := 499) rfl (fun hc496 => ?_) (fun (hc496 : (own_in (3 : Int32).toInt w0.toInt w1.toInt w3.toInt (0 : Int64).toInt w3.toInt).toInt = 0) => absurd ((congrArg Int32.toInt (own_in1 (by omega) : (own_in (3 : Int32).toInt w0.toInt w1.toInt w3.toInt (0 : Int64).toInt w3.toInt) = 1)).symm.trans hc496) (by decide))
            refine OwnK.iconst X813 hx (hb hby at_501) (pc' := 502) rfl (v := (1 : Int32)) (by decide) ?_
            refine OwnK.retN_ X813 hx hret (by simp) hlk (hb hby at_502) (by decide) (by decide) ?_
            exact ⟨rfl, N814⟩
        · refine OwnK.iincL X707 hx (hb hby at_241) (pc' := 244) rfl (x := (2 : Int32)) rfl (v := (3 : Int32)) (by decide) (Ls' := #[.val (.long p0), .second, .val (.long p1), .second, .val (.long p2), .second, .val (.long p3), .second, .val (.int p4), .val (.int p5), .val (.ref a1), .val (.int (4 : Int32)), .val (.ref a604), .val (.ref a638), .val (.ref r707), .val (.int (3 : Int32))]) rfl ?_
          refine OwnK.iload X707 hx (hb hby at_244) (pc' := 246) rfl (v := (4 : Int32)) rfl ?_
          refine OwnK.iconst X707 hx (hb hby at_246) (pc' := 247) rfl (v := (3 : Int32)) (by decide) ?_
          refine OwnK.icmp_le X707 hx (hb hby at_247) (by decide) (pcT := 265) (by decide) (pc' := 250) rfl (fun (hc247 : 4 ≤ 3) => absurd hc247 (by decide)) (fun hc247 => ?_)
          refine OwnK.aload X707 hx (hb hby at_250) (pc' := 252) rfl (v := (.ref a1)) rfl rfl ?_
          refine OwnK.iconst X707 hx (hb hby at_252) (pc' := 253) rfl (v := (3 : Int32)) (by decide) ?_
          refine OwnK.laload X707 hx hZ rfl f713 (by decide) (by first | decide | omega) (v := (.long w3)) rfl (hb hby at_253) (pc' := 254) rfl ?_
          refine OwnK.aload X707 hx (hb hby at_254) (pc' := 256) rfl (v := (.ref a1)) rfl rfl ?_
          refine OwnK.iconst X707 hx (hb hby at_256) (pc' := 257) rfl (v := (2 : Int32)) (by decide) ?_
          refine OwnK.laload X707 hx hZ rfl f713 (by decide) (by first | decide | omega) (v := (.long w2)) rfl (hb hby at_257) (pc' := 258) rfl ?_
          refine OwnK.lcmp_eq X707 hx (hb hby at_258) (pc1 := 259) rfl (hb hby at_259) (by decide) (pcT := 265) (by decide) (pc' := 262) rfl (fun (hc815 : w3.toInt = w2.toInt) => ?_) (fun (hc815 : ¬ w3.toInt = w2.toInt) => ?_)
          · have hdd : own_dd [w0, w1, w2, w3] = [w0, w1, w2] := by show _ :: own_go _ _ = _; rw [own_gn (by omega), own_gn (by omega), own_ge (by omega), own_g0]
            have f816 := V707
            rw [hdd] at f816
            have f817 : Arv Z T707.heap r707 _ .long (3 : Int32) [(.long w0), (.long w1), (.long w2)] (.long (0 : Int64)) := f816
            refine OwnK.aload X707 hx (hb hby at_265) (pc' := 267) rfl (v := (.ref r707)) rfl rfl ?_
            refine OwnK.arrlen X707 hx hZ rfl f817 (hb hby at_267) (pc' := 268) rfl ?_
            refine OwnK.iload X707 hx (hb hby at_268) (pc' := 270) rfl (v := (3 : Int32)) rfl ?_
            refine OwnK.icmp_eq X707 hx (hb hby at_270) (by decide) (pcT := 275) (by decide) (pc' := 273) rfl (fun hc270 => ?_) (fun (hc270 : ¬ 3 = 3) => absurd hc270 (by decide))
            refine OwnK.iload X707 hx (hb hby at_275) (pc' := 277) rfl (v := (3 : Int32)) rfl ?_
            refine OwnK.iconst X707 hx (hb hby at_277) (pc' := 278) rfl (v := (1 : Int32)) (by decide) ?_
            refine OwnK.icmp_le X707 hx (hb hby at_278) (by decide) (pcT := 295) (by decide) (pc' := 281) rfl (fun (hc278 : 3 ≤ 1) => absurd hc278 (by decide)) (fun hc278 => ?_)
            refine OwnK.aload X707 hx (hb hby at_281) (pc' := 283) rfl (v := (.ref r707)) rfl rfl ?_
            refine OwnK.iconst X707 hx (hb hby at_283) (pc' := 284) rfl (v := (0 : Int32)) (by decide) ?_
            refine OwnK.laload X707 hx hZ rfl f817 (by decide) (by first | decide | omega) (v := (.long w0)) rfl (hb hby at_284) (pc' := 285) rfl ?_
            refine OwnK.aload X707 hx (hb hby at_285) (pc' := 287) rfl (v := (.ref r707)) rfl rfl ?_
            refine OwnK.iconst X707 hx (hb hby at_287) (pc' := 288) rfl (v := (1 : Int32)) (by decide) ?_
            refine OwnK.laload X707 hx hZ rfl f817 (by decide) (by first | decide | omega) (v := (.long w1)) rfl (hb hby at_288) (pc' := 289) rfl ?_
            refine OwnK.lcmp_lt X707 hx (hb hby at_289) (pc1 := 290) rfl (hb hby at_290) (by decide) (pcT := 295) (by decide) (pc' := 293) rfl (fun hc289 => ?_) (fun (hc289 : w1.toInt ≤ w0.toInt) => by omega)
            refine OwnK.iload X707 hx (hb hby at_295) (pc' := 297) rfl (v := (3 : Int32)) rfl ?_
            refine OwnK.iconst X707 hx (hb hby at_297) (pc' := 298) rfl (v := (2 : Int32)) (by decide) ?_
            refine OwnK.icmp_le X707 hx (hb hby at_298) (by decide) (pcT := 315) (by decide) (pc' := 301) rfl (fun (hc298 : 3 ≤ 2) => absurd hc298 (by decide)) (fun hc298 => ?_)
            refine OwnK.aload X707 hx (hb hby at_301) (pc' := 303) rfl (v := (.ref r707)) rfl rfl ?_
            refine OwnK.iconst X707 hx (hb hby at_303) (pc' := 304) rfl (v := (1 : Int32)) (by decide) ?_
            refine OwnK.laload X707 hx hZ rfl f817 (by decide) (by first | decide | omega) (v := (.long w1)) rfl (hb hby at_304) (pc' := 305) rfl ?_
            refine OwnK.aload X707 hx (hb hby at_305) (pc' := 307) rfl (v := (.ref r707)) rfl rfl ?_
            refine OwnK.iconst X707 hx (hb hby at_307) (pc' := 308) rfl (v := (2 : Int32)) (by decide) ?_
            refine OwnK.laload X707 hx hZ rfl f817 (by decide) (by first | decide | omega) (v := (.long w2)) rfl (hb hby at_308) (pc' := 309) rfl ?_
            refine OwnK.lcmp_lt X707 hx (hb hby at_309) (pc1 := 310) rfl (hb hby at_310) (by decide) (pcT := 315) (by decide) (pc' := 313) rfl (fun hc309 => ?_) (fun (hc309 : w2.toInt ≤ w1.toInt) => by omega)
            refine OwnK.iload X707 hx (hb hby at_315) (pc' := 317) rfl (v := (3 : Int32)) rfl ?_
            refine OwnK.iconst X707 hx (hb hby at_317) (pc' := 318) rfl (v := (3 : Int32)) (by decide) ?_
            refine OwnK.icmp_le X707 hx (hb hby at_318) (by decide) (pcT := 335) (by decide) (pc' := 321) rfl (fun hc318 => ?_) (fun (hc318 : 3 < 3) => absurd hc318 (by decide))
            refine OwnK.iload X707 hx (hb hby at_335) (pc' := 337) rfl (v := (3 : Int32)) rfl ?_
            refine OwnK.if_le X707 hx (hb hby at_337) (by decide) (pcT := 356) (by decide) (pc' := 340) rfl (fun (hc337 : 3 ≤ 0) => absurd hc337 (by decide)) (fun hc337 => ?_)
            refine OwnK.aload X707 hx (hb hby at_340) (pc' := 342) rfl (v := (.ref a1)) rfl rfl ?_
            refine OwnK.iload X707 hx (hb hby at_342) (pc' := 344) rfl (v := (4 : Int32)) rfl ?_
            refine OwnK.aload X707 hx (hb hby at_344) (pc' := 346) rfl (v := (.ref r707)) rfl rfl ?_
            refine OwnK.iconst X707 hx (hb hby at_346) (pc' := 347) rfl (v := (0 : Int32)) (by decide) ?_
            refine OwnK.laload X707 hx hZ rfl f817 (by decide) (by first | decide | omega) (v := (.long w0)) rfl (hb hby at_347) (pc' := 348) rfl ?_
            refine OwnK.callS_ X707 hx hZ hown (y := (⟨"com/example/ledgerwire/ledgerwire/store/EntriesRecordsPinLaw", "inS", "([JIJ)Z"⟩ : MethodName)) (hw _ (List.mem_of_getElem? (i := 39) rfl)) (hw _ (List.mem_of_getElem? (i := 40) rfl)) (hw _ (List.mem_of_getElem? (i := 3) rfl)) (hw _ (List.mem_of_getElem? (i := 41) rfl)) (by decide) (own_met6 l Z a0 hw T707.heap a1 (4 : Int32) w0 _ w0 w1 w2 w3 f713 ) (by decide) (W := 0) (by decide) rfl (by rw [hml]; rfl) own_pd_7 (argsL := [(.ref a1), (.int (4 : Int32)), (.long w0)]) rfl (S := []) rfl (Nat.le_of_eq rfl) (hb hby at_348) (pc' := 351) rfl (by decide) (by decide) (fun T818 v818 L818 X818 hQ818 => ?_)
            obtain ⟨rfl, e818, rfl⟩ := hQ818
            have N819 := Fr.app N708 (Fr.nil n0)
            refine OwnK.if_ne X818 hx (hb hby at_351) (by decide) (pcT := 356) (by decide) (pc' := 354) rfl (fun hc351 => ?_) (fun (hc351 : (own_in (4 : Int32).toInt w0.toInt w1.toInt w2.toInt w3.toInt w0.toInt).toInt = 0) => absurd ((congrArg Int32.toInt (own_in1 (by omega) : (own_in (4 : Int32).toInt w0.toInt w1.toInt w2.toInt w3.toInt w0.toInt) = 1)).symm.trans hc351) (by decide))
            refine OwnK.iload X818 hx (hb hby at_356) (pc' := 358) rfl (v := (3 : Int32)) rfl ?_
            refine OwnK.iconst X818 hx (hb hby at_358) (pc' := 359) rfl (v := (1 : Int32)) (by decide) ?_
            refine OwnK.icmp_le X818 hx (hb hby at_359) (by decide) (pcT := 378) (by decide) (pc' := 362) rfl (fun (hc359 : 3 ≤ 1) => absurd hc359 (by decide)) (fun hc359 => ?_)
            refine OwnK.aload X818 hx (hb hby at_362) (pc' := 364) rfl (v := (.ref a1)) rfl rfl ?_
            refine OwnK.iload X818 hx (hb hby at_364) (pc' := 366) rfl (v := (4 : Int32)) rfl ?_
            refine OwnK.aload X818 hx (hb hby at_366) (pc' := 368) rfl (v := (.ref r707)) rfl rfl ?_
            refine OwnK.iconst X818 hx (hb hby at_368) (pc' := 369) rfl (v := (1 : Int32)) (by decide) ?_
            refine OwnK.laload X818 hx hZ e818 f817 (by decide) (by first | decide | omega) (v := (.long w1)) rfl (hb hby at_369) (pc' := 370) rfl ?_
            refine OwnK.callS_ X818 hx hZ hown (y := (⟨"com/example/ledgerwire/ledgerwire/store/EntriesRecordsPinLaw", "inS", "([JIJ)Z"⟩ : MethodName)) (hw _ (List.mem_of_getElem? (i := 39) rfl)) (hw _ (List.mem_of_getElem? (i := 40) rfl)) (hw _ (List.mem_of_getElem? (i := 3) rfl)) (hw _ (List.mem_of_getElem? (i := 41) rfl)) (by decide) (own_met6 l Z a0 hw T707.heap a1 (4 : Int32) w1 _ w0 w1 w2 w3 f713 ) (by decide) (W := 0) (by decide) e818 (by rw [hml]; rfl) own_pd_7 (argsL := [(.ref a1), (.int (4 : Int32)), (.long w1)]) rfl (S := []) rfl (Nat.le_of_eq rfl) (hb hby at_370) (pc' := 373) rfl (by decide) (by decide) (fun T820 v820 L820 X820 hQ820 => ?_)
            obtain ⟨rfl, e820, rfl⟩ := hQ820
            have N821 := Fr.app N819 (Fr.nil n0)
            refine OwnK.if_ne X820 hx (hb hby at_373) (by decide) (pcT := 378) (by decide) (pc' := 376) rfl (fun hc373 => ?_) (fun (hc373 : (own_in (4 : Int32).toInt w0.toInt w1.toInt w2.toInt w3.toInt w1.toInt).toInt = 0) => absurd ((congrArg Int32.toInt (own_in1 (by omega) : (own_in (4 : Int32).toInt w0.toInt w1.toInt w2.toInt w3.toInt w1.toInt) = 1)).symm.trans hc373) (by decide))
            refine OwnK.iload X820 hx (hb hby at_378) (pc' := 380) rfl (v := (3 : Int32)) rfl ?_
            refine OwnK.iconst X820 hx (hb hby at_380) (pc' := 381) rfl (v := (2 : Int32)) (by decide) ?_
            refine OwnK.icmp_le X820 hx (hb hby at_381) (by decide) (pcT := 400) (by decide) (pc' := 384) rfl (fun (hc381 : 3 ≤ 2) => absurd hc381 (by decide)) (fun hc381 => ?_)
            refine OwnK.aload X820 hx (hb hby at_384) (pc' := 386) rfl (v := (.ref a1)) rfl rfl ?_
            refine OwnK.iload X820 hx (hb hby at_386) (pc' := 388) rfl (v := (4 : Int32)) rfl ?_
            refine OwnK.aload X820 hx (hb hby at_388) (pc' := 390) rfl (v := (.ref r707)) rfl rfl ?_
            refine OwnK.iconst X820 hx (hb hby at_390) (pc' := 391) rfl (v := (2 : Int32)) (by decide) ?_
            refine OwnK.laload X820 hx hZ e820 f817 (by decide) (by first | decide | omega) (v := (.long w2)) rfl (hb hby at_391) (pc' := 392) rfl ?_
            refine OwnK.callS_ X820 hx hZ hown (y := (⟨"com/example/ledgerwire/ledgerwire/store/EntriesRecordsPinLaw", "inS", "([JIJ)Z"⟩ : MethodName)) (hw _ (List.mem_of_getElem? (i := 39) rfl)) (hw _ (List.mem_of_getElem? (i := 40) rfl)) (hw _ (List.mem_of_getElem? (i := 3) rfl)) (hw _ (List.mem_of_getElem? (i := 41) rfl)) (by decide) (own_met6 l Z a0 hw T707.heap a1 (4 : Int32) w2 _ w0 w1 w2 w3 f713 ) (by decide) (W := 0) (by decide) e820 (by rw [hml]; rfl) own_pd_7 (argsL := [(.ref a1), (.int (4 : Int32)), (.long w2)]) rfl (S := []) rfl (Nat.le_of_eq rfl) (hb hby at_392) (pc' := 395) rfl (by decide) (by decide) (fun T822 v822 L822 X822 hQ822 => ?_)
            obtain ⟨rfl, e822, rfl⟩ := hQ822
            have N823 := Fr.app N821 (Fr.nil n0)
            refine OwnK.if_ne X822 hx (hb hby at_395) (by decide) (pcT := 400) (by decide) (pc' := 398) rfl (fun hc395 => ?_) (fun (hc395 : (own_in (4 : Int32).toInt w0.toInt w1.toInt w2.toInt w3.toInt w2.toInt).toInt = 0) => absurd ((congrArg Int32.toInt (own_in1 (by omega) : (own_in (4 : Int32).toInt w0.toInt w1.toInt w2.toInt w3.toInt w2.toInt) = 1)).symm.trans hc395) (by decide))
            refine OwnK.iload X822 hx (hb hby at_400) (pc' := 402) rfl (v := (3 : Int32)) rfl ?_
            refine OwnK.iconst X822 hx (hb hby at_402) (pc' := 403) rfl (v := (3 : Int32)) (by decide) ?_
            refine OwnK.icmp_le X822 hx (hb hby at_403) (by decide) (pcT := 422) (by decide) (pc' := 406) rfl (fun hc403 => ?_) (fun (hc403 : 3 < 3) => absurd hc403 (by decide))
            refine OwnK.iload X822 hx (hb hby at_422) (pc' := 424) rfl (v := (4 : Int32)) rfl ?_
            refine OwnK.if_le X822 hx (hb hby at_424) (by decide) (pcT := 441) (by decide) (pc' := 427) rfl (fun (hc424 : 4 ≤ 0) => absurd hc424 (by decide)) (fun hc424 => ?_)
            refine OwnK.aload X822 hx (hb hby at_427) (pc' := 429) rfl (v := (.ref r707)) rfl rfl ?_
            refine OwnK.aload X822 hx (hb hby at_429) (pc' := 431) rfl (v := (.ref a1)) rfl rfl ?_
            refine OwnK.iconst X822 hx (hb hby at_431) (pc' := 432) rfl (v := (0 : Int32)) (by decide) ?_
            refine OwnK.laload X822 hx hZ e822 f713 (by decide) (by first | decide | omega) (v := (.long w0)) rfl (hb hby at_432) (pc' := 433) rfl ?_
            refine OwnK.callS_ X822 hx hZ hown (y := (⟨"com/example/ledgerwire/ledgerwire/store/EntriesRecordsPinLaw", "inR", "([JJ)Z"⟩ : MethodName)) (hw _ (List.mem_of_getElem? (i := 42) rfl)) (hw _ (List.mem_of_getElem? (i := 43) rfl)) (hw _ (List.mem_of_getElem? (i := 3) rfl)) (hw _ (List.mem_of_getElem? (i := 44) rfl)) (by decide) (own_met7 l Z a0 hw T707.heap r707 w0 _ (3 : Int32) w0 w1 w2 (0 : Int64) (f817.pad (pad_rep [(.long w0), (.long w1), (.long w2)] (.long (0 : Int64)) 1)) ) (by decide) (W := 0) (by decide) e822 (by rw [hml]; rfl) own_pd_8 (argsL := [(.ref r707), (.long w0)]) rfl (S := []) rfl (Nat.le_of_eq rfl) (hb hby at_433) (pc' := 436) rfl (by decide) (by decide) (fun T824 v824 L824 X824 hQ824 => ?_)
            obtain ⟨rfl, e824, rfl⟩ := hQ824
            have N825 := Fr.app N823 (Fr.nil n0)
            refine OwnK.if_ne X824 hx (hb hby at_436) (by decide) (pcT := 441) (by decide) (pc' := 439) rfl (fun hc436 => ?_) (fun (hc436 : (own_in (3 : Int32).toInt w0.toInt w1.toInt w2.toInt (0 : Int64).toInt w0.toInt).toInt = 0) => absurd ((congrArg Int32.toInt (own_in1 (by omega) : (own_in (3 : Int32).toInt w0.toInt w1.toInt w2.toInt (0 : Int64).toInt w0.toInt) = 1)).symm.trans hc436) (by decide))
            refine OwnK.iload X824 hx (hb hby at_441) (pc' := 443) rfl (v := (4 : Int32)) rfl ?_
            refine OwnK.iconst X824 hx (hb hby at_443) (pc' := 444) rfl (v := (1 : Int32)) (by decide) ?_
            refine OwnK.icmp_le X824 hx (hb hby at_444) (by decide) (pcT := 461) (by decide) (pc' := 447) rfl (fun (hc444 : 4 ≤ 1) => absurd hc444 (by decide)) (fun hc444 => ?_)
            refine OwnK.aload X824 hx (hb hby at_447) (pc' := 449) rfl (v := (.ref r707)) rfl rfl ?_
            refine OwnK.aload X824 hx (hb hby at_449) (pc' := 451) rfl (v := (.ref a1)) rfl rfl ?_
            refine OwnK.iconst X824 hx (hb hby at_451) (pc' := 452) rfl (v := (1 : Int32)) (by decide) ?_
            refine OwnK.laload X824 hx hZ e824 f713 (by decide) (by first | decide | omega) (v := (.long w1)) rfl (hb hby at_452) (pc' := 453) rfl ?_
            refine OwnK.callS_ X824 hx hZ hown (y := (⟨"com/example/ledgerwire/ledgerwire/store/EntriesRecordsPinLaw", "inR", "([JJ)Z"⟩ : MethodName)) (hw _ (List.mem_of_getElem? (i := 42) rfl)) (hw _ (List.mem_of_getElem? (i := 43) rfl)) (hw _ (List.mem_of_getElem? (i := 3) rfl)) (hw _ (List.mem_of_getElem? (i := 44) rfl)) (by decide) (own_met7 l Z a0 hw T707.heap r707 w1 _ (3 : Int32) w0 w1 w2 (0 : Int64) (f817.pad (pad_rep [(.long w0), (.long w1), (.long w2)] (.long (0 : Int64)) 1)) ) (by decide) (W := 0) (by decide) e824 (by rw [hml]; rfl) own_pd_8 (argsL := [(.ref r707), (.long w1)]) rfl (S := []) rfl (Nat.le_of_eq rfl) (hb hby at_453) (pc' := 456) rfl (by decide) (by decide) (fun T826 v826 L826 X826 hQ826 => ?_)
            obtain ⟨rfl, e826, rfl⟩ := hQ826
            have N827 := Fr.app N825 (Fr.nil n0)
            refine OwnK.if_ne X826 hx (hb hby at_456) (by decide) (pcT := 461) (by decide) (pc' := 459) rfl (fun hc456 => ?_) (fun (hc456 : (own_in (3 : Int32).toInt w0.toInt w1.toInt w2.toInt (0 : Int64).toInt w1.toInt).toInt = 0) => absurd ((congrArg Int32.toInt (own_in1 (by omega) : (own_in (3 : Int32).toInt w0.toInt w1.toInt w2.toInt (0 : Int64).toInt w1.toInt) = 1)).symm.trans hc456) (by decide))
            refine OwnK.iload X826 hx (hb hby at_461) (pc' := 463) rfl (v := (4 : Int32)) rfl ?_
            refine OwnK.iconst X826 hx (hb hby at_463) (pc' := 464) rfl (v := (2 : Int32)) (by decide) ?_
            refine OwnK.icmp_le X826 hx (hb hby at_464) (by decide) (pcT := 481) (by decide) (pc' := 467) rfl (fun (hc464 : 4 ≤ 2) => absurd hc464 (by decide)) (fun hc464 => ?_)
            refine OwnK.aload X826 hx (hb hby at_467) (pc' := 469) rfl (v := (.ref r707)) rfl rfl ?_
            refine OwnK.aload X826 hx (hb hby at_469) (pc' := 471) rfl (v := (.ref a1)) rfl rfl ?_
            refine OwnK.iconst X826 hx (hb hby at_471) (pc' := 472) rfl (v := (2 : Int32)) (by decide) ?_
            refine OwnK.laload X826 hx hZ e826 f713 (by decide) (by first | decide | omega) (v := (.long w2)) rfl (hb hby at_472) (pc' := 473) rfl ?_
            refine OwnK.callS_ X826 hx hZ hown (y := (⟨"com/example/ledgerwire/ledgerwire/store/EntriesRecordsPinLaw", "inR", "([JJ)Z"⟩ : MethodName)) (hw _ (List.mem_of_getElem? (i := 42) rfl)) (hw _ (List.mem_of_getElem? (i := 43) rfl)) (hw _ (List.mem_of_getElem? (i := 3) rfl)) (hw _ (List.mem_of_getElem? (i := 44) rfl)) (by decide) (own_met7 l Z a0 hw T707.heap r707 w2 _ (3 : Int32) w0 w1 w2 (0 : Int64) (f817.pad (pad_rep [(.long w0), (.long w1), (.long w2)] (.long (0 : Int64)) 1)) ) (by decide) (W := 0) (by decide) e826 (by rw [hml]; rfl) own_pd_8 (argsL := [(.ref r707), (.long w2)]) rfl (S := []) rfl (Nat.le_of_eq rfl) (hb hby at_473) (pc' := 476) rfl (by decide) (by decide) (fun T828 v828 L828 X828 hQ828 => ?_)
            obtain ⟨rfl, e828, rfl⟩ := hQ828
            have N829 := Fr.app N827 (Fr.nil n0)
            refine OwnK.if_ne X828 hx (hb hby at_476) (by decide) (pcT := 481) (by decide) (pc' := 479) rfl (fun hc476 => ?_) (fun (hc476 : (own_in (3 : Int32).toInt w0.toInt w1.toInt w2.toInt (0 : Int64).toInt w2.toInt).toInt = 0) => absurd ((congrArg Int32.toInt (own_in1 (by omega) : (own_in (3 : Int32).toInt w0.toInt w1.toInt w2.toInt (0 : Int64).toInt w2.toInt) = 1)).symm.trans hc476) (by decide))
            refine OwnK.iload X828 hx (hb hby at_481) (pc' := 483) rfl (v := (4 : Int32)) rfl ?_
            refine OwnK.iconst X828 hx (hb hby at_483) (pc' := 484) rfl (v := (3 : Int32)) (by decide) ?_
            refine OwnK.icmp_le X828 hx (hb hby at_484) (by decide) (pcT := 501) (by decide) (pc' := 487) rfl (fun (hc484 : 4 ≤ 3) => absurd hc484 (by decide)) (fun hc484 => ?_)
            refine OwnK.aload X828 hx (hb hby at_487) (pc' := 489) rfl (v := (.ref r707)) rfl rfl ?_
            refine OwnK.aload X828 hx (hb hby at_489) (pc' := 491) rfl (v := (.ref a1)) rfl rfl ?_
            refine OwnK.iconst X828 hx (hb hby at_491) (pc' := 492) rfl (v := (3 : Int32)) (by decide) ?_
            refine OwnK.laload X828 hx hZ e828 f713 (by decide) (by first | decide | omega) (v := (.long w3)) rfl (hb hby at_492) (pc' := 493) rfl ?_
            refine OwnK.callS_ X828 hx hZ hown (y := (⟨"com/example/ledgerwire/ledgerwire/store/EntriesRecordsPinLaw", "inR", "([JJ)Z"⟩ : MethodName)) (hw _ (List.mem_of_getElem? (i := 42) rfl)) (hw _ (List.mem_of_getElem? (i := 43) rfl)) (hw _ (List.mem_of_getElem? (i := 3) rfl)) (hw _ (List.mem_of_getElem? (i := 44) rfl)) (by decide) (own_met7 l Z a0 hw T707.heap r707 w3 _ (3 : Int32) w0 w1 w2 (0 : Int64) (f817.pad (pad_rep [(.long w0), (.long w1), (.long w2)] (.long (0 : Int64)) 1)) ) (by decide) (W := 0) (by decide) e828 (by rw [hml]; rfl) own_pd_8 (argsL := [(.ref r707), (.long w3)]) rfl (S := []) rfl (Nat.le_of_eq rfl) (hb hby at_493) (pc' := 496) rfl (by decide) (by decide) (fun T830 v830 L830 X830 hQ830 => ?_)
            obtain ⟨rfl, e830, rfl⟩ := hQ830
            have N831 := Fr.app N829 (Fr.nil n0)
            refine OwnK.if_ne X830 hx (hb hby at_496) (by decide) (pcT := 501) (by decide) (pc' := 499) rfl (fun hc496 => ?_) (fun (hc496 : (own_in (3 : Int32).toInt w0.toInt w1.toInt w2.toInt (0 : Int64).toInt w3.toInt).toInt = 0) => absurd ((congrArg Int32.toInt (own_in1 (by omega) : (own_in (3 : Int32).toInt w0.toInt w1.toInt w2.toInt (0 : Int64).toInt w3.toInt) = 1)).symm.trans hc496) (by decide))
            refine OwnK.iconst X830 hx (hb hby at_501) (pc' := 502) rfl (v := (1 : Int32)) (by decide) ?_
            refine OwnK.retN_ X830 hx hret (by simp) hlk (hb hby at_502) (by decide) (by decide) ?_
            exact ⟨rfl, N831⟩
          · refine OwnK.iincL X707 hx (hb hby at_262) (pc' := 265) rfl (x := (3 : Int32)) rfl (v := (4 : Int32)) (by decide) (Ls' := #[.val (.long p0), .second, .val (.long p1), .second, .val (.long p2), .second, .val (.long p3), .second, .val (.int p4), .val (.int p5), .val (.ref a1), .val (.int (4 : Int32)), .val (.ref a604), .val (.ref a638), .val (.ref r707), .val (.int (4 : Int32))]) rfl ?_
            have hdd : own_dd [w0, w1, w2, w3] = [w0, w1, w2, w3] := by show _ :: own_go _ _ = _; rw [own_gn (by omega), own_gn (by omega), own_gn (by omega), own_g0]
            have f832 := V707
            rw [hdd] at f832
            have f833 : Arv Z T707.heap r707 _ .long (4 : Int32) [(.long w0), (.long w1), (.long w2), (.long w3)] (.long (0 : Int64)) := f832
            refine OwnK.aload X707 hx (hb hby at_265) (pc' := 267) rfl (v := (.ref r707)) rfl rfl ?_
            refine OwnK.arrlen X707 hx hZ rfl f833 (hb hby at_267) (pc' := 268) rfl ?_
            refine OwnK.iload X707 hx (hb hby at_268) (pc' := 270) rfl (v := (4 : Int32)) rfl ?_
            refine OwnK.icmp_eq X707 hx (hb hby at_270) (by decide) (pcT := 275) (by decide) (pc' := 273) rfl (fun hc270 => ?_) (fun (hc270 : ¬ 4 = 4) => absurd hc270 (by decide))
            refine OwnK.iload X707 hx (hb hby at_275) (pc' := 277) rfl (v := (4 : Int32)) rfl ?_
            refine OwnK.iconst X707 hx (hb hby at_277) (pc' := 278) rfl (v := (1 : Int32)) (by decide) ?_
            refine OwnK.icmp_le X707 hx (hb hby at_278) (by decide) (pcT := 295) (by decide) (pc' := 281) rfl (fun (hc278 : 4 ≤ 1) => absurd hc278 (by decide)) (fun hc278 => ?_)
            refine OwnK.aload X707 hx (hb hby at_281) (pc' := 283) rfl (v := (.ref r707)) rfl rfl ?_
            refine OwnK.iconst X707 hx (hb hby at_283) (pc' := 284) rfl (v := (0 : Int32)) (by decide) ?_
            refine OwnK.laload X707 hx hZ rfl f833 (by decide) (by first | decide | omega) (v := (.long w0)) rfl (hb hby at_284) (pc' := 285) rfl ?_
            refine OwnK.aload X707 hx (hb hby at_285) (pc' := 287) rfl (v := (.ref r707)) rfl rfl ?_
            refine OwnK.iconst X707 hx (hb hby at_287) (pc' := 288) rfl (v := (1 : Int32)) (by decide) ?_
            refine OwnK.laload X707 hx hZ rfl f833 (by decide) (by first | decide | omega) (v := (.long w1)) rfl (hb hby at_288) (pc' := 289) rfl ?_
            refine OwnK.lcmp_lt X707 hx (hb hby at_289) (pc1 := 290) rfl (hb hby at_290) (by decide) (pcT := 295) (by decide) (pc' := 293) rfl (fun hc289 => ?_) (fun (hc289 : w1.toInt ≤ w0.toInt) => by omega)
            refine OwnK.iload X707 hx (hb hby at_295) (pc' := 297) rfl (v := (4 : Int32)) rfl ?_
            refine OwnK.iconst X707 hx (hb hby at_297) (pc' := 298) rfl (v := (2 : Int32)) (by decide) ?_
            refine OwnK.icmp_le X707 hx (hb hby at_298) (by decide) (pcT := 315) (by decide) (pc' := 301) rfl (fun (hc298 : 4 ≤ 2) => absurd hc298 (by decide)) (fun hc298 => ?_)
            refine OwnK.aload X707 hx (hb hby at_301) (pc' := 303) rfl (v := (.ref r707)) rfl rfl ?_
            refine OwnK.iconst X707 hx (hb hby at_303) (pc' := 304) rfl (v := (1 : Int32)) (by decide) ?_
            refine OwnK.laload X707 hx hZ rfl f833 (by decide) (by first | decide | omega) (v := (.long w1)) rfl (hb hby at_304) (pc' := 305) rfl ?_
            refine OwnK.aload X707 hx (hb hby at_305) (pc' := 307) rfl (v := (.ref r707)) rfl rfl ?_
            refine OwnK.iconst X707 hx (hb hby at_307) (pc' := 308) rfl (v := (2 : Int32)) (by decide) ?_
            refine OwnK.laload X707 hx hZ rfl f833 (by decide) (by first | decide | omega) (v := (.long w2)) rfl (hb hby at_308) (pc' := 309) rfl ?_
            refine OwnK.lcmp_lt X707 hx (hb hby at_309) (pc1 := 310) rfl (hb hby at_310) (by decide) (pcT := 315) (by decide) (pc' := 313) rfl (fun hc309 => ?_) (fun (hc309 : w2.toInt ≤ w1.toInt) => by omega)
            refine OwnK.iload X707 hx (hb hby at_315) (pc' := 317) rfl (v := (4 : Int32)) rfl ?_
            refine OwnK.iconst X707 hx (hb hby at_317) (pc' := 318) rfl (v := (3 : Int32)) (by decide) ?_
            refine OwnK.icmp_le X707 hx (hb hby at_318) (by decide) (pcT := 335) (by decide) (pc' := 321) rfl (fun (hc318 : 4 ≤ 3) => absurd hc318 (by decide)) (fun hc318 => ?_)
            refine OwnK.aload X707 hx (hb hby at_321) (pc' := 323) rfl (v := (.ref r707)) rfl rfl ?_
            refine OwnK.iconst X707 hx (hb hby at_323) (pc' := 324) rfl (v := (2 : Int32)) (by decide) ?_
            refine OwnK.laload X707 hx hZ rfl f833 (by decide) (by first | decide | omega) (v := (.long w2)) rfl (hb hby at_324) (pc' := 325) rfl ?_
            refine OwnK.aload X707 hx (hb hby at_325) (pc' := 327) rfl (v := (.ref r707)) rfl rfl ?_
            refine OwnK.iconst X707 hx (hb hby at_327) (pc' := 328) rfl (v := (3 : Int32)) (by decide) ?_
            refine OwnK.laload X707 hx hZ rfl f833 (by decide) (by first | decide | omega) (v := (.long w3)) rfl (hb hby at_328) (pc' := 329) rfl ?_
            refine OwnK.lcmp_lt X707 hx (hb hby at_329) (pc1 := 330) rfl (hb hby at_330) (by decide) (pcT := 335) (by decide) (pc' := 333) rfl (fun hc329 => ?_) (fun (hc329 : w3.toInt ≤ w2.toInt) => by omega)
            refine OwnK.iload X707 hx (hb hby at_335) (pc' := 337) rfl (v := (4 : Int32)) rfl ?_
            refine OwnK.if_le X707 hx (hb hby at_337) (by decide) (pcT := 356) (by decide) (pc' := 340) rfl (fun (hc337 : 4 ≤ 0) => absurd hc337 (by decide)) (fun hc337 => ?_)
            refine OwnK.aload X707 hx (hb hby at_340) (pc' := 342) rfl (v := (.ref a1)) rfl rfl ?_
            refine OwnK.iload X707 hx (hb hby at_342) (pc' := 344) rfl (v := (4 : Int32)) rfl ?_
            refine OwnK.aload X707 hx (hb hby at_344) (pc' := 346) rfl (v := (.ref r707)) rfl rfl ?_
            refine OwnK.iconst X707 hx (hb hby at_346) (pc' := 347) rfl (v := (0 : Int32)) (by decide) ?_
            refine OwnK.laload X707 hx hZ rfl f833 (by decide) (by first | decide | omega) (v := (.long w0)) rfl (hb hby at_347) (pc' := 348) rfl ?_
            refine OwnK.callS_ X707 hx hZ hown (y := (⟨"com/example/ledgerwire/ledgerwire/store/EntriesRecordsPinLaw", "inS", "([JIJ)Z"⟩ : MethodName)) (hw _ (List.mem_of_getElem? (i := 39) rfl)) (hw _ (List.mem_of_getElem? (i := 40) rfl)) (hw _ (List.mem_of_getElem? (i := 3) rfl)) (hw _ (List.mem_of_getElem? (i := 41) rfl)) (by decide) (own_met6 l Z a0 hw T707.heap a1 (4 : Int32) w0 _ w0 w1 w2 w3 f713 ) (by decide) (W := 0) (by decide) rfl (by rw [hml]; rfl) own_pd_7 (argsL := [(.ref a1), (.int (4 : Int32)), (.long w0)]) rfl (S := []) rfl (Nat.le_of_eq rfl) (hb hby at_348) (pc' := 351) rfl (by decide) (by decide) (fun T834 v834 L834 X834 hQ834 => ?_)
            obtain ⟨rfl, e834, rfl⟩ := hQ834
            have N835 := Fr.app N708 (Fr.nil n0)
            refine OwnK.if_ne X834 hx (hb hby at_351) (by decide) (pcT := 356) (by decide) (pc' := 354) rfl (fun hc351 => ?_) (fun (hc351 : (own_in (4 : Int32).toInt w0.toInt w1.toInt w2.toInt w3.toInt w0.toInt).toInt = 0) => absurd ((congrArg Int32.toInt (own_in1 (by omega) : (own_in (4 : Int32).toInt w0.toInt w1.toInt w2.toInt w3.toInt w0.toInt) = 1)).symm.trans hc351) (by decide))
            refine OwnK.iload X834 hx (hb hby at_356) (pc' := 358) rfl (v := (4 : Int32)) rfl ?_
            refine OwnK.iconst X834 hx (hb hby at_358) (pc' := 359) rfl (v := (1 : Int32)) (by decide) ?_
            refine OwnK.icmp_le X834 hx (hb hby at_359) (by decide) (pcT := 378) (by decide) (pc' := 362) rfl (fun (hc359 : 4 ≤ 1) => absurd hc359 (by decide)) (fun hc359 => ?_)
            refine OwnK.aload X834 hx (hb hby at_362) (pc' := 364) rfl (v := (.ref a1)) rfl rfl ?_
            refine OwnK.iload X834 hx (hb hby at_364) (pc' := 366) rfl (v := (4 : Int32)) rfl ?_
            refine OwnK.aload X834 hx (hb hby at_366) (pc' := 368) rfl (v := (.ref r707)) rfl rfl ?_
            refine OwnK.iconst X834 hx (hb hby at_368) (pc' := 369) rfl (v := (1 : Int32)) (by decide) ?_
            refine OwnK.laload X834 hx hZ e834 f833 (by decide) (by first | decide | omega) (v := (.long w1)) rfl (hb hby at_369) (pc' := 370) rfl ?_
            refine OwnK.callS_ X834 hx hZ hown (y := (⟨"com/example/ledgerwire/ledgerwire/store/EntriesRecordsPinLaw", "inS", "([JIJ)Z"⟩ : MethodName)) (hw _ (List.mem_of_getElem? (i := 39) rfl)) (hw _ (List.mem_of_getElem? (i := 40) rfl)) (hw _ (List.mem_of_getElem? (i := 3) rfl)) (hw _ (List.mem_of_getElem? (i := 41) rfl)) (by decide) (own_met6 l Z a0 hw T707.heap a1 (4 : Int32) w1 _ w0 w1 w2 w3 f713 ) (by decide) (W := 0) (by decide) e834 (by rw [hml]; rfl) own_pd_7 (argsL := [(.ref a1), (.int (4 : Int32)), (.long w1)]) rfl (S := []) rfl (Nat.le_of_eq rfl) (hb hby at_370) (pc' := 373) rfl (by decide) (by decide) (fun T836 v836 L836 X836 hQ836 => ?_)
            obtain ⟨rfl, e836, rfl⟩ := hQ836
            have N837 := Fr.app N835 (Fr.nil n0)
            refine OwnK.if_ne X836 hx (hb hby at_373) (by decide) (pcT := 378) (by decide) (pc' := 376) rfl (fun hc373 => ?_) (fun (hc373 : (own_in (4 : Int32).toInt w0.toInt w1.toInt w2.toInt w3.toInt w1.toInt).toInt = 0) => absurd ((congrArg Int32.toInt (own_in1 (by omega) : (own_in (4 : Int32).toInt w0.toInt w1.toInt w2.toInt w3.toInt w1.toInt) = 1)).symm.trans hc373) (by decide))
            refine OwnK.iload X836 hx (hb hby at_378) (pc' := 380) rfl (v := (4 : Int32)) rfl ?_
            refine OwnK.iconst X836 hx (hb hby at_380) (pc' := 381) rfl (v := (2 : Int32)) (by decide) ?_
            refine OwnK.icmp_le X836 hx (hb hby at_381) (by decide) (pcT := 400) (by decide) (pc' := 384) rfl (fun (hc381 : 4 ≤ 2) => absurd hc381 (by decide)) (fun hc381 => ?_)
            refine OwnK.aload X836 hx (hb hby at_384) (pc' := 386) rfl (v := (.ref a1)) rfl rfl ?_
            refine OwnK.iload X836 hx (hb hby at_386) (pc' := 388) rfl (v := (4 : Int32)) rfl ?_
            refine OwnK.aload X836 hx (hb hby at_388) (pc' := 390) rfl (v := (.ref r707)) rfl rfl ?_
            refine OwnK.iconst X836 hx (hb hby at_390) (pc' := 391) rfl (v := (2 : Int32)) (by decide) ?_
            refine OwnK.laload X836 hx hZ e836 f833 (by decide) (by first | decide | omega) (v := (.long w2)) rfl (hb hby at_391) (pc' := 392) rfl ?_
            refine OwnK.callS_ X836 hx hZ hown (y := (⟨"com/example/ledgerwire/ledgerwire/store/EntriesRecordsPinLaw", "inS", "([JIJ)Z"⟩ : MethodName)) (hw _ (List.mem_of_getElem? (i := 39) rfl)) (hw _ (List.mem_of_getElem? (i := 40) rfl)) (hw _ (List.mem_of_getElem? (i := 3) rfl)) (hw _ (List.mem_of_getElem? (i := 41) rfl)) (by decide) (own_met6 l Z a0 hw T707.heap a1 (4 : Int32) w2 _ w0 w1 w2 w3 f713 ) (by decide) (W := 0) (by decide) e836 (by rw [hml]; rfl) own_pd_7 (argsL := [(.ref a1), (.int (4 : Int32)), (.long w2)]) rfl (S := []) rfl (Nat.le_of_eq rfl) (hb hby at_392) (pc' := 395) rfl (by decide) (by decide) (fun T838 v838 L838 X838 hQ838 => ?_)
            obtain ⟨rfl, e838, rfl⟩ := hQ838
            have N839 := Fr.app N837 (Fr.nil n0)
            refine OwnK.if_ne X838 hx (hb hby at_395) (by decide) (pcT := 400) (by decide) (pc' := 398) rfl (fun hc395 => ?_) (fun (hc395 : (own_in (4 : Int32).toInt w0.toInt w1.toInt w2.toInt w3.toInt w2.toInt).toInt = 0) => absurd ((congrArg Int32.toInt (own_in1 (by omega) : (own_in (4 : Int32).toInt w0.toInt w1.toInt w2.toInt w3.toInt w2.toInt) = 1)).symm.trans hc395) (by decide))
            refine OwnK.iload X838 hx (hb hby at_400) (pc' := 402) rfl (v := (4 : Int32)) rfl ?_
            refine OwnK.iconst X838 hx (hb hby at_402) (pc' := 403) rfl (v := (3 : Int32)) (by decide) ?_
            refine OwnK.icmp_le X838 hx (hb hby at_403) (by decide) (pcT := 422) (by decide) (pc' := 406) rfl (fun (hc403 : 4 ≤ 3) => absurd hc403 (by decide)) (fun hc403 => ?_)
            refine OwnK.aload X838 hx (hb hby at_406) (pc' := 408) rfl (v := (.ref a1)) rfl rfl ?_
            refine OwnK.iload X838 hx (hb hby at_408) (pc' := 410) rfl (v := (4 : Int32)) rfl ?_
            refine OwnK.aload X838 hx (hb hby at_410) (pc' := 412) rfl (v := (.ref r707)) rfl rfl ?_
            refine OwnK.iconst X838 hx (hb hby at_412) (pc' := 413) rfl (v := (3 : Int32)) (by decide) ?_
            refine OwnK.laload X838 hx hZ e838 f833 (by decide) (by first | decide | omega) (v := (.long w3)) rfl (hb hby at_413) (pc' := 414) rfl ?_
            refine OwnK.callS_ X838 hx hZ hown (y := (⟨"com/example/ledgerwire/ledgerwire/store/EntriesRecordsPinLaw", "inS", "([JIJ)Z"⟩ : MethodName)) (hw _ (List.mem_of_getElem? (i := 39) rfl)) (hw _ (List.mem_of_getElem? (i := 40) rfl)) (hw _ (List.mem_of_getElem? (i := 3) rfl)) (hw _ (List.mem_of_getElem? (i := 41) rfl)) (by decide) (own_met6 l Z a0 hw T707.heap a1 (4 : Int32) w3 _ w0 w1 w2 w3 f713 ) (by decide) (W := 0) (by decide) e838 (by rw [hml]; rfl) own_pd_7 (argsL := [(.ref a1), (.int (4 : Int32)), (.long w3)]) rfl (S := []) rfl (Nat.le_of_eq rfl) (hb hby at_414) (pc' := 417) rfl (by decide) (by decide) (fun T840 v840 L840 X840 hQ840 => ?_)
            obtain ⟨rfl, e840, rfl⟩ := hQ840
            have N841 := Fr.app N839 (Fr.nil n0)
            refine OwnK.if_ne X840 hx (hb hby at_417) (by decide) (pcT := 422) (by decide) (pc' := 420) rfl (fun hc417 => ?_) (fun (hc417 : (own_in (4 : Int32).toInt w0.toInt w1.toInt w2.toInt w3.toInt w3.toInt).toInt = 0) => absurd ((congrArg Int32.toInt (own_in1 (by omega) : (own_in (4 : Int32).toInt w0.toInt w1.toInt w2.toInt w3.toInt w3.toInt) = 1)).symm.trans hc417) (by decide))
            refine OwnK.iload X840 hx (hb hby at_422) (pc' := 424) rfl (v := (4 : Int32)) rfl ?_
            refine OwnK.if_le X840 hx (hb hby at_424) (by decide) (pcT := 441) (by decide) (pc' := 427) rfl (fun (hc424 : 4 ≤ 0) => absurd hc424 (by decide)) (fun hc424 => ?_)
            refine OwnK.aload X840 hx (hb hby at_427) (pc' := 429) rfl (v := (.ref r707)) rfl rfl ?_
            refine OwnK.aload X840 hx (hb hby at_429) (pc' := 431) rfl (v := (.ref a1)) rfl rfl ?_
            refine OwnK.iconst X840 hx (hb hby at_431) (pc' := 432) rfl (v := (0 : Int32)) (by decide) ?_
            refine OwnK.laload X840 hx hZ e840 f713 (by decide) (by first | decide | omega) (v := (.long w0)) rfl (hb hby at_432) (pc' := 433) rfl ?_
            refine OwnK.callS_ X840 hx hZ hown (y := (⟨"com/example/ledgerwire/ledgerwire/store/EntriesRecordsPinLaw", "inR", "([JJ)Z"⟩ : MethodName)) (hw _ (List.mem_of_getElem? (i := 42) rfl)) (hw _ (List.mem_of_getElem? (i := 43) rfl)) (hw _ (List.mem_of_getElem? (i := 3) rfl)) (hw _ (List.mem_of_getElem? (i := 44) rfl)) (by decide) (own_met7 l Z a0 hw T707.heap r707 w0 _ (4 : Int32) w0 w1 w2 w3 (f833.pad (pad_rep [(.long w0), (.long w1), (.long w2), (.long w3)] (.long (0 : Int64)) 0)) ) (by decide) (W := 0) (by decide) e840 (by rw [hml]; rfl) own_pd_8 (argsL := [(.ref r707), (.long w0)]) rfl (S := []) rfl (Nat.le_of_eq rfl) (hb hby at_433) (pc' := 436) rfl (by decide) (by decide) (fun T842 v842 L842 X842 hQ842 => ?_)
            obtain ⟨rfl, e842, rfl⟩ := hQ842
            have N843 := Fr.app N841 (Fr.nil n0)
            refine OwnK.if_ne X842 hx (hb hby at_436) (by decide) (pcT := 441) (by decide) (pc' := 439) rfl (fun hc436 => ?_) (fun (hc436 : (own_in (4 : Int32).toInt w0.toInt w1.toInt w2.toInt w3.toInt w0.toInt).toInt = 0) => absurd ((congrArg Int32.toInt (own_in1 (by omega) : (own_in (4 : Int32).toInt w0.toInt w1.toInt w2.toInt w3.toInt w0.toInt) = 1)).symm.trans hc436) (by decide))
            refine OwnK.iload X842 hx (hb hby at_441) (pc' := 443) rfl (v := (4 : Int32)) rfl ?_
            refine OwnK.iconst X842 hx (hb hby at_443) (pc' := 444) rfl (v := (1 : Int32)) (by decide) ?_
            refine OwnK.icmp_le X842 hx (hb hby at_444) (by decide) (pcT := 461) (by decide) (pc' := 447) rfl (fun (hc444 : 4 ≤ 1) => absurd hc444 (by decide)) (fun hc444 => ?_)
            refine OwnK.aload X842 hx (hb hby at_447) (pc' := 449) rfl (v := (.ref r707)) rfl rfl ?_
            refine OwnK.aload X842 hx (hb hby at_449) (pc' := 451) rfl (v := (.ref a1)) rfl rfl ?_
            refine OwnK.iconst X842 hx (hb hby at_451) (pc' := 452) rfl (v := (1 : Int32)) (by decide) ?_
            refine OwnK.laload X842 hx hZ e842 f713 (by decide) (by first | decide | omega) (v := (.long w1)) rfl (hb hby at_452) (pc' := 453) rfl ?_
            refine OwnK.callS_ X842 hx hZ hown (y := (⟨"com/example/ledgerwire/ledgerwire/store/EntriesRecordsPinLaw", "inR", "([JJ)Z"⟩ : MethodName)) (hw _ (List.mem_of_getElem? (i := 42) rfl)) (hw _ (List.mem_of_getElem? (i := 43) rfl)) (hw _ (List.mem_of_getElem? (i := 3) rfl)) (hw _ (List.mem_of_getElem? (i := 44) rfl)) (by decide) (own_met7 l Z a0 hw T707.heap r707 w1 _ (4 : Int32) w0 w1 w2 w3 (f833.pad (pad_rep [(.long w0), (.long w1), (.long w2), (.long w3)] (.long (0 : Int64)) 0)) ) (by decide) (W := 0) (by decide) e842 (by rw [hml]; rfl) own_pd_8 (argsL := [(.ref r707), (.long w1)]) rfl (S := []) rfl (Nat.le_of_eq rfl) (hb hby at_453) (pc' := 456) rfl (by decide) (by decide) (fun T844 v844 L844 X844 hQ844 => ?_)
            obtain ⟨rfl, e844, rfl⟩ := hQ844
            have N845 := Fr.app N843 (Fr.nil n0)
            refine OwnK.if_ne X844 hx (hb hby at_456) (by decide) (pcT := 461) (by decide) (pc' := 459) rfl (fun hc456 => ?_) (fun (hc456 : (own_in (4 : Int32).toInt w0.toInt w1.toInt w2.toInt w3.toInt w1.toInt).toInt = 0) => absurd ((congrArg Int32.toInt (own_in1 (by omega) : (own_in (4 : Int32).toInt w0.toInt w1.toInt w2.toInt w3.toInt w1.toInt) = 1)).symm.trans hc456) (by decide))
            refine OwnK.iload X844 hx (hb hby at_461) (pc' := 463) rfl (v := (4 : Int32)) rfl ?_
            refine OwnK.iconst X844 hx (hb hby at_463) (pc' := 464) rfl (v := (2 : Int32)) (by decide) ?_
            refine OwnK.icmp_le X844 hx (hb hby at_464) (by decide) (pcT := 481) (by decide) (pc' := 467) rfl (fun (hc464 : 4 ≤ 2) => absurd hc464 (by decide)) (fun hc464 => ?_)
            refine OwnK.aload X844 hx (hb hby at_467) (pc' := 469) rfl (v := (.ref r707)) rfl rfl ?_
            refine OwnK.aload X844 hx (hb hby at_469) (pc' := 471) rfl (v := (.ref a1)) rfl rfl ?_
            refine OwnK.iconst X844 hx (hb hby at_471) (pc' := 472) rfl (v := (2 : Int32)) (by decide) ?_
            refine OwnK.laload X844 hx hZ e844 f713 (by decide) (by first | decide | omega) (v := (.long w2)) rfl (hb hby at_472) (pc' := 473) rfl ?_
            refine OwnK.callS_ X844 hx hZ hown (y := (⟨"com/example/ledgerwire/ledgerwire/store/EntriesRecordsPinLaw", "inR", "([JJ)Z"⟩ : MethodName)) (hw _ (List.mem_of_getElem? (i := 42) rfl)) (hw _ (List.mem_of_getElem? (i := 43) rfl)) (hw _ (List.mem_of_getElem? (i := 3) rfl)) (hw _ (List.mem_of_getElem? (i := 44) rfl)) (by decide) (own_met7 l Z a0 hw T707.heap r707 w2 _ (4 : Int32) w0 w1 w2 w3 (f833.pad (pad_rep [(.long w0), (.long w1), (.long w2), (.long w3)] (.long (0 : Int64)) 0)) ) (by decide) (W := 0) (by decide) e844 (by rw [hml]; rfl) own_pd_8 (argsL := [(.ref r707), (.long w2)]) rfl (S := []) rfl (Nat.le_of_eq rfl) (hb hby at_473) (pc' := 476) rfl (by decide) (by decide) (fun T846 v846 L846 X846 hQ846 => ?_)
            obtain ⟨rfl, e846, rfl⟩ := hQ846
            have N847 := Fr.app N845 (Fr.nil n0)
            refine OwnK.if_ne X846 hx (hb hby at_476) (by decide) (pcT := 481) (by decide) (pc' := 479) rfl (fun hc476 => ?_) (fun (hc476 : (own_in (4 : Int32).toInt w0.toInt w1.toInt w2.toInt w3.toInt w2.toInt).toInt = 0) => absurd ((congrArg Int32.toInt (own_in1 (by omega) : (own_in (4 : Int32).toInt w0.toInt w1.toInt w2.toInt w3.toInt w2.toInt) = 1)).symm.trans hc476) (by decide))
            refine OwnK.iload X846 hx (hb hby at_481) (pc' := 483) rfl (v := (4 : Int32)) rfl ?_
            refine OwnK.iconst X846 hx (hb hby at_483) (pc' := 484) rfl (v := (3 : Int32)) (by decide) ?_
            refine OwnK.icmp_le X846 hx (hb hby at_484) (by decide) (pcT := 501) (by decide) (pc' := 487) rfl (fun (hc484 : 4 ≤ 3) => absurd hc484 (by decide)) (fun hc484 => ?_)
            refine OwnK.aload X846 hx (hb hby at_487) (pc' := 489) rfl (v := (.ref r707)) rfl rfl ?_
            refine OwnK.aload X846 hx (hb hby at_489) (pc' := 491) rfl (v := (.ref a1)) rfl rfl ?_
            refine OwnK.iconst X846 hx (hb hby at_491) (pc' := 492) rfl (v := (3 : Int32)) (by decide) ?_
            refine OwnK.laload X846 hx hZ e846 f713 (by decide) (by first | decide | omega) (v := (.long w3)) rfl (hb hby at_492) (pc' := 493) rfl ?_
            refine OwnK.callS_ X846 hx hZ hown (y := (⟨"com/example/ledgerwire/ledgerwire/store/EntriesRecordsPinLaw", "inR", "([JJ)Z"⟩ : MethodName)) (hw _ (List.mem_of_getElem? (i := 42) rfl)) (hw _ (List.mem_of_getElem? (i := 43) rfl)) (hw _ (List.mem_of_getElem? (i := 3) rfl)) (hw _ (List.mem_of_getElem? (i := 44) rfl)) (by decide) (own_met7 l Z a0 hw T707.heap r707 w3 _ (4 : Int32) w0 w1 w2 w3 (f833.pad (pad_rep [(.long w0), (.long w1), (.long w2), (.long w3)] (.long (0 : Int64)) 0)) ) (by decide) (W := 0) (by decide) e846 (by rw [hml]; rfl) own_pd_8 (argsL := [(.ref r707), (.long w3)]) rfl (S := []) rfl (Nat.le_of_eq rfl) (hb hby at_493) (pc' := 496) rfl (by decide) (by decide) (fun T848 v848 L848 X848 hQ848 => ?_)
            obtain ⟨rfl, e848, rfl⟩ := hQ848
            have N849 := Fr.app N847 (Fr.nil n0)
            refine OwnK.if_ne X848 hx (hb hby at_496) (by decide) (pcT := 501) (by decide) (pc' := 499) rfl (fun hc496 => ?_) (fun (hc496 : (own_in (4 : Int32).toInt w0.toInt w1.toInt w2.toInt w3.toInt w3.toInt).toInt = 0) => absurd ((congrArg Int32.toInt (own_in1 (by omega) : (own_in (4 : Int32).toInt w0.toInt w1.toInt w2.toInt w3.toInt w3.toInt) = 1)).symm.trans hc496) (by decide))
            refine OwnK.iconst X848 hx (hb hby at_501) (pc' := 502) rfl (v := (1 : Int32)) (by decide) ?_
            refine OwnK.retN_ X848 hx hret (by simp) hlk (hb hby at_502) (by decide) (by decide) ?_
            exact ⟨rfl, N849⟩
  refine OwnK.iload X44 hx (hb hby at_58) (pc' := 60) rfl (v := p4) rfl ?_
  refine OwnK.iconst X44 hx (hb hby at_60) (pc' := 61) rfl (v := (1 : Int32)) (by decide) ?_
  refine OwnK.iand X44 hx (hb hby at_61) (pc' := 62) rfl ?_
  refine OwnK.if_eq X44 hx (hb hby at_62) (by decide) (pcT := 73) (by decide) (pc' := 65) rfl (fun (hc850 : (p4 &&& (1 : Int32)).toInt = 0) => ?_) (fun (hc850 : ¬ (p4 &&& (1 : Int32)).toInt = 0) => ?_)
  · refine OwnK.iload X44 hx (hb hby at_73) (pc' := 75) rfl (v := p4) rfl ?_
    refine OwnK.iconst X44 hx (hb hby at_75) (pc' := 76) rfl (v := (2 : Int32)) (by decide) ?_
    refine OwnK.iand X44 hx (hb hby at_76) (pc' := 77) rfl ?_
    refine OwnK.if_eq X44 hx (hb hby at_77) (by decide) (pcT := 88) (by decide) (pc' := 80) rfl (fun (hc851 : (p4 &&& (2 : Int32)).toInt = 0) => ?_) (fun (hc851 : ¬ (p4 &&& (2 : Int32)).toInt = 0) => ?_)
    · refine OwnK.iload X44 hx (hb hby at_88) (pc' := 90) rfl (v := p4) rfl ?_
      refine OwnK.iconst X44 hx (hb hby at_90) (pc' := 91) rfl (v := (4 : Int32)) (by decide) ?_
      refine OwnK.iand X44 hx (hb hby at_91) (pc' := 92) rfl ?_
      refine OwnK.if_eq X44 hx (hb hby at_92) (by decide) (pcT := 103) (by decide) (pc' := 95) rfl (fun (hc852 : (p4 &&& (4 : Int32)).toInt = 0) => ?_) (fun (hc852 : ¬ (p4 &&& (4 : Int32)).toInt = 0) => ?_)
      · exact J103 _ _ _ _ _ _ _ X44 rfl N45 z47 f48 f46 (by omega)
      · refine OwnK.aload X44 hx (hb hby at_95) (pc' := 97) rfl (v := (.ref a1)) rfl rfl ?_
        refine OwnK.iconst X44 hx (hb hby at_97) (pc' := 98) rfl (v := (3 : Int32)) (by decide) ?_
        refine OwnK.aload X44 hx (hb hby at_98) (pc' := 100) rfl (v := (.ref a1)) rfl rfl ?_
        refine OwnK.iconst X44 hx (hb hby at_100) (pc' := 101) rfl (v := (2 : Int32)) (by decide) ?_
        refine OwnK.laload X44 hx hZ rfl f48 (by decide) (by first | decide | omega) (v := (.long hi44)) rfl (hb hby at_101) (pc' := 102) rfl ?_
        refine OwnK.lastore X44 hx hZ rfl f48 (i := 3) (by decide) (by first | decide | omega) (Nat.le_of_ble_eq_true rfl) (hb hby at_102) (pc' := 103) rfl (fun T853 h853 X853 e853 W853 V853 => ?_)
        have f854 := f46.wr W853
        have f855 : Arv Z h853 a1 _ .long (4 : Int32) [(.long lo34), (.long lo44), (.long hi44), (.long hi44)] (.long (0 : Int64)) := V853
        have N856 := Fr.snoc X853 N45 ge_a1
        have z857 : n0 ≤ h853.size := Nat.le_trans z47 (Keep.of_wr W853).1
        exact J103 _ _ _ _ _ _ _ X853 e853 N856 z857 f855 f854 (by omega)
    · refine OwnK.aload X44 hx (hb hby at_80) (pc' := 82) rfl (v := (.ref a1)) rfl rfl ?_
      refine OwnK.iconst X44 hx (hb hby at_82) (pc' := 83) rfl (v := (2 : Int32)) (by decide) ?_
      refine OwnK.aload X44 hx (hb hby at_83) (pc' := 85) rfl (v := (.ref a1)) rfl rfl ?_
      refine OwnK.iconst X44 hx (hb hby at_85) (pc' := 86) rfl (v := (1 : Int32)) (by decide) ?_
      refine OwnK.laload X44 hx hZ rfl f48 (by decide) (by first | decide | omega) (v := (.long lo44)) rfl (hb hby at_86) (pc' := 87) rfl ?_
      refine OwnK.lastore X44 hx hZ rfl f48 (i := 2) (by decide) (by first | decide | omega) (Nat.le_of_ble_eq_true rfl) (hb hby at_87) (pc' := 88) rfl (fun T858 h858 X858 e858 W858 V858 => ?_)
      have f859 := f46.wr W858
      have f860 : Arv Z h858 a1 _ .long (4 : Int32) [(.long lo34), (.long lo44), (.long lo44), (.long hi39)] (.long (0 : Int64)) := V858
      have N861 := Fr.snoc X858 N45 ge_a1
      have z862 : n0 ≤ h858.size := Nat.le_trans z47 (Keep.of_wr W858).1
      refine OwnK.iload X858 hx (hb hby at_88) (pc' := 90) rfl (v := p4) rfl ?_
      refine OwnK.iconst X858 hx (hb hby at_90) (pc' := 91) rfl (v := (4 : Int32)) (by decide) ?_
      refine OwnK.iand X858 hx (hb hby at_91) (pc' := 92) rfl ?_
      refine OwnK.if_eq X858 hx (hb hby at_92) (by decide) (pcT := 103) (by decide) (pc' := 95) rfl (fun (hc863 : (p4 &&& (4 : Int32)).toInt = 0) => ?_) (fun (hc863 : ¬ (p4 &&& (4 : Int32)).toInt = 0) => ?_)
      · exact J103 _ _ _ _ _ _ _ X858 e858 N861 z862 f860 f859 (by omega)
      · refine OwnK.aload X858 hx (hb hby at_95) (pc' := 97) rfl (v := (.ref a1)) rfl rfl ?_
        refine OwnK.iconst X858 hx (hb hby at_97) (pc' := 98) rfl (v := (3 : Int32)) (by decide) ?_
        refine OwnK.aload X858 hx (hb hby at_98) (pc' := 100) rfl (v := (.ref a1)) rfl rfl ?_
        refine OwnK.iconst X858 hx (hb hby at_100) (pc' := 101) rfl (v := (2 : Int32)) (by decide) ?_
        refine OwnK.laload X858 hx hZ e858 f860 (by decide) (by first | decide | omega) (v := (.long lo44)) rfl (hb hby at_101) (pc' := 102) rfl ?_
        refine OwnK.lastore X858 hx hZ e858 f860 (i := 3) (by decide) (by first | decide | omega) (Nat.le_of_ble_eq_true rfl) (hb hby at_102) (pc' := 103) rfl (fun T864 h864 X864 e864 W864 V864 => ?_)
        have f865 := f859.wr W864
        have f866 : Arv Z h864 a1 _ .long (4 : Int32) [(.long lo34), (.long lo44), (.long lo44), (.long lo44)] (.long (0 : Int64)) := V864
        have N867 := Fr.snoc X864 N861 ge_a1
        have z868 : n0 ≤ h864.size := Nat.le_trans z862 (Keep.of_wr W864).1
        exact J103 _ _ _ _ _ _ _ X864 e864 N867 z868 f866 f865 (by omega)
  · refine OwnK.aload X44 hx (hb hby at_65) (pc' := 67) rfl (v := (.ref a1)) rfl rfl ?_
    refine OwnK.iconst X44 hx (hb hby at_67) (pc' := 68) rfl (v := (1 : Int32)) (by decide) ?_
    refine OwnK.aload X44 hx (hb hby at_68) (pc' := 70) rfl (v := (.ref a1)) rfl rfl ?_
    refine OwnK.iconst X44 hx (hb hby at_70) (pc' := 71) rfl (v := (0 : Int32)) (by decide) ?_
    refine OwnK.laload X44 hx hZ rfl f48 (by decide) (by first | decide | omega) (v := (.long lo34)) rfl (hb hby at_71) (pc' := 72) rfl ?_
    refine OwnK.lastore X44 hx hZ rfl f48 (i := 1) (by decide) (by first | decide | omega) (Nat.le_of_ble_eq_true rfl) (hb hby at_72) (pc' := 73) rfl (fun T869 h869 X869 e869 W869 V869 => ?_)
    have f870 := f46.wr W869
    have f871 : Arv Z h869 a1 _ .long (4 : Int32) [(.long lo34), (.long lo34), (.long hi44), (.long hi39)] (.long (0 : Int64)) := V869
    have N872 := Fr.snoc X869 N45 ge_a1
    have z873 : n0 ≤ h869.size := Nat.le_trans z47 (Keep.of_wr W869).1
    refine OwnK.iload X869 hx (hb hby at_73) (pc' := 75) rfl (v := p4) rfl ?_
    refine OwnK.iconst X869 hx (hb hby at_75) (pc' := 76) rfl (v := (2 : Int32)) (by decide) ?_
    refine OwnK.iand X869 hx (hb hby at_76) (pc' := 77) rfl ?_
    refine OwnK.if_eq X869 hx (hb hby at_77) (by decide) (pcT := 88) (by decide) (pc' := 80) rfl (fun (hc874 : (p4 &&& (2 : Int32)).toInt = 0) => ?_) (fun (hc874 : ¬ (p4 &&& (2 : Int32)).toInt = 0) => ?_)
    · refine OwnK.iload X869 hx (hb hby at_88) (pc' := 90) rfl (v := p4) rfl ?_
      refine OwnK.iconst X869 hx (hb hby at_90) (pc' := 91) rfl (v := (4 : Int32)) (by decide) ?_
      refine OwnK.iand X869 hx (hb hby at_91) (pc' := 92) rfl ?_
      refine OwnK.if_eq X869 hx (hb hby at_92) (by decide) (pcT := 103) (by decide) (pc' := 95) rfl (fun (hc875 : (p4 &&& (4 : Int32)).toInt = 0) => ?_) (fun (hc875 : ¬ (p4 &&& (4 : Int32)).toInt = 0) => ?_)
      · exact J103 _ _ _ _ _ _ _ X869 e869 N872 z873 f871 f870 (by omega)
      · refine OwnK.aload X869 hx (hb hby at_95) (pc' := 97) rfl (v := (.ref a1)) rfl rfl ?_
        refine OwnK.iconst X869 hx (hb hby at_97) (pc' := 98) rfl (v := (3 : Int32)) (by decide) ?_
        refine OwnK.aload X869 hx (hb hby at_98) (pc' := 100) rfl (v := (.ref a1)) rfl rfl ?_
        refine OwnK.iconst X869 hx (hb hby at_100) (pc' := 101) rfl (v := (2 : Int32)) (by decide) ?_
        refine OwnK.laload X869 hx hZ e869 f871 (by decide) (by first | decide | omega) (v := (.long hi44)) rfl (hb hby at_101) (pc' := 102) rfl ?_
        refine OwnK.lastore X869 hx hZ e869 f871 (i := 3) (by decide) (by first | decide | omega) (Nat.le_of_ble_eq_true rfl) (hb hby at_102) (pc' := 103) rfl (fun T876 h876 X876 e876 W876 V876 => ?_)
        have f877 := f870.wr W876
        have f878 : Arv Z h876 a1 _ .long (4 : Int32) [(.long lo34), (.long lo34), (.long hi44), (.long hi44)] (.long (0 : Int64)) := V876
        have N879 := Fr.snoc X876 N872 ge_a1
        have z880 : n0 ≤ h876.size := Nat.le_trans z873 (Keep.of_wr W876).1
        exact J103 _ _ _ _ _ _ _ X876 e876 N879 z880 f878 f877 (by omega)
    · refine OwnK.aload X869 hx (hb hby at_80) (pc' := 82) rfl (v := (.ref a1)) rfl rfl ?_
      refine OwnK.iconst X869 hx (hb hby at_82) (pc' := 83) rfl (v := (2 : Int32)) (by decide) ?_
      refine OwnK.aload X869 hx (hb hby at_83) (pc' := 85) rfl (v := (.ref a1)) rfl rfl ?_
      refine OwnK.iconst X869 hx (hb hby at_85) (pc' := 86) rfl (v := (1 : Int32)) (by decide) ?_
      refine OwnK.laload X869 hx hZ e869 f871 (by decide) (by first | decide | omega) (v := (.long lo34)) rfl (hb hby at_86) (pc' := 87) rfl ?_
      refine OwnK.lastore X869 hx hZ e869 f871 (i := 2) (by decide) (by first | decide | omega) (Nat.le_of_ble_eq_true rfl) (hb hby at_87) (pc' := 88) rfl (fun T881 h881 X881 e881 W881 V881 => ?_)
      have f882 := f870.wr W881
      have f883 : Arv Z h881 a1 _ .long (4 : Int32) [(.long lo34), (.long lo34), (.long lo34), (.long hi39)] (.long (0 : Int64)) := V881
      have N884 := Fr.snoc X881 N872 ge_a1
      have z885 : n0 ≤ h881.size := Nat.le_trans z873 (Keep.of_wr W881).1
      refine OwnK.iload X881 hx (hb hby at_88) (pc' := 90) rfl (v := p4) rfl ?_
      refine OwnK.iconst X881 hx (hb hby at_90) (pc' := 91) rfl (v := (4 : Int32)) (by decide) ?_
      refine OwnK.iand X881 hx (hb hby at_91) (pc' := 92) rfl ?_
      refine OwnK.if_eq X881 hx (hb hby at_92) (by decide) (pcT := 103) (by decide) (pc' := 95) rfl (fun (hc886 : (p4 &&& (4 : Int32)).toInt = 0) => ?_) (fun (hc886 : ¬ (p4 &&& (4 : Int32)).toInt = 0) => ?_)
      · exact J103 _ _ _ _ _ _ _ X881 e881 N884 z885 f883 f882 (by omega)
      · refine OwnK.aload X881 hx (hb hby at_95) (pc' := 97) rfl (v := (.ref a1)) rfl rfl ?_
        refine OwnK.iconst X881 hx (hb hby at_97) (pc' := 98) rfl (v := (3 : Int32)) (by decide) ?_
        refine OwnK.aload X881 hx (hb hby at_98) (pc' := 100) rfl (v := (.ref a1)) rfl rfl ?_
        refine OwnK.iconst X881 hx (hb hby at_100) (pc' := 101) rfl (v := (2 : Int32)) (by decide) ?_
        refine OwnK.laload X881 hx hZ e881 f883 (by decide) (by first | decide | omega) (v := (.long lo34)) rfl (hb hby at_101) (pc' := 102) rfl ?_
        refine OwnK.lastore X881 hx hZ e881 f883 (i := 3) (by decide) (by first | decide | omega) (Nat.le_of_ble_eq_true rfl) (hb hby at_102) (pc' := 103) rfl (fun T887 h887 X887 e887 W887 V887 => ?_)
        have f888 := f882.wr W887
        have f889 : Arv Z h887 a1 _ .long (4 : Int32) [(.long lo34), (.long lo34), (.long lo34), (.long lo34)] (.long (0 : Int64)) := V887
        have N890 := Fr.snoc X887 N884 ge_a1
        have z891 : n0 ≤ h887.size := Nat.le_trans z885 (Keep.of_wr W887).1
        exact J103 _ _ _ _ _ _ _ X887 e887 N890 z891 f889 f888 (by omega)
set_option maxRecDepth 65536 in
set_option maxHeartbeats 40000000 in
theorem comes_1 {Post : Tables → Env → Array Value → State → Outcome → State → Prop} (hpost : ∀ tb e args s v u, (limb_1_1.after args s (.returned v) u = true ∧ limb_1_2.after args s (.returned v) u = true ∧ True) → FrameEnd s (.returned v) u (Jvm.fieldLocs frame_1_writes args s ++ Jvm.arrayLocs frame_1_arrays args s ++ Jvm.staticLocs frame_1_statics s) 24 128 → Post tb e args s (.returned v) u) :
    ArmFor flags0 classFile x code maxLocals ret World_1 tables_1 room_1 Calls_1 rest_1 Pre_1 Post := by
  intro l hfl _ _ p e ha hc hk s m args below hf hA hF happ hP
  obtain ⟨hcalls, hrest, hpre⟩ := hP
  obtain ⟨-, -, -, hnamed, -, -, -, hat⟩ := (Spec.applies_iff hf).mp happ
  obtain ⟨hg, hn⟩ := and_e (Cond.before_iff.mp (show (Jvm.Cond.and given_1 narrow_1).before args s = true from hpre))
  obtain ⟨hcnt, hg0⟩ := and_e hg
  obtain ⟨ha0, hg1⟩ := and_e hg0
  obtain ⟨ha1, hg2⟩ := and_e hg1
  obtain ⟨ha2, hg3⟩ := and_e hg2
  obtain ⟨ha3, hg4⟩ := and_e hg3
  obtain ⟨ha4, hg5⟩ := and_e hg4
  have ha5 := hg5
  obtain ⟨w0, w1, w2, w3, w4, w5, rfl⟩ : ∃ w0 w1 w2 w3 w4 w5 : Value, args = #[w0, w1, w2, w3, w4, w5] := by
    have hs : args.size = 6 := by simpa [Cond.value, given_1] using hcnt
    obtain ⟨L⟩ := args
    match L, hs with
    | [w0, w1, w2, w3, w4, w5], _ => exact ⟨w0, w1, w2, w3, w4, w5, rfl⟩
  have hw := fun d (hd : d ∈ tables_1) => atoms_spec (ws := Jvm.Cond.code x code maxLocals ret :: tables_1) hat d (List.mem_cons_of_mem _ hd)
  have hfit : Fit s := fun {y c} hc i hi => by
    obtain ⟨ha, rfl⟩ := Array.getElem?_eq_some_iff.mp hc
    have q := List.all_eq_true.mp ((Array.all_eq_true_iff_forall_mem.mp hF) _ (Array.getElem_mem ha)) i (List.mem_range.mpr hi)
    simpa [Array.getElem?_eq_getElem hi] using q
  obtain ⟨i0, e0⟩ := isL_v ha0
  obtain rfl : w0 = (.long i0) := Option.some.inj e0
  obtain ⟨i1, e1⟩ := isL_v ha1
  obtain rfl : w1 = (.long i1) := Option.some.inj e1
  obtain ⟨i2, e2⟩ := isL_v ha2
  obtain rfl : w2 = (.long i2) := Option.some.inj e2
  obtain ⟨i3, e3⟩ := isL_v ha3
  obtain rfl : w3 = (.long i3) := Option.some.inj e3
  obtain ⟨i4, e4⟩ := is_v ha4
  obtain rfl : w4 = (.int i4) := Option.some.inj e4
  obtain ⟨i5, e5⟩ := is_v ha5
  obtain rfl : w5 = (.int i5) := Option.some.inj e5
  obtain ⟨n, o, h1, h2, h3, _, L, rfl, ⟨rfl, N⟩, hq⟩ := own_law l s _ hw tables_1 s.heap s.heap.size (Nat.le_refl _) i0 i1 i2 i3 i4 i5  p e ha hc hk s m _ below hf ((Spec.applies_iff_loose hf).mp happ).1 ⟨rfl, State.Warmed39.refl s, rfl⟩ trivial
  refine ⟨n, _, h1, h2, h3, hpost _ _ _ _ _ _ ⟨Cond.after_iff.mpr rfl, Cond.after_iff.mpr (eq_i res_at (Term.int_eval (1)) rfl), trivial⟩ ⟨hq.1, hq.2.1, (hq.2.2.sift fun y hy => Or.inr (N y hy)).mono (by decide) (by decide)⟩⟩
theorem main_1_1 : Claimed_1_1 := comes_1 fun _ _ _ _ _ _ h hF => ⟨h.1, hF⟩
theorem main_1_2 : Claimed_1_2 := comes_1 fun _ _ _ _ _ _ h hF => ⟨h.2.1, hF⟩
end Jvm.Pilot.@@N@@
namespace Jvm.Pilot.@@N@@
open Jvm Jvm.ClassFile Sem Op Lib Jvm.Free Jvm.Stand Jvm.Pilot.@@N@@.Jvm.D
/-! MADE BY PROGRAM (witnessworld.py) out of the Statement's table words and the real class files: 14 classes; the members and pool entries that the words name. The judged class is class 1, her method 1. -/
namespace start1
open Jvm.ClassFile
def u (s : String) : CpInfo := .utf8 (stringToUtf16 s)
/-- a pool by its gaps: so many unusable entries, then the entry; so many at the end -/
def gap : Nat → List CpInfo → List CpInfo
  | 0, r => r
  | n + 1, r => .unusable :: gap n r
def poolList (es : List (Nat × CpInfo)) (last : Nat) : List CpInfo := es.foldr (fun e r => gap e.1 (e.2 :: r)) (gap last [])
def pool (es : List (Nat × CpInfo)) (last : Nat) : Array CpInfo := ⟨poolList es last⟩
def fileOf (pool : Array CpInfo) (this : Nat) (attrs : Array Attribute := #[]) (ms : Array MethodInfo := #[]) (fl : Nat := 33) (sup : Nat := 0) (ifs : Array Nat := #[]) (fds : Array FieldInfo := #[]) : ClassFile where
  minorVersion := 0
  majorVersion := 65
  constantPool := pool
  accessFlags := fl
  thisClass := this
  superClass := sup
  interfaces := ifs
  fields := fds
  methods := ms
  attributes := attrs
def plain (name : String) (sup : Option ClassId) : Class where
  name := name
  kind := .ordinary
  loader := none
  accessFlags := 33
  super := sup
  interfaces := #[]
  cf := none
  fields := #[]
  methods := #[]
  instanceTypes := #[]
  staticTypes := #[]
  resolved := #[]
  callSites := []
  init := .initialized
  statics := none
  mirror := none

def pool0 : Array CpInfo := pool [(5, u "<init>"), (0, u "()V"), (1, .class_ 10), (1, u "java/lang/Object"), (85, u "clone"), (0, u "()Ljava/lang/Object;")] 26

def k0c0 : Code := { maxStack := 0, maxLocals := 1, code := object_method_1_code, exceptionTable := #[], attributes := #[] }
def k0m0 : Method := { name := "<init>", desc := "()V", sig := { parameters := [], returnType := none }, accessFlags := 1, code := some k0c0 }
def k0m1 : Method := { name := "clone", desc := "()Ljava/lang/Object;", sig := { parameters := [], returnType := some (.object "java/lang/Object") }, accessFlags := 260, code := none }
/-- java/lang/Object -/
def k0 : Class := { plain "java/lang/Object" none with
  accessFlags := 33
  interfaces := #[]
  cf := some (fileOf pool0 8 #[] #[{ accessFlags := 1, nameIndex := 5, descriptorIndex := 6, attributes := #[] }, { accessFlags := 260, nameIndex := 96, descriptorIndex := 97, attributes := #[] }] 33 0 #[] #[])
  fields := #[]
  methods := #[k0m0, k0m1]
  instanceTypes := #[]
  staticTypes := #[]
  resolved := Array.replicate 124 none
  statics := none }

def pool1 : Array CpInfo := pool [(2, .class_ 4), (1, u "java/lang/Object"), (0, u "<init>"), (0, u "()V"), (0, .methodref 8 9), (0, .class_ 10), (0, .nameAndType 11 12), (0, u "com/example/ledgerwire/ledgerwire/store/EntriesRecordsPinLaw"), (0, u "cs"), (0, u "([JII)V"), (0, .class_ 14), (0, u "com/example/ledgerwire/ledgerwire/store/Entries"), (0, .methodref 13 16), (0, .nameAndType 5 17), (0, u "([J[II)V"), (0, .methodref 13 19), (0, .nameAndType 20 21), (0, u "records"), (0, u "()[J"), (0, .methodref 8 23), (0, .nameAndType 24 25), (0, u "inS"), (0, u "([JIJ)Z"), (0, .methodref 8 27), (0, .nameAndType 28 29), (0, u "inR"), (0, u "([JJ)Z"), (2, u "law"), (0, u "(JJJJII)Z")] 7

def k1m0 : Method := { name := "<init>", desc := "()V", sig := { parameters := [], returnType := none }, accessFlags := 1, code := none }
def k1c1 : Code := { maxStack := 5, maxLocals := 16, code := code, exceptionTable := #[], attributes := #[] }
def k1m1 : Method := { name := "law", desc := "(JJJJII)Z", sig := { parameters := [.long, .long, .long, .long, .int, .int], returnType := some .boolean }, accessFlags := 9, code := some k1c1 }
def k1c2 : Code := { maxStack := 4, maxLocals := 5, code := method_3_code, exceptionTable := #[], attributes := #[] }
def k1m2 : Method := { name := "cs", desc := "([JII)V", sig := { parameters := [(.array .long), .int, .int], returnType := none }, accessFlags := 10, code := some k1c2 }
def k1c3 : Code := { maxStack := 4, maxLocals := 4, code := method_4_code, exceptionTable := #[], attributes := #[] }
def k1m3 : Method := { name := "inS", desc := "([JIJ)Z", sig := { parameters := [(.array .long), .int, .long], returnType := some .boolean }, accessFlags := 10, code := some k1c3 }
def k1c4 : Code := { maxStack := 4, maxLocals := 3, code := method_5_code, exceptionTable := #[], attributes := #[] }
def k1m4 : Method := { name := "inR", desc := "([JJ)Z", sig := { parameters := [(.array .long), .long], returnType := some .boolean }, accessFlags := 10, code := some k1c4 }
/-- com/example/ledgerwire/ledgerwire/store/EntriesRecordsPinLaw -/
def k1 : Class := { plain "com/example/ledgerwire/ledgerwire/store/EntriesRecordsPinLaw" (some 0) with
  accessFlags := 49
  interfaces := #[]
  cf := some (fileOf pool1 8 #[] #[{ accessFlags := 1, nameIndex := 5, descriptorIndex := 6, attributes := #[] }, { accessFlags := 9, nameIndex := 32, descriptorIndex := 33, attributes := #[] }, { accessFlags := 10, nameIndex := 11, descriptorIndex := 12, attributes := #[] }, { accessFlags := 10, nameIndex := 24, descriptorIndex := 25, attributes := #[] }, { accessFlags := 10, nameIndex := 28, descriptorIndex := 29, attributes := #[] }] 49 2 #[] #[])
  fields := #[]
  methods := #[k1m0, k1m1, k1m2, k1m3, k1m4]
  instanceTypes := #[]
  staticTypes := #[]
  resolved := Array.replicate 41 none
  statics := none }

def pool2 : Array CpInfo := pool [(1, .methodref 2 3), (0, .class_ 4), (0, .nameAndType 5 6), (0, u "java/lang/Object"), (0, u "<init>"), (0, u "()V"), (0, .fieldref 8 9), (0, .class_ 10), (0, .nameAndType 11 12), (0, u "com/example/ledgerwire/ledgerwire/store/Entries"), (0, u "seqs"), (0, u "[J"), (0, .fieldref 8 14), (0, .nameAndType 15 16), (0, u "parts"), (0, u "[I"), (0, .fieldref 8 18), (0, .nameAndType 19 20), (0, u "size"), (0, u "I"), (2, u "NONE"), (0, u "Lcom/example/ledgerwire/ledgerwire/store/Entries;"), (12, u "([J[II)V"), (0, .methodref 39 40), (0, .class_ 41), (0, .nameAndType 42 43), (0, u "java/util/Arrays"), (0, u "copyOf"), (0, u "([JI)[J"), (46, u "records"), (0, u "()[J")] 11

def k2c0 : Code := { maxStack := 2, maxLocals := 4, code := prog_46_method_1_code, exceptionTable := #[], attributes := #[] }
def k2m0 : Method := { name := "<init>", desc := "([J[II)V", sig := { parameters := [(.array .long), (.array .int), .int], returnType := none }, accessFlags := 0, code := some k2c0 }
def k2c1 : Code := { maxStack := 4, maxLocals := 4, code := prog_46_method_5_code, exceptionTable := #[], attributes := #[] }
def k2m1 : Method := { name := "records", desc := "()[J", sig := { parameters := [], returnType := some (.array .long) }, accessFlags := 1, code := some k2c1 }
/-- com/example/ledgerwire/ledgerwire/store/Entries -/
def k2 : Class := { plain "com/example/ledgerwire/ledgerwire/store/Entries" (some 0) with
  accessFlags := 49
  interfaces := #[]
  cf := some (fileOf pool2 8 #[] #[{ accessFlags := 0, nameIndex := 5, descriptorIndex := 37, attributes := #[] }, { accessFlags := 1, nameIndex := 90, descriptorIndex := 91, attributes := #[] }] 49 2 #[] #[{ accessFlags := 26, nameIndex := 23, descriptorIndex := 24, attributes := #[] }, { accessFlags := 18, nameIndex := 11, descriptorIndex := 12, attributes := #[] }, { accessFlags := 18, nameIndex := 15, descriptorIndex := 16, attributes := #[] }, { accessFlags := 18, nameIndex := 19, descriptorIndex := 20, attributes := #[] }])
  fields := #[{ name := "NONE", type := (.object "com/example/ledgerwire/ledgerwire/store/Entries"), accessFlags := 26, slot := 0, constantValue := 0 }, { name := "seqs", type := (.array .long), accessFlags := 18, slot := 0, constantValue := 0 }, { name := "parts", type := (.array .int), accessFlags := 18, slot := 1, constantValue := 0 }, { name := "size", type := .int, accessFlags := 18, slot := 2, constantValue := 0 }]
  methods := #[k2m0, k2m1]
  instanceTypes := #[(.array .long), (.array .int), .int]
  staticTypes := #[(.object "com/example/ledgerwire/ledgerwire/store/Entries")]
  resolved := Array.replicate 103 none
  statics := none }

def pool3 : Array CpInfo := pool [(2, .class_ 4), (1, u "java/lang/Object"), (0, u "<init>"), (0, u "()V"), (7, .class_ 16), (1, u "java/util/Arrays"), (57, .class_ 76), (1, u "java/util/Arrays$NaturalOrder"), (32, u "()Ljava/lang/Object;"), (3, .class_ 115), (1, u "java/util/Arrays$LegacyMergeSort"), (1, u "Z"), (10, .nameAndType 129 109), (0, u "clone"), (20, .methodref 151 152), (0, .class_ 153), (0, .nameAndType 154 155), (0, u "java/lang/System"), (0, u "arraycopy"), (0, u "(Ljava/lang/Object;ILjava/lang/Object;II)V"), (146, u "copyOf"), (1, .methodref 305 306), (0, .class_ 307), (0, .nameAndType 308 309), (0, u "java/lang/Math"), (0, u "min"), (0, u "(II)I"), (9, .methodref 320 128), (0, .class_ 321), (0, u "[J"), (53, .class_ 376), (0, u "java/util/Arrays$ArrayList"), (68, u "$assertionsDisabled"), (269, u "MIN_ARRAY_SORT_GRAN"), (0, u "I"), (2, u "INSERTIONSORT_THRESHOLD"), (152, u "([JI)[J"), (102, .class_ 976), (0, u "java/util/Arrays$ArrayItr")] 52

def k3m0 : Method := { name := "<init>", desc := "()V", sig := { parameters := [], returnType := none }, accessFlags := 2, code := none }
def k3c1 : Code := { maxStack := 6, maxLocals := 3, code := jdk_65_method_124_code, exceptionTable := #[], attributes := #[] }
def k3m1 : Method := { name := "copyOf", desc := "([JI)[J", sig := { parameters := [(.array .long), .int], returnType := some (.array .long) }, accessFlags := 9, code := some k3c1 }
/-- java/util/Arrays -/
def k3 : Class := { plain "java/util/Arrays" (some 0) with
  accessFlags := 49
  interfaces := #[]
  cf := some (fileOf pool3 14 #[.nestMembers #[975, 375, 113, 74]] #[{ accessFlags := 2, nameIndex := 5, descriptorIndex := 6, attributes := #[] }, { accessFlags := 9, nameIndex := 302, descriptorIndex := 872, attributes := #[] }] 49 2 #[] #[{ accessFlags := 26, nameIndex := 715, descriptorIndex := 716, attributes := #[] }, { accessFlags := 26, nameIndex := 719, descriptorIndex := 716, attributes := #[] }, { accessFlags := 4120, nameIndex := 445, descriptorIndex := 117, attributes := #[] }])
  fields := #[{ name := "MIN_ARRAY_SORT_GRAN", type := .int, accessFlags := 26, slot := 0, constantValue := 0 }, { name := "INSERTIONSORT_THRESHOLD", type := .int, accessFlags := 26, slot := 1, constantValue := 0 }, { name := "$assertionsDisabled", type := .boolean, accessFlags := 4120, slot := 2, constantValue := 0 }]
  methods := #[k3m0, k3m1]
  instanceTypes := #[]
  staticTypes := #[.int, .int, .boolean]
  resolved := Array.replicate 1029 none
  statics := none }

def pool4 : Array CpInfo := pool [(1, .class_ 2), (0, u "java/lang/Cloneable"), (0, .class_ 4), (0, u "java/lang/Object")] 2

/-- java/lang/Cloneable -/
def k4 : Class := { plain "java/lang/Cloneable" (some 0) with
  accessFlags := 1537
  interfaces := #[]
  cf := some (fileOf pool4 1 #[] #[] 1537 3 #[] #[])
  fields := #[]
  methods := #[]
  instanceTypes := #[]
  staticTypes := #[]
  resolved := Array.replicate 7 none
  statics := none }

def pool5 : Array CpInfo := pool [(1, .class_ 2), (0, u "java/lang/Math"), (1, .class_ 6), (1, u "java/lang/Object"), (0, u "<init>"), (0, u "()V"), (89, .class_ 100), (1, u "java/lang/Math$RandomNumberGeneratorHolder"), (71, u "negativeZeroFloatBits"), (0, u "J"), (2, u "negativeZeroDoubleBits"), (24, u "min"), (43, u "$assertionsDisabled"), (0, u "Z"), (88, u "(II)I"), (2, u "twoToTheDoubleScaleDown"), (0, u "D"), (4, u "twoToTheDoubleScaleUp"), (9, u "E"), (3, u "PI"), (2, u "TAU"), (2, u "DEGREES_TO_RADIANS"), (0, u "RADIANS_TO_DEGREES")] 94

def k5m0 : Method := { name := "<init>", desc := "()V", sig := { parameters := [], returnType := none }, accessFlags := 2, code := none }
def k5c1 : Code := { maxStack := 2, maxLocals := 2, code := jdk_29_method_69_code, exceptionTable := #[], attributes := #[] }
def k5m1 : Method := { name := "min", desc := "(II)I", sig := { parameters := [.int, .int], returnType := some .int }, accessFlags := 9, code := some k5c1 }
/-- java/lang/Math -/
def k5 : Class := { plain "java/lang/Math" (some 0) with
  accessFlags := 49
  interfaces := #[]
  cf := some (fileOf pool5 1 #[.nestMembers #[98]] #[{ accessFlags := 2, nameIndex := 7, descriptorIndex := 8, attributes := #[] }, { accessFlags := 9, nameIndex := 201, descriptorIndex := 335, attributes := #[] }] 49 4 #[] #[{ accessFlags := 25, nameIndex := 354, descriptorIndex := 339, attributes := #[] }, { accessFlags := 25, nameIndex := 358, descriptorIndex := 339, attributes := #[] }, { accessFlags := 25, nameIndex := 361, descriptorIndex := 339, attributes := #[] }, { accessFlags := 26, nameIndex := 364, descriptorIndex := 339, attributes := #[] }, { accessFlags := 26, nameIndex := 365, descriptorIndex := 339, attributes := #[] }, { accessFlags := 26, nameIndex := 172, descriptorIndex := 173, attributes := #[] }, { accessFlags := 26, nameIndex := 176, descriptorIndex := 173, attributes := #[] }, { accessFlags := 8, nameIndex := 344, descriptorIndex := 339, attributes := #[] }, { accessFlags := 8, nameIndex := 338, descriptorIndex := 339, attributes := #[] }, { accessFlags := 4120, nameIndex := 245, descriptorIndex := 246, attributes := #[] }])
  fields := #[{ name := "E", type := .double, accessFlags := 25, slot := 0, constantValue := 0 }, { name := "PI", type := .double, accessFlags := 25, slot := 1, constantValue := 0 }, { name := "TAU", type := .double, accessFlags := 25, slot := 2, constantValue := 0 }, { name := "DEGREES_TO_RADIANS", type := .double, accessFlags := 26, slot := 3, constantValue := 0 }, { name := "RADIANS_TO_DEGREES", type := .double, accessFlags := 26, slot := 4, constantValue := 0 }, { name := "negativeZeroFloatBits", type := .long, accessFlags := 26, slot := 5, constantValue := 0 }, { name := "negativeZeroDoubleBits", type := .long, accessFlags := 26, slot := 6, constantValue := 0 }, { name := "twoToTheDoubleScaleUp", type := .double, accessFlags := 8, slot := 7, constantValue := 0 }, { name := "twoToTheDoubleScaleDown", type := .double, accessFlags := 8, slot := 8, constantValue := 0 }, { name := "$assertionsDisabled", type := .boolean, accessFlags := 4120, slot := 9, constantValue := 0 }]
  methods := #[k5m0, k5m1]
  instanceTypes := #[]
  staticTypes := #[.double, .double, .double, .double, .double, .long, .long, .double, .double, .boolean]
  resolved := Array.replicate 460 none
  statics := none }

def pool6 : Array CpInfo := pool [(2, .class_ 4), (1, u "java/lang/Object"), (0, u "<init>"), (0, u "()V"), (1, .class_ 10), (1, u "java/lang/System"), (0, u "allowSecurityManager"), (0, u "I"), (16, u "cons"), (0, u "Ljava/io/Console;"), (77, .class_ 110), (1, u "java/lang/System$CallersHolder"), (43, u "initialErrStream"), (0, u "Ljava/io/PrintStream;"), (19, u "security"), (0, u "Ljava/lang/SecurityManager;"), (31, .class_ 209), (0, u "java/lang/System$1"), (7, u "props"), (0, u "Ljava/util/Properties;"), (2, u "lineSeparator"), (0, u "Ljava/lang/String;"), (96, .class_ 321), (1, u "java/lang/System$LoggerFinder"), (5, .class_ 328), (0, u "java/lang/System$Logger"), (67, u "err"), (2, u "out"), (91, u "notSupportedJnuEncoding"), (15, u "in"), (17, u "initialIn"), (0, u "Ljava/io/InputStream;"), (35, u "bootLayer"), (0, u "Ljava/lang/ModuleLayer;"), (99, .class_ 664), (0, u "java/lang/System$2"), (9, u "NEVER"), (2, u "MAYBE"), (49, u "arraycopy"), (0, u "(Ljava/lang/Object;ILjava/lang/Object;II)V"), (72, .class_ 802), (0, u "java/lang/System$Logger$Level")] 31

def k6m0 : Method := { name := "<init>", desc := "()V", sig := { parameters := [], returnType := none }, accessFlags := 2, code := none }
def k6m1 : Method := { name := "arraycopy", desc := "(Ljava/lang/Object;ILjava/lang/Object;II)V", sig := { parameters := [(.object "java/lang/Object"), .int, (.object "java/lang/Object"), .int, .int], returnType := none }, accessFlags := 265, code := none }
/-- java/lang/System -/
def k6 : Class := { plain "java/lang/System" (some 0) with
  accessFlags := 49
  interfaces := #[]
  cf := some (fileOf pool6 8 #[.nestMembers #[319, 327, 801, 108, 663, 208]] #[{ accessFlags := 2, nameIndex := 5, descriptorIndex := 6, attributes := #[] }, { accessFlags := 265, nameIndex := 727, descriptorIndex := 728, attributes := #[] }] 49 2 #[] #[{ accessFlags := 25, nameIndex := 507, descriptorIndex := 526, attributes := #[] }, { accessFlags := 25, nameIndex := 399, descriptorIndex := 155, attributes := #[] }, { accessFlags := 25, nameIndex := 396, descriptorIndex := 155, attributes := #[] }, { accessFlags := 10, nameIndex := 525, descriptorIndex := 526, attributes := #[] }, { accessFlags := 26, nameIndex := 674, descriptorIndex := 12, attributes := #[] }, { accessFlags := 26, nameIndex := 677, descriptorIndex := 12, attributes := #[] }, { accessFlags := 10, nameIndex := 11, descriptorIndex := 12, attributes := #[] }, { accessFlags := 74, nameIndex := 175, descriptorIndex := 176, attributes := #[] }, { accessFlags := 10, nameIndex := 491, descriptorIndex := 222, attributes := #[] }, { accessFlags := 74, nameIndex := 29, descriptorIndex := 30, attributes := #[] }, { accessFlags := 74, nameIndex := 154, descriptorIndex := 155, attributes := #[] }, { accessFlags := 10, nameIndex := 217, descriptorIndex := 218, attributes := #[] }, { accessFlags := 10, nameIndex := 221, descriptorIndex := 222, attributes := #[] }, { accessFlags := 8, nameIndex := 562, descriptorIndex := 563, attributes := #[] }])
  fields := #[{ name := "in", type := (.object "java/io/InputStream"), accessFlags := 25, slot := 0, constantValue := 0 }, { name := "out", type := (.object "java/io/PrintStream"), accessFlags := 25, slot := 1, constantValue := 0 }, { name := "err", type := (.object "java/io/PrintStream"), accessFlags := 25, slot := 2, constantValue := 0 }, { name := "initialIn", type := (.object "java/io/InputStream"), accessFlags := 10, slot := 3, constantValue := 0 }, { name := "NEVER", type := .int, accessFlags := 26, slot := 4, constantValue := 0 }, { name := "MAYBE", type := .int, accessFlags := 26, slot := 5, constantValue := 0 }, { name := "allowSecurityManager", type := .int, accessFlags := 10, slot := 6, constantValue := 0 }, { name := "security", type := (.object "java/lang/SecurityManager"), accessFlags := 74, slot := 7, constantValue := 0 }, { name := "notSupportedJnuEncoding", type := (.object "java/lang/String"), accessFlags := 10, slot := 8, constantValue := 0 }, { name := "cons", type := (.object "java/io/Console"), accessFlags := 74, slot := 9, constantValue := 0 }, { name := "initialErrStream", type := (.object "java/io/PrintStream"), accessFlags := 74, slot := 10, constantValue := 0 }, { name := "props", type := (.object "java/util/Properties"), accessFlags := 10, slot := 11, constantValue := 0 }, { name := "lineSeparator", type := (.object "java/lang/String"), accessFlags := 10, slot := 12, constantValue := 0 }, { name := "bootLayer", type := (.object "java/lang/ModuleLayer"), accessFlags := 8, slot := 13, constantValue := 0 }]
  methods := #[k6m0, k6m1]
  instanceTypes := #[]
  staticTypes := #[(.object "java/io/InputStream"), (.object "java/io/PrintStream"), (.object "java/io/PrintStream"), (.object "java/io/InputStream"), .int, .int, .int, (.object "java/lang/SecurityManager"), (.object "java/lang/String"), (.object "java/io/Console"), (.object "java/io/PrintStream"), (.object "java/util/Properties"), (.object "java/lang/String"), (.object "java/lang/ModuleLayer")]
  resolved := Array.replicate 834 none
  statics := none }

def pool7 : Array CpInfo := pool [(1, u "java/io/Serializable"), (0, .class_ 1), (0, u "java/lang/Object"), (0, .class_ 3)] 3

/-- java/io/Serializable -/
def k7 : Class := { plain "java/io/Serializable" (some 0) with
  accessFlags := 1537
  interfaces := #[]
  cf := some (fileOf pool7 2 #[] #[] 1537 4 #[] #[])
  fields := #[]
  methods := #[]
  instanceTypes := #[]
  staticTypes := #[]
  resolved := Array.replicate 8 none
  statics := none }

/-- the primitive byte -/
def k8 : Class := { plain "byte" none with kind := .primitive 'B', accessFlags := 0x411 }
/-- [B -/
def k9 : Class := { plain "[B" (some 0) with kind := .array 8 .byte, interfaces := #[4, 7], accessFlags := 1041 }

/-- the primitive int -/
def k10 : Class := { plain "int" none with kind := .primitive 'I', accessFlags := 0x411 }
/-- [I -/
def k11 : Class := { plain "[I" (some 0) with kind := .array 10 .int, interfaces := #[4, 7], accessFlags := 1041 }

/-- the primitive long -/
def k12 : Class := { plain "long" none with kind := .primitive 'J', accessFlags := 0x411 }
/-- [J -/
def k13 : Class := { plain "[J" (some 0) with kind := .array 12 .long, interfaces := #[4, 7], accessFlags := 1041 }

def heap : Heap := #[]
def classes : Array Class := #[k0, k1, k2, k3, k4, k5, k6, k7, k8, k9, k10, k11, k12, k13]
def interned : List (Array UInt16 × Addr) := []
def slotsUsed : Nat := 0
def theMethod : MethodId := ⟨1, 1⟩
def args0 : Array Value := #[.long 5, .long 300, .long 7, .long 5, .int 6, .int 8]
def aboutOver (below : List Frame) : State where
  vm := { classes := classes, interned := interned.toArray }
  heap := heap
  slotsUsed := slotsUsed
  threads := #[{ frames := .invoking theMethod args0 :: below }]
def below0 : List Frame := [.native { method := ⟨0, 0⟩, args := #[] }]
def about1 : State := aboutOver below0
def p0 : Program := .bare "" "" ""
def e0 : Env := launch0.env 0 0 0
theorem w_frames : about1.frames = Frame.invoking theMethod args0 :: below0 := rfl
set_option maxRecDepth 65536 in
theorem w_args : argsFit about1.vm theMethod args0 = true := by decide +kernel
set_option maxRecDepth 65536 in
theorem w_heap : heapFits about1 = true := by decide +kernel
set_option maxRecDepth 65536 in
theorem w_runnable : about1.curStatus? = some .runnable := by decide +kernel
set_option maxRecDepth 65536 in
theorem w_alone : about1.alone = true := by decide +kernel
set_option maxRecDepth 65536 in
theorem w_named : about1.methodNamed? x = some theMethod := by decide +kernel
set_option maxRecDepth 65536 in
theorem w_hears : about1.hears theMethod below0 = true := by decide +kernel
set_option maxRecDepth 65536 in
theorem w_ripe : about1.ripe theMethod args0 below0 = true := by decide +kernel
theorem w_running : about1.status = .running := rfl
set_option maxRecDepth 65536 in
theorem w_room : about1.hasRoom e0.platform room_1 = true :=
  launch0.hasRoom_least _ room_1 (by decide +kernel) (by decide +kernel) (by decide +kernel) (by decide +kernel) (by decide +kernel) (by decide +kernel)
theorem allAtoms_all (ts : List Jvm.Cond) (a : Array Jvm.Value) (st : Jvm.State) : (allAtoms ts).before a st = ts.all (fun c => c.before a st) := by
  induction ts with
  | nil => rfl
  | cons c t ih =>
    show (Jvm.Cond.and c (allAtoms t)).before a st = _
    rw [Jvm.Cond.before_and, ih, List.all_cons]
def words1 : List Jvm.Cond := Jvm.Cond.code x code maxLocals ret :: tables_1
/-- a 'code' word, met by the world's own term for the bytes: nothing is compared byte by byte -/
theorem code_word {y : MethodName} {bytes : ByteArray} {mx : Nat} {rt : Option FieldType} {a : Array Value} {s : State} {m : MethodId} {meth : Method} {c : Code} (h1 : s.methodNamed? y = some m) (h2 : s.vm.method? m = some meth) (h3 : meth.code = some c) (h4 : c.code = bytes)
    (h5 : (c.maxLocals == mx && c.exceptionTable.isEmpty && decide (c.maxStack ≤ mostOperands) && decide (meth.sig.returnType = rt) && !meth.locks && decide (parseMethodDescriptor y.desc = some meth.sig)) = true) : (Jvm.Cond.code y bytes mx rt).before a s = true := by
  simp only [Bool.and_eq_true, beq_iff_eq, Bool.not_eq_true', decide_eq_true_eq] at h5
  obtain ⟨⟨⟨⟨⟨g1, g2⟩, g3⟩, g4⟩, g5⟩, g6⟩ := h5
  simp [Cond.before, Cond.holds, Cond.value, h1, h2, h3, h4, g1, g2, g3, g4, g5, g6]
def isCode : Jvm.Cond → Bool
  | .code _ _ _ _ => true
  | _ => false
theorem all_split {L : List Jvm.Cond} {P : Jvm.Cond → Bool} (h1 : L.all (fun c => isCode c || P c) = true) (h2 : ∀ c ∈ L.filter isCode, P c = true) : L.all P = true := by
  refine List.all_eq_true.mpr fun c hc => ?_
  have h := List.all_eq_true.mp h1 c hc
  rcases Bool.eq_false_or_eq_true (isCode c) with hi | hi
  · exact h2 c (List.mem_filter.mpr ⟨hc, hi⟩)
  · simpa [hi] using h
set_option maxRecDepth 65536 in
theorem w_c0 : (Jvm.Cond.code x code maxLocals ret).before args0 about1 = true := code_word (m := ⟨1, 1⟩) (meth := k1m1) (c := k1c1) (by decide +kernel) rfl rfl rfl (by decide +kernel)
set_option maxRecDepth 65536 in
theorem w_c1 : (Jvm.Cond.code ({ cls := "com/example/ledgerwire/ledgerwire/store/EntriesRecordsPinLaw", name := "cs", desc := "([JII)V" } : Jvm.MethodName) method_3_code (5 : Nat) (Option.none : Option Jvm.ClassFile.FieldType)).before args0 about1 = true := code_word (m := ⟨1, 2⟩) (meth := k1m2) (c := k1c2) (by decide +kernel) rfl rfl rfl (by decide +kernel)
set_option maxRecDepth 65536 in
theorem w_c2 : (Jvm.Cond.code ({ cls := "com/example/ledgerwire/ledgerwire/store/Entries", name := "<init>", desc := "([J[II)V" } : Jvm.MethodName) prog_46_method_1_code (4 : Nat) (Option.none : Option Jvm.ClassFile.FieldType)).before args0 about1 = true := code_word (m := ⟨2, 0⟩) (meth := k2m0) (c := k2c0) (by decide +kernel) rfl rfl rfl (by decide +kernel)
set_option maxRecDepth 65536 in
theorem w_c3 : (Jvm.Cond.code ({ cls := "java/lang/Object", name := "<init>", desc := "()V" } : Jvm.MethodName) object_method_1_code (1 : Nat) (Option.none : Option Jvm.ClassFile.FieldType)).before args0 about1 = true := code_word (m := ⟨0, 0⟩) (meth := k0m0) (c := k0c0) (by decide +kernel) rfl rfl rfl (by decide +kernel)
set_option maxRecDepth 65536 in
theorem w_c4 : (Jvm.Cond.code ({ cls := "com/example/ledgerwire/ledgerwire/store/Entries", name := "records", desc := "()[J" } : Jvm.MethodName) prog_46_method_5_code (4 : Nat) (Option.some (Jvm.ClassFile.FieldType.array Jvm.ClassFile.FieldType.long))).before args0 about1 = true := code_word (m := ⟨2, 1⟩) (meth := k2m1) (c := k2c1) (by decide +kernel) rfl rfl rfl (by decide +kernel)
set_option maxRecDepth 65536 in
theorem w_c5 : (Jvm.Cond.code ({ cls := "java/util/Arrays", name := "copyOf", desc := "([JI)[J" } : Jvm.MethodName) jdk_65_method_124_code (3 : Nat) (Option.some (Jvm.ClassFile.FieldType.array Jvm.ClassFile.FieldType.long))).before args0 about1 = true := code_word (m := ⟨3, 1⟩) (meth := k3m1) (c := k3c1) (by decide +kernel) rfl rfl rfl (by decide +kernel)
set_option maxRecDepth 65536 in
theorem w_c6 : (Jvm.Cond.code ({ cls := "com/example/ledgerwire/ledgerwire/store/EntriesRecordsPinLaw", name := "inS", desc := "([JIJ)Z" } : Jvm.MethodName) method_4_code (4 : Nat) (Option.some Jvm.ClassFile.FieldType.boolean)).before args0 about1 = true := code_word (m := ⟨1, 3⟩) (meth := k1m3) (c := k1c3) (by decide +kernel) rfl rfl rfl (by decide +kernel)
set_option maxRecDepth 65536 in
theorem w_c7 : (Jvm.Cond.code ({ cls := "com/example/ledgerwire/ledgerwire/store/EntriesRecordsPinLaw", name := "inR", desc := "([JJ)Z" } : Jvm.MethodName) method_5_code (3 : Nat) (Option.some Jvm.ClassFile.FieldType.boolean)).before args0 about1 = true := code_word (m := ⟨1, 4⟩) (meth := k1m4) (c := k1c4) (by decide +kernel) rfl rfl rfl (by decide +kernel)
set_option maxRecDepth 65536 in
theorem w_c8 : (Jvm.Cond.code ({ cls := "java/lang/Math", name := "min", desc := "(II)I" } : Jvm.MethodName) jdk_29_method_69_code (2 : Nat) (Option.some Jvm.ClassFile.FieldType.int)).before args0 about1 = true := code_word (m := ⟨5, 1⟩) (meth := k5m1) (c := k5c1) (by decide +kernel) rfl rfl rfl (by decide +kernel)
def codes1 : List Jvm.Cond := [Jvm.Cond.code x code maxLocals ret, Jvm.Cond.code ({ cls := "com/example/ledgerwire/ledgerwire/store/EntriesRecordsPinLaw", name := "cs", desc := "([JII)V" } : Jvm.MethodName) method_3_code (5 : Nat) (Option.none : Option Jvm.ClassFile.FieldType), Jvm.Cond.code ({ cls := "com/example/ledgerwire/ledgerwire/store/Entries", name := "<init>", desc := "([J[II)V" } : Jvm.MethodName) prog_46_method_1_code (4 : Nat) (Option.none : Option Jvm.ClassFile.FieldType), Jvm.Cond.code ({ cls := "java/lang/Object", name := "<init>", desc := "()V" } : Jvm.MethodName) object_method_1_code (1 : Nat) (Option.none : Option Jvm.ClassFile.FieldType), Jvm.Cond.code ({ cls := "com/example/ledgerwire/ledgerwire/store/Entries", name := "records", desc := "()[J" } : Jvm.MethodName) prog_46_method_5_code (4 : Nat) (Option.some (Jvm.ClassFile.FieldType.array Jvm.ClassFile.FieldType.long)), Jvm.Cond.code ({ cls := "java/util/Arrays", name := "copyOf", desc := "([JI)[J" } : Jvm.MethodName) jdk_65_method_124_code (3 : Nat) (Option.some (Jvm.ClassFile.FieldType.array Jvm.ClassFile.FieldType.long)), Jvm.Cond.code ({ cls := "com/example/ledgerwire/ledgerwire/store/EntriesRecordsPinLaw", name := "inS", desc := "([JIJ)Z" } : Jvm.MethodName) method_4_code (4 : Nat) (Option.some Jvm.ClassFile.FieldType.boolean), Jvm.Cond.code ({ cls := "com/example/ledgerwire/ledgerwire/store/EntriesRecordsPinLaw", name := "inR", desc := "([JJ)Z" } : Jvm.MethodName) method_5_code (3 : Nat) (Option.some Jvm.ClassFile.FieldType.boolean), Jvm.Cond.code ({ cls := "java/lang/Math", name := "min", desc := "(II)I" } : Jvm.MethodName) jdk_29_method_69_code (2 : Nat) (Option.some Jvm.ClassFile.FieldType.int)]
set_option maxRecDepth 65536 in
theorem codes_eq : words1.filter isCode = codes1 := rfl
theorem w_codes : ∀ c ∈ words1.filter isCode, c.before args0 about1 = true := by
  rw [codes_eq]
  intro c hc
  simp only [codes1, List.mem_cons, List.not_mem_nil, or_false] at hc
  rcases hc with rfl | rfl | rfl | rfl | rfl | rfl | rfl | rfl | rfl
  · exact w_c0
  · exact w_c1
  · exact w_c2
  · exact w_c3
  · exact w_c4
  · exact w_c5
  · exact w_c6
  · exact w_c7
  · exact w_c8
set_option maxRecDepth 65536 in
theorem w_t1 : (words1.take 24).all (fun c => isCode c || c.before args0 about1) = true := by decide +kernel
set_option maxRecDepth 65536 in
theorem w_t2 : ((words1.drop 24).take 24).all (fun c => isCode c || c.before args0 about1) = true := by decide +kernel
set_option maxRecDepth 65536 in
theorem w_t3 : ((words1.drop 24).drop 24).all (fun c => isCode c || c.before args0 about1) = true := by decide +kernel
theorem w_tables : (allAtoms (Jvm.Cond.code x code maxLocals ret :: tables_1)).before args0 about1 = true := by
  rw [allAtoms_all]
  show words1.all (fun c => c.before args0 about1) = true
  refine all_split ?_ w_codes
  rw [← List.take_append_drop 24 words1, List.all_append, w_t1, ← List.take_append_drop 24 (words1.drop 24), List.all_append, w_t2, w_t3]
  rfl
set_option maxRecDepth 65536 in
theorem w_case : (Jvm.Cond.and given_1 narrow_1).before args0 about1 = true := by decide +kernel
theorem w_applies : (headSpec (Jvm.Cond.code x code maxLocals ret :: tables_1) room_1).applies x e0.platform about1 = true :=
  (Spec.applies_iff w_frames).mpr ⟨w_running, w_runnable, w_alone, w_named, w_hears, w_ripe, w_room, w_tables⟩
theorem atStart : AtStart classFile x code maxLocals ret World_1 tables_1 room_1 Calls_1 rest_1 Pre_1 launch0 p0 e0 about1 theMethod args0 below0 :=
  ⟨lists_1, trivial, launch0.admits_env _ _ _, launch0.least_env, fairChoices_fair.cas, fairChoices_fair.clock, w_frames, w_args, w_heap, w_applies, trivial, trivial, w_case⟩
end start1
theorem witness_1 : WitnessClaimed_1 := ⟨start1.p0, start1.e0, start1.about1, start1.theMethod, start1.args0, start1.below0, start1.atStart⟩
end Jvm.Pilot.@@N@@
