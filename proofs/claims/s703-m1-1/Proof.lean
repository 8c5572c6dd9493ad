import JvmDerived
import JvmDerived.Pilot.@@N@@Statement
import JvmDerived.Pilot.@@N@@Code
set_option linter.unusedVariables false
set_option linter.unusedSimpArgs false
namespace Jvm.OwnK
open Sem ClassFile Op Lib Jvm.Stand Jvm.Free Jvm.LawKit Jvm.RoadKit Bundle
/-- from the frame f at T the run ends, and P holds of its end -/
def Go (tb : Tables) (e : Env) (below : List Frame) (P : Outcome → State → Prop) (T : State) (f : JFrame) : Prop :=
  ∃ s₂ o, Steps tb e below (T.setTop f) s₂ ∧ s₂.status = .running ∧ Ended s₂ below o ∧ P o s₂
abbrev PQ (s : State) (Q : Option Value → Heap → List Loc → Prop) (C N : Nat) : Outcome → State → Prop := fun o U' => ∃ v L, o = .returned v ∧ Q v U'.heap L ∧ FrameEnd s o U' L C N
theorem Go.st {tb : Tables} {e : Env} {below : List Frame} {P : Outcome → State → Prop} {T T' : State} {f f' : JFrame} (h : ∀ t, Steps tb e below (T'.setTop f') t → Steps tb e below (T.setTop f) t) (k : Go tb e below P T' f') : Go tb e below P T f := by
  obtain ⟨s₂, o, h1, h2⟩ := k; exact ⟨s₂, o, h _ h1, h2⟩
theorem Go.st1 {tb : Tables} {e : Env} {below : List Frame} {P : Outcome → State → Prop} {T T' : State} {f f' : JFrame} (h : Steps tb e below (T.setTop f) (T'.setTop f')) (k : Go tb e below P T' f') : Go tb e below P T f :=
  Go.st (fun t q => h.trans q) k
theorem tI {x : Int32} {n : Int} (h : x.toInt = n) : x = Int32.ofInt n := by subst h; simp
section Steps
variable {p : Program} {l : Launch} {e : Env} {R : Room} {s : State} {m : MethodId} {args : Array Value} {below : List Frame} {meth : Method} {c : Code} {T : State} {locs : List Loc} {cells slots : Nat} {P : Outcome → State → Prop} {pc pc' : Nat} {Ls : Array Slot} {S : List Value} {Z : State} {a0 : Array Value} {h : Heap}
theorem iload (X : Stand p l e R s m args below meth c T locs cells slots) (hx : p.tables.exec = Jvm.exec) {j : Nat} {v : Int32} (hd : decode c.code pc = .ok (.iload j, 2)) (hp : pc' = pc + 2) (hl : Ls[j]? = some (.val (.int v)))
    (k : Go p.tables e below P T (mkF m pc' Ls (.int v :: S))) : Go p.tables e below P T (mkF m pc Ls (S)) := by
  subst hp; exact Go.st (fun t q => XS.iload X.here hx rfl hd  hl q) k
theorem iloadN (X : Stand p l e R s m args below meth c T locs cells slots) (hx : p.tables.exec = Jvm.exec) {j : Fin 4} {v : Int32} (hd : decode c.code pc = .ok (.iload_n j, 1)) (hp : pc' = pc + 1) (hl : Ls[j.val]? = some (.val (.int v)))
    (k : Go p.tables e below P T (mkF m pc' Ls (.int v :: S))) : Go p.tables e below P T (mkF m pc Ls (S)) := by
  subst hp; exact Go.st (fun t q => XS.iloadN X.here hx rfl hd  hl q) k
theorem istore (X : Stand p l e R s m args below meth c T locs cells slots) (hx : p.tables.exec = Jvm.exec) {j : Nat} {v : Int32} {Ls' : Array Slot} (hd : decode c.code pc = .ok (.istore j, 2)) (hp : pc' = pc + 2) (hl : storeLocals Ls j (.int v) = some Ls')
    (k : Go p.tables e below P T (mkF m pc' Ls' (S))) : Go p.tables e below P T (mkF m pc Ls (.int v :: S)) := by
  subst hp; exact Go.st (fun t q => XS.istore X.here hx rfl hd rfl hl q) k
theorem istoreN (X : Stand p l e R s m args below meth c T locs cells slots) (hx : p.tables.exec = Jvm.exec) {j : Fin 4} {v : Int32} {Ls' : Array Slot} (hd : decode c.code pc = .ok (.istore_n j, 1)) (hp : pc' = pc + 1) (hl : storeLocals Ls j.val (.int v) = some Ls')
    (k : Go p.tables e below P T (mkF m pc' Ls' (S))) : Go p.tables e below P T (mkF m pc Ls (.int v :: S)) := by
  subst hp; exact Go.st (fun t q => XS.istoreN X.here hx rfl hd rfl hl q) k
theorem istoreNG (X : Stand p l e R s m args below meth c T locs cells slots) (hx : p.tables.exec = Jvm.exec) {j : Fin 4} {v : Int32} {Ls' : Int32 → Array Slot} (hd : decode c.code pc = .ok (.istore_n j, 1)) (hp : pc' = pc + 1) (hl : ∀ u, storeLocals Ls j.val (.int u) = some (Ls' u))
    (k : ∀ u, u = v → Go p.tables e below P T (mkF m pc' (Ls' u) (S))) : Go p.tables e below P T (mkF m pc Ls (.int v :: S)) := istoreN X hx hd hp (hl v) (k v rfl)
theorem iconst (X : Stand p l e R s m args below meth c T locs cells slots) (hx : p.tables.exec = Jvm.exec) {i : Int} {v : Int32} (hd : decode c.code pc = .ok (.iconst i, 1)) (hp : pc' = pc + 1) (hv : Int32.ofInt i = v)
    (k : Go p.tables e below P T (mkF m pc' Ls (.int v :: S))) : Go p.tables e below P T (mkF m pc Ls (S)) := by
  subst hp hv; exact Go.st (fun t q => XS.iconst X.here hx rfl hd q) k
theorem bipush (X : Stand p l e R s m args below meth c T locs cells slots) (hx : p.tables.exec = Jvm.exec) {i : Int} {v : Int32} (hd : decode c.code pc = .ok (.bipush i, 2)) (hp : pc' = pc + 2) (hv : (Int8.ofInt i).toInt32 = v)
    (k : Go p.tables e below P T (mkF m pc' Ls (.int v :: S))) : Go p.tables e below P T (mkF m pc Ls (S)) := by
  subst hp hv; exact Go.st (fun t q => XS.bipush X.here hx rfl hd q) k
theorem isub (X : Stand p l e R s m args below meth c T locs cells slots) (hx : p.tables.exec = Jvm.exec) {x y : Int32} (hd : decode c.code pc = .ok (.isub, 1)) (hp : pc' = pc + 1)
    (k : Go p.tables e below P T (mkF m pc' Ls (.int (x - y) :: S))) : Go p.tables e below P T (mkF m pc Ls (.int y :: .int x :: S)) := by
  subst hp; exact Go.st (fun t q => XS.isub X.here hx rfl hd rfl  q) k
theorem ior (X : Stand p l e R s m args below meth c T locs cells slots) (hx : p.tables.exec = Jvm.exec) {x y : Int32} (hd : decode c.code pc = .ok (.ior, 1)) (hp : pc' = pc + 1)
    (k : Go p.tables e below P T (mkF m pc' Ls (.int (x ||| y) :: S))) : Go p.tables e below P T (mkF m pc Ls (.int y :: .int x :: S)) := by
  subst hp; exact Go.st (fun t q => XT.ior X.here hx rfl hd rfl  q) k
theorem i2c (X : Stand p l e R s m args below meth c T locs cells slots) (hx : p.tables.exec = Jvm.exec) {x : Int32} (hd : decode c.code pc = .ok (.i2c, 1)) (hp : pc' = pc + 1)
    (k : Go p.tables e below P T (mkF m pc' Ls (.int (x.toUInt32.toUInt16.toUInt32.toInt32) :: S))) : Go p.tables e below P T (mkF m pc Ls (.int x :: S)) := by
  subst hp; exact Go.st (fun t q => XT.i2c X.here hx rfl hd rfl  q) k
theorem goto_ (X : Stand p l e R s m args below meth c T locs cells slots) (hx : p.tables.exec = Jvm.exec) {o : Int} (hd : decode c.code pc = .ok (.goto o, 3)) (ho : 0 ≤ (pc : Int) + o) (hp : ((pc : Int) + o).toNat = pc')
    (k : Go p.tables e below P T (mkF m pc' Ls (S))) : Go p.tables e below P T (mkF m pc Ls (S)) :=
  Go.st (fun t q => XS.goto X.here hx rfl rfl hd ho hp q) k
theorem h_lt (x y : Int32) : if_icmp.holds .lt x y = decide (x.toInt < y.toInt) := by simp [if_icmp.holds, Int32.lt_iff_toInt_lt]
theorem h_ge (x y : Int32) : if_icmp.holds .ge x y = decide (y.toInt ≤ x.toInt) := by simp [if_icmp.holds, Int32.le_iff_toInt_le]
theorem h_gt (x y : Int32) : if_icmp.holds .gt x y = decide (y.toInt < x.toInt) := by simp [if_icmp.holds, Int32.lt_iff_toInt_lt]
theorem h_le (x y : Int32) : if_icmp.holds .le x y = decide (x.toInt ≤ y.toInt) := by simp [if_icmp.holds, Int32.le_iff_toInt_le]
theorem h_eq (x y : Int32) : if_icmp.holds .eq x y = decide (x.toInt = y.toInt) := by rw [Bool.eq_iff_iff]; simp [if_icmp.holds, Int32.toInt_inj]
theorem h_ne (x y : Int32) : if_icmp.holds .ne x y = decide (¬ x.toInt = y.toInt) := by rw [Bool.eq_iff_iff]; simp [if_icmp.holds, Int32.toInt_inj]
theorem z_any (cd : ClassFile.Cond) (x : Int32) : ifCond.holds cd x = if_icmp.holds cd x 0 := by cases cd <;> simp [ifCond.holds, if_icmp.holds]
theorem z0 : (0 : Int32).toInt = 0 := by decide
theorem icmp_lt (X : Stand p l e R s m args below meth c T locs cells slots) (hx : p.tables.exec = Jvm.exec) {o : Int} {x y : Int32} {pcT : Nat} (hd : decode c.code pc = .ok (.if_icmp .lt o, 3)) (ho : 0 ≤ (pc : Int) + o) (hT : ((pc : Int) + o).toNat = pcT) (hp : pc' = pc + 3)
    (kt : x.toInt < y.toInt → Go p.tables e below P T (mkF m pcT Ls (S))) (kf : y.toInt ≤ x.toInt → Go p.tables e below P T (mkF m pc' Ls (S))) : Go p.tables e below P T (mkF m pc Ls (.int y :: .int x :: S)) := by
  subst hp
  by_cases q : x.toInt < y.toInt
  · exact Go.st (fun t r => XS.icmpYes X.here hx rfl rfl hd rfl (by rw [h_lt]; exact decide_eq_true q) ho hT r) (kt q)
  · exact Go.st (fun t r => XS.icmpNo X.here hx rfl hd rfl (by rw [h_lt]; exact decide_eq_false q) r) (kf (by omega))
theorem if_lt (X : Stand p l e R s m args below meth c T locs cells slots) (hx : p.tables.exec = Jvm.exec) {o : Int} {x : Int32} {pcT : Nat} (hd : decode c.code pc = .ok (.ifCond .lt o, 3)) (ho : 0 ≤ (pc : Int) + o) (hT : ((pc : Int) + o).toNat = pcT) (hp : pc' = pc + 3)
    (kt : x.toInt < 0 → Go p.tables e below P T (mkF m pcT Ls (S))) (kf : 0 ≤ x.toInt → Go p.tables e below P T (mkF m pc' Ls (S))) : Go p.tables e below P T (mkF m pc Ls (.int x :: S)) := by
  subst hp
  by_cases q : x.toInt < 0
  · exact Go.st (fun t r => XS.ifYes X.here hx rfl rfl hd rfl (by rw [z_any, h_lt, z0]; exact decide_eq_true q) ho hT r) (kt q)
  · exact Go.st (fun t r => XS.ifNo X.here hx rfl hd rfl (by rw [z_any, h_lt, z0]; exact decide_eq_false q) r) (kf (by omega))
theorem icmp_ge (X : Stand p l e R s m args below meth c T locs cells slots) (hx : p.tables.exec = Jvm.exec) {o : Int} {x y : Int32} {pcT : Nat} (hd : decode c.code pc = .ok (.if_icmp .ge o, 3)) (ho : 0 ≤ (pc : Int) + o) (hT : ((pc : Int) + o).toNat = pcT) (hp : pc' = pc + 3)
    (kt : y.toInt ≤ x.toInt → Go p.tables e below P T (mkF m pcT Ls (S))) (kf : x.toInt < y.toInt → Go p.tables e below P T (mkF m pc' Ls (S))) : Go p.tables e below P T (mkF m pc Ls (.int y :: .int x :: S)) := by
  subst hp
  by_cases q : y.toInt ≤ x.toInt
  · exact Go.st (fun t r => XS.icmpYes X.here hx rfl rfl hd rfl (by rw [h_ge]; exact decide_eq_true q) ho hT r) (kt q)
  · exact Go.st (fun t r => XS.icmpNo X.here hx rfl hd rfl (by rw [h_ge]; exact decide_eq_false q) r) (kf (by omega))
theorem icmp_gt (X : Stand p l e R s m args below meth c T locs cells slots) (hx : p.tables.exec = Jvm.exec) {o : Int} {x y : Int32} {pcT : Nat} (hd : decode c.code pc = .ok (.if_icmp .gt o, 3)) (ho : 0 ≤ (pc : Int) + o) (hT : ((pc : Int) + o).toNat = pcT) (hp : pc' = pc + 3)
    (kt : y.toInt < x.toInt → Go p.tables e below P T (mkF m pcT Ls (S))) (kf : x.toInt ≤ y.toInt → Go p.tables e below P T (mkF m pc' Ls (S))) : Go p.tables e below P T (mkF m pc Ls (.int y :: .int x :: S)) := by
  subst hp
  by_cases q : y.toInt < x.toInt
  · exact Go.st (fun t r => XS.icmpYes X.here hx rfl rfl hd rfl (by rw [h_gt]; exact decide_eq_true q) ho hT r) (kt q)
  · exact Go.st (fun t r => XS.icmpNo X.here hx rfl hd rfl (by rw [h_gt]; exact decide_eq_false q) r) (kf (by omega))
theorem icmp_le (X : Stand p l e R s m args below meth c T locs cells slots) (hx : p.tables.exec = Jvm.exec) {o : Int} {x y : Int32} {pcT : Nat} (hd : decode c.code pc = .ok (.if_icmp .le o, 3)) (ho : 0 ≤ (pc : Int) + o) (hT : ((pc : Int) + o).toNat = pcT) (hp : pc' = pc + 3)
    (kt : x.toInt ≤ y.toInt → Go p.tables e below P T (mkF m pcT Ls (S))) (kf : y.toInt < x.toInt → Go p.tables e below P T (mkF m pc' Ls (S))) : Go p.tables e below P T (mkF m pc Ls (.int y :: .int x :: S)) := by
  subst hp
  by_cases q : x.toInt ≤ y.toInt
  · exact Go.st (fun t r => XS.icmpYes X.here hx rfl rfl hd rfl (by rw [h_le]; exact decide_eq_true q) ho hT r) (kt q)
  · exact Go.st (fun t r => XS.icmpNo X.here hx rfl hd rfl (by rw [h_le]; exact decide_eq_false q) r) (kf (by omega))
theorem icmp_eq (X : Stand p l e R s m args below meth c T locs cells slots) (hx : p.tables.exec = Jvm.exec) {o : Int} {x y : Int32} {pcT : Nat} (hd : decode c.code pc = .ok (.if_icmp .eq o, 3)) (ho : 0 ≤ (pc : Int) + o) (hT : ((pc : Int) + o).toNat = pcT) (hp : pc' = pc + 3)
    (kt : x.toInt = y.toInt → Go p.tables e below P T (mkF m pcT Ls (S))) (kf : ¬ x.toInt = y.toInt → Go p.tables e below P T (mkF m pc' Ls (S))) : Go p.tables e below P T (mkF m pc Ls (.int y :: .int x :: S)) := by
  subst hp
  by_cases q : x.toInt = y.toInt
  · exact Go.st (fun t r => XS.icmpYes X.here hx rfl rfl hd rfl (by rw [h_eq]; exact decide_eq_true q) ho hT r) (kt q)
  · exact Go.st (fun t r => XS.icmpNo X.here hx rfl hd rfl (by rw [h_eq]; exact decide_eq_false q) r) (kf (by omega))
theorem if_eq (X : Stand p l e R s m args below meth c T locs cells slots) (hx : p.tables.exec = Jvm.exec) {o : Int} {x : Int32} {pcT : Nat} (hd : decode c.code pc = .ok (.ifCond .eq o, 3)) (ho : 0 ≤ (pc : Int) + o) (hT : ((pc : Int) + o).toNat = pcT) (hp : pc' = pc + 3)
    (kt : x.toInt = 0 → Go p.tables e below P T (mkF m pcT Ls (S))) (kf : ¬ x.toInt = 0 → Go p.tables e below P T (mkF m pc' Ls (S))) : Go p.tables e below P T (mkF m pc Ls (.int x :: S)) := by
  subst hp
  by_cases q : x.toInt = 0
  · exact Go.st (fun t r => XS.ifYes X.here hx rfl rfl hd rfl (by rw [z_any, h_eq, z0]; exact decide_eq_true q) ho hT r) (kt q)
  · exact Go.st (fun t r => XS.ifNo X.here hx rfl hd rfl (by rw [z_any, h_eq, z0]; exact decide_eq_false q) r) (kf (by omega))
theorem icmp_ne (X : Stand p l e R s m args below meth c T locs cells slots) (hx : p.tables.exec = Jvm.exec) {o : Int} {x y : Int32} {pcT : Nat} (hd : decode c.code pc = .ok (.if_icmp .ne o, 3)) (ho : 0 ≤ (pc : Int) + o) (hT : ((pc : Int) + o).toNat = pcT) (hp : pc' = pc + 3)
    (kt : ¬ x.toInt = y.toInt → Go p.tables e below P T (mkF m pcT Ls (S))) (kf : x.toInt = y.toInt → Go p.tables e below P T (mkF m pc' Ls (S))) : Go p.tables e below P T (mkF m pc Ls (.int y :: .int x :: S)) := by
  subst hp
  by_cases q : ¬ x.toInt = y.toInt
  · exact Go.st (fun t r => XS.icmpYes X.here hx rfl rfl hd rfl (by rw [h_ne]; exact decide_eq_true q) ho hT r) (kt q)
  · exact Go.st (fun t r => XS.icmpNo X.here hx rfl hd rfl (by rw [h_ne]; exact decide_eq_false q) r) (kf (by omega))
theorem if_ne (X : Stand p l e R s m args below meth c T locs cells slots) (hx : p.tables.exec = Jvm.exec) {o : Int} {x : Int32} {pcT : Nat} (hd : decode c.code pc = .ok (.ifCond .ne o, 3)) (ho : 0 ≤ (pc : Int) + o) (hT : ((pc : Int) + o).toNat = pcT) (hp : pc' = pc + 3)
    (kt : ¬ x.toInt = 0 → Go p.tables e below P T (mkF m pcT Ls (S))) (kf : x.toInt = 0 → Go p.tables e below P T (mkF m pc' Ls (S))) : Go p.tables e below P T (mkF m pc Ls (.int x :: S)) := by
  subst hp
  by_cases q : ¬ x.toInt = 0
  · exact Go.st (fun t r => XS.ifYes X.here hx rfl rfl hd rfl (by rw [z_any, h_ne, z0]; exact decide_eq_true q) ho hT r) (kt q)
  · exact Go.st (fun t r => XS.ifNo X.here hx rfl hd rfl (by rw [z_any, h_ne, z0]; exact decide_eq_false q) r) (kf (by omega))
theorem callS_ (X : Stand p l e R s m args below meth c T locs cells slots) (hx : p.tables.exec = Jvm.exec) (hZ : Z.Warmed39 s.vm) {own : String} (hown : s.vm.findClass own = some m.cls) {y : MethodName} {i : Nat} {bytes : ByteArray} {maxL : Nat} {ret : Option FieldType} {rm : Room} {Q : Option Value → Heap → List Loc → Prop} {argsL S0 : List Value} (w1 : (Cond.methodLink own i y).before a0 Z = true) (w2 : (Cond.static y).before a0 Z = true) (w3 : (Cond.initialized y.cls).before a0 Z = true) (w4 : (Cond.code y bytes maxL ret).before a0 Z = true) (hy : y.cls ≠ "java/lang/invoke/MethodHandle" ∧ y.cls ≠ "java/lang/invoke/VarHandle") (hM : MetFree l y (head1 [Cond.code y bytes maxL ret] rm) (fun ar U => ar = argsL.toArray ∧ Z.Warmed39 U.vm ∧ U.heap = h) (fun _ _ _ _ _ => True) (fun _ U o U' => ∃ v L, o = .returned v ∧ Q v U'.heap L ∧ FrameEnd U o U' L rm.cells rm.slots)) (hf : rm.frames + 1 ≤ R.frames) {W : Nat} (hl : W + (maxL + 11) + rm.locals ≤ R.locals) (eT : T.heap = h) (hsize : Ls.size = c.maxLocals) {ps : List FieldType} {rt : Option FieldType} (hdesc : parseMethodDescriptor y.desc = some ⟨ps, rt⟩) (hlen : argsL.length = ps.length) (hS : S0 = argsL.reverse ++ S) (hW : (S.map fun v => v.category).sum ≤ W) (hd : decode c.code pc = .ok (.invokestatic i, 3)) (hp : pc' = pc + 3) (hc : cells + rm.cells ≤ R.cells) (hs : slots + rm.slots ≤ R.slots)
    (k : ∀ T' v L, Stand p l e R s m args below meth c T' (locs ++ L) (cells + rm.cells) (slots + rm.slots) → Q v T'.heap L → Go p.tables e below P T' (mkF m pc' Ls (v.toList ++ S))) : Go p.tables e below P T (mkF m pc Ls (S0)) := by
  subst hp hS
  obtain ⟨v, vm₁, ⟨T', L', k', n'⟩, -, X', ⟨L, hQ, l', y', z'⟩, st⟩ := Jvm.LawKit.callS X hx hown (mvT hZ w1) (mvT hZ w2) (mvT hZ w3) (mvT hZ w4) hy (backOf (W := W) hM hZ w4 w3 hf hl) (g := mkF m pc Ls (argsL.reverse ++ S)) rfl hsize (argsL := argsL) (rest := S) (lenOf hdesc hlen) rfl (by show 2 * 0 + _ ≤ _; simpa using hW) hd (fun _ _ => ⟨rfl, eT, hc, hs⟩)
  dsimp only [Pt.U, Pt.locs, Pt.cells, Pt.slots] at X' l' y' z' st hQ
  subst l' y' z'
  exact Go.st st (k T' v L X' hQ)
theorem met {y : MethodName} {bytes : ByteArray} {maxL : Nat} {ret : Option FieldType} {rm : Room} {as' : Array Value} {Q : Option Value → Heap → List Loc → Prop} {ws : List Jvm.Cond} {C N : Nat} (hpl : plainFor y = true) (ef : ∀ m, entryFrame m as' maxL = mkF m 0 Ls [])
    (body : ∀ (p : Program) (e : Env) (s : State) (m : MethodId) (below : List Frame) (meth : Method) (c : Code) (T : State), Stand p l e rm s m as' below meth c T [] 0 0 → p.tables.exec = Jvm.exec → Z.Warmed39 s.vm → c.code = bytes → c.maxLocals = maxL → s.vm.findClass y.cls = some m.cls → meth.name = y.name → meth.sig.returnType = ret → meth.locks = false → T.heap = h →
      Go p.tables e below (PQ s Q C N) T (mkF m 0 Ls [])) :
    MetFree l y (head1 (Cond.code y bytes maxL ret :: ws) rm) (fun a U => a = as' ∧ Z.Warmed39 U.vm ∧ U.heap = h) (fun _ _ _ _ _ => True) (fun _ U o U' => ∃ v L, o = .returned v ∧ Q v U'.heap L ∧ FrameEnd U o U' L C N) := by
  refine MetFree.of_bodySF hpl hisR ?_
  intro p e s m args below meth c s₁ Bd hml0 hP hK
  obtain ⟨rfl, hZ, hh⟩ := hP
  have e0 : s₁.heap = h := by rw [← hh, Bd.state]; rfl
  obtain ⟨s₂, o, h1, h2⟩ := body p e s m below meth c s₁ (Stand.of_body Bd) Bd.exec hZ Bd.bytes hml0 (findClass_of_methodNamed Bd.named) (name_of_methodNamed Bd.named Bd.method).1 Bd.returns Bd.notSynchronized e0
  exact ⟨s₂, o, castTop (ef m) h1, h2⟩
theorem retN_ (X : Stand p l e R s m args below meth c T locs cells slots) (hx : p.tables.exec = Jvm.exec) {Q : Option Value → Heap → List Loc → Prop} {C N : Nat} {z : Int32} {t : FieldType} (hret : meth.sig.returnType = some t) (ht : t = .boolean ∨ t = .byte ∨ t = .char ∨ t = .short) (hlk : meth.locks = false) (hd : decode c.code pc = .ok (.ireturn, 1)) (hC : cells ≤ C) (hN : slots ≤ N) (q : Q (some (.int (nar t z))) T.heap locs) : Go p.tables e below (PQ s Q C N) T (mkF m pc Ls (.int z :: S)) := by
  obtain ⟨fs, hr, hrun, hended, hW, hsame⟩ := X.leave (v := some (.int (nar t z))) (fun h => by rw [hret] at h; cases h) hlk
  exact ⟨_, _, retN X hx hret ht hd hr, hrun, hended, _, _, rfl, q, ⟨_, rfl⟩, hW, hsame.mono hC hN⟩
end Steps
end Jvm.OwnK
namespace Jvm.Pilot.@@N@@
open Jvm Jvm.ClassFile Sem Op Lib Jvm.Free Jvm.Stand Jvm.LawKit Jvm.RoadKit Bundle Jvm.Pilot.@@N@@.Jvm.D
theorem own_ef_1 (p1 : Int32) (p2 : Int32)  (m : MethodId) : entryFrame m #[(.int p1), (.int p2)] 4 = mkF m 0 #[.val (.int p1), .val (.int p2), .unset, .unset] [] := by first | (simp [entryFrame, mkF, argsToLocals, Value.category]; done) | rfl
theorem own_d1_29 : decode prog_26_method_5_code 29 = .ok (.istore_n 2, 1) := by decide +kernel
theorem own_d1_65 : decode prog_26_method_5_code 65 = .ok (.istore_n 3, 1) := by decide +kernel
theorem own_d1_66 : decode prog_26_method_5_code 66 = .ok (.iload_n 2, 1) := by decide +kernel
theorem own_d1_67 : decode prog_26_method_5_code 67 = .ok (.ifCond .ne 11, 3) := by decide +kernel
theorem own_d1_78 : decode prog_26_method_5_code 78 = .ok (.iconst 1, 1) := by decide +kernel
theorem own_d1_79 : decode prog_26_method_5_code 79 = .ok (.goto 4, 3) := by decide +kernel
theorem own_d1_83 : decode prog_26_method_5_code 83 = .ok (.ireturn, 1) := by decide +kernel
theorem own_d1_30 : decode prog_26_method_5_code 30 = .ok (.iload_n 0, 1) := by decide +kernel
theorem own_d1_31 : decode prog_26_method_5_code 31 = .ok (.bipush 48, 2) := by decide +kernel
theorem own_d1_33 : decode prog_26_method_5_code 33 = .ok (.if_icmp .lt 9, 3) := by decide +kernel
theorem own_d1_42 : decode prog_26_method_5_code 42 = .ok (.iload_n 0, 1) := by decide +kernel
theorem own_d1_43 : decode prog_26_method_5_code 43 = .ok (.bipush 43, 2) := by decide +kernel
theorem own_d1_45 : decode prog_26_method_5_code 45 = .ok (.if_icmp .eq 15, 3) := by decide +kernel
theorem own_d1_60 : decode prog_26_method_5_code 60 = .ok (.iconst 1, 1) := by decide +kernel
theorem own_d1_61 : decode prog_26_method_5_code 61 = .ok (.goto 4, 3) := by decide +kernel
theorem own_d1_48 : decode prog_26_method_5_code 48 = .ok (.iload_n 0, 1) := by decide +kernel
theorem own_d1_49 : decode prog_26_method_5_code 49 = .ok (.bipush 45, 2) := by decide +kernel
theorem own_d1_51 : decode prog_26_method_5_code 51 = .ok (.if_icmp .eq 9, 3) := by decide +kernel
theorem own_d1_54 : decode prog_26_method_5_code 54 = .ok (.iload_n 0, 1) := by decide +kernel
theorem own_d1_55 : decode prog_26_method_5_code 55 = .ok (.bipush 46, 2) := by decide +kernel
theorem own_d1_57 : decode prog_26_method_5_code 57 = .ok (.if_icmp .ne 7, 3) := by decide +kernel
theorem own_d1_64 : decode prog_26_method_5_code 64 = .ok (.iconst 0, 1) := by decide +kernel
theorem own_d1_36 : decode prog_26_method_5_code 36 = .ok (.iload_n 0, 1) := by decide +kernel
theorem own_d1_37 : decode prog_26_method_5_code 37 = .ok (.bipush 57, 2) := by decide +kernel
theorem own_d1_39 : decode prog_26_method_5_code 39 = .ok (.if_icmp .le 21, 3) := by decide +kernel
theorem own_d1_70 : decode prog_26_method_5_code 70 = .ok (.iload_n 1, 1) := by decide +kernel
theorem own_d1_71 : decode prog_26_method_5_code 71 = .ok (.ifCond .ne 11, 3) := by decide +kernel
theorem own_d1_82 : decode prog_26_method_5_code 82 = .ok (.iconst 0, 1) := by decide +kernel
theorem own_d1_74 : decode prog_26_method_5_code 74 = .ok (.iload_n 3, 1) := by decide +kernel
theorem own_d1_75 : decode prog_26_method_5_code 75 = .ok (.ifCond .eq 7, 3) := by decide +kernel
theorem own_d1_0 : decode prog_26_method_5_code 0 = .ok (.iload_n 0, 1) := by decide +kernel
theorem own_d1_1 : decode prog_26_method_5_code 1 = .ok (.bipush 97, 2) := by decide +kernel
theorem own_d1_3 : decode prog_26_method_5_code 3 = .ok (.if_icmp .lt 9, 3) := by decide +kernel
theorem own_d1_12 : decode prog_26_method_5_code 12 = .ok (.iload_n 0, 1) := by decide +kernel
theorem own_d1_13 : decode prog_26_method_5_code 13 = .ok (.bipush 65, 2) := by decide +kernel
theorem own_d1_15 : decode prog_26_method_5_code 15 = .ok (.if_icmp .lt 13, 3) := by decide +kernel
theorem own_d1_28 : decode prog_26_method_5_code 28 = .ok (.iconst 0, 1) := by decide +kernel
theorem own_d1_18 : decode prog_26_method_5_code 18 = .ok (.iload_n 0, 1) := by decide +kernel
theorem own_d1_19 : decode prog_26_method_5_code 19 = .ok (.bipush 90, 2) := by decide +kernel
theorem own_d1_21 : decode prog_26_method_5_code 21 = .ok (.if_icmp .gt 7, 3) := by decide +kernel
theorem own_d1_24 : decode prog_26_method_5_code 24 = .ok (.iconst 1, 1) := by decide +kernel
theorem own_d1_25 : decode prog_26_method_5_code 25 = .ok (.goto 4, 3) := by decide +kernel
theorem own_d1_6 : decode prog_26_method_5_code 6 = .ok (.iload_n 0, 1) := by decide +kernel
theorem own_d1_7 : decode prog_26_method_5_code 7 = .ok (.bipush 122, 2) := by decide +kernel
theorem own_d1_9 : decode prog_26_method_5_code 9 = .ok (.if_icmp .le 15, 3) := by decide +kernel
theorem own_pl_1 : plainFor (⟨"com/example/traceway/traceway/core/UrlParts", "isSchemeCharacter", "(CZ)Z"⟩ : MethodName) = true := plainFor_of_name (by first | (simp [plainName, overriddenIn]; done) | decide +kernel)
theorem own_ef_0 (p0 : Int32)  (m : MethodId) : entryFrame m #[(.int p0)] maxLocals = mkF m 0 #[.val (.int p0), .unset, .unset, .unset, .unset, .unset, .unset, .unset, .unset, .unset, .unset] [] := by first | (simp [entryFrame, mkF, argsToLocals, Value.category, maxLocals]; done) | rfl
theorem own_pd_0 : parseMethodDescriptor "(CZ)Z" = some ⟨[.char, .boolean], some .boolean⟩ := by decide +kernel
theorem own_pl_0 : plainFor x = true := plainFor_of_name (by first | (simp [plainName, overriddenIn]; done) | decide +kernel)
def own_sch (n f : Int) : Int32 := if ((97 ≤ n ∧ n ≤ 122 ∨ 65 ≤ n ∧ n ≤ 90) ∨ f = 0 ∧ (48 ≤ n ∧ n ≤ 57 ∨ n = 43 ∨ n = 45 ∨ n = 46)) then 1 else 0
theorem own_sch1 {n f : Int} (h : ((97 ≤ n ∧ n ≤ 122 ∨ 65 ≤ n ∧ n ≤ 90) ∨ f = 0 ∧ (48 ≤ n ∧ n ≤ 57 ∨ n = 43 ∨ n = 45 ∨ n = 46))) : own_sch n f = 1 := if_pos h
theorem own_sch0 {n f : Int} (h : ¬ ((97 ≤ n ∧ n ≤ 122 ∨ 65 ≤ n ∧ n ≤ 90) ∨ f = 0 ∧ (48 ≤ n ∧ n ≤ 57 ∨ n = 43 ∨ n = 45 ∨ n = 46))) : own_sch n f = 0 := if_neg h
theorem own_nar1 : nar .boolean (1 : Int32) = 1 := by decide
theorem own_nar0 : nar .boolean (0 : Int32) = 0 := by decide
theorem own_or64 : ∀ b : Nat, b < 64 → b ||| 32 = if b / 32 % 2 = 1 then b else b + 32 := by decide
theorem own_or32 (n : Nat) : n ||| 32 = if n / 32 % 2 = 1 then n else n + 32 := by
  have h1 : (n ||| 32) % 2 ^ 6 = (n % 2 ^ 6) ||| (32 % 2 ^ 6) := Nat.or_mod_two_pow
  have h2 : (n ||| 32) / 2 ^ 6 = (n / 2 ^ 6) ||| (32 / 2 ^ 6) := Nat.or_div_two_pow
  have h3 := own_or64 (n % 64) (by omega)
  simp only [show (2 : Nat) ^ 6 = 64 from rfl, show 32 % 64 = 32 from rfl, show 32 / 64 = 0 from rfl, Nat.or_zero] at h1 h2
  rw [h3] at h1
  split at h1 <;> split <;> omega
theorem own_pos {v : Int32} (h0 : 0 ≤ v.toInt) : v.toInt = ((v.toBitVec.toNat : Nat) : Int) := by
  have h : v.toInt = v.toBitVec.toInt := rfl
  rw [h] at h0 ⊢
  rw [BitVec.toInt_eq_toNat_cond] at *
  have := v.toBitVec.isLt
  split at h0 <;> omega
theorem own_small {v : Int32} (h : v.toBitVec.toNat < 2 ^ 31) : v.toInt = ((v.toBitVec.toNat : Nat) : Int) := by
  have h' : v.toInt = v.toBitVec.toInt := rfl
  rw [h', BitVec.toInt_eq_toNat_cond]
  split <;> omega
theorem own_chr (x : Int32) : 0 ≤ (x.toUInt32.toUInt16.toUInt32.toInt32).toInt ∧ (x.toUInt32.toUInt16.toUInt32.toInt32).toInt < 65536 := by
  have h : (x.toUInt32.toUInt16.toUInt32.toInt32).toBitVec.toNat = x.toUInt32.toUInt16.toNat := by
    show (x.toUInt32.toUInt16.toUInt32).toBitVec.toNat = _
    simp
    rfl
  have h2 : x.toUInt32.toUInt16.toNat < 65536 := x.toUInt32.toUInt16.toNat_lt
  rw [own_small (by omega)]; omega
theorem own_low {v : Int32} (h0 : 0 ≤ v.toInt) (h1 : v.toInt < 65536) : (v ||| 32).toInt = if v.toInt / 32 % 2 = 1 then v.toInt else v.toInt + 32 := by
  have h := own_pos h0
  have e : (v ||| 32).toBitVec.toNat = v.toBitVec.toNat ||| 32 := by
    rw [Int32.toBitVec_or, BitVec.toNat_or]; rfl
  have q := own_or32 v.toBitVec.toNat
  rw [own_small (by rw [e, q]; split <;> omega), e, q]
  split <;> split <;> omega
theorem own_sub48 {v : Int32} (h0 : 0 ≤ v.toInt) (h1 : v.toInt < 65536) : (v - 48).toInt = v.toInt - 48 := XT.sub32 (y := 48) (by show XT.fits32 (v.toInt - 48); unfold XT.fits32; omega)

def own_Q1 (h0 : Heap) (p1 : Int32) (p2 : Int32) (v : Option Value) (h : Heap) (L : List Loc) : Prop := v = some (.int (own_sch p1.toInt p2.toInt)) ∧ h = h0 ∧ L = []
set_option maxRecDepth 65536 in
set_option maxHeartbeats 40000000 in
theorem own_m1 (l : Launch) (Z : State) (a0 : Array Value) (hw : ∀ d ∈ tables_1, d.before a0 Z = true) (h0 : Heap) (p1 : Int32) (p2 : Int32)  :
    MetFree l (⟨"com/example/traceway/traceway/core/UrlParts", "isSchemeCharacter", "(CZ)Z"⟩ : MethodName) (head1 [Jvm.Cond.code (⟨"com/example/traceway/traceway/core/UrlParts", "isSchemeCharacter", "(CZ)Z"⟩ : MethodName) prog_26_method_5_code 4 (some .boolean)] ({ frames := 0, cells := 0, slots := 0, locals := 0 } : Room)) (fun a U => a = #[(.int p1), (.int p2)] ∧ Z.Warmed39 U.vm ∧ U.heap = h0) (fun _ _ _ _ _ => True) (fun _ U o U' => ∃ v L, o = .returned v ∧ (own_Q1 h0 p1 p2 ) v U'.heap L ∧ FrameEnd U o U' L ({ frames := 0, cells := 0, slots := 0, locals := 0 } : Room).cells ({ frames := 0, cells := 0, slots := 0, locals := 0 } : Room).slots) := by
  refine OwnK.met (Q := (own_Q1 h0 p1 p2 )) (C := ({ frames := 0, cells := 0, slots := 0, locals := 0 } : Room).cells) (N := ({ frames := 0, cells := 0, slots := 0, locals := 0 } : Room).slots) own_pl_1 (own_ef_1 p1 p2) ?_
  intro p e s m below meth c T0 X0 hx hZ hby hml hown hnm hret hlk e0
  have J1 : ∀ v : Int32, (v = 1 ∧ (97 ≤ p1.toInt ∧ p1.toInt ≤ 122 ∨ 65 ≤ p1.toInt ∧ p1.toInt ≤ 90)) ∨ (v = 0 ∧ ¬ (97 ≤ p1.toInt ∧ p1.toInt ≤ 122 ∨ 65 ≤ p1.toInt ∧ p1.toInt ≤ 90)) → OwnK.Go p.tables e below (OwnK.PQ s (own_Q1 h0 p1 p2 ) ({ frames := 0, cells := 0, slots := 0, locals := 0 } : Room).cells ({ frames := 0, cells := 0, slots := 0, locals := 0 } : Room).slots) T0 (mkF m 29 #[.val (.int p1), .val (.int p2), .unset, .unset] [(.int v)]) := by
    rintro v (⟨rfl, hJ1⟩ | ⟨rfl, hJ1⟩)
    · refine OwnK.istoreN X0 hx (hb hby own_d1_29) (pc' := 30) rfl (Ls' := #[.val (.int p1), .val (.int p2), .val (.int (1 : Int32)), .unset]) rfl ?_
      have J2 : ∀ v : Int32, (v = 1 ∧ (48 ≤ p1.toInt ∧ p1.toInt ≤ 57 ∨ p1.toInt = 43 ∨ p1.toInt = 45 ∨ p1.toInt = 46)) ∨ (v = 0 ∧ ¬ (48 ≤ p1.toInt ∧ p1.toInt ≤ 57 ∨ p1.toInt = 43 ∨ p1.toInt = 45 ∨ p1.toInt = 46)) → OwnK.Go p.tables e below (OwnK.PQ s (own_Q1 h0 p1 p2 ) ({ frames := 0, cells := 0, slots := 0, locals := 0 } : Room).cells ({ frames := 0, cells := 0, slots := 0, locals := 0 } : Room).slots) T0 (mkF m 65 #[.val (.int p1), .val (.int p2), .val (.int (1 : Int32)), .unset] [(.int v)]) := by
        rintro v (⟨rfl, hJ2⟩ | ⟨rfl, hJ2⟩)
        · refine OwnK.istoreN X0 hx (hb hby own_d1_65) (pc' := 66) rfl (Ls' := #[.val (.int p1), .val (.int p2), .val (.int (1 : Int32)), .val (.int (1 : Int32))]) rfl ?_
          refine OwnK.iloadN X0 hx (hb hby own_d1_66) (pc' := 67) rfl (v := (1 : Int32)) rfl ?_
          refine OwnK.if_ne X0 hx (hb hby own_d1_67) (by decide) (pcT := 78) (by decide) (pc' := 70) rfl (fun hc67 => ?_) (fun (hc67 : 1 = 0) => absurd hc67 (by decide))
          refine OwnK.iconst X0 hx (hb hby own_d1_78) (pc' := 79) rfl (v := (1 : Int32)) (by decide) ?_
          refine OwnK.goto_ X0 hx (hb hby own_d1_79) (by decide) (pc' := 83) (by decide) ?_
          refine OwnK.retN_ X0 hx hret (by simp) hlk (hb hby own_d1_83) (by decide) (by decide) ?_
          exact ⟨by rw [own_sch1 (by omega), own_nar1], e0, rfl⟩
        · refine OwnK.istoreN X0 hx (hb hby own_d1_65) (pc' := 66) rfl (Ls' := #[.val (.int p1), .val (.int p2), .val (.int (1 : Int32)), .val (.int (0 : Int32))]) rfl ?_
          refine OwnK.iloadN X0 hx (hb hby own_d1_66) (pc' := 67) rfl (v := (1 : Int32)) rfl ?_
          refine OwnK.if_ne X0 hx (hb hby own_d1_67) (by decide) (pcT := 78) (by decide) (pc' := 70) rfl (fun hc67 => ?_) (fun (hc67 : 1 = 0) => absurd hc67 (by decide))
          refine OwnK.iconst X0 hx (hb hby own_d1_78) (pc' := 79) rfl (v := (1 : Int32)) (by decide) ?_
          refine OwnK.goto_ X0 hx (hb hby own_d1_79) (by decide) (pc' := 83) (by decide) ?_
          refine OwnK.retN_ X0 hx hret (by simp) hlk (hb hby own_d1_83) (by decide) (by decide) ?_
          exact ⟨by rw [own_sch1 (by omega), own_nar1], e0, rfl⟩
      refine OwnK.iloadN X0 hx (hb hby own_d1_30) (pc' := 31) rfl (v := p1) rfl ?_
      refine OwnK.bipush X0 hx (hb hby own_d1_31) (pc' := 33) rfl (v := (48 : Int32)) (by decide) ?_
      refine OwnK.icmp_lt X0 hx (hb hby own_d1_33) (by decide) (pcT := 42) (by decide) (pc' := 36) rfl (fun (hc3 : p1.toInt < 48) => ?_) (fun (hc3 : 48 ≤ p1.toInt) => ?_)
      · refine OwnK.iloadN X0 hx (hb hby own_d1_42) (pc' := 43) rfl (v := p1) rfl ?_
        refine OwnK.bipush X0 hx (hb hby own_d1_43) (pc' := 45) rfl (v := (43 : Int32)) (by decide) ?_
        refine OwnK.icmp_eq X0 hx (hb hby own_d1_45) (by decide) (pcT := 60) (by decide) (pc' := 48) rfl (fun (hc4 : p1.toInt = 43) => ?_) (fun (hc4 : ¬ p1.toInt = 43) => ?_)
        · refine OwnK.iconst X0 hx (hb hby own_d1_60) (pc' := 61) rfl (v := (1 : Int32)) (by decide) ?_
          refine OwnK.goto_ X0 hx (hb hby own_d1_61) (by decide) (pc' := 65) (by decide) ?_
          exact J2 _ (Or.inl ⟨rfl, by omega⟩)
        · refine OwnK.iloadN X0 hx (hb hby own_d1_48) (pc' := 49) rfl (v := p1) rfl ?_
          refine OwnK.bipush X0 hx (hb hby own_d1_49) (pc' := 51) rfl (v := (45 : Int32)) (by decide) ?_
          refine OwnK.icmp_eq X0 hx (hb hby own_d1_51) (by decide) (pcT := 60) (by decide) (pc' := 54) rfl (fun (hc5 : p1.toInt = 45) => ?_) (fun (hc5 : ¬ p1.toInt = 45) => ?_)
          · refine OwnK.iconst X0 hx (hb hby own_d1_60) (pc' := 61) rfl (v := (1 : Int32)) (by decide) ?_
            refine OwnK.goto_ X0 hx (hb hby own_d1_61) (by decide) (pc' := 65) (by decide) ?_
            exact J2 _ (Or.inl ⟨rfl, by omega⟩)
          · refine OwnK.iloadN X0 hx (hb hby own_d1_54) (pc' := 55) rfl (v := p1) rfl ?_
            refine OwnK.bipush X0 hx (hb hby own_d1_55) (pc' := 57) rfl (v := (46 : Int32)) (by decide) ?_
            refine OwnK.icmp_ne X0 hx (hb hby own_d1_57) (by decide) (pcT := 64) (by decide) (pc' := 60) rfl (fun (hc6 : ¬ p1.toInt = 46) => ?_) (fun (hc6 : p1.toInt = 46) => ?_)
            · refine OwnK.iconst X0 hx (hb hby own_d1_64) (pc' := 65) rfl (v := (0 : Int32)) (by decide) ?_
              exact J2 _ (Or.inr ⟨rfl, by omega⟩)
            · refine OwnK.iconst X0 hx (hb hby own_d1_60) (pc' := 61) rfl (v := (1 : Int32)) (by decide) ?_
              refine OwnK.goto_ X0 hx (hb hby own_d1_61) (by decide) (pc' := 65) (by decide) ?_
              exact J2 _ (Or.inl ⟨rfl, by omega⟩)
      · refine OwnK.iloadN X0 hx (hb hby own_d1_36) (pc' := 37) rfl (v := p1) rfl ?_
        refine OwnK.bipush X0 hx (hb hby own_d1_37) (pc' := 39) rfl (v := (57 : Int32)) (by decide) ?_
        refine OwnK.icmp_le X0 hx (hb hby own_d1_39) (by decide) (pcT := 60) (by decide) (pc' := 42) rfl (fun (hc7 : p1.toInt ≤ 57) => ?_) (fun (hc7 : 57 < p1.toInt) => ?_)
        · refine OwnK.iconst X0 hx (hb hby own_d1_60) (pc' := 61) rfl (v := (1 : Int32)) (by decide) ?_
          refine OwnK.goto_ X0 hx (hb hby own_d1_61) (by decide) (pc' := 65) (by decide) ?_
          exact J2 _ (Or.inl ⟨rfl, by omega⟩)
        · refine OwnK.iloadN X0 hx (hb hby own_d1_42) (pc' := 43) rfl (v := p1) rfl ?_
          refine OwnK.bipush X0 hx (hb hby own_d1_43) (pc' := 45) rfl (v := (43 : Int32)) (by decide) ?_
          refine OwnK.icmp_eq X0 hx (hb hby own_d1_45) (by decide) (pcT := 60) (by decide) (pc' := 48) rfl (fun (hc8 : p1.toInt = 43) => ?_) (fun (hc8 : ¬ p1.toInt = 43) => ?_)
          · refine OwnK.iconst X0 hx (hb hby own_d1_60) (pc' := 61) rfl (v := (1 : Int32)) (by decide) ?_
            refine OwnK.goto_ X0 hx (hb hby own_d1_61) (by decide) (pc' := 65) (by decide) ?_
            exact J2 _ (Or.inl ⟨rfl, by omega⟩)
          · refine OwnK.iloadN X0 hx (hb hby own_d1_48) (pc' := 49) rfl (v := p1) rfl ?_
            refine OwnK.bipush X0 hx (hb hby own_d1_49) (pc' := 51) rfl (v := (45 : Int32)) (by decide) ?_
            refine OwnK.icmp_eq X0 hx (hb hby own_d1_51) (by decide) (pcT := 60) (by decide) (pc' := 54) rfl (fun (hc9 : p1.toInt = 45) => ?_) (fun (hc9 : ¬ p1.toInt = 45) => ?_)
            · refine OwnK.iconst X0 hx (hb hby own_d1_60) (pc' := 61) rfl (v := (1 : Int32)) (by decide) ?_
              refine OwnK.goto_ X0 hx (hb hby own_d1_61) (by decide) (pc' := 65) (by decide) ?_
              exact J2 _ (Or.inl ⟨rfl, by omega⟩)
            · refine OwnK.iloadN X0 hx (hb hby own_d1_54) (pc' := 55) rfl (v := p1) rfl ?_
              refine OwnK.bipush X0 hx (hb hby own_d1_55) (pc' := 57) rfl (v := (46 : Int32)) (by decide) ?_
              refine OwnK.icmp_ne X0 hx (hb hby own_d1_57) (by decide) (pcT := 64) (by decide) (pc' := 60) rfl (fun (hc10 : ¬ p1.toInt = 46) => ?_) (fun (hc10 : p1.toInt = 46) => ?_)
              · refine OwnK.iconst X0 hx (hb hby own_d1_64) (pc' := 65) rfl (v := (0 : Int32)) (by decide) ?_
                exact J2 _ (Or.inr ⟨rfl, by omega⟩)
              · refine OwnK.iconst X0 hx (hb hby own_d1_60) (pc' := 61) rfl (v := (1 : Int32)) (by decide) ?_
                refine OwnK.goto_ X0 hx (hb hby own_d1_61) (by decide) (pc' := 65) (by decide) ?_
                exact J2 _ (Or.inl ⟨rfl, by omega⟩)
    · refine OwnK.istoreN X0 hx (hb hby own_d1_29) (pc' := 30) rfl (Ls' := #[.val (.int p1), .val (.int p2), .val (.int (0 : Int32)), .unset]) rfl ?_
      have J11 : ∀ v : Int32, (v = 1 ∧ (48 ≤ p1.toInt ∧ p1.toInt ≤ 57 ∨ p1.toInt = 43 ∨ p1.toInt = 45 ∨ p1.toInt = 46)) ∨ (v = 0 ∧ ¬ (48 ≤ p1.toInt ∧ p1.toInt ≤ 57 ∨ p1.toInt = 43 ∨ p1.toInt = 45 ∨ p1.toInt = 46)) → OwnK.Go p.tables e below (OwnK.PQ s (own_Q1 h0 p1 p2 ) ({ frames := 0, cells := 0, slots := 0, locals := 0 } : Room).cells ({ frames := 0, cells := 0, slots := 0, locals := 0 } : Room).slots) T0 (mkF m 65 #[.val (.int p1), .val (.int p2), .val (.int (0 : Int32)), .unset] [(.int v)]) := by
        rintro v (⟨rfl, hJ11⟩ | ⟨rfl, hJ11⟩)
        · refine OwnK.istoreN X0 hx (hb hby own_d1_65) (pc' := 66) rfl (Ls' := #[.val (.int p1), .val (.int p2), .val (.int (0 : Int32)), .val (.int (1 : Int32))]) rfl ?_
          refine OwnK.iloadN X0 hx (hb hby own_d1_66) (pc' := 67) rfl (v := (0 : Int32)) rfl ?_
          refine OwnK.if_ne X0 hx (hb hby own_d1_67) (by decide) (pcT := 78) (by decide) (pc' := 70) rfl (fun (hc67 : ¬ 0 = 0) => absurd hc67 (by decide)) (fun hc67 => ?_)
          refine OwnK.iloadN X0 hx (hb hby own_d1_70) (pc' := 71) rfl (v := p2) rfl ?_
          refine OwnK.if_ne X0 hx (hb hby own_d1_71) (by decide) (pcT := 82) (by decide) (pc' := 74) rfl (fun (hc12 : ¬ p2.toInt = 0) => ?_) (fun (hc12 : p2.toInt = 0) => ?_)
          · refine OwnK.iconst X0 hx (hb hby own_d1_82) (pc' := 83) rfl (v := (0 : Int32)) (by decide) ?_
            refine OwnK.retN_ X0 hx hret (by simp) hlk (hb hby own_d1_83) (by decide) (by decide) ?_
            exact ⟨by rw [own_sch0 (by omega), own_nar0], e0, rfl⟩
          · refine OwnK.iloadN X0 hx (hb hby own_d1_74) (pc' := 75) rfl (v := (1 : Int32)) rfl ?_
            refine OwnK.if_eq X0 hx (hb hby own_d1_75) (by decide) (pcT := 82) (by decide) (pc' := 78) rfl (fun (hc75 : 1 = 0) => absurd hc75 (by decide)) (fun hc75 => ?_)
            refine OwnK.iconst X0 hx (hb hby own_d1_78) (pc' := 79) rfl (v := (1 : Int32)) (by decide) ?_
            refine OwnK.goto_ X0 hx (hb hby own_d1_79) (by decide) (pc' := 83) (by decide) ?_
            refine OwnK.retN_ X0 hx hret (by simp) hlk (hb hby own_d1_83) (by decide) (by decide) ?_
            exact ⟨by rw [own_sch1 (by omega), own_nar1], e0, rfl⟩
        · refine OwnK.istoreN X0 hx (hb hby own_d1_65) (pc' := 66) rfl (Ls' := #[.val (.int p1), .val (.int p2), .val (.int (0 : Int32)), .val (.int (0 : Int32))]) rfl ?_
          refine OwnK.iloadN X0 hx (hb hby own_d1_66) (pc' := 67) rfl (v := (0 : Int32)) rfl ?_
          refine OwnK.if_ne X0 hx (hb hby own_d1_67) (by decide) (pcT := 78) (by decide) (pc' := 70) rfl (fun (hc67 : ¬ 0 = 0) => absurd hc67 (by decide)) (fun hc67 => ?_)
          refine OwnK.iloadN X0 hx (hb hby own_d1_70) (pc' := 71) rfl (v := p2) rfl ?_
          refine OwnK.if_ne X0 hx (hb hby own_d1_71) (by decide) (pcT := 82) (by decide) (pc' := 74) rfl (fun (hc13 : ¬ p2.toInt = 0) => ?_) (fun (hc13 : p2.toInt = 0) => ?_)
          · refine OwnK.iconst X0 hx (hb hby own_d1_82) (pc' := 83) rfl (v := (0 : Int32)) (by decide) ?_
            refine OwnK.retN_ X0 hx hret (by simp) hlk (hb hby own_d1_83) (by decide) (by decide) ?_
            exact ⟨by rw [own_sch0 (by omega), own_nar0], e0, rfl⟩
          · refine OwnK.iloadN X0 hx (hb hby own_d1_74) (pc' := 75) rfl (v := (0 : Int32)) rfl ?_
            refine OwnK.if_eq X0 hx (hb hby own_d1_75) (by decide) (pcT := 82) (by decide) (pc' := 78) rfl (fun hc75 => ?_) (fun (hc75 : ¬ 0 = 0) => absurd hc75 (by decide))
            refine OwnK.iconst X0 hx (hb hby own_d1_82) (pc' := 83) rfl (v := (0 : Int32)) (by decide) ?_
            refine OwnK.retN_ X0 hx hret (by simp) hlk (hb hby own_d1_83) (by decide) (by decide) ?_
            exact ⟨by rw [own_sch0 (by omega), own_nar0], e0, rfl⟩
      refine OwnK.iloadN X0 hx (hb hby own_d1_30) (pc' := 31) rfl (v := p1) rfl ?_
      refine OwnK.bipush X0 hx (hb hby own_d1_31) (pc' := 33) rfl (v := (48 : Int32)) (by decide) ?_
      refine OwnK.icmp_lt X0 hx (hb hby own_d1_33) (by decide) (pcT := 42) (by decide) (pc' := 36) rfl (fun (hc14 : p1.toInt < 48) => ?_) (fun (hc14 : 48 ≤ p1.toInt) => ?_)
      · refine OwnK.iloadN X0 hx (hb hby own_d1_42) (pc' := 43) rfl (v := p1) rfl ?_
        refine OwnK.bipush X0 hx (hb hby own_d1_43) (pc' := 45) rfl (v := (43 : Int32)) (by decide) ?_
        refine OwnK.icmp_eq X0 hx (hb hby own_d1_45) (by decide) (pcT := 60) (by decide) (pc' := 48) rfl (fun (hc15 : p1.toInt = 43) => ?_) (fun (hc15 : ¬ p1.toInt = 43) => ?_)
        · refine OwnK.iconst X0 hx (hb hby own_d1_60) (pc' := 61) rfl (v := (1 : Int32)) (by decide) ?_
          refine OwnK.goto_ X0 hx (hb hby own_d1_61) (by decide) (pc' := 65) (by decide) ?_
          exact J11 _ (Or.inl ⟨rfl, by omega⟩)
        · refine OwnK.iloadN X0 hx (hb hby own_d1_48) (pc' := 49) rfl (v := p1) rfl ?_
          refine OwnK.bipush X0 hx (hb hby own_d1_49) (pc' := 51) rfl (v := (45 : Int32)) (by decide) ?_
          refine OwnK.icmp_eq X0 hx (hb hby own_d1_51) (by decide) (pcT := 60) (by decide) (pc' := 54) rfl (fun (hc16 : p1.toInt = 45) => ?_) (fun (hc16 : ¬ p1.toInt = 45) => ?_)
          · refine OwnK.iconst X0 hx (hb hby own_d1_60) (pc' := 61) rfl (v := (1 : Int32)) (by decide) ?_
            refine OwnK.goto_ X0 hx (hb hby own_d1_61) (by decide) (pc' := 65) (by decide) ?_
            exact J11 _ (Or.inl ⟨rfl, by omega⟩)
          · refine OwnK.iloadN X0 hx (hb hby own_d1_54) (pc' := 55) rfl (v := p1) rfl ?_
            refine OwnK.bipush X0 hx (hb hby own_d1_55) (pc' := 57) rfl (v := (46 : Int32)) (by decide) ?_
            refine OwnK.icmp_ne X0 hx (hb hby own_d1_57) (by decide) (pcT := 64) (by decide) (pc' := 60) rfl (fun (hc17 : ¬ p1.toInt = 46) => ?_) (fun (hc17 : p1.toInt = 46) => ?_)
            · refine OwnK.iconst X0 hx (hb hby own_d1_64) (pc' := 65) rfl (v := (0 : Int32)) (by decide) ?_
              exact J11 _ (Or.inr ⟨rfl, by omega⟩)
            · refine OwnK.iconst X0 hx (hb hby own_d1_60) (pc' := 61) rfl (v := (1 : Int32)) (by decide) ?_
              refine OwnK.goto_ X0 hx (hb hby own_d1_61) (by decide) (pc' := 65) (by decide) ?_
              exact J11 _ (Or.inl ⟨rfl, by omega⟩)
      · refine OwnK.iloadN X0 hx (hb hby own_d1_36) (pc' := 37) rfl (v := p1) rfl ?_
        refine OwnK.bipush X0 hx (hb hby own_d1_37) (pc' := 39) rfl (v := (57 : Int32)) (by decide) ?_
        refine OwnK.icmp_le X0 hx (hb hby own_d1_39) (by decide) (pcT := 60) (by decide) (pc' := 42) rfl (fun (hc18 : p1.toInt ≤ 57) => ?_) (fun (hc18 : 57 < p1.toInt) => ?_)
        · refine OwnK.iconst X0 hx (hb hby own_d1_60) (pc' := 61) rfl (v := (1 : Int32)) (by decide) ?_
          refine OwnK.goto_ X0 hx (hb hby own_d1_61) (by decide) (pc' := 65) (by decide) ?_
          exact J11 _ (Or.inl ⟨rfl, by omega⟩)
        · refine OwnK.iloadN X0 hx (hb hby own_d1_42) (pc' := 43) rfl (v := p1) rfl ?_
          refine OwnK.bipush X0 hx (hb hby own_d1_43) (pc' := 45) rfl (v := (43 : Int32)) (by decide) ?_
          refine OwnK.icmp_eq X0 hx (hb hby own_d1_45) (by decide) (pcT := 60) (by decide) (pc' := 48) rfl (fun (hc19 : p1.toInt = 43) => ?_) (fun (hc19 : ¬ p1.toInt = 43) => ?_)
          · refine OwnK.iconst X0 hx (hb hby own_d1_60) (pc' := 61) rfl (v := (1 : Int32)) (by decide) ?_
            refine OwnK.goto_ X0 hx (hb hby own_d1_61) (by decide) (pc' := 65) (by decide) ?_
            exact J11 _ (Or.inl ⟨rfl, by omega⟩)
          · refine OwnK.iloadN X0 hx (hb hby own_d1_48) (pc' := 49) rfl (v := p1) rfl ?_
            refine OwnK.bipush X0 hx (hb hby own_d1_49) (pc' := 51) rfl (v := (45 : Int32)) (by decide) ?_
            refine OwnK.icmp_eq X0 hx (hb hby own_d1_51) (by decide) (pcT := 60) (by decide) (pc' := 54) rfl (fun (hc20 : p1.toInt = 45) => ?_) (fun (hc20 : ¬ p1.toInt = 45) => ?_)
            · refine OwnK.iconst X0 hx (hb hby own_d1_60) (pc' := 61) rfl (v := (1 : Int32)) (by decide) ?_
              refine OwnK.goto_ X0 hx (hb hby own_d1_61) (by decide) (pc' := 65) (by decide) ?_
              exact J11 _ (Or.inl ⟨rfl, by omega⟩)
            · refine OwnK.iloadN X0 hx (hb hby own_d1_54) (pc' := 55) rfl (v := p1) rfl ?_
              refine OwnK.bipush X0 hx (hb hby own_d1_55) (pc' := 57) rfl (v := (46 : Int32)) (by decide) ?_
              refine OwnK.icmp_ne X0 hx (hb hby own_d1_57) (by decide) (pcT := 64) (by decide) (pc' := 60) rfl (fun (hc21 : ¬ p1.toInt = 46) => ?_) (fun (hc21 : p1.toInt = 46) => ?_)
              · refine OwnK.iconst X0 hx (hb hby own_d1_64) (pc' := 65) rfl (v := (0 : Int32)) (by decide) ?_
                exact J11 _ (Or.inr ⟨rfl, by omega⟩)
              · refine OwnK.iconst X0 hx (hb hby own_d1_60) (pc' := 61) rfl (v := (1 : Int32)) (by decide) ?_
                refine OwnK.goto_ X0 hx (hb hby own_d1_61) (by decide) (pc' := 65) (by decide) ?_
                exact J11 _ (Or.inl ⟨rfl, by omega⟩)
  refine OwnK.iloadN X0 hx (hb hby own_d1_0) (pc' := 1) rfl (v := p1) rfl ?_
  refine OwnK.bipush X0 hx (hb hby own_d1_1) (pc' := 3) rfl (v := (97 : Int32)) (by decide) ?_
  refine OwnK.icmp_lt X0 hx (hb hby own_d1_3) (by decide) (pcT := 12) (by decide) (pc' := 6) rfl (fun (hc22 : p1.toInt < 97) => ?_) (fun (hc22 : 97 ≤ p1.toInt) => ?_)
  · refine OwnK.iloadN X0 hx (hb hby own_d1_12) (pc' := 13) rfl (v := p1) rfl ?_
    refine OwnK.bipush X0 hx (hb hby own_d1_13) (pc' := 15) rfl (v := (65 : Int32)) (by decide) ?_
    refine OwnK.icmp_lt X0 hx (hb hby own_d1_15) (by decide) (pcT := 28) (by decide) (pc' := 18) rfl (fun (hc23 : p1.toInt < 65) => ?_) (fun (hc23 : 65 ≤ p1.toInt) => ?_)
    · refine OwnK.iconst X0 hx (hb hby own_d1_28) (pc' := 29) rfl (v := (0 : Int32)) (by decide) ?_
      exact J1 _ (Or.inr ⟨rfl, by omega⟩)
    · refine OwnK.iloadN X0 hx (hb hby own_d1_18) (pc' := 19) rfl (v := p1) rfl ?_
      refine OwnK.bipush X0 hx (hb hby own_d1_19) (pc' := 21) rfl (v := (90 : Int32)) (by decide) ?_
      refine OwnK.icmp_gt X0 hx (hb hby own_d1_21) (by decide) (pcT := 28) (by decide) (pc' := 24) rfl (fun (hc24 : 90 < p1.toInt) => ?_) (fun (hc24 : p1.toInt ≤ 90) => ?_)
      · refine OwnK.iconst X0 hx (hb hby own_d1_28) (pc' := 29) rfl (v := (0 : Int32)) (by decide) ?_
        exact J1 _ (Or.inr ⟨rfl, by omega⟩)
      · refine OwnK.iconst X0 hx (hb hby own_d1_24) (pc' := 25) rfl (v := (1 : Int32)) (by decide) ?_
        refine OwnK.goto_ X0 hx (hb hby own_d1_25) (by decide) (pc' := 29) (by decide) ?_
        exact J1 _ (Or.inl ⟨rfl, by omega⟩)
  · refine OwnK.iloadN X0 hx (hb hby own_d1_6) (pc' := 7) rfl (v := p1) rfl ?_
    refine OwnK.bipush X0 hx (hb hby own_d1_7) (pc' := 9) rfl (v := (122 : Int32)) (by decide) ?_
    refine OwnK.icmp_le X0 hx (hb hby own_d1_9) (by decide) (pcT := 24) (by decide) (pc' := 12) rfl (fun (hc25 : p1.toInt ≤ 122) => ?_) (fun (hc25 : 122 < p1.toInt) => ?_)
    · refine OwnK.iconst X0 hx (hb hby own_d1_24) (pc' := 25) rfl (v := (1 : Int32)) (by decide) ?_
      refine OwnK.goto_ X0 hx (hb hby own_d1_25) (by decide) (pc' := 29) (by decide) ?_
      exact J1 _ (Or.inl ⟨rfl, by omega⟩)
    · refine OwnK.iloadN X0 hx (hb hby own_d1_12) (pc' := 13) rfl (v := p1) rfl ?_
      refine OwnK.bipush X0 hx (hb hby own_d1_13) (pc' := 15) rfl (v := (65 : Int32)) (by decide) ?_
      refine OwnK.icmp_lt X0 hx (hb hby own_d1_15) (by decide) (pcT := 28) (by decide) (pc' := 18) rfl (fun (hc26 : p1.toInt < 65) => ?_) (fun (hc26 : 65 ≤ p1.toInt) => ?_)
      · refine OwnK.iconst X0 hx (hb hby own_d1_28) (pc' := 29) rfl (v := (0 : Int32)) (by decide) ?_
        exact J1 _ (Or.inr ⟨rfl, by omega⟩)
      · refine OwnK.iloadN X0 hx (hb hby own_d1_18) (pc' := 19) rfl (v := p1) rfl ?_
        refine OwnK.bipush X0 hx (hb hby own_d1_19) (pc' := 21) rfl (v := (90 : Int32)) (by decide) ?_
        refine OwnK.icmp_gt X0 hx (hb hby own_d1_21) (by decide) (pcT := 28) (by decide) (pc' := 24) rfl (fun (hc27 : 90 < p1.toInt) => ?_) (fun (hc27 : p1.toInt ≤ 90) => ?_)
        · refine OwnK.iconst X0 hx (hb hby own_d1_28) (pc' := 29) rfl (v := (0 : Int32)) (by decide) ?_
          exact J1 _ (Or.inr ⟨rfl, by omega⟩)
        · refine OwnK.iconst X0 hx (hb hby own_d1_24) (pc' := 25) rfl (v := (1 : Int32)) (by decide) ?_
          refine OwnK.goto_ X0 hx (hb hby own_d1_25) (by decide) (pc' := 29) (by decide) ?_
          exact J1 _ (Or.inl ⟨rfl, by omega⟩)
set_option maxRecDepth 65536 in
set_option maxHeartbeats 40000000 in
theorem own_law (l : Launch) (Z : State) (a0 : Array Value) (hw : ∀ d ∈ tables_1, d.before a0 Z = true) (ws : List Jvm.Cond) (h0 : Heap) (n0 : Nat) (Z0 : n0 ≤ h0.size) (p0 : Int32)  :
    MetFree l x (head1 (Jvm.Cond.code x code maxLocals ret :: ws) room_1) (fun a U => a = #[(.int p0)] ∧ Z.Warmed39 U.vm ∧ U.heap = h0) (fun _ _ _ _ _ => True) (fun _ U o U' => ∃ v L, o = .returned v ∧ (fun (v : Option Value) (_ : Heap) (L : List Loc) => v = some (.int (1 : Int32)) ∧ Fr n0 L) v U'.heap L ∧ FrameEnd U o U' L 0 0) := by
  refine OwnK.met (Q := (fun (v : Option Value) (_ : Heap) (L : List Loc) => v = some (.int (1 : Int32)) ∧ Fr n0 L)) (C := 0) (N := 0) own_pl_0 (own_ef_0 p0) ?_
  intro p e s m below meth c T0 X0 hx hZ hby hml hown hnm hret hlk e0
  have N0 := Fr.nil n0
  refine OwnK.iloadN X0 hx (hb hby at_0) (pc' := 1) rfl (v := p0) rfl ?_
  refine OwnK.i2c X0 hx (hb hby at_1) (pc' := 2) rfl ?_
  refine OwnK.istoreNG X0 hx (hb hby at_2) (pc' := 3) rfl (Ls' := fun u => #[.val (.int p0), .val (.int u), .unset, .unset, .unset, .unset, .unset, .unset, .unset, .unset, .unset]) (fun u => rfl) (fun u1 (hu1 : u1 = (p0.toUInt32.toUInt16.toUInt32.toInt32)) => ?_)
  obtain ⟨hb0, hb1⟩ : 0 ≤ u1.toInt ∧ u1.toInt < 65536 := by rw [hu1]; exact own_chr _
  refine OwnK.iloadN X0 hx (hb hby at_3) (pc' := 4) rfl (v := u1) rfl ?_
  refine OwnK.bipush X0 hx (hb hby at_4) (pc' := 6) rfl (v := (32 : Int32)) (by decide) ?_
  refine OwnK.ior X0 hx (hb hby at_6) (pc' := 7) rfl ?_
  refine OwnK.istoreN X0 hx (hb hby at_7) (pc' := 8) rfl (Ls' := #[.val (.int p0), .val (.int u1), .val (.int (u1 ||| (32 : Int32))), .unset, .unset, .unset, .unset, .unset, .unset, .unset, .unset]) rfl ?_
  have hlow := own_low hb0 hb1
  have J2 : ∀ v : Int32, (v = 1 ∧ (97 ≤ u1.toInt ∧ u1.toInt ≤ 122 ∨ 65 ≤ u1.toInt ∧ u1.toInt ≤ 90)) ∨ (v = 0 ∧ ¬ (97 ≤ u1.toInt ∧ u1.toInt ≤ 122 ∨ 65 ≤ u1.toInt ∧ u1.toInt ≤ 90)) → OwnK.Go p.tables e below (OwnK.PQ s (fun (v : Option Value) (_ : Heap) (L : List Loc) => v = some (.int (1 : Int32)) ∧ Fr n0 L) 0 0) T0 (mkF m 25 #[.val (.int p0), .val (.int u1), .val (.int (u1 ||| (32 : Int32))), .unset, .unset, .unset, .unset, .unset, .unset, .unset, .unset] [(.int v)]) := by
    rintro v (⟨rfl, hJ2⟩ | ⟨rfl, hJ2⟩)
    · refine OwnK.istoreN X0 hx (hb hby at_25) (pc' := 26) rfl (Ls' := #[.val (.int p0), .val (.int u1), .val (.int (u1 ||| (32 : Int32))), .val (.int (1 : Int32)), .unset, .unset, .unset, .unset, .unset, .unset, .unset]) rfl ?_
      refine OwnK.iloadN X0 hx (hb hby at_26) (pc' := 27) rfl (v := u1) rfl ?_
      refine OwnK.bipush X0 hx (hb hby at_27) (pc' := 29) rfl (v := (48 : Int32)) (by decide) ?_
      refine OwnK.isub X0 hx (hb hby at_29) (pc' := 30) rfl ?_
      refine OwnK.istore X0 hx (hb hby at_30) (pc' := 32) rfl (Ls' := #[.val (.int p0), .val (.int u1), .val (.int (u1 ||| (32 : Int32))), .val (.int (1 : Int32)), .val (.int (u1 - (48 : Int32))), .unset, .unset, .unset, .unset, .unset, .unset]) rfl ?_
      have hd48 := own_sub48 hb0 hb1
      have J3 : ∀ v : Int32, (v = 1 ∧ (48 ≤ u1.toInt ∧ u1.toInt ≤ 57)) ∨ (v = 0 ∧ ¬ (48 ≤ u1.toInt ∧ u1.toInt ≤ 57)) → OwnK.Go p.tables e below (OwnK.PQ s (fun (v : Option Value) (_ : Heap) (L : List Loc) => v = some (.int (1 : Int32)) ∧ Fr n0 L) 0 0) T0 (mkF m 49 #[.val (.int p0), .val (.int u1), .val (.int (u1 ||| (32 : Int32))), .val (.int (1 : Int32)), .val (.int (u1 - (48 : Int32))), .unset, .unset, .unset, .unset, .unset, .unset] [(.int v)]) := by
        rintro v (⟨rfl, hJ3⟩ | ⟨rfl, hJ3⟩)
        · refine OwnK.istore X0 hx (hb hby at_49) (pc' := 51) rfl (Ls' := #[.val (.int p0), .val (.int u1), .val (.int (u1 ||| (32 : Int32))), .val (.int (1 : Int32)), .val (.int (u1 - (48 : Int32))), .val (.int (1 : Int32)), .unset, .unset, .unset, .unset, .unset]) rfl ?_
          have J4 : ∀ v : Int32, (v = 1 ∧ (u1.toInt = 43 ∨ u1.toInt = 45 ∨ u1.toInt = 46)) ∨ (v = 0 ∧ ¬ (u1.toInt = 43 ∨ u1.toInt = 45 ∨ u1.toInt = 46)) → OwnK.Go p.tables e below (OwnK.PQ s (fun (v : Option Value) (_ : Heap) (L : List Loc) => v = some (.int (1 : Int32)) ∧ Fr n0 L) 0 0) T0 (mkF m 74 #[.val (.int p0), .val (.int u1), .val (.int (u1 ||| (32 : Int32))), .val (.int (1 : Int32)), .val (.int (u1 - (48 : Int32))), .val (.int (1 : Int32)), .unset, .unset, .unset, .unset, .unset] [(.int v)]) := by
            rintro v (⟨rfl, hJ4⟩ | ⟨rfl, hJ4⟩)
            · refine OwnK.istore X0 hx (hb hby at_74) (pc' := 76) rfl (Ls' := #[.val (.int p0), .val (.int u1), .val (.int (u1 ||| (32 : Int32))), .val (.int (1 : Int32)), .val (.int (u1 - (48 : Int32))), .val (.int (1 : Int32)), .val (.int (1 : Int32)), .unset, .unset, .unset, .unset]) rfl ?_
              refine OwnK.iloadN X0 hx (hb hby at_76) (pc' := 77) rfl (v := (1 : Int32)) rfl ?_
              refine OwnK.istore X0 hx (hb hby at_77) (pc' := 79) rfl (Ls' := #[.val (.int p0), .val (.int u1), .val (.int (u1 ||| (32 : Int32))), .val (.int (1 : Int32)), .val (.int (u1 - (48 : Int32))), .val (.int (1 : Int32)), .val (.int (1 : Int32)), .val (.int (1 : Int32)), .unset, .unset, .unset]) rfl ?_
              refine OwnK.iloadN X0 hx (hb hby at_79) (pc' := 80) rfl (v := (1 : Int32)) rfl ?_
              refine OwnK.if_ne X0 hx (hb hby at_80) (by decide) (pcT := 93) (by decide) (pc' := 83) rfl (fun hc80 => ?_) (fun (hc80 : 1 = 0) => absurd hc80 (by decide))
              refine OwnK.iconst X0 hx (hb hby at_93) (pc' := 94) rfl (v := (1 : Int32)) (by decide) ?_
              refine OwnK.goto_ X0 hx (hb hby at_94) (by decide) (pc' := 98) (by decide) ?_
              refine OwnK.istore X0 hx (hb hby at_98) (pc' := 100) rfl (Ls' := #[.val (.int p0), .val (.int u1), .val (.int (u1 ||| (32 : Int32))), .val (.int (1 : Int32)), .val (.int (u1 - (48 : Int32))), .val (.int (1 : Int32)), .val (.int (1 : Int32)), .val (.int (1 : Int32)), .val (.int (1 : Int32)), .unset, .unset]) rfl ?_
              refine OwnK.iloadN X0 hx (hb hby at_100) (pc' := 101) rfl (v := u1) rfl ?_
              refine OwnK.iconst X0 hx (hb hby at_101) (pc' := 102) rfl (v := (1 : Int32)) (by decide) ?_
              refine OwnK.callS_ X0 hx hZ hown (y := (⟨"com/example/traceway/traceway/core/UrlParts", "isSchemeCharacter", "(CZ)Z"⟩ : MethodName)) (hw _ (List.mem_of_getElem? (i := 0) rfl)) (hw _ (List.mem_of_getElem? (i := 1) rfl)) (hw _ (List.mem_of_getElem? (i := 2) rfl)) (hw _ (List.mem_of_getElem? (i := 3) rfl)) (by decide) (own_m1 l Z a0 hw h0 u1 (1 : Int32)  ) (by decide) (W := 0) (by decide) e0 (by rw [hml]; rfl) own_pd_0 (argsL := [(.int u1), (.int (1 : Int32))]) rfl (S := []) rfl (by decide) (hb hby at_102) (pc' := 105) rfl (by decide) (by decide) (fun T5 v5 L5 X5 hQ5 => ?_)
              obtain ⟨rfl, e5, rfl⟩ := hQ5
              have N6 := Fr.app N0 (Fr.nil n0)
              refine OwnK.istore X5 hx (hb hby at_105) (pc' := 107) rfl (Ls' := #[.val (.int p0), .val (.int u1), .val (.int (u1 ||| (32 : Int32))), .val (.int (1 : Int32)), .val (.int (u1 - (48 : Int32))), .val (.int (1 : Int32)), .val (.int (1 : Int32)), .val (.int (1 : Int32)), .val (.int (1 : Int32)), .val (.int (own_sch u1.toInt (1 : Int32).toInt)), .unset]) rfl ?_
              refine OwnK.iloadN X5 hx (hb hby at_107) (pc' := 108) rfl (v := u1) rfl ?_
              refine OwnK.iconst X5 hx (hb hby at_108) (pc' := 109) rfl (v := (0 : Int32)) (by decide) ?_
              refine OwnK.callS_ X5 hx hZ hown (y := (⟨"com/example/traceway/traceway/core/UrlParts", "isSchemeCharacter", "(CZ)Z"⟩ : MethodName)) (hw _ (List.mem_of_getElem? (i := 0) rfl)) (hw _ (List.mem_of_getElem? (i := 1) rfl)) (hw _ (List.mem_of_getElem? (i := 2) rfl)) (hw _ (List.mem_of_getElem? (i := 3) rfl)) (by decide) (own_m1 l Z a0 hw h0 u1 (0 : Int32)  ) (by decide) (W := 0) (by decide) e5 (by rw [hml]; rfl) own_pd_0 (argsL := [(.int u1), (.int (0 : Int32))]) rfl (S := []) rfl (by decide) (hb hby at_109) (pc' := 112) rfl (by decide) (by decide) (fun T7 v7 L7 X7 hQ7 => ?_)
              obtain ⟨rfl, e7, rfl⟩ := hQ7
              have N8 := Fr.app N6 (Fr.nil n0)
              refine OwnK.istore X7 hx (hb hby at_112) (pc' := 114) rfl (Ls' := #[.val (.int p0), .val (.int u1), .val (.int (u1 ||| (32 : Int32))), .val (.int (1 : Int32)), .val (.int (u1 - (48 : Int32))), .val (.int (1 : Int32)), .val (.int (1 : Int32)), .val (.int (1 : Int32)), .val (.int (1 : Int32)), .val (.int (own_sch u1.toInt (1 : Int32).toInt)), .val (.int (own_sch u1.toInt (0 : Int32).toInt))]) rfl ?_
              refine OwnK.iload X7 hx (hb hby at_114) (pc' := 116) rfl (v := (own_sch u1.toInt (1 : Int32).toInt)) rfl ?_
              refine OwnK.iload X7 hx (hb hby at_116) (pc' := 118) rfl (v := (1 : Int32)) rfl ?_
              refine OwnK.icmp_ne X7 hx (hb hby at_118) (by decide) (pcT := 132) (by decide) (pc' := 121) rfl (fun (hc118 : ¬ (own_sch u1.toInt (1 : Int32).toInt).toInt = 1) => absurd (congrArg Int32.toInt (own_sch1 (n := u1.toInt) (f := 1) (by omega))) hc118) (fun hc118 => ?_)
              refine OwnK.iload X7 hx (hb hby at_121) (pc' := 123) rfl (v := (own_sch u1.toInt (0 : Int32).toInt)) rfl ?_
              refine OwnK.iload X7 hx (hb hby at_123) (pc' := 125) rfl (v := (1 : Int32)) rfl ?_
              refine OwnK.icmp_ne X7 hx (hb hby at_125) (by decide) (pcT := 132) (by decide) (pc' := 128) rfl (fun (hc125 : ¬ (own_sch u1.toInt (0 : Int32).toInt).toInt = 1) => absurd (congrArg Int32.toInt (own_sch1 (n := u1.toInt) (f := 0) (by omega))) hc125) (fun hc125 => ?_)
              refine OwnK.iconst X7 hx (hb hby at_128) (pc' := 129) rfl (v := (1 : Int32)) (by decide) ?_
              refine OwnK.goto_ X7 hx (hb hby at_129) (by decide) (pc' := 133) (by decide) ?_
              refine OwnK.retN_ X7 hx hret (by simp) hlk (hb hby at_133) (by decide) (by decide) ?_
              exact ⟨rfl, N8⟩
            · refine OwnK.istore X0 hx (hb hby at_74) (pc' := 76) rfl (Ls' := #[.val (.int p0), .val (.int u1), .val (.int (u1 ||| (32 : Int32))), .val (.int (1 : Int32)), .val (.int (u1 - (48 : Int32))), .val (.int (1 : Int32)), .val (.int (0 : Int32)), .unset, .unset, .unset, .unset]) rfl ?_
              refine OwnK.iloadN X0 hx (hb hby at_76) (pc' := 77) rfl (v := (1 : Int32)) rfl ?_
              refine OwnK.istore X0 hx (hb hby at_77) (pc' := 79) rfl (Ls' := #[.val (.int p0), .val (.int u1), .val (.int (u1 ||| (32 : Int32))), .val (.int (1 : Int32)), .val (.int (u1 - (48 : Int32))), .val (.int (1 : Int32)), .val (.int (0 : Int32)), .val (.int (1 : Int32)), .unset, .unset, .unset]) rfl ?_
              refine OwnK.iloadN X0 hx (hb hby at_79) (pc' := 80) rfl (v := (1 : Int32)) rfl ?_
              refine OwnK.if_ne X0 hx (hb hby at_80) (by decide) (pcT := 93) (by decide) (pc' := 83) rfl (fun hc80 => ?_) (fun (hc80 : 1 = 0) => absurd hc80 (by decide))
              refine OwnK.iconst X0 hx (hb hby at_93) (pc' := 94) rfl (v := (1 : Int32)) (by decide) ?_
              refine OwnK.goto_ X0 hx (hb hby at_94) (by decide) (pc' := 98) (by decide) ?_
              refine OwnK.istore X0 hx (hb hby at_98) (pc' := 100) rfl (Ls' := #[.val (.int p0), .val (.int u1), .val (.int (u1 ||| (32 : Int32))), .val (.int (1 : Int32)), .val (.int (u1 - (48 : Int32))), .val (.int (1 : Int32)), .val (.int (0 : Int32)), .val (.int (1 : Int32)), .val (.int (1 : Int32)), .unset, .unset]) rfl ?_
              refine OwnK.iloadN X0 hx (hb hby at_100) (pc' := 101) rfl (v := u1) rfl ?_
              refine OwnK.iconst X0 hx (hb hby at_101) (pc' := 102) rfl (v := (1 : Int32)) (by decide) ?_
              refine OwnK.callS_ X0 hx hZ hown (y := (⟨"com/example/traceway/traceway/core/UrlParts", "isSchemeCharacter", "(CZ)Z"⟩ : MethodName)) (hw _ (List.mem_of_getElem? (i := 0) rfl)) (hw _ (List.mem_of_getElem? (i := 1) rfl)) (hw _ (List.mem_of_getElem? (i := 2) rfl)) (hw _ (List.mem_of_getElem? (i := 3) rfl)) (by decide) (own_m1 l Z a0 hw h0 u1 (1 : Int32)  ) (by decide) (W := 0) (by decide) e0 (by rw [hml]; rfl) own_pd_0 (argsL := [(.int u1), (.int (1 : Int32))]) rfl (S := []) rfl (by decide) (hb hby at_102) (pc' := 105) rfl (by decide) (by decide) (fun T9 v9 L9 X9 hQ9 => ?_)
              obtain ⟨rfl, e9, rfl⟩ := hQ9
              have N10 := Fr.app N0 (Fr.nil n0)
              refine OwnK.istore X9 hx (hb hby at_105) (pc' := 107) rfl (Ls' := #[.val (.int p0), .val (.int u1), .val (.int (u1 ||| (32 : Int32))), .val (.int (1 : Int32)), .val (.int (u1 - (48 : Int32))), .val (.int (1 : Int32)), .val (.int (0 : Int32)), .val (.int (1 : Int32)), .val (.int (1 : Int32)), .val (.int (own_sch u1.toInt (1 : Int32).toInt)), .unset]) rfl ?_
              refine OwnK.iloadN X9 hx (hb hby at_107) (pc' := 108) rfl (v := u1) rfl ?_
              refine OwnK.iconst X9 hx (hb hby at_108) (pc' := 109) rfl (v := (0 : Int32)) (by decide) ?_
              refine OwnK.callS_ X9 hx hZ hown (y := (⟨"com/example/traceway/traceway/core/UrlParts", "isSchemeCharacter", "(CZ)Z"⟩ : MethodName)) (hw _ (List.mem_of_getElem? (i := 0) rfl)) (hw _ (List.mem_of_getElem? (i := 1) rfl)) (hw _ (List.mem_of_getElem? (i := 2) rfl)) (hw _ (List.mem_of_getElem? (i := 3) rfl)) (by decide) (own_m1 l Z a0 hw h0 u1 (0 : Int32)  ) (by decide) (W := 0) (by decide) e9 (by rw [hml]; rfl) own_pd_0 (argsL := [(.int u1), (.int (0 : Int32))]) rfl (S := []) rfl (by decide) (hb hby at_109) (pc' := 112) rfl (by decide) (by decide) (fun T11 v11 L11 X11 hQ11 => ?_)
              obtain ⟨rfl, e11, rfl⟩ := hQ11
              have N12 := Fr.app N10 (Fr.nil n0)
              refine OwnK.istore X11 hx (hb hby at_112) (pc' := 114) rfl (Ls' := #[.val (.int p0), .val (.int u1), .val (.int (u1 ||| (32 : Int32))), .val (.int (1 : Int32)), .val (.int (u1 - (48 : Int32))), .val (.int (1 : Int32)), .val (.int (0 : Int32)), .val (.int (1 : Int32)), .val (.int (1 : Int32)), .val (.int (own_sch u1.toInt (1 : Int32).toInt)), .val (.int (own_sch u1.toInt (0 : Int32).toInt))]) rfl ?_
              refine OwnK.iload X11 hx (hb hby at_114) (pc' := 116) rfl (v := (own_sch u1.toInt (1 : Int32).toInt)) rfl ?_
              refine OwnK.iload X11 hx (hb hby at_116) (pc' := 118) rfl (v := (1 : Int32)) rfl ?_
              refine OwnK.icmp_ne X11 hx (hb hby at_118) (by decide) (pcT := 132) (by decide) (pc' := 121) rfl (fun (hc118 : ¬ (own_sch u1.toInt (1 : Int32).toInt).toInt = 1) => absurd (congrArg Int32.toInt (own_sch1 (n := u1.toInt) (f := 1) (by omega))) hc118) (fun hc118 => ?_)
              refine OwnK.iload X11 hx (hb hby at_121) (pc' := 123) rfl (v := (own_sch u1.toInt (0 : Int32).toInt)) rfl ?_
              refine OwnK.iload X11 hx (hb hby at_123) (pc' := 125) rfl (v := (1 : Int32)) rfl ?_
              refine OwnK.icmp_ne X11 hx (hb hby at_125) (by decide) (pcT := 132) (by decide) (pc' := 128) rfl (fun (hc125 : ¬ (own_sch u1.toInt (0 : Int32).toInt).toInt = 1) => absurd (congrArg Int32.toInt (own_sch1 (n := u1.toInt) (f := 0) (by omega))) hc125) (fun hc125 => ?_)
              refine OwnK.iconst X11 hx (hb hby at_128) (pc' := 129) rfl (v := (1 : Int32)) (by decide) ?_
              refine OwnK.goto_ X11 hx (hb hby at_129) (by decide) (pc' := 133) (by decide) ?_
              refine OwnK.retN_ X11 hx hret (by simp) hlk (hb hby at_133) (by decide) (by decide) ?_
              exact ⟨rfl, N12⟩
          refine OwnK.iloadN X0 hx (hb hby at_51) (pc' := 52) rfl (v := u1) rfl ?_
          refine OwnK.bipush X0 hx (hb hby at_52) (pc' := 54) rfl (v := (43 : Int32)) (by decide) ?_
          refine OwnK.icmp_eq X0 hx (hb hby at_54) (by decide) (pcT := 69) (by decide) (pc' := 57) rfl (fun (hc13 : u1.toInt = 43) => ?_) (fun (hc13 : ¬ u1.toInt = 43) => ?_)
          · refine OwnK.iconst X0 hx (hb hby at_69) (pc' := 70) rfl (v := (1 : Int32)) (by decide) ?_
            refine OwnK.goto_ X0 hx (hb hby at_70) (by decide) (pc' := 74) (by decide) ?_
            exact J4 _ (Or.inl ⟨rfl, by omega⟩)
          · refine OwnK.iloadN X0 hx (hb hby at_57) (pc' := 58) rfl (v := u1) rfl ?_
            refine OwnK.bipush X0 hx (hb hby at_58) (pc' := 60) rfl (v := (45 : Int32)) (by decide) ?_
            refine OwnK.icmp_eq X0 hx (hb hby at_60) (by decide) (pcT := 69) (by decide) (pc' := 63) rfl (fun (hc14 : u1.toInt = 45) => ?_) (fun (hc14 : ¬ u1.toInt = 45) => ?_)
            · refine OwnK.iconst X0 hx (hb hby at_69) (pc' := 70) rfl (v := (1 : Int32)) (by decide) ?_
              refine OwnK.goto_ X0 hx (hb hby at_70) (by decide) (pc' := 74) (by decide) ?_
              exact J4 _ (Or.inl ⟨rfl, by omega⟩)
            · refine OwnK.iloadN X0 hx (hb hby at_63) (pc' := 64) rfl (v := u1) rfl ?_
              refine OwnK.bipush X0 hx (hb hby at_64) (pc' := 66) rfl (v := (46 : Int32)) (by decide) ?_
              refine OwnK.icmp_ne X0 hx (hb hby at_66) (by decide) (pcT := 73) (by decide) (pc' := 69) rfl (fun (hc15 : ¬ u1.toInt = 46) => ?_) (fun (hc15 : u1.toInt = 46) => ?_)
              · refine OwnK.iconst X0 hx (hb hby at_73) (pc' := 74) rfl (v := (0 : Int32)) (by decide) ?_
                exact J4 _ (Or.inr ⟨rfl, by omega⟩)
              · refine OwnK.iconst X0 hx (hb hby at_69) (pc' := 70) rfl (v := (1 : Int32)) (by decide) ?_
                refine OwnK.goto_ X0 hx (hb hby at_70) (by decide) (pc' := 74) (by decide) ?_
                exact J4 _ (Or.inl ⟨rfl, by omega⟩)
        · refine OwnK.istore X0 hx (hb hby at_49) (pc' := 51) rfl (Ls' := #[.val (.int p0), .val (.int u1), .val (.int (u1 ||| (32 : Int32))), .val (.int (1 : Int32)), .val (.int (u1 - (48 : Int32))), .val (.int (0 : Int32)), .unset, .unset, .unset, .unset, .unset]) rfl ?_
          have J16 : ∀ v : Int32, (v = 1 ∧ (u1.toInt = 43 ∨ u1.toInt = 45 ∨ u1.toInt = 46)) ∨ (v = 0 ∧ ¬ (u1.toInt = 43 ∨ u1.toInt = 45 ∨ u1.toInt = 46)) → OwnK.Go p.tables e below (OwnK.PQ s (fun (v : Option Value) (_ : Heap) (L : List Loc) => v = some (.int (1 : Int32)) ∧ Fr n0 L) 0 0) T0 (mkF m 74 #[.val (.int p0), .val (.int u1), .val (.int (u1 ||| (32 : Int32))), .val (.int (1 : Int32)), .val (.int (u1 - (48 : Int32))), .val (.int (0 : Int32)), .unset, .unset, .unset, .unset, .unset] [(.int v)]) := by
            rintro v (⟨rfl, hJ16⟩ | ⟨rfl, hJ16⟩)
            · refine OwnK.istore X0 hx (hb hby at_74) (pc' := 76) rfl (Ls' := #[.val (.int p0), .val (.int u1), .val (.int (u1 ||| (32 : Int32))), .val (.int (1 : Int32)), .val (.int (u1 - (48 : Int32))), .val (.int (0 : Int32)), .val (.int (1 : Int32)), .unset, .unset, .unset, .unset]) rfl ?_
              refine OwnK.iloadN X0 hx (hb hby at_76) (pc' := 77) rfl (v := (1 : Int32)) rfl ?_
              refine OwnK.istore X0 hx (hb hby at_77) (pc' := 79) rfl (Ls' := #[.val (.int p0), .val (.int u1), .val (.int (u1 ||| (32 : Int32))), .val (.int (1 : Int32)), .val (.int (u1 - (48 : Int32))), .val (.int (0 : Int32)), .val (.int (1 : Int32)), .val (.int (1 : Int32)), .unset, .unset, .unset]) rfl ?_
              refine OwnK.iloadN X0 hx (hb hby at_79) (pc' := 80) rfl (v := (1 : Int32)) rfl ?_
              refine OwnK.if_ne X0 hx (hb hby at_80) (by decide) (pcT := 93) (by decide) (pc' := 83) rfl (fun hc80 => ?_) (fun (hc80 : 1 = 0) => absurd hc80 (by decide))
              refine OwnK.iconst X0 hx (hb hby at_93) (pc' := 94) rfl (v := (1 : Int32)) (by decide) ?_
              refine OwnK.goto_ X0 hx (hb hby at_94) (by decide) (pc' := 98) (by decide) ?_
              refine OwnK.istore X0 hx (hb hby at_98) (pc' := 100) rfl (Ls' := #[.val (.int p0), .val (.int u1), .val (.int (u1 ||| (32 : Int32))), .val (.int (1 : Int32)), .val (.int (u1 - (48 : Int32))), .val (.int (0 : Int32)), .val (.int (1 : Int32)), .val (.int (1 : Int32)), .val (.int (1 : Int32)), .unset, .unset]) rfl ?_
              refine OwnK.iloadN X0 hx (hb hby at_100) (pc' := 101) rfl (v := u1) rfl ?_
              refine OwnK.iconst X0 hx (hb hby at_101) (pc' := 102) rfl (v := (1 : Int32)) (by decide) ?_
              refine OwnK.callS_ X0 hx hZ hown (y := (⟨"com/example/traceway/traceway/core/UrlParts", "isSchemeCharacter", "(CZ)Z"⟩ : MethodName)) (hw _ (List.mem_of_getElem? (i := 0) rfl)) (hw _ (List.mem_of_getElem? (i := 1) rfl)) (hw _ (List.mem_of_getElem? (i := 2) rfl)) (hw _ (List.mem_of_getElem? (i := 3) rfl)) (by decide) (own_m1 l Z a0 hw h0 u1 (1 : Int32)  ) (by decide) (W := 0) (by decide) e0 (by rw [hml]; rfl) own_pd_0 (argsL := [(.int u1), (.int (1 : Int32))]) rfl (S := []) rfl (by decide) (hb hby at_102) (pc' := 105) rfl (by decide) (by decide) (fun T17 v17 L17 X17 hQ17 => ?_)
              obtain ⟨rfl, e17, rfl⟩ := hQ17
              have N18 := Fr.app N0 (Fr.nil n0)
              refine OwnK.istore X17 hx (hb hby at_105) (pc' := 107) rfl (Ls' := #[.val (.int p0), .val (.int u1), .val (.int (u1 ||| (32 : Int32))), .val (.int (1 : Int32)), .val (.int (u1 - (48 : Int32))), .val (.int (0 : Int32)), .val (.int (1 : Int32)), .val (.int (1 : Int32)), .val (.int (1 : Int32)), .val (.int (own_sch u1.toInt (1 : Int32).toInt)), .unset]) rfl ?_
              refine OwnK.iloadN X17 hx (hb hby at_107) (pc' := 108) rfl (v := u1) rfl ?_
              refine OwnK.iconst X17 hx (hb hby at_108) (pc' := 109) rfl (v := (0 : Int32)) (by decide) ?_
              refine OwnK.callS_ X17 hx hZ hown (y := (⟨"com/example/traceway/traceway/core/UrlParts", "isSchemeCharacter", "(CZ)Z"⟩ : MethodName)) (hw _ (List.mem_of_getElem? (i := 0) rfl)) (hw _ (List.mem_of_getElem? (i := 1) rfl)) (hw _ (List.mem_of_getElem? (i := 2) rfl)) (hw _ (List.mem_of_getElem? (i := 3) rfl)) (by decide) (own_m1 l Z a0 hw h0 u1 (0 : Int32)  ) (by decide) (W := 0) (by decide) e17 (by rw [hml]; rfl) own_pd_0 (argsL := [(.int u1), (.int (0 : Int32))]) rfl (S := []) rfl (by decide) (hb hby at_109) (pc' := 112) rfl (by decide) (by decide) (fun T19 v19 L19 X19 hQ19 => ?_)
              obtain ⟨rfl, e19, rfl⟩ := hQ19
              have N20 := Fr.app N18 (Fr.nil n0)
              refine OwnK.istore X19 hx (hb hby at_112) (pc' := 114) rfl (Ls' := #[.val (.int p0), .val (.int u1), .val (.int (u1 ||| (32 : Int32))), .val (.int (1 : Int32)), .val (.int (u1 - (48 : Int32))), .val (.int (0 : Int32)), .val (.int (1 : Int32)), .val (.int (1 : Int32)), .val (.int (1 : Int32)), .val (.int (own_sch u1.toInt (1 : Int32).toInt)), .val (.int (own_sch u1.toInt (0 : Int32).toInt))]) rfl ?_
              refine OwnK.iload X19 hx (hb hby at_114) (pc' := 116) rfl (v := (own_sch u1.toInt (1 : Int32).toInt)) rfl ?_
              refine OwnK.iload X19 hx (hb hby at_116) (pc' := 118) rfl (v := (1 : Int32)) rfl ?_
              refine OwnK.icmp_ne X19 hx (hb hby at_118) (by decide) (pcT := 132) (by decide) (pc' := 121) rfl (fun (hc118 : ¬ (own_sch u1.toInt (1 : Int32).toInt).toInt = 1) => absurd (congrArg Int32.toInt (own_sch1 (n := u1.toInt) (f := 1) (by omega))) hc118) (fun hc118 => ?_)
              refine OwnK.iload X19 hx (hb hby at_121) (pc' := 123) rfl (v := (own_sch u1.toInt (0 : Int32).toInt)) rfl ?_
              refine OwnK.iload X19 hx (hb hby at_123) (pc' := 125) rfl (v := (1 : Int32)) rfl ?_
              refine OwnK.icmp_ne X19 hx (hb hby at_125) (by decide) (pcT := 132) (by decide) (pc' := 128) rfl (fun (hc125 : ¬ (own_sch u1.toInt (0 : Int32).toInt).toInt = 1) => absurd (congrArg Int32.toInt (own_sch1 (n := u1.toInt) (f := 0) (by omega))) hc125) (fun hc125 => ?_)
              refine OwnK.iconst X19 hx (hb hby at_128) (pc' := 129) rfl (v := (1 : Int32)) (by decide) ?_
              refine OwnK.goto_ X19 hx (hb hby at_129) (by decide) (pc' := 133) (by decide) ?_
              refine OwnK.retN_ X19 hx hret (by simp) hlk (hb hby at_133) (by decide) (by decide) ?_
              exact ⟨rfl, N20⟩
            · refine OwnK.istore X0 hx (hb hby at_74) (pc' := 76) rfl (Ls' := #[.val (.int p0), .val (.int u1), .val (.int (u1 ||| (32 : Int32))), .val (.int (1 : Int32)), .val (.int (u1 - (48 : Int32))), .val (.int (0 : Int32)), .val (.int (0 : Int32)), .unset, .unset, .unset, .unset]) rfl ?_
              refine OwnK.iloadN X0 hx (hb hby at_76) (pc' := 77) rfl (v := (1 : Int32)) rfl ?_
              refine OwnK.istore X0 hx (hb hby at_77) (pc' := 79) rfl (Ls' := #[.val (.int p0), .val (.int u1), .val (.int (u1 ||| (32 : Int32))), .val (.int (1 : Int32)), .val (.int (u1 - (48 : Int32))), .val (.int (0 : Int32)), .val (.int (0 : Int32)), .val (.int (1 : Int32)), .unset, .unset, .unset]) rfl ?_
              refine OwnK.iloadN X0 hx (hb hby at_79) (pc' := 80) rfl (v := (1 : Int32)) rfl ?_
              refine OwnK.if_ne X0 hx (hb hby at_80) (by decide) (pcT := 93) (by decide) (pc' := 83) rfl (fun hc80 => ?_) (fun (hc80 : 1 = 0) => absurd hc80 (by decide))
              refine OwnK.iconst X0 hx (hb hby at_93) (pc' := 94) rfl (v := (1 : Int32)) (by decide) ?_
              refine OwnK.goto_ X0 hx (hb hby at_94) (by decide) (pc' := 98) (by decide) ?_
              refine OwnK.istore X0 hx (hb hby at_98) (pc' := 100) rfl (Ls' := #[.val (.int p0), .val (.int u1), .val (.int (u1 ||| (32 : Int32))), .val (.int (1 : Int32)), .val (.int (u1 - (48 : Int32))), .val (.int (0 : Int32)), .val (.int (0 : Int32)), .val (.int (1 : Int32)), .val (.int (1 : Int32)), .unset, .unset]) rfl ?_
              refine OwnK.iloadN X0 hx (hb hby at_100) (pc' := 101) rfl (v := u1) rfl ?_
              refine OwnK.iconst X0 hx (hb hby at_101) (pc' := 102) rfl (v := (1 : Int32)) (by decide) ?_
              refine OwnK.callS_ X0 hx hZ hown (y := (⟨"com/example/traceway/traceway/core/UrlParts", "isSchemeCharacter", "(CZ)Z"⟩ : MethodName)) (hw _ (List.mem_of_getElem? (i := 0) rfl)) (hw _ (List.mem_of_getElem? (i := 1) rfl)) (hw _ (List.mem_of_getElem? (i := 2) rfl)) (hw _ (List.mem_of_getElem? (i := 3) rfl)) (by decide) (own_m1 l Z a0 hw h0 u1 (1 : Int32)  ) (by decide) (W := 0) (by decide) e0 (by rw [hml]; rfl) own_pd_0 (argsL := [(.int u1), (.int (1 : Int32))]) rfl (S := []) rfl (by decide) (hb hby at_102) (pc' := 105) rfl (by decide) (by decide) (fun T21 v21 L21 X21 hQ21 => ?_)
              obtain ⟨rfl, e21, rfl⟩ := hQ21
              have N22 := Fr.app N0 (Fr.nil n0)
              refine OwnK.istore X21 hx (hb hby at_105) (pc' := 107) rfl (Ls' := #[.val (.int p0), .val (.int u1), .val (.int (u1 ||| (32 : Int32))), .val (.int (1 : Int32)), .val (.int (u1 - (48 : Int32))), .val (.int (0 : Int32)), .val (.int (0 : Int32)), .val (.int (1 : Int32)), .val (.int (1 : Int32)), .val (.int (own_sch u1.toInt (1 : Int32).toInt)), .unset]) rfl ?_
              refine OwnK.iloadN X21 hx (hb hby at_107) (pc' := 108) rfl (v := u1) rfl ?_
              refine OwnK.iconst X21 hx (hb hby at_108) (pc' := 109) rfl (v := (0 : Int32)) (by decide) ?_
              refine OwnK.callS_ X21 hx hZ hown (y := (⟨"com/example/traceway/traceway/core/UrlParts", "isSchemeCharacter", "(CZ)Z"⟩ : MethodName)) (hw _ (List.mem_of_getElem? (i := 0) rfl)) (hw _ (List.mem_of_getElem? (i := 1) rfl)) (hw _ (List.mem_of_getElem? (i := 2) rfl)) (hw _ (List.mem_of_getElem? (i := 3) rfl)) (by decide) (own_m1 l Z a0 hw h0 u1 (0 : Int32)  ) (by decide) (W := 0) (by decide) e21 (by rw [hml]; rfl) own_pd_0 (argsL := [(.int u1), (.int (0 : Int32))]) rfl (S := []) rfl (by decide) (hb hby at_109) (pc' := 112) rfl (by decide) (by decide) (fun T23 v23 L23 X23 hQ23 => ?_)
              obtain ⟨rfl, e23, rfl⟩ := hQ23
              have N24 := Fr.app N22 (Fr.nil n0)
              refine OwnK.istore X23 hx (hb hby at_112) (pc' := 114) rfl (Ls' := #[.val (.int p0), .val (.int u1), .val (.int (u1 ||| (32 : Int32))), .val (.int (1 : Int32)), .val (.int (u1 - (48 : Int32))), .val (.int (0 : Int32)), .val (.int (0 : Int32)), .val (.int (1 : Int32)), .val (.int (1 : Int32)), .val (.int (own_sch u1.toInt (1 : Int32).toInt)), .val (.int (own_sch u1.toInt (0 : Int32).toInt))]) rfl ?_
              refine OwnK.iload X23 hx (hb hby at_114) (pc' := 116) rfl (v := (own_sch u1.toInt (1 : Int32).toInt)) rfl ?_
              refine OwnK.iload X23 hx (hb hby at_116) (pc' := 118) rfl (v := (1 : Int32)) rfl ?_
              refine OwnK.icmp_ne X23 hx (hb hby at_118) (by decide) (pcT := 132) (by decide) (pc' := 121) rfl (fun (hc118 : ¬ (own_sch u1.toInt (1 : Int32).toInt).toInt = 1) => absurd (congrArg Int32.toInt (own_sch1 (n := u1.toInt) (f := 1) (by omega))) hc118) (fun hc118 => ?_)
              refine OwnK.iload X23 hx (hb hby at_121) (pc' := 123) rfl (v := (own_sch u1.toInt (0 : Int32).toInt)) rfl ?_
              refine OwnK.iload X23 hx (hb hby at_123) (pc' := 125) rfl (v := (1 : Int32)) rfl ?_
              refine OwnK.icmp_ne X23 hx (hb hby at_125) (by decide) (pcT := 132) (by decide) (pc' := 128) rfl (fun (hc125 : ¬ (own_sch u1.toInt (0 : Int32).toInt).toInt = 1) => absurd (congrArg Int32.toInt (own_sch1 (n := u1.toInt) (f := 0) (by omega))) hc125) (fun hc125 => ?_)
              refine OwnK.iconst X23 hx (hb hby at_128) (pc' := 129) rfl (v := (1 : Int32)) (by decide) ?_
              refine OwnK.goto_ X23 hx (hb hby at_129) (by decide) (pc' := 133) (by decide) ?_
              refine OwnK.retN_ X23 hx hret (by simp) hlk (hb hby at_133) (by decide) (by decide) ?_
              exact ⟨rfl, N24⟩
          refine OwnK.iloadN X0 hx (hb hby at_51) (pc' := 52) rfl (v := u1) rfl ?_
          refine OwnK.bipush X0 hx (hb hby at_52) (pc' := 54) rfl (v := (43 : Int32)) (by decide) ?_
          refine OwnK.icmp_eq X0 hx (hb hby at_54) (by decide) (pcT := 69) (by decide) (pc' := 57) rfl (fun (hc25 : u1.toInt = 43) => ?_) (fun (hc25 : ¬ u1.toInt = 43) => ?_)
          · refine OwnK.iconst X0 hx (hb hby at_69) (pc' := 70) rfl (v := (1 : Int32)) (by decide) ?_
            refine OwnK.goto_ X0 hx (hb hby at_70) (by decide) (pc' := 74) (by decide) ?_
            exact J16 _ (Or.inl ⟨rfl, by omega⟩)
          · refine OwnK.iloadN X0 hx (hb hby at_57) (pc' := 58) rfl (v := u1) rfl ?_
            refine OwnK.bipush X0 hx (hb hby at_58) (pc' := 60) rfl (v := (45 : Int32)) (by decide) ?_
            refine OwnK.icmp_eq X0 hx (hb hby at_60) (by decide) (pcT := 69) (by decide) (pc' := 63) rfl (fun (hc26 : u1.toInt = 45) => ?_) (fun (hc26 : ¬ u1.toInt = 45) => ?_)
            · refine OwnK.iconst X0 hx (hb hby at_69) (pc' := 70) rfl (v := (1 : Int32)) (by decide) ?_
              refine OwnK.goto_ X0 hx (hb hby at_70) (by decide) (pc' := 74) (by decide) ?_
              exact J16 _ (Or.inl ⟨rfl, by omega⟩)
            · refine OwnK.iloadN X0 hx (hb hby at_63) (pc' := 64) rfl (v := u1) rfl ?_
              refine OwnK.bipush X0 hx (hb hby at_64) (pc' := 66) rfl (v := (46 : Int32)) (by decide) ?_
              refine OwnK.icmp_ne X0 hx (hb hby at_66) (by decide) (pcT := 73) (by decide) (pc' := 69) rfl (fun (hc27 : ¬ u1.toInt = 46) => ?_) (fun (hc27 : u1.toInt = 46) => ?_)
              · refine OwnK.iconst X0 hx (hb hby at_73) (pc' := 74) rfl (v := (0 : Int32)) (by decide) ?_
                exact J16 _ (Or.inr ⟨rfl, by omega⟩)
              · refine OwnK.iconst X0 hx (hb hby at_69) (pc' := 70) rfl (v := (1 : Int32)) (by decide) ?_
                refine OwnK.goto_ X0 hx (hb hby at_70) (by decide) (pc' := 74) (by decide) ?_
                exact J16 _ (Or.inl ⟨rfl, by omega⟩)
      refine OwnK.iload X0 hx (hb hby at_32) (pc' := 34) rfl (v := (u1 - (48 : Int32))) rfl ?_
      refine OwnK.if_lt X0 hx (hb hby at_34) (by decide) (pcT := 48) (by decide) (pc' := 37) rfl (fun (hc28 : (u1 - (48 : Int32)).toInt < 0) => ?_) (fun (hc28 : 0 ≤ (u1 - (48 : Int32)).toInt) => ?_)
      · refine OwnK.iconst X0 hx (hb hby at_48) (pc' := 49) rfl (v := (0 : Int32)) (by decide) ?_
        exact J3 _ (Or.inr ⟨rfl, by omega⟩)
      · refine OwnK.iload X0 hx (hb hby at_37) (pc' := 39) rfl (v := (u1 - (48 : Int32))) rfl ?_
        refine OwnK.bipush X0 hx (hb hby at_39) (pc' := 41) rfl (v := (10 : Int32)) (by decide) ?_
        refine OwnK.icmp_ge X0 hx (hb hby at_41) (by decide) (pcT := 48) (by decide) (pc' := 44) rfl (fun (hc29 : 10 ≤ (u1 - (48 : Int32)).toInt) => ?_) (fun (hc29 : (u1 - (48 : Int32)).toInt < 10) => ?_)
        · refine OwnK.iconst X0 hx (hb hby at_48) (pc' := 49) rfl (v := (0 : Int32)) (by decide) ?_
          exact J3 _ (Or.inr ⟨rfl, by omega⟩)
        · refine OwnK.iconst X0 hx (hb hby at_44) (pc' := 45) rfl (v := (1 : Int32)) (by decide) ?_
          refine OwnK.goto_ X0 hx (hb hby at_45) (by decide) (pc' := 49) (by decide) ?_
          exact J3 _ (Or.inl ⟨rfl, by omega⟩)
    · refine OwnK.istoreN X0 hx (hb hby at_25) (pc' := 26) rfl (Ls' := #[.val (.int p0), .val (.int u1), .val (.int (u1 ||| (32 : Int32))), .val (.int (0 : Int32)), .unset, .unset, .unset, .unset, .unset, .unset, .unset]) rfl ?_
      refine OwnK.iloadN X0 hx (hb hby at_26) (pc' := 27) rfl (v := u1) rfl ?_
      refine OwnK.bipush X0 hx (hb hby at_27) (pc' := 29) rfl (v := (48 : Int32)) (by decide) ?_
      refine OwnK.isub X0 hx (hb hby at_29) (pc' := 30) rfl ?_
      refine OwnK.istore X0 hx (hb hby at_30) (pc' := 32) rfl (Ls' := #[.val (.int p0), .val (.int u1), .val (.int (u1 ||| (32 : Int32))), .val (.int (0 : Int32)), .val (.int (u1 - (48 : Int32))), .unset, .unset, .unset, .unset, .unset, .unset]) rfl ?_
      have hd48 := own_sub48 hb0 hb1
      have J30 : ∀ v : Int32, (v = 1 ∧ (48 ≤ u1.toInt ∧ u1.toInt ≤ 57)) ∨ (v = 0 ∧ ¬ (48 ≤ u1.toInt ∧ u1.toInt ≤ 57)) → OwnK.Go p.tables e below (OwnK.PQ s (fun (v : Option Value) (_ : Heap) (L : List Loc) => v = some (.int (1 : Int32)) ∧ Fr n0 L) 0 0) T0 (mkF m 49 #[.val (.int p0), .val (.int u1), .val (.int (u1 ||| (32 : Int32))), .val (.int (0 : Int32)), .val (.int (u1 - (48 : Int32))), .unset, .unset, .unset, .unset, .unset, .unset] [(.int v)]) := by
        rintro v (⟨rfl, hJ30⟩ | ⟨rfl, hJ30⟩)
        · refine OwnK.istore X0 hx (hb hby at_49) (pc' := 51) rfl (Ls' := #[.val (.int p0), .val (.int u1), .val (.int (u1 ||| (32 : Int32))), .val (.int (0 : Int32)), .val (.int (u1 - (48 : Int32))), .val (.int (1 : Int32)), .unset, .unset, .unset, .unset, .unset]) rfl ?_
          have J31 : ∀ v : Int32, (v = 1 ∧ (u1.toInt = 43 ∨ u1.toInt = 45 ∨ u1.toInt = 46)) ∨ (v = 0 ∧ ¬ (u1.toInt = 43 ∨ u1.toInt = 45 ∨ u1.toInt = 46)) → OwnK.Go p.tables e below (OwnK.PQ s (fun (v : Option Value) (_ : Heap) (L : List Loc) => v = some (.int (1 : Int32)) ∧ Fr n0 L) 0 0) T0 (mkF m 74 #[.val (.int p0), .val (.int u1), .val (.int (u1 ||| (32 : Int32))), .val (.int (0 : Int32)), .val (.int (u1 - (48 : Int32))), .val (.int (1 : Int32)), .unset, .unset, .unset, .unset, .unset] [(.int v)]) := by
            rintro v (⟨rfl, hJ31⟩ | ⟨rfl, hJ31⟩)
            · refine OwnK.istore X0 hx (hb hby at_74) (pc' := 76) rfl (Ls' := #[.val (.int p0), .val (.int u1), .val (.int (u1 ||| (32 : Int32))), .val (.int (0 : Int32)), .val (.int (u1 - (48 : Int32))), .val (.int (1 : Int32)), .val (.int (1 : Int32)), .unset, .unset, .unset, .unset]) rfl ?_
              refine OwnK.iloadN X0 hx (hb hby at_76) (pc' := 77) rfl (v := (0 : Int32)) rfl ?_
              refine OwnK.istore X0 hx (hb hby at_77) (pc' := 79) rfl (Ls' := #[.val (.int p0), .val (.int u1), .val (.int (u1 ||| (32 : Int32))), .val (.int (0 : Int32)), .val (.int (u1 - (48 : Int32))), .val (.int (1 : Int32)), .val (.int (1 : Int32)), .val (.int (0 : Int32)), .unset, .unset, .unset]) rfl ?_
              refine OwnK.iloadN X0 hx (hb hby at_79) (pc' := 80) rfl (v := (0 : Int32)) rfl ?_
              refine OwnK.if_ne X0 hx (hb hby at_80) (by decide) (pcT := 93) (by decide) (pc' := 83) rfl (fun (hc80 : ¬ 0 = 0) => absurd hc80 (by decide)) (fun hc80 => ?_)
              refine OwnK.iload X0 hx (hb hby at_83) (pc' := 85) rfl (v := (1 : Int32)) rfl ?_
              refine OwnK.if_ne X0 hx (hb hby at_85) (by decide) (pcT := 93) (by decide) (pc' := 88) rfl (fun hc85 => ?_) (fun (hc85 : 1 = 0) => absurd hc85 (by decide))
              refine OwnK.iconst X0 hx (hb hby at_93) (pc' := 94) rfl (v := (1 : Int32)) (by decide) ?_
              refine OwnK.goto_ X0 hx (hb hby at_94) (by decide) (pc' := 98) (by decide) ?_
              refine OwnK.istore X0 hx (hb hby at_98) (pc' := 100) rfl (Ls' := #[.val (.int p0), .val (.int u1), .val (.int (u1 ||| (32 : Int32))), .val (.int (0 : Int32)), .val (.int (u1 - (48 : Int32))), .val (.int (1 : Int32)), .val (.int (1 : Int32)), .val (.int (0 : Int32)), .val (.int (1 : Int32)), .unset, .unset]) rfl ?_
              refine OwnK.iloadN X0 hx (hb hby at_100) (pc' := 101) rfl (v := u1) rfl ?_
              refine OwnK.iconst X0 hx (hb hby at_101) (pc' := 102) rfl (v := (1 : Int32)) (by decide) ?_
              refine OwnK.callS_ X0 hx hZ hown (y := (⟨"com/example/traceway/traceway/core/UrlParts", "isSchemeCharacter", "(CZ)Z"⟩ : MethodName)) (hw _ (List.mem_of_getElem? (i := 0) rfl)) (hw _ (List.mem_of_getElem? (i := 1) rfl)) (hw _ (List.mem_of_getElem? (i := 2) rfl)) (hw _ (List.mem_of_getElem? (i := 3) rfl)) (by decide) (own_m1 l Z a0 hw h0 u1 (1 : Int32)  ) (by decide) (W := 0) (by decide) e0 (by rw [hml]; rfl) own_pd_0 (argsL := [(.int u1), (.int (1 : Int32))]) rfl (S := []) rfl (by decide) (hb hby at_102) (pc' := 105) rfl (by decide) (by decide) (fun T32 v32 L32 X32 hQ32 => ?_)
              obtain ⟨rfl, e32, rfl⟩ := hQ32
              have N33 := Fr.app N0 (Fr.nil n0)
              refine OwnK.istore X32 hx (hb hby at_105) (pc' := 107) rfl (Ls' := #[.val (.int p0), .val (.int u1), .val (.int (u1 ||| (32 : Int32))), .val (.int (0 : Int32)), .val (.int (u1 - (48 : Int32))), .val (.int (1 : Int32)), .val (.int (1 : Int32)), .val (.int (0 : Int32)), .val (.int (1 : Int32)), .val (.int (own_sch u1.toInt (1 : Int32).toInt)), .unset]) rfl ?_
              refine OwnK.iloadN X32 hx (hb hby at_107) (pc' := 108) rfl (v := u1) rfl ?_
              refine OwnK.iconst X32 hx (hb hby at_108) (pc' := 109) rfl (v := (0 : Int32)) (by decide) ?_
              refine OwnK.callS_ X32 hx hZ hown (y := (⟨"com/example/traceway/traceway/core/UrlParts", "isSchemeCharacter", "(CZ)Z"⟩ : MethodName)) (hw _ (List.mem_of_getElem? (i := 0) rfl)) (hw _ (List.mem_of_getElem? (i := 1) rfl)) (hw _ (List.mem_of_getElem? (i := 2) rfl)) (hw _ (List.mem_of_getElem? (i := 3) rfl)) (by decide) (own_m1 l Z a0 hw h0 u1 (0 : Int32)  ) (by decide) (W := 0) (by decide) e32 (by rw [hml]; rfl) own_pd_0 (argsL := [(.int u1), (.int (0 : Int32))]) rfl (S := []) rfl (by decide) (hb hby at_109) (pc' := 112) rfl (by decide) (by decide) (fun T34 v34 L34 X34 hQ34 => ?_)
              obtain ⟨rfl, e34, rfl⟩ := hQ34
              have N35 := Fr.app N33 (Fr.nil n0)
              refine OwnK.istore X34 hx (hb hby at_112) (pc' := 114) rfl (Ls' := #[.val (.int p0), .val (.int u1), .val (.int (u1 ||| (32 : Int32))), .val (.int (0 : Int32)), .val (.int (u1 - (48 : Int32))), .val (.int (1 : Int32)), .val (.int (1 : Int32)), .val (.int (0 : Int32)), .val (.int (1 : Int32)), .val (.int (own_sch u1.toInt (1 : Int32).toInt)), .val (.int (own_sch u1.toInt (0 : Int32).toInt))]) rfl ?_
              refine OwnK.iload X34 hx (hb hby at_114) (pc' := 116) rfl (v := (own_sch u1.toInt (1 : Int32).toInt)) rfl ?_
              refine OwnK.iload X34 hx (hb hby at_116) (pc' := 118) rfl (v := (0 : Int32)) rfl ?_
              refine OwnK.icmp_ne X34 hx (hb hby at_118) (by decide) (pcT := 132) (by decide) (pc' := 121) rfl (fun (hc118 : ¬ (own_sch u1.toInt (1 : Int32).toInt).toInt = 0) => absurd (congrArg Int32.toInt (own_sch0 (n := u1.toInt) (f := 1) (by omega))) hc118) (fun hc118 => ?_)
              refine OwnK.iload X34 hx (hb hby at_121) (pc' := 123) rfl (v := (own_sch u1.toInt (0 : Int32).toInt)) rfl ?_
              refine OwnK.iload X34 hx (hb hby at_123) (pc' := 125) rfl (v := (1 : Int32)) rfl ?_
              refine OwnK.icmp_ne X34 hx (hb hby at_125) (by decide) (pcT := 132) (by decide) (pc' := 128) rfl (fun (hc125 : ¬ (own_sch u1.toInt (0 : Int32).toInt).toInt = 1) => absurd (congrArg Int32.toInt (own_sch1 (n := u1.toInt) (f := 0) (by omega))) hc125) (fun hc125 => ?_)
              refine OwnK.iconst X34 hx (hb hby at_128) (pc' := 129) rfl (v := (1 : Int32)) (by decide) ?_
              refine OwnK.goto_ X34 hx (hb hby at_129) (by decide) (pc' := 133) (by decide) ?_
              refine OwnK.retN_ X34 hx hret (by simp) hlk (hb hby at_133) (by decide) (by decide) ?_
              exact ⟨rfl, N35⟩
            · refine OwnK.istore X0 hx (hb hby at_74) (pc' := 76) rfl (Ls' := #[.val (.int p0), .val (.int u1), .val (.int (u1 ||| (32 : Int32))), .val (.int (0 : Int32)), .val (.int (u1 - (48 : Int32))), .val (.int (1 : Int32)), .val (.int (0 : Int32)), .unset, .unset, .unset, .unset]) rfl ?_
              refine OwnK.iloadN X0 hx (hb hby at_76) (pc' := 77) rfl (v := (0 : Int32)) rfl ?_
              refine OwnK.istore X0 hx (hb hby at_77) (pc' := 79) rfl (Ls' := #[.val (.int p0), .val (.int u1), .val (.int (u1 ||| (32 : Int32))), .val (.int (0 : Int32)), .val (.int (u1 - (48 : Int32))), .val (.int (1 : Int32)), .val (.int (0 : Int32)), .val (.int (0 : Int32)), .unset, .unset, .unset]) rfl ?_
              refine OwnK.iloadN X0 hx (hb hby at_79) (pc' := 80) rfl (v := (0 : Int32)) rfl ?_
              refine OwnK.if_ne X0 hx (hb hby at_80) (by decide) (pcT := 93) (by decide) (pc' := 83) rfl (fun (hc80 : ¬ 0 = 0) => absurd hc80 (by decide)) (fun hc80 => ?_)
              refine OwnK.iload X0 hx (hb hby at_83) (pc' := 85) rfl (v := (1 : Int32)) rfl ?_
              refine OwnK.if_ne X0 hx (hb hby at_85) (by decide) (pcT := 93) (by decide) (pc' := 88) rfl (fun hc85 => ?_) (fun (hc85 : 1 = 0) => absurd hc85 (by decide))
              refine OwnK.iconst X0 hx (hb hby at_93) (pc' := 94) rfl (v := (1 : Int32)) (by decide) ?_
              refine OwnK.goto_ X0 hx (hb hby at_94) (by decide) (pc' := 98) (by decide) ?_
              refine OwnK.istore X0 hx (hb hby at_98) (pc' := 100) rfl (Ls' := #[.val (.int p0), .val (.int u1), .val (.int (u1 ||| (32 : Int32))), .val (.int (0 : Int32)), .val (.int (u1 - (48 : Int32))), .val (.int (1 : Int32)), .val (.int (0 : Int32)), .val (.int (0 : Int32)), .val (.int (1 : Int32)), .unset, .unset]) rfl ?_
              refine OwnK.iloadN X0 hx (hb hby at_100) (pc' := 101) rfl (v := u1) rfl ?_
              refine OwnK.iconst X0 hx (hb hby at_101) (pc' := 102) rfl (v := (1 : Int32)) (by decide) ?_
              refine OwnK.callS_ X0 hx hZ hown (y := (⟨"com/example/traceway/traceway/core/UrlParts", "isSchemeCharacter", "(CZ)Z"⟩ : MethodName)) (hw _ (List.mem_of_getElem? (i := 0) rfl)) (hw _ (List.mem_of_getElem? (i := 1) rfl)) (hw _ (List.mem_of_getElem? (i := 2) rfl)) (hw _ (List.mem_of_getElem? (i := 3) rfl)) (by decide) (own_m1 l Z a0 hw h0 u1 (1 : Int32)  ) (by decide) (W := 0) (by decide) e0 (by rw [hml]; rfl) own_pd_0 (argsL := [(.int u1), (.int (1 : Int32))]) rfl (S := []) rfl (by decide) (hb hby at_102) (pc' := 105) rfl (by decide) (by decide) (fun T36 v36 L36 X36 hQ36 => ?_)
              obtain ⟨rfl, e36, rfl⟩ := hQ36
              have N37 := Fr.app N0 (Fr.nil n0)
              refine OwnK.istore X36 hx (hb hby at_105) (pc' := 107) rfl (Ls' := #[.val (.int p0), .val (.int u1), .val (.int (u1 ||| (32 : Int32))), .val (.int (0 : Int32)), .val (.int (u1 - (48 : Int32))), .val (.int (1 : Int32)), .val (.int (0 : Int32)), .val (.int (0 : Int32)), .val (.int (1 : Int32)), .val (.int (own_sch u1.toInt (1 : Int32).toInt)), .unset]) rfl ?_
              refine OwnK.iloadN X36 hx (hb hby at_107) (pc' := 108) rfl (v := u1) rfl ?_
              refine OwnK.iconst X36 hx (hb hby at_108) (pc' := 109) rfl (v := (0 : Int32)) (by decide) ?_
              refine OwnK.callS_ X36 hx hZ hown (y := (⟨"com/example/traceway/traceway/core/UrlParts", "isSchemeCharacter", "(CZ)Z"⟩ : MethodName)) (hw _ (List.mem_of_getElem? (i := 0) rfl)) (hw _ (List.mem_of_getElem? (i := 1) rfl)) (hw _ (List.mem_of_getElem? (i := 2) rfl)) (hw _ (List.mem_of_getElem? (i := 3) rfl)) (by decide) (own_m1 l Z a0 hw h0 u1 (0 : Int32)  ) (by decide) (W := 0) (by decide) e36 (by rw [hml]; rfl) own_pd_0 (argsL := [(.int u1), (.int (0 : Int32))]) rfl (S := []) rfl (by decide) (hb hby at_109) (pc' := 112) rfl (by decide) (by decide) (fun T38 v38 L38 X38 hQ38 => ?_)
              obtain ⟨rfl, e38, rfl⟩ := hQ38
              have N39 := Fr.app N37 (Fr.nil n0)
              refine OwnK.istore X38 hx (hb hby at_112) (pc' := 114) rfl (Ls' := #[.val (.int p0), .val (.int u1), .val (.int (u1 ||| (32 : Int32))), .val (.int (0 : Int32)), .val (.int (u1 - (48 : Int32))), .val (.int (1 : Int32)), .val (.int (0 : Int32)), .val (.int (0 : Int32)), .val (.int (1 : Int32)), .val (.int (own_sch u1.toInt (1 : Int32).toInt)), .val (.int (own_sch u1.toInt (0 : Int32).toInt))]) rfl ?_
              refine OwnK.iload X38 hx (hb hby at_114) (pc' := 116) rfl (v := (own_sch u1.toInt (1 : Int32).toInt)) rfl ?_
              refine OwnK.iload X38 hx (hb hby at_116) (pc' := 118) rfl (v := (0 : Int32)) rfl ?_
              refine OwnK.icmp_ne X38 hx (hb hby at_118) (by decide) (pcT := 132) (by decide) (pc' := 121) rfl (fun (hc118 : ¬ (own_sch u1.toInt (1 : Int32).toInt).toInt = 0) => absurd (congrArg Int32.toInt (own_sch0 (n := u1.toInt) (f := 1) (by omega))) hc118) (fun hc118 => ?_)
              refine OwnK.iload X38 hx (hb hby at_121) (pc' := 123) rfl (v := (own_sch u1.toInt (0 : Int32).toInt)) rfl ?_
              refine OwnK.iload X38 hx (hb hby at_123) (pc' := 125) rfl (v := (1 : Int32)) rfl ?_
              refine OwnK.icmp_ne X38 hx (hb hby at_125) (by decide) (pcT := 132) (by decide) (pc' := 128) rfl (fun (hc125 : ¬ (own_sch u1.toInt (0 : Int32).toInt).toInt = 1) => absurd (congrArg Int32.toInt (own_sch1 (n := u1.toInt) (f := 0) (by omega))) hc125) (fun hc125 => ?_)
              refine OwnK.iconst X38 hx (hb hby at_128) (pc' := 129) rfl (v := (1 : Int32)) (by decide) ?_
              refine OwnK.goto_ X38 hx (hb hby at_129) (by decide) (pc' := 133) (by decide) ?_
              refine OwnK.retN_ X38 hx hret (by simp) hlk (hb hby at_133) (by decide) (by decide) ?_
              exact ⟨rfl, N39⟩
          refine OwnK.iloadN X0 hx (hb hby at_51) (pc' := 52) rfl (v := u1) rfl ?_
          refine OwnK.bipush X0 hx (hb hby at_52) (pc' := 54) rfl (v := (43 : Int32)) (by decide) ?_
          refine OwnK.icmp_eq X0 hx (hb hby at_54) (by decide) (pcT := 69) (by decide) (pc' := 57) rfl (fun (hc40 : u1.toInt = 43) => ?_) (fun (hc40 : ¬ u1.toInt = 43) => ?_)
          · refine OwnK.iconst X0 hx (hb hby at_69) (pc' := 70) rfl (v := (1 : Int32)) (by decide) ?_
            refine OwnK.goto_ X0 hx (hb hby at_70) (by decide) (pc' := 74) (by decide) ?_
            exact J31 _ (Or.inl ⟨rfl, by omega⟩)
          · refine OwnK.iloadN X0 hx (hb hby at_57) (pc' := 58) rfl (v := u1) rfl ?_
            refine OwnK.bipush X0 hx (hb hby at_58) (pc' := 60) rfl (v := (45 : Int32)) (by decide) ?_
            refine OwnK.icmp_eq X0 hx (hb hby at_60) (by decide) (pcT := 69) (by decide) (pc' := 63) rfl (fun (hc41 : u1.toInt = 45) => ?_) (fun (hc41 : ¬ u1.toInt = 45) => ?_)
            · refine OwnK.iconst X0 hx (hb hby at_69) (pc' := 70) rfl (v := (1 : Int32)) (by decide) ?_
              refine OwnK.goto_ X0 hx (hb hby at_70) (by decide) (pc' := 74) (by decide) ?_
              exact J31 _ (Or.inl ⟨rfl, by omega⟩)
            · refine OwnK.iloadN X0 hx (hb hby at_63) (pc' := 64) rfl (v := u1) rfl ?_
              refine OwnK.bipush X0 hx (hb hby at_64) (pc' := 66) rfl (v := (46 : Int32)) (by decide) ?_
              refine OwnK.icmp_ne X0 hx (hb hby at_66) (by decide) (pcT := 73) (by decide) (pc' := 69) rfl (fun (hc42 : ¬ u1.toInt = 46) => ?_) (fun (hc42 : u1.toInt = 46) => ?_)
              · refine OwnK.iconst X0 hx (hb hby at_73) (pc' := 74) rfl (v := (0 : Int32)) (by decide) ?_
                exact J31 _ (Or.inr ⟨rfl, by omega⟩)
              · refine OwnK.iconst X0 hx (hb hby at_69) (pc' := 70) rfl (v := (1 : Int32)) (by decide) ?_
                refine OwnK.goto_ X0 hx (hb hby at_70) (by decide) (pc' := 74) (by decide) ?_
                exact J31 _ (Or.inl ⟨rfl, by omega⟩)
        · refine OwnK.istore X0 hx (hb hby at_49) (pc' := 51) rfl (Ls' := #[.val (.int p0), .val (.int u1), .val (.int (u1 ||| (32 : Int32))), .val (.int (0 : Int32)), .val (.int (u1 - (48 : Int32))), .val (.int (0 : Int32)), .unset, .unset, .unset, .unset, .unset]) rfl ?_
          have J43 : ∀ v : Int32, (v = 1 ∧ (u1.toInt = 43 ∨ u1.toInt = 45 ∨ u1.toInt = 46)) ∨ (v = 0 ∧ ¬ (u1.toInt = 43 ∨ u1.toInt = 45 ∨ u1.toInt = 46)) → OwnK.Go p.tables e below (OwnK.PQ s (fun (v : Option Value) (_ : Heap) (L : List Loc) => v = some (.int (1 : Int32)) ∧ Fr n0 L) 0 0) T0 (mkF m 74 #[.val (.int p0), .val (.int u1), .val (.int (u1 ||| (32 : Int32))), .val (.int (0 : Int32)), .val (.int (u1 - (48 : Int32))), .val (.int (0 : Int32)), .unset, .unset, .unset, .unset, .unset] [(.int v)]) := by
            rintro v (⟨rfl, hJ43⟩ | ⟨rfl, hJ43⟩)
            · refine OwnK.istore X0 hx (hb hby at_74) (pc' := 76) rfl (Ls' := #[.val (.int p0), .val (.int u1), .val (.int (u1 ||| (32 : Int32))), .val (.int (0 : Int32)), .val (.int (u1 - (48 : Int32))), .val (.int (0 : Int32)), .val (.int (1 : Int32)), .unset, .unset, .unset, .unset]) rfl ?_
              refine OwnK.iloadN X0 hx (hb hby at_76) (pc' := 77) rfl (v := (0 : Int32)) rfl ?_
              refine OwnK.istore X0 hx (hb hby at_77) (pc' := 79) rfl (Ls' := #[.val (.int p0), .val (.int u1), .val (.int (u1 ||| (32 : Int32))), .val (.int (0 : Int32)), .val (.int (u1 - (48 : Int32))), .val (.int (0 : Int32)), .val (.int (1 : Int32)), .val (.int (0 : Int32)), .unset, .unset, .unset]) rfl ?_
              refine OwnK.iloadN X0 hx (hb hby at_79) (pc' := 80) rfl (v := (0 : Int32)) rfl ?_
              refine OwnK.if_ne X0 hx (hb hby at_80) (by decide) (pcT := 93) (by decide) (pc' := 83) rfl (fun (hc80 : ¬ 0 = 0) => absurd hc80 (by decide)) (fun hc80 => ?_)
              refine OwnK.iload X0 hx (hb hby at_83) (pc' := 85) rfl (v := (0 : Int32)) rfl ?_
              refine OwnK.if_ne X0 hx (hb hby at_85) (by decide) (pcT := 93) (by decide) (pc' := 88) rfl (fun (hc85 : ¬ 0 = 0) => absurd hc85 (by decide)) (fun hc85 => ?_)
              refine OwnK.iload X0 hx (hb hby at_88) (pc' := 90) rfl (v := (1 : Int32)) rfl ?_
              refine OwnK.if_eq X0 hx (hb hby at_90) (by decide) (pcT := 97) (by decide) (pc' := 93) rfl (fun (hc90 : 1 = 0) => absurd hc90 (by decide)) (fun hc90 => ?_)
              refine OwnK.iconst X0 hx (hb hby at_93) (pc' := 94) rfl (v := (1 : Int32)) (by decide) ?_
              refine OwnK.goto_ X0 hx (hb hby at_94) (by decide) (pc' := 98) (by decide) ?_
              refine OwnK.istore X0 hx (hb hby at_98) (pc' := 100) rfl (Ls' := #[.val (.int p0), .val (.int u1), .val (.int (u1 ||| (32 : Int32))), .val (.int (0 : Int32)), .val (.int (u1 - (48 : Int32))), .val (.int (0 : Int32)), .val (.int (1 : Int32)), .val (.int (0 : Int32)), .val (.int (1 : Int32)), .unset, .unset]) rfl ?_
              refine OwnK.iloadN X0 hx (hb hby at_100) (pc' := 101) rfl (v := u1) rfl ?_
              refine OwnK.iconst X0 hx (hb hby at_101) (pc' := 102) rfl (v := (1 : Int32)) (by decide) ?_
              refine OwnK.callS_ X0 hx hZ hown (y := (⟨"com/example/traceway/traceway/core/UrlParts", "isSchemeCharacter", "(CZ)Z"⟩ : MethodName)) (hw _ (List.mem_of_getElem? (i := 0) rfl)) (hw _ (List.mem_of_getElem? (i := 1) rfl)) (hw _ (List.mem_of_getElem? (i := 2) rfl)) (hw _ (List.mem_of_getElem? (i := 3) rfl)) (by decide) (own_m1 l Z a0 hw h0 u1 (1 : Int32)  ) (by decide) (W := 0) (by decide) e0 (by rw [hml]; rfl) own_pd_0 (argsL := [(.int u1), (.int (1 : Int32))]) rfl (S := []) rfl (by decide) (hb hby at_102) (pc' := 105) rfl (by decide) (by decide) (fun T44 v44 L44 X44 hQ44 => ?_)
              obtain ⟨rfl, e44, rfl⟩ := hQ44
              have N45 := Fr.app N0 (Fr.nil n0)
              refine OwnK.istore X44 hx (hb hby at_105) (pc' := 107) rfl (Ls' := #[.val (.int p0), .val (.int u1), .val (.int (u1 ||| (32 : Int32))), .val (.int (0 : Int32)), .val (.int (u1 - (48 : Int32))), .val (.int (0 : Int32)), .val (.int (1 : Int32)), .val (.int (0 : Int32)), .val (.int (1 : Int32)), .val (.int (own_sch u1.toInt (1 : Int32).toInt)), .unset]) rfl ?_
              refine OwnK.iloadN X44 hx (hb hby at_107) (pc' := 108) rfl (v := u1) rfl ?_
              refine OwnK.iconst X44 hx (hb hby at_108) (pc' := 109) rfl (v := (0 : Int32)) (by decide) ?_
              refine OwnK.callS_ X44 hx hZ hown (y := (⟨"com/example/traceway/traceway/core/UrlParts", "isSchemeCharacter", "(CZ)Z"⟩ : MethodName)) (hw _ (List.mem_of_getElem? (i := 0) rfl)) (hw _ (List.mem_of_getElem? (i := 1) rfl)) (hw _ (List.mem_of_getElem? (i := 2) rfl)) (hw _ (List.mem_of_getElem? (i := 3) rfl)) (by decide) (own_m1 l Z a0 hw h0 u1 (0 : Int32)  ) (by decide) (W := 0) (by decide) e44 (by rw [hml]; rfl) own_pd_0 (argsL := [(.int u1), (.int (0 : Int32))]) rfl (S := []) rfl (by decide) (hb hby at_109) (pc' := 112) rfl (by decide) (by decide) (fun T46 v46 L46 X46 hQ46 => ?_)
              obtain ⟨rfl, e46, rfl⟩ := hQ46
              have N47 := Fr.app N45 (Fr.nil n0)
              refine OwnK.istore X46 hx (hb hby at_112) (pc' := 114) rfl (Ls' := #[.val (.int p0), .val (.int u1), .val (.int (u1 ||| (32 : Int32))), .val (.int (0 : Int32)), .val (.int (u1 - (48 : Int32))), .val (.int (0 : Int32)), .val (.int (1 : Int32)), .val (.int (0 : Int32)), .val (.int (1 : Int32)), .val (.int (own_sch u1.toInt (1 : Int32).toInt)), .val (.int (own_sch u1.toInt (0 : Int32).toInt))]) rfl ?_
              refine OwnK.iload X46 hx (hb hby at_114) (pc' := 116) rfl (v := (own_sch u1.toInt (1 : Int32).toInt)) rfl ?_
              refine OwnK.iload X46 hx (hb hby at_116) (pc' := 118) rfl (v := (0 : Int32)) rfl ?_
              refine OwnK.icmp_ne X46 hx (hb hby at_118) (by decide) (pcT := 132) (by decide) (pc' := 121) rfl (fun (hc118 : ¬ (own_sch u1.toInt (1 : Int32).toInt).toInt = 0) => absurd (congrArg Int32.toInt (own_sch0 (n := u1.toInt) (f := 1) (by omega))) hc118) (fun hc118 => ?_)
              refine OwnK.iload X46 hx (hb hby at_121) (pc' := 123) rfl (v := (own_sch u1.toInt (0 : Int32).toInt)) rfl ?_
              refine OwnK.iload X46 hx (hb hby at_123) (pc' := 125) rfl (v := (1 : Int32)) rfl ?_
              refine OwnK.icmp_ne X46 hx (hb hby at_125) (by decide) (pcT := 132) (by decide) (pc' := 128) rfl (fun (hc125 : ¬ (own_sch u1.toInt (0 : Int32).toInt).toInt = 1) => absurd (congrArg Int32.toInt (own_sch1 (n := u1.toInt) (f := 0) (by omega))) hc125) (fun hc125 => ?_)
              refine OwnK.iconst X46 hx (hb hby at_128) (pc' := 129) rfl (v := (1 : Int32)) (by decide) ?_
              refine OwnK.goto_ X46 hx (hb hby at_129) (by decide) (pc' := 133) (by decide) ?_
              refine OwnK.retN_ X46 hx hret (by simp) hlk (hb hby at_133) (by decide) (by decide) ?_
              exact ⟨rfl, N47⟩
            · refine OwnK.istore X0 hx (hb hby at_74) (pc' := 76) rfl (Ls' := #[.val (.int p0), .val (.int u1), .val (.int (u1 ||| (32 : Int32))), .val (.int (0 : Int32)), .val (.int (u1 - (48 : Int32))), .val (.int (0 : Int32)), .val (.int (0 : Int32)), .unset, .unset, .unset, .unset]) rfl ?_
              refine OwnK.iloadN X0 hx (hb hby at_76) (pc' := 77) rfl (v := (0 : Int32)) rfl ?_
              refine OwnK.istore X0 hx (hb hby at_77) (pc' := 79) rfl (Ls' := #[.val (.int p0), .val (.int u1), .val (.int (u1 ||| (32 : Int32))), .val (.int (0 : Int32)), .val (.int (u1 - (48 : Int32))), .val (.int (0 : Int32)), .val (.int (0 : Int32)), .val (.int (0 : Int32)), .unset, .unset, .unset]) rfl ?_
              refine OwnK.iloadN X0 hx (hb hby at_79) (pc' := 80) rfl (v := (0 : Int32)) rfl ?_
              refine OwnK.if_ne X0 hx (hb hby at_80) (by decide) (pcT := 93) (by decide) (pc' := 83) rfl (fun (hc80 : ¬ 0 = 0) => absurd hc80 (by decide)) (fun hc80 => ?_)
              refine OwnK.iload X0 hx (hb hby at_83) (pc' := 85) rfl (v := (0 : Int32)) rfl ?_
              refine OwnK.if_ne X0 hx (hb hby at_85) (by decide) (pcT := 93) (by decide) (pc' := 88) rfl (fun (hc85 : ¬ 0 = 0) => absurd hc85 (by decide)) (fun hc85 => ?_)
              refine OwnK.iload X0 hx (hb hby at_88) (pc' := 90) rfl (v := (0 : Int32)) rfl ?_
              refine OwnK.if_eq X0 hx (hb hby at_90) (by decide) (pcT := 97) (by decide) (pc' := 93) rfl (fun hc90 => ?_) (fun (hc90 : ¬ 0 = 0) => absurd hc90 (by decide))
              refine OwnK.iconst X0 hx (hb hby at_97) (pc' := 98) rfl (v := (0 : Int32)) (by decide) ?_
              refine OwnK.istore X0 hx (hb hby at_98) (pc' := 100) rfl (Ls' := #[.val (.int p0), .val (.int u1), .val (.int (u1 ||| (32 : Int32))), .val (.int (0 : Int32)), .val (.int (u1 - (48 : Int32))), .val (.int (0 : Int32)), .val (.int (0 : Int32)), .val (.int (0 : Int32)), .val (.int (0 : Int32)), .unset, .unset]) rfl ?_
              refine OwnK.iloadN X0 hx (hb hby at_100) (pc' := 101) rfl (v := u1) rfl ?_
              refine OwnK.iconst X0 hx (hb hby at_101) (pc' := 102) rfl (v := (1 : Int32)) (by decide) ?_
              refine OwnK.callS_ X0 hx hZ hown (y := (⟨"com/example/traceway/traceway/core/UrlParts", "isSchemeCharacter", "(CZ)Z"⟩ : MethodName)) (hw _ (List.mem_of_getElem? (i := 0) rfl)) (hw _ (List.mem_of_getElem? (i := 1) rfl)) (hw _ (List.mem_of_getElem? (i := 2) rfl)) (hw _ (List.mem_of_getElem? (i := 3) rfl)) (by decide) (own_m1 l Z a0 hw h0 u1 (1 : Int32)  ) (by decide) (W := 0) (by decide) e0 (by rw [hml]; rfl) own_pd_0 (argsL := [(.int u1), (.int (1 : Int32))]) rfl (S := []) rfl (by decide) (hb hby at_102) (pc' := 105) rfl (by decide) (by decide) (fun T48 v48 L48 X48 hQ48 => ?_)
              obtain ⟨rfl, e48, rfl⟩ := hQ48
              have N49 := Fr.app N0 (Fr.nil n0)
              refine OwnK.istore X48 hx (hb hby at_105) (pc' := 107) rfl (Ls' := #[.val (.int p0), .val (.int u1), .val (.int (u1 ||| (32 : Int32))), .val (.int (0 : Int32)), .val (.int (u1 - (48 : Int32))), .val (.int (0 : Int32)), .val (.int (0 : Int32)), .val (.int (0 : Int32)), .val (.int (0 : Int32)), .val (.int (own_sch u1.toInt (1 : Int32).toInt)), .unset]) rfl ?_
              refine OwnK.iloadN X48 hx (hb hby at_107) (pc' := 108) rfl (v := u1) rfl ?_
              refine OwnK.iconst X48 hx (hb hby at_108) (pc' := 109) rfl (v := (0 : Int32)) (by decide) ?_
              refine OwnK.callS_ X48 hx hZ hown (y := (⟨"com/example/traceway/traceway/core/UrlParts", "isSchemeCharacter", "(CZ)Z"⟩ : MethodName)) (hw _ (List.mem_of_getElem? (i := 0) rfl)) (hw _ (List.mem_of_getElem? (i := 1) rfl)) (hw _ (List.mem_of_getElem? (i := 2) rfl)) (hw _ (List.mem_of_getElem? (i := 3) rfl)) (by decide) (own_m1 l Z a0 hw h0 u1 (0 : Int32)  ) (by decide) (W := 0) (by decide) e48 (by rw [hml]; rfl) own_pd_0 (argsL := [(.int u1), (.int (0 : Int32))]) rfl (S := []) rfl (by decide) (hb hby at_109) (pc' := 112) rfl (by decide) (by decide) (fun T50 v50 L50 X50 hQ50 => ?_)
              obtain ⟨rfl, e50, rfl⟩ := hQ50
              have N51 := Fr.app N49 (Fr.nil n0)
              refine OwnK.istore X50 hx (hb hby at_112) (pc' := 114) rfl (Ls' := #[.val (.int p0), .val (.int u1), .val (.int (u1 ||| (32 : Int32))), .val (.int (0 : Int32)), .val (.int (u1 - (48 : Int32))), .val (.int (0 : Int32)), .val (.int (0 : Int32)), .val (.int (0 : Int32)), .val (.int (0 : Int32)), .val (.int (own_sch u1.toInt (1 : Int32).toInt)), .val (.int (own_sch u1.toInt (0 : Int32).toInt))]) rfl ?_
              refine OwnK.iload X50 hx (hb hby at_114) (pc' := 116) rfl (v := (own_sch u1.toInt (1 : Int32).toInt)) rfl ?_
              refine OwnK.iload X50 hx (hb hby at_116) (pc' := 118) rfl (v := (0 : Int32)) rfl ?_
              refine OwnK.icmp_ne X50 hx (hb hby at_118) (by decide) (pcT := 132) (by decide) (pc' := 121) rfl (fun (hc118 : ¬ (own_sch u1.toInt (1 : Int32).toInt).toInt = 0) => absurd (congrArg Int32.toInt (own_sch0 (n := u1.toInt) (f := 1) (by omega))) hc118) (fun hc118 => ?_)
              refine OwnK.iload X50 hx (hb hby at_121) (pc' := 123) rfl (v := (own_sch u1.toInt (0 : Int32).toInt)) rfl ?_
              refine OwnK.iload X50 hx (hb hby at_123) (pc' := 125) rfl (v := (0 : Int32)) rfl ?_
              refine OwnK.icmp_ne X50 hx (hb hby at_125) (by decide) (pcT := 132) (by decide) (pc' := 128) rfl (fun (hc125 : ¬ (own_sch u1.toInt (0 : Int32).toInt).toInt = 0) => absurd (congrArg Int32.toInt (own_sch0 (n := u1.toInt) (f := 0) (by omega))) hc125) (fun hc125 => ?_)
              refine OwnK.iconst X50 hx (hb hby at_128) (pc' := 129) rfl (v := (1 : Int32)) (by decide) ?_
              refine OwnK.goto_ X50 hx (hb hby at_129) (by decide) (pc' := 133) (by decide) ?_
              refine OwnK.retN_ X50 hx hret (by simp) hlk (hb hby at_133) (by decide) (by decide) ?_
              exact ⟨rfl, N51⟩
          refine OwnK.iloadN X0 hx (hb hby at_51) (pc' := 52) rfl (v := u1) rfl ?_
          refine OwnK.bipush X0 hx (hb hby at_52) (pc' := 54) rfl (v := (43 : Int32)) (by decide) ?_
          refine OwnK.icmp_eq X0 hx (hb hby at_54) (by decide) (pcT := 69) (by decide) (pc' := 57) rfl (fun (hc52 : u1.toInt = 43) => ?_) (fun (hc52 : ¬ u1.toInt = 43) => ?_)
          · refine OwnK.iconst X0 hx (hb hby at_69) (pc' := 70) rfl (v := (1 : Int32)) (by decide) ?_
            refine OwnK.goto_ X0 hx (hb hby at_70) (by decide) (pc' := 74) (by decide) ?_
            exact J43 _ (Or.inl ⟨rfl, by omega⟩)
          · refine OwnK.iloadN X0 hx (hb hby at_57) (pc' := 58) rfl (v := u1) rfl ?_
            refine OwnK.bipush X0 hx (hb hby at_58) (pc' := 60) rfl (v := (45 : Int32)) (by decide) ?_
            refine OwnK.icmp_eq X0 hx (hb hby at_60) (by decide) (pcT := 69) (by decide) (pc' := 63) rfl (fun (hc53 : u1.toInt = 45) => ?_) (fun (hc53 : ¬ u1.toInt = 45) => ?_)
            · refine OwnK.iconst X0 hx (hb hby at_69) (pc' := 70) rfl (v := (1 : Int32)) (by decide) ?_
              refine OwnK.goto_ X0 hx (hb hby at_70) (by decide) (pc' := 74) (by decide) ?_
              exact J43 _ (Or.inl ⟨rfl, by omega⟩)
            · refine OwnK.iloadN X0 hx (hb hby at_63) (pc' := 64) rfl (v := u1) rfl ?_
              refine OwnK.bipush X0 hx (hb hby at_64) (pc' := 66) rfl (v := (46 : Int32)) (by decide) ?_
              refine OwnK.icmp_ne X0 hx (hb hby at_66) (by decide) (pcT := 73) (by decide) (pc' := 69) rfl (fun (hc54 : ¬ u1.toInt = 46) => ?_) (fun (hc54 : u1.toInt = 46) => ?_)
              · refine OwnK.iconst X0 hx (hb hby at_73) (pc' := 74) rfl (v := (0 : Int32)) (by decide) ?_
                exact J43 _ (Or.inr ⟨rfl, by omega⟩)
              · refine OwnK.iconst X0 hx (hb hby at_69) (pc' := 70) rfl (v := (1 : Int32)) (by decide) ?_
                refine OwnK.goto_ X0 hx (hb hby at_70) (by decide) (pc' := 74) (by decide) ?_
                exact J43 _ (Or.inl ⟨rfl, by omega⟩)
      refine OwnK.iload X0 hx (hb hby at_32) (pc' := 34) rfl (v := (u1 - (48 : Int32))) rfl ?_
      refine OwnK.if_lt X0 hx (hb hby at_34) (by decide) (pcT := 48) (by decide) (pc' := 37) rfl (fun (hc55 : (u1 - (48 : Int32)).toInt < 0) => ?_) (fun (hc55 : 0 ≤ (u1 - (48 : Int32)).toInt) => ?_)
      · refine OwnK.iconst X0 hx (hb hby at_48) (pc' := 49) rfl (v := (0 : Int32)) (by decide) ?_
        exact J30 _ (Or.inr ⟨rfl, by omega⟩)
      · refine OwnK.iload X0 hx (hb hby at_37) (pc' := 39) rfl (v := (u1 - (48 : Int32))) rfl ?_
        refine OwnK.bipush X0 hx (hb hby at_39) (pc' := 41) rfl (v := (10 : Int32)) (by decide) ?_
        refine OwnK.icmp_ge X0 hx (hb hby at_41) (by decide) (pcT := 48) (by decide) (pc' := 44) rfl (fun (hc56 : 10 ≤ (u1 - (48 : Int32)).toInt) => ?_) (fun (hc56 : (u1 - (48 : Int32)).toInt < 10) => ?_)
        · refine OwnK.iconst X0 hx (hb hby at_48) (pc' := 49) rfl (v := (0 : Int32)) (by decide) ?_
          exact J30 _ (Or.inr ⟨rfl, by omega⟩)
        · refine OwnK.iconst X0 hx (hb hby at_44) (pc' := 45) rfl (v := (1 : Int32)) (by decide) ?_
          refine OwnK.goto_ X0 hx (hb hby at_45) (by decide) (pc' := 49) (by decide) ?_
          exact J30 _ (Or.inl ⟨rfl, by omega⟩)
  refine OwnK.iloadN X0 hx (hb hby at_8) (pc' := 9) rfl (v := (u1 ||| (32 : Int32))) rfl ?_
  refine OwnK.bipush X0 hx (hb hby at_9) (pc' := 11) rfl (v := (97 : Int32)) (by decide) ?_
  refine OwnK.icmp_lt X0 hx (hb hby at_11) (by decide) (pcT := 24) (by decide) (pc' := 14) rfl (fun (hc57 : (u1 ||| (32 : Int32)).toInt < 97) => ?_) (fun (hc57 : 97 ≤ (u1 ||| (32 : Int32)).toInt) => ?_)
  · refine OwnK.iconst X0 hx (hb hby at_24) (pc' := 25) rfl (v := (0 : Int32)) (by decide) ?_
    exact J2 _ (Or.inr ⟨rfl, by split at hlow <;> omega⟩)
  · refine OwnK.iloadN X0 hx (hb hby at_14) (pc' := 15) rfl (v := (u1 ||| (32 : Int32))) rfl ?_
    refine OwnK.bipush X0 hx (hb hby at_15) (pc' := 17) rfl (v := (122 : Int32)) (by decide) ?_
    refine OwnK.icmp_gt X0 hx (hb hby at_17) (by decide) (pcT := 24) (by decide) (pc' := 20) rfl (fun (hc58 : 122 < (u1 ||| (32 : Int32)).toInt) => ?_) (fun (hc58 : (u1 ||| (32 : Int32)).toInt ≤ 122) => ?_)
    · refine OwnK.iconst X0 hx (hb hby at_24) (pc' := 25) rfl (v := (0 : Int32)) (by decide) ?_
      exact J2 _ (Or.inr ⟨rfl, by split at hlow <;> omega⟩)
    · refine OwnK.iconst X0 hx (hb hby at_20) (pc' := 21) rfl (v := (1 : Int32)) (by decide) ?_
      refine OwnK.goto_ X0 hx (hb hby at_21) (by decide) (pc' := 25) (by decide) ?_
      exact J2 _ (Or.inl ⟨rfl, by split at hlow <;> omega⟩)
set_option maxRecDepth 65536 in
set_option maxHeartbeats 40000000 in
theorem comes_1 {Post : Tables → Env → Array Value → State → Outcome → State → Prop} (hpost : ∀ tb e args s v u, (limb_1_1.after args s (.returned v) u = true ∧ limb_1_2.after args s (.returned v) u = true ∧ True) → FrameEnd s (.returned v) u (Jvm.fieldLocs frame_1_writes args s ++ Jvm.arrayLocs frame_1_arrays args s ++ Jvm.staticLocs frame_1_statics s) 0 0 → Post tb e args s (.returned v) u) :
    ArmFor flags0 classFile x code maxLocals ret World_1 tables_1 room_1 Calls_1 rest_1 Pre_1 Post := by
  intro l hfl _ _ p e ha hc hk s m args below hf hA hF happ hP
  obtain ⟨hcalls, hrest, hpre⟩ := hP
  obtain ⟨-, -, -, hnamed, -, -, -, hat⟩ := (Spec.applies_iff hf).mp happ
  obtain ⟨hg, hn⟩ := and_e (Cond.before_iff.mp (show (Jvm.Cond.and given_1 narrow_1).before args s = true from hpre))
  obtain ⟨hcnt, hg0⟩ := and_e hg
  have ha0 := hg0
  obtain ⟨w0, rfl⟩ : ∃ w0 : Value, args = #[w0] := by
    have hs : args.size = 1 := by simpa [Cond.value, given_1] using hcnt
    obtain ⟨L⟩ := args
    match L, hs with
    | [w0], _ => exact ⟨w0, rfl⟩
  have hw := fun d (hd : d ∈ tables_1) => atoms_spec (ws := Jvm.Cond.code x code maxLocals ret :: tables_1) hat d (List.mem_cons_of_mem _ hd)
  have hfit : Fit s := fun {y c} hc i hi => by
    obtain ⟨ha, rfl⟩ := Array.getElem?_eq_some_iff.mp hc
    have q := List.all_eq_true.mp ((Array.all_eq_true_iff_forall_mem.mp hF) _ (Array.getElem_mem ha)) i (List.mem_range.mpr hi)
    simpa [Array.getElem?_eq_getElem hi] using q
  obtain ⟨i0, e0⟩ := is_v ha0
  obtain rfl : w0 = (.int i0) := Option.some.inj e0
  obtain ⟨n, o, h1, h2, h3, _, L, rfl, ⟨rfl, N⟩, hq⟩ := own_law l s _ hw tables_1 s.heap s.heap.size (Nat.le_refl _) i0  p e ha hc hk s m _ below hf ((Spec.applies_iff_loose hf).mp happ).1 ⟨rfl, State.Warmed39.refl s, rfl⟩ trivial
  refine ⟨n, _, h1, h2, h3, hpost _ _ _ _ _ _ ⟨Cond.after_iff.mpr rfl, Cond.after_iff.mpr (eq_i res_at (Term.int_eval (1)) rfl), trivial⟩ ⟨hq.1, hq.2.1, (hq.2.2.sift fun y hy => Or.inr (N y hy)).mono (by decide) (by decide)⟩⟩
theorem main_1_1 : Claimed_1_1 := comes_1 fun _ _ _ _ _ _ h hF => ⟨h.1, hF⟩
theorem main_1_2 : Claimed_1_2 := comes_1 fun _ _ _ _ _ _ h hF => ⟨h.2.1, hF⟩
end Jvm.Pilot.@@N@@
namespace Jvm.Pilot.@@N@@
open Jvm Jvm.ClassFile Sem Op Lib Jvm.Free Jvm.Stand Jvm.Pilot.@@N@@.Jvm.D
/-! MADE BY PROGRAM (witnessworld.py) out of the Statement's table words and the real class files: 9 classes; the members and pool entries that the words name. The judged class is class 1, her method 1. -/
namespace start1
open Jvm.ClassFile
def u (s : String) : CpInfo := .utf8 (stringToUtf16 s)
/-- a pool by its gaps: so many unusable entries, then the entry; so many at the end -/
def gap : Nat → List CpInfo → List CpInfo
  | 0, r => r
  | n + 1, r => .unusable :: gap n r
def poolList (es : List (Nat × CpInfo)) (last : Nat) : List CpInfo := es.foldr (fun e r => gap e.1 (e.2 :: r)) (gap last [])
def pool (es : List (Nat × CpInfo)) (last : Nat) : Array CpInfo := ⟨poolList es last⟩
def fileOf (pool : Array CpInfo) (this : Nat) (attrs : Array Attribute := #[]) (ms : Array MethodInfo := #[]) (fl : Nat := 33) (sup : Nat := 0) (ifs : Array Nat := #[]) (fds : Array FieldInfo := #[]) : ClassFile where
  minorVersion := 0
  majorVersion := 65
  constantPool := pool
  accessFlags := fl
  thisClass := this
  superClass := sup
  interfaces := ifs
  fields := fds
  methods := ms
  attributes := attrs
def plain (name : String) (sup : Option ClassId) : Class where
  name := name
  kind := .ordinary
  loader := none
  accessFlags := 33
  super := sup
  interfaces := #[]
  cf := none
  fields := #[]
  methods := #[]
  instanceTypes := #[]
  staticTypes := #[]
  resolved := #[]
  callSites := []
  init := .initialized
  statics := none
  mirror := none

def pool0 : Array CpInfo := pool [(5, u "<init>"), (0, u "()V"), (1, .class_ 10), (1, u "java/lang/Object")] 113

def k0m0 : Method := { name := "<init>", desc := "()V", sig := { parameters := [], returnType := none }, accessFlags := 1, code := none }
/-- java/lang/Object -/
def k0 : Class := { plain "java/lang/Object" none with
  accessFlags := 33
  interfaces := #[]
  cf := some (fileOf pool0 8 #[] #[{ accessFlags := 1, nameIndex := 5, descriptorIndex := 6, attributes := #[] }] 33 0 #[] #[])
  fields := #[]
  methods := #[k0m0]
  instanceTypes := #[]
  staticTypes := #[]
  resolved := Array.replicate 124 none
  statics := none }

def pool1 : Array CpInfo := pool [(2, .class_ 4), (1, u "java/lang/Object"), (0, u "<init>"), (0, u "()V"), (0, .methodref 8 9), (0, .class_ 10), (0, .nameAndType 11 12), (0, u "com/example/traceway/traceway/core/UrlParts"), (0, u "isSchemeCharacter"), (0, u "(CZ)Z"), (0, .class_ 14), (0, u "com/example/traceway/traceway/core/UrlPartsIsSchemeCharacterPinLaw"), (2, u "law"), (0, u "(I)Z")] 3

def k1m0 : Method := { name := "<init>", desc := "()V", sig := { parameters := [], returnType := none }, accessFlags := 2, code := none }
def k1c1 : Code := { maxStack := 2, maxLocals := 11, code := code, exceptionTable := #[], attributes := #[] }
def k1m1 : Method := { name := "law", desc := "(I)Z", sig := { parameters := [.int], returnType := some .boolean }, accessFlags := 9, code := some k1c1 }
/-- com/example/traceway/traceway/core/UrlPartsIsSchemeCharacterPinLaw -/
def k1 : Class := { plain "com/example/traceway/traceway/core/UrlPartsIsSchemeCharacterPinLaw" (some 0) with
  accessFlags := 49
  interfaces := #[]
  cf := some (fileOf pool1 13 #[] #[{ accessFlags := 2, nameIndex := 5, descriptorIndex := 6, attributes := #[] }, { accessFlags := 9, nameIndex := 17, descriptorIndex := 18, attributes := #[] }] 49 2 #[] #[])
  fields := #[]
  methods := #[k1m0, k1m1]
  instanceTypes := #[]
  staticTypes := #[]
  resolved := Array.replicate 22 none
  statics := none }

def pool2 : Array CpInfo := pool [(2, .class_ 4), (1, u "java/lang/Object"), (3, .class_ 10), (1, u "com/example/traceway/traceway/core/UrlParts"), (0, u "scheme"), (0, u "Ljava/lang/String;"), (2, u "authority"), (2, u "path"), (2, u "query"), (51, u "isSchemeCharacter"), (0, u "(CZ)Z")] 43

def k2c0 : Code := { maxStack := 2, maxLocals := 4, code := prog_26_method_5_code, exceptionTable := #[], attributes := #[] }
def k2m0 : Method := { name := "isSchemeCharacter", desc := "(CZ)Z", sig := { parameters := [.char, .boolean], returnType := some .boolean }, accessFlags := 9, code := some k2c0 }
/-- com/example/traceway/traceway/core/UrlParts -/
def k2 : Class := { plain "com/example/traceway/traceway/core/UrlParts" (some 0) with
  accessFlags := 49
  interfaces := #[]
  cf := some (fileOf pool2 8 #[] #[{ accessFlags := 9, nameIndex := 73, descriptorIndex := 74, attributes := #[] }] 49 2 #[] #[{ accessFlags := 18, nameIndex := 11, descriptorIndex := 12, attributes := #[] }, { accessFlags := 18, nameIndex := 15, descriptorIndex := 12, attributes := #[] }, { accessFlags := 18, nameIndex := 18, descriptorIndex := 12, attributes := #[] }, { accessFlags := 18, nameIndex := 21, descriptorIndex := 12, attributes := #[] }])
  fields := #[{ name := "scheme", type := (.object "java/lang/String"), accessFlags := 18, slot := 0, constantValue := 0 }, { name := "authority", type := (.object "java/lang/String"), accessFlags := 18, slot := 1, constantValue := 0 }, { name := "path", type := (.object "java/lang/String"), accessFlags := 18, slot := 2, constantValue := 0 }, { name := "query", type := (.object "java/lang/String"), accessFlags := 18, slot := 3, constantValue := 0 }]
  methods := #[k2m0]
  instanceTypes := #[(.object "java/lang/String"), (.object "java/lang/String"), (.object "java/lang/String"), (.object "java/lang/String")]
  staticTypes := #[]
  resolved := Array.replicate 118 none
  statics := none }

def pool3 : Array CpInfo := pool [(1, u "java/lang/Cloneable"), (0, .class_ 1), (0, u "java/lang/Object"), (0, .class_ 3)] 3

/-- java/lang/Cloneable -/
def k3 : Class := { plain "java/lang/Cloneable" (some 0) with
  accessFlags := 1537
  interfaces := #[]
  cf := some (fileOf pool3 2 #[] #[] 1537 4 #[] #[])
  fields := #[]
  methods := #[]
  instanceTypes := #[]
  staticTypes := #[]
  resolved := Array.replicate 8 none
  statics := none }

def pool4 : Array CpInfo := pool [(1, u "java/io/Serializable"), (0, .class_ 1), (0, u "java/lang/Object"), (0, .class_ 3)] 3

/-- java/io/Serializable -/
def k4 : Class := { plain "java/io/Serializable" (some 0) with
  accessFlags := 1537
  interfaces := #[]
  cf := some (fileOf pool4 2 #[] #[] 1537 4 #[] #[])
  fields := #[]
  methods := #[]
  instanceTypes := #[]
  staticTypes := #[]
  resolved := Array.replicate 8 none
  statics := none }

/-- the primitive byte -/
def k5 : Class := { plain "byte" none with kind := .primitive 'B', accessFlags := 0x411 }
/-- [B -/
def k6 : Class := { plain "[B" (some 0) with kind := .array 5 .byte, interfaces := #[3, 4], accessFlags := 1041 }

/-- the primitive int -/
def k7 : Class := { plain "int" none with kind := .primitive 'I', accessFlags := 0x411 }
/-- [I -/
def k8 : Class := { plain "[I" (some 0) with kind := .array 7 .int, interfaces := #[3, 4], accessFlags := 1041 }

def heap : Heap := #[]
def classes : Array Class := #[k0, k1, k2, k3, k4, k5, k6, k7, k8]
def interned : List (Array UInt16 × Addr) := []
def slotsUsed : Nat := 0
def theMethod : MethodId := ⟨1, 1⟩
def args0 : Array Value := #[.int 65]
def aboutOver (below : List Frame) : State where
  vm := { classes := classes, interned := interned.toArray }
  heap := heap
  slotsUsed := slotsUsed
  threads := #[{ frames := .invoking theMethod args0 :: below }]
def below0 : List Frame := [.native { method := ⟨0, 0⟩, args := #[] }]
def about1 : State := aboutOver below0
def p0 : Program := .bare "" "" ""
def e0 : Env := launch0.env 0 0 0
theorem w_frames : about1.frames = Frame.invoking theMethod args0 :: below0 := rfl
set_option maxRecDepth 65536 in
theorem w_args : argsFit about1.vm theMethod args0 = true := by decide +kernel
set_option maxRecDepth 65536 in
theorem w_heap : heapFits about1 = true := by decide +kernel
set_option maxRecDepth 65536 in
theorem w_runnable : about1.curStatus? = some .runnable := by decide +kernel
set_option maxRecDepth 65536 in
theorem w_alone : about1.alone = true := by decide +kernel
set_option maxRecDepth 65536 in
theorem w_named : about1.methodNamed? x = some theMethod := by decide +kernel
set_option maxRecDepth 65536 in
theorem w_hears : about1.hears theMethod below0 = true := by decide +kernel
set_option maxRecDepth 65536 in
theorem w_ripe : about1.ripe theMethod args0 below0 = true := by decide +kernel
theorem w_running : about1.status = .running := rfl
set_option maxRecDepth 65536 in
theorem w_room : about1.hasRoom e0.platform room_1 = true :=
  launch0.hasRoom_least _ room_1 (by decide +kernel) (by decide +kernel) (by decide +kernel) (by decide +kernel) (by decide +kernel) (by decide +kernel)
theorem allAtoms_all (ts : List Jvm.Cond) (a : Array Jvm.Value) (st : Jvm.State) : (allAtoms ts).before a st = ts.all (fun c => c.before a st) := by
  induction ts with
  | nil => rfl
  | cons c t ih =>
    show (Jvm.Cond.and c (allAtoms t)).before a st = _
    rw [Jvm.Cond.before_and, ih, List.all_cons]
def words1 : List Jvm.Cond := Jvm.Cond.code x code maxLocals ret :: tables_1
/-- a 'code' word, met by the world's own term for the bytes: nothing is compared byte by byte -/
theorem code_word {y : MethodName} {bytes : ByteArray} {mx : Nat} {rt : Option FieldType} {a : Array Value} {s : State} {m : MethodId} {meth : Method} {c : Code} (h1 : s.methodNamed? y = some m) (h2 : s.vm.method? m = some meth) (h3 : meth.code = some c) (h4 : c.code = bytes)
    (h5 : (c.maxLocals == mx && c.exceptionTable.isEmpty && decide (c.maxStack ≤ mostOperands) && decide (meth.sig.returnType = rt) && !meth.locks && decide (parseMethodDescriptor y.desc = some meth.sig)) = true) : (Jvm.Cond.code y bytes mx rt).before a s = true := by
  simp only [Bool.and_eq_true, beq_iff_eq, Bool.not_eq_true', decide_eq_true_eq] at h5
  obtain ⟨⟨⟨⟨⟨g1, g2⟩, g3⟩, g4⟩, g5⟩, g6⟩ := h5
  simp [Cond.before, Cond.holds, Cond.value, h1, h2, h3, h4, g1, g2, g3, g4, g5, g6]
def isCode : Jvm.Cond → Bool
  | .code _ _ _ _ => true
  | _ => false
theorem all_split {L : List Jvm.Cond} {P : Jvm.Cond → Bool} (h1 : L.all (fun c => isCode c || P c) = true) (h2 : ∀ c ∈ L.filter isCode, P c = true) : L.all P = true := by
  refine List.all_eq_true.mpr fun c hc => ?_
  have h := List.all_eq_true.mp h1 c hc
  rcases Bool.eq_false_or_eq_true (isCode c) with hi | hi
  · exact h2 c (List.mem_filter.mpr ⟨hc, hi⟩)
  · simpa [hi] using h
set_option maxRecDepth 65536 in
theorem w_c0 : (Jvm.Cond.code x code maxLocals ret).before args0 about1 = true := code_word (m := ⟨1, 1⟩) (meth := k1m1) (c := k1c1) (by decide +kernel) rfl rfl rfl (by decide +kernel)
set_option maxRecDepth 65536 in
theorem w_c1 : (Jvm.Cond.code ({ cls := "com/example/traceway/traceway/core/UrlParts", name := "isSchemeCharacter", desc := "(CZ)Z" } : Jvm.MethodName) prog_26_method_5_code (4 : Nat) (Option.some Jvm.ClassFile.FieldType.boolean)).before args0 about1 = true := code_word (m := ⟨2, 0⟩) (meth := k2m0) (c := k2c0) (by decide +kernel) rfl rfl rfl (by decide +kernel)
def codes1 : List Jvm.Cond := [Jvm.Cond.code x code maxLocals ret, Jvm.Cond.code ({ cls := "com/example/traceway/traceway/core/UrlParts", name := "isSchemeCharacter", desc := "(CZ)Z" } : Jvm.MethodName) prog_26_method_5_code (4 : Nat) (Option.some Jvm.ClassFile.FieldType.boolean)]
set_option maxRecDepth 65536 in
theorem codes_eq : words1.filter isCode = codes1 := rfl
theorem w_codes : ∀ c ∈ words1.filter isCode, c.before args0 about1 = true := by
  rw [codes_eq]
  intro c hc
  simp only [codes1, List.mem_cons, List.not_mem_nil, or_false] at hc
  rcases hc with rfl | rfl
  · exact w_c0
  · exact w_c1
set_option maxRecDepth 65536 in
theorem w_t1 : words1.all (fun c => isCode c || c.before args0 about1) = true := by decide +kernel
theorem w_tables : (allAtoms (Jvm.Cond.code x code maxLocals ret :: tables_1)).before args0 about1 = true := by
  rw [allAtoms_all]
  show words1.all (fun c => c.before args0 about1) = true
  refine all_split ?_ w_codes
  rw [w_t1]
set_option maxRecDepth 65536 in
theorem w_case : (Jvm.Cond.and given_1 narrow_1).before args0 about1 = true := by decide +kernel
theorem w_applies : (headSpec (Jvm.Cond.code x code maxLocals ret :: tables_1) room_1).applies x e0.platform about1 = true :=
  (Spec.applies_iff w_frames).mpr ⟨w_running, w_runnable, w_alone, w_named, w_hears, w_ripe, w_room, w_tables⟩
theorem atStart : AtStart classFile x code maxLocals ret World_1 tables_1 room_1 Calls_1 rest_1 Pre_1 launch0 p0 e0 about1 theMethod args0 below0 :=
  ⟨lists_1, trivial, launch0.admits_env _ _ _, launch0.least_env, fairChoices_fair.cas, fairChoices_fair.clock, w_frames, w_args, w_heap, w_applies, trivial, trivial, w_case⟩
end start1
theorem witness_1 : WitnessClaimed_1 := ⟨start1.p0, start1.e0, start1.about1, start1.theMethod, start1.args0, start1.below0, start1.atStart⟩
end Jvm.Pilot.@@N@@
