import JvmDerived
import JvmDerived.Pilot.@@N@@Statement
import JvmDerived.Pilot.@@N@@Code
set_option linter.unusedVariables false
set_option linter.unusedSimpArgs false
@@BLOCK:NumsL.lean.txt@@
namespace Jvm.OwnK
open Sem ClassFile Op Lib Jvm.Stand Jvm.Free Jvm.LawKit Jvm.RoadKit Bundle
/-- from the frame f at T the run ends, and P holds of its end -/
def Go (tb : Tables) (e : Env) (below : List Frame) (P : Outcome → State → Prop) (T : State) (f : JFrame) : Prop :=
  ∃ s₂ o, Steps tb e below (T.setTop f) s₂ ∧ s₂.status = .running ∧ Ended s₂ below o ∧ P o s₂
abbrev PQ (s : State) (Q : Option Value → Heap → List Loc → Prop) (C N : Nat) : Outcome → State → Prop := fun o U' => ∃ v L, o = .returned v ∧ Q v U'.heap L ∧ FrameEnd s o U' L C N
theorem Go.st {tb : Tables} {e : Env} {below : List Frame} {P : Outcome → State → Prop} {T T' : State} {f f' : JFrame} (h : ∀ t, Steps tb e below (T'.setTop f') t → Steps tb e below (T.setTop f) t) (k : Go tb e below P T' f') : Go tb e below P T f := by
  obtain ⟨s₂, o, h1, h2⟩ := k; exact ⟨s₂, o, h _ h1, h2⟩
theorem Go.st1 {tb : Tables} {e : Env} {below : List Frame} {P : Outcome → State → Prop} {T T' : State} {f f' : JFrame} (h : Steps tb e below (T.setTop f) (T'.setTop f')) (k : Go tb e below P T' f') : Go tb e below P T f :=
  Go.st (fun t q => h.trans q) k
theorem tI {x : Int32} {n : Int} (h : x.toInt = n) : x = Int32.ofInt n := by subst h; simp
section Steps
variable {p : Program} {l : Launch} {e : Env} {R : Room} {s : State} {m : MethodId} {args : Array Value} {below : List Frame} {meth : Method} {c : Code} {T : State} {locs : List Loc} {cells slots : Nat} {P : Outcome → State → Prop} {pc pc' : Nat} {Ls : Array Slot} {S : List Value} {Z : State} {a0 : Array Value} {h : Heap}
theorem iload (X : Stand p l e R s m args below meth c T locs cells slots) (hx : p.tables.exec = Jvm.exec) {j : Nat} {v : Int32} (hd : decode c.code pc = .ok (.iload j, 2)) (hp : pc' = pc + 2) (hl : Ls[j]? = some (.val (.int v)))
    (k : Go p.tables e below P T (mkF m pc' Ls (.int v :: S))) : Go p.tables e below P T (mkF m pc Ls (S)) := by
  subst hp; exact Go.st (fun t q => XS.iload X.here hx rfl hd  hl q) k
theorem iloadN (X : Stand p l e R s m args below meth c T locs cells slots) (hx : p.tables.exec = Jvm.exec) {j : Fin 4} {v : Int32} (hd : decode c.code pc = .ok (.iload_n j, 1)) (hp : pc' = pc + 1) (hl : Ls[j.val]? = some (.val (.int v)))
    (k : Go p.tables e below P T (mkF m pc' Ls (.int v :: S))) : Go p.tables e below P T (mkF m pc Ls (S)) := by
  subst hp; exact Go.st (fun t q => XS.iloadN X.here hx rfl hd  hl q) k
theorem aload (X : Stand p l e R s m args below meth c T locs cells slots) (hx : p.tables.exec = Jvm.exec) {j : Nat} {v : Value} (hd : decode c.code pc = .ok (.aload j, 2)) (hp : pc' = pc + 2) (hl : Ls[j]? = some (.val v)) (hv : v.isRef = true)
    (k : Go p.tables e below P T (mkF m pc' Ls (v :: S))) : Go p.tables e below P T (mkF m pc Ls (S)) := by
  subst hp; exact Go.st (fun t q => XS.aload X.here hx rfl hd  hl hv q) k
theorem aloadN (X : Stand p l e R s m args below meth c T locs cells slots) (hx : p.tables.exec = Jvm.exec) {j : Fin 4} {v : Value} (hd : decode c.code pc = .ok (.aload_n j, 1)) (hp : pc' = pc + 1) (hl : Ls[j.val]? = some (.val v)) (hv : v.isRef = true)
    (k : Go p.tables e below P T (mkF m pc' Ls (v :: S))) : Go p.tables e below P T (mkF m pc Ls (S)) := by
  subst hp; exact Go.st (fun t q => XS.aloadN X.here hx rfl hd  hl hv q) k
theorem istore (X : Stand p l e R s m args below meth c T locs cells slots) (hx : p.tables.exec = Jvm.exec) {j : Nat} {v : Int32} {Ls' : Array Slot} (hd : decode c.code pc = .ok (.istore j, 2)) (hp : pc' = pc + 2) (hl : storeLocals Ls j (.int v) = some Ls')
    (k : Go p.tables e below P T (mkF m pc' Ls' (S))) : Go p.tables e below P T (mkF m pc Ls (.int v :: S)) := by
  subst hp; exact Go.st (fun t q => XS.istore X.here hx rfl hd rfl hl q) k
theorem astore (X : Stand p l e R s m args below meth c T locs cells slots) (hx : p.tables.exec = Jvm.exec) {j : Nat} {v : Value} {Ls' : Array Slot} (hd : decode c.code pc = .ok (.astore j, 2)) (hp : pc' = pc + 2) (hv : v.isRef = true) (hl : storeLocals Ls j v = some Ls')
    (k : Go p.tables e below P T (mkF m pc' Ls' (S))) : Go p.tables e below P T (mkF m pc Ls (v :: S)) := by
  subst hp; exact Go.st (fun t q => XS.astore X.here hx rfl hd rfl hv hl q) k
theorem istoreG (X : Stand p l e R s m args below meth c T locs cells slots) (hx : p.tables.exec = Jvm.exec) {j : Nat} {v : Int32} {Ls' : Int32 → Array Slot} (hd : decode c.code pc = .ok (.istore j, 2)) (hp : pc' = pc + 2) (hl : ∀ u, storeLocals Ls j (.int u) = some (Ls' u))
    (k : ∀ u, u = v → Go p.tables e below P T (mkF m pc' (Ls' u) (S))) : Go p.tables e below P T (mkF m pc Ls (.int v :: S)) := istore X hx hd hp (hl v) (k v rfl)
theorem iconst (X : Stand p l e R s m args below meth c T locs cells slots) (hx : p.tables.exec = Jvm.exec) {i : Int} {v : Int32} (hd : decode c.code pc = .ok (.iconst i, 1)) (hp : pc' = pc + 1) (hv : Int32.ofInt i = v)
    (k : Go p.tables e below P T (mkF m pc' Ls (.int v :: S))) : Go p.tables e below P T (mkF m pc Ls (S)) := by
  subst hp hv; exact Go.st (fun t q => XS.iconst X.here hx rfl hd q) k
theorem bipush (X : Stand p l e R s m args below meth c T locs cells slots) (hx : p.tables.exec = Jvm.exec) {i : Int} {v : Int32} (hd : decode c.code pc = .ok (.bipush i, 2)) (hp : pc' = pc + 2) (hv : (Int8.ofInt i).toInt32 = v)
    (k : Go p.tables e below P T (mkF m pc' Ls (.int v :: S))) : Go p.tables e below P T (mkF m pc Ls (S)) := by
  subst hp hv; exact Go.st (fun t q => XS.bipush X.here hx rfl hd q) k
theorem aconstNull (X : Stand p l e R s m args below meth c T locs cells slots) (hx : p.tables.exec = Jvm.exec)  (hd : decode c.code pc = .ok (.aconst_null, 1)) (hp : pc' = pc + 1)
    (k : Go p.tables e below P T (mkF m pc' Ls (.null :: S))) : Go p.tables e below P T (mkF m pc Ls (S)) := by
  subst hp; exact Go.st (fun t q => XS.aconstNull X.here hx rfl hd   q) k
theorem iand (X : Stand p l e R s m args below meth c T locs cells slots) (hx : p.tables.exec = Jvm.exec) {x y : Int32} (hd : decode c.code pc = .ok (.iand, 1)) (hp : pc' = pc + 1)
    (k : Go p.tables e below P T (mkF m pc' Ls (.int (x &&& y) :: S))) : Go p.tables e below P T (mkF m pc Ls (.int y :: .int x :: S)) := by
  subst hp; exact Go.st (fun t q => XS.iand X.here hx rfl hd rfl  q) k
theorem dup (X : Stand p l e R s m args below meth c T locs cells slots) (hx : p.tables.exec = Jvm.exec) {x : Value} (hd : decode c.code pc = .ok (.dup, 1)) (hp : pc' = pc + 1) (hc : x.category = 1)
    (k : Go p.tables e below P T (mkF m pc' Ls (x :: x :: S))) : Go p.tables e below P T (mkF m pc Ls (x :: S)) := by
  subst hp; exact Go.st (fun t q => XS.dup X.here hx rfl hd rfl hc q) k
theorem goto_ (X : Stand p l e R s m args below meth c T locs cells slots) (hx : p.tables.exec = Jvm.exec) {o : Int} (hd : decode c.code pc = .ok (.goto o, 3)) (ho : 0 ≤ (pc : Int) + o) (hp : ((pc : Int) + o).toNat = pc')
    (k : Go p.tables e below P T (mkF m pc' Ls (S))) : Go p.tables e below P T (mkF m pc Ls (S)) :=
  Go.st (fun t q => XS.goto X.here hx rfl rfl hd ho hp q) k
theorem h_eq (x y : Int32) : if_icmp.holds .eq x y = decide (x.toInt = y.toInt) := by rw [Bool.eq_iff_iff]; simp [if_icmp.holds, Int32.toInt_inj]
theorem h_ne (x y : Int32) : if_icmp.holds .ne x y = decide (¬ x.toInt = y.toInt) := by rw [Bool.eq_iff_iff]; simp [if_icmp.holds, Int32.toInt_inj]
theorem z_any (cd : ClassFile.Cond) (x : Int32) : ifCond.holds cd x = if_icmp.holds cd x 0 := by cases cd <;> simp [ifCond.holds, if_icmp.holds]
theorem z0 : (0 : Int32).toInt = 0 := by decide
theorem icmp_eq (X : Stand p l e R s m args below meth c T locs cells slots) (hx : p.tables.exec = Jvm.exec) {o : Int} {x y : Int32} {pcT : Nat} (hd : decode c.code pc = .ok (.if_icmp .eq o, 3)) (ho : 0 ≤ (pc : Int) + o) (hT : ((pc : Int) + o).toNat = pcT) (hp : pc' = pc + 3)
    (kt : x.toInt = y.toInt → Go p.tables e below P T (mkF m pcT Ls (S))) (kf : ¬ x.toInt = y.toInt → Go p.tables e below P T (mkF m pc' Ls (S))) : Go p.tables e below P T (mkF m pc Ls (.int y :: .int x :: S)) := by
  subst hp
  by_cases q : x.toInt = y.toInt
  · exact Go.st (fun t r => XS.icmpYes X.here hx rfl rfl hd rfl (by rw [h_eq]; exact decide_eq_true q) ho hT r) (kt q)
  · exact Go.st (fun t r => XS.icmpNo X.here hx rfl hd rfl (by rw [h_eq]; exact decide_eq_false q) r) (kf (by omega))
theorem if_eq (X : Stand p l e R s m args below meth c T locs cells slots) (hx : p.tables.exec = Jvm.exec) {o : Int} {x : Int32} {pcT : Nat} (hd : decode c.code pc = .ok (.ifCond .eq o, 3)) (ho : 0 ≤ (pc : Int) + o) (hT : ((pc : Int) + o).toNat = pcT) (hp : pc' = pc + 3)
    (kt : x.toInt = 0 → Go p.tables e below P T (mkF m pcT Ls (S))) (kf : ¬ x.toInt = 0 → Go p.tables e below P T (mkF m pc' Ls (S))) : Go p.tables e below P T (mkF m pc Ls (.int x :: S)) := by
  subst hp
  by_cases q : x.toInt = 0
  · exact Go.st (fun t r => XS.ifYes X.here hx rfl rfl hd rfl (by rw [z_any, h_eq, z0]; exact decide_eq_true q) ho hT r) (kt q)
  · exact Go.st (fun t r => XS.ifNo X.here hx rfl hd rfl (by rw [z_any, h_eq, z0]; exact decide_eq_false q) r) (kf (by omega))
theorem icmp_ne (X : Stand p l e R s m args below meth c T locs cells slots) (hx : p.tables.exec = Jvm.exec) {o : Int} {x y : Int32} {pcT : Nat} (hd : decode c.code pc = .ok (.if_icmp .ne o, 3)) (ho : 0 ≤ (pc : Int) + o) (hT : ((pc : Int) + o).toNat = pcT) (hp : pc' = pc + 3)
    (kt : ¬ x.toInt = y.toInt → Go p.tables e below P T (mkF m pcT Ls (S))) (kf : x.toInt = y.toInt → Go p.tables e below P T (mkF m pc' Ls (S))) : Go p.tables e below P T (mkF m pc Ls (.int y :: .int x :: S)) := by
  subst hp
  by_cases q : ¬ x.toInt = y.toInt
  · exact Go.st (fun t r => XS.icmpYes X.here hx rfl rfl hd rfl (by rw [h_ne]; exact decide_eq_true q) ho hT r) (kt q)
  · exact Go.st (fun t r => XS.icmpNo X.here hx rfl hd rfl (by rw [h_ne]; exact decide_eq_false q) r) (kf (by omega))
theorem if_ne (X : Stand p l e R s m args below meth c T locs cells slots) (hx : p.tables.exec = Jvm.exec) {o : Int} {x : Int32} {pcT : Nat} (hd : decode c.code pc = .ok (.ifCond .ne o, 3)) (ho : 0 ≤ (pc : Int) + o) (hT : ((pc : Int) + o).toNat = pcT) (hp : pc' = pc + 3)
    (kt : ¬ x.toInt = 0 → Go p.tables e below P T (mkF m pcT Ls (S))) (kf : x.toInt = 0 → Go p.tables e below P T (mkF m pc' Ls (S))) : Go p.tables e below P T (mkF m pc Ls (.int x :: S)) := by
  subst hp
  by_cases q : ¬ x.toInt = 0
  · exact Go.st (fun t r => XS.ifYes X.here hx rfl rfl hd rfl (by rw [z_any, h_ne, z0]; exact decide_eq_true q) ho hT r) (kt q)
  · exact Go.st (fun t r => XS.ifNo X.here hx rfl hd rfl (by rw [z_any, h_ne, z0]; exact decide_eq_false q) r) (kf (by omega))
theorem acmp_ne (X : Stand p l e R s m args below meth c T locs cells slots) (hx : p.tables.exec = Jvm.exec) {o : Int} {x y : Value} {pcT : Nat} (hd : decode c.code pc = .ok (.if_acmp .ne o, 3)) (h1 : x.isRef = true) (h2 : y.isRef = true) (ho : 0 ≤ (pc : Int) + o) (hT : ((pc : Int) + o).toNat = pcT) (hp : pc' = pc + 3)
    (kt : ¬ x = y → Go p.tables e below P T (mkF m pcT Ls (S))) (kf : x = y → Go p.tables e below P T (mkF m pc' Ls (S))) : Go p.tables e below P T (mkF m pc Ls (y :: x :: S)) := by
  subst hp
  by_cases q : ¬ x = y
  · exact Go.st (fun t r => XT.acmpYes X.here hx rfl rfl hd rfl h1 h2 (XT.aa_ne_t q) ho hT r) (kt q)
  · exact Go.st (fun t r => XT.acmpNo X.here hx rfl hd rfl h1 h2 (XT.aa_ne_f (Classical.not_not.mp q)) r) (kf (Classical.not_not.mp q))
theorem ifnull_ (X : Stand p l e R s m args below meth c T locs cells slots) (hx : p.tables.exec = Jvm.exec) {o : Int} {v : Value} {pcT : Nat} (hd : decode c.code pc = .ok (.ifnull o, 3)) (hv : v.isRef = true) (ho : 0 ≤ (pc : Int) + o) (hT : ((pc : Int) + o).toNat = pcT) (hp : pc' = pc + 3)
    (kt : v = .null → Go p.tables e below P T (mkF m pcT Ls (S))) (kf : ¬ v = .null → Go p.tables e below P T (mkF m pc' Ls (S))) : Go p.tables e below P T (mkF m pc Ls (v :: S)) := by
  subst hp
  by_cases q : v = .null
  · exact Go.st (fun t r => XT.nullYes X.here hx rfl rfl hd rfl q ho hT r) (kt q)
  · exact Go.st (fun t r => XT.nullNo X.here hx rfl hd rfl hv q r) (kf q)
theorem getF_ (X : Stand p l e R s m args below meth c T locs cells slots) (hx : p.tables.exec = Jvm.exec) (hZ : Z.Warmed39 s.vm) {own : String} (hown : s.vm.findClass own = some m.cls) {R0 O n d host : String} {i : Nat} (w : (Cond.fieldLink own i R0 n d).before a0 Z = true ∨ (Cond.fieldLinkNest own i R0 n d host).before a0 Z = true) (via : Via Z R0 O n d) (eT : T.heap = h) {a : Addr} {v : Value} (F : Fld Z h a O n d v) (hd : decode c.code pc = .ok (.getfield i, 3)) (hp : pc' = pc + 3)
    (k : ∀ T', Stand p l e R s m args below meth c T' locs cells slots → T'.heap = h → Go p.tables e below P T' (mkF m pc' Ls (v :: S))) : Go p.tables e below P T (mkF m pc Ls (.ref a :: S)) := by
  subst hp
  obtain ⟨T', X', e', st⟩ := getF X hx hZ hown w via eT F (g := mkF m pc Ls (.ref a :: S)) rfl rfl hd
  exact Go.st st (k T' X' e')
theorem getS_ (X : Stand p l e R s m args below meth c T locs cells slots) (hx : p.tables.exec = Jvm.exec) (hZ : Z.Warmed39 s.vm) {own : String} (hown : s.vm.findClass own = some m.cls) {R0 O n d host : String} {i : Nat} (w : (Cond.fieldLink own i R0 n d).before a0 Z = true ∨ (Cond.fieldLinkNest own i R0 n d host).before a0 Z = true) (via : Via Z R0 O n d) (eT : T.heap = h) {v : Value} (F : Sta Z h O n d v) (hd : decode c.code pc = .ok (.getstatic i, 3)) (hp : pc' = pc + 3)
    (k : ∀ T', Stand p l e R s m args below meth c T' locs cells slots → T'.heap = h → Go p.tables e below P T' (mkF m pc' Ls (v :: S))) : Go p.tables e below P T (mkF m pc Ls (S)) := by
  subst hp
  obtain ⟨T', X', e', st⟩ := getS2 X hx hZ hown w via eT F (g := mkF m pc Ls S) rfl hd
  exact Go.st st (k T' X' e')
theorem putF_ (X : Stand p l e R s m args below meth c T locs cells slots) (hx : p.tables.exec = Jvm.exec) (hZ : Z.Warmed39 s.vm) {own : String} (hown : s.vm.findClass own = some m.cls) {R0 O n d C : String} {i kk : Nat} {ty : FieldType} (w : (Cond.fieldLink own i R0 n d).before a0 Z = true) (via : Via Z R0 O n d) (eT : T.heap = h) {a : Addr} {v v' old : Value} (F : Fld Z h a O n d old) (E : Exa Z h a C) (L : (Cond.lays C O n d).before a0 Z = true ∨ ((Cond.laysFinal C O n d).before a0 Z = true ∧ own = O ∧ meth.name = "<init>")) (wi : (Cond.instantiable C kk).before a0 Z = true) (hty : parseFieldDescriptor d = some ty) (hn : narrow ty v = v') (hf : fits ty v' = true) (hd : decode c.code pc = .ok (.putfield i, 3)) (hp : pc' = pc + 3)
    (k : ∀ T' h', Stand p l e R s m args below meth c T' (locs ++ [⟨a, Jvm.RoadKit.slotOf Z O n d⟩]) cells slots → T'.heap = h' → Wr h h' a (Jvm.RoadKit.slotOf Z O n d) v' → Go p.tables e below P T' (mkF m pc' Ls (S))) : Go p.tables e below P T (mkF m pc Ls (v :: .ref a :: S)) := by
  subst hp
  obtain ⟨T', h', X', e', W', st⟩ := putFN X hx hZ hown w via eT F E L wi hty hn hf (g := mkF m pc Ls (v :: .ref a :: S)) rfl rfl hd
  exact Go.st st (k T' h' X' e' W')
theorem new_ (X : Stand p l e R s m args below meth c T locs cells slots) (hx : p.tables.exec = Jvm.exec) (hZ : Z.Warmed39 s.vm) {own : String} (hown : s.vm.findClass own = some m.cls) {C : String} {i n : Nat} (w : (Cond.classLink own i C).before a0 Z = true) (wi : (Cond.instantiable C n).before a0 Z = true) (wz : (Cond.initialized C).before a0 Z = true) (eT : T.heap = h) (hd : decode c.code pc = .ok (.new i, 3)) (hp : pc' = pc + 3) (hc : cells + 1 ≤ R.cells) (hl : slots + n ≤ R.slots)
    (k : ∀ T' h' a, Stand p l e R s m args below meth c T' locs (cells + 1) (slots + n) → T'.heap = h' → a = h.size → Ext h h' → Exa Z h' a C → (∀ {O nm d : String} {ty : FieldType}, Laid Z a0 C O nm d → parseFieldDescriptor d = some ty → Fld Z h' a O nm d (defaultValue ty)) → Go p.tables e below P T' (mkF m pc' Ls (.ref a :: S))) : Go p.tables e below P T (mkF m pc Ls (S)) := by
  subst hp
  obtain ⟨T', h', X', e', E', A', D', -, st⟩ := newO X hx hZ hown w wi wz eT (g := mkF m pc Ls S) rfl hd hc hl
  exact Go.st st (k T' h' _ X' e' rfl E' A' D')
theorem initO_ (X : Stand p l e R s m args below meth c T locs cells slots) (hx : p.tables.exec = Jvm.exec) (hZ : Z.Warmed39 s.vm) {own : String} (hown : s.vm.findClass own = some m.cls) {i : Nat} (w1 : (Cond.methodLink own i Lib.objectInit).before a0 Z = true) (w2 : (Cond.instanceMethod Lib.objectInit).before a0 Z = true) (w3 : (Cond.code Lib.objectInit ⟨#[0xb1]⟩ 1 none).before a0 Z = true) (eT : T.heap = h) (hsize : Ls.size = c.maxLocals) {a : Addr} (hd : decode c.code pc = .ok (.invokespecial i, 3)) (hp : pc' = pc + 3) (hf : 1 ≤ R.frames) {W : Nat} (hW : (S.map fun v => v.category).sum ≤ W) (hl : W + 12 ≤ R.locals)
    (k : ∀ T', Stand p l e R s m args below meth c T' locs cells slots → T'.heap = h → Go p.tables e below P T' (mkF m pc' Ls (S))) : Go p.tables e below P T (mkF m pc Ls (.ref a :: S)) := by
  subst hp
  obtain ⟨T', X', e', st⟩ := initO X hx hZ hown w1 w2 w3 eT (g := mkF m pc Ls (.ref a :: S)) rfl hsize rfl hd hf (W := W) (by show 2 * 0 + _ ≤ _; simpa using hW) hl
  exact Go.st st (k T' X' e')
theorem callS_ (X : Stand p l e R s m args below meth c T locs cells slots) (hx : p.tables.exec = Jvm.exec) (hZ : Z.Warmed39 s.vm) {own : String} (hown : s.vm.findClass own = some m.cls) {y : MethodName} {i : Nat} {bytes : ByteArray} {maxL : Nat} {ret : Option FieldType} {rm : Room} {Q : Option Value → Heap → List Loc → Prop} {argsL S0 : List Value} (w1 : (Cond.methodLink own i y).before a0 Z = true) (w2 : (Cond.static y).before a0 Z = true) (w3 : (Cond.initialized y.cls).before a0 Z = true) (w4 : (Cond.code y bytes maxL ret).before a0 Z = true) (hy : y.cls ≠ "java/lang/invoke/MethodHandle" ∧ y.cls ≠ "java/lang/invoke/VarHandle") (hM : MetFree l y (head1 [Cond.code y bytes maxL ret] rm) (fun ar U => ar = argsL.toArray ∧ Z.Warmed39 U.vm ∧ U.heap = h) (fun _ _ _ _ _ => True) (fun _ U o U' => ∃ v L, o = .returned v ∧ Q v U'.heap L ∧ FrameEnd U o U' L rm.cells rm.slots)) (hf : rm.frames + 1 ≤ R.frames) {W : Nat} (hl : W + (maxL + 11) + rm.locals ≤ R.locals) (eT : T.heap = h) (hsize : Ls.size = c.maxLocals) {ps : List FieldType} {rt : Option FieldType} (hdesc : parseMethodDescriptor y.desc = some ⟨ps, rt⟩) (hlen : argsL.length = ps.length) (hS : S0 = argsL.reverse ++ S) (hW : (S.map fun v => v.category).sum ≤ W) (hd : decode c.code pc = .ok (.invokestatic i, 3)) (hp : pc' = pc + 3) (hc : cells + rm.cells ≤ R.cells) (hs : slots + rm.slots ≤ R.slots)
    (k : ∀ T' v L, Stand p l e R s m args below meth c T' (locs ++ L) (cells + rm.cells) (slots + rm.slots) → Q v T'.heap L → Go p.tables e below P T' (mkF m pc' Ls (v.toList ++ S))) : Go p.tables e below P T (mkF m pc Ls (S0)) := by
  subst hp hS
  obtain ⟨v, vm₁, ⟨T', L', k', n'⟩, -, X', ⟨L, hQ, l', y', z'⟩, st⟩ := Jvm.LawKit.callS X hx hown (mvT hZ w1) (mvT hZ w2) (mvT hZ w3) (mvT hZ w4) hy (backOf (W := W) hM hZ w4 w3 hf hl) (g := mkF m pc Ls (argsL.reverse ++ S)) rfl hsize (argsL := argsL) (rest := S) (lenOf hdesc hlen) rfl (by show 2 * 0 + _ ≤ _; simpa using hW) hd (fun _ _ => ⟨rfl, eT, hc, hs⟩)
  dsimp only [Pt.U, Pt.locs, Pt.cells, Pt.slots] at X' l' y' z' st hQ
  subst l' y' z'
  exact Go.st st (k T' v L X' hQ)
theorem callI_ (X : Stand p l e R s m args below meth c T locs cells slots) (hx : p.tables.exec = Jvm.exec) (hZ : Z.Warmed39 s.vm) {own : String} (hown : s.vm.findClass own = some m.cls) {y : MethodName} {i : Nat} {a : Addr} {bytes : ByteArray} {maxL : Nat} {ret : Option FieldType} {rm : Room} {Q : Option Value → Heap → List Loc → Prop} {argsL S0 : List Value} (hy1 : y.name = "<init>") (w1 : (Cond.methodLink own i y).before a0 Z = true) (w2 : (Cond.instanceMethod y).before a0 Z = true) (w3 : (Cond.initialized y.cls).before a0 Z = true) (w4 : (Cond.code y bytes maxL none).before a0 Z = true) (hret : ret = none) (hy : y.cls ≠ "java/lang/invoke/MethodHandle" ∧ y.cls ≠ "java/lang/invoke/VarHandle") (hM : MetFree l y (head1 [Cond.code y bytes maxL ret] rm) (fun ar U => ar = (.ref a :: argsL).toArray ∧ Z.Warmed39 U.vm ∧ U.heap = h) (fun _ _ _ _ _ => True) (fun _ U o U' => ∃ v L, o = .returned v ∧ Q v U'.heap L ∧ FrameEnd U o U' L rm.cells rm.slots)) (hf : rm.frames + 1 ≤ R.frames) {W : Nat} (hl : W + (maxL + 11) + rm.locals ≤ R.locals) (eT : T.heap = h) (hsize : Ls.size = c.maxLocals) {ps : List FieldType} {rt : Option FieldType} (hdesc : parseMethodDescriptor y.desc = some ⟨ps, rt⟩) (hlen : argsL.length = ps.length) (hS : S0 = argsL.reverse ++ .ref a :: S) (hW : (S.map fun v => v.category).sum ≤ W) (hd : decode c.code pc = .ok (.invokespecial i, 3)) (hp : pc' = pc + 3) (hc : cells + rm.cells ≤ R.cells) (hs : slots + rm.slots ≤ R.slots)
    (k : ∀ T' v L, Stand p l e R s m args below meth c T' (locs ++ L) (cells + rm.cells) (slots + rm.slots) → Q v T'.heap L → Go p.tables e below P T' (mkF m pc' Ls (v.toList ++ S))) : Go p.tables e below P T (mkF m pc Ls (S0)) := by
  subst hp hS hret
  obtain ⟨v, vm₁, ⟨T', L', k', n'⟩, -, X', ⟨L, hQ, l', y', z'⟩, st⟩ := X.specialBack hx hy1 hown (mvT hZ w1) (mvT hZ w2) (mvT hZ w4) hy (backOf (W := W) hM hZ w4 w3 hf hl) (g := mkF m pc Ls (argsL.reverse ++ .ref a :: S)) rfl hsize (Steps.refl _) (a := a) (argsL := argsL) (rest := S) (lenOf hdesc hlen) rfl (by show 2 * 0 + _ ≤ _; simpa using hW) hd (fun _ _ => ⟨rfl, eT, hc, hs⟩)
  dsimp only [Pt.U, Pt.locs, Pt.cells, Pt.slots] at X' l' y' z' st hQ
  subst l' y' z'
  exact Go.st1 st (k T' v L X' hQ)
theorem callV_ (X : Stand p l e R s m args below meth c T locs cells slots) (hx : p.tables.exec = Jvm.exec) (hZ : Z.Warmed39 s.vm) {own : String} (hown : s.vm.findClass own = some m.cls) {C : String} {y z : MethodName} {i : Nat} {a : Addr} {bytes : ByteArray} {maxL : Nat} {ret : Option FieldType} {rm : Room} {Q : Option Value → Heap → List Loc → Prop} {argsL S0 : List Value} (w1 : (Cond.methodLink own i y).before a0 Z = true) (w2 : (Cond.declares y).before a0 Z = true) (nf : NotFace s y) (w3 : (Cond.selects C y z).before a0 Z = true) (w4 : (Cond.instanceMethod z).before a0 Z = true) (w5 : (Cond.code z bytes maxL ret).before a0 Z = true) (w6 : (Cond.initialized z.cls).before a0 Z = true) (hy : y.cls ≠ "java/lang/invoke/MethodHandle" ∧ y.cls ≠ "java/lang/invoke/VarHandle") (E : Exa Z h a C) (hM : MetFree l z (head1 [Cond.code z bytes maxL ret] rm) (fun ar U => ar = (.ref a :: argsL).toArray ∧ Z.Warmed39 U.vm ∧ U.heap = h) (fun _ _ _ _ _ => True) (fun _ U o U' => ∃ v L, o = .returned v ∧ Q v U'.heap L ∧ FrameEnd U o U' L rm.cells rm.slots)) (hf : rm.frames + 1 ≤ R.frames) {W : Nat} (hl : W + (maxL + 11) + rm.locals ≤ R.locals) (eT : T.heap = h) (hsize : Ls.size = c.maxLocals) {ps : List FieldType} {rt : Option FieldType} (hdesc : parseMethodDescriptor y.desc = some ⟨ps, rt⟩) (hlen : argsL.length = ps.length) (hS : S0 = argsL.reverse ++ .ref a :: S) (hW : (S.map fun v => v.category).sum ≤ W) (hd : decode c.code pc = .ok (.invokevirtual i, 3)) (hp : pc' = pc + 3) (hc : cells + rm.cells ≤ R.cells) (hs : slots + rm.slots ≤ R.slots)
    (k : ∀ T' v L, Stand p l e R s m args below meth c T' (locs ++ L) (cells + rm.cells) (slots + rm.slots) → Q v T'.heap L → Go p.tables e below P T' (mkF m pc' Ls (v.toList ++ S))) : Go p.tables e below P T (mkF m pc Ls (S0)) := by
  subst hp hS
  obtain ⟨cq, kq, qa, qb, qc⟩ := isOf hZ eT E
  obtain ⟨v, vm₁, ⟨T', L', k', n'⟩, -, X', ⟨L, hQ, l', y', z'⟩, st⟩ := X.virtualBack hx hown (mvT hZ w1) (mvT hZ w2) nf (mvT hZ w3) (mvT hZ w4) hy (backOf (W := W) hM hZ w5 w6 hf hl) qa qc (g := mkF m pc Ls (argsL.reverse ++ .ref a :: S)) rfl hsize (Steps.refl _) (argsL := argsL) (rest := S) (lenOf hdesc hlen) rfl (by show 2 * 0 + _ ≤ _; simpa using hW) hd (fun _ _ => ⟨rfl, eT, hc, hs⟩)
  dsimp only [Pt.U, Pt.locs, Pt.cells, Pt.slots] at X' l' y' z' st hQ
  subst l' y' z'
  exact Go.st1 st (k T' v L X' hQ)
theorem met {y : MethodName} {bytes : ByteArray} {maxL : Nat} {ret : Option FieldType} {rm : Room} {as' : Array Value} {Q : Option Value → Heap → List Loc → Prop} {ws : List Jvm.Cond} {C N : Nat} (hpl : plainFor y = true) (ef : ∀ m, entryFrame m as' maxL = mkF m 0 Ls [])
    (body : ∀ (p : Program) (e : Env) (s : State) (m : MethodId) (below : List Frame) (meth : Method) (c : Code) (T : State), Stand p l e rm s m as' below meth c T [] 0 0 → p.tables.exec = Jvm.exec → Z.Warmed39 s.vm → c.code = bytes → c.maxLocals = maxL → s.vm.findClass y.cls = some m.cls → meth.name = y.name → meth.sig.returnType = ret → meth.locks = false → T.heap = h →
      Go p.tables e below (PQ s Q C N) T (mkF m 0 Ls [])) :
    MetFree l y (head1 (Cond.code y bytes maxL ret :: ws) rm) (fun a U => a = as' ∧ Z.Warmed39 U.vm ∧ U.heap = h) (fun _ _ _ _ _ => True) (fun _ U o U' => ∃ v L, o = .returned v ∧ Q v U'.heap L ∧ FrameEnd U o U' L C N) := by
  refine MetFree.of_bodySF hpl hisR ?_
  intro p e s m args below meth c s₁ Bd hml0 hP hK
  obtain ⟨rfl, hZ, hh⟩ := hP
  have e0 : s₁.heap = h := by rw [← hh, Bd.state]; rfl
  obtain ⟨s₂, o, h1, h2⟩ := body p e s m below meth c s₁ (Stand.of_body Bd) Bd.exec hZ Bd.bytes hml0 (findClass_of_methodNamed Bd.named) (name_of_methodNamed Bd.named Bd.method).1 Bd.returns Bd.notSynchronized e0
  exact ⟨s₂, o, castTop (ef m) h1, h2⟩
theorem ret_ (X : Stand p l e R s m args below meth c T locs cells slots) (hx : p.tables.exec = Jvm.exec) {Q : Option Value → Heap → List Loc → Prop} {C N : Nat} {w : Value} {t : FieldType} {i : Instr} (hret : meth.sig.returnType = some t) (hlk : meth.locks = false) (hn : narrow t w = w)
    (hi : (i = .ireturn ∧ (t = .int ∨ t = .boolean ∨ t = .byte ∨ t = .char ∨ t = .short) ∧ ∃ z, w = .int z) ∨ (i = .lreturn ∧ t = .long ∧ ∃ z, w = .long z) ∨ (i = .dreturn ∧ t = .double ∧ ∃ z, w = .double z) ∨ (i = .freturn ∧ t = .float ∧ ∃ z, w = .float z) ∨ (i = .areturn ∧ t.isReference = true ∧ w.isRef = true))
    (hd : decode c.code pc = .ok (i, 1)) (hC : cells ≤ C) (hN : slots ≤ N) (q : Q (some w) T.heap locs) : Go p.tables e below (PQ s Q C N) T (mkF m pc Ls (w :: S)) := by
  obtain ⟨fs, hr, hrun, hended, hW, hsame⟩ := X.leave (v := some w) (fun h => by rw [hret] at h; cases h) hlk
  exact ⟨_, _, retOut X hx hret hn hi hd hr, hrun, hended, _, _, rfl, q, ⟨_, rfl⟩, hW, hsame.mono hC hN⟩
theorem retA_ (X : Stand p l e R s m args below meth c T locs cells slots) (hx : p.tables.exec = Jvm.exec) {Q : Option Value → Heap → List Loc → Prop} {C N : Nat} {w : Value} {t : FieldType} (hret : meth.sig.returnType = some t) (ht : t.isReference = true) (hw : w.isRef = true) (hlk : meth.locks = false) (hd : decode c.code pc = .ok (.areturn, 1)) (hC : cells ≤ C) (hN : slots ≤ N) (q : Q (some w) T.heap locs) : Go p.tables e below (PQ s Q C N) T (mkF m pc Ls (w :: S)) :=
  ret_ X hx hret hlk (by cases t <;> first | (cases ht; done) | rfl) (Or.inr (Or.inr (Or.inr (Or.inr ⟨rfl, ht, hw⟩)))) hd hC hN q
theorem retN_ (X : Stand p l e R s m args below meth c T locs cells slots) (hx : p.tables.exec = Jvm.exec) {Q : Option Value → Heap → List Loc → Prop} {C N : Nat} {z : Int32} {t : FieldType} (hret : meth.sig.returnType = some t) (ht : t = .boolean ∨ t = .byte ∨ t = .char ∨ t = .short) (hlk : meth.locks = false) (hd : decode c.code pc = .ok (.ireturn, 1)) (hC : cells ≤ C) (hN : slots ≤ N) (q : Q (some (.int (nar t z))) T.heap locs) : Go p.tables e below (PQ s Q C N) T (mkF m pc Ls (.int z :: S)) := by
  obtain ⟨fs, hr, hrun, hended, hW, hsame⟩ := X.leave (v := some (.int (nar t z))) (fun h => by rw [hret] at h; cases h) hlk
  exact ⟨_, _, retN X hx hret ht hd hr, hrun, hended, _, _, rfl, q, ⟨_, rfl⟩, hW, hsame.mono hC hN⟩
theorem retV_ (X : Stand p l e R s m args below meth c T locs cells slots) (hx : p.tables.exec = Jvm.exec) {Q : Option Value → Heap → List Loc → Prop} {C N : Nat} (hret : meth.sig.returnType = none) (hlk : meth.locks = false) (hd : decode c.code pc = .ok (.return_, 1)) (hC : cells ≤ C) (hN : slots ≤ N) (q : Q none T.heap locs) : Go p.tables e below (PQ s Q C N) T (mkF m pc Ls []) := by
  obtain ⟨fs, hr, hrun, hended, hW, hsame⟩ := X.leave (v := none) (fun _ => rfl) hlk
  exact ⟨_, _, X.returnOut hx hret hd hr, hrun, hended, _, _, rfl, q, ⟨_, rfl⟩, hW, hsame.mono hC hN⟩
end Steps
end Jvm.OwnK
namespace Jvm.Pilot.@@N@@
open Jvm Jvm.ClassFile Sem Op Lib Jvm.Free Jvm.Stand Jvm.LawKit Jvm.RoadKit Bundle Jvm.Pilot.@@N@@.Jvm.D
theorem own_ef_2 (p1 : Int32)  (m : MethodId) : entryFrame m #[(.int p1)] 1 = mkF m 0 #[.val (.int p1)] [] := by first | (simp [entryFrame, mkF, argsToLocals, Value.category]; done) | rfl
theorem own_d2_0 : decode method_3_code 0 = .ok (.iload_n 0, 1) := by decide +kernel
theorem own_d2_1 : decode method_3_code 1 = .ok (.ifCond .ne 7, 3) := by decide +kernel
theorem own_d2_8 : decode method_3_code 8 = .ok (.iload_n 0, 1) := by decide +kernel
theorem own_d2_9 : decode method_3_code 9 = .ok (.iconst 1, 1) := by decide +kernel
theorem own_d2_10 : decode method_3_code 10 = .ok (.if_icmp .ne 7, 3) := by decide +kernel
theorem own_d2_17 : decode method_3_code 17 = .ok (.iload_n 0, 1) := by decide +kernel
theorem own_d2_18 : decode method_3_code 18 = .ok (.iconst 2, 1) := by decide +kernel
theorem own_d2_19 : decode method_3_code 19 = .ok (.if_icmp .ne 7, 3) := by decide +kernel
theorem own_d2_26 : decode method_3_code 26 = .ok (.iload_n 0, 1) := by decide +kernel
theorem own_d2_27 : decode method_3_code 27 = .ok (.iconst 3, 1) := by decide +kernel
theorem own_d2_28 : decode method_3_code 28 = .ok (.if_icmp .ne 7, 3) := by decide +kernel
theorem own_d2_35 : decode method_3_code 35 = .ok (.iload_n 0, 1) := by decide +kernel
theorem own_d2_36 : decode method_3_code 36 = .ok (.iconst 4, 1) := by decide +kernel
theorem own_d2_37 : decode method_3_code 37 = .ok (.if_icmp .ne 7, 3) := by decide +kernel
theorem own_d2_44 : decode method_3_code 44 = .ok (.iload_n 0, 1) := by decide +kernel
theorem own_d2_45 : decode method_3_code 45 = .ok (.iconst 5, 1) := by decide +kernel
theorem own_d2_46 : decode method_3_code 46 = .ok (.if_icmp .ne 7, 3) := by decide +kernel
theorem own_d2_53 : decode method_3_code 53 = .ok (.iload_n 0, 1) := by decide +kernel
theorem own_d2_54 : decode method_3_code 54 = .ok (.bipush 6, 2) := by decide +kernel
theorem own_d2_56 : decode method_3_code 56 = .ok (.if_icmp .ne 7, 3) := by decide +kernel
theorem own_d2_63 : decode method_3_code 63 = .ok (.aconst_null, 1) := by decide +kernel
theorem own_d2_64 : decode method_3_code 64 = .ok (.areturn, 1) := by decide +kernel
theorem own_d2_59 : decode method_3_code 59 = .ok (.getstatic 43, 3) := by decide +kernel
theorem own_d2_62 : decode method_3_code 62 = .ok (.areturn, 1) := by decide +kernel
theorem own_d2_49 : decode method_3_code 49 = .ok (.getstatic 40, 3) := by decide +kernel
theorem own_d2_52 : decode method_3_code 52 = .ok (.areturn, 1) := by decide +kernel
theorem own_d2_40 : decode method_3_code 40 = .ok (.getstatic 37, 3) := by decide +kernel
theorem own_d2_43 : decode method_3_code 43 = .ok (.areturn, 1) := by decide +kernel
theorem own_d2_31 : decode method_3_code 31 = .ok (.getstatic 34, 3) := by decide +kernel
theorem own_d2_34 : decode method_3_code 34 = .ok (.areturn, 1) := by decide +kernel
theorem own_d2_22 : decode method_3_code 22 = .ok (.getstatic 31, 3) := by decide +kernel
theorem own_d2_25 : decode method_3_code 25 = .ok (.areturn, 1) := by decide +kernel
theorem own_d2_13 : decode method_3_code 13 = .ok (.getstatic 28, 3) := by decide +kernel
theorem own_d2_16 : decode method_3_code 16 = .ok (.areturn, 1) := by decide +kernel
theorem own_d2_4 : decode method_3_code 4 = .ok (.getstatic 22, 3) := by decide +kernel
theorem own_d2_7 : decode method_3_code 7 = .ok (.areturn, 1) := by decide +kernel
theorem own_pl_2 : plainFor (⟨"com/example/entryway/entryway/KeyIsForPinLaw", "entryType", "(I)Lcom/example/entryway/entryway/Keys$EntryType;"⟩ : MethodName) = true := plainFor_of_name (by first | (simp [plainName, overriddenIn]; done) | decide +kernel)
theorem own_ef_1 (p1 : Int32)  (m : MethodId) : entryFrame m #[(.int p1)] 1 = mkF m 0 #[.val (.int p1)] [] := by first | (simp [entryFrame, mkF, argsToLocals, Value.category]; done) | rfl
theorem own_d1_0 : decode method_2_code 0 = .ok (.iload_n 0, 1) := by decide +kernel
theorem own_d1_1 : decode method_2_code 1 = .ok (.ifCond .ne 7, 3) := by decide +kernel
theorem own_d1_8 : decode method_2_code 8 = .ok (.iload_n 0, 1) := by decide +kernel
theorem own_d1_9 : decode method_2_code 9 = .ok (.iconst 1, 1) := by decide +kernel
theorem own_d1_10 : decode method_2_code 10 = .ok (.if_icmp .ne 7, 3) := by decide +kernel
theorem own_d1_17 : decode method_2_code 17 = .ok (.iload_n 0, 1) := by decide +kernel
theorem own_d1_18 : decode method_2_code 18 = .ok (.iconst 2, 1) := by decide +kernel
theorem own_d1_19 : decode method_2_code 19 = .ok (.if_icmp .ne 7, 3) := by decide +kernel
theorem own_d1_26 : decode method_2_code 26 = .ok (.getstatic 19, 3) := by decide +kernel
theorem own_d1_29 : decode method_2_code 29 = .ok (.areturn, 1) := by decide +kernel
theorem own_d1_22 : decode method_2_code 22 = .ok (.getstatic 16, 3) := by decide +kernel
theorem own_d1_25 : decode method_2_code 25 = .ok (.areturn, 1) := by decide +kernel
theorem own_d1_13 : decode method_2_code 13 = .ok (.getstatic 13, 3) := by decide +kernel
theorem own_d1_16 : decode method_2_code 16 = .ok (.areturn, 1) := by decide +kernel
theorem own_d1_4 : decode method_2_code 4 = .ok (.getstatic 7, 3) := by decide +kernel
theorem own_d1_7 : decode method_2_code 7 = .ok (.areturn, 1) := by decide +kernel
theorem own_pl_1 : plainFor (⟨"com/example/entryway/entryway/KeyIsForPinLaw", "valueType", "(I)Lcom/example/entryway/entryway/Keys$ValueType;"⟩ : MethodName) = true := plainFor_of_name (by first | (simp [plainName, overriddenIn]; done) | decide +kernel)
theorem own_ef_4 (p1 : Addr)  (m : MethodId) : entryFrame m #[(.ref p1)] 1 = mkF m 0 #[.val (.ref p1)] [] := by first | (simp [entryFrame, mkF, argsToLocals, Value.category]; done) | rfl
theorem own_d4_0 : decode jdk_30_method_1_code 0 = .ok (.aload_n 0, 1) := by decide +kernel
theorem own_d4_1 : decode jdk_30_method_1_code 1 = .ok (.invokespecial 1, 3) := by decide +kernel
theorem own_d4_4 : decode jdk_30_method_1_code 4 = .ok (.return_, 1) := by decide +kernel
theorem own_pl_4 : plainFor (⟨"java/lang/Record", "<init>", "()V"⟩ : MethodName) = true := plainFor_of_name (by first | (simp [plainName, overriddenIn]; done) | decide +kernel)
theorem own_ef_3 (p1 : Addr) (p2 : Addr) (p3 : Value) (p4 : Int32) (p5 : Int32) (rp3 : p3.isRef = true) (m : MethodId) : entryFrame m #[(.ref p1), (.ref p2), p3, (.int p4), (.int p5)] 5 = mkF m 0 #[.val (.ref p1), .val (.ref p2), .val p3, .val (.int p4), .val (.int p5)] [] := by (rcases XT.refc rp3 with h | ⟨r, h⟩ <;> subst h) <;> first | (simp [entryFrame, mkF, argsToLocals, Value.category]; done) | rfl
theorem own_d3_0 : decode prog_54_method_1_code 0 = .ok (.aload_n 0, 1) := by decide +kernel
theorem own_d3_1 : decode prog_54_method_1_code 1 = .ok (.invokespecial 1, 3) := by decide +kernel
theorem own_pd_0 : parseMethodDescriptor "()V" = some ⟨[], none⟩ := by decide +kernel
theorem own_d3_4 : decode prog_54_method_1_code 4 = .ok (.aload_n 0, 1) := by decide +kernel
theorem own_d3_5 : decode prog_54_method_1_code 5 = .ok (.aload_n 1, 1) := by decide +kernel
theorem own_d3_6 : decode prog_54_method_1_code 6 = .ok (.putfield 7, 3) := by decide +kernel
theorem own_d3_9 : decode prog_54_method_1_code 9 = .ok (.aload_n 0, 1) := by decide +kernel
theorem own_d3_10 : decode prog_54_method_1_code 10 = .ok (.aload_n 2, 1) := by decide +kernel
theorem own_d3_11 : decode prog_54_method_1_code 11 = .ok (.putfield 13, 3) := by decide +kernel
theorem own_d3_14 : decode prog_54_method_1_code 14 = .ok (.aload_n 0, 1) := by decide +kernel
theorem own_d3_15 : decode prog_54_method_1_code 15 = .ok (.iload_n 3, 1) := by decide +kernel
theorem own_d3_16 : decode prog_54_method_1_code 16 = .ok (.putfield 17, 3) := by decide +kernel
theorem own_d3_19 : decode prog_54_method_1_code 19 = .ok (.aload_n 0, 1) := by decide +kernel
theorem own_d3_20 : decode prog_54_method_1_code 20 = .ok (.iload 4, 2) := by decide +kernel
theorem own_d3_22 : decode prog_54_method_1_code 22 = .ok (.putfield 21, 3) := by decide +kernel
theorem own_d3_25 : decode prog_54_method_1_code 25 = .ok (.return_, 1) := by decide +kernel
theorem own_pl_3 : plainFor (⟨"com/example/entryway/entryway/Keys$Key", "<init>", "(Lcom/example/entryway/entryway/Keys$ValueType;Lcom/example/entryway/entryway/Keys$EntryType;ZZ)V"⟩ : MethodName) = true := plainFor_of_name (by first | (simp [plainName, overriddenIn]; done) | decide +kernel)
theorem own_ef_6 (p1 : Addr) (p2 : Value) (rp2 : p2.isRef = true) (m : MethodId) : entryFrame m #[(.ref p1), p2] 2 = mkF m 0 #[.val (.ref p1), .val p2] [] := by (rcases XT.refc rp2 with h | ⟨r, h⟩ <;> subst h) <;> first | (simp [entryFrame, mkF, argsToLocals, Value.category]; done) | rfl
theorem own_d6_0 : decode prog_54_method_2_code 0 = .ok (.aload_n 0, 1) := by decide +kernel
theorem own_d6_1 : decode prog_54_method_2_code 1 = .ok (.getfield 13, 3) := by decide +kernel
theorem own_d6_4 : decode prog_54_method_2_code 4 = .ok (.ifnull 11, 3) := by decide +kernel
theorem own_d6_15 : decode prog_54_method_2_code 15 = .ok (.iconst 1, 1) := by decide +kernel
theorem own_d6_16 : decode prog_54_method_2_code 16 = .ok (.goto 4, 3) := by decide +kernel
theorem own_d6_20 : decode prog_54_method_2_code 20 = .ok (.ireturn, 1) := by decide +kernel
theorem own_d6_7 : decode prog_54_method_2_code 7 = .ok (.aload_n 0, 1) := by decide +kernel
theorem own_d6_8 : decode prog_54_method_2_code 8 = .ok (.getfield 13, 3) := by decide +kernel
theorem own_d6_11 : decode prog_54_method_2_code 11 = .ok (.aload_n 1, 1) := by decide +kernel
theorem own_d6_12 : decode prog_54_method_2_code 12 = .ok (.if_acmp .ne 7, 3) := by decide +kernel
theorem own_d6_19 : decode prog_54_method_2_code 19 = .ok (.iconst 0, 1) := by decide +kernel
theorem own_pl_6 : plainFor (⟨"com/example/entryway/entryway/Keys$Key", "isFor", "(Lcom/example/entryway/entryway/Keys$EntryType;)Z"⟩ : MethodName) = true := plainFor_of_name (by first | (simp [plainName, overriddenIn]; done) | decide +kernel)
theorem own_ef_0 (p0 : Int32) (p1 : Int32) (p2 : Int32) (p3 : Int32)  (m : MethodId) : entryFrame m #[(.int p0), (.int p1), (.int p2), (.int p3)] maxLocals = mkF m 0 #[.val (.int p0), .val (.int p1), .val (.int p2), .val (.int p3), .unset, .unset, .unset, .unset, .unset, .unset] [] := by first | (simp [entryFrame, mkF, argsToLocals, Value.category, maxLocals]; done) | rfl
theorem own_pd_2 : parseMethodDescriptor "(I)Lcom/example/entryway/entryway/Keys$ValueType;" = some ⟨[.int], some (.object "com/example/entryway/entryway/Keys$ValueType")⟩ := by decide +kernel
theorem own_pd_1 : parseMethodDescriptor "(I)Lcom/example/entryway/entryway/Keys$EntryType;" = some ⟨[.int], some (.object "com/example/entryway/entryway/Keys$EntryType")⟩ := by decide +kernel
theorem own_pd_4 : parseMethodDescriptor "(Lcom/example/entryway/entryway/Keys$ValueType;Lcom/example/entryway/entryway/Keys$EntryType;ZZ)V" = some ⟨[(.object "com/example/entryway/entryway/Keys$ValueType"), (.object "com/example/entryway/entryway/Keys$EntryType"), .boolean, .boolean], none⟩ := by decide +kernel
theorem own_pd_3 : parseMethodDescriptor "(Lcom/example/entryway/entryway/Keys$EntryType;)Z" = some ⟨[(.object "com/example/entryway/entryway/Keys$EntryType")], some .boolean⟩ := by decide +kernel
theorem own_pl_0 : plainFor x = true := plainFor_of_name (by first | (simp [plainName, overriddenIn]; done) | decide +kernel)
def own_et (ea : Nat → Addr) (i : Int) : Value := if 0 ≤ i ∧ i < 7 then .ref (ea i.toNat) else .null
theorem own_etR (ea : Nat → Addr) (i : Int) : (own_et ea i).isRef = true := by unfold own_et; split <;> rfl
theorem own_et_eq {ea : Nat → Addr} (hinj : ∀ i j, i < 7 → j < 7 → ea i = ea j → i = j) {i j : Int} (hi : 0 ≤ i ∧ i ≤ 7) (hj : 0 ≤ j ∧ j ≤ 7) : (own_et ea i = .null ∨ own_et ea i = own_et ea j) ↔ (i = 7 ∨ i = j) := by
  unfold own_et
  by_cases h1 : i = 7
  · subst h1; simp
  · rw [if_pos (show 0 ≤ i ∧ i < 7 by omega)]
    constructor
    · rintro (h | h)
      · cases h
      · split at h
        · have := hinj _ _ (by omega) (by omega) (Value.ref.inj h); omega
        · cases h
    · rintro (h | h)
      · exact absurd h h1
      · subst h; right; rw [if_pos (show 0 ≤ i ∧ i < 7 by omega)]
def own_isF (e t : Value) : Int32 := if e = .null ∨ e = t then 1 else 0
theorem own_isF1 {e t : Value} (h : e = .null ∨ e = t) : own_isF e t = 1 := if_pos h
theorem own_isF0 {e t : Value} (h : ¬ (e = .null ∨ e = t)) : own_isF e t = 0 := if_neg h
theorem own_nar1 : nar .boolean (1 : Int32) = 1 := by decide
theorem own_nar0 : nar .boolean (0 : Int32) = 0 := by decide
theorem own_m7 (x : Int32) : 0 ≤ (x &&& (7 : Int32)).toInt ∧ (x &&& (7 : Int32)).toInt ≤ 7 := by
  rw [Jvm.Kit.i32_mask x 7 (k := 3) (by decide) (by decide)]; omega
theorem own_eqv {s : State} {args : Array Value} {a b : Term} {x : Value} {n : Int32} (h : (Jvm.Cond.eq a b).value args s none s [] = some true) (ex : a.eval args s none [] s = some x) (ey : b.eval args s none [] s = some (.int n)) : x = .int n := by
  cases x <;> simp [Cond.value, ex, ey] at h ⊢
  exact h
theorem own_ord {s : State} {args : Array Value} {t : Term} {a : Addr} {n : Int32} (ev : t.eval args s none [] s = some (.ref a)) (h : (Jvm.Cond.eq (.field t "java/lang/Enum" "ordinal" "I") (.int n)).value args s none s [] = some true) : Fld s s.heap a "java/lang/Enum" "ordinal" "I" (.int n) := by
  obtain ⟨x, y, ex, ey, -⟩ := cmp_v (Or.inl h)
  have q : x = .int n := own_eqv h ex (Term.int_eval n)
  subst q
  exact Fld.start (by rw [← fld_at ev]; exact ex)
def own_seven (a b c d e f g : Addr) : Nat → Addr
  | 0 => a | 1 => b | 2 => c | 3 => d | 4 => e | 5 => f | _ => g
def own_four (a b c d : Addr) : Nat → Addr
  | 0 => a | 1 => b | 2 => c | _ => d
theorem own_inj {s : State} {h : Heap} {C n d : String} {a0 a1 a2 a3 a4 a5 a6 : Addr} (F0 : Fld s h a0 C n d (.int 0)) (F1 : Fld s h a1 C n d (.int 1)) (F2 : Fld s h a2 C n d (.int 2)) (F3 : Fld s h a3 C n d (.int 3)) (F4 : Fld s h a4 C n d (.int 4)) (F5 : Fld s h a5 C n d (.int 5)) (F6 : Fld s h a6 C n d (.int 6)) :
    ∀ i j, i < 7 → j < 7 → own_seven a0 a1 a2 a3 a4 a5 a6 i = own_seven a0 a1 a2 a3 a4 a5 a6 j → i = j := by
  have F : ∀ i, i < 7 → Fld s h (own_seven a0 a1 a2 a3 a4 a5 a6 i) C n d (.int (Int32.ofNat i)) := fun i hi => by
    match i, hi with
    | 0, _ => exact F0
    | 1, _ => exact F1
    | 2, _ => exact F2
    | 3, _ => exact F3
    | 4, _ => exact F4
    | 5, _ => exact F5
    | 6, _ => exact F6
  intro i j hi hj e
  refine Classical.byContradiction fun q => ?_
  refine Fld.ne (F i hi) (F j hj) (fun z => q ?_) e
  have z1 := Value.int.inj z
  have z2 := congrArg Int32.toInt z1
  rw [Int32.toInt_ofNat_of_lt (by omega), Int32.toInt_ofNat_of_lt (by omega)] at z2
  omega

def own_Qmet2 (h0 : Heap) (p1 : Int32) (ea va : Nat → Addr) (n0 : Nat) (v : Option Value) (h : Heap) (L : List Loc) : Prop := v = some (own_et ea p1.toInt) ∧ h = h0 ∧ L = []
set_option maxRecDepth 65536 in
set_option maxHeartbeats 40000000 in
theorem own_met2 (l : Launch) (Z : State) (a0 : Array Value) (hw : ∀ d ∈ tables_1, d.before a0 Z = true) (h0 : Heap) (p1 : Int32) (ea va : Nat → Addr) (n0 : Nat) (O0 : Old Z n0 h0) (hp : 0 ≤ p1.toInt ∧ p1.toInt ≤ 7) (SE0 : Sta Z Z.heap "com/example/entryway/entryway/Keys$EntryType" "APPLICATION" "Lcom/example/entryway/entryway/Keys$EntryType;" (.ref (ea 0))) (SE1 : Sta Z Z.heap "com/example/entryway/entryway/Keys$EntryType" "LINK" "Lcom/example/entryway/entryway/Keys$EntryType;" (.ref (ea 1))) (SE2 : Sta Z Z.heap "com/example/entryway/entryway/Keys$EntryType" "DIRECTORY" "Lcom/example/entryway/entryway/Keys$EntryType;" (.ref (ea 2))) (SE3 : Sta Z Z.heap "com/example/entryway/entryway/Keys$EntryType" "SERVICE" "Lcom/example/entryway/entryway/Keys$EntryType;" (.ref (ea 3))) (SE4 : Sta Z Z.heap "com/example/entryway/entryway/Keys$EntryType" "SERVICE_TYPE" "Lcom/example/entryway/entryway/Keys$EntryType;" (.ref (ea 4))) (SE5 : Sta Z Z.heap "com/example/entryway/entryway/Keys$EntryType" "FS_DEVICE" "Lcom/example/entryway/entryway/Keys$EntryType;" (.ref (ea 5))) (SE6 : Sta Z Z.heap "com/example/entryway/entryway/Keys$EntryType" "MIME_TYPE" "Lcom/example/entryway/entryway/Keys$EntryType;" (.ref (ea 6))) (SV0 : Sta Z Z.heap "com/example/entryway/entryway/Keys$ValueType" "STRING" "Lcom/example/entryway/entryway/Keys$ValueType;" (.ref (va 0))) (SV1 : Sta Z Z.heap "com/example/entryway/entryway/Keys$ValueType" "LOCALESTRING" "Lcom/example/entryway/entryway/Keys$ValueType;" (.ref (va 1))) (SV2 : Sta Z Z.heap "com/example/entryway/entryway/Keys$ValueType" "ICONSTRING" "Lcom/example/entryway/entryway/Keys$ValueType;" (.ref (va 2))) (SV3 : Sta Z Z.heap "com/example/entryway/entryway/Keys$ValueType" "BOOLEAN" "Lcom/example/entryway/entryway/Keys$ValueType;" (.ref (va 3))) :
    MetFree l (⟨"com/example/entryway/entryway/KeyIsForPinLaw", "entryType", "(I)Lcom/example/entryway/entryway/Keys$EntryType;"⟩ : MethodName) (head1 [Jvm.Cond.code (⟨"com/example/entryway/entryway/KeyIsForPinLaw", "entryType", "(I)Lcom/example/entryway/entryway/Keys$EntryType;"⟩ : MethodName) method_3_code 1 (some (.object "com/example/entryway/entryway/Keys$EntryType"))] ({ frames := 0, cells := 0, slots := 0, locals := 0 } : Room)) (fun a U => a = #[(.int p1)] ∧ Z.Warmed39 U.vm ∧ U.heap = h0) (fun _ _ _ _ _ => True) (fun _ U o U' => ∃ v L, o = .returned v ∧ (own_Qmet2 h0 p1 ea va n0) v U'.heap L ∧ FrameEnd U o U' L ({ frames := 0, cells := 0, slots := 0, locals := 0 } : Room).cells ({ frames := 0, cells := 0, slots := 0, locals := 0 } : Room).slots) := by
  refine OwnK.met (Q := (own_Qmet2 h0 p1 ea va n0)) (C := ({ frames := 0, cells := 0, slots := 0, locals := 0 } : Room).cells) (N := ({ frames := 0, cells := 0, slots := 0, locals := 0 } : Room).slots) own_pl_2 (own_ef_2 p1) ?_
  intro p e s m below meth c T0 X0 hx hZ hby hml hown hnm hret hlk e0
  refine OwnK.iloadN X0 hx (hb hby own_d2_0) (pc' := 1) rfl (v := p1) rfl ?_
  refine OwnK.if_ne X0 hx (hb hby own_d2_1) (by decide) (pcT := 8) (by decide) (pc' := 4) rfl (fun (hc1 : ¬ p1.toInt = 0) => ?_) (fun (hc1 : p1.toInt = 0) => ?_)
  · refine OwnK.iloadN X0 hx (hb hby own_d2_8) (pc' := 9) rfl (v := p1) rfl ?_
    refine OwnK.iconst X0 hx (hb hby own_d2_9) (pc' := 10) rfl (v := (1 : Int32)) (by decide) ?_
    refine OwnK.icmp_ne X0 hx (hb hby own_d2_10) (by decide) (pcT := 17) (by decide) (pc' := 13) rfl (fun (hc2 : ¬ p1.toInt = 1) => ?_) (fun (hc2 : p1.toInt = 1) => ?_)
    · refine OwnK.iloadN X0 hx (hb hby own_d2_17) (pc' := 18) rfl (v := p1) rfl ?_
      refine OwnK.iconst X0 hx (hb hby own_d2_18) (pc' := 19) rfl (v := (2 : Int32)) (by decide) ?_
      refine OwnK.icmp_ne X0 hx (hb hby own_d2_19) (by decide) (pcT := 26) (by decide) (pc' := 22) rfl (fun (hc3 : ¬ p1.toInt = 2) => ?_) (fun (hc3 : p1.toInt = 2) => ?_)
      · refine OwnK.iloadN X0 hx (hb hby own_d2_26) (pc' := 27) rfl (v := p1) rfl ?_
        refine OwnK.iconst X0 hx (hb hby own_d2_27) (pc' := 28) rfl (v := (3 : Int32)) (by decide) ?_
        refine OwnK.icmp_ne X0 hx (hb hby own_d2_28) (by decide) (pcT := 35) (by decide) (pc' := 31) rfl (fun (hc4 : ¬ p1.toInt = 3) => ?_) (fun (hc4 : p1.toInt = 3) => ?_)
        · refine OwnK.iloadN X0 hx (hb hby own_d2_35) (pc' := 36) rfl (v := p1) rfl ?_
          refine OwnK.iconst X0 hx (hb hby own_d2_36) (pc' := 37) rfl (v := (4 : Int32)) (by decide) ?_
          refine OwnK.icmp_ne X0 hx (hb hby own_d2_37) (by decide) (pcT := 44) (by decide) (pc' := 40) rfl (fun (hc5 : ¬ p1.toInt = 4) => ?_) (fun (hc5 : p1.toInt = 4) => ?_)
          · refine OwnK.iloadN X0 hx (hb hby own_d2_44) (pc' := 45) rfl (v := p1) rfl ?_
            refine OwnK.iconst X0 hx (hb hby own_d2_45) (pc' := 46) rfl (v := (5 : Int32)) (by decide) ?_
            refine OwnK.icmp_ne X0 hx (hb hby own_d2_46) (by decide) (pcT := 53) (by decide) (pc' := 49) rfl (fun (hc6 : ¬ p1.toInt = 5) => ?_) (fun (hc6 : p1.toInt = 5) => ?_)
            · refine OwnK.iloadN X0 hx (hb hby own_d2_53) (pc' := 54) rfl (v := p1) rfl ?_
              refine OwnK.bipush X0 hx (hb hby own_d2_54) (pc' := 56) rfl (v := (6 : Int32)) (by decide) ?_
              refine OwnK.icmp_ne X0 hx (hb hby own_d2_56) (by decide) (pcT := 63) (by decide) (pc' := 59) rfl (fun (hc7 : ¬ p1.toInt = 6) => ?_) (fun (hc7 : p1.toInt = 6) => ?_)
              · refine OwnK.aconstNull X0 hx (hb hby own_d2_63) (pc' := 64) rfl ?_
                refine OwnK.retA_ X0 hx hret rfl rfl hlk (hb hby own_d2_64) (by decide) (by decide) ?_
                exact ⟨by unfold own_et; rw [if_neg (by omega)], e0, rfl⟩
              · refine OwnK.getS_ X0 hx hZ hown (host := "") (Or.inl (hw _ (List.mem_of_getElem? (i := 50) rfl))) Via.refl e0 (SE6.ext O0.2) (hb hby own_d2_59) (pc' := 62) rfl (fun T8 X8 e8 => ?_)
                refine OwnK.retA_ X8 hx hret rfl rfl hlk (hb hby own_d2_62) (by decide) (by decide) ?_
                exact ⟨by rw [show p1.toInt = 6 by omega]; rfl, e8, rfl⟩
            · refine OwnK.getS_ X0 hx hZ hown (host := "") (Or.inl (hw _ (List.mem_of_getElem? (i := 54) rfl))) Via.refl e0 (SE5.ext O0.2) (hb hby own_d2_49) (pc' := 52) rfl (fun T9 X9 e9 => ?_)
              refine OwnK.retA_ X9 hx hret rfl rfl hlk (hb hby own_d2_52) (by decide) (by decide) ?_
              exact ⟨by rw [show p1.toInt = 5 by omega]; rfl, e9, rfl⟩
          · refine OwnK.getS_ X0 hx hZ hown (host := "") (Or.inl (hw _ (List.mem_of_getElem? (i := 42) rfl))) Via.refl e0 (SE4.ext O0.2) (hb hby own_d2_40) (pc' := 43) rfl (fun T10 X10 e10 => ?_)
            refine OwnK.retA_ X10 hx hret rfl rfl hlk (hb hby own_d2_43) (by decide) (by decide) ?_
            exact ⟨by rw [show p1.toInt = 4 by omega]; rfl, e10, rfl⟩
        · refine OwnK.getS_ X0 hx hZ hown (host := "") (Or.inl (hw _ (List.mem_of_getElem? (i := 13) rfl))) Via.refl e0 (SE3.ext O0.2) (hb hby own_d2_31) (pc' := 34) rfl (fun T11 X11 e11 => ?_)
          refine OwnK.retA_ X11 hx hret rfl rfl hlk (hb hby own_d2_34) (by decide) (by decide) ?_
          exact ⟨by rw [show p1.toInt = 3 by omega]; rfl, e11, rfl⟩
      · refine OwnK.getS_ X0 hx hZ hown (host := "") (Or.inl (hw _ (List.mem_of_getElem? (i := 35) rfl))) Via.refl e0 (SE2.ext O0.2) (hb hby own_d2_22) (pc' := 25) rfl (fun T12 X12 e12 => ?_)
        refine OwnK.retA_ X12 hx hret rfl rfl hlk (hb hby own_d2_25) (by decide) (by decide) ?_
        exact ⟨by rw [show p1.toInt = 2 by omega]; rfl, e12, rfl⟩
    · refine OwnK.getS_ X0 hx hZ hown (host := "") (Or.inl (hw _ (List.mem_of_getElem? (i := 56) rfl))) Via.refl e0 (SE1.ext O0.2) (hb hby own_d2_13) (pc' := 16) rfl (fun T13 X13 e13 => ?_)
      refine OwnK.retA_ X13 hx hret rfl rfl hlk (hb hby own_d2_16) (by decide) (by decide) ?_
      exact ⟨by rw [show p1.toInt = 1 by omega]; rfl, e13, rfl⟩
  · refine OwnK.getS_ X0 hx hZ hown (host := "") (Or.inl (hw _ (List.mem_of_getElem? (i := 46) rfl))) Via.refl e0 (SE0.ext O0.2) (hb hby own_d2_4) (pc' := 7) rfl (fun T14 X14 e14 => ?_)
    refine OwnK.retA_ X14 hx hret rfl rfl hlk (hb hby own_d2_7) (by decide) (by decide) ?_
    exact ⟨by rw [show p1.toInt = 0 by omega]; rfl, e14, rfl⟩
def own_Q1 (h0 : Heap) (v : Option Value) (h : Heap) (L : List Loc) : Prop := ∃ r, v = some (.ref r) ∧ h = h0 ∧ L = []
set_option maxRecDepth 65536 in
set_option maxHeartbeats 40000000 in
theorem own_met1 (l : Launch) (Z : State) (a0 : Array Value) (hw : ∀ d ∈ tables_1, d.before a0 Z = true) (h0 : Heap) (p1 : Int32) (ea va : Nat → Addr) (n0 : Nat) (O0 : Old Z n0 h0) (SE0 : Sta Z Z.heap "com/example/entryway/entryway/Keys$EntryType" "APPLICATION" "Lcom/example/entryway/entryway/Keys$EntryType;" (.ref (ea 0))) (SE1 : Sta Z Z.heap "com/example/entryway/entryway/Keys$EntryType" "LINK" "Lcom/example/entryway/entryway/Keys$EntryType;" (.ref (ea 1))) (SE2 : Sta Z Z.heap "com/example/entryway/entryway/Keys$EntryType" "DIRECTORY" "Lcom/example/entryway/entryway/Keys$EntryType;" (.ref (ea 2))) (SE3 : Sta Z Z.heap "com/example/entryway/entryway/Keys$EntryType" "SERVICE" "Lcom/example/entryway/entryway/Keys$EntryType;" (.ref (ea 3))) (SE4 : Sta Z Z.heap "com/example/entryway/entryway/Keys$EntryType" "SERVICE_TYPE" "Lcom/example/entryway/entryway/Keys$EntryType;" (.ref (ea 4))) (SE5 : Sta Z Z.heap "com/example/entryway/entryway/Keys$EntryType" "FS_DEVICE" "Lcom/example/entryway/entryway/Keys$EntryType;" (.ref (ea 5))) (SE6 : Sta Z Z.heap "com/example/entryway/entryway/Keys$EntryType" "MIME_TYPE" "Lcom/example/entryway/entryway/Keys$EntryType;" (.ref (ea 6))) (SV0 : Sta Z Z.heap "com/example/entryway/entryway/Keys$ValueType" "STRING" "Lcom/example/entryway/entryway/Keys$ValueType;" (.ref (va 0))) (SV1 : Sta Z Z.heap "com/example/entryway/entryway/Keys$ValueType" "LOCALESTRING" "Lcom/example/entryway/entryway/Keys$ValueType;" (.ref (va 1))) (SV2 : Sta Z Z.heap "com/example/entryway/entryway/Keys$ValueType" "ICONSTRING" "Lcom/example/entryway/entryway/Keys$ValueType;" (.ref (va 2))) (SV3 : Sta Z Z.heap "com/example/entryway/entryway/Keys$ValueType" "BOOLEAN" "Lcom/example/entryway/entryway/Keys$ValueType;" (.ref (va 3))) :
    MetFree l (⟨"com/example/entryway/entryway/KeyIsForPinLaw", "valueType", "(I)Lcom/example/entryway/entryway/Keys$ValueType;"⟩ : MethodName) (head1 [Jvm.Cond.code (⟨"com/example/entryway/entryway/KeyIsForPinLaw", "valueType", "(I)Lcom/example/entryway/entryway/Keys$ValueType;"⟩ : MethodName) method_2_code 1 (some (.object "com/example/entryway/entryway/Keys$ValueType"))] ({ frames := 0, cells := 0, slots := 0, locals := 0 } : Room)) (fun a U => a = #[(.int p1)] ∧ Z.Warmed39 U.vm ∧ U.heap = h0) (fun _ _ _ _ _ => True) (fun _ U o U' => ∃ v L, o = .returned v ∧ (own_Q1 h0) v U'.heap L ∧ FrameEnd U o U' L ({ frames := 0, cells := 0, slots := 0, locals := 0 } : Room).cells ({ frames := 0, cells := 0, slots := 0, locals := 0 } : Room).slots) := by
  refine OwnK.met (Q := (own_Q1 h0)) (C := ({ frames := 0, cells := 0, slots := 0, locals := 0 } : Room).cells) (N := ({ frames := 0, cells := 0, slots := 0, locals := 0 } : Room).slots) own_pl_1 (own_ef_1 p1) ?_
  intro p e s m below meth c T0 X0 hx hZ hby hml hown hnm hret hlk e0
  refine OwnK.iloadN X0 hx (hb hby own_d1_0) (pc' := 1) rfl (v := p1) rfl ?_
  refine OwnK.if_ne X0 hx (hb hby own_d1_1) (by decide) (pcT := 8) (by decide) (pc' := 4) rfl (fun (hc1 : ¬ p1.toInt = 0) => ?_) (fun (hc1 : p1.toInt = 0) => ?_)
  · refine OwnK.iloadN X0 hx (hb hby own_d1_8) (pc' := 9) rfl (v := p1) rfl ?_
    refine OwnK.iconst X0 hx (hb hby own_d1_9) (pc' := 10) rfl (v := (1 : Int32)) (by decide) ?_
    refine OwnK.icmp_ne X0 hx (hb hby own_d1_10) (by decide) (pcT := 17) (by decide) (pc' := 13) rfl (fun (hc2 : ¬ p1.toInt = 1) => ?_) (fun (hc2 : p1.toInt = 1) => ?_)
    · refine OwnK.iloadN X0 hx (hb hby own_d1_17) (pc' := 18) rfl (v := p1) rfl ?_
      refine OwnK.iconst X0 hx (hb hby own_d1_18) (pc' := 19) rfl (v := (2 : Int32)) (by decide) ?_
      refine OwnK.icmp_ne X0 hx (hb hby own_d1_19) (by decide) (pcT := 26) (by decide) (pc' := 22) rfl (fun (hc3 : ¬ p1.toInt = 2) => ?_) (fun (hc3 : p1.toInt = 2) => ?_)
      · refine OwnK.getS_ X0 hx hZ hown (host := "") (Or.inl (hw _ (List.mem_of_getElem? (i := 44) rfl))) Via.refl e0 (SV3.ext O0.2) (hb hby own_d1_26) (pc' := 29) rfl (fun T4 X4 e4 => ?_)
        refine OwnK.retA_ X4 hx hret rfl rfl hlk (hb hby own_d1_29) (by decide) (by decide) ?_
        exact ⟨(va 3), rfl, e4, rfl⟩
      · refine OwnK.getS_ X0 hx hZ hown (host := "") (Or.inl (hw _ (List.mem_of_getElem? (i := 48) rfl))) Via.refl e0 (SV2.ext O0.2) (hb hby own_d1_22) (pc' := 25) rfl (fun T5 X5 e5 => ?_)
        refine OwnK.retA_ X5 hx hret rfl rfl hlk (hb hby own_d1_25) (by decide) (by decide) ?_
        exact ⟨(va 2), rfl, e5, rfl⟩
    · refine OwnK.getS_ X0 hx hZ hown (host := "") (Or.inl (hw _ (List.mem_of_getElem? (i := 52) rfl))) Via.refl e0 (SV1.ext O0.2) (hb hby own_d1_13) (pc' := 16) rfl (fun T6 X6 e6 => ?_)
      refine OwnK.retA_ X6 hx hret rfl rfl hlk (hb hby own_d1_16) (by decide) (by decide) ?_
      exact ⟨(va 1), rfl, e6, rfl⟩
  · refine OwnK.getS_ X0 hx hZ hown (host := "") (Or.inl (hw _ (List.mem_of_getElem? (i := 7) rfl))) Via.refl e0 (SV0.ext O0.2) (hb hby own_d1_4) (pc' := 7) rfl (fun T7 X7 e7 => ?_)
    refine OwnK.retA_ X7 hx hret rfl rfl hlk (hb hby own_d1_7) (by decide) (by decide) ?_
    exact ⟨(va 0), rfl, e7, rfl⟩
def own_Q4 (h0 : Heap) (v : Option Value) (h : Heap) (L : List Loc) : Prop := v = none ∧ h = h0 ∧ L = []
set_option maxRecDepth 65536 in
set_option maxHeartbeats 40000000 in
theorem own_met4 (l : Launch) (Z : State) (a0 : Array Value) (hw : ∀ d ∈ tables_1, d.before a0 Z = true) (h0 : Heap) (p1 : Addr)  :
    MetFree l (⟨"java/lang/Record", "<init>", "()V"⟩ : MethodName) (head1 [Jvm.Cond.code (⟨"java/lang/Record", "<init>", "()V"⟩ : MethodName) jdk_30_method_1_code 1 none] ({ frames := 1, cells := 0, slots := 0, locals := 12 } : Room)) (fun a U => a = #[(.ref p1)] ∧ Z.Warmed39 U.vm ∧ U.heap = h0) (fun _ _ _ _ _ => True) (fun _ U o U' => ∃ v L, o = .returned v ∧ (own_Q4 h0) v U'.heap L ∧ FrameEnd U o U' L ({ frames := 1, cells := 0, slots := 0, locals := 12 } : Room).cells ({ frames := 1, cells := 0, slots := 0, locals := 12 } : Room).slots) := by
  refine OwnK.met (Q := (own_Q4 h0)) (C := ({ frames := 1, cells := 0, slots := 0, locals := 12 } : Room).cells) (N := ({ frames := 1, cells := 0, slots := 0, locals := 12 } : Room).slots) own_pl_4 (own_ef_4 p1) ?_
  intro p e s m below meth c T0 X0 hx hZ hby hml hown hnm hret hlk e0
  refine OwnK.aloadN X0 hx (hb hby own_d4_0) (pc' := 1) rfl (v := (.ref p1)) rfl rfl ?_
  refine OwnK.initO_ X0 hx hZ hown (hw _ (List.mem_of_getElem? (i := 24) rfl)) (hw _ (List.mem_of_getElem? (i := 25) rfl)) (hw _ (List.mem_of_getElem? (i := 26) rfl)) e0 (by rw [hml]; rfl) (hb hby own_d4_1) (pc' := 4) rfl (by decide) (W := 0) (Nat.le_of_eq rfl) (by decide) (fun T1 X1 e1 => ?_)
  refine OwnK.retV_ X1 hx hret hlk (hb hby own_d4_4) (by decide) (by decide) ?_
  exact ⟨rfl, e1, rfl⟩
def own_Qmet3 (Z : State) (h0 : Heap) (n0 : Nat) (p1 : Addr) (p2 : Addr) (p3 : Value) (p4 : Int32) (p5 : Int32) (v : Option Value) (h : Heap) (L : List Loc) : Prop := v = none ∧ Fr n0 L ∧ Keep h0 h [p1] ∧ Exa Z h p1 "com/example/entryway/entryway/Keys$Key" ∧ Fld Z h p1 "com/example/entryway/entryway/Keys$Key" "entryType" "Lcom/example/entryway/entryway/Keys$EntryType;" p3
set_option maxRecDepth 65536 in
set_option maxHeartbeats 40000000 in
theorem own_met3 (l : Launch) (Z : State) (a0 : Array Value) (hw : ∀ d ∈ tables_1, d.before a0 Z = true) (h0 : Heap) (n0 : Nat) (Z0 : n0 ≤ h0.size) (p1 : Addr) (p2 : Addr) (p3 : Value) (p4 : Int32) (p5 : Int32)  (ge_p1 : n0 ≤ p1) (F_valueType : Fld Z h0 p1 "com/example/entryway/entryway/Keys$Key" "valueType" "Lcom/example/entryway/entryway/Keys$ValueType;" .null) (F_entryType : Fld Z h0 p1 "com/example/entryway/entryway/Keys$Key" "entryType" "Lcom/example/entryway/entryway/Keys$EntryType;" .null) (F_required : Fld Z h0 p1 "com/example/entryway/entryway/Keys$Key" "required" "Z" (.int (0 : Int32))) (F_list : Fld Z h0 p1 "com/example/entryway/entryway/Keys$Key" "list" "Z" (.int (0 : Int32))) (E0 : Exa Z h0 p1 "com/example/entryway/entryway/Keys$Key") (rp3 : p3.isRef = true) :
    MetFree l (⟨"com/example/entryway/entryway/Keys$Key", "<init>", "(Lcom/example/entryway/entryway/Keys$ValueType;Lcom/example/entryway/entryway/Keys$EntryType;ZZ)V"⟩ : MethodName) (head1 [Jvm.Cond.code (⟨"com/example/entryway/entryway/Keys$Key", "<init>", "(Lcom/example/entryway/entryway/Keys$ValueType;Lcom/example/entryway/entryway/Keys$EntryType;ZZ)V"⟩ : MethodName) prog_54_method_1_code 5 none] ({ frames := 2, cells := 0, slots := 0, locals := 24 } : Room)) (fun a U => a = #[(.ref p1), (.ref p2), p3, (.int p4), (.int p5)] ∧ Z.Warmed39 U.vm ∧ U.heap = h0) (fun _ _ _ _ _ => True) (fun _ U o U' => ∃ v L, o = .returned v ∧ (own_Qmet3 Z h0 n0 p1 p2 p3 p4 p5 ) v U'.heap L ∧ FrameEnd U o U' L ({ frames := 2, cells := 0, slots := 0, locals := 24 } : Room).cells ({ frames := 2, cells := 0, slots := 0, locals := 24 } : Room).slots) := by
  refine OwnK.met (Q := (own_Qmet3 Z h0 n0 p1 p2 p3 p4 p5 )) (C := ({ frames := 2, cells := 0, slots := 0, locals := 24 } : Room).cells) (N := ({ frames := 2, cells := 0, slots := 0, locals := 24 } : Room).slots) own_pl_3 (own_ef_3 p1 p2 p3 p4 p5 rp3) ?_
  intro p e s m below meth c T0 X0 hx hZ hby hml hown hnm hret hlk e0
  have N0 := Fr.nil n0
  have K0 := Keep.refl h0 [p1]
  refine OwnK.aloadN X0 hx (hb hby own_d3_0) (pc' := 1) rfl (v := (.ref p1)) rfl rfl ?_
  refine OwnK.callI_ X0 hx hZ hown (y := (⟨"java/lang/Record", "<init>", "()V"⟩ : MethodName)) (a := p1) rfl (hw _ (List.mem_of_getElem? (i := 19) rfl)) (hw _ (List.mem_of_getElem? (i := 20) rfl)) (hw _ (List.mem_of_getElem? (i := 22) rfl)) (hw _ (List.mem_of_getElem? (i := 23) rfl)) rfl (by decide) (own_met4 l Z a0 hw h0 p1) (by decide) (W := 0) (by decide) e0 (by rw [hml]; rfl) own_pd_0 (argsL := []) rfl (S := []) rfl (Nat.le_of_eq rfl) (hb hby own_d3_1) (pc' := 4) rfl (by decide) (by decide) (fun T1 v1 L1 X1 hQ1 => ?_)
  obtain ⟨rfl, e1, rfl⟩ := hQ1
  have N2 := Fr.app N0 (Fr.nil n0)
  refine OwnK.aloadN X1 hx (hb hby own_d3_4) (pc' := 5) rfl (v := (.ref p1)) rfl rfl ?_
  refine OwnK.aloadN X1 hx (hb hby own_d3_5) (pc' := 6) rfl (v := (.ref p2)) rfl rfl ?_
  refine OwnK.putF_ X1 hx hZ hown (hw _ (List.mem_of_getElem? (i := 27) rfl)) Via.refl e1 F_valueType E0 (Or.inr ⟨(hw _ (List.mem_of_getElem? (i := 28) rfl)), rfl, hnm⟩) (hw _ (List.mem_of_getElem? (i := 1) rfl)) (ty := (.object "com/example/entryway/entryway/Keys$ValueType")) (by decide) (v' := (.ref p2)) rfl rfl (hb hby own_d3_6) (pc' := 9) rfl (fun T3 h3 X3 e3 W3 => ?_)
  have f4 := F_valueType.same W3
  have f5 := F_entryType.other W3 (Or.inr (slot_ne (Or.inr (hw _ (List.mem_of_getElem? (i := 30) rfl))) (Or.inr (hw _ (List.mem_of_getElem? (i := 28) rfl))) (by decide) (t := (.object "com/example/entryway/entryway/Keys$EntryType")) (t' := (.object "com/example/entryway/entryway/Keys$ValueType")) (by decide) (by decide)))
  have f6 := F_required.other W3 (Or.inr (slot_ne (Or.inr (hw _ (List.mem_of_getElem? (i := 32) rfl))) (Or.inr (hw _ (List.mem_of_getElem? (i := 28) rfl))) (by decide) (t := .boolean) (t' := (.object "com/example/entryway/entryway/Keys$ValueType")) (by decide) (by decide)))
  have f7 := F_list.other W3 (Or.inr (slot_ne (Or.inr (hw _ (List.mem_of_getElem? (i := 34) rfl))) (Or.inr (hw _ (List.mem_of_getElem? (i := 28) rfl))) (by decide) (t := .boolean) (t' := (.object "com/example/entryway/entryway/Keys$ValueType")) (by decide) (by decide)))
  have f8 := E0.wr W3
  have N9 := Fr.snoc X3 N2 ge_p1
  have K10 := K0.wr W3 (Or.inl (List.mem_of_getElem? (i := 0) rfl))
  have z11 : n0 ≤ h3.size := Nat.le_trans Z0 (Keep.of_wr W3).1
  refine OwnK.aloadN X3 hx (hb hby own_d3_9) (pc' := 10) rfl (v := (.ref p1)) rfl rfl ?_
  refine OwnK.aloadN X3 hx (hb hby own_d3_10) (pc' := 11) rfl (v := p3) rfl rp3 ?_
  refine OwnK.putF_ X3 hx hZ hown (hw _ (List.mem_of_getElem? (i := 29) rfl)) Via.refl e3 f5 f8 (Or.inr ⟨(hw _ (List.mem_of_getElem? (i := 30) rfl)), rfl, hnm⟩) (hw _ (List.mem_of_getElem? (i := 1) rfl)) (ty := (.object "com/example/entryway/entryway/Keys$EntryType")) (by decide) (v' := p3) rfl (by rcases XT.refc rp3 with h | ⟨r, h⟩ <;> rw [h] <;> rfl) (hb hby own_d3_11) (pc' := 14) rfl (fun T12 h12 X12 e12 W12 => ?_)
  have f13 := f5.same W12
  have f14 := f4.other W12 (Or.inr (slot_ne (Or.inr (hw _ (List.mem_of_getElem? (i := 28) rfl))) (Or.inr (hw _ (List.mem_of_getElem? (i := 30) rfl))) (by decide) (t := (.object "com/example/entryway/entryway/Keys$ValueType")) (t' := (.object "com/example/entryway/entryway/Keys$EntryType")) (by decide) (by decide)))
  have f15 := f6.other W12 (Or.inr (slot_ne (Or.inr (hw _ (List.mem_of_getElem? (i := 32) rfl))) (Or.inr (hw _ (List.mem_of_getElem? (i := 30) rfl))) (by decide) (t := .boolean) (t' := (.object "com/example/entryway/entryway/Keys$EntryType")) (by decide) (by decide)))
  have f16 := f7.other W12 (Or.inr (slot_ne (Or.inr (hw _ (List.mem_of_getElem? (i := 34) rfl))) (Or.inr (hw _ (List.mem_of_getElem? (i := 30) rfl))) (by decide) (t := .boolean) (t' := (.object "com/example/entryway/entryway/Keys$EntryType")) (by decide) (by decide)))
  have f17 := f8.wr W12
  have N18 := Fr.snoc X12 N9 ge_p1
  have K19 := K10.wr W12 (Or.inl (List.mem_of_getElem? (i := 0) rfl))
  have z20 : n0 ≤ h12.size := Nat.le_trans z11 (Keep.of_wr W12).1
  refine OwnK.aloadN X12 hx (hb hby own_d3_14) (pc' := 15) rfl (v := (.ref p1)) rfl rfl ?_
  refine OwnK.iloadN X12 hx (hb hby own_d3_15) (pc' := 16) rfl (v := p4) rfl ?_
  refine OwnK.putF_ X12 hx hZ hown (hw _ (List.mem_of_getElem? (i := 31) rfl)) Via.refl e12 f15 f17 (Or.inr ⟨(hw _ (List.mem_of_getElem? (i := 32) rfl)), rfl, hnm⟩) (hw _ (List.mem_of_getElem? (i := 1) rfl)) (ty := .boolean) (by decide) (v' := (.int (nar .boolean p4))) rfl (fits_nar_bool _) (hb hby own_d3_16) (pc' := 19) rfl (fun T21 h21 X21 e21 W21 => ?_)
  have f22 := f15.same W21
  have f23 := f14.other W21 (Or.inr (slot_ne (Or.inr (hw _ (List.mem_of_getElem? (i := 28) rfl))) (Or.inr (hw _ (List.mem_of_getElem? (i := 32) rfl))) (by decide) (t := (.object "com/example/entryway/entryway/Keys$ValueType")) (t' := .boolean) (by decide) (by decide)))
  have f24 := f13.other W21 (Or.inr (slot_ne (Or.inr (hw _ (List.mem_of_getElem? (i := 30) rfl))) (Or.inr (hw _ (List.mem_of_getElem? (i := 32) rfl))) (by decide) (t := (.object "com/example/entryway/entryway/Keys$EntryType")) (t' := .boolean) (by decide) (by decide)))
  have f25 := f16.other W21 (Or.inr (slot_ne (Or.inr (hw _ (List.mem_of_getElem? (i := 34) rfl))) (Or.inr (hw _ (List.mem_of_getElem? (i := 32) rfl))) (by decide) (t := .boolean) (t' := .boolean) (by decide) (by decide)))
  have f26 := f17.wr W21
  have N27 := Fr.snoc X21 N18 ge_p1
  have K28 := K19.wr W21 (Or.inl (List.mem_of_getElem? (i := 0) rfl))
  have z29 : n0 ≤ h21.size := Nat.le_trans z20 (Keep.of_wr W21).1
  refine OwnK.aloadN X21 hx (hb hby own_d3_19) (pc' := 20) rfl (v := (.ref p1)) rfl rfl ?_
  refine OwnK.iload X21 hx (hb hby own_d3_20) (pc' := 22) rfl (v := p5) rfl ?_
  refine OwnK.putF_ X21 hx hZ hown (hw _ (List.mem_of_getElem? (i := 33) rfl)) Via.refl e21 f25 f26 (Or.inr ⟨(hw _ (List.mem_of_getElem? (i := 34) rfl)), rfl, hnm⟩) (hw _ (List.mem_of_getElem? (i := 1) rfl)) (ty := .boolean) (by decide) (v' := (.int (nar .boolean p5))) rfl (fits_nar_bool _) (hb hby own_d3_22) (pc' := 25) rfl (fun T30 h30 X30 e30 W30 => ?_)
  have f31 := f25.same W30
  have f32 := f23.other W30 (Or.inr (slot_ne (Or.inr (hw _ (List.mem_of_getElem? (i := 28) rfl))) (Or.inr (hw _ (List.mem_of_getElem? (i := 34) rfl))) (by decide) (t := (.object "com/example/entryway/entryway/Keys$ValueType")) (t' := .boolean) (by decide) (by decide)))
  have f33 := f24.other W30 (Or.inr (slot_ne (Or.inr (hw _ (List.mem_of_getElem? (i := 30) rfl))) (Or.inr (hw _ (List.mem_of_getElem? (i := 34) rfl))) (by decide) (t := (.object "com/example/entryway/entryway/Keys$EntryType")) (t' := .boolean) (by decide) (by decide)))
  have f34 := f22.other W30 (Or.inr (slot_ne (Or.inr (hw _ (List.mem_of_getElem? (i := 32) rfl))) (Or.inr (hw _ (List.mem_of_getElem? (i := 34) rfl))) (by decide) (t := .boolean) (t' := .boolean) (by decide) (by decide)))
  have f35 := f26.wr W30
  have N36 := Fr.snoc X30 N27 ge_p1
  have K37 := K28.wr W30 (Or.inl (List.mem_of_getElem? (i := 0) rfl))
  have z38 : n0 ≤ h30.size := Nat.le_trans z29 (Keep.of_wr W30).1
  refine OwnK.retV_ X30 hx hret hlk (hb hby own_d3_25) (by decide) (by decide) ?_
  rw [show T30.heap = h30 from e30]
  exact ⟨rfl, N36, K37, f35, f33⟩
def own_Qmet6 (h0 : Heap) (p1 : Addr) (p2 : Value) (ew : Value) (v : Option Value) (h : Heap) (L : List Loc) : Prop := v = some (.int (own_isF ew p2)) ∧ h = h0 ∧ L = []
set_option maxRecDepth 65536 in
set_option maxHeartbeats 40000000 in
theorem own_met6 (l : Launch) (Z : State) (a0 : Array Value) (hw : ∀ d ∈ tables_1, d.before a0 Z = true) (h0 : Heap) (p1 : Addr) (p2 : Value) (ew : Value) (rew : ew.isRef = true) (F0 : Fld Z h0 p1 "com/example/entryway/entryway/Keys$Key" "entryType" "Lcom/example/entryway/entryway/Keys$EntryType;" ew) (rp2 : p2.isRef = true) :
    MetFree l (⟨"com/example/entryway/entryway/Keys$Key", "isFor", "(Lcom/example/entryway/entryway/Keys$EntryType;)Z"⟩ : MethodName) (head1 [Jvm.Cond.code (⟨"com/example/entryway/entryway/Keys$Key", "isFor", "(Lcom/example/entryway/entryway/Keys$EntryType;)Z"⟩ : MethodName) prog_54_method_2_code 2 (some .boolean)] ({ frames := 0, cells := 0, slots := 0, locals := 0 } : Room)) (fun a U => a = #[(.ref p1), p2] ∧ Z.Warmed39 U.vm ∧ U.heap = h0) (fun _ _ _ _ _ => True) (fun _ U o U' => ∃ v L, o = .returned v ∧ (own_Qmet6 h0 p1 p2 ew) v U'.heap L ∧ FrameEnd U o U' L ({ frames := 0, cells := 0, slots := 0, locals := 0 } : Room).cells ({ frames := 0, cells := 0, slots := 0, locals := 0 } : Room).slots) := by
  refine OwnK.met (Q := (own_Qmet6 h0 p1 p2 ew)) (C := ({ frames := 0, cells := 0, slots := 0, locals := 0 } : Room).cells) (N := ({ frames := 0, cells := 0, slots := 0, locals := 0 } : Room).slots) own_pl_6 (own_ef_6 p1 p2 rp2) ?_
  intro p e s m below meth c T0 X0 hx hZ hby hml hown hnm hret hlk e0
  refine OwnK.aloadN X0 hx (hb hby own_d6_0) (pc' := 1) rfl (v := (.ref p1)) rfl rfl ?_
  refine OwnK.getF_ X0 hx hZ hown (host := "") (Or.inl (hw _ (List.mem_of_getElem? (i := 29) rfl))) Via.refl e0 F0 (hb hby own_d6_1) (pc' := 4) rfl (fun T1 X1 e1 => ?_)
  refine OwnK.ifnull_ X1 hx (hb hby own_d6_4) rew (by decide) (pcT := 15) (by decide) (pc' := 7) rfl (fun (hc2 : ew = .null) => ?_) (fun (hc2 : ¬ ew = .null) => ?_)
  · refine OwnK.iconst X1 hx (hb hby own_d6_15) (pc' := 16) rfl (v := (1 : Int32)) (by decide) ?_
    refine OwnK.goto_ X1 hx (hb hby own_d6_16) (by decide) (pc' := 20) (by decide) ?_
    refine OwnK.retN_ X1 hx hret (by simp) hlk (hb hby own_d6_20) (by decide) (by decide) ?_
    exact ⟨by rw [own_isF1 (by simp_all), own_nar1], e1, rfl⟩
  · refine OwnK.aloadN X1 hx (hb hby own_d6_7) (pc' := 8) rfl (v := (.ref p1)) rfl rfl ?_
    refine OwnK.getF_ X1 hx hZ hown (host := "") (Or.inl (hw _ (List.mem_of_getElem? (i := 29) rfl))) Via.refl e1 F0 (hb hby own_d6_8) (pc' := 11) rfl (fun T3 X3 e3 => ?_)
    refine OwnK.aloadN X3 hx (hb hby own_d6_11) (pc' := 12) rfl (v := p2) rfl rp2 ?_
    refine OwnK.acmp_ne X3 hx (hb hby own_d6_12) rew rp2 (by decide) (pcT := 19) (by decide) (pc' := 15) rfl (fun (hc4 : ¬ ew = p2) => ?_) (fun (hc4 : ew = p2) => ?_)
    · refine OwnK.iconst X3 hx (hb hby own_d6_19) (pc' := 20) rfl (v := (0 : Int32)) (by decide) ?_
      refine OwnK.retN_ X3 hx hret (by simp) hlk (hb hby own_d6_20) (by decide) (by decide) ?_
      exact ⟨by rw [own_isF0 (by simp_all), own_nar0], e3, rfl⟩
    · refine OwnK.iconst X3 hx (hb hby own_d6_15) (pc' := 16) rfl (v := (1 : Int32)) (by decide) ?_
      refine OwnK.goto_ X3 hx (hb hby own_d6_16) (by decide) (pc' := 20) (by decide) ?_
      refine OwnK.retN_ X3 hx hret (by simp) hlk (hb hby own_d6_20) (by decide) (by decide) ?_
      exact ⟨by rw [own_isF1 (by simp_all), own_nar1], e3, rfl⟩
set_option maxRecDepth 65536 in
set_option maxHeartbeats 40000000 in
theorem own_law (l : Launch) (Z : State) (a0 : Array Value) (hw : ∀ d ∈ tables_1, d.before a0 Z = true) (ws : List Jvm.Cond) (h0 : Heap) (n0 : Nat) (Z0 : n0 ≤ h0.size) (p0 : Int32) (p1 : Int32) (p2 : Int32) (p3 : Int32) (ea va : Nat → Addr) (O0 : Old Z n0 h0) (hinj : ∀ i j, i < 7 → j < 7 → ea i = ea j → i = j) (SE0 : Sta Z Z.heap "com/example/entryway/entryway/Keys$EntryType" "APPLICATION" "Lcom/example/entryway/entryway/Keys$EntryType;" (.ref (ea 0))) (SE1 : Sta Z Z.heap "com/example/entryway/entryway/Keys$EntryType" "LINK" "Lcom/example/entryway/entryway/Keys$EntryType;" (.ref (ea 1))) (SE2 : Sta Z Z.heap "com/example/entryway/entryway/Keys$EntryType" "DIRECTORY" "Lcom/example/entryway/entryway/Keys$EntryType;" (.ref (ea 2))) (SE3 : Sta Z Z.heap "com/example/entryway/entryway/Keys$EntryType" "SERVICE" "Lcom/example/entryway/entryway/Keys$EntryType;" (.ref (ea 3))) (SE4 : Sta Z Z.heap "com/example/entryway/entryway/Keys$EntryType" "SERVICE_TYPE" "Lcom/example/entryway/entryway/Keys$EntryType;" (.ref (ea 4))) (SE5 : Sta Z Z.heap "com/example/entryway/entryway/Keys$EntryType" "FS_DEVICE" "Lcom/example/entryway/entryway/Keys$EntryType;" (.ref (ea 5))) (SE6 : Sta Z Z.heap "com/example/entryway/entryway/Keys$EntryType" "MIME_TYPE" "Lcom/example/entryway/entryway/Keys$EntryType;" (.ref (ea 6))) (SV0 : Sta Z Z.heap "com/example/entryway/entryway/Keys$ValueType" "STRING" "Lcom/example/entryway/entryway/Keys$ValueType;" (.ref (va 0))) (SV1 : Sta Z Z.heap "com/example/entryway/entryway/Keys$ValueType" "LOCALESTRING" "Lcom/example/entryway/entryway/Keys$ValueType;" (.ref (va 1))) (SV2 : Sta Z Z.heap "com/example/entryway/entryway/Keys$ValueType" "ICONSTRING" "Lcom/example/entryway/entryway/Keys$ValueType;" (.ref (va 2))) (SV3 : Sta Z Z.heap "com/example/entryway/entryway/Keys$ValueType" "BOOLEAN" "Lcom/example/entryway/entryway/Keys$ValueType;" (.ref (va 3))) :
    MetFree l x (head1 (Jvm.Cond.code x code maxLocals ret :: ws) room_1) (fun a U => a = #[(.int p0), (.int p1), (.int p2), (.int p3)] ∧ Z.Warmed39 U.vm ∧ U.heap = h0) (fun _ _ _ _ _ => True) (fun _ U o U' => ∃ v L, o = .returned v ∧ (fun (v : Option Value) (_ : Heap) (L : List Loc) => v = some (.int (1 : Int32)) ∧ Fr n0 L) v U'.heap L ∧ FrameEnd U o U' L 1 4) := by
  refine OwnK.met (Q := (fun (v : Option Value) (_ : Heap) (L : List Loc) => v = some (.int (1 : Int32)) ∧ Fr n0 L)) (C := 1) (N := 4) own_pl_0 (own_ef_0 p0 p1 p2 p3) ?_
  intro p e s m below meth c T0 X0 hx hZ hby hml hown hnm hret hlk e0
  have N0 := Fr.nil n0
  refine OwnK.iloadN X0 hx (hb hby at_0) (pc' := 1) rfl (v := p1) rfl ?_
  refine OwnK.bipush X0 hx (hb hby at_1) (pc' := 3) rfl (v := (7 : Int32)) (by decide) ?_
  refine OwnK.iand X0 hx (hb hby at_3) (pc' := 4) rfl ?_
  refine OwnK.istoreG X0 hx (hb hby at_4) (pc' := 6) rfl (Ls' := fun u => #[.val (.int p0), .val (.int p1), .val (.int p2), .val (.int p3), .val (.int u), .unset, .unset, .unset, .unset, .unset]) (fun u => rfl) (fun u1 (hu1 : u1 = (p1 &&& (7 : Int32))) => ?_)
  have b_u1 : 0 ≤ u1.toInt ∧ u1.toInt ≤ 7 := by rw [hu1]; exact own_m7 p1
  refine OwnK.iloadN X0 hx (hb hby at_6) (pc' := 7) rfl (v := p2) rfl ?_
  refine OwnK.bipush X0 hx (hb hby at_7) (pc' := 9) rfl (v := (7 : Int32)) (by decide) ?_
  refine OwnK.iand X0 hx (hb hby at_9) (pc' := 10) rfl ?_
  refine OwnK.istoreG X0 hx (hb hby at_10) (pc' := 12) rfl (Ls' := fun u => #[.val (.int p0), .val (.int p1), .val (.int p2), .val (.int p3), .val (.int u1), .val (.int u), .unset, .unset, .unset, .unset]) (fun u => rfl) (fun u2 (hu2 : u2 = (p2 &&& (7 : Int32))) => ?_)
  have b_u2 : 0 ≤ u2.toInt ∧ u2.toInt ≤ 7 := by rw [hu2]; exact own_m7 p2
  have J3 : ∀ vJ3 : Int32, OwnK.Go p.tables e below (OwnK.PQ s (fun (v : Option Value) (_ : Heap) (L : List Loc) => v = some (.int (1 : Int32)) ∧ Fr n0 L) 1 4) T0 (mkF m 23 #[.val (.int p0), .val (.int p1), .val (.int p2), .val (.int p3), .val (.int u1), .val (.int u2), .unset, .unset, .unset, .unset] [(.int vJ3)]) := by
    intro vJ3
    refine OwnK.istore X0 hx (hb hby at_23) (pc' := 25) rfl (Ls' := #[.val (.int p0), .val (.int p1), .val (.int p2), .val (.int p3), .val (.int u1), .val (.int u2), .val (.int vJ3), .unset, .unset, .unset]) rfl ?_
    have J4 : ∀ vJ4 : Int32, OwnK.Go p.tables e below (OwnK.PQ s (fun (v : Option Value) (_ : Heap) (L : List Loc) => v = some (.int (1 : Int32)) ∧ Fr n0 L) 1 4) T0 (mkF m 36 #[.val (.int p0), .val (.int p1), .val (.int p2), .val (.int p3), .val (.int u1), .val (.int u2), .val (.int vJ3), .unset, .unset, .unset] [(.int vJ4)]) := by
      intro vJ4
      refine OwnK.istore X0 hx (hb hby at_36) (pc' := 38) rfl (Ls' := #[.val (.int p0), .val (.int p1), .val (.int p2), .val (.int p3), .val (.int u1), .val (.int u2), .val (.int vJ3), .val (.int vJ4), .unset, .unset]) rfl ?_
      refine OwnK.new_ X0 hx hZ hown (hw _ (List.mem_of_getElem? (i := 0) rfl)) (hw _ (List.mem_of_getElem? (i := 1) rfl)) (hw _ (List.mem_of_getElem? (i := 2) rfl)) e0 (hb hby at_38) (pc' := 41) rfl (by decide) (by decide) (fun T5 h5 a5 X5 e5 g5 E5 A5 D5 => ?_)
      have ge_a5 : n0 ≤ a5 := Nat.le_trans Z0 (Nat.le_of_eq g5.symm)
      have z6 : n0 ≤ h5.size := Nat.le_trans Z0 E5.1
      have O7 := O0.ext E5
      have f8 : Fld Z h5 a5 "com/example/entryway/entryway/Keys$Key" "valueType" "Lcom/example/entryway/entryway/Keys$ValueType;" .null := D5 (Or.inr (hw _ (List.mem_of_getElem? (i := 28) rfl))) (ty := (.object "com/example/entryway/entryway/Keys$ValueType")) (by decide)
      have f9 : Fld Z h5 a5 "com/example/entryway/entryway/Keys$Key" "entryType" "Lcom/example/entryway/entryway/Keys$EntryType;" .null := D5 (Or.inr (hw _ (List.mem_of_getElem? (i := 30) rfl))) (ty := (.object "com/example/entryway/entryway/Keys$EntryType")) (by decide)
      have f10 : Fld Z h5 a5 "com/example/entryway/entryway/Keys$Key" "required" "Z" (.int (0 : Int32)) := D5 (Or.inr (hw _ (List.mem_of_getElem? (i := 32) rfl))) (ty := .boolean) (by decide)
      have f11 : Fld Z h5 a5 "com/example/entryway/entryway/Keys$Key" "list" "Z" (.int (0 : Int32)) := D5 (Or.inr (hw _ (List.mem_of_getElem? (i := 34) rfl))) (ty := .boolean) (by decide)
      refine OwnK.dup X5 hx (hb hby at_41) (pc' := 42) rfl rfl ?_
      refine OwnK.iloadN X5 hx (hb hby at_42) (pc' := 43) rfl (v := p0) rfl ?_
      refine OwnK.iconst X5 hx (hb hby at_43) (pc' := 44) rfl (v := (3 : Int32)) (by decide) ?_
      refine OwnK.iand X5 hx (hb hby at_44) (pc' := 45) rfl ?_
      refine OwnK.callS_ X5 hx hZ hown (y := (⟨"com/example/entryway/entryway/KeyIsForPinLaw", "valueType", "(I)Lcom/example/entryway/entryway/Keys$ValueType;"⟩ : MethodName)) (hw _ (List.mem_of_getElem? (i := 3) rfl)) (hw _ (List.mem_of_getElem? (i := 4) rfl)) (hw _ (List.mem_of_getElem? (i := 5) rfl)) (hw _ (List.mem_of_getElem? (i := 6) rfl)) (by decide) (own_met1 l Z a0 hw h5 (p0 &&& (3 : Int32)) ea va n0 O7 SE0 SE1 SE2 SE3 SE4 SE5 SE6 SV0 SV1 SV2 SV3) (by decide) (W := 2) (by decide) e5 (by rw [hml]; rfl) own_pd_2 (argsL := [(.int (p0 &&& (3 : Int32)))]) rfl (S := [(.ref a5), (.ref a5)]) rfl (Nat.le_of_eq rfl) (hb hby at_45) (pc' := 48) rfl (by decide) (by decide) (fun T12 v12 L12 X12 hQ12 => ?_)
      obtain ⟨r12, rfl, e12, rfl⟩ := hQ12
      have N13 := Fr.app N0 (Fr.nil n0)
      refine OwnK.iload X12 hx (hb hby at_48) (pc' := 50) rfl (v := u1) rfl ?_
      refine OwnK.callS_ X12 hx hZ hown (y := (⟨"com/example/entryway/entryway/KeyIsForPinLaw", "entryType", "(I)Lcom/example/entryway/entryway/Keys$EntryType;"⟩ : MethodName)) (hw _ (List.mem_of_getElem? (i := 10) rfl)) (hw _ (List.mem_of_getElem? (i := 11) rfl)) (hw _ (List.mem_of_getElem? (i := 5) rfl)) (hw _ (List.mem_of_getElem? (i := 12) rfl)) (by decide) (own_met2 l Z a0 hw h5 u1 ea va n0 O7 b_u1 SE0 SE1 SE2 SE3 SE4 SE5 SE6 SV0 SV1 SV2 SV3 ) (by decide) (W := 3) (by decide) e12 (by rw [hml]; rfl) own_pd_1 (argsL := [(.int u1)]) rfl (S := [(.ref r12), (.ref a5), (.ref a5)]) rfl (Nat.le_of_eq rfl) (hb hby at_50) (pc' := 53) rfl (by decide) (by decide) (fun T14 v14 L14 X14 hQ14 => ?_)
      obtain ⟨rfl, e14, rfl⟩ := hQ14
      have N15 := Fr.app N13 (Fr.nil n0)
      refine OwnK.iload X14 hx (hb hby at_53) (pc' := 55) rfl (v := vJ3) rfl ?_
      refine OwnK.iload X14 hx (hb hby at_55) (pc' := 57) rfl (v := vJ4) rfl ?_
      refine OwnK.callI_ X14 hx hZ hown (y := (⟨"com/example/entryway/entryway/Keys$Key", "<init>", "(Lcom/example/entryway/entryway/Keys$ValueType;Lcom/example/entryway/entryway/Keys$EntryType;ZZ)V"⟩ : MethodName)) (a := a5) rfl (hw _ (List.mem_of_getElem? (i := 16) rfl)) (hw _ (List.mem_of_getElem? (i := 17) rfl)) (hw _ (List.mem_of_getElem? (i := 2) rfl)) (hw _ (List.mem_of_getElem? (i := 18) rfl)) rfl (by decide) (own_met3 l Z a0 hw h5 n0 z6 a5 r12 (own_et ea u1.toInt) vJ3 vJ4   ge_a5 f8 f9 f10 f11 A5 (own_etR ea u1.toInt)) (by decide) (W := 1) (by decide) e14 (by rw [hml]; rfl) own_pd_4 (argsL := [(.ref r12), (own_et ea u1.toInt), (.int vJ3), (.int vJ4)]) rfl (S := [(.ref a5)]) rfl (Nat.le_of_eq rfl) (hb hby at_57) (pc' := 60) rfl (by decide) (by decide) (fun T16 v16 L16 X16 hQ16 => ?_)
      obtain ⟨rfl, N16q, K16, E16q, F16q⟩ := hQ16
      have N17 := Fr.app N15 N16q
      have f18 := A5.keep K16
      have z19 : n0 ≤ T16.heap.size := Nat.le_trans z6 K16.1
      have O20 := O7.keep K16 (allS ge_a5 all0)
      refine OwnK.astore X16 hx (hb hby at_60) (pc' := 62) rfl rfl (Ls' := #[.val (.int p0), .val (.int p1), .val (.int p2), .val (.int p3), .val (.int u1), .val (.int u2), .val (.int vJ3), .val (.int vJ4), .val (.ref a5), .unset]) rfl ?_
      have J21 : ∀ v : Int32, (v = 1 ∧ (u1.toInt = 7 ∨ u1.toInt = u2.toInt)) ∨ (v = 0 ∧ ¬ (u1.toInt = 7 ∨ u1.toInt = u2.toInt)) → OwnK.Go p.tables e below (OwnK.PQ s (fun (v : Option Value) (_ : Heap) (L : List Loc) => v = some (.int (1 : Int32)) ∧ Fr n0 L) 1 4) T16 (mkF m 81 #[.val (.int p0), .val (.int p1), .val (.int p2), .val (.int p3), .val (.int u1), .val (.int u2), .val (.int vJ3), .val (.int vJ4), .val (.ref a5), .unset] [(.int v)]) := by
        rintro v (⟨rfl, hJ21⟩ | ⟨rfl, hJ21⟩)
        · refine OwnK.istore X16 hx (hb hby at_81) (pc' := 83) rfl (Ls' := #[.val (.int p0), .val (.int p1), .val (.int p2), .val (.int p3), .val (.int u1), .val (.int u2), .val (.int vJ3), .val (.int vJ4), .val (.ref a5), .val (.int (1 : Int32))]) rfl ?_
          refine OwnK.aload X16 hx (hb hby at_83) (pc' := 85) rfl (v := (.ref a5)) rfl rfl ?_
          refine OwnK.iload X16 hx (hb hby at_85) (pc' := 87) rfl (v := u2) rfl ?_
          refine OwnK.callS_ X16 hx hZ hown (y := (⟨"com/example/entryway/entryway/KeyIsForPinLaw", "entryType", "(I)Lcom/example/entryway/entryway/Keys$EntryType;"⟩ : MethodName)) (hw _ (List.mem_of_getElem? (i := 10) rfl)) (hw _ (List.mem_of_getElem? (i := 11) rfl)) (hw _ (List.mem_of_getElem? (i := 5) rfl)) (hw _ (List.mem_of_getElem? (i := 12) rfl)) (by decide) (own_met2 l Z a0 hw T16.heap u2 ea va n0 O20 b_u2 SE0 SE1 SE2 SE3 SE4 SE5 SE6 SV0 SV1 SV2 SV3 ) (by decide) (W := 1) (by decide) rfl (by rw [hml]; rfl) own_pd_1 (argsL := [(.int u2)]) rfl (S := [(.ref a5)]) rfl (Nat.le_of_eq rfl) (hb hby at_87) (pc' := 90) rfl (by decide) (by decide) (fun T22 v22 L22 X22 hQ22 => ?_)
          obtain ⟨rfl, e22, rfl⟩ := hQ22
          have N23 := Fr.app N17 (Fr.nil n0)
          refine OwnK.callV_ X22 hx hZ hown (y := (⟨"com/example/entryway/entryway/Keys$Key", "isFor", "(Lcom/example/entryway/entryway/Keys$EntryType;)Z"⟩ : MethodName)) (z := (⟨"com/example/entryway/entryway/Keys$Key", "isFor", "(Lcom/example/entryway/entryway/Keys$EntryType;)Z"⟩ : MethodName)) (a := a5) (hw _ (List.mem_of_getElem? (i := 37) rfl)) (hw _ (List.mem_of_getElem? (i := 38) rfl)) (notFace_of_selects (args := #[]) (mvT hZ (hw _ (List.mem_of_getElem? (i := 40) rfl)))) (hw _ (List.mem_of_getElem? (i := 40) rfl)) (hw _ (List.mem_of_getElem? (i := 39) rfl)) (hw _ (List.mem_of_getElem? (i := 41) rfl)) (hw _ (List.mem_of_getElem? (i := 2) rfl)) (by decide) E16q (own_met6 l Z a0 hw T16.heap a5 (own_et ea u2.toInt) (own_et ea u1.toInt) (own_etR ea u1.toInt) F16q (own_etR ea u2.toInt)) (by decide) (W := 0) (by decide) e22 (by rw [hml]; rfl) own_pd_3 (argsL := [(own_et ea u2.toInt)]) rfl (S := []) rfl (Nat.le_of_eq rfl) (hb hby at_90) (pc' := 93) rfl (by decide) (by decide) (fun T24 v24 L24 X24 hQ24 => ?_)
          obtain ⟨rfl, e24, rfl⟩ := hQ24
          have N25 := Fr.app N23 (Fr.nil n0)
          refine OwnK.iload X24 hx (hb hby at_93) (pc' := 95) rfl (v := (1 : Int32)) rfl ?_
          refine OwnK.icmp_ne X24 hx (hb hby at_95) (by decide) (pcT := 102) (by decide) (pc' := 98) rfl (fun (hc95 : ¬ (own_isF (own_et ea u1.toInt) (own_et ea u2.toInt)).toInt = 1) => absurd (congrArg Int32.toInt (own_isF1 (by rw [own_et_eq hinj b_u1 b_u2]; omega))) hc95) (fun hc95 => ?_)
          refine OwnK.iconst X24 hx (hb hby at_98) (pc' := 99) rfl (v := (1 : Int32)) (by decide) ?_
          refine OwnK.goto_ X24 hx (hb hby at_99) (by decide) (pc' := 103) (by decide) ?_
          refine OwnK.retN_ X24 hx hret (by simp) hlk (hb hby at_103) (by decide) (by decide) ?_
          exact ⟨rfl, N25⟩
        · refine OwnK.istore X16 hx (hb hby at_81) (pc' := 83) rfl (Ls' := #[.val (.int p0), .val (.int p1), .val (.int p2), .val (.int p3), .val (.int u1), .val (.int u2), .val (.int vJ3), .val (.int vJ4), .val (.ref a5), .val (.int (0 : Int32))]) rfl ?_
          refine OwnK.aload X16 hx (hb hby at_83) (pc' := 85) rfl (v := (.ref a5)) rfl rfl ?_
          refine OwnK.iload X16 hx (hb hby at_85) (pc' := 87) rfl (v := u2) rfl ?_
          refine OwnK.callS_ X16 hx hZ hown (y := (⟨"com/example/entryway/entryway/KeyIsForPinLaw", "entryType", "(I)Lcom/example/entryway/entryway/Keys$EntryType;"⟩ : MethodName)) (hw _ (List.mem_of_getElem? (i := 10) rfl)) (hw _ (List.mem_of_getElem? (i := 11) rfl)) (hw _ (List.mem_of_getElem? (i := 5) rfl)) (hw _ (List.mem_of_getElem? (i := 12) rfl)) (by decide) (own_met2 l Z a0 hw T16.heap u2 ea va n0 O20 b_u2 SE0 SE1 SE2 SE3 SE4 SE5 SE6 SV0 SV1 SV2 SV3 ) (by decide) (W := 1) (by decide) rfl (by rw [hml]; rfl) own_pd_1 (argsL := [(.int u2)]) rfl (S := [(.ref a5)]) rfl (Nat.le_of_eq rfl) (hb hby at_87) (pc' := 90) rfl (by decide) (by decide) (fun T26 v26 L26 X26 hQ26 => ?_)
          obtain ⟨rfl, e26, rfl⟩ := hQ26
          have N27 := Fr.app N17 (Fr.nil n0)
          refine OwnK.callV_ X26 hx hZ hown (y := (⟨"com/example/entryway/entryway/Keys$Key", "isFor", "(Lcom/example/entryway/entryway/Keys$EntryType;)Z"⟩ : MethodName)) (z := (⟨"com/example/entryway/entryway/Keys$Key", "isFor", "(Lcom/example/entryway/entryway/Keys$EntryType;)Z"⟩ : MethodName)) (a := a5) (hw _ (List.mem_of_getElem? (i := 37) rfl)) (hw _ (List.mem_of_getElem? (i := 38) rfl)) (notFace_of_selects (args := #[]) (mvT hZ (hw _ (List.mem_of_getElem? (i := 40) rfl)))) (hw _ (List.mem_of_getElem? (i := 40) rfl)) (hw _ (List.mem_of_getElem? (i := 39) rfl)) (hw _ (List.mem_of_getElem? (i := 41) rfl)) (hw _ (List.mem_of_getElem? (i := 2) rfl)) (by decide) E16q (own_met6 l Z a0 hw T16.heap a5 (own_et ea u2.toInt) (own_et ea u1.toInt) (own_etR ea u1.toInt) F16q (own_etR ea u2.toInt)) (by decide) (W := 0) (by decide) e26 (by rw [hml]; rfl) own_pd_3 (argsL := [(own_et ea u2.toInt)]) rfl (S := []) rfl (Nat.le_of_eq rfl) (hb hby at_90) (pc' := 93) rfl (by decide) (by decide) (fun T28 v28 L28 X28 hQ28 => ?_)
          obtain ⟨rfl, e28, rfl⟩ := hQ28
          have N29 := Fr.app N27 (Fr.nil n0)
          refine OwnK.iload X28 hx (hb hby at_93) (pc' := 95) rfl (v := (0 : Int32)) rfl ?_
          refine OwnK.icmp_ne X28 hx (hb hby at_95) (by decide) (pcT := 102) (by decide) (pc' := 98) rfl (fun (hc95 : ¬ (own_isF (own_et ea u1.toInt) (own_et ea u2.toInt)).toInt = 0) => absurd (congrArg Int32.toInt (own_isF0 (by rw [own_et_eq hinj b_u1 b_u2]; omega))) hc95) (fun hc95 => ?_)
          refine OwnK.iconst X28 hx (hb hby at_98) (pc' := 99) rfl (v := (1 : Int32)) (by decide) ?_
          refine OwnK.goto_ X28 hx (hb hby at_99) (by decide) (pc' := 103) (by decide) ?_
          refine OwnK.retN_ X28 hx hret (by simp) hlk (hb hby at_103) (by decide) (by decide) ?_
          exact ⟨rfl, N29⟩
      refine OwnK.iload X16 hx (hb hby at_62) (pc' := 64) rfl (v := u1) rfl ?_
      refine OwnK.bipush X16 hx (hb hby at_64) (pc' := 66) rfl (v := (7 : Int32)) (by decide) ?_
      refine OwnK.icmp_eq X16 hx (hb hby at_66) (by decide) (pcT := 76) (by decide) (pc' := 69) rfl (fun (hc30 : u1.toInt = 7) => ?_) (fun (hc30 : ¬ u1.toInt = 7) => ?_)
      · refine OwnK.iconst X16 hx (hb hby at_76) (pc' := 77) rfl (v := (1 : Int32)) (by decide) ?_
        refine OwnK.goto_ X16 hx (hb hby at_77) (by decide) (pc' := 81) (by decide) ?_
        exact J21 _ (Or.inl ⟨rfl, by omega⟩)
      · refine OwnK.iload X16 hx (hb hby at_69) (pc' := 71) rfl (v := u1) rfl ?_
        refine OwnK.iload X16 hx (hb hby at_71) (pc' := 73) rfl (v := u2) rfl ?_
        refine OwnK.icmp_ne X16 hx (hb hby at_73) (by decide) (pcT := 80) (by decide) (pc' := 76) rfl (fun (hc31 : ¬ u1.toInt = u2.toInt) => ?_) (fun (hc31 : u1.toInt = u2.toInt) => ?_)
        · refine OwnK.iconst X16 hx (hb hby at_80) (pc' := 81) rfl (v := (0 : Int32)) (by decide) ?_
          exact J21 _ (Or.inr ⟨rfl, by omega⟩)
        · refine OwnK.iconst X16 hx (hb hby at_76) (pc' := 77) rfl (v := (1 : Int32)) (by decide) ?_
          refine OwnK.goto_ X16 hx (hb hby at_77) (by decide) (pc' := 81) (by decide) ?_
          exact J21 _ (Or.inl ⟨rfl, by omega⟩)
    refine OwnK.iloadN X0 hx (hb hby at_25) (pc' := 26) rfl (v := p3) rfl ?_
    refine OwnK.iconst X0 hx (hb hby at_26) (pc' := 27) rfl (v := (2 : Int32)) (by decide) ?_
    refine OwnK.iand X0 hx (hb hby at_27) (pc' := 28) rfl ?_
    refine OwnK.if_eq X0 hx (hb hby at_28) (by decide) (pcT := 35) (by decide) (pc' := 31) rfl (fun (hc32 : (p3 &&& (2 : Int32)).toInt = 0) => ?_) (fun (hc32 : ¬ (p3 &&& (2 : Int32)).toInt = 0) => ?_)
    · refine OwnK.iconst X0 hx (hb hby at_35) (pc' := 36) rfl (v := (0 : Int32)) (by decide) ?_
      exact J4 _
    · refine OwnK.iconst X0 hx (hb hby at_31) (pc' := 32) rfl (v := (1 : Int32)) (by decide) ?_
      refine OwnK.goto_ X0 hx (hb hby at_32) (by decide) (pc' := 36) (by decide) ?_
      exact J4 _
  refine OwnK.iloadN X0 hx (hb hby at_12) (pc' := 13) rfl (v := p3) rfl ?_
  refine OwnK.iconst X0 hx (hb hby at_13) (pc' := 14) rfl (v := (1 : Int32)) (by decide) ?_
  refine OwnK.iand X0 hx (hb hby at_14) (pc' := 15) rfl ?_
  refine OwnK.if_eq X0 hx (hb hby at_15) (by decide) (pcT := 22) (by decide) (pc' := 18) rfl (fun (hc33 : (p3 &&& (1 : Int32)).toInt = 0) => ?_) (fun (hc33 : ¬ (p3 &&& (1 : Int32)).toInt = 0) => ?_)
  · refine OwnK.iconst X0 hx (hb hby at_22) (pc' := 23) rfl (v := (0 : Int32)) (by decide) ?_
    exact J3 _
  · refine OwnK.iconst X0 hx (hb hby at_18) (pc' := 19) rfl (v := (1 : Int32)) (by decide) ?_
    refine OwnK.goto_ X0 hx (hb hby at_19) (by decide) (pc' := 23) (by decide) ?_
    exact J3 _
set_option maxRecDepth 65536 in
set_option maxHeartbeats 40000000 in
theorem comes_1 {Post : Tables → Env → Array Value → State → Outcome → State → Prop} (hpost : ∀ tb e args s v u, (limb_1_1.after args s (.returned v) u = true ∧ limb_1_2.after args s (.returned v) u = true ∧ True) → FrameEnd s (.returned v) u (Jvm.fieldLocs frame_1_writes args s ++ Jvm.arrayLocs frame_1_arrays args s ++ Jvm.staticLocs frame_1_statics s) 16 128 → Post tb e args s (.returned v) u) :
    ArmFor flags0 classFile x code maxLocals ret World_1 tables_1 room_1 Calls_1 rest_1 Pre_1 Post := by
  intro l hfl _ _ p e ha hc hk s m args below hf hA hF happ hP
  obtain ⟨hcalls, hrest, hpre⟩ := hP
  obtain ⟨-, -, -, hnamed, -, -, -, hat⟩ := (Spec.applies_iff hf).mp happ
  obtain ⟨hg, hn⟩ := and_e (Cond.before_iff.mp (show (Jvm.Cond.and given_1 narrow_1).before args s = true from hpre))
  obtain ⟨hcnt, hg0⟩ := and_e hg
  obtain ⟨ha0, hg1⟩ := and_e hg0
  obtain ⟨ha1, hg2⟩ := and_e hg1
  obtain ⟨ha2, hg3⟩ := and_e hg2
  have ha3 := hg3
  obtain ⟨w0, w1, w2, w3, rfl⟩ : ∃ w0 w1 w2 w3 : Value, args = #[w0, w1, w2, w3] := by
    have hs : args.size = 4 := by simpa [Cond.value, given_1] using hcnt
    obtain ⟨L⟩ := args
    match L, hs with
    | [w0, w1, w2, w3], _ => exact ⟨w0, w1, w2, w3, rfl⟩
  have hw := fun d (hd : d ∈ tables_1) => atoms_spec (ws := Jvm.Cond.code x code maxLocals ret :: tables_1) hat d (List.mem_cons_of_mem _ hd)
  have hfit : Fit s := fun {y c} hc i hi => by
    obtain ⟨ha, rfl⟩ := Array.getElem?_eq_some_iff.mp hc
    have q := List.all_eq_true.mp ((Array.all_eq_true_iff_forall_mem.mp hF) _ (Array.getElem_mem ha)) i (List.mem_range.mpr hi)
    simpa [Array.getElem?_eq_getElem hi] using q
  obtain ⟨i0, e0⟩ := is_v ha0
  obtain rfl : w0 = (.int i0) := Option.some.inj e0
  obtain ⟨i1, e1⟩ := is_v ha1
  obtain rfl : w1 = (.int i1) := Option.some.inj e1
  obtain ⟨i2, e2⟩ := is_v ha2
  obtain rfl : w2 = (.int i2) := Option.some.inj e2
  obtain ⟨i3, e3⟩ := is_v ha3
  obtain rfl : w3 = (.int i3) := Option.some.inj e3
  obtain ⟨n0, m0⟩ := and_e hn
  obtain ⟨n1, m1⟩ := and_e m0
  obtain ⟨n2, m2⟩ := and_e m1
  obtain ⟨n3, m3⟩ := and_e m2
  obtain ⟨n4, m4⟩ := and_e m3
  obtain ⟨n5, m5⟩ := and_e m4
  obtain ⟨n6, m6⟩ := and_e m5
  obtain ⟨n7, m7⟩ := and_e m6
  obtain ⟨n8, m8⟩ := and_e m7
  obtain ⟨n9, m9⟩ := and_e m8
  obtain ⟨n10, m10⟩ := and_e m9
  obtain ⟨n11, m11⟩ := and_e m10
  obtain ⟨n12, m12⟩ := and_e m11
  obtain ⟨n13, m13⟩ := and_e m12
  obtain ⟨n14, m14⟩ := and_e m13
  obtain ⟨n15, m15⟩ := and_e m14
  obtain ⟨n16, m16⟩ := and_e m15
  obtain ⟨a_v0, ev_v0⟩ := exa_v n0
  have S_v0 := Sta.start ev_v0 (Or.inr ⟨hw _ (List.mem_of_getElem? (i := 8) rfl), hw _ (List.mem_of_getElem? (i := 9) rfl)⟩)
  obtain ⟨a_e3, ev_e3⟩ := exa_v n1
  have S_e3 := Sta.start ev_e3 (Or.inr ⟨hw _ (List.mem_of_getElem? (i := 14) rfl), hw _ (List.mem_of_getElem? (i := 15) rfl)⟩)
  obtain ⟨a_e2, ev_e2⟩ := exa_v n2
  have S_e2 := Sta.start ev_e2 (Or.inr ⟨hw _ (List.mem_of_getElem? (i := 14) rfl), hw _ (List.mem_of_getElem? (i := 36) rfl)⟩)
  obtain ⟨a_e4, ev_e4⟩ := exa_v n5
  have S_e4 := Sta.start ev_e4 (Or.inr ⟨hw _ (List.mem_of_getElem? (i := 14) rfl), hw _ (List.mem_of_getElem? (i := 43) rfl)⟩)
  obtain ⟨a_v3, ev_v3⟩ := exa_v n7
  have S_v3 := Sta.start ev_v3 (Or.inr ⟨hw _ (List.mem_of_getElem? (i := 8) rfl), hw _ (List.mem_of_getElem? (i := 45) rfl)⟩)
  obtain ⟨a_e0, ev_e0⟩ := exa_v n8
  have S_e0 := Sta.start ev_e0 (Or.inr ⟨hw _ (List.mem_of_getElem? (i := 14) rfl), hw _ (List.mem_of_getElem? (i := 47) rfl)⟩)
  obtain ⟨a_v2, ev_v2⟩ := exa_v n9
  have S_v2 := Sta.start ev_v2 (Or.inr ⟨hw _ (List.mem_of_getElem? (i := 8) rfl), hw _ (List.mem_of_getElem? (i := 49) rfl)⟩)
  obtain ⟨a_e6, ev_e6⟩ := exa_v n10
  have S_e6 := Sta.start ev_e6 (Or.inr ⟨hw _ (List.mem_of_getElem? (i := 14) rfl), hw _ (List.mem_of_getElem? (i := 51) rfl)⟩)
  obtain ⟨a_v1, ev_v1⟩ := exa_v n12
  have S_v1 := Sta.start ev_v1 (Or.inr ⟨hw _ (List.mem_of_getElem? (i := 8) rfl), hw _ (List.mem_of_getElem? (i := 53) rfl)⟩)
  obtain ⟨a_e5, ev_e5⟩ := exa_v n13
  have S_e5 := Sta.start ev_e5 (Or.inr ⟨hw _ (List.mem_of_getElem? (i := 14) rfl), hw _ (List.mem_of_getElem? (i := 55) rfl)⟩)
  obtain ⟨a_e1, ev_e1⟩ := exa_v n15
  have S_e1 := Sta.start ev_e1 (Or.inr ⟨hw _ (List.mem_of_getElem? (i := 14) rfl), hw _ (List.mem_of_getElem? (i := 57) rfl)⟩)
  have F_e3 : Fld s s.heap a_e3 "java/lang/Enum" "ordinal" "I" (.int (3 : Int32)) := own_ord ev_e3 n3
  have F_e2 : Fld s s.heap a_e2 "java/lang/Enum" "ordinal" "I" (.int (2 : Int32)) := own_ord ev_e2 n4
  have F_e4 : Fld s s.heap a_e4 "java/lang/Enum" "ordinal" "I" (.int (4 : Int32)) := own_ord ev_e4 n6
  have F_e6 : Fld s s.heap a_e6 "java/lang/Enum" "ordinal" "I" (.int (6 : Int32)) := own_ord ev_e6 n11
  have F_e5 : Fld s s.heap a_e5 "java/lang/Enum" "ordinal" "I" (.int (5 : Int32)) := own_ord ev_e5 n14
  have F_e1 : Fld s s.heap a_e1 "java/lang/Enum" "ordinal" "I" (.int (1 : Int32)) := own_ord ev_e1 n16
  have F_e0 : Fld s s.heap a_e0 "java/lang/Enum" "ordinal" "I" (.int (0 : Int32)) := own_ord ev_e0 m16
  have hinj : ∀ i j, i < 7 → j < 7 → own_seven a_e0 a_e1 a_e2 a_e3 a_e4 a_e5 a_e6 i = own_seven a_e0 a_e1 a_e2 a_e3 a_e4 a_e5 a_e6 j → i = j := own_inj F_e0 F_e1 F_e2 F_e3 F_e4 F_e5 F_e6
  obtain ⟨n, o, h1, h2, h3, _, L, rfl, ⟨rfl, N⟩, hq⟩ := own_law l s _ hw tables_1 s.heap s.heap.size (Nat.le_refl _) i0 i1 i2 i3 (own_seven a_e0 a_e1 a_e2 a_e3 a_e4 a_e5 a_e6) (own_four a_v0 a_v1 a_v2 a_v3) (Old.start s) hinj S_e0 S_e1 S_e2 S_e3 S_e4 S_e5 S_e6 S_v0 S_v1 S_v2 S_v3 p e ha hc hk s m _ below hf ((Spec.applies_iff_loose hf).mp happ).1 ⟨rfl, State.Warmed39.refl s, rfl⟩ trivial
  refine ⟨n, _, h1, h2, h3, hpost _ _ _ _ _ _ ⟨Cond.after_iff.mpr rfl, Cond.after_iff.mpr (eq_i res_at (Term.int_eval (1)) rfl), trivial⟩ ⟨hq.1, hq.2.1, (hq.2.2.sift fun y hy => Or.inr (N y hy)).mono (by decide) (by decide)⟩⟩
theorem main_1_1 : Claimed_1_1 := comes_1 fun _ _ _ _ _ _ h hF => ⟨h.1, hF⟩
theorem main_1_2 : Claimed_1_2 := comes_1 fun _ _ _ _ _ _ h hF => ⟨h.2.1, hF⟩
end Jvm.Pilot.@@N@@
namespace Jvm.Pilot.@@N@@
open Jvm Jvm.ClassFile Sem Op Lib Jvm.Free Jvm.Stand Jvm.Pilot.@@N@@.Jvm.D
/-! MADE BY PROGRAM (witnessworld.py) out of the Statement's table words and the real class files: 15 classes; the members and pool entries that the words name. The judged class is class 1, her method 3. -/
namespace start1
open Jvm.ClassFile
def u (s : String) : CpInfo := .utf8 (stringToUtf16 s)
/-- a pool by its gaps: so many unusable entries, then the entry; so many at the end -/
def gap : Nat → List CpInfo → List CpInfo
  | 0, r => r
  | n + 1, r => .unusable :: gap n r
def poolList (es : List (Nat × CpInfo)) (last : Nat) : List CpInfo := es.foldr (fun e r => gap e.1 (e.2 :: r)) (gap last [])
def pool (es : List (Nat × CpInfo)) (last : Nat) : Array CpInfo := ⟨poolList es last⟩
def fileOf (pool : Array CpInfo) (this : Nat) (attrs : Array Attribute := #[]) (ms : Array MethodInfo := #[]) (fl : Nat := 33) (sup : Nat := 0) (ifs : Array Nat := #[]) (fds : Array FieldInfo := #[]) : ClassFile where
  minorVersion := 0
  majorVersion := 65
  constantPool := pool
  accessFlags := fl
  thisClass := this
  superClass := sup
  interfaces := ifs
  fields := fds
  methods := ms
  attributes := attrs
def plain (name : String) (sup : Option ClassId) : Class where
  name := name
  kind := .ordinary
  loader := none
  accessFlags := 33
  super := sup
  interfaces := #[]
  cf := none
  fields := #[]
  methods := #[]
  instanceTypes := #[]
  staticTypes := #[]
  resolved := #[]
  callSites := []
  init := .initialized
  statics := none
  mirror := none

def pool0 : Array CpInfo := pool [(5, u "<init>"), (0, u "()V"), (1, .class_ 10), (1, u "java/lang/Object")] 113

def k0c0 : Code := { maxStack := 0, maxLocals := 1, code := object_method_1_code, exceptionTable := #[], attributes := #[] }
def k0m0 : Method := { name := "<init>", desc := "()V", sig := { parameters := [], returnType := none }, accessFlags := 1, code := some k0c0 }
/-- java/lang/Object -/
def k0 : Class := { plain "java/lang/Object" none with
  accessFlags := 33
  interfaces := #[]
  cf := some (fileOf pool0 8 #[] #[{ accessFlags := 1, nameIndex := 5, descriptorIndex := 6, attributes := #[] }] 33 0 #[] #[])
  fields := #[]
  methods := #[k0m0]
  instanceTypes := #[]
  staticTypes := #[]
  resolved := Array.replicate 124 none
  statics := none }

def pool1 : Array CpInfo := pool [(2, .class_ 4), (1, u "java/lang/Object"), (0, u "<init>"), (0, u "()V"), (0, .fieldref 8 9), (0, .class_ 10), (0, .nameAndType 11 12), (0, u "com/example/entryway/entryway/Keys$ValueType"), (0, u "STRING"), (0, u "Lcom/example/entryway/entryway/Keys$ValueType;"), (0, .fieldref 8 14), (0, .nameAndType 15 12), (0, u "LOCALESTRING"), (0, .fieldref 8 17), (0, .nameAndType 18 12), (0, u "ICONSTRING"), (0, .fieldref 8 20), (0, .nameAndType 21 12), (0, u "BOOLEAN"), (0, .fieldref 23 24), (0, .class_ 25), (0, .nameAndType 26 27), (0, u "com/example/entryway/entryway/Keys$EntryType"), (0, u "APPLICATION"), (0, u "Lcom/example/entryway/entryway/Keys$EntryType;"), (0, .fieldref 23 29), (0, .nameAndType 30 27), (0, u "LINK"), (0, .fieldref 23 32), (0, .nameAndType 33 27), (0, u "DIRECTORY"), (0, .fieldref 23 35), (0, .nameAndType 36 27), (0, u "SERVICE"), (0, .fieldref 23 38), (0, .nameAndType 39 27), (0, u "SERVICE_TYPE"), (0, .fieldref 23 41), (0, .nameAndType 42 27), (0, u "FS_DEVICE"), (0, .fieldref 23 44), (0, .nameAndType 45 27), (0, u "MIME_TYPE"), (0, .class_ 47), (0, u "com/example/entryway/entryway/Keys$Key"), (0, .methodref 49 50), (0, .class_ 51), (0, .nameAndType 52 53), (0, u "com/example/entryway/entryway/KeyIsForPinLaw"), (0, u "valueType"), (0, u "(I)Lcom/example/entryway/entryway/Keys$ValueType;"), (0, .methodref 49 55), (0, .nameAndType 56 57), (0, u "entryType"), (0, u "(I)Lcom/example/entryway/entryway/Keys$EntryType;"), (0, .methodref 46 59), (0, .nameAndType 5 60), (0, u "(Lcom/example/entryway/entryway/Keys$ValueType;Lcom/example/entryway/entryway/Keys$EntryType;ZZ)V"), (0, .methodref 46 62), (0, .nameAndType 63 64), (0, u "isFor"), (0, u "(Lcom/example/entryway/entryway/Keys$EntryType;)Z"), (3, u "law"), (0, u "(IIII)Z")] 8

def k1m0 : Method := { name := "<init>", desc := "()V", sig := { parameters := [], returnType := none }, accessFlags := 2, code := none }
def k1c1 : Code := { maxStack := 2, maxLocals := 1, code := method_2_code, exceptionTable := #[], attributes := #[] }
def k1m1 : Method := { name := "valueType", desc := "(I)Lcom/example/entryway/entryway/Keys$ValueType;", sig := { parameters := [.int], returnType := some (.object "com/example/entryway/entryway/Keys$ValueType") }, accessFlags := 10, code := some k1c1 }
def k1c2 : Code := { maxStack := 2, maxLocals := 1, code := method_3_code, exceptionTable := #[], attributes := #[] }
def k1m2 : Method := { name := "entryType", desc := "(I)Lcom/example/entryway/entryway/Keys$EntryType;", sig := { parameters := [.int], returnType := some (.object "com/example/entryway/entryway/Keys$EntryType") }, accessFlags := 10, code := some k1c2 }
def k1c3 : Code := { maxStack := 6, maxLocals := 10, code := code, exceptionTable := #[], attributes := #[] }
def k1m3 : Method := { name := "law", desc := "(IIII)Z", sig := { parameters := [.int, .int, .int, .int], returnType := some .boolean }, accessFlags := 9, code := some k1c3 }
/-- com/example/entryway/entryway/KeyIsForPinLaw -/
def k1 : Class := { plain "com/example/entryway/entryway/KeyIsForPinLaw" (some 0) with
  accessFlags := 49
  interfaces := #[]
  cf := some (fileOf pool1 49 #[] #[{ accessFlags := 2, nameIndex := 5, descriptorIndex := 6, attributes := #[] }, { accessFlags := 10, nameIndex := 52, descriptorIndex := 53, attributes := #[] }, { accessFlags := 10, nameIndex := 56, descriptorIndex := 57, attributes := #[] }, { accessFlags := 9, nameIndex := 68, descriptorIndex := 69, attributes := #[] }] 49 2 #[] #[])
  fields := #[]
  methods := #[k1m0, k1m1, k1m2, k1m3]
  instanceTypes := #[]
  staticTypes := #[]
  resolved := Array.replicate 78 none
  statics := none }

def pool2 : Array CpInfo := pool [(1, .methodref 2 3), (0, .class_ 4), (0, .nameAndType 5 6), (0, u "java/lang/Object"), (0, u "<init>"), (0, u "()V"), (0, .class_ 8), (0, u "java/lang/Record")] 13

def k2c0 : Code := { maxStack := 1, maxLocals := 1, code := jdk_30_method_1_code, exceptionTable := #[], attributes := #[] }
def k2m0 : Method := { name := "<init>", desc := "()V", sig := { parameters := [], returnType := none }, accessFlags := 4, code := some k2c0 }
/-- java/lang/Record -/
def k2 : Class := { plain "java/lang/Record" (some 0) with
  accessFlags := 1057
  interfaces := #[]
  cf := some (fileOf pool2 7 #[] #[{ accessFlags := 4, nameIndex := 5, descriptorIndex := 6, attributes := #[] }] 1057 2 #[] #[])
  fields := #[]
  methods := #[k2m0]
  instanceTypes := #[]
  staticTypes := #[]
  resolved := Array.replicate 22 none
  statics := none }

def pool3 : Array CpInfo := pool [(1, .methodref 2 3), (0, .class_ 4), (0, .nameAndType 5 6), (0, u "java/lang/Record"), (0, u "<init>"), (0, u "()V"), (0, .fieldref 8 9), (0, .class_ 10), (0, .nameAndType 11 12), (0, u "com/example/entryway/entryway/Keys$Key"), (0, u "valueType"), (0, u "Lcom/example/entryway/entryway/Keys$ValueType;"), (0, .fieldref 8 14), (0, .nameAndType 15 16), (0, u "entryType"), (0, u "Lcom/example/entryway/entryway/Keys$EntryType;"), (0, .fieldref 8 18), (0, .nameAndType 19 20), (0, u "required"), (0, u "Z"), (0, .fieldref 8 22), (0, .nameAndType 23 20), (0, u "list"), (12, u "(Lcom/example/entryway/entryway/Keys$ValueType;Lcom/example/entryway/entryway/Keys$EntryType;ZZ)V"), (3, u "isFor"), (0, u "(Lcom/example/entryway/entryway/Keys$EntryType;)Z"), (10, .class_ 53), (0, u "com/example/entryway/entryway/Keys")] 28

def k3c0 : Code := { maxStack := 2, maxLocals := 5, code := prog_54_method_1_code, exceptionTable := #[], attributes := #[] }
def k3m0 : Method := { name := "<init>", desc := "(Lcom/example/entryway/entryway/Keys$ValueType;Lcom/example/entryway/entryway/Keys$EntryType;ZZ)V", sig := { parameters := [(.object "com/example/entryway/entryway/Keys$ValueType"), (.object "com/example/entryway/entryway/Keys$EntryType"), .boolean, .boolean], returnType := none }, accessFlags := 0, code := some k3c0 }
def k3c1 : Code := { maxStack := 2, maxLocals := 2, code := prog_54_method_2_code, exceptionTable := #[], attributes := #[] }
def k3m1 : Method := { name := "isFor", desc := "(Lcom/example/entryway/entryway/Keys$EntryType;)Z", sig := { parameters := [(.object "com/example/entryway/entryway/Keys$EntryType")], returnType := some .boolean }, accessFlags := 0, code := some k3c1 }
/-- com/example/entryway/entryway/Keys$Key -/
def k3 : Class := { plain "com/example/entryway/entryway/Keys$Key" (some 2) with
  accessFlags := 48
  interfaces := #[]
  cf := some (fileOf pool3 8 #[.nestHost 52] #[{ accessFlags := 0, nameIndex := 5, descriptorIndex := 36, attributes := #[] }, { accessFlags := 0, nameIndex := 40, descriptorIndex := 41, attributes := #[] }] 48 2 #[] #[{ accessFlags := 18, nameIndex := 11, descriptorIndex := 12, attributes := #[] }, { accessFlags := 18, nameIndex := 15, descriptorIndex := 16, attributes := #[] }, { accessFlags := 18, nameIndex := 19, descriptorIndex := 20, attributes := #[] }, { accessFlags := 18, nameIndex := 23, descriptorIndex := 20, attributes := #[] }])
  fields := #[{ name := "valueType", type := (.object "com/example/entryway/entryway/Keys$ValueType"), accessFlags := 18, slot := 0, constantValue := 0 }, { name := "entryType", type := (.object "com/example/entryway/entryway/Keys$EntryType"), accessFlags := 18, slot := 1, constantValue := 0 }, { name := "required", type := .boolean, accessFlags := 18, slot := 2, constantValue := 0 }, { name := "list", type := .boolean, accessFlags := 18, slot := 3, constantValue := 0 }]
  methods := #[k3m0, k3m1]
  instanceTypes := #[(.object "com/example/entryway/entryway/Keys$ValueType"), (.object "com/example/entryway/entryway/Keys$EntryType"), .boolean, .boolean]
  staticTypes := #[]
  resolved := Array.replicate 82 none
  statics := none }

def pool4 : Array CpInfo := pool [(1, .class_ 2), (0, u "java/lang/constant/Constable"), (0, .class_ 4), (0, u "java/lang/Object")] 6

/-- java/lang/constant/Constable -/
def k4 : Class := { plain "java/lang/constant/Constable" (some 0) with
  accessFlags := 1537
  interfaces := #[]
  cf := some (fileOf pool4 1 #[] #[] 1537 3 #[] #[])
  fields := #[]
  methods := #[]
  instanceTypes := #[]
  staticTypes := #[]
  resolved := Array.replicate 11 none
  statics := none }

def pool5 : Array CpInfo := pool [(1, .class_ 2), (0, u "java/lang/Comparable"), (0, .class_ 4), (0, u "java/lang/Object")] 7

/-- java/lang/Comparable -/
def k5 : Class := { plain "java/lang/Comparable" (some 0) with
  accessFlags := 1537
  interfaces := #[]
  cf := some (fileOf pool5 1 #[] #[] 1537 3 #[] #[])
  fields := #[]
  methods := #[]
  instanceTypes := #[]
  staticTypes := #[]
  resolved := Array.replicate 12 none
  statics := none }

def pool6 : Array CpInfo := pool [(1, .class_ 2), (0, u "java/io/Serializable"), (0, .class_ 4), (0, u "java/lang/Object")] 2

/-- java/io/Serializable -/
def k6 : Class := { plain "java/io/Serializable" (some 0) with
  accessFlags := 1537
  interfaces := #[]
  cf := some (fileOf pool6 1 #[] #[] 1537 3 #[] #[])
  fields := #[]
  methods := #[]
  instanceTypes := #[]
  staticTypes := #[]
  resolved := Array.replicate 7 none
  statics := none }

def pool7 : Array CpInfo := pool [(2, .class_ 4), (1, u "java/lang/Enum"), (0, u "name"), (0, u "Ljava/lang/String;"), (2, u "ordinal"), (0, u "I"), (1, .class_ 14), (1, u "java/lang/Object"), (4, u "hash"), (86, .class_ 108), (1, u "java/lang/Enum$EnumDesc"), (2, .class_ 112), (0, u "java/lang/constant/Constable"), (0, .class_ 114), (0, u "java/lang/Comparable"), (0, .class_ 116), (0, u "java/io/Serializable")] 87

/-- java/lang/Enum -/
def k7 : Class := { plain "java/lang/Enum" (some 0) with
  accessFlags := 1057
  interfaces := #[4, 5, 6]
  cf := some (fileOf pool7 2 #[.nestMembers #[106]] #[] 1057 12 #[111, 113, 115] #[{ accessFlags := 18, nameIndex := 5, descriptorIndex := 6, attributes := #[] }, { accessFlags := 18, nameIndex := 9, descriptorIndex := 10, attributes := #[] }, { accessFlags := 2, nameIndex := 19, descriptorIndex := 10, attributes := #[] }])
  fields := #[{ name := "name", type := (.object "java/lang/String"), accessFlags := 18, slot := 0, constantValue := 0 }, { name := "ordinal", type := .int, accessFlags := 18, slot := 1, constantValue := 0 }, { name := "hash", type := .int, accessFlags := 2, slot := 2, constantValue := 0 }]
  methods := #[]
  instanceTypes := #[(.object "java/lang/String"), .int, .int]
  staticTypes := #[]
  resolved := Array.replicate 204 none
  statics := none }

def pool8 : Array CpInfo := pool [(1, .class_ 2), (0, u "com/example/entryway/entryway/Keys$ValueType"), (2, u "STRING"), (0, u "Lcom/example/entryway/entryway/Keys$ValueType;"), (2, u "LOCALESTRING"), (2, u "ICONSTRING"), (2, u "BOOLEAN"), (2, u "$VALUES"), (0, u "[Lcom/example/entryway/entryway/Keys$ValueType;"), (6, .class_ 28), (1, u "java/lang/Enum"), (27, .class_ 57), (0, u "com/example/entryway/entryway/Keys")] 2

/-- com/example/entryway/entryway/Keys$ValueType -/
def k8 : Class := { plain "com/example/entryway/entryway/Keys$ValueType" (some 7) with
  accessFlags := 16432
  interfaces := #[]
  cf := some (fileOf pool8 1 #[.nestHost 56] #[] 16432 26 #[] #[{ accessFlags := 16409, nameIndex := 5, descriptorIndex := 6, attributes := #[] }, { accessFlags := 16409, nameIndex := 9, descriptorIndex := 6, attributes := #[] }, { accessFlags := 16409, nameIndex := 12, descriptorIndex := 6, attributes := #[] }, { accessFlags := 16409, nameIndex := 15, descriptorIndex := 6, attributes := #[] }, { accessFlags := 4122, nameIndex := 18, descriptorIndex := 19, attributes := #[] }])
  fields := #[{ name := "STRING", type := (.object "com/example/entryway/entryway/Keys$ValueType"), accessFlags := 16409, slot := 0, constantValue := 0 }, { name := "LOCALESTRING", type := (.object "com/example/entryway/entryway/Keys$ValueType"), accessFlags := 16409, slot := 1, constantValue := 0 }, { name := "ICONSTRING", type := (.object "com/example/entryway/entryway/Keys$ValueType"), accessFlags := 16409, slot := 2, constantValue := 0 }, { name := "BOOLEAN", type := (.object "com/example/entryway/entryway/Keys$ValueType"), accessFlags := 16409, slot := 3, constantValue := 0 }, { name := "$VALUES", type := (.array (.object "com/example/entryway/entryway/Keys$ValueType")), accessFlags := 4122, slot := 4, constantValue := 0 }]
  methods := #[]
  instanceTypes := #[(.object "java/lang/String"), .int, .int]
  staticTypes := #[(.object "com/example/entryway/entryway/Keys$ValueType"), (.object "com/example/entryway/entryway/Keys$ValueType"), (.object "com/example/entryway/entryway/Keys$ValueType"), (.object "com/example/entryway/entryway/Keys$ValueType"), (.array (.object "com/example/entryway/entryway/Keys$ValueType"))]
  resolved := Array.replicate 60 none
  statics := some 0 }

def pool9 : Array CpInfo := pool [(1, .class_ 2), (0, u "com/example/entryway/entryway/Keys$EntryType"), (2, u "APPLICATION"), (0, u "Lcom/example/entryway/entryway/Keys$EntryType;"), (2, u "LINK"), (2, u "DIRECTORY"), (2, u "SERVICE"), (2, u "SERVICE_TYPE"), (2, u "FS_DEVICE"), (2, u "MIME_TYPE"), (2, u "$VALUES"), (0, u "[Lcom/example/entryway/entryway/Keys$EntryType;"), (6, .class_ 37), (1, u "java/lang/Enum"), (8, u "value"), (0, u "Ljava/lang/String;"), (2, u "standing"), (0, u "Lcom/example/entryway/entryway/Keys$EntryType$Standing;"), (77, .class_ 130), (0, u "com/example/entryway/entryway/Keys")] 3

/-- com/example/entryway/entryway/Keys$EntryType -/
def k9 : Class := { plain "com/example/entryway/entryway/Keys$EntryType" (some 7) with
  accessFlags := 16432
  interfaces := #[]
  cf := some (fileOf pool9 1 #[.nestHost 129] #[] 16432 35 #[] #[{ accessFlags := 16409, nameIndex := 5, descriptorIndex := 6, attributes := #[] }, { accessFlags := 16409, nameIndex := 9, descriptorIndex := 6, attributes := #[] }, { accessFlags := 16409, nameIndex := 12, descriptorIndex := 6, attributes := #[] }, { accessFlags := 16409, nameIndex := 15, descriptorIndex := 6, attributes := #[] }, { accessFlags := 16409, nameIndex := 18, descriptorIndex := 6, attributes := #[] }, { accessFlags := 16409, nameIndex := 21, descriptorIndex := 6, attributes := #[] }, { accessFlags := 16409, nameIndex := 24, descriptorIndex := 6, attributes := #[] }, { accessFlags := 18, nameIndex := 46, descriptorIndex := 47, attributes := #[] }, { accessFlags := 18, nameIndex := 50, descriptorIndex := 51, attributes := #[] }, { accessFlags := 4122, nameIndex := 27, descriptorIndex := 28, attributes := #[] }])
  fields := #[{ name := "APPLICATION", type := (.object "com/example/entryway/entryway/Keys$EntryType"), accessFlags := 16409, slot := 0, constantValue := 0 }, { name := "LINK", type := (.object "com/example/entryway/entryway/Keys$EntryType"), accessFlags := 16409, slot := 1, constantValue := 0 }, { name := "DIRECTORY", type := (.object "com/example/entryway/entryway/Keys$EntryType"), accessFlags := 16409, slot := 2, constantValue := 0 }, { name := "SERVICE", type := (.object "com/example/entryway/entryway/Keys$EntryType"), accessFlags := 16409, slot := 3, constantValue := 0 }, { name := "SERVICE_TYPE", type := (.object "com/example/entryway/entryway/Keys$EntryType"), accessFlags := 16409, slot := 4, constantValue := 0 }, { name := "FS_DEVICE", type := (.object "com/example/entryway/entryway/Keys$EntryType"), accessFlags := 16409, slot := 5, constantValue := 0 }, { name := "MIME_TYPE", type := (.object "com/example/entryway/entryway/Keys$EntryType"), accessFlags := 16409, slot := 6, constantValue := 0 }, { name := "value", type := (.object "java/lang/String"), accessFlags := 18, slot := 3, constantValue := 0 }, { name := "standing", type := (.object "com/example/entryway/entryway/Keys$EntryType$Standing"), accessFlags := 18, slot := 4, constantValue := 0 }, { name := "$VALUES", type := (.array (.object "com/example/entryway/entryway/Keys$EntryType")), accessFlags := 4122, slot := 7, constantValue := 0 }]
  methods := #[]
  instanceTypes := #[(.object "java/lang/String"), .int, .int, (.object "java/lang/String"), (.object "com/example/entryway/entryway/Keys$EntryType$Standing")]
  staticTypes := #[(.object "com/example/entryway/entryway/Keys$EntryType"), (.object "com/example/entryway/entryway/Keys$EntryType"), (.object "com/example/entryway/entryway/Keys$EntryType"), (.object "com/example/entryway/entryway/Keys$EntryType"), (.object "com/example/entryway/entryway/Keys$EntryType"), (.object "com/example/entryway/entryway/Keys$EntryType"), (.object "com/example/entryway/entryway/Keys$EntryType"), (.array (.object "com/example/entryway/entryway/Keys$EntryType"))]
  resolved := Array.replicate 134 none
  statics := some 1 }

def pool10 : Array CpInfo := pool [(1, u "java/lang/Cloneable"), (0, .class_ 1), (0, u "java/lang/Object"), (0, .class_ 3)] 3

/-- java/lang/Cloneable -/
def k10 : Class := { plain "java/lang/Cloneable" (some 0) with
  accessFlags := 1537
  interfaces := #[]
  cf := some (fileOf pool10 2 #[] #[] 1537 4 #[] #[])
  fields := #[]
  methods := #[]
  instanceTypes := #[]
  staticTypes := #[]
  resolved := Array.replicate 8 none
  statics := none }

/-- the primitive byte -/
def k11 : Class := { plain "byte" none with kind := .primitive 'B', accessFlags := 0x411 }
/-- [B -/
def k12 : Class := { plain "[B" (some 0) with kind := .array 11 .byte, interfaces := #[10, 6], accessFlags := 1041 }

/-- the primitive int -/
def k13 : Class := { plain "int" none with kind := .primitive 'I', accessFlags := 0x411 }
/-- [I -/
def k14 : Class := { plain "[I" (some 0) with kind := .array 13 .int, interfaces := #[10, 6], accessFlags := 1041 }

def heap : Heap := #[{ cls := 8, slots := #[.ref 9, .ref 10, .ref 11, .ref 12, .null], vm := .statics 8 },
  { cls := 9, slots := #[.ref 2, .ref 3, .ref 4, .ref 5, .ref 6, .ref 7, .ref 8, .null], vm := .statics 9 },
  { cls := 9, slots := #[.null, .int 0, .int 0, .null, .null], vm := .none },
  { cls := 9, slots := #[.null, .int 1, .int 0, .null, .null], vm := .none },
  { cls := 9, slots := #[.null, .int 2, .int 0, .null, .null], vm := .none },
  { cls := 9, slots := #[.null, .int 3, .int 0, .null, .null], vm := .none },
  { cls := 9, slots := #[.null, .int 4, .int 0, .null, .null], vm := .none },
  { cls := 9, slots := #[.null, .int 5, .int 0, .null, .null], vm := .none },
  { cls := 9, slots := #[.null, .int 6, .int 0, .null, .null], vm := .none },
  { cls := 8, slots := #[.null, .int 0, .int 0], vm := .none },
  { cls := 8, slots := #[.null, .int 1, .int 0], vm := .none },
  { cls := 8, slots := #[.null, .int 2, .int 0], vm := .none },
  { cls := 8, slots := #[.null, .int 3, .int 0], vm := .none }]
def classes : Array Class := #[k0, k1, k2, k3, k4, k5, k6, k7, k8, k9, k10, k11, k12, k13, k14]
def interned : List (Array UInt16 × Addr) := []
def slotsUsed : Nat := 60
def theMethod : MethodId := ⟨1, 3⟩
def args0 : Array Value := #[.int 1, .int 2, .int 3, .int 1]
def aboutOver (below : List Frame) : State where
  vm := { classes := classes, interned := interned.toArray }
  heap := heap
  slotsUsed := slotsUsed
  threads := #[{ frames := .invoking theMethod args0 :: below }]
def below0 : List Frame := [.native { method := ⟨0, 0⟩, args := #[] }]
def about1 : State := aboutOver below0
def p0 : Program := .bare "" "" ""
def e0 : Env := launch0.env 0 0 0
theorem w_frames : about1.frames = Frame.invoking theMethod args0 :: below0 := rfl
set_option maxRecDepth 65536 in
theorem w_args : argsFit about1.vm theMethod args0 = true := by decide +kernel
set_option maxRecDepth 65536 in
theorem w_heap : heapFits about1 = true := by decide +kernel
set_option maxRecDepth 65536 in
theorem w_runnable : about1.curStatus? = some .runnable := by decide +kernel
set_option maxRecDepth 65536 in
theorem w_alone : about1.alone = true := by decide +kernel
set_option maxRecDepth 65536 in
theorem w_named : about1.methodNamed? x = some theMethod := by decide +kernel
set_option maxRecDepth 65536 in
theorem w_hears : about1.hears theMethod below0 = true := by decide +kernel
set_option maxRecDepth 65536 in
theorem w_ripe : about1.ripe theMethod args0 below0 = true := by decide +kernel
theorem w_running : about1.status = .running := rfl
set_option maxRecDepth 65536 in
theorem w_room : about1.hasRoom e0.platform room_1 = true :=
  launch0.hasRoom_least _ room_1 (by decide +kernel) (by decide +kernel) (by decide +kernel) (by decide +kernel) (by decide +kernel) (by decide +kernel)
theorem allAtoms_all (ts : List Jvm.Cond) (a : Array Jvm.Value) (st : Jvm.State) : (allAtoms ts).before a st = ts.all (fun c => c.before a st) := by
  induction ts with
  | nil => rfl
  | cons c t ih =>
    show (Jvm.Cond.and c (allAtoms t)).before a st = _
    rw [Jvm.Cond.before_and, ih, List.all_cons]
def words1 : List Jvm.Cond := Jvm.Cond.code x code maxLocals ret :: tables_1
/-- a 'code' word, met by the world's own term for the bytes: nothing is compared byte by byte -/
theorem code_word {y : MethodName} {bytes : ByteArray} {mx : Nat} {rt : Option FieldType} {a : Array Value} {s : State} {m : MethodId} {meth : Method} {c : Code} (h1 : s.methodNamed? y = some m) (h2 : s.vm.method? m = some meth) (h3 : meth.code = some c) (h4 : c.code = bytes)
    (h5 : (c.maxLocals == mx && c.exceptionTable.isEmpty && decide (c.maxStack ≤ mostOperands) && decide (meth.sig.returnType = rt) && !meth.locks && decide (parseMethodDescriptor y.desc = some meth.sig)) = true) : (Jvm.Cond.code y bytes mx rt).before a s = true := by
  simp only [Bool.and_eq_true, beq_iff_eq, Bool.not_eq_true', decide_eq_true_eq] at h5
  obtain ⟨⟨⟨⟨⟨g1, g2⟩, g3⟩, g4⟩, g5⟩, g6⟩ := h5
  simp [Cond.before, Cond.holds, Cond.value, h1, h2, h3, h4, g1, g2, g3, g4, g5, g6]
def isCode : Jvm.Cond → Bool
  | .code _ _ _ _ => true
  | _ => false
theorem all_split {L : List Jvm.Cond} {P : Jvm.Cond → Bool} (h1 : L.all (fun c => isCode c || P c) = true) (h2 : ∀ c ∈ L.filter isCode, P c = true) : L.all P = true := by
  refine List.all_eq_true.mpr fun c hc => ?_
  have h := List.all_eq_true.mp h1 c hc
  rcases Bool.eq_false_or_eq_true (isCode c) with hi | hi
  · exact h2 c (List.mem_filter.mpr ⟨hc, hi⟩)
  · simpa [hi] using h
set_option maxRecDepth 65536 in
theorem w_c0 : (Jvm.Cond.code x code maxLocals ret).before args0 about1 = true := code_word (m := ⟨1, 3⟩) (meth := k1m3) (c := k1c3) (by decide +kernel) rfl rfl rfl (by decide +kernel)
set_option maxRecDepth 65536 in
theorem w_c1 : (Jvm.Cond.code ({ cls := "com/example/entryway/entryway/KeyIsForPinLaw", name := "valueType", desc := "(I)Lcom/example/entryway/entryway/Keys$ValueType;" } : Jvm.MethodName) method_2_code (1 : Nat) (Option.some (Jvm.ClassFile.FieldType.object "com/example/entryway/entryway/Keys$ValueType"))).before args0 about1 = true := code_word (m := ⟨1, 1⟩) (meth := k1m1) (c := k1c1) (by decide +kernel) rfl rfl rfl (by decide +kernel)
set_option maxRecDepth 65536 in
theorem w_c2 : (Jvm.Cond.code ({ cls := "com/example/entryway/entryway/KeyIsForPinLaw", name := "entryType", desc := "(I)Lcom/example/entryway/entryway/Keys$EntryType;" } : Jvm.MethodName) method_3_code (1 : Nat) (Option.some (Jvm.ClassFile.FieldType.object "com/example/entryway/entryway/Keys$EntryType"))).before args0 about1 = true := code_word (m := ⟨1, 2⟩) (meth := k1m2) (c := k1c2) (by decide +kernel) rfl rfl rfl (by decide +kernel)
set_option maxRecDepth 65536 in
theorem w_c3 : (Jvm.Cond.code ({ cls := "com/example/entryway/entryway/Keys$Key", name := "<init>", desc := "(Lcom/example/entryway/entryway/Keys$ValueType;Lcom/example/entryway/entryway/Keys$EntryType;ZZ)V" } : Jvm.MethodName) prog_54_method_1_code (5 : Nat) (Option.none : Option Jvm.ClassFile.FieldType)).before args0 about1 = true := code_word (m := ⟨3, 0⟩) (meth := k3m0) (c := k3c0) (by decide +kernel) rfl rfl rfl (by decide +kernel)
set_option maxRecDepth 65536 in
theorem w_c4 : (Jvm.Cond.code ({ cls := "java/lang/Record", name := "<init>", desc := "()V" } : Jvm.MethodName) jdk_30_method_1_code (1 : Nat) (Option.none : Option Jvm.ClassFile.FieldType)).before args0 about1 = true := code_word (m := ⟨2, 0⟩) (meth := k2m0) (c := k2c0) (by decide +kernel) rfl rfl rfl (by decide +kernel)
set_option maxRecDepth 65536 in
theorem w_c5 : (Jvm.Cond.code ({ cls := "java/lang/Object", name := "<init>", desc := "()V" } : Jvm.MethodName) object_method_1_code (1 : Nat) (Option.none : Option Jvm.ClassFile.FieldType)).before args0 about1 = true := code_word (m := ⟨0, 0⟩) (meth := k0m0) (c := k0c0) (by decide +kernel) rfl rfl rfl (by decide +kernel)
set_option maxRecDepth 65536 in
theorem w_c6 : (Jvm.Cond.code ({ cls := "com/example/entryway/entryway/Keys$Key", name := "isFor", desc := "(Lcom/example/entryway/entryway/Keys$EntryType;)Z" } : Jvm.MethodName) prog_54_method_2_code (2 : Nat) (Option.some Jvm.ClassFile.FieldType.boolean)).before args0 about1 = true := code_word (m := ⟨3, 1⟩) (meth := k3m1) (c := k3c1) (by decide +kernel) rfl rfl rfl (by decide +kernel)
def codes1 : List Jvm.Cond := [Jvm.Cond.code x code maxLocals ret, Jvm.Cond.code ({ cls := "com/example/entryway/entryway/KeyIsForPinLaw", name := "valueType", desc := "(I)Lcom/example/entryway/entryway/Keys$ValueType;" } : Jvm.MethodName) method_2_code (1 : Nat) (Option.some (Jvm.ClassFile.FieldType.object "com/example/entryway/entryway/Keys$ValueType")), Jvm.Cond.code ({ cls := "com/example/entryway/entryway/KeyIsForPinLaw", name := "entryType", desc := "(I)Lcom/example/entryway/entryway/Keys$EntryType;" } : Jvm.MethodName) method_3_code (1 : Nat) (Option.some (Jvm.ClassFile.FieldType.object "com/example/entryway/entryway/Keys$EntryType")), Jvm.Cond.code ({ cls := "com/example/entryway/entryway/Keys$Key", name := "<init>", desc := "(Lcom/example/entryway/entryway/Keys$ValueType;Lcom/example/entryway/entryway/Keys$EntryType;ZZ)V" } : Jvm.MethodName) prog_54_method_1_code (5 : Nat) (Option.none : Option Jvm.ClassFile.FieldType), Jvm.Cond.code ({ cls := "java/lang/Record", name := "<init>", desc := "()V" } : Jvm.MethodName) jdk_30_method_1_code (1 : Nat) (Option.none : Option Jvm.ClassFile.FieldType), Jvm.Cond.code ({ cls := "java/lang/Object", name := "<init>", desc := "()V" } : Jvm.MethodName) object_method_1_code (1 : Nat) (Option.none : Option Jvm.ClassFile.FieldType), Jvm.Cond.code ({ cls := "com/example/entryway/entryway/Keys$Key", name := "isFor", desc := "(Lcom/example/entryway/entryway/Keys$EntryType;)Z" } : Jvm.MethodName) prog_54_method_2_code (2 : Nat) (Option.some Jvm.ClassFile.FieldType.boolean)]
set_option maxRecDepth 65536 in
theorem codes_eq : words1.filter isCode = codes1 := rfl
theorem w_codes : ∀ c ∈ words1.filter isCode, c.before args0 about1 = true := by
  rw [codes_eq]
  intro c hc
  simp only [codes1, List.mem_cons, List.not_mem_nil, or_false] at hc
  rcases hc with rfl | rfl | rfl | rfl | rfl | rfl | rfl
  · exact w_c0
  · exact w_c1
  · exact w_c2
  · exact w_c3
  · exact w_c4
  · exact w_c5
  · exact w_c6
set_option maxRecDepth 65536 in
theorem w_t1 : (words1.take 24).all (fun c => isCode c || c.before args0 about1) = true := by decide +kernel
set_option maxRecDepth 65536 in
theorem w_t2 : ((words1.drop 24).take 24).all (fun c => isCode c || c.before args0 about1) = true := by decide +kernel
set_option maxRecDepth 65536 in
theorem w_t3 : ((words1.drop 24).drop 24).all (fun c => isCode c || c.before args0 about1) = true := by decide +kernel
theorem w_tables : (allAtoms (Jvm.Cond.code x code maxLocals ret :: tables_1)).before args0 about1 = true := by
  rw [allAtoms_all]
  show words1.all (fun c => c.before args0 about1) = true
  refine all_split ?_ w_codes
  rw [← List.take_append_drop 24 words1, List.all_append, w_t1, ← List.take_append_drop 24 (words1.drop 24), List.all_append, w_t2, w_t3]
  rfl
set_option maxRecDepth 65536 in
theorem w_case : (Jvm.Cond.and given_1 narrow_1).before args0 about1 = true := by decide +kernel
theorem w_applies : (headSpec (Jvm.Cond.code x code maxLocals ret :: tables_1) room_1).applies x e0.platform about1 = true :=
  (Spec.applies_iff w_frames).mpr ⟨w_running, w_runnable, w_alone, w_named, w_hears, w_ripe, w_room, w_tables⟩
theorem atStart : AtStart classFile x code maxLocals ret World_1 tables_1 room_1 Calls_1 rest_1 Pre_1 launch0 p0 e0 about1 theMethod args0 below0 :=
  ⟨lists_1, trivial, launch0.admits_env _ _ _, launch0.least_env, fairChoices_fair.cas, fairChoices_fair.clock, w_frames, w_args, w_heap, w_applies, trivial, trivial, w_case⟩
end start1
theorem witness_1 : WitnessClaimed_1 := ⟨start1.p0, start1.e0, start1.about1, start1.theMethod, start1.args0, start1.below0, start1.atStart⟩
end Jvm.Pilot.@@N@@
