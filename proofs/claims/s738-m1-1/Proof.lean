import JvmDerived
import JvmDerived.Pilot.@@N@@Statement
import JvmDerived.Pilot.@@N@@Code
set_option linter.unusedVariables false
set_option linter.unusedSimpArgs false
namespace Jvm.OwnK
open Sem ClassFile Op Lib Jvm.Stand Jvm.Free Jvm.LawKit Jvm.RoadKit Bundle
/-- from the frame f at T the run ends, and P holds of its end -/
def Go (tb : Tables) (e : Env) (below : List Frame) (P : Outcome → State → Prop) (T : State) (f : JFrame) : Prop :=
  ∃ s₂ o, Steps tb e below (T.setTop f) s₂ ∧ s₂.status = .running ∧ Ended s₂ below o ∧ P o s₂
abbrev PQ (s : State) (Q : Option Value → Heap → List Loc → Prop) (C N : Nat) : Outcome → State → Prop := fun o U' => ∃ v L, o = .returned v ∧ Q v U'.heap L ∧ FrameEnd s o U' L C N
theorem Go.st {tb : Tables} {e : Env} {below : List Frame} {P : Outcome → State → Prop} {T T' : State} {f f' : JFrame} (h : ∀ t, Steps tb e below (T'.setTop f') t → Steps tb e below (T.setTop f) t) (k : Go tb e below P T' f') : Go tb e below P T f := by
  obtain ⟨s₂, o, h1, h2⟩ := k; exact ⟨s₂, o, h _ h1, h2⟩
theorem Go.st1 {tb : Tables} {e : Env} {below : List Frame} {P : Outcome → State → Prop} {T T' : State} {f f' : JFrame} (h : Steps tb e below (T.setTop f) (T'.setTop f')) (k : Go tb e below P T' f') : Go tb e below P T f :=
  Go.st (fun t q => h.trans q) k
theorem tI {x : Int32} {n : Int} (h : x.toInt = n) : x = Int32.ofInt n := by subst h; simp
section Steps
variable {p : Program} {l : Launch} {e : Env} {R : Room} {s : State} {m : MethodId} {args : Array Value} {below : List Frame} {meth : Method} {c : Code} {T : State} {locs : List Loc} {cells slots : Nat} {P : Outcome → State → Prop} {pc pc' : Nat} {Ls : Array Slot} {S : List Value} {Z : State} {a0 : Array Value} {h : Heap}
theorem iload (X : Stand p l e R s m args below meth c T locs cells slots) (hx : p.tables.exec = Jvm.exec) {j : Nat} {v : Int32} (hd : decode c.code pc = .ok (.iload j, 2)) (hp : pc' = pc + 2) (hl : Ls[j]? = some (.val (.int v)))
    (k : Go p.tables e below P T (mkF m pc' Ls (.int v :: S))) : Go p.tables e below P T (mkF m pc Ls (S)) := by
  subst hp; exact Go.st (fun t q => XS.iload X.here hx rfl hd  hl q) k
theorem lload (X : Stand p l e R s m args below meth c T locs cells slots) (hx : p.tables.exec = Jvm.exec) {j : Nat} {v : Int64} (hd : decode c.code pc = .ok (.lload j, 2)) (hp : pc' = pc + 2) (hl : Ls[j]? = some (.val (.long v)))
    (k : Go p.tables e below P T (mkF m pc' Ls (.long v :: S))) : Go p.tables e below P T (mkF m pc Ls (S)) := by
  subst hp; exact Go.st (fun t q => XT.lload X.here hx rfl hd  hl q) k
theorem lloadN (X : Stand p l e R s m args below meth c T locs cells slots) (hx : p.tables.exec = Jvm.exec) {j : Fin 4} {v : Int64} (hd : decode c.code pc = .ok (.lload_n j, 1)) (hp : pc' = pc + 1) (hl : Ls[j.val]? = some (.val (.long v)))
    (k : Go p.tables e below P T (mkF m pc' Ls (.long v :: S))) : Go p.tables e below P T (mkF m pc Ls (S)) := by
  subst hp; exact Go.st (fun t q => XT.lloadN X.here hx rfl hd  hl q) k
theorem istore (X : Stand p l e R s m args below meth c T locs cells slots) (hx : p.tables.exec = Jvm.exec) {j : Nat} {v : Int32} {Ls' : Array Slot} (hd : decode c.code pc = .ok (.istore j, 2)) (hp : pc' = pc + 2) (hl : storeLocals Ls j (.int v) = some Ls')
    (k : Go p.tables e below P T (mkF m pc' Ls' (S))) : Go p.tables e below P T (mkF m pc Ls (.int v :: S)) := by
  subst hp; exact Go.st (fun t q => XS.istore X.here hx rfl hd rfl hl q) k
theorem lstore (X : Stand p l e R s m args below meth c T locs cells slots) (hx : p.tables.exec = Jvm.exec) {j : Nat} {v : Int64} {Ls' : Array Slot} (hd : decode c.code pc = .ok (.lstore j, 2)) (hp : pc' = pc + 2) (hl : storeLocals Ls j (.long v) = some Ls')
    (k : Go p.tables e below P T (mkF m pc' Ls' (S))) : Go p.tables e below P T (mkF m pc Ls (.long v :: S)) := by
  subst hp; exact Go.st (fun t q => XT.lstore X.here hx rfl hd rfl hl q) k
theorem iconst (X : Stand p l e R s m args below meth c T locs cells slots) (hx : p.tables.exec = Jvm.exec) {i : Int} {v : Int32} (hd : decode c.code pc = .ok (.iconst i, 1)) (hp : pc' = pc + 1) (hv : Int32.ofInt i = v)
    (k : Go p.tables e below P T (mkF m pc' Ls (.int v :: S))) : Go p.tables e below P T (mkF m pc Ls (S)) := by
  subst hp hv; exact Go.st (fun t q => XS.iconst X.here hx rfl hd q) k
theorem lconst (X : Stand p l e R s m args below meth c T locs cells slots) (hx : p.tables.exec = Jvm.exec) {i : Fin 2} {v : Int64} (hd : decode c.code pc = .ok (.lconst i, 1)) (hp : pc' = pc + 1) (hv : Int64.ofNat i = v)
    (k : Go p.tables e below P T (mkF m pc' Ls (.long v :: S))) : Go p.tables e below P T (mkF m pc Ls (S)) := by
  subst hp hv; exact Go.st (fun t q => XT.lconst X.here hx rfl hd q) k
theorem ladd (X : Stand p l e R s m args below meth c T locs cells slots) (hx : p.tables.exec = Jvm.exec) {x y : Int64} (hd : decode c.code pc = .ok (.ladd, 1)) (hp : pc' = pc + 1)
    (k : Go p.tables e below P T (mkF m pc' Ls (.long (x + y) :: S))) : Go p.tables e below P T (mkF m pc Ls (.long y :: .long x :: S)) := by
  subst hp; exact Go.st (fun t q => XT.ladd X.here hx rfl hd rfl  q) k
theorem lsub (X : Stand p l e R s m args below meth c T locs cells slots) (hx : p.tables.exec = Jvm.exec) {x y : Int64} (hd : decode c.code pc = .ok (.lsub, 1)) (hp : pc' = pc + 1)
    (k : Go p.tables e below P T (mkF m pc' Ls (.long (x - y) :: S))) : Go p.tables e below P T (mkF m pc Ls (.long y :: .long x :: S)) := by
  subst hp; exact Go.st (fun t q => XT.lsub X.here hx rfl hd rfl  q) k
theorem lmul (X : Stand p l e R s m args below meth c T locs cells slots) (hx : p.tables.exec = Jvm.exec) {x y : Int64} (hd : decode c.code pc = .ok (.lmul, 1)) (hp : pc' = pc + 1)
    (k : Go p.tables e below P T (mkF m pc' Ls (.long (x * y) :: S))) : Go p.tables e below P T (mkF m pc Ls (.long y :: .long x :: S)) := by
  subst hp; exact Go.st (fun t q => XT.lmul X.here hx rfl hd rfl  q) k
theorem i2l (X : Stand p l e R s m args below meth c T locs cells slots) (hx : p.tables.exec = Jvm.exec) {x : Int32} (hd : decode c.code pc = .ok (.i2l, 1)) (hp : pc' = pc + 1)
    (k : Go p.tables e below P T (mkF m pc' Ls (.long (x.toInt64) :: S))) : Go p.tables e below P T (mkF m pc Ls (.int x :: S)) := by
  subst hp; exact Go.st (fun t q => XT.i2l X.here hx rfl hd rfl  q) k
theorem goto_ (X : Stand p l e R s m args below meth c T locs cells slots) (hx : p.tables.exec = Jvm.exec) {o : Int} (hd : decode c.code pc = .ok (.goto o, 3)) (ho : 0 ≤ (pc : Int) + o) (hp : ((pc : Int) + o).toNat = pc')
    (k : Go p.tables e below P T (mkF m pc' Ls (S))) : Go p.tables e below P T (mkF m pc Ls (S)) :=
  Go.st (fun t q => XS.goto X.here hx rfl rfl hd ho hp q) k
theorem h_eq (x y : Int32) : if_icmp.holds .eq x y = decide (x.toInt = y.toInt) := by rw [Bool.eq_iff_iff]; simp [if_icmp.holds, Int32.toInt_inj]
theorem z_any (cd : ClassFile.Cond) (x : Int32) : ifCond.holds cd x = if_icmp.holds cd x 0 := by cases cd <;> simp [ifCond.holds, if_icmp.holds]
theorem z0 : (0 : Int32).toInt = 0 := by decide
theorem if_eq (X : Stand p l e R s m args below meth c T locs cells slots) (hx : p.tables.exec = Jvm.exec) {o : Int} {x : Int32} {pcT : Nat} (hd : decode c.code pc = .ok (.ifCond .eq o, 3)) (ho : 0 ≤ (pc : Int) + o) (hT : ((pc : Int) + o).toNat = pcT) (hp : pc' = pc + 3)
    (kt : x.toInt = 0 → Go p.tables e below P T (mkF m pcT Ls (S))) (kf : ¬ x.toInt = 0 → Go p.tables e below P T (mkF m pc' Ls (S))) : Go p.tables e below P T (mkF m pc Ls (.int x :: S)) := by
  subst hp
  by_cases q : x.toInt = 0
  · exact Go.st (fun t r => XS.ifYes X.here hx rfl rfl hd rfl (by rw [z_any, h_eq, z0]; exact decide_eq_true q) ho hT r) (kt q)
  · exact Go.st (fun t r => XS.ifNo X.here hx rfl hd rfl (by rw [z_any, h_eq, z0]; exact decide_eq_false q) r) (kf (by omega))
theorem lcmp_ne (X : Stand p l e R s m args below meth c T locs cells slots) (hx : p.tables.exec = Jvm.exec) {o : Int} {x y : Int64} {pc1 pcT : Nat} (hd0 : decode c.code pc = .ok (.lcmp, 1)) (hp1 : pc1 = pc + 1) (hd : decode c.code pc1 = .ok (.ifCond .ne o, 3)) (ho : 0 ≤ (pc1 : Int) + o) (hT : ((pc1 : Int) + o).toNat = pcT) (hp : pc' = pc1 + 3)
    (kt : ¬ x.toInt = y.toInt → Go p.tables e below P T (mkF m pcT Ls (S))) (kf : x.toInt = y.toInt → Go p.tables e below P T (mkF m pc' Ls (S))) : Go p.tables e below P T (mkF m pc Ls (.long y :: .long x :: S)) := by
  subst hp
  subst hp1
  refine Go.st (fun t r => XT.lcmp X.here hx rfl hd0 rfl r) ?_
  by_cases q : ¬ x.toInt = y.toInt
  · exact Go.st (fun t r => XS.ifYes X.here hx rfl rfl hd rfl (XT.ll_ne_t (fun z => q (Int64.toInt_inj.mpr z))) ho hT r) (kt q)
  · exact Go.st (fun t r => XS.ifNo X.here hx rfl hd rfl (XT.ll_ne_f (Int64.toInt_inj.mp (Classical.not_not.mp q))) r) (kf (by omega))
theorem ldc2J (X : Stand p l e R s m args below meth c T locs cells slots) (hx : p.tables.exec = Jvm.exec) (hZ : Z.Warmed39 s.vm) {own : String} (hown : s.vm.findClass own = some m.cls) {i : Nat} {v : Int64} (w : (Cond.constantLong own i v).before a0 Z = true) (hd : decode c.code pc = .ok (.ldc2_w i, 3)) (hp : pc' = pc + 3)
    (k : Go p.tables e below P T (mkF m pc' Ls (.long v :: S))) : Go p.tables e below P T (mkF m pc Ls (S)) := by
  subst hp; exact Go.st (X.ldc2Long hx hown (mv hZ w) (g := mkF m pc Ls S) rfl hd) k
theorem getS_ (X : Stand p l e R s m args below meth c T locs cells slots) (hx : p.tables.exec = Jvm.exec) (hZ : Z.Warmed39 s.vm) {own : String} (hown : s.vm.findClass own = some m.cls) {R0 O n d host : String} {i : Nat} (w : (Cond.fieldLink own i R0 n d).before a0 Z = true ∨ (Cond.fieldLinkNest own i R0 n d host).before a0 Z = true) (via : Via Z R0 O n d) (eT : T.heap = h) {v : Value} (F : Sta Z h O n d v) (hd : decode c.code pc = .ok (.getstatic i, 3)) (hp : pc' = pc + 3)
    (k : ∀ T', Stand p l e R s m args below meth c T' locs cells slots → T'.heap = h → Go p.tables e below P T' (mkF m pc' Ls (v :: S))) : Go p.tables e below P T (mkF m pc Ls (S)) := by
  subst hp
  obtain ⟨T', X', e', st⟩ := getS2 X hx hZ hown w via eT F (g := mkF m pc Ls S) rfl hd
  exact Go.st st (k T' X' e')
theorem callS_ (X : Stand p l e R s m args below meth c T locs cells slots) (hx : p.tables.exec = Jvm.exec) (hZ : Z.Warmed39 s.vm) {own : String} (hown : s.vm.findClass own = some m.cls) {y : MethodName} {i : Nat} {bytes : ByteArray} {maxL : Nat} {ret : Option FieldType} {rm : Room} {Q : Option Value → Heap → List Loc → Prop} {argsL S0 : List Value} (w1 : (Cond.methodLink own i y).before a0 Z = true) (w2 : (Cond.static y).before a0 Z = true) (w3 : (Cond.initialized y.cls).before a0 Z = true) (w4 : (Cond.code y bytes maxL ret).before a0 Z = true) (hy : y.cls ≠ "java/lang/invoke/MethodHandle" ∧ y.cls ≠ "java/lang/invoke/VarHandle") (hM : MetFree l y (head1 [Cond.code y bytes maxL ret] rm) (fun ar U => ar = argsL.toArray ∧ Z.Warmed39 U.vm ∧ U.heap = h) (fun _ _ _ _ _ => True) (fun _ U o U' => ∃ v L, o = .returned v ∧ Q v U'.heap L ∧ FrameEnd U o U' L rm.cells rm.slots)) (hf : rm.frames + 1 ≤ R.frames) {W : Nat} (hl : W + (maxL + 11) + rm.locals ≤ R.locals) (eT : T.heap = h) (hsize : Ls.size = c.maxLocals) {ps : List FieldType} {rt : Option FieldType} (hdesc : parseMethodDescriptor y.desc = some ⟨ps, rt⟩) (hlen : argsL.length = ps.length) (hS : S0 = argsL.reverse ++ S) (hW : (S.map fun v => v.category).sum ≤ W) (hd : decode c.code pc = .ok (.invokestatic i, 3)) (hp : pc' = pc + 3) (hc : cells + rm.cells ≤ R.cells) (hs : slots + rm.slots ≤ R.slots)
    (k : ∀ T' v L, Stand p l e R s m args below meth c T' (locs ++ L) (cells + rm.cells) (slots + rm.slots) → Q v T'.heap L → Go p.tables e below P T' (mkF m pc' Ls (v.toList ++ S))) : Go p.tables e below P T (mkF m pc Ls (S0)) := by
  subst hp hS
  obtain ⟨v, vm₁, ⟨T', L', k', n'⟩, -, X', ⟨L, hQ, l', y', z'⟩, st⟩ := Jvm.LawKit.callS X hx hown (mvT hZ w1) (mvT hZ w2) (mvT hZ w3) (mvT hZ w4) hy (backOf (W := W) hM hZ w4 w3 hf hl) (g := mkF m pc Ls (argsL.reverse ++ S)) rfl hsize (argsL := argsL) (rest := S) (lenOf hdesc hlen) rfl (by show 2 * 0 + _ ≤ _; simpa using hW) hd (fun _ _ => ⟨rfl, eT, hc, hs⟩)
  dsimp only [Pt.U, Pt.locs, Pt.cells, Pt.slots] at X' l' y' z' st hQ
  subst l' y' z'
  exact Go.st st (k T' v L X' hQ)
theorem met {y : MethodName} {bytes : ByteArray} {maxL : Nat} {ret : Option FieldType} {rm : Room} {as' : Array Value} {Q : Option Value → Heap → List Loc → Prop} {ws : List Jvm.Cond} {C N : Nat} (hpl : plainFor y = true) (ef : ∀ m, entryFrame m as' maxL = mkF m 0 Ls [])
    (body : ∀ (p : Program) (e : Env) (s : State) (m : MethodId) (below : List Frame) (meth : Method) (c : Code) (T : State), Stand p l e rm s m as' below meth c T [] 0 0 → p.tables.exec = Jvm.exec → Z.Warmed39 s.vm → c.code = bytes → c.maxLocals = maxL → s.vm.findClass y.cls = some m.cls → meth.name = y.name → meth.sig.returnType = ret → meth.locks = false → T.heap = h →
      Go p.tables e below (PQ s Q C N) T (mkF m 0 Ls [])) :
    MetFree l y (head1 (Cond.code y bytes maxL ret :: ws) rm) (fun a U => a = as' ∧ Z.Warmed39 U.vm ∧ U.heap = h) (fun _ _ _ _ _ => True) (fun _ U o U' => ∃ v L, o = .returned v ∧ Q v U'.heap L ∧ FrameEnd U o U' L C N) := by
  refine MetFree.of_bodySF hpl hisR ?_
  intro p e s m args below meth c s₁ Bd hml0 hP hK
  obtain ⟨rfl, hZ, hh⟩ := hP
  have e0 : s₁.heap = h := by rw [← hh, Bd.state]; rfl
  obtain ⟨s₂, o, h1, h2⟩ := body p e s m below meth c s₁ (Stand.of_body Bd) Bd.exec hZ Bd.bytes hml0 (findClass_of_methodNamed Bd.named) (name_of_methodNamed Bd.named Bd.method).1 Bd.returns Bd.notSynchronized e0
  exact ⟨s₂, o, castTop (ef m) h1, h2⟩
theorem ret_ (X : Stand p l e R s m args below meth c T locs cells slots) (hx : p.tables.exec = Jvm.exec) {Q : Option Value → Heap → List Loc → Prop} {C N : Nat} {w : Value} {t : FieldType} {i : Instr} (hret : meth.sig.returnType = some t) (hlk : meth.locks = false) (hn : narrow t w = w)
    (hi : (i = .ireturn ∧ (t = .int ∨ t = .boolean ∨ t = .byte ∨ t = .char ∨ t = .short) ∧ ∃ z, w = .int z) ∨ (i = .lreturn ∧ t = .long ∧ ∃ z, w = .long z) ∨ (i = .dreturn ∧ t = .double ∧ ∃ z, w = .double z) ∨ (i = .freturn ∧ t = .float ∧ ∃ z, w = .float z) ∨ (i = .areturn ∧ t.isReference = true ∧ w.isRef = true))
    (hd : decode c.code pc = .ok (i, 1)) (hC : cells ≤ C) (hN : slots ≤ N) (q : Q (some w) T.heap locs) : Go p.tables e below (PQ s Q C N) T (mkF m pc Ls (w :: S)) := by
  obtain ⟨fs, hr, hrun, hended, hW, hsame⟩ := X.leave (v := some w) (fun h => by rw [hret] at h; cases h) hlk
  exact ⟨_, _, retOut X hx hret hn hi hd hr, hrun, hended, _, _, rfl, q, ⟨_, rfl⟩, hW, hsame.mono hC hN⟩
theorem retL_ (X : Stand p l e R s m args below meth c T locs cells slots) (hx : p.tables.exec = Jvm.exec) {Q : Option Value → Heap → List Loc → Prop} {C N : Nat} {z : Int64} (hret : meth.sig.returnType = some .long) (hlk : meth.locks = false) (hd : decode c.code pc = .ok (.lreturn, 1)) (hC : cells ≤ C) (hN : slots ≤ N) (q : Q (some (.long z)) T.heap locs) : Go p.tables e below (PQ s Q C N) T (mkF m pc Ls (.long z :: S)) :=
  ret_ X hx hret hlk rfl (Or.inr (Or.inl ⟨rfl, rfl, z, rfl⟩)) hd hC hN q
theorem retN_ (X : Stand p l e R s m args below meth c T locs cells slots) (hx : p.tables.exec = Jvm.exec) {Q : Option Value → Heap → List Loc → Prop} {C N : Nat} {z : Int32} {t : FieldType} (hret : meth.sig.returnType = some t) (ht : t = .boolean ∨ t = .byte ∨ t = .char ∨ t = .short) (hlk : meth.locks = false) (hd : decode c.code pc = .ok (.ireturn, 1)) (hC : cells ≤ C) (hN : slots ≤ N) (q : Q (some (.int (nar t z))) T.heap locs) : Go p.tables e below (PQ s Q C N) T (mkF m pc Ls (.int z :: S)) := by
  obtain ⟨fs, hr, hrun, hended, hW, hsame⟩ := X.leave (v := some (.int (nar t z))) (fun h => by rw [hret] at h; cases h) hlk
  exact ⟨_, _, retN X hx hret ht hd hr, hrun, hended, _, _, rfl, q, ⟨_, rfl⟩, hW, hsame.mono hC hN⟩
end Steps
end Jvm.OwnK
namespace Jvm.Pilot.@@N@@
open Jvm Jvm.ClassFile Sem Op Lib Jvm.Free Jvm.Stand Jvm.LawKit Jvm.RoadKit Bundle Jvm.Pilot.@@N@@.Jvm.D
theorem own_ef_1 (p1 : Int64)  (m : MethodId) : entryFrame m #[(.long p1)] 2 = mkF m 0 #[.val (.long p1), .second] [] := by first | (simp [entryFrame, mkF, argsToLocals, Value.category]; done) | rfl
theorem own_d1_0 : decode prog_75_method_11_code 0 = .ok (.getstatic 135, 3) := by decide +kernel
theorem own_d1_3 : decode prog_75_method_11_code 3 = .ok (.i2l, 1) := by decide +kernel
theorem own_d1_4 : decode prog_75_method_11_code 4 = .ok (.lload_n 0, 1) := by decide +kernel
theorem own_d1_5 : decode prog_75_method_11_code 5 = .ok (.lconst 1, 1) := by decide +kernel
theorem own_d1_6 : decode prog_75_method_11_code 6 = .ok (.lsub, 1) := by decide +kernel
theorem own_d1_7 : decode prog_75_method_11_code 7 = .ok (.ldc2_w 139, 3) := by decide +kernel
theorem own_d1_10 : decode prog_75_method_11_code 10 = .ok (.lmul, 1) := by decide +kernel
theorem own_d1_11 : decode prog_75_method_11_code 11 = .ok (.ladd, 1) := by decide +kernel
theorem own_d1_12 : decode prog_75_method_11_code 12 = .ok (.lreturn, 1) := by decide +kernel
theorem own_pl_1 : plainFor (⟨"com/example/ledgerwire/ledgerwire/store/OffsetTable", "entryAt", "(J)J"⟩ : MethodName) = true := plainFor_of_name (by first | (simp [plainName, overriddenIn]; done) | decide +kernel)
theorem own_ef_0 (q0 : Int64) (q1 : Int64)  (m : MethodId) : entryFrame m #[(.long q0), (.long q1)] maxLocals = mkF m 0 #[.val (.long q0), .second, .val (.long q1), .second, .unset, .unset, .unset, .unset, .unset, .unset, .unset, .unset, .unset, .unset, .unset, .unset] [] := by first | (simp [entryFrame, mkF, argsToLocals, Value.category, maxLocals]; done) | rfl
theorem own_pd_0 : parseMethodDescriptor "(J)J" = some ⟨[.long], some .long⟩ := by decide +kernel
theorem own_pl_0 : plainFor x = true := plainFor_of_name (by first | (simp [plainName, overriddenIn]; done) | decide +kernel)
theorem own_12 : (12 : Int32).toInt64 = (12 : Int64) := by decide
theorem own_lin (a b : Int64) (h : a.toBitVec = b.toBitVec) : a = b := Int64.toBitVec_inj.mp h
theorem own_eqv {s : State} {args : Array Value} {a b : Term} {x : Value} {n : Int32} (h : (Jvm.Cond.eq a b).value args s none s [] = some true) (ex : a.eval args s none [] s = some x) (ey : b.eval args s none [] s = some (.int n)) : x = .int n := by
  cases x <;> simp [Cond.value, ex, ey] at h ⊢
  exact h

def own_Q1 (h0 : Heap) (p1 : Int64) (v : Option Value) (h : Heap) (L : List Loc) : Prop := v = some (.long ((12 : Int32).toInt64 + (p1 - (1 : Int64)) * (8 : Int64))) ∧ h = h0 ∧ L = []
set_option maxRecDepth 65536 in
set_option maxHeartbeats 40000000 in
theorem own_m1 (l : Launch) (Z : State) (a0 : Array Value) (hw : ∀ d ∈ tables_1, d.before a0 Z = true) (h0 : Heap) (p1 : Int64)  (Sh : Sta Z h0 "com/example/ledgerwire/ledgerwire/store/OffsetTable" "HEADER_LENGTH" "I" (.int (12 : Int32))) :
    MetFree l (⟨"com/example/ledgerwire/ledgerwire/store/OffsetTable", "entryAt", "(J)J"⟩ : MethodName) (head1 [Jvm.Cond.code (⟨"com/example/ledgerwire/ledgerwire/store/OffsetTable", "entryAt", "(J)J"⟩ : MethodName) prog_75_method_11_code 2 (some .long)] ({ frames := 0, cells := 0, slots := 0, locals := 0 } : Room)) (fun a U => a = #[(.long p1)] ∧ Z.Warmed39 U.vm ∧ U.heap = h0) (fun _ _ _ _ _ => True) (fun _ U o U' => ∃ v L, o = .returned v ∧ (own_Q1 h0 p1 ) v U'.heap L ∧ FrameEnd U o U' L ({ frames := 0, cells := 0, slots := 0, locals := 0 } : Room).cells ({ frames := 0, cells := 0, slots := 0, locals := 0 } : Room).slots) := by
  refine OwnK.met (Q := (own_Q1 h0 p1 )) (C := ({ frames := 0, cells := 0, slots := 0, locals := 0 } : Room).cells) (N := ({ frames := 0, cells := 0, slots := 0, locals := 0 } : Room).slots) own_pl_1 (own_ef_1 p1) ?_
  intro p e s m below meth c T0 X0 hx hZ hby hml hown hnm hret hlk e0
  refine OwnK.getS_ X0 hx hZ hown (host := "") (Or.inl (hw _ (List.mem_of_getElem? (i := 4) rfl))) Via.refl e0 Sh (hb hby own_d1_0) (pc' := 3) rfl (fun T1 X1 e1 => ?_)
  refine OwnK.i2l X1 hx (hb hby own_d1_3) (pc' := 4) rfl ?_
  refine OwnK.lloadN X1 hx (hb hby own_d1_4) (pc' := 5) rfl (v := p1) rfl ?_
  refine OwnK.lconst X1 hx (hb hby own_d1_5) (pc' := 6) rfl (v := (1 : Int64)) (by decide) ?_
  refine OwnK.lsub X1 hx (hb hby own_d1_6) (pc' := 7) rfl ?_
  refine OwnK.ldc2J X1 hx hZ hown (hw _ (List.mem_of_getElem? (i := 6) rfl)) (hb hby own_d1_7) (pc' := 10) rfl ?_
  refine OwnK.lmul X1 hx (hb hby own_d1_10) (pc' := 11) rfl ?_
  refine OwnK.ladd X1 hx (hb hby own_d1_11) (pc' := 12) rfl ?_
  refine OwnK.retL_ X1 hx hret hlk (hb hby own_d1_12) (by decide) (by decide) ?_
  exact ⟨by rfl, e1, rfl⟩
set_option maxRecDepth 65536 in
set_option maxHeartbeats 40000000 in
theorem own_law (l : Launch) (Z : State) (a0 : Array Value) (hw : ∀ d ∈ tables_1, d.before a0 Z = true) (ws : List Jvm.Cond) (h0 : Heap) (n0 : Nat) (Z0 : n0 ≤ h0.size) (q0 : Int64) (q1 : Int64)  (Sh : Sta Z h0 "com/example/ledgerwire/ledgerwire/store/OffsetTable" "HEADER_LENGTH" "I" (.int (12 : Int32))) :
    MetFree l x (head1 (Jvm.Cond.code x code maxLocals ret :: ws) room_1) (fun a U => a = #[(.long q0), (.long q1)] ∧ Z.Warmed39 U.vm ∧ U.heap = h0) (fun _ _ _ _ _ => True) (fun _ U o U' => ∃ v L, o = .returned v ∧ (fun (v : Option Value) (_ : Heap) (L : List Loc) => v = some (.int (1 : Int32)) ∧ Fr n0 L) v U'.heap L ∧ FrameEnd U o U' L 0 0) := by
  refine OwnK.met (Q := (fun (v : Option Value) (_ : Heap) (L : List Loc) => v = some (.int (1 : Int32)) ∧ Fr n0 L)) (C := 0) (N := 0) own_pl_0 (own_ef_0 q0 q1) ?_
  intro p e s m below meth c T0 X0 hx hZ hby hml hown hnm hret hlk e0
  have N0 := Fr.nil n0
  refine OwnK.lconst X0 hx (hb hby at_0) (pc' := 1) rfl (v := (1 : Int64)) (by decide) ?_
  refine OwnK.callS_ X0 hx hZ hown (y := (⟨"com/example/ledgerwire/ledgerwire/store/OffsetTable", "entryAt", "(J)J"⟩ : MethodName)) (hw _ (List.mem_of_getElem? (i := 0) rfl)) (hw _ (List.mem_of_getElem? (i := 1) rfl)) (hw _ (List.mem_of_getElem? (i := 2) rfl)) (hw _ (List.mem_of_getElem? (i := 3) rfl)) (by decide) (own_m1 l Z a0 hw h0 (1 : Int64) Sh ) (by decide) (W := 0) (by decide) e0 (by rw [hml]; rfl) own_pd_0 (argsL := [(.long (1 : Int64))]) rfl (S := []) rfl (by decide) (hb hby at_1) (pc' := 4) rfl (by decide) (by decide) (fun T1 v1 L1 X1 hQ1 => ?_)
  obtain ⟨rfl, e1, rfl⟩ := hQ1
  have N2 := Fr.app N0 (Fr.nil n0)
  refine OwnK.lstore X1 hx (hb hby at_4) (pc' := 6) rfl (Ls' := #[.val (.long q0), .second, .val (.long q1), .second, .val (.long ((12 : Int32).toInt64 + ((1 : Int64) - (1 : Int64)) * (8 : Int64))), .second, .unset, .unset, .unset, .unset, .unset, .unset, .unset, .unset, .unset, .unset]) rfl ?_
  refine OwnK.lloadN X1 hx (hb hby at_6) (pc' := 7) rfl (v := q0) rfl ?_
  refine OwnK.callS_ X1 hx hZ hown (y := (⟨"com/example/ledgerwire/ledgerwire/store/OffsetTable", "entryAt", "(J)J"⟩ : MethodName)) (hw _ (List.mem_of_getElem? (i := 0) rfl)) (hw _ (List.mem_of_getElem? (i := 1) rfl)) (hw _ (List.mem_of_getElem? (i := 2) rfl)) (hw _ (List.mem_of_getElem? (i := 3) rfl)) (by decide) (own_m1 l Z a0 hw h0 q0 Sh ) (by decide) (W := 0) (by decide) e1 (by rw [hml]; rfl) own_pd_0 (argsL := [(.long q0)]) rfl (S := []) rfl (by decide) (hb hby at_7) (pc' := 10) rfl (by decide) (by decide) (fun T3 v3 L3 X3 hQ3 => ?_)
  obtain ⟨rfl, e3, rfl⟩ := hQ3
  have N4 := Fr.app N2 (Fr.nil n0)
  refine OwnK.lstore X3 hx (hb hby at_10) (pc' := 12) rfl (Ls' := #[.val (.long q0), .second, .val (.long q1), .second, .val (.long ((12 : Int32).toInt64 + ((1 : Int64) - (1 : Int64)) * (8 : Int64))), .second, .val (.long ((12 : Int32).toInt64 + (q0 - (1 : Int64)) * (8 : Int64))), .second, .unset, .unset, .unset, .unset, .unset, .unset, .unset, .unset]) rfl ?_
  refine OwnK.lloadN X3 hx (hb hby at_12) (pc' := 13) rfl (v := q0) rfl ?_
  refine OwnK.lconst X3 hx (hb hby at_13) (pc' := 14) rfl (v := (1 : Int64)) (by decide) ?_
  refine OwnK.ladd X3 hx (hb hby at_14) (pc' := 15) rfl ?_
  refine OwnK.callS_ X3 hx hZ hown (y := (⟨"com/example/ledgerwire/ledgerwire/store/OffsetTable", "entryAt", "(J)J"⟩ : MethodName)) (hw _ (List.mem_of_getElem? (i := 0) rfl)) (hw _ (List.mem_of_getElem? (i := 1) rfl)) (hw _ (List.mem_of_getElem? (i := 2) rfl)) (hw _ (List.mem_of_getElem? (i := 3) rfl)) (by decide) (own_m1 l Z a0 hw h0 (q0 + (1 : Int64)) Sh ) (by decide) (W := 0) (by decide) e3 (by rw [hml]; rfl) own_pd_0 (argsL := [(.long (q0 + (1 : Int64)))]) rfl (S := []) rfl (by decide) (hb hby at_15) (pc' := 18) rfl (by decide) (by decide) (fun T5 v5 L5 X5 hQ5 => ?_)
  obtain ⟨rfl, e5, rfl⟩ := hQ5
  have N6 := Fr.app N4 (Fr.nil n0)
  refine OwnK.lstore X5 hx (hb hby at_18) (pc' := 20) rfl (Ls' := #[.val (.long q0), .second, .val (.long q1), .second, .val (.long ((12 : Int32).toInt64 + ((1 : Int64) - (1 : Int64)) * (8 : Int64))), .second, .val (.long ((12 : Int32).toInt64 + (q0 - (1 : Int64)) * (8 : Int64))), .second, .val (.long ((12 : Int32).toInt64 + ((q0 + (1 : Int64)) - (1 : Int64)) * (8 : Int64))), .second, .unset, .unset, .unset, .unset, .unset, .unset]) rfl ?_
  refine OwnK.lloadN X5 hx (hb hby at_20) (pc' := 21) rfl (v := q0) rfl ?_
  refine OwnK.lloadN X5 hx (hb hby at_21) (pc' := 22) rfl (v := q1) rfl ?_
  refine OwnK.ladd X5 hx (hb hby at_22) (pc' := 23) rfl ?_
  refine OwnK.callS_ X5 hx hZ hown (y := (⟨"com/example/ledgerwire/ledgerwire/store/OffsetTable", "entryAt", "(J)J"⟩ : MethodName)) (hw _ (List.mem_of_getElem? (i := 0) rfl)) (hw _ (List.mem_of_getElem? (i := 1) rfl)) (hw _ (List.mem_of_getElem? (i := 2) rfl)) (hw _ (List.mem_of_getElem? (i := 3) rfl)) (by decide) (own_m1 l Z a0 hw h0 (q0 + q1) Sh ) (by decide) (W := 0) (by decide) e5 (by rw [hml]; rfl) own_pd_0 (argsL := [(.long (q0 + q1))]) rfl (S := []) rfl (by decide) (hb hby at_23) (pc' := 26) rfl (by decide) (by decide) (fun T7 v7 L7 X7 hQ7 => ?_)
  obtain ⟨rfl, e7, rfl⟩ := hQ7
  have N8 := Fr.app N6 (Fr.nil n0)
  refine OwnK.lstore X7 hx (hb hby at_26) (pc' := 28) rfl (Ls' := #[.val (.long q0), .second, .val (.long q1), .second, .val (.long ((12 : Int32).toInt64 + ((1 : Int64) - (1 : Int64)) * (8 : Int64))), .second, .val (.long ((12 : Int32).toInt64 + (q0 - (1 : Int64)) * (8 : Int64))), .second, .val (.long ((12 : Int32).toInt64 + ((q0 + (1 : Int64)) - (1 : Int64)) * (8 : Int64))), .second, .val (.long ((12 : Int32).toInt64 + ((q0 + q1) - (1 : Int64)) * (8 : Int64))), .second, .unset, .unset, .unset, .unset]) rfl ?_
  refine OwnK.lload X7 hx (hb hby at_28) (pc' := 30) rfl (v := ((12 : Int32).toInt64 + ((1 : Int64) - (1 : Int64)) * (8 : Int64))) rfl ?_
  refine OwnK.ldc2J X7 hx hZ hown (hw _ (List.mem_of_getElem? (i := 7) rfl)) (hb hby at_30) (pc' := 33) rfl ?_
  refine OwnK.lcmp_ne X7 hx (hb hby at_33) (pc1 := 34) rfl (hb hby at_34) (by decide) (pcT := 41) (by decide) (pc' := 37) rfl (fun (hc33 : ¬ ((12 : Int32).toInt64 + ((1 : Int64) - (1 : Int64)) * (8 : Int64)).toInt = 12) => absurd (congrArg Int64.toInt (by rw [own_12]; exact own_lin _ _ (by simp only [Int64.toBitVec_add, Int64.toBitVec_sub, Int64.toBitVec_mul, Int64.toBitVec_ofNat]; bv_omega) : ((12 : Int32).toInt64 + ((1 : Int64) - (1 : Int64)) * (8 : Int64)) = (12 : Int64))) hc33) (fun hc33 => ?_)
  refine OwnK.iconst X7 hx (hb hby at_37) (pc' := 38) rfl (v := (1 : Int32)) (by decide) ?_
  refine OwnK.goto_ X7 hx (hb hby at_38) (by decide) (pc' := 42) (by decide) ?_
  refine OwnK.istore X7 hx (hb hby at_42) (pc' := 44) rfl (Ls' := #[.val (.long q0), .second, .val (.long q1), .second, .val (.long ((12 : Int32).toInt64 + ((1 : Int64) - (1 : Int64)) * (8 : Int64))), .second, .val (.long ((12 : Int32).toInt64 + (q0 - (1 : Int64)) * (8 : Int64))), .second, .val (.long ((12 : Int32).toInt64 + ((q0 + (1 : Int64)) - (1 : Int64)) * (8 : Int64))), .second, .val (.long ((12 : Int32).toInt64 + ((q0 + q1) - (1 : Int64)) * (8 : Int64))), .second, .val (.int (1 : Int32)), .unset, .unset, .unset]) rfl ?_
  refine OwnK.lload X7 hx (hb hby at_44) (pc' := 46) rfl (v := ((12 : Int32).toInt64 + ((q0 + (1 : Int64)) - (1 : Int64)) * (8 : Int64))) rfl ?_
  refine OwnK.lload X7 hx (hb hby at_46) (pc' := 48) rfl (v := ((12 : Int32).toInt64 + (q0 - (1 : Int64)) * (8 : Int64))) rfl ?_
  refine OwnK.lsub X7 hx (hb hby at_48) (pc' := 49) rfl ?_
  refine OwnK.ldc2J X7 hx hZ hown (hw _ (List.mem_of_getElem? (i := 8) rfl)) (hb hby at_49) (pc' := 52) rfl ?_
  refine OwnK.lcmp_ne X7 hx (hb hby at_52) (pc1 := 53) rfl (hb hby at_53) (by decide) (pcT := 60) (by decide) (pc' := 56) rfl (fun (hc52 : ¬ (((12 : Int32).toInt64 + ((q0 + (1 : Int64)) - (1 : Int64)) * (8 : Int64)) - ((12 : Int32).toInt64 + (q0 - (1 : Int64)) * (8 : Int64))).toInt = 8) => absurd (congrArg Int64.toInt (by rw [own_12]; exact own_lin _ _ (by simp only [Int64.toBitVec_add, Int64.toBitVec_sub, Int64.toBitVec_mul, Int64.toBitVec_ofNat]; bv_omega) : (((12 : Int32).toInt64 + ((q0 + (1 : Int64)) - (1 : Int64)) * (8 : Int64)) - ((12 : Int32).toInt64 + (q0 - (1 : Int64)) * (8 : Int64))) = (8 : Int64))) hc52) (fun hc52 => ?_)
  refine OwnK.iconst X7 hx (hb hby at_56) (pc' := 57) rfl (v := (1 : Int32)) (by decide) ?_
  refine OwnK.goto_ X7 hx (hb hby at_57) (by decide) (pc' := 61) (by decide) ?_
  refine OwnK.istore X7 hx (hb hby at_61) (pc' := 63) rfl (Ls' := #[.val (.long q0), .second, .val (.long q1), .second, .val (.long ((12 : Int32).toInt64 + ((1 : Int64) - (1 : Int64)) * (8 : Int64))), .second, .val (.long ((12 : Int32).toInt64 + (q0 - (1 : Int64)) * (8 : Int64))), .second, .val (.long ((12 : Int32).toInt64 + ((q0 + (1 : Int64)) - (1 : Int64)) * (8 : Int64))), .second, .val (.long ((12 : Int32).toInt64 + ((q0 + q1) - (1 : Int64)) * (8 : Int64))), .second, .val (.int (1 : Int32)), .val (.int (1 : Int32)), .unset, .unset]) rfl ?_
  refine OwnK.lload X7 hx (hb hby at_63) (pc' := 65) rfl (v := ((12 : Int32).toInt64 + ((q0 + q1) - (1 : Int64)) * (8 : Int64))) rfl ?_
  refine OwnK.lload X7 hx (hb hby at_65) (pc' := 67) rfl (v := ((12 : Int32).toInt64 + (q0 - (1 : Int64)) * (8 : Int64))) rfl ?_
  refine OwnK.lsub X7 hx (hb hby at_67) (pc' := 68) rfl ?_
  refine OwnK.lloadN X7 hx (hb hby at_68) (pc' := 69) rfl (v := q1) rfl ?_
  refine OwnK.ldc2J X7 hx hZ hown (hw _ (List.mem_of_getElem? (i := 8) rfl)) (hb hby at_69) (pc' := 72) rfl ?_
  refine OwnK.lmul X7 hx (hb hby at_72) (pc' := 73) rfl ?_
  refine OwnK.lcmp_ne X7 hx (hb hby at_73) (pc1 := 74) rfl (hb hby at_74) (by decide) (pcT := 81) (by decide) (pc' := 77) rfl (fun (hc73 : ¬ (((12 : Int32).toInt64 + ((q0 + q1) - (1 : Int64)) * (8 : Int64)) - ((12 : Int32).toInt64 + (q0 - (1 : Int64)) * (8 : Int64))).toInt = (q1 * (8 : Int64)).toInt) => absurd (congrArg Int64.toInt (by rw [own_12]; exact own_lin _ _ (by simp only [Int64.toBitVec_add, Int64.toBitVec_sub, Int64.toBitVec_mul, Int64.toBitVec_ofNat]; bv_omega) : (((12 : Int32).toInt64 + ((q0 + q1) - (1 : Int64)) * (8 : Int64)) - ((12 : Int32).toInt64 + (q0 - (1 : Int64)) * (8 : Int64))) = (q1 * (8 : Int64)))) hc73) (fun hc73 => ?_)
  refine OwnK.iconst X7 hx (hb hby at_77) (pc' := 78) rfl (v := (1 : Int32)) (by decide) ?_
  refine OwnK.goto_ X7 hx (hb hby at_78) (by decide) (pc' := 82) (by decide) ?_
  refine OwnK.istore X7 hx (hb hby at_82) (pc' := 84) rfl (Ls' := #[.val (.long q0), .second, .val (.long q1), .second, .val (.long ((12 : Int32).toInt64 + ((1 : Int64) - (1 : Int64)) * (8 : Int64))), .second, .val (.long ((12 : Int32).toInt64 + (q0 - (1 : Int64)) * (8 : Int64))), .second, .val (.long ((12 : Int32).toInt64 + ((q0 + (1 : Int64)) - (1 : Int64)) * (8 : Int64))), .second, .val (.long ((12 : Int32).toInt64 + ((q0 + q1) - (1 : Int64)) * (8 : Int64))), .second, .val (.int (1 : Int32)), .val (.int (1 : Int32)), .val (.int (1 : Int32)), .unset]) rfl ?_
  refine OwnK.lload X7 hx (hb hby at_84) (pc' := 86) rfl (v := ((12 : Int32).toInt64 + (q0 - (1 : Int64)) * (8 : Int64))) rfl ?_
  refine OwnK.lloadN X7 hx (hb hby at_86) (pc' := 87) rfl (v := q0) rfl ?_
  refine OwnK.ldc2J X7 hx hZ hown (hw _ (List.mem_of_getElem? (i := 8) rfl)) (hb hby at_87) (pc' := 90) rfl ?_
  refine OwnK.lmul X7 hx (hb hby at_90) (pc' := 91) rfl ?_
  refine OwnK.ldc2J X7 hx hZ hown (hw _ (List.mem_of_getElem? (i := 9) rfl)) (hb hby at_91) (pc' := 94) rfl ?_
  refine OwnK.ladd X7 hx (hb hby at_94) (pc' := 95) rfl ?_
  refine OwnK.lcmp_ne X7 hx (hb hby at_95) (pc1 := 96) rfl (hb hby at_96) (by decide) (pcT := 103) (by decide) (pc' := 99) rfl (fun (hc95 : ¬ ((12 : Int32).toInt64 + (q0 - (1 : Int64)) * (8 : Int64)).toInt = ((q0 * (8 : Int64)) + (4 : Int64)).toInt) => absurd (congrArg Int64.toInt (by rw [own_12]; exact own_lin _ _ (by simp only [Int64.toBitVec_add, Int64.toBitVec_sub, Int64.toBitVec_mul, Int64.toBitVec_ofNat]; bv_omega) : ((12 : Int32).toInt64 + (q0 - (1 : Int64)) * (8 : Int64)) = ((q0 * (8 : Int64)) + (4 : Int64)))) hc95) (fun hc95 => ?_)
  refine OwnK.iconst X7 hx (hb hby at_99) (pc' := 100) rfl (v := (1 : Int32)) (by decide) ?_
  refine OwnK.goto_ X7 hx (hb hby at_100) (by decide) (pc' := 104) (by decide) ?_
  refine OwnK.istore X7 hx (hb hby at_104) (pc' := 106) rfl (Ls' := #[.val (.long q0), .second, .val (.long q1), .second, .val (.long ((12 : Int32).toInt64 + ((1 : Int64) - (1 : Int64)) * (8 : Int64))), .second, .val (.long ((12 : Int32).toInt64 + (q0 - (1 : Int64)) * (8 : Int64))), .second, .val (.long ((12 : Int32).toInt64 + ((q0 + (1 : Int64)) - (1 : Int64)) * (8 : Int64))), .second, .val (.long ((12 : Int32).toInt64 + ((q0 + q1) - (1 : Int64)) * (8 : Int64))), .second, .val (.int (1 : Int32)), .val (.int (1 : Int32)), .val (.int (1 : Int32)), .val (.int (1 : Int32))]) rfl ?_
  refine OwnK.iload X7 hx (hb hby at_106) (pc' := 108) rfl (v := (1 : Int32)) rfl ?_
  refine OwnK.if_eq X7 hx (hb hby at_108) (by decide) (pcT := 130) (by decide) (pc' := 111) rfl (fun (hc108 : 1 = 0) => absurd hc108 (by decide)) (fun hc108 => ?_)
  refine OwnK.iload X7 hx (hb hby at_111) (pc' := 113) rfl (v := (1 : Int32)) rfl ?_
  refine OwnK.if_eq X7 hx (hb hby at_113) (by decide) (pcT := 130) (by decide) (pc' := 116) rfl (fun (hc113 : 1 = 0) => absurd hc113 (by decide)) (fun hc113 => ?_)
  refine OwnK.iload X7 hx (hb hby at_116) (pc' := 118) rfl (v := (1 : Int32)) rfl ?_
  refine OwnK.if_eq X7 hx (hb hby at_118) (by decide) (pcT := 130) (by decide) (pc' := 121) rfl (fun (hc118 : 1 = 0) => absurd hc118 (by decide)) (fun hc118 => ?_)
  refine OwnK.iload X7 hx (hb hby at_121) (pc' := 123) rfl (v := (1 : Int32)) rfl ?_
  refine OwnK.if_eq X7 hx (hb hby at_123) (by decide) (pcT := 130) (by decide) (pc' := 126) rfl (fun (hc123 : 1 = 0) => absurd hc123 (by decide)) (fun hc123 => ?_)
  refine OwnK.iconst X7 hx (hb hby at_126) (pc' := 127) rfl (v := (1 : Int32)) (by decide) ?_
  refine OwnK.goto_ X7 hx (hb hby at_127) (by decide) (pc' := 131) (by decide) ?_
  refine OwnK.retN_ X7 hx hret (by simp) hlk (hb hby at_131) (by decide) (by decide) ?_
  exact ⟨rfl, N8⟩
set_option maxRecDepth 65536 in
set_option maxHeartbeats 40000000 in
theorem comes_1 {Post : Tables → Env → Array Value → State → Outcome → State → Prop} (hpost : ∀ tb e args s v u, (limb_1_1.after args s (.returned v) u = true ∧ limb_1_2.after args s (.returned v) u = true ∧ True) → FrameEnd s (.returned v) u (Jvm.fieldLocs frame_1_writes args s ++ Jvm.arrayLocs frame_1_arrays args s ++ Jvm.staticLocs frame_1_statics s) 0 0 → Post tb e args s (.returned v) u) :
    ArmFor flags0 classFile x code maxLocals ret World_1 tables_1 room_1 Calls_1 rest_1 Pre_1 Post := by
  intro l hfl _ _ p e ha hc hk s m args below hf hA hF happ hP
  obtain ⟨hcalls, hrest, hpre⟩ := hP
  obtain ⟨-, -, -, hnamed, -, -, -, hat⟩ := (Spec.applies_iff hf).mp happ
  obtain ⟨hg, hn⟩ := and_e (Cond.before_iff.mp (show (Jvm.Cond.and given_1 narrow_1).before args s = true from hpre))
  obtain ⟨hcnt, hg0⟩ := and_e hg
  obtain ⟨ha0, hg1⟩ := and_e hg0
  have ha1 := hg1
  obtain ⟨w0, w1, rfl⟩ : ∃ w0 w1 : Value, args = #[w0, w1] := by
    have hs : args.size = 2 := by simpa [Cond.value, given_1] using hcnt
    obtain ⟨L⟩ := args
    match L, hs with
    | [w0, w1], _ => exact ⟨w0, w1, rfl⟩
  have hw := fun d (hd : d ∈ tables_1) => atoms_spec (ws := Jvm.Cond.code x code maxLocals ret :: tables_1) hat d (List.mem_cons_of_mem _ hd)
  have hfit : Fit s := fun {y c} hc i hi => by
    obtain ⟨ha, rfl⟩ := Array.getElem?_eq_some_iff.mp hc
    have q := List.all_eq_true.mp ((Array.all_eq_true_iff_forall_mem.mp hF) _ (Array.getElem_mem ha)) i (List.mem_range.mpr hi)
    simpa [Array.getElem?_eq_getElem hi] using q
  obtain ⟨i0, e0⟩ := isL_v ha0
  obtain rfl : w0 = (.long i0) := Option.some.inj e0
  obtain ⟨i1, e1⟩ := isL_v ha1
  obtain rfl : w1 = (.long i1) := Option.some.inj e1
  obtain ⟨x0, y0, ex, ey, -⟩ := cmp_v (Or.inl (show (Jvm.Cond.eq (Jvm.Term.static "com/example/ledgerwire/ledgerwire/store/OffsetTable" "HEADER_LENGTH" "I") (Jvm.Term.int 12)).value _ s none s [] = some true from hn))
  have q := own_eqv (show (Jvm.Cond.eq _ (Jvm.Term.int 12)).value _ s none s [] = some true from hn) ex (Term.int_eval 12)
  subst q
  have hv := Sta.start ex (Or.inr ⟨hw _ (List.mem_of_getElem? (i := 2) rfl), hw _ (List.mem_of_getElem? (i := 5) rfl)⟩)
  obtain ⟨n, o, h1, h2, h3, _, L, rfl, ⟨rfl, N⟩, hq⟩ := own_law l s _ hw tables_1 s.heap s.heap.size (Nat.le_refl _) i0 i1 hv p e ha hc hk s m _ below hf ((Spec.applies_iff_loose hf).mp happ).1 ⟨rfl, State.Warmed39.refl s, rfl⟩ trivial
  refine ⟨n, _, h1, h2, h3, hpost _ _ _ _ _ _ ⟨Cond.after_iff.mpr rfl, Cond.after_iff.mpr (eq_i res_at (Term.int_eval (1)) rfl), trivial⟩ ⟨hq.1, hq.2.1, (hq.2.2.sift fun y hy => Or.inr (N y hy)).mono (by decide) (by decide)⟩⟩
theorem main_1_1 : Claimed_1_1 := comes_1 fun _ _ _ _ _ _ h hF => ⟨h.1, hF⟩
theorem main_1_2 : Claimed_1_2 := comes_1 fun _ _ _ _ _ _ h hF => ⟨h.2.1, hF⟩
end Jvm.Pilot.@@N@@
namespace Jvm.Pilot.@@N@@
open Jvm Jvm.ClassFile Sem Op Lib Jvm.Free Jvm.Stand Jvm.Pilot.@@N@@.Jvm.D
/-! MADE BY PROGRAM (witnessworld.py) out of the Statement's table words and the real class files: 11 classes; the members and pool entries that the words name. The judged class is class 1, her method 1. -/
namespace start1
open Jvm.ClassFile
def u (s : String) : CpInfo := .utf8 (stringToUtf16 s)
/-- a pool by its gaps: so many unusable entries, then the entry; so many at the end -/
def gap : Nat → List CpInfo → List CpInfo
  | 0, r => r
  | n + 1, r => .unusable :: gap n r
def poolList (es : List (Nat × CpInfo)) (last : Nat) : List CpInfo := es.foldr (fun e r => gap e.1 (e.2 :: r)) (gap last [])
def pool (es : List (Nat × CpInfo)) (last : Nat) : Array CpInfo := ⟨poolList es last⟩
def fileOf (pool : Array CpInfo) (this : Nat) (attrs : Array Attribute := #[]) (ms : Array MethodInfo := #[]) (fl : Nat := 33) (sup : Nat := 0) (ifs : Array Nat := #[]) (fds : Array FieldInfo := #[]) : ClassFile where
  minorVersion := 0
  majorVersion := 65
  constantPool := pool
  accessFlags := fl
  thisClass := this
  superClass := sup
  interfaces := ifs
  fields := fds
  methods := ms
  attributes := attrs
def plain (name : String) (sup : Option ClassId) : Class where
  name := name
  kind := .ordinary
  loader := none
  accessFlags := 33
  super := sup
  interfaces := #[]
  cf := none
  fields := #[]
  methods := #[]
  instanceTypes := #[]
  staticTypes := #[]
  resolved := #[]
  callSites := []
  init := .initialized
  statics := none
  mirror := none

def pool0 : Array CpInfo := pool [(5, u "<init>"), (0, u "()V"), (1, .class_ 10), (1, u "java/lang/Object")] 113

def k0m0 : Method := { name := "<init>", desc := "()V", sig := { parameters := [], returnType := none }, accessFlags := 1, code := none }
/-- java/lang/Object -/
def k0 : Class := { plain "java/lang/Object" none with
  accessFlags := 33
  interfaces := #[]
  cf := some (fileOf pool0 8 #[] #[{ accessFlags := 1, nameIndex := 5, descriptorIndex := 6, attributes := #[] }] 33 0 #[] #[])
  fields := #[]
  methods := #[k0m0]
  instanceTypes := #[]
  staticTypes := #[]
  resolved := Array.replicate 124 none
  statics := none }

def pool1 : Array CpInfo := pool [(2, .class_ 4), (1, u "java/lang/Object"), (0, u "<init>"), (0, u "()V"), (0, .methodref 8 9), (0, .class_ 10), (0, .nameAndType 11 12), (0, u "com/example/ledgerwire/ledgerwire/store/OffsetTable"), (0, u "entryAt"), (0, u "(J)J"), (0, .long 12), (1, .long 8), (1, .long 4), (1, .class_ 20), (0, u "com/example/ledgerwire/ledgerwire/store/OffsetTableEntryAtPinLaw"), (2, u "law"), (0, u "(JJ)Z")] 3

def k1m0 : Method := { name := "<init>", desc := "()V", sig := { parameters := [], returnType := none }, accessFlags := 2, code := none }
def k1c1 : Code := { maxStack := 6, maxLocals := 16, code := code, exceptionTable := #[], attributes := #[] }
def k1m1 : Method := { name := "law", desc := "(JJ)Z", sig := { parameters := [.long, .long], returnType := some .boolean }, accessFlags := 9, code := some k1c1 }
/-- com/example/ledgerwire/ledgerwire/store/OffsetTableEntryAtPinLaw -/
def k1 : Class := { plain "com/example/ledgerwire/ledgerwire/store/OffsetTableEntryAtPinLaw" (some 0) with
  accessFlags := 49
  interfaces := #[]
  cf := some (fileOf pool1 19 #[] #[{ accessFlags := 2, nameIndex := 5, descriptorIndex := 6, attributes := #[] }, { accessFlags := 9, nameIndex := 23, descriptorIndex := 24, attributes := #[] }] 49 2 #[] #[])
  fields := #[]
  methods := #[k1m0, k1m1]
  instanceTypes := #[]
  staticTypes := #[]
  resolved := Array.replicate 28 none
  statics := none }

def pool2 : Array CpInfo := pool [(1, .class_ 2), (0, u "java/lang/AutoCloseable"), (0, .class_ 4), (0, u "java/lang/Object")] 7

/-- java/lang/AutoCloseable -/
def k2 : Class := { plain "java/lang/AutoCloseable" (some 0) with
  accessFlags := 1537
  interfaces := #[]
  cf := some (fileOf pool2 1 #[] #[] 1537 3 #[] #[])
  fields := #[]
  methods := #[]
  instanceTypes := #[]
  staticTypes := #[]
  resolved := Array.replicate 12 none
  statics := none }

def pool3 : Array CpInfo := pool [(1, .class_ 2), (0, u "java/io/Closeable"), (0, .class_ 4), (0, u "java/lang/Object"), (0, .class_ 6), (0, u "java/lang/AutoCloseable")] 7

/-- java/io/Closeable -/
def k3 : Class := { plain "java/io/Closeable" (some 0) with
  accessFlags := 1537
  interfaces := #[2]
  cf := some (fileOf pool3 1 #[] #[] 1537 3 #[5] #[])
  fields := #[]
  methods := #[]
  instanceTypes := #[]
  staticTypes := #[]
  resolved := Array.replicate 14 none
  statics := none }

def pool4 : Array CpInfo := pool [(2, .class_ 4), (1, u "java/lang/Object"), (3, .class_ 10), (1, u "com/example/ledgerwire/ledgerwire/store/OffsetTable"), (0, u "first"), (0, u "J"), (2, u "next"), (2, u "channel"), (0, u "Ljava/nio/channels/FileChannel;"), (10, u "pending"), (0, u "Ljava/nio/ByteBuffer;"), (64, u "entryAt"), (0, u "(J)J"), (37, .fieldref 8 136), (0, .nameAndType 137 138), (0, u "HEADER_LENGTH"), (0, u "I"), (0, .long 8), (3, u "MAGIC"), (0, u "[B"), (35, .class_ 181), (0, u "java/io/Closeable"), (0, u "VERSION"), (2, u "BLOCK")] 14

def k4c0 : Code := { maxStack := 6, maxLocals := 2, code := prog_75_method_11_code, exceptionTable := #[], attributes := #[] }
def k4m0 : Method := { name := "entryAt", desc := "(J)J", sig := { parameters := [.long], returnType := some .long }, accessFlags := 8, code := some k4c0 }
/-- com/example/ledgerwire/ledgerwire/store/OffsetTable -/
def k4 : Class := { plain "com/example/ledgerwire/ledgerwire/store/OffsetTable" (some 0) with
  accessFlags := 48
  interfaces := #[3]
  cf := some (fileOf pool4 8 #[] #[{ accessFlags := 8, nameIndex := 96, descriptorIndex := 97, attributes := #[] }] 48 2 #[180] #[{ accessFlags := 26, nameIndex := 143, descriptorIndex := 144, attributes := #[] }, { accessFlags := 26, nameIndex := 182, descriptorIndex := 138, attributes := #[] }, { accessFlags := 26, nameIndex := 137, descriptorIndex := 138, attributes := #[] }, { accessFlags := 26, nameIndex := 185, descriptorIndex := 138, attributes := #[] }, { accessFlags := 2, nameIndex := 18, descriptorIndex := 19, attributes := #[] }, { accessFlags := 18, nameIndex := 30, descriptorIndex := 31, attributes := #[] }, { accessFlags := 2, nameIndex := 11, descriptorIndex := 12, attributes := #[] }, { accessFlags := 2, nameIndex := 15, descriptorIndex := 12, attributes := #[] }])
  fields := #[{ name := "MAGIC", type := (.array .byte), accessFlags := 26, slot := 0, constantValue := 0 }, { name := "VERSION", type := .int, accessFlags := 26, slot := 1, constantValue := 0 }, { name := "HEADER_LENGTH", type := .int, accessFlags := 26, slot := 2, constantValue := 0 }, { name := "BLOCK", type := .int, accessFlags := 26, slot := 3, constantValue := 0 }, { name := "channel", type := (.object "java/nio/channels/FileChannel"), accessFlags := 2, slot := 0, constantValue := 0 }, { name := "pending", type := (.object "java/nio/ByteBuffer"), accessFlags := 18, slot := 1, constantValue := 0 }, { name := "first", type := .long, accessFlags := 2, slot := 2, constantValue := 0 }, { name := "next", type := .long, accessFlags := 2, slot := 3, constantValue := 0 }]
  methods := #[k4m0]
  instanceTypes := #[(.object "java/nio/channels/FileChannel"), (.object "java/nio/ByteBuffer"), .long, .long]
  staticTypes := #[(.array .byte), .int, .int, .int]
  resolved := Array.replicate 200 none
  statics := some 0 }

def pool5 : Array CpInfo := pool [(1, u "java/lang/Cloneable"), (0, .class_ 1), (0, u "java/lang/Object"), (0, .class_ 3)] 3

/-- java/lang/Cloneable -/
def k5 : Class := { plain "java/lang/Cloneable" (some 0) with
  accessFlags := 1537
  interfaces := #[]
  cf := some (fileOf pool5 2 #[] #[] 1537 4 #[] #[])
  fields := #[]
  methods := #[]
  instanceTypes := #[]
  staticTypes := #[]
  resolved := Array.replicate 8 none
  statics := none }

def pool6 : Array CpInfo := pool [(1, u "java/io/Serializable"), (0, .class_ 1), (0, u "java/lang/Object"), (0, .class_ 3)] 3

/-- java/io/Serializable -/
def k6 : Class := { plain "java/io/Serializable" (some 0) with
  accessFlags := 1537
  interfaces := #[]
  cf := some (fileOf pool6 2 #[] #[] 1537 4 #[] #[])
  fields := #[]
  methods := #[]
  instanceTypes := #[]
  staticTypes := #[]
  resolved := Array.replicate 8 none
  statics := none }

/-- the primitive byte -/
def k7 : Class := { plain "byte" none with kind := .primitive 'B', accessFlags := 0x411 }
/-- [B -/
def k8 : Class := { plain "[B" (some 0) with kind := .array 7 .byte, interfaces := #[5, 6], accessFlags := 1041 }

/-- the primitive int -/
def k9 : Class := { plain "int" none with kind := .primitive 'I', accessFlags := 0x411 }
/-- [I -/
def k10 : Class := { plain "[I" (some 0) with kind := .array 9 .int, interfaces := #[5, 6], accessFlags := 1041 }

def heap : Heap := #[{ cls := 4, slots := #[.null, .int 0, .int 12, .int 0], vm := .statics 4 }]
def classes : Array Class := #[k0, k1, k2, k3, k4, k5, k6, k7, k8, k9, k10]
def interned : List (Array UInt16 × Addr) := []
def slotsUsed : Nat := 4
def theMethod : MethodId := ⟨1, 1⟩
def args0 : Array Value := #[.long 5, .long 7]
def aboutOver (below : List Frame) : State where
  vm := { classes := classes, interned := interned.toArray }
  heap := heap
  slotsUsed := slotsUsed
  threads := #[{ frames := .invoking theMethod args0 :: below }]
def below0 : List Frame := [.native { method := ⟨0, 0⟩, args := #[] }]
def about1 : State := aboutOver below0
def p0 : Program := .bare "" "" ""
def e0 : Env := launch0.env 0 0 0
theorem w_frames : about1.frames = Frame.invoking theMethod args0 :: below0 := rfl
set_option maxRecDepth 65536 in
theorem w_args : argsFit about1.vm theMethod args0 = true := by decide +kernel
set_option maxRecDepth 65536 in
theorem w_heap : heapFits about1 = true := by decide +kernel
set_option maxRecDepth 65536 in
theorem w_runnable : about1.curStatus? = some .runnable := by decide +kernel
set_option maxRecDepth 65536 in
theorem w_alone : about1.alone = true := by decide +kernel
set_option maxRecDepth 65536 in
theorem w_named : about1.methodNamed? x = some theMethod := by decide +kernel
set_option maxRecDepth 65536 in
theorem w_hears : about1.hears theMethod below0 = true := by decide +kernel
set_option maxRecDepth 65536 in
theorem w_ripe : about1.ripe theMethod args0 below0 = true := by decide +kernel
theorem w_running : about1.status = .running := rfl
set_option maxRecDepth 65536 in
theorem w_room : about1.hasRoom e0.platform room_1 = true :=
  launch0.hasRoom_least _ room_1 (by decide +kernel) (by decide +kernel) (by decide +kernel) (by decide +kernel) (by decide +kernel) (by decide +kernel)
theorem allAtoms_all (ts : List Jvm.Cond) (a : Array Jvm.Value) (st : Jvm.State) : (allAtoms ts).before a st = ts.all (fun c => c.before a st) := by
  induction ts with
  | nil => rfl
  | cons c t ih =>
    show (Jvm.Cond.and c (allAtoms t)).before a st = _
    rw [Jvm.Cond.before_and, ih, List.all_cons]
def words1 : List Jvm.Cond := Jvm.Cond.code x code maxLocals ret :: tables_1
/-- a 'code' word, met by the world's own term for the bytes: nothing is compared byte by byte -/
theorem code_word {y : MethodName} {bytes : ByteArray} {mx : Nat} {rt : Option FieldType} {a : Array Value} {s : State} {m : MethodId} {meth : Method} {c : Code} (h1 : s.methodNamed? y = some m) (h2 : s.vm.method? m = some meth) (h3 : meth.code = some c) (h4 : c.code = bytes)
    (h5 : (c.maxLocals == mx && c.exceptionTable.isEmpty && decide (c.maxStack ≤ mostOperands) && decide (meth.sig.returnType = rt) && !meth.locks && decide (parseMethodDescriptor y.desc = some meth.sig)) = true) : (Jvm.Cond.code y bytes mx rt).before a s = true := by
  simp only [Bool.and_eq_true, beq_iff_eq, Bool.not_eq_true', decide_eq_true_eq] at h5
  obtain ⟨⟨⟨⟨⟨g1, g2⟩, g3⟩, g4⟩, g5⟩, g6⟩ := h5
  simp [Cond.before, Cond.holds, Cond.value, h1, h2, h3, h4, g1, g2, g3, g4, g5, g6]
def isCode : Jvm.Cond → Bool
  | .code _ _ _ _ => true
  | _ => false
theorem all_split {L : List Jvm.Cond} {P : Jvm.Cond → Bool} (h1 : L.all (fun c => isCode c || P c) = true) (h2 : ∀ c ∈ L.filter isCode, P c = true) : L.all P = true := by
  refine List.all_eq_true.mpr fun c hc => ?_
  have h := List.all_eq_true.mp h1 c hc
  rcases Bool.eq_false_or_eq_true (isCode c) with hi | hi
  · exact h2 c (List.mem_filter.mpr ⟨hc, hi⟩)
  · simpa [hi] using h
set_option maxRecDepth 65536 in
theorem w_c0 : (Jvm.Cond.code x code maxLocals ret).before args0 about1 = true := code_word (m := ⟨1, 1⟩) (meth := k1m1) (c := k1c1) (by decide +kernel) rfl rfl rfl (by decide +kernel)
set_option maxRecDepth 65536 in
theorem w_c1 : (Jvm.Cond.code ({ cls := "com/example/ledgerwire/ledgerwire/store/OffsetTable", name := "entryAt", desc := "(J)J" } : Jvm.MethodName) prog_75_method_11_code (2 : Nat) (Option.some Jvm.ClassFile.FieldType.long)).before args0 about1 = true := code_word (m := ⟨4, 0⟩) (meth := k4m0) (c := k4c0) (by decide +kernel) rfl rfl rfl (by decide +kernel)
def codes1 : List Jvm.Cond := [Jvm.Cond.code x code maxLocals ret, Jvm.Cond.code ({ cls := "com/example/ledgerwire/ledgerwire/store/OffsetTable", name := "entryAt", desc := "(J)J" } : Jvm.MethodName) prog_75_method_11_code (2 : Nat) (Option.some Jvm.ClassFile.FieldType.long)]
set_option maxRecDepth 65536 in
theorem codes_eq : words1.filter isCode = codes1 := rfl
theorem w_codes : ∀ c ∈ words1.filter isCode, c.before args0 about1 = true := by
  rw [codes_eq]
  intro c hc
  simp only [codes1, List.mem_cons, List.not_mem_nil, or_false] at hc
  rcases hc with rfl | rfl
  · exact w_c0
  · exact w_c1
set_option maxRecDepth 65536 in
theorem w_t1 : words1.all (fun c => isCode c || c.before args0 about1) = true := by decide +kernel
theorem w_tables : (allAtoms (Jvm.Cond.code x code maxLocals ret :: tables_1)).before args0 about1 = true := by
  rw [allAtoms_all]
  show words1.all (fun c => c.before args0 about1) = true
  refine all_split ?_ w_codes
  rw [w_t1]
set_option maxRecDepth 65536 in
theorem w_case : (Jvm.Cond.and given_1 narrow_1).before args0 about1 = true := by decide +kernel
theorem w_applies : (headSpec (Jvm.Cond.code x code maxLocals ret :: tables_1) room_1).applies x e0.platform about1 = true :=
  (Spec.applies_iff w_frames).mpr ⟨w_running, w_runnable, w_alone, w_named, w_hears, w_ripe, w_room, w_tables⟩
theorem atStart : AtStart classFile x code maxLocals ret World_1 tables_1 room_1 Calls_1 rest_1 Pre_1 launch0 p0 e0 about1 theMethod args0 below0 :=
  ⟨lists_1, trivial, launch0.admits_env _ _ _, launch0.least_env, fairChoices_fair.cas, fairChoices_fair.clock, w_frames, w_args, w_heap, w_applies, trivial, trivial, w_case⟩
end start1
theorem witness_1 : WitnessClaimed_1 := ⟨start1.p0, start1.e0, start1.about1, start1.theMethod, start1.args0, start1.below0, start1.atStart⟩
end Jvm.Pilot.@@N@@
