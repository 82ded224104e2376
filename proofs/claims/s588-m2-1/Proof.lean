import JvmDerived
import JvmDerived.Pilot.@@N@@Statement
import JvmDerived.Pilot.@@N@@Code
set_option linter.unusedVariables false
set_option linter.unusedSimpArgs false
namespace Jvm.RoadKit
open Sem ClassFile Op Lib Jvm.Stand Jvm.Free Jvm.LawKit
section New
variable {p : Program} {l : Launch} {e : Env} {R : Room} {s : State} {m : MethodId} {args : Array Value} {below : List Frame} {meth : Method} {c : Code} {T : State} {locs : List Loc} {cells slots : Nat}
theorem retI (X : Stand p l e R s m args below meth c T locs cells slots) (hx : p.tables.exec = Jvm.exec) {pc : Nat} {Ls : Array Slot} {z : Int32} {rest : List Value} (hret : meth.sig.returnType = some .int) (hd : decode c.code pc = .ok (.ireturn, 1)) {fs : List Frame}
    (hl : ∀ (f : JFrame) (acts : List Action), f.method = m → f.locked = none → f.entered = [] → (doReturn e (T.setTop f) acts (some (.int z))).1 = T.setFrames fs) : Steps p.tables e below (T.setTop (mkF m pc Ls (.int z :: rest))) (T.setFrames fs) := by
  have hm' : T.vm.method? m = some meth := X.method'
  have hn : narrow .int (.int z) = .int z := rfl
  show Steps p.tables e below (T.setTop { method := m, pc := pc, locals := Ls, stack := _ :: rest, locked := none }) _
  jvm_step X.here [X.here.top, hx, hd, hm', hret, hn]
  first | (intro acts; rw [hl _ acts rfl rfl rfl]) | rw [hl _ _ rfl rfl rfl]
  exact Steps.refl _
end New
end Jvm.RoadKit
namespace Jvm.Pilot.@@N@@
open Jvm Jvm.ClassFile Sem Op Lib Jvm.Free Jvm.Stand Jvm.LawKit Jvm.RoadKit Bundle Jvm.Pilot.@@N@@.Jvm.D
section OwnKit
variable {p : Program} {l : Launch} {e : Env} {R : Room} {s : State} {m : MethodId} {args : Array Value} {below : List Frame} {meth : Method} {c : Code} {T : State} {locs : List Loc} {cells slots : Nat} {Z : State} {a0 : Array Value} {h : Heap} {P : Outcome → State → Prop} {pc pc' pc1 pc2 : Nat} {L L' : Array Slot} {S : List Value}
/-- the run from U comes to an end that P holds of -/
def OG (p : Program) (e : Env) (below : List Frame) (P : Outcome → State → Prop) (U : State) : Prop := ∃ s₂ o, Steps p.tables e below U s₂ ∧ s₂.status = .running ∧ Ended s₂ below o ∧ P o s₂
theorem OG.of {U U' : State} (k : ∀ t, Steps p.tables e below U' t → Steps p.tables e below U t) (h : OG p e below P U') : OG p e below P U := by
  obtain ⟨t, o, h1, h2⟩ := h; exact ⟨t, o, k t h1, h2⟩
theorem OG.cast {g g' : JFrame} (q : g = g') (k : OG p e below P (T.setTop g')) : OG p e below P (T.setTop g) := q ▸ k
theorem og_iand (X : Stand p l e R s m args below meth c T locs cells slots) (hx : p.tables.exec = Jvm.exec) {x y : Int32} (hd : decode c.code pc = .ok (.iand, 1)) (hp : pc + 1 = pc') (k : OG p e below P (T.setTop (mkF m pc' L (.int (x &&& y) :: S)))) : OG p e below P (T.setTop (mkF m pc L (.int y :: .int x :: S))) := by
  subst hp; exact OG.of (fun t k => XS.iand X.here hx rfl hd rfl k) k
theorem og_irem (X : Stand p l e R s m args below meth c T locs cells slots) (hx : p.tables.exec = Jvm.exec) {x y : Int32} (hy : y ≠ 0) (hd : decode c.code pc = .ok (.irem, 1)) (hp : pc + 1 = pc') (k : OG p e below P (T.setTop (mkF m pc' L (.int (x % y) :: S)))) : OG p e below P (T.setTop (mkF m pc L (.int y :: .int x :: S))) := by
  subst hp; exact OG.of (fun t k => iremM X hx rfl hd rfl hy k) k
theorem og_i2b (X : Stand p l e R s m args below meth c T locs cells slots) (hx : p.tables.exec = Jvm.exec) {x : Int32} (hd : decode c.code pc = .ok (.i2b, 1)) (hp : pc + 1 = pc') (k : OG p e below P (T.setTop (mkF m pc' L (.int (x.toInt8.toInt32) :: S)))) : OG p e below P (T.setTop (mkF m pc L (.int x :: S))) := by
  subst hp; exact OG.of (fun t k => XS.i2b X.here hx rfl hd rfl k) k
theorem og_i2c (X : Stand p l e R s m args below meth c T locs cells slots) (hx : p.tables.exec = Jvm.exec) {x : Int32} (hd : decode c.code pc = .ok (.i2c, 1)) (hp : pc + 1 = pc') (k : OG p e below P (T.setTop (mkF m pc' L (.int (x.toUInt32.toUInt16.toUInt32.toInt32) :: S)))) : OG p e below P (T.setTop (mkF m pc L (.int x :: S))) := by
  subst hp; exact OG.of (fun t k => XS.i2c X.here hx rfl hd rfl k) k
theorem og_iconst (X : Stand p l e R s m args below meth c T locs cells slots) (hx : p.tables.exec = Jvm.exec) {i : Int} {v : Int32} (hv : Int32.ofInt i = v) (hd : decode c.code pc = .ok (.iconst i, 1)) (hp : pc + 1 = pc') (k : OG p e below P (T.setTop (mkF m pc' L (.int v :: S)))) : OG p e below P (T.setTop (mkF m pc L S)) := by
  subst hp; exact OG.of (fun t k => XS.iconst X.here hx rfl hd (hv ▸ k)) k
theorem og_bipush (X : Stand p l e R s m args below meth c T locs cells slots) (hx : p.tables.exec = Jvm.exec) {i : Int} {v : Int32} (hv : (Int8.ofInt i).toInt32 = v) (hd : decode c.code pc = .ok (.bipush i, 2)) (hp : pc + 2 = pc') (k : OG p e below P (T.setTop (mkF m pc' L (.int v :: S)))) : OG p e below P (T.setTop (mkF m pc L S)) := by
  subst hp; exact OG.of (fun t k => XS.bipush X.here hx rfl hd (hv ▸ k)) k
theorem og_sipush (X : Stand p l e R s m args below meth c T locs cells slots) (hx : p.tables.exec = Jvm.exec) {i : Int} {v : Int32} (hv : (Int16.ofInt i).toInt32 = v) (hd : decode c.code pc = .ok (.sipush i, 3)) (hp : pc + 3 = pc') (k : OG p e below P (T.setTop (mkF m pc' L (.int v :: S)))) : OG p e below P (T.setTop (mkF m pc L S)) := by
  subst hp; exact OG.of (fun t k => XS.sipush X.here hx rfl hd (hv ▸ k)) k
theorem og_iloadN (X : Stand p l e R s m args below meth c T locs cells slots) (hx : p.tables.exec = Jvm.exec) {j : Fin 4} {v : Int32} (hl : L[j.val]? = some (.val (.int v))) (hd : decode c.code pc = .ok (.iload_n j, 1)) (hp : pc + 1 = pc') (k : OG p e below P (T.setTop (mkF m pc' L (.int v :: S)))) : OG p e below P (T.setTop (mkF m pc L S)) := by
  subst hp; exact OG.of (fun t k => XS.iloadN X.here hx rfl hd hl k) k
theorem og_istoreN (X : Stand p l e R s m args below meth c T locs cells slots) (hx : p.tables.exec = Jvm.exec) {j : Fin 4} {v : Int32} (hl : storeLocals L j.val (.int v) = some L') (hd : decode c.code pc = .ok (.istore_n j, 1)) (hp : pc + 1 = pc') (k : OG p e below P (T.setTop (mkF m pc' L' S))) : OG p e below P (T.setTop (mkF m pc L (.int v :: S))) := by
  subst hp; exact OG.of (fun t k => XS.istoreN X.here hx rfl hd rfl hl k) k
theorem og_aload (X : Stand p l e R s m args below meth c T locs cells slots) (hx : p.tables.exec = Jvm.exec) {j : Nat} {v : Value} (hl : L[j]? = some (.val v)) (hv : v.isRef = true) (hd : decode c.code pc = .ok (.aload j, 2)) (hp : pc + 2 = pc') (k : OG p e below P (T.setTop (mkF m pc' L (v :: S)))) : OG p e below P (T.setTop (mkF m pc L S)) := by
  subst hp; exact OG.of (fun t k => XS.aload X.here hx rfl hd hl hv k) k
theorem og_aloadN (X : Stand p l e R s m args below meth c T locs cells slots) (hx : p.tables.exec = Jvm.exec) {j : Fin 4} {v : Value} (hl : L[j.val]? = some (.val v)) (hv : v.isRef = true) (hd : decode c.code pc = .ok (.aload_n j, 1)) (hp : pc + 1 = pc') (k : OG p e below P (T.setTop (mkF m pc' L (v :: S)))) : OG p e below P (T.setTop (mkF m pc L S)) := by
  subst hp; exact OG.of (fun t k => XS.aloadN X.here hx rfl hd hl hv k) k
theorem og_astore (X : Stand p l e R s m args below meth c T locs cells slots) (hx : p.tables.exec = Jvm.exec) {j : Nat} {v : Value} (hv : v.isRef = true) (hl : storeLocals L j v = some L') (hd : decode c.code pc = .ok (.astore j, 2)) (hp : pc + 2 = pc') (k : OG p e below P (T.setTop (mkF m pc' L' S))) : OG p e below P (T.setTop (mkF m pc L (v :: S))) := by
  subst hp; exact OG.of (fun t k => XS.astore X.here hx rfl hd rfl hv hl k) k
theorem og_astoreN (X : Stand p l e R s m args below meth c T locs cells slots) (hx : p.tables.exec = Jvm.exec) {j : Fin 4} {v : Value} (hv : v.isRef = true) (hl : storeLocals L j.val v = some L') (hd : decode c.code pc = .ok (.astore_n j, 1)) (hp : pc + 1 = pc') (k : OG p e below P (T.setTop (mkF m pc' L' S))) : OG p e below P (T.setTop (mkF m pc L (v :: S))) := by
  subst hp; exact OG.of (fun t k => XS.astoreN X.here hx rfl hd rfl hv hl k) k
theorem og_iinc (X : Stand p l e R s m args below meth c T locs cells slots) (hx : p.tables.exec = Jvm.exec) {j : Nat} {i : Int} {v w : Int32} (h1 : L[j]? = some (.val (.int v))) (hv : Int32.ofInt i = w) (hl : storeLocals L j (.int (v + w)) = some L') (hd : decode c.code pc = .ok (.iinc j i, 3)) (hp : pc + 3 = pc') (k : OG p e below P (T.setTop (mkF m pc' L' S))) : OG p e below P (T.setTop (mkF m pc L S)) := by
  subst hp; exact OG.of (fun t k => XS.iinc X.here hx rfl hd h1 (hv.symm ▸ hl) k) k
theorem og_dup (X : Stand p l e R s m args below meth c T locs cells slots) (hx : p.tables.exec = Jvm.exec) {v : Value} (hv : v.category = 1) (hd : decode c.code pc = .ok (.dup, 1)) (hp : pc + 1 = pc') (k : OG p e below P (T.setTop (mkF m pc' L (v :: v :: S)))) : OG p e below P (T.setTop (mkF m pc L (v :: S))) := by
  subst hp; exact OG.of (fun t k => XS.dup X.here hx rfl hd rfl hv k) k
theorem og_goto (X : Stand p l e R s m args below meth c T locs cells slots) (hx : p.tables.exec = Jvm.exec) {o : Int} (hd : decode c.code pc = .ok (.goto o, 3)) (ho : 0 ≤ (pc : Int) + o) (hp : ((pc : Int) + o).toNat = pc') (k : OG p e below P (T.setTop (mkF m pc' L S))) : OG p e below P (T.setTop (mkF m pc L S)) :=
  OG.of (fun t k => XS.goto X.here hx rfl rfl hd ho hp k) k
theorem og_icmp_ge (X : Stand p l e R s m args below meth c T locs cells slots) (hx : p.tables.exec = Jvm.exec) {x y : Int32} {o : Int} (hd : decode c.code pc = .ok (.if_icmp .ge o, 3)) (ho : 0 ≤ (pc : Int) + o) (hp1 : ((pc : Int) + o).toNat = pc1) (hp2 : pc + 3 = pc2) (k1 : ¬ x < y → OG p e below P (T.setTop (mkF m pc1 L S))) (k2 : x < y → OG p e below P (T.setTop (mkF m pc2 L S))) : OG p e below P (T.setTop (mkF m pc L (.int y :: .int x :: S))) := by
  subst hp2; by_cases q : x < y
  · exact OG.of (fun t k => XS.icmpNo X.here hx rfl hd rfl ((tlt q).2.1) k) (k2 q)
  · exact OG.of (fun t k => XS.icmpYes X.here hx rfl rfl hd rfl ((flt q).2.1) ho hp1 k) (k1 q)
theorem og_icmp_gt (X : Stand p l e R s m args below meth c T locs cells slots) (hx : p.tables.exec = Jvm.exec) {x y : Int32} {o : Int} (hd : decode c.code pc = .ok (.if_icmp .gt o, 3)) (ho : 0 ≤ (pc : Int) + o) (hp1 : ((pc : Int) + o).toNat = pc1) (hp2 : pc + 3 = pc2) (k1 : y < x → OG p e below P (T.setTop (mkF m pc1 L S))) (k2 : ¬ y < x → OG p e below P (T.setTop (mkF m pc2 L S))) : OG p e below P (T.setTop (mkF m pc L (.int y :: .int x :: S))) := by
  subst hp2; by_cases q : y < x
  · exact OG.of (fun t k => XS.icmpYes X.here hx rfl rfl hd rfl ((tlt q).2.2.1) ho hp1 k) (k1 q)
  · exact OG.of (fun t k => XS.icmpNo X.here hx rfl hd rfl ((flt q).2.2.1) k) (k2 q)
theorem og_icmp_eq (X : Stand p l e R s m args below meth c T locs cells slots) (hx : p.tables.exec = Jvm.exec) {x y : Int32} {o : Int} (hd : decode c.code pc = .ok (.if_icmp .eq o, 3)) (ho : 0 ≤ (pc : Int) + o) (hp1 : ((pc : Int) + o).toNat = pc1) (hp2 : pc + 3 = pc2) (k1 : x = y → OG p e below P (T.setTop (mkF m pc1 L S))) (k2 : ¬ x = y → OG p e below P (T.setTop (mkF m pc2 L S))) : OG p e below P (T.setTop (mkF m pc L (.int y :: .int x :: S))) := by
  subst hp2; by_cases q : x = y
  · exact OG.of (fun t k => XS.icmpYes X.here hx rfl rfl hd rfl ((teq q).1) ho hp1 k) (k1 q)
  · exact OG.of (fun t k => XS.icmpNo X.here hx rfl hd rfl ((feq q).1) k) (k2 q)
theorem og_if_eq (X : Stand p l e R s m args below meth c T locs cells slots) (hx : p.tables.exec = Jvm.exec) {x : Int32} {o : Int} (hd : decode c.code pc = .ok (.ifCond .eq o, 3)) (ho : 0 ≤ (pc : Int) + o) (hp1 : ((pc : Int) + o).toNat = pc1) (hp2 : pc + 3 = pc2) (k1 : x = (0 : Int32) → OG p e below P (T.setTop (mkF m pc1 L S))) (k2 : ¬ x = (0 : Int32) → OG p e below P (T.setTop (mkF m pc2 L S))) : OG p e below P (T.setTop (mkF m pc L (.int x :: S))) := by
  subst hp2; by_cases q : x = (0 : Int32)
  · exact OG.of (fun t k => XS.ifYes X.here hx rfl rfl hd rfl ((if0 _ _).trans (teq q).1) ho hp1 k) (k1 q)
  · exact OG.of (fun t k => XS.ifNo X.here hx rfl hd rfl ((if0 _ _).trans (feq q).1) k) (k2 q)
theorem og_icmp_ne (X : Stand p l e R s m args below meth c T locs cells slots) (hx : p.tables.exec = Jvm.exec) {x y : Int32} {o : Int} (hd : decode c.code pc = .ok (.if_icmp .ne o, 3)) (ho : 0 ≤ (pc : Int) + o) (hp1 : ((pc : Int) + o).toNat = pc1) (hp2 : pc + 3 = pc2) (k1 : ¬ x = y → OG p e below P (T.setTop (mkF m pc1 L S))) (k2 : x = y → OG p e below P (T.setTop (mkF m pc2 L S))) : OG p e below P (T.setTop (mkF m pc L (.int y :: .int x :: S))) := by
  subst hp2; by_cases q : x = y
  · exact OG.of (fun t k => XS.icmpNo X.here hx rfl hd rfl ((teq q).2) k) (k2 q)
  · exact OG.of (fun t k => XS.icmpYes X.here hx rfl rfl hd rfl ((feq q).2) ho hp1 k) (k1 q)
theorem og_if_ne (X : Stand p l e R s m args below meth c T locs cells slots) (hx : p.tables.exec = Jvm.exec) {x : Int32} {o : Int} (hd : decode c.code pc = .ok (.ifCond .ne o, 3)) (ho : 0 ≤ (pc : Int) + o) (hp1 : ((pc : Int) + o).toNat = pc1) (hp2 : pc + 3 = pc2) (k1 : ¬ x = (0 : Int32) → OG p e below P (T.setTop (mkF m pc1 L S))) (k2 : x = (0 : Int32) → OG p e below P (T.setTop (mkF m pc2 L S))) : OG p e below P (T.setTop (mkF m pc L (.int x :: S))) := by
  subst hp2; by_cases q : x = (0 : Int32)
  · exact OG.of (fun t k => XS.ifNo X.here hx rfl hd rfl ((if0 _ _).trans (teq q).2) k) (k2 q)
  · exact OG.of (fun t k => XS.ifYes X.here hx rfl rfl hd rfl ((if0 _ _).trans (feq q).2) ho hp1 k) (k1 q)
theorem og_acmp_ne (X : Stand p l e R s m args below meth c T locs cells slots) (hx : p.tables.exec = Jvm.exec) {v w : Value} (hv : v.isRef = true) (hw : w.isRef = true) {o : Int} (hd : decode c.code pc = .ok (.if_acmp .ne o, 3)) (ho : 0 ≤ (pc : Int) + o) (hp1 : ((pc : Int) + o).toNat = pc1) (hp2 : pc + 3 = pc2) (k1 : ¬ v = w → OG p e below P (T.setTop (mkF m pc1 L S))) (k2 : v = w → OG p e below P (T.setTop (mkF m pc2 L S))) : OG p e below P (T.setTop (mkF m pc L (w :: v :: S))) := by
  subst hp2 hp1; by_cases q : v = w
  · exact OG.of (fun t k => Jvm.RoadKit.acmp X hx rfl hv hw (same := true) rfl hd rfl (decide_eq_true q) ho rfl k) (k2 q)
  · exact OG.of (fun t k => Jvm.RoadKit.acmp X hx rfl hv hw (same := false) rfl hd rfl (decide_eq_false q) ho rfl k) (k1 q)
theorem og_ldc (X : Stand p l e R s m args below meth c T locs cells slots) (hx : p.tables.exec = Jvm.exec) (hZ : Z.Warmed39 s.vm) {own : String} {index : Nat} {v : Int32} (hown : s.vm.findClass own = some m.cls) (w : (Cond.constant own index v).before a0 Z = true) (hd : decode c.code pc = .ok (.ldc index, 2)) (hp : pc + 2 = pc') (k : OG p e below P (T.setTop (mkF m pc' L (.int v :: S)))) : OG p e below P (T.setTop (mkF m pc L S)) := by
  subst hp; exact OG.of (X.ldcInt hx hown (mvT hZ w) (g := mkF m pc L S) rfl hd) k
theorem og_getstatic (X : Stand p l e R s m args below meth c T locs cells slots) (hx : p.tables.exec = Jvm.exec) (hZ : Z.Warmed39 s.vm) {own R0 O n d host : String} {index : Nat} (hown : s.vm.findClass own = some m.cls) (w : (Cond.fieldLink own index R0 n d).before a0 Z = true ∨ (Cond.fieldLinkNest own index R0 n d host).before a0 Z = true) (via : Via Z R0 O n d) (eT : T.heap = h) {v : Value} (F : Sta Z h O n d v) (hd : decode c.code pc = .ok (.getstatic index, 3)) (hp : pc + 3 = pc') (k : ∀ T', Stand p l e R s m args below meth c T' locs cells slots → T'.heap = h → OG p e below P (T'.setTop (mkF m pc' L (v :: S)))) : OG p e below P (T.setTop (mkF m pc L S)) := by
  subst hp; obtain ⟨T', X', e', st⟩ := getS2 X hx hZ hown w via eT F (g := mkF m pc L S) rfl hd
  exact OG.of st (k T' X' e')
theorem og_getfield (X : Stand p l e R s m args below meth c T locs cells slots) (hx : p.tables.exec = Jvm.exec) (hZ : Z.Warmed39 s.vm) {own R0 O n d host : String} {index : Nat} (hown : s.vm.findClass own = some m.cls) (w : (Cond.fieldLink own index R0 n d).before a0 Z = true ∨ (Cond.fieldLinkNest own index R0 n d host).before a0 Z = true) (via : Via Z R0 O n d) (eT : T.heap = h) {a : Addr} {v : Value} (F : Fld Z h a O n d v) (hd : decode c.code pc = .ok (.getfield index, 3)) (hp : pc + 3 = pc') (k : ∀ T', Stand p l e R s m args below meth c T' locs cells slots → T'.heap = h → OG p e below P (T'.setTop (mkF m pc' L (v :: S)))) : OG p e below P (T.setTop (mkF m pc L (.ref a :: S))) := by
  subst hp; obtain ⟨T', X', e', st⟩ := getF X hx hZ hown w via eT F (g := mkF m pc L (.ref a :: S)) rfl rfl hd
  exact OG.of st (k T' X' e')
theorem og_putfield (X : Stand p l e R s m args below meth c T locs cells slots) (hx : p.tables.exec = Jvm.exec) (hZ : Z.Warmed39 s.vm) {C : String} {kk : Nat} {ty : FieldType} {own R0 O n d host : String} {index : Nat} (hown : s.vm.findClass own = some m.cls) (w : (Cond.fieldLink own index R0 n d).before a0 Z = true ∨ (Cond.fieldLinkNest own index R0 n d host).before a0 Z = true) (via : Via Z R0 O n d) (eT : T.heap = h) {a : Addr} {v old : Value} (F : Fld Z h a O n d old) (E : Exa Z h a C) (Ly : (Cond.lays C O n d).before a0 Z = true ∨ ((Cond.laysFinal C O n d).before a0 Z = true ∧ own = O ∧ meth.name = "<init>")) (wi : (Cond.instantiable C kk).before a0 Z = true) (hty : parseFieldDescriptor d = some ty) (hn : narrow ty v = v) (hf : fits ty v = true) (hd : decode c.code pc = .ok (.putfield index, 3)) (hp : pc + 3 = pc') (k : ∀ T' h', Stand p l e R s m args below meth c T' (locs ++ [⟨a, Jvm.RoadKit.slotOf Z O n d⟩]) cells slots → T'.heap = h' → Wr h h' a (Jvm.RoadKit.slotOf Z O n d) v → OG p e below P (T'.setTop (mkF m pc' L S))) : OG p e below P (T.setTop (mkF m pc L (v :: .ref a :: S))) := by
  subst hp; obtain ⟨T', h', X', e', W', st⟩ := putF X hx hZ hown w via eT F E Ly wi hty hn hf (g := mkF m pc L (v :: .ref a :: S)) rfl rfl hd
  exact OG.of st (k T' h' X' e' W')
theorem og_new (X : Stand p l e R s m args below meth c T locs cells slots) (hx : p.tables.exec = Jvm.exec) (hZ : Z.Warmed39 s.vm) {own C : String} {index n : Nat} {cells' slots' : Nat} (hown : s.vm.findClass own = some m.cls) (w : (Cond.classLink own index C).before a0 Z = true) (wi : (Cond.instantiable C n).before a0 Z = true) (wz : (Cond.initialized C).before a0 Z = true) (eT : T.heap = h) (hd : decode c.code pc = .ok (.new index, 3)) (hp : pc + 3 = pc') (hc' : cells + 1 = cells') (hs' : slots + n = slots') (hc : cells' ≤ R.cells) (hl : slots' ≤ R.slots) (k : ∀ T' h' a, Stand p l e R s m args below meth c T' locs cells' slots' → T'.heap = h' → Ext h h' → a = h.size → Exa Z h' a C → (∀ {O nm d : String} {ty : FieldType}, Laid Z a0 C O nm d → parseFieldDescriptor d = some ty → Fld Z h' a O nm d (defaultValue ty)) → (∃ cell : Cell, h'[a]? = some cell ∧ cell.vm = .none ∧ cell.monitor = {}) → OG p e below P (T'.setTop (mkF m pc' L (.ref a :: S)))) : OG p e below P (T.setTop (mkF m pc L S)) := by
  subst hp hc' hs'; obtain ⟨T', h', X', e', E', A', D', B', st⟩ := newO X hx hZ hown w wi wz eT (g := mkF m pc L S) rfl hd hc hl
  exact OG.of st (k T' h' _ X' e' E' rfl A' D' B')
theorem og_newarray (X : Stand p l e R s m args below meth c T locs cells slots) (hx : p.tables.exec = Jvm.exec) (hZ : Z.Warmed39 s.vm) {aty : ArrayType} {ty : FieldType} {cells' slots' : Nat} (hty : newarray.typeOf aty = ty) (w : (Cond.arrayClass ty).before a0 Z = true) (eT : T.heap = h) {n : Int32} (hn : ¬ n < 0) {cap : Nat} (hcap : n.toNatClampNeg ≤ cap) (hb : cap * 8 ≤ 536870912) (hd : decode c.code pc = .ok (.newarray aty, 2)) (hp : pc + 2 = pc') (hc' : cells + 1 = cells') (hs' : slots + cap = slots') (hc : cells' ≤ R.cells) (hl : slots' ≤ R.slots) (k : ∀ T' h' a kA, Stand p l e R s m args below meth c T' locs cells' slots' → T'.heap = h' → Ext h h' → a = h.size → Arv Z h' a kA ty n [] (defaultValue ty) → OG p e below P (T'.setTop (mkF m pc' L (.ref a :: S)))) : OG p e below P (T.setTop (mkF m pc L (.int n :: S))) := by
  subst hp hc' hs' hty; obtain ⟨T', h', kA, X', e', E', A', st⟩ := newP X hx hZ w eT (g := mkF m pc L (.int n :: S)) rfl hd rfl hn hcap hb hc hl
  exact OG.of st (k T' h' _ kA X' e' E' rfl (Arv.new A' hn))
theorem og_bastore (X : Stand p l e R s m args below meth c T locs cells slots) (hx : p.tables.exec = Jvm.exec) (hZ : Z.Warmed39 s.vm) (eT : T.heap = h) {a : Addr} {kA : ClassId} {j x z : Int32} {vs : List Value} {dv : Value} (F : Arv Z h a kA .byte z vs dv) (q : ¬ j < 0 ∧ j < z) (i : Nat) (hj : j.toNatClampNeg = i) (hi : i < vs.length) (hd : decode c.code pc = .ok (.bastore, 1)) (hp : pc + 1 = pc') (k : ∀ T' h', Stand p l e R s m args below meth c T' (locs ++ [⟨a, j.toNatClampNeg⟩]) cells slots → T'.heap = h' → Wr h h' a j.toNatClampNeg (.int (nar .byte x)) → Arv Z h' a kA .byte z (vs.set i (.int (nar .byte x))) dv → OG p e below P (T'.setTop (mkF m pc' L S))) : OG p e below P (T.setTop (mkF m pc L (.int x :: .int j :: .ref a :: S))) := by
  subst hp; obtain ⟨cl, A, q1, S1, q3, H, G⟩ := F
  obtain ⟨T', h', X', e', W', st⟩ := stB X hx hZ eT A (j := j) (inb_of S1 q) (g := mkF m pc L (.int x :: .int j :: .ref a :: S)) rfl rfl hd
  exact OG.of st (k T' h' X' e' W' (Arv.set A q1 S1 q3 H G (fits_nar_byte _) W' i hj hi))
theorem og_baload (X : Stand p l e R s m args below meth c T locs cells slots) (hx : p.tables.exec = Jvm.exec) (hZ : Z.Warmed39 s.vm) (eT : T.heap = h) {a : Addr} {kA : ClassId} {j z : Int32} {vs : List Value} {dv v : Value} (F : Arv Z h a kA .byte z vs dv) (q : ¬ j < 0 ∧ j < z) (hv : vs.getD j.toNatClampNeg dv = v) (hd : decode c.code pc = .ok (.baload, 1)) (hp : pc + 1 = pc') (k : OG p e below P (T.setTop (mkF m pc' L (v :: S)))) : OG p e below P (T.setTop (mkF m pc L (.int j :: .ref a :: S))) := by
  subst hp; obtain ⟨cl, A, q1, S1, q3, H, G⟩ := F
  exact OG.of (fun t k => X.baloadBytes hx (j := j) (v := v) (by rw [eT]; exact A.1) (State.isArrayOf_alike hZ.alike A.2.1) A.2.2 (inb_of S1 q) (H.at (inb_of S1 q) hv) (g := mkF m pc L (.int j :: .ref a :: S)) rfl rfl hd t k) k
theorem og_aaload (X : Stand p l e R s m args below meth c T locs cells slots) (hx : p.tables.exec = Jvm.exec) (hZ : Z.Warmed39 s.vm) (eT : T.heap = h) {a : Addr} {kA : ClassId} {j z : Int32} {vs : List Value} {dv v : Value} {ty : FieldType} (hty : ty.isReference = true) (F : Arv Z h a kA ty z vs dv) (q : ¬ j < 0 ∧ j < z) (hv : vs.getD j.toNatClampNeg dv = v) (hd : decode c.code pc = .ok (.aaload, 1)) (hp : pc + 1 = pc') (k : OG p e below P (T.setTop (mkF m pc' L (v :: S)))) : OG p e below P (T.setTop (mkF m pc L (.int j :: .ref a :: S))) := by
  subst hp; obtain ⟨cl, A, q1, S1, q3, H, G⟩ := F
  exact OG.of (fun t k => X.aaload hx (j := j) (v := v) (by rw [eT]; exact A.1) (State.isArrayOf_alike hZ.alike A.2.1) hty A.2.2 (inb_of S1 q) (H.at (inb_of S1 q) hv) (g := mkF m pc L (.int j :: .ref a :: S)) rfl rfl hd t k) k
theorem og_arraylength (X : Stand p l e R s m args below meth c T locs cells slots) (hx : p.tables.exec = Jvm.exec) (hZ : Z.Warmed39 s.vm) (eT : T.heap = h) {a : Addr} {kA : ClassId} {z : Int32} {vs : List Value} {dv : Value} {ty : FieldType} (F : Arv Z h a kA ty z vs dv) (hd : decode c.code pc = .ok (.arraylength, 1)) (hp : pc + 1 = pc') (k : OG p e below P (T.setTop (mkF m pc' L (.int z :: S)))) : OG p e below P (T.setTop (mkF m pc L (.ref a :: S))) := by
  subst hp; obtain ⟨cl, A, q1, S1, q3, H, G⟩ := F
  refine OG.of (fun t k => X.arraylength hx (by rw [eT]; exact A.1) (State.isArrayOf_alike hZ.alike A.2.1) (g := mkF m pc L (.ref a :: S)) rfl rfl hd t k) ?_
  rw [len_of S1 q3]; exact k
theorem og_initO (X : Stand p l e R s m args below meth c T locs cells slots) (hx : p.tables.exec = Jvm.exec) (hZ : Z.Warmed39 s.vm) {own : String} {idx : Nat} (hml : L.size = c.maxLocals) (hown : s.vm.findClass own = some m.cls) (w1 : (Cond.methodLink own idx Lib.objectInit).before a0 Z = true) (w2 : (Cond.instanceMethod Lib.objectInit).before a0 Z = true) (w3 : (Cond.code Lib.objectInit ⟨#[0xb1]⟩ 1 none).before a0 Z = true) (eT : T.heap = h) {a : Addr} {W : Nat} (hW : (S.map fun v => v.category).sum = W) (hf : 1 ≤ R.frames) (hl : W + 12 ≤ R.locals) (hd : decode c.code pc = .ok (.invokespecial idx, 3)) (hp : pc + 3 = pc') (k : ∀ T', Stand p l e R s m args below meth c T' locs cells slots → T'.heap = h → OG p e below P (T'.setTop (mkF m pc' L S))) : OG p e below P (T.setTop (mkF m pc L (.ref a :: S))) := by
  subst hp; obtain ⟨T', X', e', st⟩ := initO X hx hZ hown w1 w2 w3 eT (g := mkF m pc L (.ref a :: S)) rfl hml rfl hd hf (W := W) (by show 2 * 0 + _ ≤ _; rw [hW]; omega) hl
  exact OG.of st (k T' X' e')
theorem og_clone (X : Stand p l e R s m args below meth c T locs cells slots) (hx : p.tables.exec = Jvm.exec) (hZ : Z.Warmed39 s.vm) {own ad : String} {index : Nat} (hml : L.size = c.maxLocals) (hown : s.vm.findClass own = some m.cls) (w1 : (Cond.methodLink own index ⟨ad, "clone", "()Ljava/lang/Object;"⟩).before a0 Z = true) (w2 : (Cond.sameMethod ad "java/lang/Object" "clone" "()Ljava/lang/Object;").before a0 Z = true) (w3 : (Cond.native ⟨"java/lang/Object", "clone", "()Ljava/lang/Object;"⟩).before a0 Z = true) (w4 : (Cond.instanceMethod ⟨"java/lang/Object", "clone", "()Ljava/lang/Object;"⟩).before a0 Z = true) (w5 : (Cond.selects ad ⟨ad, "clone", "()Ljava/lang/Object;"⟩ ⟨"java/lang/Object", "clone", "()Ljava/lang/Object;"⟩).before a0 Z = true) (w6 : (Cond.castable ad "java/lang/Cloneable").before a0 Z = true) (eT : T.heap = h) {a : Addr} {kA : ClassId} {z : Int32} {vs : List Value} {dv : Value} {ty : FieldType} (F : Arv Z h a kA ty z vs dv) (E : Exa Z h a ad) {W cap cells' slots' : Nat} (hW : (S.map fun v => v.category).sum = W) (hf : 1 ≤ R.frames) (hl : W + 14 ≤ R.locals) (hcap : z.toNatClampNeg ≤ cap) (hc' : cells + 1 = cells') (hs' : slots + cap = slots') (hc : cells' ≤ R.cells) (hs : slots' ≤ R.slots) (hd : decode c.code pc = .ok (.invokevirtual index, 3)) (hp : pc + 3 = pc') (k : ∀ T' h' b, Stand p l e R s m args below meth c T' locs cells' slots' → T'.heap = h' → Ext h h' → b = h.size → Arv Z h' b kA ty z vs dv → Exa Z h' b ad → OG p e below P (T'.setTop (mkF m pc' L (.ref b :: S)))) : OG p e below P (T.setTop (mkF m pc L (.ref a :: S))) := by
  subst hp hc' hs'; obtain ⟨T', h', X', e', E', V', A', st⟩ := cloneH X hx hZ hown w1 w2 w3 w4 w5 w6 eT F.arh E (g := mkF m pc L (.ref a :: S)) rfl hml rfl hd hf (W := W) (by show 2 * 0 + _ ≤ _; rw [hW]; omega) hl hcap hc hs
  exact OG.of st (k T' h' _ X' e' E' rfl V' A')
def Con (l : Launch) (Z : State) (y : MethodName) (bytes : ByteArray) (maxL : Nat) (ret : Option FieldType) (rm : Room) (as' : Array Value) (h : Heap) (Q : Option Value → Heap → List Loc → Prop) : Prop :=
  MetFree l y (head1 [Cond.code y bytes maxL ret] rm) (fun a U => a = as' ∧ Z.Warmed39 U.vm ∧ U.heap = h) (fun _ _ _ _ _ => True) (fun _ U o U' => ∃ v L, o = .returned v ∧ Q v U'.heap L ∧ FrameEnd U o U' L rm.cells rm.slots)
abbrev Fin (s : State) (Q : Option Value → Heap → List Loc → Prop) (k n : Nat) (o : Outcome) (t : State) : Prop := ∃ v L, o = .returned v ∧ Q v t.heap L ∧ FrameEnd s o t L k n
theorem own_start {y : MethodName} {bytes : ByteArray} {maxL : Nat} {ret : Option FieldType} {rm : Room} {as' : Array Value} {ws : List Cond} {Q : Option Value → Heap → List Loc → Prop} {kc ks : Nat} (hpn : plainFor y = true)
    (body : ∀ (p : Program) (e : Env) (s : State) (m : MethodId) (below : List Frame) (meth : Method) (c : Code) (T : State), Stand p l e rm s m as' below meth c T [] 0 0 → p.tables.exec = Jvm.exec → c.code = bytes → c.maxLocals = maxL → Z.Warmed39 s.vm → s.vm.findClass y.cls = some m.cls → meth.name = y.name → meth.sig.returnType = ret → meth.locks = false → T.heap = h → OG p e below (Fin s Q kc ks) (T.setTop (entryFrame m as' maxL))) :
    MetFree l y (head1 (Cond.code y bytes maxL ret :: ws) rm) (fun a U => a = as' ∧ Z.Warmed39 U.vm ∧ U.heap = h) (fun _ _ _ _ _ => True) (fun _ U o U' => ∃ v L, o = .returned v ∧ Q v U'.heap L ∧ FrameEnd U o U' L kc ks) := by
  refine MetFree.of_bodySF hpn hisR ?_
  intro p e s m args below meth c s₁ Bd hml0 hP hK
  obtain ⟨rfl, hZ, hh⟩ := hP
  exact body p e s m below meth c s₁ (Stand.of_body Bd) Bd.exec Bd.bytes hml0 hZ (findClass_of_methodNamed Bd.named) (name_of_methodNamed Bd.named Bd.method).1 Bd.returns Bd.notSynchronized (by rw [← hh, Bd.state]; rfl)
theorem og_ret (X : Stand p l e R s m args below meth c T locs cells slots) (hlk : meth.locks = false) {Q : Option Value → Heap → List Loc → Prop} {kc ks : Nat} {g : JFrame} (v : Option Value) (hv : meth.sig.returnType = none → v = none)
    (st : ∀ fs, (∀ (f : JFrame) (acts : List Action), f.method = m → f.locked = none → f.entered = [] → (doReturn e (T.setTop f) acts v).1 = T.setFrames fs) → Steps p.tables e below (T.setTop g) (T.setFrames fs)) (hc : cells ≤ kc) (hs : slots ≤ ks) (hQ : Q v T.heap locs) : OG p e below (Fin s Q kc ks) (T.setTop g) := by
  obtain ⟨fs, hr, hrun, hended, hW, hsame⟩ := X.leave hv hlk
  exact ⟨_, _, st fs hr, hrun, hended, v, locs, rfl, hQ, ⟨_, rfl⟩, hW, hsame.mono hc hs⟩
theorem og_retN (X : Stand p l e R s m args below meth c T locs cells slots) (hx : p.tables.exec = Jvm.exec) (hlk : meth.locks = false) {t : FieldType} (hret : meth.sig.returnType = some t) (ht : t = .boolean ∨ t = .byte ∨ t = .char ∨ t = .short) {Q : Option Value → Heap → List Loc → Prop} {kc ks : Nat} {z : Int32} (hd : decode c.code pc = .ok (.ireturn, 1)) (hc : cells ≤ kc) (hs : slots ≤ ks) (hQ : Q (some (.int (nar t z))) T.heap locs) : OG p e below (Fin s Q kc ks) (T.setTop (mkF m pc L (.int z :: S))) :=
  og_ret X hlk (some (.int (nar t z))) (fun q => by rw [hret] at q; cases q) (fun fs hr => retN X hx hret ht hd hr) hc hs hQ
theorem og_retR (X : Stand p l e R s m args below meth c T locs cells slots) (hx : p.tables.exec = Jvm.exec) (hlk : meth.locks = false) {t : FieldType} (hret : meth.sig.returnType = some t) (ht : t.isReference = true) {Q : Option Value → Heap → List Loc → Prop} {kc ks : Nat} {v : Value} (hv : v.isRef = true) (hn : narrow t v = v) (hd : decode c.code pc = .ok (.areturn, 1)) (hc : cells ≤ kc) (hs : slots ≤ ks) (hQ : Q (some v) T.heap locs) : OG p e below (Fin s Q kc ks) (T.setTop (mkF m pc L (v :: S))) :=
  og_ret X hlk (some v) (fun q => by rw [hret] at q; cases q) (fun fs hr => retOut X hx hret hn (Or.inr (Or.inr (Or.inr (Or.inr ⟨rfl, ht, hv⟩)))) hd hr) hc hs hQ
theorem og_retV (X : Stand p l e R s m args below meth c T locs cells slots) (hx : p.tables.exec = Jvm.exec) (hlk : meth.locks = false) (hret : meth.sig.returnType = none) {Q : Option Value → Heap → List Loc → Prop} {kc ks : Nat} (hd : decode c.code pc = .ok (.return_, 1)) (hc : cells ≤ kc) (hs : slots ≤ ks) (hQ : Q none T.heap locs) : OG p e below (Fin s Q kc ks) (T.setTop (mkF m pc L [])) :=
  og_ret X hlk none (fun _ => rfl) (fun fs hr => X.returnOut hx hret hd hr) hc hs hQ
theorem og_static (X : Stand p l e R s m args below meth c T locs cells slots) (hx : p.tables.exec = Jvm.exec) (hZ : Z.Warmed39 s.vm) {own : String} {index : Nat} {y : MethodName} {bytes : ByteArray} {maxL : Nat} {ret : Option FieldType} {rm : Room} {as' : Array Value} {Q : Option Value → Heap → List Loc → Prop} {W cells' slots' : Nat} (hM : Con l Z y bytes maxL ret rm as' h Q) (hown : s.vm.findClass own = some m.cls) (w1 : (Cond.methodLink own index y).before a0 Z = true) (w2 : (Cond.static y).before a0 Z = true) (wz : (Cond.initialized y.cls).before a0 Z = true) (wc : (Cond.code y bytes maxL ret).before a0 Z = true) (hy : y.cls ≠ "java/lang/invoke/MethodHandle" ∧ y.cls ≠ "java/lang/invoke/VarHandle") (hml : L.size = c.maxLocals) (eT : T.heap = h) {ps : List FieldType} {rt : Option FieldType} (hpd : parseMethodDescriptor y.desc = some ⟨ps, rt⟩) (argsL rest : List Value) (hll : argsL.length = ps.length) (has : argsL.toArray = as') (hst : S = argsL.reverse ++ rest) (hW : (rest.map fun v => v.category).sum = W) (hf : rm.frames + 1 ≤ R.frames) (hl : W + (maxL + 11) + rm.locals ≤ R.locals) (hc' : cells + rm.cells = cells') (hs' : slots + rm.slots = slots') (hc : cells' ≤ R.cells) (hs : slots' ≤ R.slots) (hd : decode c.code pc = .ok (.invokestatic index, 3)) (hp : pc + 3 = pc') (k : ∀ v T' h' Lc, Stand p l e R s m args below meth c T' (locs ++ Lc) cells' slots' → T'.heap = h' → Q v h' Lc → OG p e below P (T'.setTop (mkF m pc' L (v.toList ++ rest)))) : OG p e below P (T.setTop (mkF m pc L S)) := by
  subst hp hst hc' hs' has
  obtain ⟨v, _, ⟨T1, L1, k1, n1⟩, -, X1, ⟨Lc, hQ, l1, y1, z1⟩, st⟩ := Jvm.LawKit.callS X hx (y := y) hown (mvT hZ w1) (mvT hZ w2) (mvT hZ wz) (mvT hZ wc) hy (backOf (W := W) hM hZ wc wz hf hl) (g := mkF m pc L (argsL.reverse ++ rest)) rfl hml (argsL := argsL) (rest := rest) (lenOf hpd hll) rfl (by show 2 * 0 + _ ≤ _; rw [hW]; omega) hd (fun _ _ => ⟨rfl, eT, hc, hs⟩)
  dsimp only [Pt.U, Pt.locs, Pt.cells, Pt.slots] at X1 l1 y1 z1 st hQ
  subst l1 y1 z1
  exact OG.of st (k v T1 _ Lc X1 rfl hQ)
theorem og_special (X : Stand p l e R s m args below meth c T locs cells slots) (hx : p.tables.exec = Jvm.exec) (hZ : Z.Warmed39 s.vm) {own : String} {index : Nat} {y : MethodName} {bytes : ByteArray} {maxL : Nat} {rm : Room} {as' : Array Value} {Q : Option Value → Heap → List Loc → Prop} {W cells' slots' : Nat} (hM : Con l Z y bytes maxL none rm as' h Q) (hin : y.name = "<init>") (hown : s.vm.findClass own = some m.cls) (w1 : (Cond.methodLink own index y).before a0 Z = true) (w2 : (Cond.instanceMethod y).before a0 Z = true) (wz : (Cond.initialized y.cls).before a0 Z = true) (wc : (Cond.code y bytes maxL none).before a0 Z = true) (hy : y.cls ≠ "java/lang/invoke/MethodHandle" ∧ y.cls ≠ "java/lang/invoke/VarHandle") (hml : L.size = c.maxLocals) (eT : T.heap = h) {ps : List FieldType} {rt : Option FieldType} (hpd : parseMethodDescriptor y.desc = some ⟨ps, rt⟩) {a : Addr} (argsL rest : List Value) (hll : argsL.length = ps.length) (has : (.ref a :: argsL).toArray = as') (hst : S = argsL.reverse ++ .ref a :: rest) (hW : (rest.map fun v => v.category).sum = W) (hf : rm.frames + 1 ≤ R.frames) (hl : W + (maxL + 11) + rm.locals ≤ R.locals) (hc' : cells + rm.cells = cells') (hs' : slots + rm.slots = slots') (hc : cells' ≤ R.cells) (hs : slots' ≤ R.slots) (hd : decode c.code pc = .ok (.invokespecial index, 3)) (hp : pc + 3 = pc') (k : ∀ v T' h' Lc, Stand p l e R s m args below meth c T' (locs ++ Lc) cells' slots' → T'.heap = h' → Q v h' Lc → OG p e below P (T'.setTop (mkF m pc' L (v.toList ++ rest)))) : OG p e below P (T.setTop (mkF m pc L S)) := by
  subst hp hst hc' hs' has
  obtain ⟨v, _, ⟨T1, L1, k1, n1⟩, -, X1, ⟨Lc, hQ, l1, y1, z1⟩, st⟩ := X.specialBack hx (y := y) hin hown (mvT hZ w1) (mvT hZ w2) (mvT hZ wc) hy (backOf (W := W) hM hZ wc wz hf hl) (g := mkF m pc L (argsL.reverse ++ .ref a :: rest)) rfl hml (Steps.refl _) (a := a) (argsL := argsL) (rest := rest) (lenOf hpd hll) rfl (by show 2 * 0 + _ ≤ _; rw [hW]; omega) hd (fun _ _ => ⟨rfl, eT, hc, hs⟩)
  dsimp only [Pt.U, Pt.locs, Pt.cells, Pt.slots] at X1 l1 y1 z1 st hQ
  subst l1 y1 z1
  exact OG.of (fun t k => st.trans k) (k v T1 _ Lc X1 rfl hQ)
theorem og_virtual (X : Stand p l e R s m args below meth c T locs cells slots) (hx : p.tables.exec = Jvm.exec) (hZ : Z.Warmed39 s.vm) {own C : String} {index : Nat} {y z : MethodName} {bytes : ByteArray} {maxL : Nat} {ret : Option FieldType} {rm : Room} {as' : Array Value} {Q : Option Value → Heap → List Loc → Prop} {W cells' slots' : Nat} (hM : Con l Z z bytes maxL ret rm as' h Q) (hown : s.vm.findClass own = some m.cls) (w1 : (Cond.methodLink own index y).before a0 Z = true) (w2 : (Cond.declares y).before a0 Z = true) (hnf : NotFace s y) (w3 : (Cond.selects C y z).before a0 Z = true) (w4 : (Cond.instanceMethod z).before a0 Z = true) (wz : (Cond.initialized z.cls).before a0 Z = true) (wc : (Cond.code z bytes maxL ret).before a0 Z = true) (hy : y.cls ≠ "java/lang/invoke/MethodHandle" ∧ y.cls ≠ "java/lang/invoke/VarHandle") (hml : L.size = c.maxLocals) (eT : T.heap = h) {ps : List FieldType} {rt : Option FieldType} (hpd : parseMethodDescriptor y.desc = some ⟨ps, rt⟩) {a : Addr} (argsL rest : List Value) (hll : argsL.length = ps.length) (has : (.ref a :: argsL).toArray = as') (hst : S = argsL.reverse ++ .ref a :: rest) (hW : (rest.map fun v => v.category).sum = W) (hf : rm.frames + 1 ≤ R.frames) (hl : W + (maxL + 11) + rm.locals ≤ R.locals) (hc' : cells + rm.cells = cells') (hs' : slots + rm.slots = slots') (hc : cells' ≤ R.cells) (hs : slots' ≤ R.slots) (E : Exa Z h a C) (hd : decode c.code pc = .ok (.invokevirtual index, 3)) (hp : pc + 3 = pc') (k : ∀ v T' h' Lc, Stand p l e R s m args below meth c T' (locs ++ Lc) cells' slots' → T'.heap = h' → Q v h' Lc → OG p e below P (T'.setTop (mkF m pc' L (v.toList ++ rest)))) : OG p e below P (T.setTop (mkF m pc L S)) := by
  subst hp hst hc' hs' has
  obtain ⟨cq, kq, qa, qb, qc⟩ := isOf hZ eT E
  obtain ⟨v, _, ⟨T1, L1, k1, n1⟩, -, X1, ⟨Lc, hQ, l1, y1, z1⟩, st⟩ := X.virtualBack hx (y := y) (z := z) hown (mvT hZ w1) (mvT hZ w2) hnf (mvT hZ w3) (mvT hZ w4) hy (backOf (W := W) hM hZ wc wz hf hl) qa qc (g := mkF m pc L (argsL.reverse ++ .ref a :: rest)) rfl hml (Steps.refl _) (argsL := argsL) (rest := rest) (lenOf hpd hll) rfl (by show 2 * 0 + _ ≤ _; rw [hW]; omega) hd (fun _ _ => ⟨rfl, eT, hc, hs⟩)
  dsimp only [Pt.U, Pt.locs, Pt.cells, Pt.slots] at X1 l1 y1 z1 st hQ
  subst l1 y1 z1
  exact OG.of (fun t k => st.trans k) (k v T1 _ Lc X1 rfl hQ)
theorem own_nf (hZ : Z.Warmed39 s.vm) {C : String} {y : MethodName} (w : (Cond.selects C y y).before a0 Z = true) : NotFace s y := notFace_of_selects (args := #[]) (mvT hZ w)
theorem own_n0 {n0 : Nat} (O : Old Z n0 h) : n0 ≤ h.size := O.1 ▸ O.2.1
theorem own_eqint {args : Array Value} {t : Term} {n : Int32} (q : (Cond.eq t (Term.int n)).value args s none s [] = some true) : t.eval args s none [] s = some (.int n) := by
  simp only [Cond.value, Term.eval] at q
  cases ht : t.eval args s none [] s with
  | none => simp [ht] at q
  | some x => cases x <;> simp [ht] at q ⊢; exact q
theorem own_fldstart {args : Array Value} {t : Term} {C n d : String} {a : Addr} {v : Value} (ht : t.eval args s none [] s = some (.ref a)) (q : (Term.field t C n d).eval args s none [] s = some v) : Fld s s.heap a C n d v := Fld.start (by rw [← fld_at ht]; exact q)
end OwnKit
theorem ow0 {a0 : Array Value} {Z : State} (hw : ∀ d ∈ tables_1, d.before a0 Z = true) : (Jvm.Cond.methodLink "com/example/tombstone/tombstone/postgres/ActionFromCatalogPinLaw" (7 : Nat) ({ cls := "com/example/tombstone/tombstone/postgres/ActionFromCatalogPinLaw", name := "isCode", desc := "(C)Z" } : Jvm.MethodName)).before a0 Z = true := hw _ (List.mem_of_getElem? (i := 0) rfl)
theorem ow1 {a0 : Array Value} {Z : State} (hw : ∀ d ∈ tables_1, d.before a0 Z = true) : (Jvm.Cond.static ({ cls := "com/example/tombstone/tombstone/postgres/ActionFromCatalogPinLaw", name := "isCode", desc := "(C)Z" } : Jvm.MethodName)).before a0 Z = true := hw _ (List.mem_of_getElem? (i := 1) rfl)
theorem ow2 {a0 : Array Value} {Z : State} (hw : ∀ d ∈ tables_1, d.before a0 Z = true) : (Jvm.Cond.initialized "com/example/tombstone/tombstone/postgres/ActionFromCatalogPinLaw").before a0 Z = true := hw _ (List.mem_of_getElem? (i := 2) rfl)
theorem ow3 {a0 : Array Value} {Z : State} (hw : ∀ d ∈ tables_1, d.before a0 Z = true) : (Jvm.Cond.code ({ cls := "com/example/tombstone/tombstone/postgres/ActionFromCatalogPinLaw", name := "isCode", desc := "(C)Z" } : Jvm.MethodName) method_3_code (1 : Nat) (Option.some Jvm.ClassFile.FieldType.boolean)).before a0 Z = true := hw _ (List.mem_of_getElem? (i := 3) rfl)
theorem ow4 {a0 : Array Value} {Z : State} (hw : ∀ d ∈ tables_1, d.before a0 Z = true) : (Jvm.Cond.constant "com/example/tombstone/tombstone/postgres/ActionFromCatalogPinLaw" (13 : Nat) (2147483647 : Int32)).before a0 Z = true := hw _ (List.mem_of_getElem? (i := 4) rfl)
theorem ow5 {a0 : Array Value} {Z : State} (hw : ∀ d ∈ tables_1, d.before a0 Z = true) : (Jvm.Cond.methodLink "com/example/tombstone/tombstone/postgres/ActionFromCatalogPinLaw" (14 : Nat) ({ cls := "com/example/tombstone/tombstone/postgres/ActionFromCatalogPinLaw", name := "codeAt", desc := "(I)C" } : Jvm.MethodName)).before a0 Z = true := hw _ (List.mem_of_getElem? (i := 5) rfl)
theorem ow6 {a0 : Array Value} {Z : State} (hw : ∀ d ∈ tables_1, d.before a0 Z = true) : (Jvm.Cond.static ({ cls := "com/example/tombstone/tombstone/postgres/ActionFromCatalogPinLaw", name := "codeAt", desc := "(I)C" } : Jvm.MethodName)).before a0 Z = true := hw _ (List.mem_of_getElem? (i := 6) rfl)
theorem ow7 {a0 : Array Value} {Z : State} (hw : ∀ d ∈ tables_1, d.before a0 Z = true) : (Jvm.Cond.code ({ cls := "com/example/tombstone/tombstone/postgres/ActionFromCatalogPinLaw", name := "codeAt", desc := "(I)C" } : Jvm.MethodName) method_4_code (1 : Nat) (Option.some Jvm.ClassFile.FieldType.char)).before a0 Z = true := hw _ (List.mem_of_getElem? (i := 7) rfl)
theorem ow8 {a0 : Array Value} {Z : State} (hw : ∀ d ∈ tables_1, d.before a0 Z = true) : (Jvm.Cond.methodLink "com/example/tombstone/tombstone/postgres/ActionFromCatalogPinLaw" (18 : Nat) ({ cls := "java/lang/String", name := "valueOf", desc := "(C)Ljava/lang/String;" } : Jvm.MethodName)).before a0 Z = true := hw _ (List.mem_of_getElem? (i := 8) rfl)
theorem ow9 {a0 : Array Value} {Z : State} (hw : ∀ d ∈ tables_1, d.before a0 Z = true) : (Jvm.Cond.static ({ cls := "java/lang/String", name := "valueOf", desc := "(C)Ljava/lang/String;" } : Jvm.MethodName)).before a0 Z = true := hw _ (List.mem_of_getElem? (i := 9) rfl)
theorem ow10 {a0 : Array Value} {Z : State} (hw : ∀ d ∈ tables_1, d.before a0 Z = true) : (Jvm.Cond.initialized "java/lang/String").before a0 Z = true := hw _ (List.mem_of_getElem? (i := 10) rfl)
theorem ow11 {a0 : Array Value} {Z : State} (hw : ∀ d ∈ tables_1, d.before a0 Z = true) : (Jvm.Cond.code ({ cls := "java/lang/String", name := "valueOf", desc := "(C)Ljava/lang/String;" } : Jvm.MethodName) jdk_42_method_139_code (1 : Nat) (Option.some (Jvm.ClassFile.FieldType.object "java/lang/String"))).before a0 Z = true := hw _ (List.mem_of_getElem? (i := 11) rfl)
theorem ow12 {a0 : Array Value} {Z : State} (hw : ∀ d ∈ tables_1, d.before a0 Z = true) : (Jvm.Cond.fieldLink "java/lang/String" (38 : Nat) "java/lang/String" "COMPACT_STRINGS" "Z").before a0 Z = true := hw _ (List.mem_of_getElem? (i := 12) rfl)
theorem ow13 {a0 : Array Value} {Z : State} (hw : ∀ d ∈ tables_1, d.before a0 Z = true) : (Jvm.Cond.methodLink "java/lang/String" (1015 : Nat) ({ cls := "java/lang/StringLatin1", name := "canEncode", desc := "(C)Z" } : Jvm.MethodName)).before a0 Z = true := hw _ (List.mem_of_getElem? (i := 13) rfl)
theorem ow14 {a0 : Array Value} {Z : State} (hw : ∀ d ∈ tables_1, d.before a0 Z = true) : (Jvm.Cond.static ({ cls := "java/lang/StringLatin1", name := "canEncode", desc := "(C)Z" } : Jvm.MethodName)).before a0 Z = true := hw _ (List.mem_of_getElem? (i := 14) rfl)
theorem ow15 {a0 : Array Value} {Z : State} (hw : ∀ d ∈ tables_1, d.before a0 Z = true) : (Jvm.Cond.initialized "java/lang/StringLatin1").before a0 Z = true := hw _ (List.mem_of_getElem? (i := 15) rfl)
theorem ow16 {a0 : Array Value} {Z : State} (hw : ∀ d ∈ tables_1, d.before a0 Z = true) : (Jvm.Cond.code ({ cls := "java/lang/StringLatin1", name := "canEncode", desc := "(C)Z" } : Jvm.MethodName) jdk_43_method_3_code (1 : Nat) (Option.some Jvm.ClassFile.FieldType.boolean)).before a0 Z = true := hw _ (List.mem_of_getElem? (i := 16) rfl)
theorem ow17 {a0 : Array Value} {Z : State} (hw : ∀ d ∈ tables_1, d.before a0 Z = true) : (Jvm.Cond.classLink "java/lang/String" (10 : Nat) "java/lang/String").before a0 Z = true := hw _ (List.mem_of_getElem? (i := 17) rfl)
theorem ow18 {a0 : Array Value} {Z : State} (hw : ∀ d ∈ tables_1, d.before a0 Z = true) : (Jvm.Cond.instantiable "java/lang/String" (4 : Nat)).before a0 Z = true := hw _ (List.mem_of_getElem? (i := 18) rfl)
theorem ow19 {a0 : Array Value} {Z : State} (hw : ∀ d ∈ tables_1, d.before a0 Z = true) : (Jvm.Cond.methodLink "java/lang/String" (1018 : Nat) ({ cls := "java/lang/StringLatin1", name := "toBytes", desc := "(C)[B" } : Jvm.MethodName)).before a0 Z = true := hw _ (List.mem_of_getElem? (i := 19) rfl)
theorem ow20 {a0 : Array Value} {Z : State} (hw : ∀ d ∈ tables_1, d.before a0 Z = true) : (Jvm.Cond.static ({ cls := "java/lang/StringLatin1", name := "toBytes", desc := "(C)[B" } : Jvm.MethodName)).before a0 Z = true := hw _ (List.mem_of_getElem? (i := 20) rfl)
theorem ow21 {a0 : Array Value} {Z : State} (hw : ∀ d ∈ tables_1, d.before a0 Z = true) : (Jvm.Cond.code ({ cls := "java/lang/StringLatin1", name := "toBytes", desc := "(C)[B" } : Jvm.MethodName) jdk_43_method_46_code (1 : Nat) (Option.some (Jvm.ClassFile.FieldType.array Jvm.ClassFile.FieldType.byte))).before a0 Z = true := hw _ (List.mem_of_getElem? (i := 21) rfl)
theorem ow22 {a0 : Array Value} {Z : State} (hw : ∀ d ∈ tables_1, d.before a0 Z = true) : (Jvm.Cond.arrayClass Jvm.ClassFile.FieldType.byte).before a0 Z = true := hw _ (List.mem_of_getElem? (i := 22) rfl)
theorem ow23 {a0 : Array Value} {Z : State} (hw : ∀ d ∈ tables_1, d.before a0 Z = true) : (Jvm.Cond.methodLink "java/lang/String" (209 : Nat) ({ cls := "java/lang/String", name := "<init>", desc := "([BB)V" } : Jvm.MethodName)).before a0 Z = true := hw _ (List.mem_of_getElem? (i := 23) rfl)
theorem ow24 {a0 : Array Value} {Z : State} (hw : ∀ d ∈ tables_1, d.before a0 Z = true) : (Jvm.Cond.instanceMethod ({ cls := "java/lang/String", name := "<init>", desc := "([BB)V" } : Jvm.MethodName)).before a0 Z = true := hw _ (List.mem_of_getElem? (i := 24) rfl)
theorem ow26 {a0 : Array Value} {Z : State} (hw : ∀ d ∈ tables_1, d.before a0 Z = true) : (Jvm.Cond.code ({ cls := "java/lang/String", name := "<init>", desc := "([BB)V" } : Jvm.MethodName) jdk_42_method_151_code (3 : Nat) (Option.none : Option Jvm.ClassFile.FieldType)).before a0 Z = true := hw _ (List.mem_of_getElem? (i := 26) rfl)
theorem ow27 {a0 : Array Value} {Z : State} (hw : ∀ d ∈ tables_1, d.before a0 Z = true) : (Jvm.Cond.methodLink "java/lang/String" (1 : Nat) ({ cls := "java/lang/Object", name := "<init>", desc := "()V" } : Jvm.MethodName)).before a0 Z = true := hw _ (List.mem_of_getElem? (i := 27) rfl)
theorem ow28 {a0 : Array Value} {Z : State} (hw : ∀ d ∈ tables_1, d.before a0 Z = true) : (Jvm.Cond.instanceMethod ({ cls := "java/lang/Object", name := "<init>", desc := "()V" } : Jvm.MethodName)).before a0 Z = true := hw _ (List.mem_of_getElem? (i := 28) rfl)
theorem ow29 {a0 : Array Value} {Z : State} (hw : ∀ d ∈ tables_1, d.before a0 Z = true) : (Jvm.Cond.code ({ cls := "java/lang/Object", name := "<init>", desc := "()V" } : Jvm.MethodName) object_method_1_code (1 : Nat) (Option.none : Option Jvm.ClassFile.FieldType)).before a0 Z = true := hw _ (List.mem_of_getElem? (i := 29) rfl)
theorem ow30 {a0 : Array Value} {Z : State} (hw : ∀ d ∈ tables_1, d.before a0 Z = true) : (Jvm.Cond.fieldLink "java/lang/String" (9 : Nat) "java/lang/String" "value" "[B").before a0 Z = true := hw _ (List.mem_of_getElem? (i := 30) rfl)
theorem ow31 {a0 : Array Value} {Z : State} (hw : ∀ d ∈ tables_1, d.before a0 Z = true) : (Jvm.Cond.laysFinal "java/lang/String" "java/lang/String" "value" "[B").before a0 Z = true := hw _ (List.mem_of_getElem? (i := 31) rfl)
theorem ow32 {a0 : Array Value} {Z : State} (hw : ∀ d ∈ tables_1, d.before a0 Z = true) : (Jvm.Cond.fieldLink "java/lang/String" (15 : Nat) "java/lang/String" "coder" "B").before a0 Z = true := hw _ (List.mem_of_getElem? (i := 32) rfl)
theorem ow33 {a0 : Array Value} {Z : State} (hw : ∀ d ∈ tables_1, d.before a0 Z = true) : (Jvm.Cond.laysFinal "java/lang/String" "java/lang/String" "coder" "B").before a0 Z = true := hw _ (List.mem_of_getElem? (i := 33) rfl)
theorem ow34 {a0 : Array Value} {Z : State} (hw : ∀ d ∈ tables_1, d.before a0 Z = true) : (Jvm.Cond.methodLink "com/example/tombstone/tombstone/postgres/ActionFromCatalogPinLaw" (24 : Nat) ({ cls := "com/example/tombstone/tombstone/postgres/ForeignKey$Action", name := "fromCatalog", desc := "(Ljava/lang/String;)Lcom/example/tombstone/tombstone/postgres/ForeignKey$Action;" } : Jvm.MethodName)).before a0 Z = true := hw _ (List.mem_of_getElem? (i := 34) rfl)
theorem ow35 {a0 : Array Value} {Z : State} (hw : ∀ d ∈ tables_1, d.before a0 Z = true) : (Jvm.Cond.static ({ cls := "com/example/tombstone/tombstone/postgres/ForeignKey$Action", name := "fromCatalog", desc := "(Ljava/lang/String;)Lcom/example/tombstone/tombstone/postgres/ForeignKey$Action;" } : Jvm.MethodName)).before a0 Z = true := hw _ (List.mem_of_getElem? (i := 35) rfl)
theorem ow36 {a0 : Array Value} {Z : State} (hw : ∀ d ∈ tables_1, d.before a0 Z = true) : (Jvm.Cond.initialized "com/example/tombstone/tombstone/postgres/ForeignKey$Action").before a0 Z = true := hw _ (List.mem_of_getElem? (i := 36) rfl)
theorem ow37 {a0 : Array Value} {Z : State} (hw : ∀ d ∈ tables_1, d.before a0 Z = true) : (Jvm.Cond.code ({ cls := "com/example/tombstone/tombstone/postgres/ForeignKey$Action", name := "fromCatalog", desc := "(Ljava/lang/String;)Lcom/example/tombstone/tombstone/postgres/ForeignKey$Action;" } : Jvm.MethodName) prog_15_method_6_code (5 : Nat) (Option.some (Jvm.ClassFile.FieldType.object "com/example/tombstone/tombstone/postgres/ForeignKey$Action"))).before a0 Z = true := hw _ (List.mem_of_getElem? (i := 37) rfl)
theorem ow38 {a0 : Array Value} {Z : State} (hw : ∀ d ∈ tables_1, d.before a0 Z = true) : (Jvm.Cond.methodLink "com/example/tombstone/tombstone/postgres/ForeignKey$Action" (56 : Nat) ({ cls := "com/example/tombstone/tombstone/postgres/ForeignKey$Action", name := "values", desc := "()[Lcom/example/tombstone/tombstone/postgres/ForeignKey$Action;" } : Jvm.MethodName)).before a0 Z = true := hw _ (List.mem_of_getElem? (i := 38) rfl)
theorem ow39 {a0 : Array Value} {Z : State} (hw : ∀ d ∈ tables_1, d.before a0 Z = true) : (Jvm.Cond.static ({ cls := "com/example/tombstone/tombstone/postgres/ForeignKey$Action", name := "values", desc := "()[Lcom/example/tombstone/tombstone/postgres/ForeignKey$Action;" } : Jvm.MethodName)).before a0 Z = true := hw _ (List.mem_of_getElem? (i := 39) rfl)
theorem ow40 {a0 : Array Value} {Z : State} (hw : ∀ d ∈ tables_1, d.before a0 Z = true) : (Jvm.Cond.code ({ cls := "com/example/tombstone/tombstone/postgres/ForeignKey$Action", name := "values", desc := "()[Lcom/example/tombstone/tombstone/postgres/ForeignKey$Action;" } : Jvm.MethodName) prog_15_method_1_code (0 : Nat) (Option.some (Jvm.ClassFile.FieldType.array (Jvm.ClassFile.FieldType.object "com/example/tombstone/tombstone/postgres/ForeignKey$Action")))).before a0 Z = true := hw _ (List.mem_of_getElem? (i := 40) rfl)
theorem ow41 {a0 : Array Value} {Z : State} (hw : ∀ d ∈ tables_1, d.before a0 Z = true) : (Jvm.Cond.fieldLink "com/example/tombstone/tombstone/postgres/ForeignKey$Action" (19 : Nat) "com/example/tombstone/tombstone/postgres/ForeignKey$Action" "$VALUES" "[Lcom/example/tombstone/tombstone/postgres/ForeignKey$Action;").before a0 Z = true := hw _ (List.mem_of_getElem? (i := 41) rfl)
theorem ow42 {a0 : Array Value} {Z : State} (hw : ∀ d ∈ tables_1, d.before a0 Z = true) : (Jvm.Cond.laysStatic "com/example/tombstone/tombstone/postgres/ForeignKey$Action" "$VALUES" "[Lcom/example/tombstone/tombstone/postgres/ForeignKey$Action;").before a0 Z = true := hw _ (List.mem_of_getElem? (i := 42) rfl)
theorem ow43 {a0 : Array Value} {Z : State} (hw : ∀ d ∈ tables_1, d.before a0 Z = true) : (Jvm.Cond.methodLink "com/example/tombstone/tombstone/postgres/ForeignKey$Action" (23 : Nat) ({ cls := "[Lcom/example/tombstone/tombstone/postgres/ForeignKey$Action;", name := "clone", desc := "()Ljava/lang/Object;" } : Jvm.MethodName)).before a0 Z = true := hw _ (List.mem_of_getElem? (i := 43) rfl)
theorem ow44 {a0 : Array Value} {Z : State} (hw : ∀ d ∈ tables_1, d.before a0 Z = true) : (Jvm.Cond.sameMethod "[Lcom/example/tombstone/tombstone/postgres/ForeignKey$Action;" "java/lang/Object" "clone" "()Ljava/lang/Object;").before a0 Z = true := hw _ (List.mem_of_getElem? (i := 44) rfl)
theorem ow46 {a0 : Array Value} {Z : State} (hw : ∀ d ∈ tables_1, d.before a0 Z = true) : (Jvm.Cond.instanceMethod ({ cls := "java/lang/Object", name := "clone", desc := "()Ljava/lang/Object;" } : Jvm.MethodName)).before a0 Z = true := hw _ (List.mem_of_getElem? (i := 46) rfl)
theorem ow47 {a0 : Array Value} {Z : State} (hw : ∀ d ∈ tables_1, d.before a0 Z = true) : (Jvm.Cond.selects "[Lcom/example/tombstone/tombstone/postgres/ForeignKey$Action;" ({ cls := "[Lcom/example/tombstone/tombstone/postgres/ForeignKey$Action;", name := "clone", desc := "()Ljava/lang/Object;" } : Jvm.MethodName) ({ cls := "java/lang/Object", name := "clone", desc := "()Ljava/lang/Object;" } : Jvm.MethodName)).before a0 Z = true := hw _ (List.mem_of_getElem? (i := 47) rfl)
theorem ow48 {a0 : Array Value} {Z : State} (hw : ∀ d ∈ tables_1, d.before a0 Z = true) : (Jvm.Cond.native ({ cls := "java/lang/Object", name := "clone", desc := "()Ljava/lang/Object;" } : Jvm.MethodName)).before a0 Z = true := hw _ (List.mem_of_getElem? (i := 48) rfl)
theorem ow49 {a0 : Array Value} {Z : State} (hw : ∀ d ∈ tables_1, d.before a0 Z = true) : (Jvm.Cond.castable "[Lcom/example/tombstone/tombstone/postgres/ForeignKey$Action;" "java/lang/Cloneable").before a0 Z = true := hw _ (List.mem_of_getElem? (i := 49) rfl)
theorem ow50 {a0 : Array Value} {Z : State} (hw : ∀ d ∈ tables_1, d.before a0 Z = true) : (Jvm.Cond.laysStatic "com/example/tombstone/tombstone/postgres/ForeignKey$Action" "CASCADE" "Lcom/example/tombstone/tombstone/postgres/ForeignKey$Action;").before a0 Z = true := hw _ (List.mem_of_getElem? (i := 50) rfl)
theorem ow51 {a0 : Array Value} {Z : State} (hw : ∀ d ∈ tables_1, d.before a0 Z = true) : (Jvm.Cond.laysStatic "com/example/tombstone/tombstone/postgres/ForeignKey$Action" "SET_NULL" "Lcom/example/tombstone/tombstone/postgres/ForeignKey$Action;").before a0 Z = true := hw _ (List.mem_of_getElem? (i := 51) rfl)
theorem ow52 {a0 : Array Value} {Z : State} (hw : ∀ d ∈ tables_1, d.before a0 Z = true) : (Jvm.Cond.laysStatic "com/example/tombstone/tombstone/postgres/ForeignKey$Action" "SET_DEFAULT" "Lcom/example/tombstone/tombstone/postgres/ForeignKey$Action;").before a0 Z = true := hw _ (List.mem_of_getElem? (i := 52) rfl)
theorem ow53 {a0 : Array Value} {Z : State} (hw : ∀ d ∈ tables_1, d.before a0 Z = true) : (Jvm.Cond.laysStatic "com/example/tombstone/tombstone/postgres/ForeignKey$Action" "RESTRICT" "Lcom/example/tombstone/tombstone/postgres/ForeignKey$Action;").before a0 Z = true := hw _ (List.mem_of_getElem? (i := 53) rfl)
theorem ow54 {a0 : Array Value} {Z : State} (hw : ∀ d ∈ tables_1, d.before a0 Z = true) : (Jvm.Cond.laysStatic "com/example/tombstone/tombstone/postgres/ForeignKey$Action" "NO_ACTION" "Lcom/example/tombstone/tombstone/postgres/ForeignKey$Action;").before a0 Z = true := hw _ (List.mem_of_getElem? (i := 54) rfl)
theorem ow56 {a0 : Array Value} {Z : State} (hw : ∀ d ∈ tables_1, d.before a0 Z = true) : (Jvm.Cond.classLink "com/example/tombstone/tombstone/postgres/ForeignKey$Action" (24 : Nat) "[Lcom/example/tombstone/tombstone/postgres/ForeignKey$Action;").before a0 Z = true := hw _ (List.mem_of_getElem? (i := 56) rfl)
theorem ow58 {a0 : Array Value} {Z : State} (hw : ∀ d ∈ tables_1, d.before a0 Z = true) : (Jvm.Cond.fieldLink "com/example/tombstone/tombstone/postgres/ForeignKey$Action" (38 : Nat) "com/example/tombstone/tombstone/postgres/ForeignKey$Action" "code" "C").before a0 Z = true := hw _ (List.mem_of_getElem? (i := 58) rfl)
theorem ow60 {a0 : Array Value} {Z : State} (hw : ∀ d ∈ tables_1, d.before a0 Z = true) : (Jvm.Cond.methodLink "com/example/tombstone/tombstone/postgres/ForeignKey$Action" (60 : Nat) ({ cls := "java/lang/String", name := "valueOf", desc := "(C)Ljava/lang/String;" } : Jvm.MethodName)).before a0 Z = true := hw _ (List.mem_of_getElem? (i := 60) rfl)
theorem ow61 {a0 : Array Value} {Z : State} (hw : ∀ d ∈ tables_1, d.before a0 Z = true) : (Jvm.Cond.methodLink "com/example/tombstone/tombstone/postgres/ForeignKey$Action" (65 : Nat) ({ cls := "java/lang/String", name := "equals", desc := "(Ljava/lang/Object;)Z" } : Jvm.MethodName)).before a0 Z = true := hw _ (List.mem_of_getElem? (i := 61) rfl)
theorem ow62 {a0 : Array Value} {Z : State} (hw : ∀ d ∈ tables_1, d.before a0 Z = true) : (Jvm.Cond.declares ({ cls := "java/lang/String", name := "equals", desc := "(Ljava/lang/Object;)Z" } : Jvm.MethodName)).before a0 Z = true := hw _ (List.mem_of_getElem? (i := 62) rfl)
theorem ow63 {a0 : Array Value} {Z : State} (hw : ∀ d ∈ tables_1, d.before a0 Z = true) : (Jvm.Cond.instanceMethod ({ cls := "java/lang/String", name := "equals", desc := "(Ljava/lang/Object;)Z" } : Jvm.MethodName)).before a0 Z = true := hw _ (List.mem_of_getElem? (i := 63) rfl)
theorem ow64 {a0 : Array Value} {Z : State} (hw : ∀ d ∈ tables_1, d.before a0 Z = true) : (Jvm.Cond.selects "java/lang/String" ({ cls := "java/lang/String", name := "equals", desc := "(Ljava/lang/Object;)Z" } : Jvm.MethodName) ({ cls := "java/lang/String", name := "equals", desc := "(Ljava/lang/Object;)Z" } : Jvm.MethodName)).before a0 Z = true := hw _ (List.mem_of_getElem? (i := 64) rfl)
theorem ow65 {a0 : Array Value} {Z : State} (hw : ∀ d ∈ tables_1, d.before a0 Z = true) : (Jvm.Cond.code ({ cls := "java/lang/String", name := "equals", desc := "(Ljava/lang/Object;)Z" } : Jvm.MethodName) jdk_42_method_66_code (3 : Nat) (Option.some Jvm.ClassFile.FieldType.boolean)).before a0 Z = true := hw _ (List.mem_of_getElem? (i := 65) rfl)
theorem ow66 {a0 : Array Value} {Z : State} (hw : ∀ d ∈ tables_1, d.before a0 Z = true) : (Jvm.Cond.methodLink "java/lang/String" (541 : Nat) ({ cls := "java/lang/StringLatin1", name := "equals", desc := "([B[B)Z" } : Jvm.MethodName)).before a0 Z = true := hw _ (List.mem_of_getElem? (i := 66) rfl)
theorem ow67 {a0 : Array Value} {Z : State} (hw : ∀ d ∈ tables_1, d.before a0 Z = true) : (Jvm.Cond.static ({ cls := "java/lang/StringLatin1", name := "equals", desc := "([B[B)Z" } : Jvm.MethodName)).before a0 Z = true := hw _ (List.mem_of_getElem? (i := 67) rfl)
theorem ow68 {a0 : Array Value} {Z : State} (hw : ∀ d ∈ tables_1, d.before a0 Z = true) : (Jvm.Cond.code ({ cls := "java/lang/StringLatin1", name := "equals", desc := "([B[B)Z" } : Jvm.MethodName) jdk_43_method_13_code (3 : Nat) (Option.some Jvm.ClassFile.FieldType.boolean)).before a0 Z = true := hw _ (List.mem_of_getElem? (i := 68) rfl)
theorem ow69 {a0 : Array Value} {Z : State} (hw : ∀ d ∈ tables_1, d.before a0 Z = true) : (Jvm.Cond.methodLink "com/example/tombstone/tombstone/postgres/ActionFromCatalogPinLaw" (30 : Nat) ({ cls := "com/example/tombstone/tombstone/postgres/ActionFromCatalogPinLaw", name := "expected", desc := "(C)Lcom/example/tombstone/tombstone/postgres/ForeignKey$Action;" } : Jvm.MethodName)).before a0 Z = true := hw _ (List.mem_of_getElem? (i := 69) rfl)
theorem ow70 {a0 : Array Value} {Z : State} (hw : ∀ d ∈ tables_1, d.before a0 Z = true) : (Jvm.Cond.static ({ cls := "com/example/tombstone/tombstone/postgres/ActionFromCatalogPinLaw", name := "expected", desc := "(C)Lcom/example/tombstone/tombstone/postgres/ForeignKey$Action;" } : Jvm.MethodName)).before a0 Z = true := hw _ (List.mem_of_getElem? (i := 70) rfl)
theorem ow71 {a0 : Array Value} {Z : State} (hw : ∀ d ∈ tables_1, d.before a0 Z = true) : (Jvm.Cond.code ({ cls := "com/example/tombstone/tombstone/postgres/ActionFromCatalogPinLaw", name := "expected", desc := "(C)Lcom/example/tombstone/tombstone/postgres/ForeignKey$Action;" } : Jvm.MethodName) method_5_code (1 : Nat) (Option.some (Jvm.ClassFile.FieldType.object "com/example/tombstone/tombstone/postgres/ForeignKey$Action"))).before a0 Z = true := hw _ (List.mem_of_getElem? (i := 71) rfl)
theorem ow72 {a0 : Array Value} {Z : State} (hw : ∀ d ∈ tables_1, d.before a0 Z = true) : (Jvm.Cond.fieldLink "com/example/tombstone/tombstone/postgres/ActionFromCatalogPinLaw" (34 : Nat) "com/example/tombstone/tombstone/postgres/ForeignKey$Action" "CASCADE" "Lcom/example/tombstone/tombstone/postgres/ForeignKey$Action;").before a0 Z = true := hw _ (List.mem_of_getElem? (i := 72) rfl)
theorem ow73 {a0 : Array Value} {Z : State} (hw : ∀ d ∈ tables_1, d.before a0 Z = true) : (Jvm.Cond.fieldLink "com/example/tombstone/tombstone/postgres/ActionFromCatalogPinLaw" (47 : Nat) "com/example/tombstone/tombstone/postgres/ForeignKey$Action" "NO_ACTION" "Lcom/example/tombstone/tombstone/postgres/ForeignKey$Action;").before a0 Z = true := hw _ (List.mem_of_getElem? (i := 73) rfl)
theorem ow74 {a0 : Array Value} {Z : State} (hw : ∀ d ∈ tables_1, d.before a0 Z = true) : (Jvm.Cond.fieldLink "com/example/tombstone/tombstone/postgres/ActionFromCatalogPinLaw" (44 : Nat) "com/example/tombstone/tombstone/postgres/ForeignKey$Action" "RESTRICT" "Lcom/example/tombstone/tombstone/postgres/ForeignKey$Action;").before a0 Z = true := hw _ (List.mem_of_getElem? (i := 74) rfl)
theorem ow75 {a0 : Array Value} {Z : State} (hw : ∀ d ∈ tables_1, d.before a0 Z = true) : (Jvm.Cond.fieldLink "com/example/tombstone/tombstone/postgres/ActionFromCatalogPinLaw" (38 : Nat) "com/example/tombstone/tombstone/postgres/ForeignKey$Action" "SET_NULL" "Lcom/example/tombstone/tombstone/postgres/ForeignKey$Action;").before a0 Z = true := hw _ (List.mem_of_getElem? (i := 75) rfl)
theorem ow76 {a0 : Array Value} {Z : State} (hw : ∀ d ∈ tables_1, d.before a0 Z = true) : (Jvm.Cond.fieldLink "com/example/tombstone/tombstone/postgres/ActionFromCatalogPinLaw" (41 : Nat) "com/example/tombstone/tombstone/postgres/ForeignKey$Action" "SET_DEFAULT" "Lcom/example/tombstone/tombstone/postgres/ForeignKey$Action;").before a0 Z = true := hw _ (List.mem_of_getElem? (i := 76) rfl)
theorem opd_0 : parseMethodDescriptor "(C)Z" = some ⟨[.char], some .boolean⟩ := by decide +kernel
theorem opd_1 : parseMethodDescriptor "(C)[B" = some ⟨[.char], some (.array .byte)⟩ := by decide +kernel
theorem opd_2 : parseMethodDescriptor "([BB)V" = some ⟨[(.array .byte), .byte], none⟩ := by decide +kernel
theorem opd_3 : parseMethodDescriptor "([B[B)Z" = some ⟨[(.array .byte), (.array .byte)], some .boolean⟩ := by decide +kernel
theorem opd_4 : parseMethodDescriptor "()[Lcom/example/tombstone/tombstone/postgres/ForeignKey$Action;" = some ⟨[], some (.array (.object "com/example/tombstone/tombstone/postgres/ForeignKey$Action"))⟩ := by decide +kernel
theorem opd_5 : parseMethodDescriptor "(C)Ljava/lang/String;" = some ⟨[.char], some (.object "java/lang/String")⟩ := by decide +kernel
theorem opd_6 : parseMethodDescriptor "(Ljava/lang/Object;)Z" = some ⟨[(.object "java/lang/Object")], some .boolean⟩ := by decide +kernel
theorem opd_7 : parseMethodDescriptor "(Ljava/lang/String;)Lcom/example/tombstone/tombstone/postgres/ForeignKey$Action;" = some ⟨[(.object "java/lang/String")], some (.object "com/example/tombstone/tombstone/postgres/ForeignKey$Action")⟩ := by decide +kernel
theorem opd_8 : parseMethodDescriptor "(C)Lcom/example/tombstone/tombstone/postgres/ForeignKey$Action;" = some ⟨[.char], some (.object "com/example/tombstone/tombstone/postgres/ForeignKey$Action")⟩ := by decide +kernel
theorem opd_9 : parseMethodDescriptor "(I)C" = some ⟨[.int], some .char⟩ := by decide +kernel
theorem d1_0 : decode method_3_code 0 = .ok (.iload_n 0, 1) := by decide +kernel
theorem d1_1 : decode method_3_code 1 = .ok (.bipush 99, 2) := by decide +kernel
theorem d1_3 : decode method_3_code 3 = .ok (.if_icmp .eq 27, 3) := by decide +kernel
theorem d1_6 : decode method_3_code 6 = .ok (.iload_n 0, 1) := by decide +kernel
theorem d1_7 : decode method_3_code 7 = .ok (.bipush 110, 2) := by decide +kernel
theorem d1_9 : decode method_3_code 9 = .ok (.if_icmp .eq 21, 3) := by decide +kernel
theorem d1_12 : decode method_3_code 12 = .ok (.iload_n 0, 1) := by decide +kernel
theorem d1_13 : decode method_3_code 13 = .ok (.bipush 100, 2) := by decide +kernel
theorem d1_15 : decode method_3_code 15 = .ok (.if_icmp .eq 15, 3) := by decide +kernel
theorem d1_18 : decode method_3_code 18 = .ok (.iload_n 0, 1) := by decide +kernel
theorem d1_19 : decode method_3_code 19 = .ok (.bipush 114, 2) := by decide +kernel
theorem d1_21 : decode method_3_code 21 = .ok (.if_icmp .eq 9, 3) := by decide +kernel
theorem d1_24 : decode method_3_code 24 = .ok (.iload_n 0, 1) := by decide +kernel
theorem d1_25 : decode method_3_code 25 = .ok (.bipush 97, 2) := by decide +kernel
theorem d1_27 : decode method_3_code 27 = .ok (.if_icmp .ne 7, 3) := by decide +kernel
theorem d1_30 : decode method_3_code 30 = .ok (.iconst 1, 1) := by decide +kernel
theorem d1_31 : decode method_3_code 31 = .ok (.goto 4, 3) := by decide +kernel
theorem d1_34 : decode method_3_code 34 = .ok (.iconst 0, 1) := by decide +kernel
theorem d1_35 : decode method_3_code 35 = .ok (.ireturn, 1) := by decide +kernel
theorem d2_0 : decode method_4_code 0 = .ok (.iload_n 0, 1) := by decide +kernel
theorem d2_1 : decode method_4_code 1 = .ok (.ifCond .ne 6, 3) := by decide +kernel
theorem d2_4 : decode method_4_code 4 = .ok (.bipush 99, 2) := by decide +kernel
theorem d2_6 : decode method_4_code 6 = .ok (.ireturn, 1) := by decide +kernel
theorem d2_7 : decode method_4_code 7 = .ok (.iload_n 0, 1) := by decide +kernel
theorem d2_8 : decode method_4_code 8 = .ok (.iconst 1, 1) := by decide +kernel
theorem d2_9 : decode method_4_code 9 = .ok (.if_icmp .ne 6, 3) := by decide +kernel
theorem d2_12 : decode method_4_code 12 = .ok (.bipush 110, 2) := by decide +kernel
theorem d2_14 : decode method_4_code 14 = .ok (.ireturn, 1) := by decide +kernel
theorem d2_15 : decode method_4_code 15 = .ok (.iload_n 0, 1) := by decide +kernel
theorem d2_16 : decode method_4_code 16 = .ok (.iconst 2, 1) := by decide +kernel
theorem d2_17 : decode method_4_code 17 = .ok (.if_icmp .ne 6, 3) := by decide +kernel
theorem d2_20 : decode method_4_code 20 = .ok (.bipush 100, 2) := by decide +kernel
theorem d2_22 : decode method_4_code 22 = .ok (.ireturn, 1) := by decide +kernel
theorem d2_23 : decode method_4_code 23 = .ok (.iload_n 0, 1) := by decide +kernel
theorem d2_24 : decode method_4_code 24 = .ok (.iconst 3, 1) := by decide +kernel
theorem d2_25 : decode method_4_code 25 = .ok (.if_icmp .ne 6, 3) := by decide +kernel
theorem d2_28 : decode method_4_code 28 = .ok (.bipush 114, 2) := by decide +kernel
theorem d2_30 : decode method_4_code 30 = .ok (.ireturn, 1) := by decide +kernel
theorem d2_31 : decode method_4_code 31 = .ok (.bipush 97, 2) := by decide +kernel
theorem d2_33 : decode method_4_code 33 = .ok (.ireturn, 1) := by decide +kernel
theorem d3_0 : decode jdk_42_method_139_code 0 = .ok (.getstatic 38, 3) := by decide +kernel
theorem d3_3 : decode jdk_42_method_139_code 3 = .ok (.ifCond .eq 23, 3) := by decide +kernel
theorem d3_6 : decode jdk_42_method_139_code 6 = .ok (.iload_n 0, 1) := by decide +kernel
theorem d3_7 : decode jdk_42_method_139_code 7 = .ok (.invokestatic 1015, 3) := by decide +kernel
theorem d3_10 : decode jdk_42_method_139_code 10 = .ok (.ifCond .eq 16, 3) := by decide +kernel
theorem d3_13 : decode jdk_42_method_139_code 13 = .ok (.new 10, 3) := by decide +kernel
theorem d3_16 : decode jdk_42_method_139_code 16 = .ok (.dup, 1) := by decide +kernel
theorem d3_17 : decode jdk_42_method_139_code 17 = .ok (.iload_n 0, 1) := by decide +kernel
theorem d3_18 : decode jdk_42_method_139_code 18 = .ok (.invokestatic 1018, 3) := by decide +kernel
theorem d3_21 : decode jdk_42_method_139_code 21 = .ok (.iconst 0, 1) := by decide +kernel
theorem d3_22 : decode jdk_42_method_139_code 22 = .ok (.invokespecial 209, 3) := by decide +kernel
theorem d3_25 : decode jdk_42_method_139_code 25 = .ok (.areturn, 1) := by decide +kernel
theorem d4_0 : decode jdk_43_method_3_code 0 = .ok (.iload_n 0, 1) := by decide +kernel
theorem d4_1 : decode jdk_43_method_3_code 1 = .ok (.sipush 255, 3) := by decide +kernel
theorem d4_4 : decode jdk_43_method_3_code 4 = .ok (.if_icmp .gt 7, 3) := by decide +kernel
theorem d4_7 : decode jdk_43_method_3_code 7 = .ok (.iconst 1, 1) := by decide +kernel
theorem d4_8 : decode jdk_43_method_3_code 8 = .ok (.goto 4, 3) := by decide +kernel
theorem d4_12 : decode jdk_43_method_3_code 12 = .ok (.ireturn, 1) := by decide +kernel
theorem d5_0 : decode jdk_43_method_46_code 0 = .ok (.iconst 1, 1) := by decide +kernel
theorem d5_1 : decode jdk_43_method_46_code 1 = .ok (.newarray .byte, 2) := by decide +kernel
theorem d5_3 : decode jdk_43_method_46_code 3 = .ok (.dup, 1) := by decide +kernel
theorem d5_4 : decode jdk_43_method_46_code 4 = .ok (.iconst 0, 1) := by decide +kernel
theorem d5_5 : decode jdk_43_method_46_code 5 = .ok (.iload_n 0, 1) := by decide +kernel
theorem d5_6 : decode jdk_43_method_46_code 6 = .ok (.i2b, 1) := by decide +kernel
theorem d5_7 : decode jdk_43_method_46_code 7 = .ok (.bastore, 1) := by decide +kernel
theorem d5_8 : decode jdk_43_method_46_code 8 = .ok (.areturn, 1) := by decide +kernel
theorem d6_0 : decode jdk_42_method_151_code 0 = .ok (.aload_n 0, 1) := by decide +kernel
theorem d6_1 : decode jdk_42_method_151_code 1 = .ok (.invokespecial 1, 3) := by decide +kernel
theorem d6_4 : decode jdk_42_method_151_code 4 = .ok (.aload_n 0, 1) := by decide +kernel
theorem d6_5 : decode jdk_42_method_151_code 5 = .ok (.aload_n 1, 1) := by decide +kernel
theorem d6_6 : decode jdk_42_method_151_code 6 = .ok (.putfield 9, 3) := by decide +kernel
theorem d6_9 : decode jdk_42_method_151_code 9 = .ok (.aload_n 0, 1) := by decide +kernel
theorem d6_10 : decode jdk_42_method_151_code 10 = .ok (.iload_n 2, 1) := by decide +kernel
theorem d6_11 : decode jdk_42_method_151_code 11 = .ok (.putfield 15, 3) := by decide +kernel
theorem d6_14 : decode jdk_42_method_151_code 14 = .ok (.return_, 1) := by decide +kernel
theorem d8_0 : decode prog_15_method_6_code 0 = .ok (.invokestatic 56, 3) := by decide +kernel
theorem d8_3 : decode prog_15_method_6_code 3 = .ok (.astore_n 1, 1) := by decide +kernel
theorem d8_4 : decode prog_15_method_6_code 4 = .ok (.aload_n 1, 1) := by decide +kernel
theorem d8_5 : decode prog_15_method_6_code 5 = .ok (.arraylength, 1) := by decide +kernel
theorem d8_6 : decode prog_15_method_6_code 6 = .ok (.istore_n 2, 1) := by decide +kernel
theorem d8_7 : decode prog_15_method_6_code 7 = .ok (.iconst 0, 1) := by decide +kernel
theorem d8_8 : decode prog_15_method_6_code 8 = .ok (.istore_n 3, 1) := by decide +kernel
theorem d8_9 : decode prog_15_method_6_code 9 = .ok (.iload_n 3, 1) := by decide +kernel
theorem d8_10 : decode prog_15_method_6_code 10 = .ok (.iload_n 2, 1) := by decide +kernel
theorem d8_11 : decode prog_15_method_6_code 11 = .ok (.if_icmp .ge 32, 3) := by decide +kernel
theorem d8_14 : decode prog_15_method_6_code 14 = .ok (.aload_n 1, 1) := by decide +kernel
theorem d8_15 : decode prog_15_method_6_code 15 = .ok (.iload_n 3, 1) := by decide +kernel
theorem d8_16 : decode prog_15_method_6_code 16 = .ok (.aaload, 1) := by decide +kernel
theorem d8_17 : decode prog_15_method_6_code 17 = .ok (.astore 4, 2) := by decide +kernel
theorem d8_19 : decode prog_15_method_6_code 19 = .ok (.aload_n 0, 1) := by decide +kernel
theorem d8_20 : decode prog_15_method_6_code 20 = .ok (.aload 4, 2) := by decide +kernel
theorem d8_22 : decode prog_15_method_6_code 22 = .ok (.getfield 38, 3) := by decide +kernel
theorem d8_25 : decode prog_15_method_6_code 25 = .ok (.invokestatic 60, 3) := by decide +kernel
theorem d8_28 : decode prog_15_method_6_code 28 = .ok (.invokevirtual 65, 3) := by decide +kernel
theorem d8_31 : decode prog_15_method_6_code 31 = .ok (.ifCond .eq 6, 3) := by decide +kernel
theorem d8_34 : decode prog_15_method_6_code 34 = .ok (.aload 4, 2) := by decide +kernel
theorem d8_36 : decode prog_15_method_6_code 36 = .ok (.areturn, 1) := by decide +kernel
theorem d8_37 : decode prog_15_method_6_code 37 = .ok (.iinc 3 1, 3) := by decide +kernel
theorem d8_40 : decode prog_15_method_6_code 40 = .ok (.goto (-31), 3) := by decide +kernel
theorem d9_0 : decode prog_15_method_1_code 0 = .ok (.getstatic 19, 3) := by decide +kernel
theorem d9_3 : decode prog_15_method_1_code 3 = .ok (.invokevirtual 23, 3) := by decide +kernel
theorem d9_6 : decode prog_15_method_1_code 6 = .ok (.checkcast 24, 3) := by decide +kernel
theorem d9_9 : decode prog_15_method_1_code 9 = .ok (.areturn, 1) := by decide +kernel
theorem d10_0 : decode jdk_42_method_66_code 0 = .ok (.aload_n 0, 1) := by decide +kernel
theorem d10_1 : decode jdk_42_method_66_code 1 = .ok (.aload_n 1, 1) := by decide +kernel
theorem d10_2 : decode jdk_42_method_66_code 2 = .ok (.if_acmp .ne 5, 3) := by decide +kernel
theorem d10_7 : decode jdk_42_method_66_code 7 = .ok (.aload_n 1, 1) := by decide +kernel
theorem d10_8 : decode jdk_42_method_66_code 8 = .ok (.instanceof 10, 3) := by decide +kernel
theorem d10_11 : decode jdk_42_method_66_code 11 = .ok (.ifCond .eq 43, 3) := by decide +kernel
theorem d10_14 : decode jdk_42_method_66_code 14 = .ok (.aload_n 1, 1) := by decide +kernel
theorem d10_15 : decode jdk_42_method_66_code 15 = .ok (.checkcast 10, 3) := by decide +kernel
theorem d10_18 : decode jdk_42_method_66_code 18 = .ok (.astore_n 2, 1) := by decide +kernel
theorem d10_19 : decode jdk_42_method_66_code 19 = .ok (.getstatic 38, 3) := by decide +kernel
theorem d10_22 : decode jdk_42_method_66_code 22 = .ok (.ifCond .eq 14, 3) := by decide +kernel
theorem d10_25 : decode jdk_42_method_66_code 25 = .ok (.aload_n 0, 1) := by decide +kernel
theorem d10_26 : decode jdk_42_method_66_code 26 = .ok (.getfield 15, 3) := by decide +kernel
theorem d10_29 : decode jdk_42_method_66_code 29 = .ok (.aload_n 2, 1) := by decide +kernel
theorem d10_30 : decode jdk_42_method_66_code 30 = .ok (.getfield 15, 3) := by decide +kernel
theorem d10_33 : decode jdk_42_method_66_code 33 = .ok (.if_icmp .ne 21, 3) := by decide +kernel
theorem d10_36 : decode jdk_42_method_66_code 36 = .ok (.aload_n 0, 1) := by decide +kernel
theorem d10_37 : decode jdk_42_method_66_code 37 = .ok (.getfield 9, 3) := by decide +kernel
theorem d10_40 : decode jdk_42_method_66_code 40 = .ok (.aload_n 2, 1) := by decide +kernel
theorem d10_41 : decode jdk_42_method_66_code 41 = .ok (.getfield 9, 3) := by decide +kernel
theorem d10_44 : decode jdk_42_method_66_code 44 = .ok (.invokestatic 541, 3) := by decide +kernel
theorem d10_47 : decode jdk_42_method_66_code 47 = .ok (.ifCond .eq 7, 3) := by decide +kernel
theorem d10_50 : decode jdk_42_method_66_code 50 = .ok (.iconst 1, 1) := by decide +kernel
theorem d10_51 : decode jdk_42_method_66_code 51 = .ok (.goto 4, 3) := by decide +kernel
theorem d10_54 : decode jdk_42_method_66_code 54 = .ok (.iconst 0, 1) := by decide +kernel
theorem d10_55 : decode jdk_42_method_66_code 55 = .ok (.ireturn, 1) := by decide +kernel
theorem d11_0 : decode jdk_43_method_13_code 0 = .ok (.aload_n 0, 1) := by decide +kernel
theorem d11_1 : decode jdk_43_method_13_code 1 = .ok (.arraylength, 1) := by decide +kernel
theorem d11_2 : decode jdk_43_method_13_code 2 = .ok (.aload_n 1, 1) := by decide +kernel
theorem d11_3 : decode jdk_43_method_13_code 3 = .ok (.arraylength, 1) := by decide +kernel
theorem d11_4 : decode jdk_43_method_13_code 4 = .ok (.if_icmp .ne 30, 3) := by decide +kernel
theorem d11_7 : decode jdk_43_method_13_code 7 = .ok (.iconst 0, 1) := by decide +kernel
theorem d11_8 : decode jdk_43_method_13_code 8 = .ok (.istore_n 2, 1) := by decide +kernel
theorem d11_9 : decode jdk_43_method_13_code 9 = .ok (.iload_n 2, 1) := by decide +kernel
theorem d11_10 : decode jdk_43_method_13_code 10 = .ok (.aload_n 0, 1) := by decide +kernel
theorem d11_11 : decode jdk_43_method_13_code 11 = .ok (.arraylength, 1) := by decide +kernel
theorem d11_12 : decode jdk_43_method_13_code 12 = .ok (.if_icmp .ge 20, 3) := by decide +kernel
theorem d11_15 : decode jdk_43_method_13_code 15 = .ok (.aload_n 0, 1) := by decide +kernel
theorem d11_16 : decode jdk_43_method_13_code 16 = .ok (.iload_n 2, 1) := by decide +kernel
theorem d11_17 : decode jdk_43_method_13_code 17 = .ok (.baload, 1) := by decide +kernel
theorem d11_18 : decode jdk_43_method_13_code 18 = .ok (.aload_n 1, 1) := by decide +kernel
theorem d11_19 : decode jdk_43_method_13_code 19 = .ok (.iload_n 2, 1) := by decide +kernel
theorem d11_20 : decode jdk_43_method_13_code 20 = .ok (.baload, 1) := by decide +kernel
theorem d11_21 : decode jdk_43_method_13_code 21 = .ok (.if_icmp .eq 5, 3) := by decide +kernel
theorem d11_24 : decode jdk_43_method_13_code 24 = .ok (.iconst 0, 1) := by decide +kernel
theorem d11_25 : decode jdk_43_method_13_code 25 = .ok (.ireturn, 1) := by decide +kernel
theorem d11_26 : decode jdk_43_method_13_code 26 = .ok (.iinc 2 1, 3) := by decide +kernel
theorem d11_29 : decode jdk_43_method_13_code 29 = .ok (.goto (-20), 3) := by decide +kernel
theorem d11_32 : decode jdk_43_method_13_code 32 = .ok (.iconst 1, 1) := by decide +kernel
theorem d11_33 : decode jdk_43_method_13_code 33 = .ok (.ireturn, 1) := by decide +kernel
theorem d12_0 : decode method_5_code 0 = .ok (.iload_n 0, 1) := by decide +kernel
theorem d12_1 : decode method_5_code 1 = .ok (.bipush 99, 2) := by decide +kernel
theorem d12_3 : decode method_5_code 3 = .ok (.if_icmp .ne 7, 3) := by decide +kernel
theorem d12_6 : decode method_5_code 6 = .ok (.getstatic 34, 3) := by decide +kernel
theorem d12_9 : decode method_5_code 9 = .ok (.areturn, 1) := by decide +kernel
theorem d12_10 : decode method_5_code 10 = .ok (.iload_n 0, 1) := by decide +kernel
theorem d12_11 : decode method_5_code 11 = .ok (.bipush 110, 2) := by decide +kernel
theorem d12_13 : decode method_5_code 13 = .ok (.if_icmp .ne 7, 3) := by decide +kernel
theorem d12_16 : decode method_5_code 16 = .ok (.getstatic 38, 3) := by decide +kernel
theorem d12_19 : decode method_5_code 19 = .ok (.areturn, 1) := by decide +kernel
theorem d12_20 : decode method_5_code 20 = .ok (.iload_n 0, 1) := by decide +kernel
theorem d12_21 : decode method_5_code 21 = .ok (.bipush 100, 2) := by decide +kernel
theorem d12_23 : decode method_5_code 23 = .ok (.if_icmp .ne 7, 3) := by decide +kernel
theorem d12_26 : decode method_5_code 26 = .ok (.getstatic 41, 3) := by decide +kernel
theorem d12_29 : decode method_5_code 29 = .ok (.areturn, 1) := by decide +kernel
theorem d12_30 : decode method_5_code 30 = .ok (.iload_n 0, 1) := by decide +kernel
theorem d12_31 : decode method_5_code 31 = .ok (.bipush 114, 2) := by decide +kernel
theorem d12_33 : decode method_5_code 33 = .ok (.if_icmp .ne 7, 3) := by decide +kernel
theorem d12_36 : decode method_5_code 36 = .ok (.getstatic 44, 3) := by decide +kernel
theorem d12_39 : decode method_5_code 39 = .ok (.areturn, 1) := by decide +kernel
theorem d12_40 : decode method_5_code 40 = .ok (.getstatic 47, 3) := by decide +kernel
theorem d12_43 : decode method_5_code 43 = .ok (.areturn, 1) := by decide +kernel
theorem opn_0 : plainFor x = true := plainFor_of_name (by first | (simp [plainName, overriddenIn]; done) | decide +kernel)
theorem opn_1 : plainFor (⟨"com/example/tombstone/tombstone/postgres/ActionFromCatalogPinLaw", "isCode", "(C)Z"⟩ : MethodName) = true := plainFor_of_name (by first | (simp [plainName, overriddenIn]; done) | decide +kernel)
theorem opn_2 : plainFor (⟨"com/example/tombstone/tombstone/postgres/ActionFromCatalogPinLaw", "codeAt", "(I)C"⟩ : MethodName) = true := plainFor_of_name (by first | (simp [plainName, overriddenIn]; done) | decide +kernel)
theorem opn_3 : plainFor (⟨"java/lang/String", "valueOf", "(C)Ljava/lang/String;"⟩ : MethodName) = true := plainFor_of_name (by first | (simp [plainName, overriddenIn]; done) | decide +kernel)
theorem opn_4 : plainFor (⟨"java/lang/StringLatin1", "canEncode", "(C)Z"⟩ : MethodName) = true := plainFor_of_name (by first | (simp [plainName, overriddenIn]; done) | decide +kernel)
theorem opn_5 : plainFor (⟨"java/lang/StringLatin1", "toBytes", "(C)[B"⟩ : MethodName) = true := plainFor_of_name (by first | (simp [plainName, overriddenIn]; done) | decide +kernel)
theorem opn_6 : plainFor (⟨"java/lang/String", "<init>", "([BB)V"⟩ : MethodName) = true := plainFor_of_name (by first | (simp [plainName, overriddenIn]; done) | decide +kernel)
theorem opn_8 : plainFor (⟨"com/example/tombstone/tombstone/postgres/ForeignKey$Action", "fromCatalog", "(Ljava/lang/String;)Lcom/example/tombstone/tombstone/postgres/ForeignKey$Action;"⟩ : MethodName) = true := plainFor_of_name (by first | (simp [plainName, overriddenIn]; done) | decide +kernel)
theorem opn_9 : plainFor (⟨"com/example/tombstone/tombstone/postgres/ForeignKey$Action", "values", "()[Lcom/example/tombstone/tombstone/postgres/ForeignKey$Action;"⟩ : MethodName) = true := plainFor_of_name (by first | (simp [plainName, overriddenIn]; done) | decide +kernel)
theorem opn_10 : plainFor (⟨"java/lang/String", "equals", "(Ljava/lang/Object;)Z"⟩ : MethodName) = true := plainFor_of_name (by first | (simp [plainName, overriddenIn]; done) | decide +kernel)
theorem opn_11 : plainFor (⟨"java/lang/StringLatin1", "equals", "([B[B)Z"⟩ : MethodName) = true := plainFor_of_name (by first | (simp [plainName, overriddenIn]; done) | decide +kernel)
theorem opn_12 : plainFor (⟨"com/example/tombstone/tombstone/postgres/ActionFromCatalogPinLaw", "expected", "(C)Lcom/example/tombstone/tombstone/postgres/ForeignKey$Action;"⟩ : MethodName) = true := plainFor_of_name (by first | (simp [plainName, overriddenIn]; done) | decide +kernel)
theorem own_rem (x n : Int32) (k : Int) (hn : n.toInt = k) (h0 : 0 < k) : 0 ≤ ((x &&& 2147483647) % n).toInt ∧ ((x &&& 2147483647) % n).toInt < k := by
  have h1 := (c_and x 2147483647 (by decide)).1
  have h2 := (c_irem (x &&& 2147483647) n k hn).1 h1
  rw [h2]; exact ⟨Int.emod_nonneg _ (by omega), Int.emod_lt_of_pos _ h0⟩
theorem own_cases5 {z : Int32} (h : 0 ≤ z.toInt ∧ z.toInt < 5) : z = 0 ∨ z = 1 ∨ z = 2 ∨ z = 3 ∨ z = 4 := by
  have q : z.toInt = 0 ∨ z.toInt = 1 ∨ z.toInt = 2 ∨ z.toInt = 3 ∨ z.toInt = 4 := by omega
  rcases q with q | q | q | q | q
  · exact Or.inl (Int32.toInt_inj.mp q)
  · exact Or.inr (Or.inl (Int32.toInt_inj.mp q))
  · exact Or.inr (Or.inr (Or.inl (Int32.toInt_inj.mp q)))
  · exact Or.inr (Or.inr (Or.inr (Or.inl (Int32.toInt_inj.mp q))))
  · exact Or.inr (Or.inr (Or.inr (Or.inr (Int32.toInt_inj.mp q))))
theorem own_nb (x : Int32) : nar .byte (x.toInt8.toInt32) = x.toInt8.toInt32 := by
  show x.toInt8.toInt32.toInt8.toInt32 = x.toInt8.toInt32
  simp
theorem own_strarr {Z : State} {h : Heap} {a b : Addr} {C : String} {k : ClassId} {ty : FieldType} {z : Int32} {vs : List Value} {dv : Value} {a0 : Array Value} {n : Nat} (E : Exa Z h a C) (A : Arv Z h b k ty z vs dv) (w : (Cond.instantiable C n).before a0 Z = true) (q : a = b) : False := by
  obtain ⟨cl, A, -⟩ := A
  exact ne_arr E w A q
theorem own_ne0 {args : Array Value} {s : State} {t : Term} {x : Int32} (e : t.eval args s none [] s = some (.int x)) (h : (Cond.not (Cond.eq t (Term.int (0 : Int32)))).value args s none s [] = some true) : ¬ x = 0 := by
  have h := not_v h
  simp only [Cond.value, Term.eval, e] at h
  simpa using h
theorem own_arvstart {s : State} {args : Array Value} {t : Term} {a : Addr} {cl : Cell} {ty : FieldType} {z : Int32} {vs : List Value} {dv : Value} (hf : Fit s) (ev : t.eval args s none [] s = some (.ref a)) (A : Arr s s.heap a cl ty) (hl : (Term.length t).eval args s none [] s = some (.int z)) (hz : ¬ z < 0) (hn : z.toNatClampNeg = vs.length) (H : HasL cl 0 vs) : Arv s s.heap a cl.cls ty z vs dv := by
  obtain ⟨a', cell, e1, e2, e3, e4⟩ := Jvm.Free.SB.Term.length_small hl
  cases ev.symm.trans e1
  cases (Arr.fin (Vm.Alike.refl _) A).symm.trans e2
  exact Arv.start hf A e4 (Value.int.inj e3).symm hz hn H
theorem own_elem {s : State} {args : Array Value} {t u : Term} {a b : Addr} {cl : Cell} {ty : FieldType} {j : Int32} {k : Nat} (ev : t.eval args s none [] s = some (.ref a)) (A : Arr s s.heap a cl ty) (eu : u.eval args s none [] s = some (.ref b)) (h : (Cond.eq (Term.elem t (Term.int j)) u).value args s none s [] = some true) (hj : j.toNatClampNeg = k) : cl.slots[k]? = some (.ref b) := by
  subst hj
  obtain ⟨x, y, e1, e2, -, -⟩ := cmp_v (Or.inl h)
  cases eu.symm.trans e2
  have hx : x = .ref b := by
    have h' := h
    simp only [Cond.value, e1, e2] at h'
    cases x <;> simp at h' ⊢
    exact h'
  subst hx
  exact (elem_in e1 ev (Term.int_eval j) A.1).2
theorem own_code (z : Int32) : z = 99 ∨ z = 110 ∨ z = 100 ∨ z = 114 ∨ z = 97 ∨ (¬ z = 99 ∧ ¬ z = 110 ∧ ¬ z = 100 ∧ ¬ z = 114 ∧ ¬ z = 97) := by
  by_cases h1 : z = 99
  · exact Or.inl h1
  by_cases h2 : z = 110
  · exact Or.inr (Or.inl h2)
  by_cases h3 : z = 100
  · exact Or.inr (Or.inr (Or.inl h3))
  by_cases h4 : z = 114
  · exact Or.inr (Or.inr (Or.inr (Or.inl h4)))
  by_cases h5 : z = 97
  · exact Or.inr (Or.inr (Or.inr (Or.inr (Or.inl h5))))
  exact Or.inr (Or.inr (Or.inr (Or.inr (Or.inr ⟨h1, h2, h3, h4, h5⟩))))
theorem oef_rm1 (m : MethodId) (x0 : Int32) : entryFrame m #[(.int x0)] 1 = mkF m 0 #[.val (.int x0)] [] := by first | (simp [entryFrame, mkF, argsToLocals, Value.category]; done) | rfl
set_option maxRecDepth 65536 in
set_option maxHeartbeats 40000000 in
theorem rm1 (l : Launch) (Z : State) (a0 : Array Value) (hw : ∀ d ∈ tables_1, d.before a0 Z = true) (cc r : Int32) (hr : r = if cc = 99 ∨ cc = 110 ∨ cc = 100 ∨ cc = 114 ∨ cc = 97 then 1 else 0) (h0 : Heap) (n0 : Nat) (O : Old Z n0 h0) :
    Con l Z (⟨"com/example/tombstone/tombstone/postgres/ActionFromCatalogPinLaw", "isCode", "(C)Z"⟩ : MethodName) method_3_code 1 (some .boolean) ({ frames := 0, cells := 0, slots := 0, locals := 0 } : Room) #[(.int cc)] h0 (fun v h L => v = some (.int r) ∧ Fr n0 L ∧ h = h0) := by
  refine own_start (Q := fun v h L => v = some (.int r) ∧ Fr n0 L ∧ h = h0) opn_1 ?_
  intro p e s m below meth c T0 X0 hx hby hml hZ hown hnm hret hlk e0
  have N := Fr.nil n0; have K := Keep.refl h0 []
  refine OG.cast (oef_rm1 m cc) ?_
  refine og_iloadN (pc' := 1) X0 hx rfl (hb hby d1_0) rfl ?_
  refine og_bipush (pc' := 3) (v := (99 : Int32)) X0 hx rfl (hb hby d1_1) rfl ?_
  refine og_icmp_eq (pc1 := 30) (pc2 := 6) X0 hx (hb hby d1_3) (by decide) (by decide) rfl (fun hc3 => ?_) (fun hc3 => ?_)
  · -- pc 30
    subst hc3
    refine og_iconst (pc' := 31) (v := (1 : Int32)) X0 hx rfl (hb hby d1_30) rfl ?_
    refine og_goto (pc' := 35) X0 hx (hb hby d1_31) (by decide) (by decide) ?_
    refine og_retN X0 hx hlk hret (by simp) (hb hby d1_35) (by decide) (by decide) ?_
    rw [e0]; refine ⟨?_, N, rfl⟩
    show some (Value.int (1 : Int32)) = _
    rw [hr]; simp
  · -- pc 6
    refine og_iloadN (pc' := 7) X0 hx rfl (hb hby d1_6) rfl ?_
    refine og_bipush (pc' := 9) (v := (110 : Int32)) X0 hx rfl (hb hby d1_7) rfl ?_
    refine og_icmp_eq (pc1 := 30) (pc2 := 12) X0 hx (hb hby d1_9) (by decide) (by decide) rfl (fun hc9 => ?_) (fun hc9 => ?_)
    · -- pc 30
      subst hc9
      refine og_iconst (pc' := 31) (v := (1 : Int32)) X0 hx rfl (hb hby d1_30) rfl ?_
      refine og_goto (pc' := 35) X0 hx (hb hby d1_31) (by decide) (by decide) ?_
      refine og_retN X0 hx hlk hret (by simp) (hb hby d1_35) (by decide) (by decide) ?_
      rw [e0]; refine ⟨?_, N, rfl⟩
      show some (Value.int (1 : Int32)) = _
      rw [hr]; simp [hc3]
    · -- pc 12
      refine og_iloadN (pc' := 13) X0 hx rfl (hb hby d1_12) rfl ?_
      refine og_bipush (pc' := 15) (v := (100 : Int32)) X0 hx rfl (hb hby d1_13) rfl ?_
      refine og_icmp_eq (pc1 := 30) (pc2 := 18) X0 hx (hb hby d1_15) (by decide) (by decide) rfl (fun hc15 => ?_) (fun hc15 => ?_)
      · -- pc 30
        subst hc15
        refine og_iconst (pc' := 31) (v := (1 : Int32)) X0 hx rfl (hb hby d1_30) rfl ?_
        refine og_goto (pc' := 35) X0 hx (hb hby d1_31) (by decide) (by decide) ?_
        refine og_retN X0 hx hlk hret (by simp) (hb hby d1_35) (by decide) (by decide) ?_
        rw [e0]; refine ⟨?_, N, rfl⟩
        show some (Value.int (1 : Int32)) = _
        rw [hr]; simp [hc3, hc9]
      · -- pc 18
        refine og_iloadN (pc' := 19) X0 hx rfl (hb hby d1_18) rfl ?_
        refine og_bipush (pc' := 21) (v := (114 : Int32)) X0 hx rfl (hb hby d1_19) rfl ?_
        refine og_icmp_eq (pc1 := 30) (pc2 := 24) X0 hx (hb hby d1_21) (by decide) (by decide) rfl (fun hc21 => ?_) (fun hc21 => ?_)
        · -- pc 30
          subst hc21
          refine og_iconst (pc' := 31) (v := (1 : Int32)) X0 hx rfl (hb hby d1_30) rfl ?_
          refine og_goto (pc' := 35) X0 hx (hb hby d1_31) (by decide) (by decide) ?_
          refine og_retN X0 hx hlk hret (by simp) (hb hby d1_35) (by decide) (by decide) ?_
          rw [e0]; refine ⟨?_, N, rfl⟩
          show some (Value.int (1 : Int32)) = _
          rw [hr]; simp [hc3, hc9, hc15]
        · -- pc 24
          refine og_iloadN (pc' := 25) X0 hx rfl (hb hby d1_24) rfl ?_
          refine og_bipush (pc' := 27) (v := (97 : Int32)) X0 hx rfl (hb hby d1_25) rfl ?_
          refine og_icmp_ne (pc1 := 34) (pc2 := 30) X0 hx (hb hby d1_27) (by decide) (by decide) rfl (fun hc27 => ?_) (fun hc27 => ?_)
          · -- pc 34
            refine og_iconst (pc' := 35) (v := (0 : Int32)) X0 hx rfl (hb hby d1_34) rfl ?_
            refine og_retN X0 hx hlk hret (by simp) (hb hby d1_35) (by decide) (by decide) ?_
            rw [e0]; refine ⟨?_, N, rfl⟩
            show some (Value.int (0 : Int32)) = _
            rw [hr]; simp [hc3, hc9, hc15, hc21, hc27]
          · -- pc 30
            subst hc27
            refine og_iconst (pc' := 31) (v := (1 : Int32)) X0 hx rfl (hb hby d1_30) rfl ?_
            refine og_goto (pc' := 35) X0 hx (hb hby d1_31) (by decide) (by decide) ?_
            refine og_retN X0 hx hlk hret (by simp) (hb hby d1_35) (by decide) (by decide) ?_
            rw [e0]; refine ⟨?_, N, rfl⟩
            show some (Value.int (1 : Int32)) = _
            rw [hr]; simp [hc3, hc9, hc15, hc21]
theorem oef_rm2_0 (m : MethodId) (x0 : Int32) : entryFrame m #[(.int x0)] 1 = mkF m 0 #[.val (.int x0)] [] := by first | (simp [entryFrame, mkF, argsToLocals, Value.category]; done) | rfl
set_option maxRecDepth 65536 in
set_option maxHeartbeats 40000000 in
theorem rm2_0 (l : Launch) (Z : State) (a0 : Array Value) (hw : ∀ d ∈ tables_1, d.before a0 Z = true)  (h0 : Heap) (n0 : Nat) (O : Old Z n0 h0) :
    Con l Z (⟨"com/example/tombstone/tombstone/postgres/ActionFromCatalogPinLaw", "codeAt", "(I)C"⟩ : MethodName) method_4_code 1 (some .char) ({ frames := 0, cells := 0, slots := 0, locals := 0 } : Room) #[(.int (0 : Int32))] h0 (fun v h L => v = some (.int (99 : Int32)) ∧ Fr n0 L ∧ h = h0) := by
  refine own_start (Q := fun v h L => v = some (.int (99 : Int32)) ∧ Fr n0 L ∧ h = h0) opn_2 ?_
  intro p e s m below meth c T0 X0 hx hby hml hZ hown hnm hret hlk e0
  have N := Fr.nil n0; have K := Keep.refl h0 []
  refine OG.cast (oef_rm2_0 m (0 : Int32)) ?_
  refine og_iloadN (pc' := 1) X0 hx rfl (hb hby d2_0) rfl ?_
  refine og_if_ne (pc1 := 7) (pc2 := 4) X0 hx (hb hby d2_1) (by decide) (by decide) rfl (fun q => absurd q (by decide)) (fun _ => ?_)
  refine og_bipush (pc' := 6) (v := (99 : Int32)) X0 hx rfl (hb hby d2_4) rfl ?_
  refine og_retN X0 hx hlk hret (by simp) (hb hby d2_6) (by decide) (by decide) ?_
  rw [e0]; exact ⟨rfl, N, rfl⟩
theorem oef_rm2_1 (m : MethodId) (x0 : Int32) : entryFrame m #[(.int x0)] 1 = mkF m 0 #[.val (.int x0)] [] := by first | (simp [entryFrame, mkF, argsToLocals, Value.category]; done) | rfl
set_option maxRecDepth 65536 in
set_option maxHeartbeats 40000000 in
theorem rm2_1 (l : Launch) (Z : State) (a0 : Array Value) (hw : ∀ d ∈ tables_1, d.before a0 Z = true)  (h0 : Heap) (n0 : Nat) (O : Old Z n0 h0) :
    Con l Z (⟨"com/example/tombstone/tombstone/postgres/ActionFromCatalogPinLaw", "codeAt", "(I)C"⟩ : MethodName) method_4_code 1 (some .char) ({ frames := 0, cells := 0, slots := 0, locals := 0 } : Room) #[(.int (1 : Int32))] h0 (fun v h L => v = some (.int (110 : Int32)) ∧ Fr n0 L ∧ h = h0) := by
  refine own_start (Q := fun v h L => v = some (.int (110 : Int32)) ∧ Fr n0 L ∧ h = h0) opn_2 ?_
  intro p e s m below meth c T0 X0 hx hby hml hZ hown hnm hret hlk e0
  have N := Fr.nil n0; have K := Keep.refl h0 []
  refine OG.cast (oef_rm2_1 m (1 : Int32)) ?_
  refine og_iloadN (pc' := 1) X0 hx rfl (hb hby d2_0) rfl ?_
  refine og_if_ne (pc1 := 7) (pc2 := 4) X0 hx (hb hby d2_1) (by decide) (by decide) rfl (fun _ => ?_) (fun q => absurd q (by decide))
  refine og_iloadN (pc' := 8) X0 hx rfl (hb hby d2_7) rfl ?_
  refine og_iconst (pc' := 9) (v := (1 : Int32)) X0 hx rfl (hb hby d2_8) rfl ?_
  refine og_icmp_ne (pc1 := 15) (pc2 := 12) X0 hx (hb hby d2_9) (by decide) (by decide) rfl (fun q => absurd q (by decide)) (fun _ => ?_)
  refine og_bipush (pc' := 14) (v := (110 : Int32)) X0 hx rfl (hb hby d2_12) rfl ?_
  refine og_retN X0 hx hlk hret (by simp) (hb hby d2_14) (by decide) (by decide) ?_
  rw [e0]; exact ⟨rfl, N, rfl⟩
theorem oef_rm2_2 (m : MethodId) (x0 : Int32) : entryFrame m #[(.int x0)] 1 = mkF m 0 #[.val (.int x0)] [] := by first | (simp [entryFrame, mkF, argsToLocals, Value.category]; done) | rfl
set_option maxRecDepth 65536 in
set_option maxHeartbeats 40000000 in
theorem rm2_2 (l : Launch) (Z : State) (a0 : Array Value) (hw : ∀ d ∈ tables_1, d.before a0 Z = true)  (h0 : Heap) (n0 : Nat) (O : Old Z n0 h0) :
    Con l Z (⟨"com/example/tombstone/tombstone/postgres/ActionFromCatalogPinLaw", "codeAt", "(I)C"⟩ : MethodName) method_4_code 1 (some .char) ({ frames := 0, cells := 0, slots := 0, locals := 0 } : Room) #[(.int (2 : Int32))] h0 (fun v h L => v = some (.int (100 : Int32)) ∧ Fr n0 L ∧ h = h0) := by
  refine own_start (Q := fun v h L => v = some (.int (100 : Int32)) ∧ Fr n0 L ∧ h = h0) opn_2 ?_
  intro p e s m below meth c T0 X0 hx hby hml hZ hown hnm hret hlk e0
  have N := Fr.nil n0; have K := Keep.refl h0 []
  refine OG.cast (oef_rm2_2 m (2 : Int32)) ?_
  refine og_iloadN (pc' := 1) X0 hx rfl (hb hby d2_0) rfl ?_
  refine og_if_ne (pc1 := 7) (pc2 := 4) X0 hx (hb hby d2_1) (by decide) (by decide) rfl (fun _ => ?_) (fun q => absurd q (by decide))
  refine og_iloadN (pc' := 8) X0 hx rfl (hb hby d2_7) rfl ?_
  refine og_iconst (pc' := 9) (v := (1 : Int32)) X0 hx rfl (hb hby d2_8) rfl ?_
  refine og_icmp_ne (pc1 := 15) (pc2 := 12) X0 hx (hb hby d2_9) (by decide) (by decide) rfl (fun _ => ?_) (fun q => absurd q (by decide))
  refine og_iloadN (pc' := 16) X0 hx rfl (hb hby d2_15) rfl ?_
  refine og_iconst (pc' := 17) (v := (2 : Int32)) X0 hx rfl (hb hby d2_16) rfl ?_
  refine og_icmp_ne (pc1 := 23) (pc2 := 20) X0 hx (hb hby d2_17) (by decide) (by decide) rfl (fun q => absurd q (by decide)) (fun _ => ?_)
  refine og_bipush (pc' := 22) (v := (100 : Int32)) X0 hx rfl (hb hby d2_20) rfl ?_
  refine og_retN X0 hx hlk hret (by simp) (hb hby d2_22) (by decide) (by decide) ?_
  rw [e0]; exact ⟨rfl, N, rfl⟩
theorem oef_rm2_3 (m : MethodId) (x0 : Int32) : entryFrame m #[(.int x0)] 1 = mkF m 0 #[.val (.int x0)] [] := by first | (simp [entryFrame, mkF, argsToLocals, Value.category]; done) | rfl
set_option maxRecDepth 65536 in
set_option maxHeartbeats 40000000 in
theorem rm2_3 (l : Launch) (Z : State) (a0 : Array Value) (hw : ∀ d ∈ tables_1, d.before a0 Z = true)  (h0 : Heap) (n0 : Nat) (O : Old Z n0 h0) :
    Con l Z (⟨"com/example/tombstone/tombstone/postgres/ActionFromCatalogPinLaw", "codeAt", "(I)C"⟩ : MethodName) method_4_code 1 (some .char) ({ frames := 0, cells := 0, slots := 0, locals := 0 } : Room) #[(.int (3 : Int32))] h0 (fun v h L => v = some (.int (114 : Int32)) ∧ Fr n0 L ∧ h = h0) := by
  refine own_start (Q := fun v h L => v = some (.int (114 : Int32)) ∧ Fr n0 L ∧ h = h0) opn_2 ?_
  intro p e s m below meth c T0 X0 hx hby hml hZ hown hnm hret hlk e0
  have N := Fr.nil n0; have K := Keep.refl h0 []
  refine OG.cast (oef_rm2_3 m (3 : Int32)) ?_
  refine og_iloadN (pc' := 1) X0 hx rfl (hb hby d2_0) rfl ?_
  refine og_if_ne (pc1 := 7) (pc2 := 4) X0 hx (hb hby d2_1) (by decide) (by decide) rfl (fun _ => ?_) (fun q => absurd q (by decide))
  refine og_iloadN (pc' := 8) X0 hx rfl (hb hby d2_7) rfl ?_
  refine og_iconst (pc' := 9) (v := (1 : Int32)) X0 hx rfl (hb hby d2_8) rfl ?_
  refine og_icmp_ne (pc1 := 15) (pc2 := 12) X0 hx (hb hby d2_9) (by decide) (by decide) rfl (fun _ => ?_) (fun q => absurd q (by decide))
  refine og_iloadN (pc' := 16) X0 hx rfl (hb hby d2_15) rfl ?_
  refine og_iconst (pc' := 17) (v := (2 : Int32)) X0 hx rfl (hb hby d2_16) rfl ?_
  refine og_icmp_ne (pc1 := 23) (pc2 := 20) X0 hx (hb hby d2_17) (by decide) (by decide) rfl (fun _ => ?_) (fun q => absurd q (by decide))
  refine og_iloadN (pc' := 24) X0 hx rfl (hb hby d2_23) rfl ?_
  refine og_iconst (pc' := 25) (v := (3 : Int32)) X0 hx rfl (hb hby d2_24) rfl ?_
  refine og_icmp_ne (pc1 := 31) (pc2 := 28) X0 hx (hb hby d2_25) (by decide) (by decide) rfl (fun q => absurd q (by decide)) (fun _ => ?_)
  refine og_bipush (pc' := 30) (v := (114 : Int32)) X0 hx rfl (hb hby d2_28) rfl ?_
  refine og_retN X0 hx hlk hret (by simp) (hb hby d2_30) (by decide) (by decide) ?_
  rw [e0]; exact ⟨rfl, N, rfl⟩
theorem oef_rm2_4 (m : MethodId) (x0 : Int32) : entryFrame m #[(.int x0)] 1 = mkF m 0 #[.val (.int x0)] [] := by first | (simp [entryFrame, mkF, argsToLocals, Value.category]; done) | rfl
set_option maxRecDepth 65536 in
set_option maxHeartbeats 40000000 in
theorem rm2_4 (l : Launch) (Z : State) (a0 : Array Value) (hw : ∀ d ∈ tables_1, d.before a0 Z = true)  (h0 : Heap) (n0 : Nat) (O : Old Z n0 h0) :
    Con l Z (⟨"com/example/tombstone/tombstone/postgres/ActionFromCatalogPinLaw", "codeAt", "(I)C"⟩ : MethodName) method_4_code 1 (some .char) ({ frames := 0, cells := 0, slots := 0, locals := 0 } : Room) #[(.int (4 : Int32))] h0 (fun v h L => v = some (.int (97 : Int32)) ∧ Fr n0 L ∧ h = h0) := by
  refine own_start (Q := fun v h L => v = some (.int (97 : Int32)) ∧ Fr n0 L ∧ h = h0) opn_2 ?_
  intro p e s m below meth c T0 X0 hx hby hml hZ hown hnm hret hlk e0
  have N := Fr.nil n0; have K := Keep.refl h0 []
  refine OG.cast (oef_rm2_4 m (4 : Int32)) ?_
  refine og_iloadN (pc' := 1) X0 hx rfl (hb hby d2_0) rfl ?_
  refine og_if_ne (pc1 := 7) (pc2 := 4) X0 hx (hb hby d2_1) (by decide) (by decide) rfl (fun _ => ?_) (fun q => absurd q (by decide))
  refine og_iloadN (pc' := 8) X0 hx rfl (hb hby d2_7) rfl ?_
  refine og_iconst (pc' := 9) (v := (1 : Int32)) X0 hx rfl (hb hby d2_8) rfl ?_
  refine og_icmp_ne (pc1 := 15) (pc2 := 12) X0 hx (hb hby d2_9) (by decide) (by decide) rfl (fun _ => ?_) (fun q => absurd q (by decide))
  refine og_iloadN (pc' := 16) X0 hx rfl (hb hby d2_15) rfl ?_
  refine og_iconst (pc' := 17) (v := (2 : Int32)) X0 hx rfl (hb hby d2_16) rfl ?_
  refine og_icmp_ne (pc1 := 23) (pc2 := 20) X0 hx (hb hby d2_17) (by decide) (by decide) rfl (fun _ => ?_) (fun q => absurd q (by decide))
  refine og_iloadN (pc' := 24) X0 hx rfl (hb hby d2_23) rfl ?_
  refine og_iconst (pc' := 25) (v := (3 : Int32)) X0 hx rfl (hb hby d2_24) rfl ?_
  refine og_icmp_ne (pc1 := 31) (pc2 := 28) X0 hx (hb hby d2_25) (by decide) (by decide) rfl (fun _ => ?_) (fun q => absurd q (by decide))
  refine og_bipush (pc' := 33) (v := (97 : Int32)) X0 hx rfl (hb hby d2_31) rfl ?_
  refine og_retN X0 hx hlk hret (by simp) (hb hby d2_33) (by decide) (by decide) ?_
  rw [e0]; exact ⟨rfl, N, rfl⟩
theorem oef_rm12_0 (m : MethodId) (x0 : Int32) : entryFrame m #[(.int x0)] 1 = mkF m 0 #[.val (.int x0)] [] := by first | (simp [entryFrame, mkF, argsToLocals, Value.category]; done) | rfl
set_option maxRecDepth 65536 in
set_option maxHeartbeats 40000000 in
theorem rm12_0 (l : Launch) (Z : State) (a0 : Array Value) (hw : ∀ d ∈ tables_1, d.before a0 Z = true) (w0 w1 w2 w3 w4 : Addr) (h0 : Heap) (n0 : Nat) (O : Old Z n0 h0) (S_CASCADE : Sta Z Z.heap "com/example/tombstone/tombstone/postgres/ForeignKey$Action" "CASCADE" "Lcom/example/tombstone/tombstone/postgres/ForeignKey$Action;" (.ref w0)) (S_SET_NULL : Sta Z Z.heap "com/example/tombstone/tombstone/postgres/ForeignKey$Action" "SET_NULL" "Lcom/example/tombstone/tombstone/postgres/ForeignKey$Action;" (.ref w1)) (S_SET_DEFAULT : Sta Z Z.heap "com/example/tombstone/tombstone/postgres/ForeignKey$Action" "SET_DEFAULT" "Lcom/example/tombstone/tombstone/postgres/ForeignKey$Action;" (.ref w2)) (S_RESTRICT : Sta Z Z.heap "com/example/tombstone/tombstone/postgres/ForeignKey$Action" "RESTRICT" "Lcom/example/tombstone/tombstone/postgres/ForeignKey$Action;" (.ref w3)) (S_NO_ACTION : Sta Z Z.heap "com/example/tombstone/tombstone/postgres/ForeignKey$Action" "NO_ACTION" "Lcom/example/tombstone/tombstone/postgres/ForeignKey$Action;" (.ref w4)) :
    Con l Z (⟨"com/example/tombstone/tombstone/postgres/ActionFromCatalogPinLaw", "expected", "(C)Lcom/example/tombstone/tombstone/postgres/ForeignKey$Action;"⟩ : MethodName) method_5_code 1 (some (.object "com/example/tombstone/tombstone/postgres/ForeignKey$Action")) ({ frames := 0, cells := 0, slots := 0, locals := 0 } : Room) #[(.int (99 : Int32))] h0 (fun v h L => v = some (.ref w0) ∧ Fr n0 L ∧ h = h0) := by
  refine own_start (Q := fun v h L => v = some (.ref w0) ∧ Fr n0 L ∧ h = h0) opn_12 ?_
  intro p e s m below meth c T0 X0 hx hby hml hZ hown hnm hret hlk e0
  have N := Fr.nil n0; have K := Keep.refl h0 []
  refine OG.cast (oef_rm12_0 m (99 : Int32)) ?_
  refine og_iloadN (pc' := 1) X0 hx rfl (hb hby d12_0) rfl ?_
  refine og_bipush (pc' := 3) (v := (99 : Int32)) X0 hx rfl (hb hby d12_1) rfl ?_
  refine og_icmp_ne (pc1 := 10) (pc2 := 6) X0 hx (hb hby d12_3) (by decide) (by decide) rfl (fun q => absurd q (by decide)) (fun _ => ?_)
  refine og_getstatic (pc' := 9) X0 hx hZ (host := "") hown (Or.inl (ow72 hw)) Via.refl e0 (S_CASCADE.ext O.2) (hb hby d12_6) rfl (fun T11 X11 e11 => ?_)
  refine og_retR X11 hx hlk hret rfl rfl rfl (hb hby d12_9) (by decide) (by decide) ?_
  rw [e11]; exact ⟨rfl, N, rfl⟩
theorem oef_rm12_1 (m : MethodId) (x0 : Int32) : entryFrame m #[(.int x0)] 1 = mkF m 0 #[.val (.int x0)] [] := by first | (simp [entryFrame, mkF, argsToLocals, Value.category]; done) | rfl
set_option maxRecDepth 65536 in
set_option maxHeartbeats 40000000 in
theorem rm12_1 (l : Launch) (Z : State) (a0 : Array Value) (hw : ∀ d ∈ tables_1, d.before a0 Z = true) (w0 w1 w2 w3 w4 : Addr) (h0 : Heap) (n0 : Nat) (O : Old Z n0 h0) (S_CASCADE : Sta Z Z.heap "com/example/tombstone/tombstone/postgres/ForeignKey$Action" "CASCADE" "Lcom/example/tombstone/tombstone/postgres/ForeignKey$Action;" (.ref w0)) (S_SET_NULL : Sta Z Z.heap "com/example/tombstone/tombstone/postgres/ForeignKey$Action" "SET_NULL" "Lcom/example/tombstone/tombstone/postgres/ForeignKey$Action;" (.ref w1)) (S_SET_DEFAULT : Sta Z Z.heap "com/example/tombstone/tombstone/postgres/ForeignKey$Action" "SET_DEFAULT" "Lcom/example/tombstone/tombstone/postgres/ForeignKey$Action;" (.ref w2)) (S_RESTRICT : Sta Z Z.heap "com/example/tombstone/tombstone/postgres/ForeignKey$Action" "RESTRICT" "Lcom/example/tombstone/tombstone/postgres/ForeignKey$Action;" (.ref w3)) (S_NO_ACTION : Sta Z Z.heap "com/example/tombstone/tombstone/postgres/ForeignKey$Action" "NO_ACTION" "Lcom/example/tombstone/tombstone/postgres/ForeignKey$Action;" (.ref w4)) :
    Con l Z (⟨"com/example/tombstone/tombstone/postgres/ActionFromCatalogPinLaw", "expected", "(C)Lcom/example/tombstone/tombstone/postgres/ForeignKey$Action;"⟩ : MethodName) method_5_code 1 (some (.object "com/example/tombstone/tombstone/postgres/ForeignKey$Action")) ({ frames := 0, cells := 0, slots := 0, locals := 0 } : Room) #[(.int (110 : Int32))] h0 (fun v h L => v = some (.ref w1) ∧ Fr n0 L ∧ h = h0) := by
  refine own_start (Q := fun v h L => v = some (.ref w1) ∧ Fr n0 L ∧ h = h0) opn_12 ?_
  intro p e s m below meth c T0 X0 hx hby hml hZ hown hnm hret hlk e0
  have N := Fr.nil n0; have K := Keep.refl h0 []
  refine OG.cast (oef_rm12_1 m (110 : Int32)) ?_
  refine og_iloadN (pc' := 1) X0 hx rfl (hb hby d12_0) rfl ?_
  refine og_bipush (pc' := 3) (v := (99 : Int32)) X0 hx rfl (hb hby d12_1) rfl ?_
  refine og_icmp_ne (pc1 := 10) (pc2 := 6) X0 hx (hb hby d12_3) (by decide) (by decide) rfl (fun _ => ?_) (fun q => absurd q (by decide))
  refine og_iloadN (pc' := 11) X0 hx rfl (hb hby d12_10) rfl ?_
  refine og_bipush (pc' := 13) (v := (110 : Int32)) X0 hx rfl (hb hby d12_11) rfl ?_
  refine og_icmp_ne (pc1 := 20) (pc2 := 16) X0 hx (hb hby d12_13) (by decide) (by decide) rfl (fun q => absurd q (by decide)) (fun _ => ?_)
  refine og_getstatic (pc' := 19) X0 hx hZ (host := "") hown (Or.inl (ow75 hw)) Via.refl e0 (S_SET_NULL.ext O.2) (hb hby d12_16) rfl (fun T11 X11 e11 => ?_)
  refine og_retR X11 hx hlk hret rfl rfl rfl (hb hby d12_19) (by decide) (by decide) ?_
  rw [e11]; exact ⟨rfl, N, rfl⟩
theorem oef_rm12_2 (m : MethodId) (x0 : Int32) : entryFrame m #[(.int x0)] 1 = mkF m 0 #[.val (.int x0)] [] := by first | (simp [entryFrame, mkF, argsToLocals, Value.category]; done) | rfl
set_option maxRecDepth 65536 in
set_option maxHeartbeats 40000000 in
theorem rm12_2 (l : Launch) (Z : State) (a0 : Array Value) (hw : ∀ d ∈ tables_1, d.before a0 Z = true) (w0 w1 w2 w3 w4 : Addr) (h0 : Heap) (n0 : Nat) (O : Old Z n0 h0) (S_CASCADE : Sta Z Z.heap "com/example/tombstone/tombstone/postgres/ForeignKey$Action" "CASCADE" "Lcom/example/tombstone/tombstone/postgres/ForeignKey$Action;" (.ref w0)) (S_SET_NULL : Sta Z Z.heap "com/example/tombstone/tombstone/postgres/ForeignKey$Action" "SET_NULL" "Lcom/example/tombstone/tombstone/postgres/ForeignKey$Action;" (.ref w1)) (S_SET_DEFAULT : Sta Z Z.heap "com/example/tombstone/tombstone/postgres/ForeignKey$Action" "SET_DEFAULT" "Lcom/example/tombstone/tombstone/postgres/ForeignKey$Action;" (.ref w2)) (S_RESTRICT : Sta Z Z.heap "com/example/tombstone/tombstone/postgres/ForeignKey$Action" "RESTRICT" "Lcom/example/tombstone/tombstone/postgres/ForeignKey$Action;" (.ref w3)) (S_NO_ACTION : Sta Z Z.heap "com/example/tombstone/tombstone/postgres/ForeignKey$Action" "NO_ACTION" "Lcom/example/tombstone/tombstone/postgres/ForeignKey$Action;" (.ref w4)) :
    Con l Z (⟨"com/example/tombstone/tombstone/postgres/ActionFromCatalogPinLaw", "expected", "(C)Lcom/example/tombstone/tombstone/postgres/ForeignKey$Action;"⟩ : MethodName) method_5_code 1 (some (.object "com/example/tombstone/tombstone/postgres/ForeignKey$Action")) ({ frames := 0, cells := 0, slots := 0, locals := 0 } : Room) #[(.int (100 : Int32))] h0 (fun v h L => v = some (.ref w2) ∧ Fr n0 L ∧ h = h0) := by
  refine own_start (Q := fun v h L => v = some (.ref w2) ∧ Fr n0 L ∧ h = h0) opn_12 ?_
  intro p e s m below meth c T0 X0 hx hby hml hZ hown hnm hret hlk e0
  have N := Fr.nil n0; have K := Keep.refl h0 []
  refine OG.cast (oef_rm12_2 m (100 : Int32)) ?_
  refine og_iloadN (pc' := 1) X0 hx rfl (hb hby d12_0) rfl ?_
  refine og_bipush (pc' := 3) (v := (99 : Int32)) X0 hx rfl (hb hby d12_1) rfl ?_
  refine og_icmp_ne (pc1 := 10) (pc2 := 6) X0 hx (hb hby d12_3) (by decide) (by decide) rfl (fun _ => ?_) (fun q => absurd q (by decide))
  refine og_iloadN (pc' := 11) X0 hx rfl (hb hby d12_10) rfl ?_
  refine og_bipush (pc' := 13) (v := (110 : Int32)) X0 hx rfl (hb hby d12_11) rfl ?_
  refine og_icmp_ne (pc1 := 20) (pc2 := 16) X0 hx (hb hby d12_13) (by decide) (by decide) rfl (fun _ => ?_) (fun q => absurd q (by decide))
  refine og_iloadN (pc' := 21) X0 hx rfl (hb hby d12_20) rfl ?_
  refine og_bipush (pc' := 23) (v := (100 : Int32)) X0 hx rfl (hb hby d12_21) rfl ?_
  refine og_icmp_ne (pc1 := 30) (pc2 := 26) X0 hx (hb hby d12_23) (by decide) (by decide) rfl (fun q => absurd q (by decide)) (fun _ => ?_)
  refine og_getstatic (pc' := 29) X0 hx hZ (host := "") hown (Or.inl (ow76 hw)) Via.refl e0 (S_SET_DEFAULT.ext O.2) (hb hby d12_26) rfl (fun T11 X11 e11 => ?_)
  refine og_retR X11 hx hlk hret rfl rfl rfl (hb hby d12_29) (by decide) (by decide) ?_
  rw [e11]; exact ⟨rfl, N, rfl⟩
theorem oef_rm12_3 (m : MethodId) (x0 : Int32) : entryFrame m #[(.int x0)] 1 = mkF m 0 #[.val (.int x0)] [] := by first | (simp [entryFrame, mkF, argsToLocals, Value.category]; done) | rfl
set_option maxRecDepth 65536 in
set_option maxHeartbeats 40000000 in
theorem rm12_3 (l : Launch) (Z : State) (a0 : Array Value) (hw : ∀ d ∈ tables_1, d.before a0 Z = true) (w0 w1 w2 w3 w4 : Addr) (h0 : Heap) (n0 : Nat) (O : Old Z n0 h0) (S_CASCADE : Sta Z Z.heap "com/example/tombstone/tombstone/postgres/ForeignKey$Action" "CASCADE" "Lcom/example/tombstone/tombstone/postgres/ForeignKey$Action;" (.ref w0)) (S_SET_NULL : Sta Z Z.heap "com/example/tombstone/tombstone/postgres/ForeignKey$Action" "SET_NULL" "Lcom/example/tombstone/tombstone/postgres/ForeignKey$Action;" (.ref w1)) (S_SET_DEFAULT : Sta Z Z.heap "com/example/tombstone/tombstone/postgres/ForeignKey$Action" "SET_DEFAULT" "Lcom/example/tombstone/tombstone/postgres/ForeignKey$Action;" (.ref w2)) (S_RESTRICT : Sta Z Z.heap "com/example/tombstone/tombstone/postgres/ForeignKey$Action" "RESTRICT" "Lcom/example/tombstone/tombstone/postgres/ForeignKey$Action;" (.ref w3)) (S_NO_ACTION : Sta Z Z.heap "com/example/tombstone/tombstone/postgres/ForeignKey$Action" "NO_ACTION" "Lcom/example/tombstone/tombstone/postgres/ForeignKey$Action;" (.ref w4)) :
    Con l Z (⟨"com/example/tombstone/tombstone/postgres/ActionFromCatalogPinLaw", "expected", "(C)Lcom/example/tombstone/tombstone/postgres/ForeignKey$Action;"⟩ : MethodName) method_5_code 1 (some (.object "com/example/tombstone/tombstone/postgres/ForeignKey$Action")) ({ frames := 0, cells := 0, slots := 0, locals := 0 } : Room) #[(.int (114 : Int32))] h0 (fun v h L => v = some (.ref w3) ∧ Fr n0 L ∧ h = h0) := by
  refine own_start (Q := fun v h L => v = some (.ref w3) ∧ Fr n0 L ∧ h = h0) opn_12 ?_
  intro p e s m below meth c T0 X0 hx hby hml hZ hown hnm hret hlk e0
  have N := Fr.nil n0; have K := Keep.refl h0 []
  refine OG.cast (oef_rm12_3 m (114 : Int32)) ?_
  refine og_iloadN (pc' := 1) X0 hx rfl (hb hby d12_0) rfl ?_
  refine og_bipush (pc' := 3) (v := (99 : Int32)) X0 hx rfl (hb hby d12_1) rfl ?_
  refine og_icmp_ne (pc1 := 10) (pc2 := 6) X0 hx (hb hby d12_3) (by decide) (by decide) rfl (fun _ => ?_) (fun q => absurd q (by decide))
  refine og_iloadN (pc' := 11) X0 hx rfl (hb hby d12_10) rfl ?_
  refine og_bipush (pc' := 13) (v := (110 : Int32)) X0 hx rfl (hb hby d12_11) rfl ?_
  refine og_icmp_ne (pc1 := 20) (pc2 := 16) X0 hx (hb hby d12_13) (by decide) (by decide) rfl (fun _ => ?_) (fun q => absurd q (by decide))
  refine og_iloadN (pc' := 21) X0 hx rfl (hb hby d12_20) rfl ?_
  refine og_bipush (pc' := 23) (v := (100 : Int32)) X0 hx rfl (hb hby d12_21) rfl ?_
  refine og_icmp_ne (pc1 := 30) (pc2 := 26) X0 hx (hb hby d12_23) (by decide) (by decide) rfl (fun _ => ?_) (fun q => absurd q (by decide))
  refine og_iloadN (pc' := 31) X0 hx rfl (hb hby d12_30) rfl ?_
  refine og_bipush (pc' := 33) (v := (114 : Int32)) X0 hx rfl (hb hby d12_31) rfl ?_
  refine og_icmp_ne (pc1 := 40) (pc2 := 36) X0 hx (hb hby d12_33) (by decide) (by decide) rfl (fun q => absurd q (by decide)) (fun _ => ?_)
  refine og_getstatic (pc' := 39) X0 hx hZ (host := "") hown (Or.inl (ow74 hw)) Via.refl e0 (S_RESTRICT.ext O.2) (hb hby d12_36) rfl (fun T11 X11 e11 => ?_)
  refine og_retR X11 hx hlk hret rfl rfl rfl (hb hby d12_39) (by decide) (by decide) ?_
  rw [e11]; exact ⟨rfl, N, rfl⟩
theorem oef_rm12_4 (m : MethodId) (x0 : Int32) : entryFrame m #[(.int x0)] 1 = mkF m 0 #[.val (.int x0)] [] := by first | (simp [entryFrame, mkF, argsToLocals, Value.category]; done) | rfl
set_option maxRecDepth 65536 in
set_option maxHeartbeats 40000000 in
theorem rm12_4 (l : Launch) (Z : State) (a0 : Array Value) (hw : ∀ d ∈ tables_1, d.before a0 Z = true) (w0 w1 w2 w3 w4 : Addr) (h0 : Heap) (n0 : Nat) (O : Old Z n0 h0) (S_CASCADE : Sta Z Z.heap "com/example/tombstone/tombstone/postgres/ForeignKey$Action" "CASCADE" "Lcom/example/tombstone/tombstone/postgres/ForeignKey$Action;" (.ref w0)) (S_SET_NULL : Sta Z Z.heap "com/example/tombstone/tombstone/postgres/ForeignKey$Action" "SET_NULL" "Lcom/example/tombstone/tombstone/postgres/ForeignKey$Action;" (.ref w1)) (S_SET_DEFAULT : Sta Z Z.heap "com/example/tombstone/tombstone/postgres/ForeignKey$Action" "SET_DEFAULT" "Lcom/example/tombstone/tombstone/postgres/ForeignKey$Action;" (.ref w2)) (S_RESTRICT : Sta Z Z.heap "com/example/tombstone/tombstone/postgres/ForeignKey$Action" "RESTRICT" "Lcom/example/tombstone/tombstone/postgres/ForeignKey$Action;" (.ref w3)) (S_NO_ACTION : Sta Z Z.heap "com/example/tombstone/tombstone/postgres/ForeignKey$Action" "NO_ACTION" "Lcom/example/tombstone/tombstone/postgres/ForeignKey$Action;" (.ref w4)) :
    Con l Z (⟨"com/example/tombstone/tombstone/postgres/ActionFromCatalogPinLaw", "expected", "(C)Lcom/example/tombstone/tombstone/postgres/ForeignKey$Action;"⟩ : MethodName) method_5_code 1 (some (.object "com/example/tombstone/tombstone/postgres/ForeignKey$Action")) ({ frames := 0, cells := 0, slots := 0, locals := 0 } : Room) #[(.int (97 : Int32))] h0 (fun v h L => v = some (.ref w4) ∧ Fr n0 L ∧ h = h0) := by
  refine own_start (Q := fun v h L => v = some (.ref w4) ∧ Fr n0 L ∧ h = h0) opn_12 ?_
  intro p e s m below meth c T0 X0 hx hby hml hZ hown hnm hret hlk e0
  have N := Fr.nil n0; have K := Keep.refl h0 []
  refine OG.cast (oef_rm12_4 m (97 : Int32)) ?_
  refine og_iloadN (pc' := 1) X0 hx rfl (hb hby d12_0) rfl ?_
  refine og_bipush (pc' := 3) (v := (99 : Int32)) X0 hx rfl (hb hby d12_1) rfl ?_
  refine og_icmp_ne (pc1 := 10) (pc2 := 6) X0 hx (hb hby d12_3) (by decide) (by decide) rfl (fun _ => ?_) (fun q => absurd q (by decide))
  refine og_iloadN (pc' := 11) X0 hx rfl (hb hby d12_10) rfl ?_
  refine og_bipush (pc' := 13) (v := (110 : Int32)) X0 hx rfl (hb hby d12_11) rfl ?_
  refine og_icmp_ne (pc1 := 20) (pc2 := 16) X0 hx (hb hby d12_13) (by decide) (by decide) rfl (fun _ => ?_) (fun q => absurd q (by decide))
  refine og_iloadN (pc' := 21) X0 hx rfl (hb hby d12_20) rfl ?_
  refine og_bipush (pc' := 23) (v := (100 : Int32)) X0 hx rfl (hb hby d12_21) rfl ?_
  refine og_icmp_ne (pc1 := 30) (pc2 := 26) X0 hx (hb hby d12_23) (by decide) (by decide) rfl (fun _ => ?_) (fun q => absurd q (by decide))
  refine og_iloadN (pc' := 31) X0 hx rfl (hb hby d12_30) rfl ?_
  refine og_bipush (pc' := 33) (v := (114 : Int32)) X0 hx rfl (hb hby d12_31) rfl ?_
  refine og_icmp_ne (pc1 := 40) (pc2 := 36) X0 hx (hb hby d12_33) (by decide) (by decide) rfl (fun _ => ?_) (fun q => absurd q (by decide))
  refine og_getstatic (pc' := 43) X0 hx hZ (host := "") hown (Or.inl (ow73 hw)) Via.refl e0 (S_NO_ACTION.ext O.2) (hb hby d12_40) rfl (fun T11 X11 e11 => ?_)
  refine og_retR X11 hx hlk hret rfl rfl rfl (hb hby d12_43) (by decide) (by decide) ?_
  rw [e11]; exact ⟨rfl, N, rfl⟩
theorem oef_rm_can (m : MethodId) (x0 : Int32) : entryFrame m #[(.int x0)] 1 = mkF m 0 #[.val (.int x0)] [] := by first | (simp [entryFrame, mkF, argsToLocals, Value.category]; done) | rfl
set_option maxRecDepth 65536 in
set_option maxHeartbeats 40000000 in
theorem rm_can (l : Launch) (Z : State) (a0 : Array Value) (hw : ∀ d ∈ tables_1, d.before a0 Z = true) (cc : Int32) (hcc : ¬ 255 < cc) (h0 : Heap) (n0 : Nat) (O : Old Z n0 h0) :
    Con l Z (⟨"java/lang/StringLatin1", "canEncode", "(C)Z"⟩ : MethodName) jdk_43_method_3_code 1 (some .boolean) ({ frames := 0, cells := 0, slots := 0, locals := 0 } : Room) #[(.int cc)] h0 (fun v h L => v = some (.int 1) ∧ Fr n0 L ∧ h = h0) := by
  refine own_start (Q := fun v h L => v = some (.int 1) ∧ Fr n0 L ∧ h = h0) opn_4 ?_
  intro p e s m below meth c T0 X0 hx hby hml hZ hown hnm hret hlk e0
  have N := Fr.nil n0; have K := Keep.refl h0 []
  refine OG.cast (oef_rm_can m cc) ?_
  refine og_iloadN (pc' := 1) X0 hx rfl (hb hby d4_0) rfl ?_
  refine og_sipush (pc' := 4) (v := (255 : Int32)) X0 hx rfl (hb hby d4_1) rfl ?_
  refine og_icmp_gt (pc1 := 11) (pc2 := 7) X0 hx (hb hby d4_4) (by decide) (by decide) rfl (fun q => absurd q hcc) (fun _ => ?_)
  refine og_iconst (pc' := 8) (v := (1 : Int32)) X0 hx rfl (hb hby d4_7) rfl ?_
  refine og_goto (pc' := 12) X0 hx (hb hby d4_8) (by decide) (by decide) ?_
  refine og_retN X0 hx hlk hret (by simp) (hb hby d4_12) (by decide) (by decide) ?_
  rw [e0]; exact ⟨rfl, N, rfl⟩
theorem oef_rm_tb (m : MethodId) (x0 : Int32) : entryFrame m #[(.int x0)] 1 = mkF m 0 #[.val (.int x0)] [] := by first | (simp [entryFrame, mkF, argsToLocals, Value.category]; done) | rfl
set_option maxRecDepth 65536 in
set_option maxHeartbeats 40000000 in
theorem rm_tb (l : Launch) (Z : State) (a0 : Array Value) (hw : ∀ d ∈ tables_1, d.before a0 Z = true) (cc : Int32) (h0 : Heap) (n0 : Nat) (O : Old Z n0 h0) :
    Con l Z (⟨"java/lang/StringLatin1", "toBytes", "(C)[B"⟩ : MethodName) jdk_43_method_46_code 1 (some (.array .byte)) ({ frames := 0, cells := 1, slots := 1, locals := 0 } : Room) #[(.int cc)] h0 (fun v h L => ∃ b k, v = some (.ref b) ∧ Fr n0 L ∧ Keep h0 h [] ∧ h0.size ≤ b ∧ Arv Z h b k .byte 1 [.int cc.toInt8.toInt32] (.int 0)) := by
  refine own_start (Q := fun v h L => ∃ b k, v = some (.ref b) ∧ Fr n0 L ∧ Keep h0 h [] ∧ h0.size ≤ b ∧ Arv Z h b k .byte 1 [.int cc.toInt8.toInt32] (.int 0)) opn_5 ?_
  intro p e s m below meth c T0 X0 hx hby hml hZ hown hnm hret hlk e0
  have N := Fr.nil n0; have K := Keep.refl h0 []
  refine OG.cast (oef_rm_tb m cc) ?_
  refine og_iconst (pc' := 1) (v := (1 : Int32)) X0 hx rfl (hb hby d5_0) rfl ?_
  refine og_newarray (pc' := 3) (cells' := 1) (slots' := 1) (cap := 1) (ty := .byte) X0 hx hZ rfl (ow22 hw) e0 (by decide) (by decide) (by decide) (hb hby d5_1) rfl rfl rfl (by decide) (by decide) (fun T11 h11 nb11 kA11 X11 e11 E11 q11 V_nb11 => ?_)
  have s_nb11 : h0.size ≤ nb11 := Nat.le_of_eq q11.symm; have g_nb11 : n0 ≤ nb11 := Nat.le_trans (own_n0 O) s_nb11; have sz_nb11 : h0.size ≤ nb11 := Nat.le_trans K.1 s_nb11
  have O := O.ext E11; have K := K.ext E11
  have V_nb11 : Arv Z h11 nb11 kA11 .byte (1 : Int32) [(.int (0 : Int32))] (.int (0 : Int32)) := V_nb11.pad (pad_rep [] (.int (0 : Int32)) 1)
  refine og_dup (pc' := 4) X11 hx rfl (hb hby d5_3) rfl ?_
  refine og_iconst (pc' := 5) (v := (0 : Int32)) X11 hx rfl (hb hby d5_4) rfl ?_
  refine og_iloadN (pc' := 6) X11 hx rfl (hb hby d5_5) rfl ?_
  refine og_i2b (pc' := 7) X11 hx (hb hby d5_6) rfl ?_
  refine og_bastore (pc' := 8) X11 hx hZ e11 V_nb11 ⟨by decide, by decide⟩ 0 (by decide) (Nat.le_of_ble_eq_true rfl) (hb hby d5_7) rfl (fun T12 h12 X12 e12 W12 V12 => ?_)
  have O := O.wr W12 g_nb11; have K := K.wr W12 (Or.inr sz_nb11)
  have N := Fr.snoc X12 N g_nb11
  have V_nb11 : Arv Z h12 nb11 kA11 .byte (1 : Int32) [(.int (nar .byte (cc.toInt8.toInt32)))] (.int (0 : Int32)) := V12
  rw [own_nb] at V_nb11
  refine og_retR X12 hx hlk hret rfl rfl rfl (hb hby d5_8) (by decide) (by decide) ?_
  rw [e12]; exact ⟨_, _, rfl, N, K, sz_nb11, V_nb11⟩
theorem oef_rm_si (m : MethodId) (x0 : Addr) (x1 : Addr) (x2 : Int32) : entryFrame m #[(.ref x0), (.ref x1), (.int x2)] 3 = mkF m 0 #[.val (.ref x0), .val (.ref x1), .val (.int x2)] [] := by first | (simp [entryFrame, mkF, argsToLocals, Value.category]; done) | rfl
set_option maxRecDepth 65536 in
set_option maxHeartbeats 40000000 in
theorem rm_si (l : Launch) (Z : State) (a0 : Array Value) (hw : ∀ d ∈ tables_1, d.before a0 Z = true) (a1 b1 : Addr) (h0 : Heap) (n0 : Nat) (O : Old Z n0 h0) (E_a1 : Exa Z h0 a1 "java/lang/String") (F_value_a1 : Fld Z h0 a1 "java/lang/String" "value" "[B" .null) (F_coder_a1 : Fld Z h0 a1 "java/lang/String" "coder" "B" (.int (0 : Int32))) (g_a1 : n0 ≤ a1) :
    Con l Z (⟨"java/lang/String", "<init>", "([BB)V"⟩ : MethodName) jdk_42_method_151_code 3 none ({ frames := 1, cells := 0, slots := 0, locals := 12 } : Room) #[(.ref a1), (.ref b1), (.int (0 : Int32))] h0 (fun v h L => v = none ∧ Fr n0 L ∧ Keep h0 h [a1] ∧ Exa Z h a1 "java/lang/String" ∧ Fld Z h a1 "java/lang/String" "value" "[B" (.ref b1) ∧ Fld Z h a1 "java/lang/String" "coder" "B" (.int (0 : Int32))) := by
  refine own_start (Q := fun v h L => v = none ∧ Fr n0 L ∧ Keep h0 h [a1] ∧ Exa Z h a1 "java/lang/String" ∧ Fld Z h a1 "java/lang/String" "value" "[B" (.ref b1) ∧ Fld Z h a1 "java/lang/String" "coder" "B" (.int (0 : Int32))) opn_6 ?_
  intro p e s m below meth c T0 X0 hx hby hml hZ hown hnm hret hlk e0
  have N := Fr.nil n0; have K := Keep.refl h0 [a1]
  refine OG.cast (oef_rm_si m a1 b1 (0 : Int32)) ?_
  refine og_aloadN (pc' := 1) X0 hx rfl rfl (hb hby d6_0) rfl ?_
  refine og_initO (pc' := 4) X0 hx hZ (W := 0) (by rw [hml]; rfl) hown (ow27 hw) (ow28 hw) (ow29 hw) e0 rfl (by decide) (by decide) (hb hby d6_1) rfl (fun T11 X11 e11 => ?_)
  refine og_aloadN (pc' := 5) X11 hx rfl rfl (hb hby d6_4) rfl ?_
  refine og_aloadN (pc' := 6) X11 hx rfl rfl (hb hby d6_5) rfl ?_
  refine og_putfield (pc' := 9) X11 hx hZ (ty := (.array .byte)) (host := "") hown (Or.inl (ow30 hw)) Via.refl e11 F_value_a1 E_a1 (Or.inr ⟨(ow31 hw), rfl, hnm⟩) (ow18 hw) (by decide) rfl rfl (hb hby d6_6) rfl (fun T12 h12 X12 e12 W12 => ?_)
  have F_value_a1_ := F_value_a1.same W12
  have E_a1 := E_a1.wr W12; have F_coder_a1 := F_coder_a1.other W12 (Or.inr (slot_ne (Or.inr (ow33 hw)) (Or.inr (ow31 hw)) (by decide) (t := .byte) (t' := (.array .byte)) (by decide) (by decide))); have O := O.wr W12 g_a1; have K := K.wr W12 (Or.inl (List.mem_of_getElem? (i := 0) rfl))
  have N := Fr.snoc X12 N g_a1; have F_value_a1 := F_value_a1_
  refine og_aloadN (pc' := 10) X12 hx rfl rfl (hb hby d6_9) rfl ?_
  refine og_iloadN (pc' := 11) X12 hx rfl (hb hby d6_10) rfl ?_
  refine og_putfield (pc' := 14) X12 hx hZ (ty := .byte) (host := "") hown (Or.inl (ow32 hw)) Via.refl e12 F_coder_a1 E_a1 (Or.inr ⟨(ow33 hw), rfl, hnm⟩) (ow18 hw) (by decide) rfl rfl (hb hby d6_11) rfl (fun T13 h13 X13 e13 W13 => ?_)
  have F_coder_a1_ := F_coder_a1.same W13
  have E_a1 := E_a1.wr W13; have F_value_a1 := F_value_a1.other W13 (Or.inr (slot_ne (Or.inr (ow31 hw)) (Or.inr (ow33 hw)) (by decide) (t := (.array .byte)) (t' := .byte) (by decide) (by decide))); have O := O.wr W13 g_a1; have K := K.wr W13 (Or.inl (List.mem_of_getElem? (i := 0) rfl))
  have N := Fr.snoc X13 N g_a1; have F_coder_a1 := F_coder_a1_
  refine og_retV X13 hx hlk hret (hb hby d6_14) (by decide) (by decide) ?_
  rw [e13]; exact ⟨rfl, N, K, E_a1, F_value_a1, F_coder_a1⟩
theorem oef_rm_vo (m : MethodId) (x0 : Int32) : entryFrame m #[(.int x0)] 1 = mkF m 0 #[.val (.int x0)] [] := by first | (simp [entryFrame, mkF, argsToLocals, Value.category]; done) | rfl
set_option maxRecDepth 65536 in
set_option maxHeartbeats 40000000 in
theorem rm_vo (l : Launch) (Z : State) (a0 : Array Value) (hw : ∀ d ∈ tables_1, d.before a0 Z = true) (cc : Int32) (hcc : ¬ 255 < cc) (cs : Int32) (hcs : ¬ cs = 0) (h0 : Heap) (n0 : Nat) (O : Old Z n0 h0) (S_CS : Sta Z Z.heap "java/lang/String" "COMPACT_STRINGS" "Z" (.int cs)) :
    Con l Z (⟨"java/lang/String", "valueOf", "(C)Ljava/lang/String;"⟩ : MethodName) jdk_42_method_139_code 1 (some (.object "java/lang/String")) ({ frames := 2, cells := 2, slots := 5, locals := 27 } : Room) #[(.int cc)] h0 (fun v h L => ∃ a b k, v = some (.ref a) ∧ Fr n0 L ∧ Keep h0 h [] ∧ h0.size ≤ a ∧ h0.size ≤ b ∧ Exa Z h a "java/lang/String" ∧ Fld Z h a "java/lang/String" "value" "[B" (.ref b) ∧ Fld Z h a "java/lang/String" "coder" "B" (.int (0 : Int32)) ∧ Arv Z h b k .byte 1 [.int cc.toInt8.toInt32] (.int (0 : Int32))) := by
  refine own_start (Q := fun v h L => ∃ a b k, v = some (.ref a) ∧ Fr n0 L ∧ Keep h0 h [] ∧ h0.size ≤ a ∧ h0.size ≤ b ∧ Exa Z h a "java/lang/String" ∧ Fld Z h a "java/lang/String" "value" "[B" (.ref b) ∧ Fld Z h a "java/lang/String" "coder" "B" (.int (0 : Int32)) ∧ Arv Z h b k .byte 1 [.int cc.toInt8.toInt32] (.int (0 : Int32))) opn_3 ?_
  intro p e s m below meth c T0 X0 hx hby hml hZ hown hnm hret hlk e0
  have N := Fr.nil n0; have K := Keep.refl h0 []
  refine OG.cast (oef_rm_vo m cc) ?_
  refine og_getstatic (pc' := 3) X0 hx hZ (host := "") hown (Or.inl (ow12 hw)) Via.refl e0 (S_CS.ext O.2) (hb hby d3_0) rfl (fun T11 X11 e11 => ?_)
  refine og_if_eq (pc1 := 26) (pc2 := 6) X11 hx (hb hby d3_3) (by decide) (by decide) rfl (fun q => absurd q hcs) (fun _ => ?_)
  refine og_iloadN (pc' := 7) X11 hx rfl (hb hby d3_6) rfl ?_
  refine og_static (pc' := 10) (cells' := 0) (slots' := 0) (W := 0) X11 hx hZ (rm_can l Z a0 hw cc hcc h0 n0 O) hown (ow13 hw) (ow14 hw) (ow15 hw) (ow16 hw) (by decide) (by rw [hml]; rfl) e11 opd_0 [(.int cc)] [] rfl rfl rfl rfl (by decide) (by decide) rfl rfl (by decide) (by decide) (hb hby d3_7) rfl (fun v12 T12 h12 L12 X12 e12 z12 => ?_)
  obtain ⟨rfl, Nq12, hq12⟩ := z12; replace e12 := e12.trans hq12; have N := Fr.app N Nq12
  show OG p e below _ (T12.setTop (mkF m 10 #[.val (.int cc)] [(.int (1 : Int32))]))
  refine og_if_eq (pc1 := 26) (pc2 := 13) X12 hx (hb hby d3_10) (by decide) (by decide) rfl (fun q => absurd q (by decide)) (fun _ => ?_)
  refine og_new (pc' := 16) (cells' := 1) (slots' := 4) X12 hx hZ hown (ow17 hw) (ow18 hw) (ow10 hw) e12 (hb hby d3_13) rfl rfl rfl (by decide) (by decide) (fun T13 h13 nb13 X13 e13 E13 q13 E_nb13 D13 B13 => ?_)
  have s_nb13 : h0.size ≤ nb13 := Nat.le_of_eq q13.symm; have g_nb13 : n0 ≤ nb13 := Nat.le_trans (own_n0 O) s_nb13; have sz_nb13 : h0.size ≤ nb13 := Nat.le_trans K.1 s_nb13
  have O := O.ext E13; have K := K.ext E13
  have F_value_nb13 : Fld Z h13 nb13 "java/lang/String" "value" "[B" .null := D13 (Or.inr (ow31 hw)) (ty := (.array .byte)) (by decide)
  have F_coder_nb13 : Fld Z h13 nb13 "java/lang/String" "coder" "B" (.int (0 : Int32)) := D13 (Or.inr (ow33 hw)) (ty := .byte) (by decide)
  refine og_dup (pc' := 17) X13 hx rfl (hb hby d3_16) rfl ?_
  refine og_iloadN (pc' := 18) X13 hx rfl (hb hby d3_17) rfl ?_
  refine og_static (pc' := 21) (cells' := 2) (slots' := 5) (W := 2) X13 hx hZ (rm_tb l Z a0 hw cc h13 n0 O) hown (ow19 hw) (ow20 hw) (ow15 hw) (ow21 hw) (by decide) (by rw [hml]; rfl) e13 opd_1 [(.int cc)] [(.ref nb13), (.ref nb13)] rfl rfl rfl rfl (by decide) (by decide) rfl rfl (by decide) (by decide) (hb hby d3_18) rfl (fun v14 T14 h14 L14 X14 e14 z14 => ?_)
  obtain ⟨nb14, k14, rfl, Nq14, K14, sb14, V_nb14⟩ := z14; have N := Fr.app N Nq14
  have s_nb14 : h13.size ≤ nb14 := sb14; have g_nb14 : n0 ≤ nb14 := Nat.le_trans (own_n0 O) s_nb14; have sz_nb14 : h0.size ≤ nb14 := Nat.le_trans K.1 s_nb14; have ne_nb13_nb14 : nb13 ≠ nb14 := Nat.ne_of_lt (Nat.lt_of_lt_of_le E_nb13.lt s_nb14)
  have E_nb13 := E_nb13.keep K14; have F_value_nb13 := F_value_nb13.keep K14 nin0; have F_coder_nb13 := F_coder_nb13.keep K14 nin0; have O := O.keep K14 all0; have K := K.trans K14 all0
  show OG p e below _ (T14.setTop (mkF m 21 #[.val (.int cc)] [(.ref nb14), (.ref nb13), (.ref nb13)]))
  refine og_iconst (pc' := 22) (v := (0 : Int32)) X14 hx rfl (hb hby d3_21) rfl ?_
  refine og_special (pc' := 25) (cells' := 2) (slots' := 5) (W := 1) X14 hx hZ (rm_si l Z a0 hw nb13 nb14 h14 n0 O E_nb13 F_value_nb13 F_coder_nb13 g_nb13) rfl hown (ow23 hw) (ow24 hw) (ow10 hw) (ow26 hw) (by decide) (by rw [hml]; rfl) e14 opd_2 [(.ref nb14), (.int (0 : Int32))] [(.ref nb13)] rfl rfl rfl rfl (by decide) (by decide) rfl rfl (by decide) (by decide) (hb hby d3_22) rfl (fun v15 T15 h15 L15 X15 e15 z15 => ?_)
  obtain ⟨rfl, Nq15, K15, E_nb13', F_value_nb13', F_coder_nb13'⟩ := z15; have N := Fr.app N Nq15
  have E_nb13 := E_nb13.keep K15; have V_nb14 := V_nb14.keep K15 (ninS (Ne.symm ne_nb13_nb14) nin0); have O := O.keep K15 (allS g_nb13 all0); have K := K.trans K15 (allS (Or.inr sz_nb13) all0)
  have E_nb13 := E_nb13'; have F_value_nb13 := F_value_nb13'; have F_coder_nb13 := F_coder_nb13'
  show OG p e below _ (T15.setTop (mkF m 25 #[.val (.int cc)] [(.ref nb13)]))
  refine og_retR X15 hx hlk hret rfl rfl rfl (hb hby d3_25) (by decide) (by decide) ?_
  rw [e15]; exact ⟨_, _, _, rfl, N, K, sz_nb13, sz_nb14, E_nb13, F_value_nb13, F_coder_nb13, V_nb14⟩
theorem oef_rm11_1 (m : MethodId) (x0 : Addr) (x1 : Addr) : entryFrame m #[(.ref x0), (.ref x1)] 3 = mkF m 0 #[.val (.ref x0), .val (.ref x1), .unset] [] := by first | (simp [entryFrame, mkF, argsToLocals, Value.category]; done) | rfl
set_option maxRecDepth 65536 in
set_option maxHeartbeats 40000000 in
theorem rm11_1 (l : Launch) (Z : State) (a0 : Array Value) (hw : ∀ d ∈ tables_1, d.before a0 Z = true) (b1 b2 : Addr) (k1 k2 : ClassId) (x : Int32) (h0 : Heap) (n0 : Nat) (O : Old Z n0 h0) (V_b1 : Arv Z h0 b1 k1 .byte (1 : Int32) [(.int x)] (.int (0 : Int32))) (V_b2 : Arv Z h0 b2 k2 .byte (1 : Int32) [(.int x)] (.int (0 : Int32))) :
    Con l Z (⟨"java/lang/StringLatin1", "equals", "([B[B)Z"⟩ : MethodName) jdk_43_method_13_code 3 (some .boolean) ({ frames := 0, cells := 0, slots := 0, locals := 0 } : Room) #[(.ref b1), (.ref b2)] h0 (fun v h L => v = some (.int (1 : Int32)) ∧ Fr n0 L ∧ h = h0) := by
  refine own_start (Q := fun v h L => v = some (.int (1 : Int32)) ∧ Fr n0 L ∧ h = h0) opn_11 ?_
  intro p e s m below meth c T0 X0 hx hby hml hZ hown hnm hret hlk e0
  have N := Fr.nil n0; have K := Keep.refl h0 []
  refine OG.cast (oef_rm11_1 m b1 b2) ?_
  refine og_aloadN (pc' := 1) X0 hx rfl rfl (hb hby d11_0) rfl ?_
  refine og_arraylength (pc' := 2) X0 hx hZ e0 V_b1 (hb hby d11_1) rfl ?_
  refine og_aloadN (pc' := 3) X0 hx rfl rfl (hb hby d11_2) rfl ?_
  refine og_arraylength (pc' := 4) X0 hx hZ e0 V_b2 (hb hby d11_3) rfl ?_
  refine og_icmp_ne (pc1 := 34) (pc2 := 7) X0 hx (hb hby d11_4) (by decide) (by decide) rfl (fun q => absurd q (by decide)) (fun _ => ?_)
  refine og_iconst (pc' := 8) (v := (0 : Int32)) X0 hx rfl (hb hby d11_7) rfl ?_
  refine og_istoreN (pc' := 9) (L' := #[.val (.ref b1), .val (.ref b2), .val (.int (0 : Int32))]) X0 hx rfl (hb hby d11_8) rfl ?_
  refine og_iloadN (pc' := 10) X0 hx rfl (hb hby d11_9) rfl ?_
  refine og_aloadN (pc' := 11) X0 hx rfl rfl (hb hby d11_10) rfl ?_
  refine og_arraylength (pc' := 12) X0 hx hZ e0 V_b1 (hb hby d11_11) rfl ?_
  refine og_icmp_ge (pc1 := 32) (pc2 := 15) X0 hx (hb hby d11_12) (by decide) (by decide) rfl (fun q => absurd q (by decide)) (fun _ => ?_)
  refine og_aloadN (pc' := 16) X0 hx rfl rfl (hb hby d11_15) rfl ?_
  refine og_iloadN (pc' := 17) X0 hx rfl (hb hby d11_16) rfl ?_
  refine og_baload (pc' := 18) (v := (.int x)) X0 hx hZ e0 V_b1 ⟨by decide, by decide⟩ rfl (hb hby d11_17) rfl ?_
  refine og_aloadN (pc' := 19) X0 hx rfl rfl (hb hby d11_18) rfl ?_
  refine og_iloadN (pc' := 20) X0 hx rfl (hb hby d11_19) rfl ?_
  refine og_baload (pc' := 21) (v := (.int x)) X0 hx hZ e0 V_b2 ⟨by decide, by decide⟩ rfl (hb hby d11_20) rfl ?_
  refine og_icmp_eq (pc1 := 26) (pc2 := 24) X0 hx (hb hby d11_21) (by decide) (by decide) rfl (fun _ => ?_) (fun q => absurd rfl q)
  refine og_iinc (pc' := 29) (L' := #[.val (.ref b1), .val (.ref b2), .val (.int (1 : Int32))]) (w := (1 : Int32)) X0 hx rfl rfl rfl (hb hby d11_26) rfl ?_
  refine og_goto (pc' := 9) X0 hx (hb hby d11_29) (by decide) (by decide) ?_
  refine og_iloadN (pc' := 10) X0 hx rfl (hb hby d11_9) rfl ?_
  refine og_aloadN (pc' := 11) X0 hx rfl rfl (hb hby d11_10) rfl ?_
  refine og_arraylength (pc' := 12) X0 hx hZ e0 V_b1 (hb hby d11_11) rfl ?_
  refine og_icmp_ge (pc1 := 32) (pc2 := 15) X0 hx (hb hby d11_12) (by decide) (by decide) rfl (fun _ => ?_) (fun q => absurd q (by decide))
  refine og_iconst (pc' := 33) (v := (1 : Int32)) X0 hx rfl (hb hby d11_32) rfl ?_
  refine og_retN X0 hx hlk hret (by simp) (hb hby d11_33) (by decide) (by decide) ?_
  rw [e0]; exact ⟨rfl, N, rfl⟩
theorem oef_rm10_1 (m : MethodId) (x0 : Addr) (x1 : Addr) : entryFrame m #[(.ref x0), (.ref x1)] 3 = mkF m 0 #[.val (.ref x0), .val (.ref x1), .unset] [] := by first | (simp [entryFrame, mkF, argsToLocals, Value.category]; done) | rfl
set_option maxRecDepth 65536 in
set_option maxHeartbeats 40000000 in
theorem rm10_1 (l : Launch) (Z : State) (a0 : Array Value) (hw : ∀ d ∈ tables_1, d.before a0 Z = true) (a1 a2 b1 b2 : Addr) (k1 k2 : ClassId) (x : Int32) (cs : Int32) (hcs : ¬ cs = 0) (h0 : Heap) (n0 : Nat) (O : Old Z n0 h0) (E_a1 : Exa Z h0 a1 "java/lang/String") (F_value_a1 : Fld Z h0 a1 "java/lang/String" "value" "[B" (.ref b1)) (F_coder_a1 : Fld Z h0 a1 "java/lang/String" "coder" "B" (.int (0 : Int32))) (V_b1 : Arv Z h0 b1 k1 .byte (1 : Int32) [(.int x)] (.int (0 : Int32))) (E_a2 : Exa Z h0 a2 "java/lang/String") (F_value_a2 : Fld Z h0 a2 "java/lang/String" "value" "[B" (.ref b2)) (F_coder_a2 : Fld Z h0 a2 "java/lang/String" "coder" "B" (.int (0 : Int32))) (V_b2 : Arv Z h0 b2 k2 .byte (1 : Int32) [(.int x)] (.int (0 : Int32))) (S_CS : Sta Z Z.heap "java/lang/String" "COMPACT_STRINGS" "Z" (.int cs)) (ne_a1_a2 : a1 ≠ a2) :
    Con l Z (⟨"java/lang/String", "equals", "(Ljava/lang/Object;)Z"⟩ : MethodName) jdk_42_method_66_code 3 (some .boolean) ({ frames := 1, cells := 0, slots := 0, locals := 14 } : Room) #[(.ref a1), (.ref a2)] h0 (fun v h L => v = some (.int (1 : Int32)) ∧ Fr n0 L ∧ h = h0) := by
  refine own_start (Q := fun v h L => v = some (.int (1 : Int32)) ∧ Fr n0 L ∧ h = h0) opn_10 ?_
  intro p e s m below meth c T0 X0 hx hby hml hZ hown hnm hret hlk e0
  have N := Fr.nil n0; have K := Keep.refl h0 []
  refine OG.cast (oef_rm10_1 m a1 a2) ?_
  refine og_aloadN (pc' := 1) X0 hx rfl rfl (hb hby d10_0) rfl ?_
  refine og_aloadN (pc' := 2) X0 hx rfl rfl (hb hby d10_1) rfl ?_
  refine og_acmp_ne (pc1 := 7) (pc2 := 5) X0 hx rfl rfl (hb hby d10_2) (by decide) (by decide) rfl (fun _ => ?_) (fun q => absurd q (fun q => ne_a1_a2 (Value.ref.inj q)))
  refine og_aloadN (pc' := 8) X0 hx rfl rfl (hb hby d10_7) rfl ?_
  obtain ⟨T11, X11, e11, st11⟩ := instY X0 hx hZ hown (ow17 hw) e0 (Ins.self E_a2) (g := (mkF m 8 #[.val (.ref a1), .val (.ref a2), .unset] [(.ref a2)])) rfl rfl (hb hby d10_8)
  refine OG.of st11 ?_
  show OG p e below _ (T11.setTop (mkF m 11 #[.val (.ref a1), .val (.ref a2), .unset] [(.int (1 : Int32))]))
  refine og_if_eq (pc1 := 54) (pc2 := 14) X11 hx (hb hby d10_11) (by decide) (by decide) rfl (fun q => absurd q (by decide)) (fun _ => ?_)
  refine og_aloadN (pc' := 15) X11 hx rfl rfl (hb hby d10_14) rfl ?_
  obtain ⟨T12, X12, e12, st12⟩ := castY X11 hx hZ hown (ow17 hw) e11 (Ins.self E_a2) (g := (mkF m 15 #[.val (.ref a1), .val (.ref a2), .unset] [(.ref a2)])) rfl rfl (hb hby d10_15)
  refine OG.of st12 ?_
  show OG p e below _ (T12.setTop (mkF m 18 #[.val (.ref a1), .val (.ref a2), .unset] [(.ref a2)]))
  refine og_astoreN (pc' := 19) (L' := #[.val (.ref a1), .val (.ref a2), .val (.ref a2)]) X12 hx rfl rfl (hb hby d10_18) rfl ?_
  refine og_getstatic (pc' := 22) X12 hx hZ (host := "") hown (Or.inl (ow12 hw)) Via.refl e12 (S_CS.ext O.2) (hb hby d10_19) rfl (fun T13 X13 e13 => ?_)
  refine og_if_eq (pc1 := 36) (pc2 := 25) X13 hx (hb hby d10_22) (by decide) (by decide) rfl (fun q => absurd q hcs) (fun _ => ?_)
  refine og_aloadN (pc' := 26) X13 hx rfl rfl (hb hby d10_25) rfl ?_
  refine og_getfield (pc' := 29) X13 hx hZ (host := "") hown (Or.inl (ow32 hw)) Via.refl e13 F_coder_a1 (hb hby d10_26) rfl (fun T14 X14 e14 => ?_)
  refine og_aloadN (pc' := 30) X14 hx rfl rfl (hb hby d10_29) rfl ?_
  refine og_getfield (pc' := 33) X14 hx hZ (host := "") hown (Or.inl (ow32 hw)) Via.refl e14 F_coder_a2 (hb hby d10_30) rfl (fun T15 X15 e15 => ?_)
  refine og_icmp_ne (pc1 := 54) (pc2 := 36) X15 hx (hb hby d10_33) (by decide) (by decide) rfl (fun q => absurd q (by decide)) (fun _ => ?_)
  refine og_aloadN (pc' := 37) X15 hx rfl rfl (hb hby d10_36) rfl ?_
  refine og_getfield (pc' := 40) X15 hx hZ (host := "") hown (Or.inl (ow30 hw)) Via.refl e15 F_value_a1 (hb hby d10_37) rfl (fun T16 X16 e16 => ?_)
  refine og_aloadN (pc' := 41) X16 hx rfl rfl (hb hby d10_40) rfl ?_
  refine og_getfield (pc' := 44) X16 hx hZ (host := "") hown (Or.inl (ow30 hw)) Via.refl e16 F_value_a2 (hb hby d10_41) rfl (fun T17 X17 e17 => ?_)
  refine og_static (pc' := 47) (cells' := 0) (slots' := 0) (W := 0) X17 hx hZ (rm11_1 l Z a0 hw b1 b2 k1 k2 x h0 n0 O V_b1 V_b2) hown (ow66 hw) (ow67 hw) (ow15 hw) (ow68 hw) (by decide) (by rw [hml]; rfl) e17 opd_3 [(.ref b1), (.ref b2)] [] rfl rfl rfl rfl (by decide) (by decide) rfl rfl (by decide) (by decide) (hb hby d10_44) rfl (fun v18 T18 h18 L18 X18 e18 z18 => ?_)
  obtain ⟨rfl, Nq18, hq18⟩ := z18; replace e18 := e18.trans hq18; have N := Fr.app N Nq18
  show OG p e below _ (T18.setTop (mkF m 47 #[.val (.ref a1), .val (.ref a2), .val (.ref a2)] [(.int (1 : Int32))]))
  refine og_if_eq (pc1 := 54) (pc2 := 50) X18 hx (hb hby d10_47) (by decide) (by decide) rfl (fun q => absurd q (by decide)) (fun _ => ?_)
  refine og_iconst (pc' := 51) (v := (1 : Int32)) X18 hx rfl (hb hby d10_50) rfl ?_
  refine og_goto (pc' := 55) X18 hx (hb hby d10_51) (by decide) (by decide) ?_
  refine og_retN X18 hx hlk hret (by simp) (hb hby d10_55) (by decide) (by decide) ?_
  rw [e18]; exact ⟨rfl, N, rfl⟩
theorem oef_rm11_0 (m : MethodId) (x0 : Addr) (x1 : Addr) : entryFrame m #[(.ref x0), (.ref x1)] 3 = mkF m 0 #[.val (.ref x0), .val (.ref x1), .unset] [] := by first | (simp [entryFrame, mkF, argsToLocals, Value.category]; done) | rfl
set_option maxRecDepth 65536 in
set_option maxHeartbeats 40000000 in
theorem rm11_0 (l : Launch) (Z : State) (a0 : Array Value) (hw : ∀ d ∈ tables_1, d.before a0 Z = true) (b1 b2 : Addr) (k1 k2 : ClassId) (x y : Int32) (hne : ¬ x = y) (h0 : Heap) (n0 : Nat) (O : Old Z n0 h0) (V_b1 : Arv Z h0 b1 k1 .byte (1 : Int32) [(.int x)] (.int (0 : Int32))) (V_b2 : Arv Z h0 b2 k2 .byte (1 : Int32) [(.int y)] (.int (0 : Int32))) :
    Con l Z (⟨"java/lang/StringLatin1", "equals", "([B[B)Z"⟩ : MethodName) jdk_43_method_13_code 3 (some .boolean) ({ frames := 0, cells := 0, slots := 0, locals := 0 } : Room) #[(.ref b1), (.ref b2)] h0 (fun v h L => v = some (.int (0 : Int32)) ∧ Fr n0 L ∧ h = h0) := by
  refine own_start (Q := fun v h L => v = some (.int (0 : Int32)) ∧ Fr n0 L ∧ h = h0) opn_11 ?_
  intro p e s m below meth c T0 X0 hx hby hml hZ hown hnm hret hlk e0
  have N := Fr.nil n0; have K := Keep.refl h0 []
  refine OG.cast (oef_rm11_0 m b1 b2) ?_
  refine og_aloadN (pc' := 1) X0 hx rfl rfl (hb hby d11_0) rfl ?_
  refine og_arraylength (pc' := 2) X0 hx hZ e0 V_b1 (hb hby d11_1) rfl ?_
  refine og_aloadN (pc' := 3) X0 hx rfl rfl (hb hby d11_2) rfl ?_
  refine og_arraylength (pc' := 4) X0 hx hZ e0 V_b2 (hb hby d11_3) rfl ?_
  refine og_icmp_ne (pc1 := 34) (pc2 := 7) X0 hx (hb hby d11_4) (by decide) (by decide) rfl (fun q => absurd q (by decide)) (fun _ => ?_)
  refine og_iconst (pc' := 8) (v := (0 : Int32)) X0 hx rfl (hb hby d11_7) rfl ?_
  refine og_istoreN (pc' := 9) (L' := #[.val (.ref b1), .val (.ref b2), .val (.int (0 : Int32))]) X0 hx rfl (hb hby d11_8) rfl ?_
  refine og_iloadN (pc' := 10) X0 hx rfl (hb hby d11_9) rfl ?_
  refine og_aloadN (pc' := 11) X0 hx rfl rfl (hb hby d11_10) rfl ?_
  refine og_arraylength (pc' := 12) X0 hx hZ e0 V_b1 (hb hby d11_11) rfl ?_
  refine og_icmp_ge (pc1 := 32) (pc2 := 15) X0 hx (hb hby d11_12) (by decide) (by decide) rfl (fun q => absurd q (by decide)) (fun _ => ?_)
  refine og_aloadN (pc' := 16) X0 hx rfl rfl (hb hby d11_15) rfl ?_
  refine og_iloadN (pc' := 17) X0 hx rfl (hb hby d11_16) rfl ?_
  refine og_baload (pc' := 18) (v := (.int x)) X0 hx hZ e0 V_b1 ⟨by decide, by decide⟩ rfl (hb hby d11_17) rfl ?_
  refine og_aloadN (pc' := 19) X0 hx rfl rfl (hb hby d11_18) rfl ?_
  refine og_iloadN (pc' := 20) X0 hx rfl (hb hby d11_19) rfl ?_
  refine og_baload (pc' := 21) (v := (.int y)) X0 hx hZ e0 V_b2 ⟨by decide, by decide⟩ rfl (hb hby d11_20) rfl ?_
  refine og_icmp_eq (pc1 := 26) (pc2 := 24) X0 hx (hb hby d11_21) (by decide) (by decide) rfl (fun q => absurd q hne) (fun _ => ?_)
  refine og_iconst (pc' := 25) (v := (0 : Int32)) X0 hx rfl (hb hby d11_24) rfl ?_
  refine og_retN X0 hx hlk hret (by simp) (hb hby d11_25) (by decide) (by decide) ?_
  rw [e0]; exact ⟨rfl, N, rfl⟩
theorem oef_rm10_0 (m : MethodId) (x0 : Addr) (x1 : Addr) : entryFrame m #[(.ref x0), (.ref x1)] 3 = mkF m 0 #[.val (.ref x0), .val (.ref x1), .unset] [] := by first | (simp [entryFrame, mkF, argsToLocals, Value.category]; done) | rfl
set_option maxRecDepth 65536 in
set_option maxHeartbeats 40000000 in
theorem rm10_0 (l : Launch) (Z : State) (a0 : Array Value) (hw : ∀ d ∈ tables_1, d.before a0 Z = true) (a1 a2 b1 b2 : Addr) (k1 k2 : ClassId) (x y : Int32) (hne : ¬ x = y) (cs : Int32) (hcs : ¬ cs = 0) (h0 : Heap) (n0 : Nat) (O : Old Z n0 h0) (E_a1 : Exa Z h0 a1 "java/lang/String") (F_value_a1 : Fld Z h0 a1 "java/lang/String" "value" "[B" (.ref b1)) (F_coder_a1 : Fld Z h0 a1 "java/lang/String" "coder" "B" (.int (0 : Int32))) (V_b1 : Arv Z h0 b1 k1 .byte (1 : Int32) [(.int x)] (.int (0 : Int32))) (E_a2 : Exa Z h0 a2 "java/lang/String") (F_value_a2 : Fld Z h0 a2 "java/lang/String" "value" "[B" (.ref b2)) (F_coder_a2 : Fld Z h0 a2 "java/lang/String" "coder" "B" (.int (0 : Int32))) (V_b2 : Arv Z h0 b2 k2 .byte (1 : Int32) [(.int y)] (.int (0 : Int32))) (S_CS : Sta Z Z.heap "java/lang/String" "COMPACT_STRINGS" "Z" (.int cs)) (ne_a1_a2 : a1 ≠ a2) :
    Con l Z (⟨"java/lang/String", "equals", "(Ljava/lang/Object;)Z"⟩ : MethodName) jdk_42_method_66_code 3 (some .boolean) ({ frames := 1, cells := 0, slots := 0, locals := 14 } : Room) #[(.ref a1), (.ref a2)] h0 (fun v h L => v = some (.int (0 : Int32)) ∧ Fr n0 L ∧ h = h0) := by
  refine own_start (Q := fun v h L => v = some (.int (0 : Int32)) ∧ Fr n0 L ∧ h = h0) opn_10 ?_
  intro p e s m below meth c T0 X0 hx hby hml hZ hown hnm hret hlk e0
  have N := Fr.nil n0; have K := Keep.refl h0 []
  refine OG.cast (oef_rm10_0 m a1 a2) ?_
  refine og_aloadN (pc' := 1) X0 hx rfl rfl (hb hby d10_0) rfl ?_
  refine og_aloadN (pc' := 2) X0 hx rfl rfl (hb hby d10_1) rfl ?_
  refine og_acmp_ne (pc1 := 7) (pc2 := 5) X0 hx rfl rfl (hb hby d10_2) (by decide) (by decide) rfl (fun _ => ?_) (fun q => absurd q (fun q => ne_a1_a2 (Value.ref.inj q)))
  refine og_aloadN (pc' := 8) X0 hx rfl rfl (hb hby d10_7) rfl ?_
  obtain ⟨T11, X11, e11, st11⟩ := instY X0 hx hZ hown (ow17 hw) e0 (Ins.self E_a2) (g := (mkF m 8 #[.val (.ref a1), .val (.ref a2), .unset] [(.ref a2)])) rfl rfl (hb hby d10_8)
  refine OG.of st11 ?_
  show OG p e below _ (T11.setTop (mkF m 11 #[.val (.ref a1), .val (.ref a2), .unset] [(.int (1 : Int32))]))
  refine og_if_eq (pc1 := 54) (pc2 := 14) X11 hx (hb hby d10_11) (by decide) (by decide) rfl (fun q => absurd q (by decide)) (fun _ => ?_)
  refine og_aloadN (pc' := 15) X11 hx rfl rfl (hb hby d10_14) rfl ?_
  obtain ⟨T12, X12, e12, st12⟩ := castY X11 hx hZ hown (ow17 hw) e11 (Ins.self E_a2) (g := (mkF m 15 #[.val (.ref a1), .val (.ref a2), .unset] [(.ref a2)])) rfl rfl (hb hby d10_15)
  refine OG.of st12 ?_
  show OG p e below _ (T12.setTop (mkF m 18 #[.val (.ref a1), .val (.ref a2), .unset] [(.ref a2)]))
  refine og_astoreN (pc' := 19) (L' := #[.val (.ref a1), .val (.ref a2), .val (.ref a2)]) X12 hx rfl rfl (hb hby d10_18) rfl ?_
  refine og_getstatic (pc' := 22) X12 hx hZ (host := "") hown (Or.inl (ow12 hw)) Via.refl e12 (S_CS.ext O.2) (hb hby d10_19) rfl (fun T13 X13 e13 => ?_)
  refine og_if_eq (pc1 := 36) (pc2 := 25) X13 hx (hb hby d10_22) (by decide) (by decide) rfl (fun q => absurd q hcs) (fun _ => ?_)
  refine og_aloadN (pc' := 26) X13 hx rfl rfl (hb hby d10_25) rfl ?_
  refine og_getfield (pc' := 29) X13 hx hZ (host := "") hown (Or.inl (ow32 hw)) Via.refl e13 F_coder_a1 (hb hby d10_26) rfl (fun T14 X14 e14 => ?_)
  refine og_aloadN (pc' := 30) X14 hx rfl rfl (hb hby d10_29) rfl ?_
  refine og_getfield (pc' := 33) X14 hx hZ (host := "") hown (Or.inl (ow32 hw)) Via.refl e14 F_coder_a2 (hb hby d10_30) rfl (fun T15 X15 e15 => ?_)
  refine og_icmp_ne (pc1 := 54) (pc2 := 36) X15 hx (hb hby d10_33) (by decide) (by decide) rfl (fun q => absurd q (by decide)) (fun _ => ?_)
  refine og_aloadN (pc' := 37) X15 hx rfl rfl (hb hby d10_36) rfl ?_
  refine og_getfield (pc' := 40) X15 hx hZ (host := "") hown (Or.inl (ow30 hw)) Via.refl e15 F_value_a1 (hb hby d10_37) rfl (fun T16 X16 e16 => ?_)
  refine og_aloadN (pc' := 41) X16 hx rfl rfl (hb hby d10_40) rfl ?_
  refine og_getfield (pc' := 44) X16 hx hZ (host := "") hown (Or.inl (ow30 hw)) Via.refl e16 F_value_a2 (hb hby d10_41) rfl (fun T17 X17 e17 => ?_)
  refine og_static (pc' := 47) (cells' := 0) (slots' := 0) (W := 0) X17 hx hZ (rm11_0 l Z a0 hw b1 b2 k1 k2 x y hne h0 n0 O V_b1 V_b2) hown (ow66 hw) (ow67 hw) (ow15 hw) (ow68 hw) (by decide) (by rw [hml]; rfl) e17 opd_3 [(.ref b1), (.ref b2)] [] rfl rfl rfl rfl (by decide) (by decide) rfl rfl (by decide) (by decide) (hb hby d10_44) rfl (fun v18 T18 h18 L18 X18 e18 z18 => ?_)
  obtain ⟨rfl, Nq18, hq18⟩ := z18; replace e18 := e18.trans hq18; have N := Fr.app N Nq18
  show OG p e below _ (T18.setTop (mkF m 47 #[.val (.ref a1), .val (.ref a2), .val (.ref a2)] [(.int (0 : Int32))]))
  refine og_if_eq (pc1 := 54) (pc2 := 50) X18 hx (hb hby d10_47) (by decide) (by decide) rfl (fun _ => ?_) (fun q => absurd q (by decide))
  refine og_iconst (pc' := 55) (v := (0 : Int32)) X18 hx rfl (hb hby d10_54) rfl ?_
  refine og_retN X18 hx hlk hret (by simp) (hb hby d10_55) (by decide) (by decide) ?_
  rw [e18]; exact ⟨rfl, N, rfl⟩
theorem oef_rm9 (m : MethodId)  : entryFrame m #[] 0 = mkF m 0 #[] [] := by first | (simp [entryFrame, mkF, argsToLocals, Value.category]; done) | rfl
set_option maxRecDepth 65536 in
set_option maxHeartbeats 40000000 in
theorem rm9 (l : Launch) (Z : State) (a0 : Array Value) (hw : ∀ d ∈ tables_1, d.before a0 Z = true) (va w0 w1 w2 w3 w4 : Addr) (kv : ClassId) (h0 : Heap) (n0 : Nat) (O : Old Z n0 h0) (S_VALUES : Sta Z Z.heap "com/example/tombstone/tombstone/postgres/ForeignKey$Action" "$VALUES" "[Lcom/example/tombstone/tombstone/postgres/ForeignKey$Action;" (.ref va)) (E_va : Exa Z Z.heap va "[Lcom/example/tombstone/tombstone/postgres/ForeignKey$Action;") (V_va : Arv Z Z.heap va kv (.object "com/example/tombstone/tombstone/postgres/ForeignKey$Action") (5 : Int32) [(.ref w0), (.ref w1), (.ref w2), (.ref w3), (.ref w4)] .null) :
    Con l Z (⟨"com/example/tombstone/tombstone/postgres/ForeignKey$Action", "values", "()[Lcom/example/tombstone/tombstone/postgres/ForeignKey$Action;"⟩ : MethodName) prog_15_method_1_code 0 (some (.array (.object "com/example/tombstone/tombstone/postgres/ForeignKey$Action"))) ({ frames := 1, cells := 1, slots := 5, locals := 14 } : Room) #[] h0 (fun v h L => ∃ a k, v = some (.ref a) ∧ Fr n0 L ∧ Keep h0 h [] ∧ h0.size ≤ a ∧ Arv Z h a k (.object "com/example/tombstone/tombstone/postgres/ForeignKey$Action") (5 : Int32) [(.ref w0), (.ref w1), (.ref w2), (.ref w3), (.ref w4)] .null) := by
  refine own_start (Q := fun v h L => ∃ a k, v = some (.ref a) ∧ Fr n0 L ∧ Keep h0 h [] ∧ h0.size ≤ a ∧ Arv Z h a k (.object "com/example/tombstone/tombstone/postgres/ForeignKey$Action") (5 : Int32) [(.ref w0), (.ref w1), (.ref w2), (.ref w3), (.ref w4)] .null) opn_9 ?_
  intro p e s m below meth c T0 X0 hx hby hml hZ hown hnm hret hlk e0
  have N := Fr.nil n0; have K := Keep.refl h0 []
  refine OG.cast (oef_rm9 m ) ?_
  refine og_getstatic (pc' := 3) X0 hx hZ (host := "") hown (Or.inl (ow41 hw)) Via.refl e0 (S_VALUES.ext O.2) (hb hby d9_0) rfl (fun T11 X11 e11 => ?_)
  refine og_clone (pc' := 6) (cells' := 1) (slots' := 5) (cap := 5) (W := 0) X11 hx hZ (by rw [hml]; rfl) hown (ow43 hw) (ow44 hw) (ow48 hw) (ow46 hw) (ow47 hw) (ow49 hw) e11 (V_va.ext O.2) (E_va.ext O.2) rfl (by decide) (by decide) (by decide) rfl rfl (by decide) (by decide) (hb hby d9_3) rfl (fun T12 h12 nb12 X12 e12 E12 q12 V_nb12 E_nb12 => ?_)
  have s_nb12 : h0.size ≤ nb12 := Nat.le_of_eq q12.symm; have g_nb12 : n0 ≤ nb12 := Nat.le_trans (own_n0 O) s_nb12; have sz_nb12 : h0.size ≤ nb12 := Nat.le_trans K.1 s_nb12; have ne_va_nb12 : va ≠ nb12 := O.ne E_va.lt g_nb12
  have O := O.ext E12; have K := K.ext E12
  obtain ⟨T13, X13, e13, st13⟩ := castY X12 hx hZ hown (ow56 hw) e12 (Ins.self E_nb12) (g := (mkF m 6 #[] [(.ref nb12)])) rfl rfl (hb hby d9_6)
  refine OG.of st13 ?_
  show OG p e below _ (T13.setTop (mkF m 9 #[] [(.ref nb12)]))
  refine og_retR X13 hx hlk hret rfl rfl rfl (hb hby d9_9) (by decide) (by decide) ?_
  rw [e13]; exact ⟨_, _, rfl, N, K, sz_nb12, V_nb12⟩
theorem oef_rm8_0 (m : MethodId) (x0 : Addr) : entryFrame m #[(.ref x0)] 5 = mkF m 0 #[.val (.ref x0), .unset, .unset, .unset, .unset] [] := by first | (simp [entryFrame, mkF, argsToLocals, Value.category]; done) | rfl
set_option maxRecDepth 65536 in
set_option maxHeartbeats 40000000 in
theorem rm8_0 (l : Launch) (Z : State) (a0 : Array Value) (hw : ∀ d ∈ tables_1, d.before a0 Z = true) (a1 b1 va w0 w1 w2 w3 w4 : Addr) (k1 kv : ClassId) (cs : Int32) (hcs : ¬ cs = 0) (h0 : Heap) (n0 : Nat) (O : Old Z n0 h0) (E_a1 : Exa Z h0 a1 "java/lang/String") (F_value_a1 : Fld Z h0 a1 "java/lang/String" "value" "[B" (.ref b1)) (F_coder_a1 : Fld Z h0 a1 "java/lang/String" "coder" "B" (.int (0 : Int32))) (V_b1 : Arv Z h0 b1 k1 .byte (1 : Int32) [(.int (99 : Int32))] (.int (0 : Int32))) (S_CASCADE : Sta Z Z.heap "com/example/tombstone/tombstone/postgres/ForeignKey$Action" "CASCADE" "Lcom/example/tombstone/tombstone/postgres/ForeignKey$Action;" (.ref w0)) (S_SET_NULL : Sta Z Z.heap "com/example/tombstone/tombstone/postgres/ForeignKey$Action" "SET_NULL" "Lcom/example/tombstone/tombstone/postgres/ForeignKey$Action;" (.ref w1)) (S_SET_DEFAULT : Sta Z Z.heap "com/example/tombstone/tombstone/postgres/ForeignKey$Action" "SET_DEFAULT" "Lcom/example/tombstone/tombstone/postgres/ForeignKey$Action;" (.ref w2)) (S_RESTRICT : Sta Z Z.heap "com/example/tombstone/tombstone/postgres/ForeignKey$Action" "RESTRICT" "Lcom/example/tombstone/tombstone/postgres/ForeignKey$Action;" (.ref w3)) (S_NO_ACTION : Sta Z Z.heap "com/example/tombstone/tombstone/postgres/ForeignKey$Action" "NO_ACTION" "Lcom/example/tombstone/tombstone/postgres/ForeignKey$Action;" (.ref w4)) (E_w0 : Exa Z Z.heap w0 "com/example/tombstone/tombstone/postgres/ForeignKey$Action") (E_w1 : Exa Z Z.heap w1 "com/example/tombstone/tombstone/postgres/ForeignKey$Action") (E_w2 : Exa Z Z.heap w2 "com/example/tombstone/tombstone/postgres/ForeignKey$Action") (E_w3 : Exa Z Z.heap w3 "com/example/tombstone/tombstone/postgres/ForeignKey$Action") (E_w4 : Exa Z Z.heap w4 "com/example/tombstone/tombstone/postgres/ForeignKey$Action") (F_w0 : Fld Z Z.heap w0 "com/example/tombstone/tombstone/postgres/ForeignKey$Action" "code" "C" (.int (99 : Int32))) (F_w1 : Fld Z Z.heap w1 "com/example/tombstone/tombstone/postgres/ForeignKey$Action" "code" "C" (.int (110 : Int32))) (F_w2 : Fld Z Z.heap w2 "com/example/tombstone/tombstone/postgres/ForeignKey$Action" "code" "C" (.int (100 : Int32))) (F_w3 : Fld Z Z.heap w3 "com/example/tombstone/tombstone/postgres/ForeignKey$Action" "code" "C" (.int (114 : Int32))) (F_w4 : Fld Z Z.heap w4 "com/example/tombstone/tombstone/postgres/ForeignKey$Action" "code" "C" (.int (97 : Int32))) (S_VALUES : Sta Z Z.heap "com/example/tombstone/tombstone/postgres/ForeignKey$Action" "$VALUES" "[Lcom/example/tombstone/tombstone/postgres/ForeignKey$Action;" (.ref va)) (E_va : Exa Z Z.heap va "[Lcom/example/tombstone/tombstone/postgres/ForeignKey$Action;") (V_va : Arv Z Z.heap va kv (.object "com/example/tombstone/tombstone/postgres/ForeignKey$Action") (5 : Int32) [(.ref w0), (.ref w1), (.ref w2), (.ref w3), (.ref w4)] .null) (S_CS : Sta Z Z.heap "java/lang/String" "COMPACT_STRINGS" "Z" (.int cs)) :
    Con l Z (⟨"com/example/tombstone/tombstone/postgres/ForeignKey$Action", "fromCatalog", "(Ljava/lang/String;)Lcom/example/tombstone/tombstone/postgres/ForeignKey$Action;"⟩ : MethodName) prog_15_method_6_code 5 (some (.object "com/example/tombstone/tombstone/postgres/ForeignKey$Action")) ({ frames := 3, cells := 3, slots := 10, locals := 40 } : Room) #[(.ref a1)] h0 (fun v h L => v = some (.ref w0) ∧ Fr n0 L ∧ Keep h0 h []) := by
  refine own_start (Q := fun v h L => v = some (.ref w0) ∧ Fr n0 L ∧ Keep h0 h []) opn_8 ?_
  intro p e s m below meth c T0 X0 hx hby hml hZ hown hnm hret hlk e0
  have N := Fr.nil n0; have K := Keep.refl h0 []
  refine OG.cast (oef_rm8_0 m a1) ?_
  refine og_static (pc' := 3) (cells' := 1) (slots' := 5) (W := 0) X0 hx hZ (rm9 l Z a0 hw va w0 w1 w2 w3 w4 kv h0 n0 O S_VALUES E_va V_va) hown (ow38 hw) (ow39 hw) (ow36 hw) (ow40 hw) (by decide) (by rw [hml]; rfl) e0 opd_4 [] [] rfl rfl rfl rfl (by decide) (by decide) rfl rfl (by decide) (by decide) (hb hby d8_0) rfl (fun v11 T11 h11 L11 X11 e11 z11 => ?_)
  obtain ⟨nb11, k11, rfl, Nq11, K11, sb11, V_nb11⟩ := z11; have N := Fr.app N Nq11
  have s_nb11 : h0.size ≤ nb11 := sb11; have g_nb11 : n0 ≤ nb11 := Nat.le_trans (own_n0 O) s_nb11; have sz_nb11 : h0.size ≤ nb11 := Nat.le_trans K.1 s_nb11; have ne_a1_nb11 : a1 ≠ nb11 := Nat.ne_of_lt (Nat.lt_of_lt_of_le E_a1.lt s_nb11); have ne_b1_nb11 : b1 ≠ nb11 := Nat.ne_of_lt (Nat.lt_of_lt_of_le V_b1.lt s_nb11); have ne_w0_nb11 : w0 ≠ nb11 := O.ne E_w0.lt g_nb11
  have ne_w1_nb11 : w1 ≠ nb11 := O.ne E_w1.lt g_nb11; have ne_w2_nb11 : w2 ≠ nb11 := O.ne E_w2.lt g_nb11; have ne_w3_nb11 : w3 ≠ nb11 := O.ne E_w3.lt g_nb11; have ne_w4_nb11 : w4 ≠ nb11 := O.ne E_w4.lt g_nb11; have ne_va_nb11 : va ≠ nb11 := O.ne E_va.lt g_nb11
  have E_a1 := E_a1.keep K11; have F_value_a1 := F_value_a1.keep K11 nin0; have F_coder_a1 := F_coder_a1.keep K11 nin0; have V_b1 := V_b1.keep K11 nin0; have O := O.keep K11 all0; have K := K.trans K11 all0
  show OG p e below _ (T11.setTop (mkF m 3 #[.val (.ref a1), .unset, .unset, .unset, .unset] [(.ref nb11)]))
  refine og_astoreN (pc' := 4) (L' := #[.val (.ref a1), .val (.ref nb11), .unset, .unset, .unset]) X11 hx rfl rfl (hb hby d8_3) rfl ?_
  refine og_aloadN (pc' := 5) X11 hx rfl rfl (hb hby d8_4) rfl ?_
  refine og_arraylength (pc' := 6) X11 hx hZ e11 V_nb11 (hb hby d8_5) rfl ?_
  refine og_istoreN (pc' := 7) (L' := #[.val (.ref a1), .val (.ref nb11), .val (.int (5 : Int32)), .unset, .unset]) X11 hx rfl (hb hby d8_6) rfl ?_
  refine og_iconst (pc' := 8) (v := (0 : Int32)) X11 hx rfl (hb hby d8_7) rfl ?_
  refine og_istoreN (pc' := 9) (L' := #[.val (.ref a1), .val (.ref nb11), .val (.int (5 : Int32)), .val (.int (0 : Int32)), .unset]) X11 hx rfl (hb hby d8_8) rfl ?_
  refine og_iloadN (pc' := 10) X11 hx rfl (hb hby d8_9) rfl ?_
  refine og_iloadN (pc' := 11) X11 hx rfl (hb hby d8_10) rfl ?_
  refine og_icmp_ge (pc1 := 43) (pc2 := 14) X11 hx (hb hby d8_11) (by decide) (by decide) rfl (fun q => absurd q (by decide)) (fun _ => ?_)
  refine og_aloadN (pc' := 15) X11 hx rfl rfl (hb hby d8_14) rfl ?_
  refine og_iloadN (pc' := 16) X11 hx rfl (hb hby d8_15) rfl ?_
  refine og_aaload (pc' := 17) (v := (.ref w0)) X11 hx hZ e11 rfl V_nb11 ⟨by decide, by decide⟩ rfl (hb hby d8_16) rfl ?_
  refine og_astore (pc' := 19) (L' := #[.val (.ref a1), .val (.ref nb11), .val (.int (5 : Int32)), .val (.int (0 : Int32)), .val (.ref w0)]) X11 hx rfl rfl (hb hby d8_17) rfl ?_
  refine og_aloadN (pc' := 20) X11 hx rfl rfl (hb hby d8_19) rfl ?_
  refine og_aload (pc' := 22) X11 hx rfl rfl (hb hby d8_20) rfl ?_
  refine og_getfield (pc' := 25) X11 hx hZ (host := "") hown (Or.inl (ow58 hw)) Via.refl e11 (F_w0.ext O.2) (hb hby d8_22) rfl (fun T12 X12 e12 => ?_)
  refine og_static (pc' := 28) (cells' := 3) (slots' := 10) (W := 1) X12 hx hZ (rm_vo l Z a0 hw (99 : Int32) (by decide) cs hcs h11 n0 O S_CS) hown (ow60 hw) (ow9 hw) (ow10 hw) (ow11 hw) (by decide) (by rw [hml]; rfl) e12 opd_5 [(.int (99 : Int32))] [(.ref a1)] rfl rfl rfl rfl (by decide) (by decide) rfl rfl (by decide) (by decide) (hb hby d8_25) rfl (fun v13 T13 h13 L13 X13 e13 z13 => ?_)
  obtain ⟨na13, nb13, k13, rfl, Nq13, K13, sa13, sb13, E_na13, F_value_na13, F_coder_na13, V_nb13⟩ := z13; have N := Fr.app N Nq13
  have s_na13 : h11.size ≤ na13 := sa13; have g_na13 : n0 ≤ na13 := Nat.le_trans (own_n0 O) s_na13; have sz_na13 : h0.size ≤ na13 := Nat.le_trans K.1 s_na13; have ne_a1_na13 : a1 ≠ na13 := Nat.ne_of_lt (Nat.lt_of_lt_of_le E_a1.lt s_na13); have ne_b1_na13 : b1 ≠ na13 := Nat.ne_of_lt (Nat.lt_of_lt_of_le V_b1.lt s_na13); have ne_w0_na13 : w0 ≠ na13 := O.ne E_w0.lt g_na13
  have ne_w1_na13 : w1 ≠ na13 := O.ne E_w1.lt g_na13; have ne_w2_na13 : w2 ≠ na13 := O.ne E_w2.lt g_na13; have ne_w3_na13 : w3 ≠ na13 := O.ne E_w3.lt g_na13; have ne_w4_na13 : w4 ≠ na13 := O.ne E_w4.lt g_na13; have ne_va_na13 : va ≠ na13 := O.ne E_va.lt g_na13; have ne_nb11_na13 : nb11 ≠ na13 := Nat.ne_of_lt (Nat.lt_of_lt_of_le V_nb11.lt s_na13)
  have s_nb13 : h11.size ≤ nb13 := sb13; have g_nb13 : n0 ≤ nb13 := Nat.le_trans (own_n0 O) s_nb13; have sz_nb13 : h0.size ≤ nb13 := Nat.le_trans K.1 s_nb13; have ne_a1_nb13 : a1 ≠ nb13 := Nat.ne_of_lt (Nat.lt_of_lt_of_le E_a1.lt s_nb13); have ne_b1_nb13 : b1 ≠ nb13 := Nat.ne_of_lt (Nat.lt_of_lt_of_le V_b1.lt s_nb13); have ne_w0_nb13 : w0 ≠ nb13 := O.ne E_w0.lt g_nb13
  have ne_w1_nb13 : w1 ≠ nb13 := O.ne E_w1.lt g_nb13; have ne_w2_nb13 : w2 ≠ nb13 := O.ne E_w2.lt g_nb13; have ne_w3_nb13 : w3 ≠ nb13 := O.ne E_w3.lt g_nb13; have ne_w4_nb13 : w4 ≠ nb13 := O.ne E_w4.lt g_nb13; have ne_va_nb13 : va ≠ nb13 := O.ne E_va.lt g_nb13; have ne_nb11_nb13 : nb11 ≠ nb13 := Nat.ne_of_lt (Nat.lt_of_lt_of_le V_nb11.lt s_nb13)
  have E_a1 := E_a1.keep K13; have F_value_a1 := F_value_a1.keep K13 nin0; have F_coder_a1 := F_coder_a1.keep K13 nin0; have V_b1 := V_b1.keep K13 nin0; have V_nb11 := V_nb11.keep K13 nin0; have O := O.keep K13 all0
  have K := K.trans K13 all0
  have V_nb13 : Arv Z h13 nb13 k13 .byte 1 [(.int (99 : Int32))] (.int (0 : Int32)) := V_nb13
  have ne_na13_nb13 : na13 ≠ nb13 := fun q => own_strarr E_na13 V_nb13 (ow18 hw) q
  show OG p e below _ (T13.setTop (mkF m 28 #[.val (.ref a1), .val (.ref nb11), .val (.int (5 : Int32)), .val (.int (0 : Int32)), .val (.ref w0)] [(.ref na13), (.ref a1)]))
  refine og_virtual (pc' := 31) (cells' := 3) (slots' := 10) (W := 0) X13 hx hZ (rm10_1 l Z a0 hw a1 na13 b1 nb13 k1 k13 (99 : Int32)  cs hcs h13 n0 O E_a1 F_value_a1 F_coder_a1 V_b1 E_na13 F_value_na13 F_coder_na13 V_nb13 S_CS ne_a1_na13) hown (ow61 hw) (ow62 hw) (own_nf hZ (ow64 hw)) (ow64 hw) (ow63 hw) (ow10 hw) (ow65 hw) (by decide) (by rw [hml]; rfl) e13 opd_6 [(.ref na13)] [] rfl rfl rfl rfl (by decide) (by decide) rfl rfl (by decide) (by decide) E_a1 (hb hby d8_28) rfl (fun v14 T14 h14 L14 X14 e14 z14 => ?_)
  obtain ⟨rfl, Nq14, hq14⟩ := z14; replace e14 := e14.trans hq14; have N := Fr.app N Nq14
  show OG p e below _ (T14.setTop (mkF m 31 #[.val (.ref a1), .val (.ref nb11), .val (.int (5 : Int32)), .val (.int (0 : Int32)), .val (.ref w0)] [(.int (1 : Int32))]))
  refine og_if_eq (pc1 := 37) (pc2 := 34) X14 hx (hb hby d8_31) (by decide) (by decide) rfl (fun q => absurd q (by decide)) (fun _ => ?_)
  refine og_aload (pc' := 36) X14 hx rfl rfl (hb hby d8_34) rfl ?_
  refine og_retR X14 hx hlk hret rfl rfl rfl (hb hby d8_36) (by decide) (by decide) ?_
  rw [e14]; exact ⟨rfl, N, K⟩
theorem oef_rm8_1 (m : MethodId) (x0 : Addr) : entryFrame m #[(.ref x0)] 5 = mkF m 0 #[.val (.ref x0), .unset, .unset, .unset, .unset] [] := by first | (simp [entryFrame, mkF, argsToLocals, Value.category]; done) | rfl
set_option maxRecDepth 65536 in
set_option maxHeartbeats 40000000 in
theorem rm8_1 (l : Launch) (Z : State) (a0 : Array Value) (hw : ∀ d ∈ tables_1, d.before a0 Z = true) (a1 b1 va w0 w1 w2 w3 w4 : Addr) (k1 kv : ClassId) (cs : Int32) (hcs : ¬ cs = 0) (h0 : Heap) (n0 : Nat) (O : Old Z n0 h0) (E_a1 : Exa Z h0 a1 "java/lang/String") (F_value_a1 : Fld Z h0 a1 "java/lang/String" "value" "[B" (.ref b1)) (F_coder_a1 : Fld Z h0 a1 "java/lang/String" "coder" "B" (.int (0 : Int32))) (V_b1 : Arv Z h0 b1 k1 .byte (1 : Int32) [(.int (110 : Int32))] (.int (0 : Int32))) (S_CASCADE : Sta Z Z.heap "com/example/tombstone/tombstone/postgres/ForeignKey$Action" "CASCADE" "Lcom/example/tombstone/tombstone/postgres/ForeignKey$Action;" (.ref w0)) (S_SET_NULL : Sta Z Z.heap "com/example/tombstone/tombstone/postgres/ForeignKey$Action" "SET_NULL" "Lcom/example/tombstone/tombstone/postgres/ForeignKey$Action;" (.ref w1)) (S_SET_DEFAULT : Sta Z Z.heap "com/example/tombstone/tombstone/postgres/ForeignKey$Action" "SET_DEFAULT" "Lcom/example/tombstone/tombstone/postgres/ForeignKey$Action;" (.ref w2)) (S_RESTRICT : Sta Z Z.heap "com/example/tombstone/tombstone/postgres/ForeignKey$Action" "RESTRICT" "Lcom/example/tombstone/tombstone/postgres/ForeignKey$Action;" (.ref w3)) (S_NO_ACTION : Sta Z Z.heap "com/example/tombstone/tombstone/postgres/ForeignKey$Action" "NO_ACTION" "Lcom/example/tombstone/tombstone/postgres/ForeignKey$Action;" (.ref w4)) (E_w0 : Exa Z Z.heap w0 "com/example/tombstone/tombstone/postgres/ForeignKey$Action") (E_w1 : Exa Z Z.heap w1 "com/example/tombstone/tombstone/postgres/ForeignKey$Action") (E_w2 : Exa Z Z.heap w2 "com/example/tombstone/tombstone/postgres/ForeignKey$Action") (E_w3 : Exa Z Z.heap w3 "com/example/tombstone/tombstone/postgres/ForeignKey$Action") (E_w4 : Exa Z Z.heap w4 "com/example/tombstone/tombstone/postgres/ForeignKey$Action") (F_w0 : Fld Z Z.heap w0 "com/example/tombstone/tombstone/postgres/ForeignKey$Action" "code" "C" (.int (99 : Int32))) (F_w1 : Fld Z Z.heap w1 "com/example/tombstone/tombstone/postgres/ForeignKey$Action" "code" "C" (.int (110 : Int32))) (F_w2 : Fld Z Z.heap w2 "com/example/tombstone/tombstone/postgres/ForeignKey$Action" "code" "C" (.int (100 : Int32))) (F_w3 : Fld Z Z.heap w3 "com/example/tombstone/tombstone/postgres/ForeignKey$Action" "code" "C" (.int (114 : Int32))) (F_w4 : Fld Z Z.heap w4 "com/example/tombstone/tombstone/postgres/ForeignKey$Action" "code" "C" (.int (97 : Int32))) (S_VALUES : Sta Z Z.heap "com/example/tombstone/tombstone/postgres/ForeignKey$Action" "$VALUES" "[Lcom/example/tombstone/tombstone/postgres/ForeignKey$Action;" (.ref va)) (E_va : Exa Z Z.heap va "[Lcom/example/tombstone/tombstone/postgres/ForeignKey$Action;") (V_va : Arv Z Z.heap va kv (.object "com/example/tombstone/tombstone/postgres/ForeignKey$Action") (5 : Int32) [(.ref w0), (.ref w1), (.ref w2), (.ref w3), (.ref w4)] .null) (S_CS : Sta Z Z.heap "java/lang/String" "COMPACT_STRINGS" "Z" (.int cs)) :
    Con l Z (⟨"com/example/tombstone/tombstone/postgres/ForeignKey$Action", "fromCatalog", "(Ljava/lang/String;)Lcom/example/tombstone/tombstone/postgres/ForeignKey$Action;"⟩ : MethodName) prog_15_method_6_code 5 (some (.object "com/example/tombstone/tombstone/postgres/ForeignKey$Action")) ({ frames := 3, cells := 5, slots := 15, locals := 40 } : Room) #[(.ref a1)] h0 (fun v h L => v = some (.ref w1) ∧ Fr n0 L ∧ Keep h0 h []) := by
  refine own_start (Q := fun v h L => v = some (.ref w1) ∧ Fr n0 L ∧ Keep h0 h []) opn_8 ?_
  intro p e s m below meth c T0 X0 hx hby hml hZ hown hnm hret hlk e0
  have N := Fr.nil n0; have K := Keep.refl h0 []
  refine OG.cast (oef_rm8_1 m a1) ?_
  refine og_static (pc' := 3) (cells' := 1) (slots' := 5) (W := 0) X0 hx hZ (rm9 l Z a0 hw va w0 w1 w2 w3 w4 kv h0 n0 O S_VALUES E_va V_va) hown (ow38 hw) (ow39 hw) (ow36 hw) (ow40 hw) (by decide) (by rw [hml]; rfl) e0 opd_4 [] [] rfl rfl rfl rfl (by decide) (by decide) rfl rfl (by decide) (by decide) (hb hby d8_0) rfl (fun v11 T11 h11 L11 X11 e11 z11 => ?_)
  obtain ⟨nb11, k11, rfl, Nq11, K11, sb11, V_nb11⟩ := z11; have N := Fr.app N Nq11
  have s_nb11 : h0.size ≤ nb11 := sb11; have g_nb11 : n0 ≤ nb11 := Nat.le_trans (own_n0 O) s_nb11; have sz_nb11 : h0.size ≤ nb11 := Nat.le_trans K.1 s_nb11; have ne_a1_nb11 : a1 ≠ nb11 := Nat.ne_of_lt (Nat.lt_of_lt_of_le E_a1.lt s_nb11); have ne_b1_nb11 : b1 ≠ nb11 := Nat.ne_of_lt (Nat.lt_of_lt_of_le V_b1.lt s_nb11); have ne_w0_nb11 : w0 ≠ nb11 := O.ne E_w0.lt g_nb11
  have ne_w1_nb11 : w1 ≠ nb11 := O.ne E_w1.lt g_nb11; have ne_w2_nb11 : w2 ≠ nb11 := O.ne E_w2.lt g_nb11; have ne_w3_nb11 : w3 ≠ nb11 := O.ne E_w3.lt g_nb11; have ne_w4_nb11 : w4 ≠ nb11 := O.ne E_w4.lt g_nb11; have ne_va_nb11 : va ≠ nb11 := O.ne E_va.lt g_nb11
  have E_a1 := E_a1.keep K11; have F_value_a1 := F_value_a1.keep K11 nin0; have F_coder_a1 := F_coder_a1.keep K11 nin0; have V_b1 := V_b1.keep K11 nin0; have O := O.keep K11 all0; have K := K.trans K11 all0
  show OG p e below _ (T11.setTop (mkF m 3 #[.val (.ref a1), .unset, .unset, .unset, .unset] [(.ref nb11)]))
  refine og_astoreN (pc' := 4) (L' := #[.val (.ref a1), .val (.ref nb11), .unset, .unset, .unset]) X11 hx rfl rfl (hb hby d8_3) rfl ?_
  refine og_aloadN (pc' := 5) X11 hx rfl rfl (hb hby d8_4) rfl ?_
  refine og_arraylength (pc' := 6) X11 hx hZ e11 V_nb11 (hb hby d8_5) rfl ?_
  refine og_istoreN (pc' := 7) (L' := #[.val (.ref a1), .val (.ref nb11), .val (.int (5 : Int32)), .unset, .unset]) X11 hx rfl (hb hby d8_6) rfl ?_
  refine og_iconst (pc' := 8) (v := (0 : Int32)) X11 hx rfl (hb hby d8_7) rfl ?_
  refine og_istoreN (pc' := 9) (L' := #[.val (.ref a1), .val (.ref nb11), .val (.int (5 : Int32)), .val (.int (0 : Int32)), .unset]) X11 hx rfl (hb hby d8_8) rfl ?_
  refine og_iloadN (pc' := 10) X11 hx rfl (hb hby d8_9) rfl ?_
  refine og_iloadN (pc' := 11) X11 hx rfl (hb hby d8_10) rfl ?_
  refine og_icmp_ge (pc1 := 43) (pc2 := 14) X11 hx (hb hby d8_11) (by decide) (by decide) rfl (fun q => absurd q (by decide)) (fun _ => ?_)
  refine og_aloadN (pc' := 15) X11 hx rfl rfl (hb hby d8_14) rfl ?_
  refine og_iloadN (pc' := 16) X11 hx rfl (hb hby d8_15) rfl ?_
  refine og_aaload (pc' := 17) (v := (.ref w0)) X11 hx hZ e11 rfl V_nb11 ⟨by decide, by decide⟩ rfl (hb hby d8_16) rfl ?_
  refine og_astore (pc' := 19) (L' := #[.val (.ref a1), .val (.ref nb11), .val (.int (5 : Int32)), .val (.int (0 : Int32)), .val (.ref w0)]) X11 hx rfl rfl (hb hby d8_17) rfl ?_
  refine og_aloadN (pc' := 20) X11 hx rfl rfl (hb hby d8_19) rfl ?_
  refine og_aload (pc' := 22) X11 hx rfl rfl (hb hby d8_20) rfl ?_
  refine og_getfield (pc' := 25) X11 hx hZ (host := "") hown (Or.inl (ow58 hw)) Via.refl e11 (F_w0.ext O.2) (hb hby d8_22) rfl (fun T12 X12 e12 => ?_)
  refine og_static (pc' := 28) (cells' := 3) (slots' := 10) (W := 1) X12 hx hZ (rm_vo l Z a0 hw (99 : Int32) (by decide) cs hcs h11 n0 O S_CS) hown (ow60 hw) (ow9 hw) (ow10 hw) (ow11 hw) (by decide) (by rw [hml]; rfl) e12 opd_5 [(.int (99 : Int32))] [(.ref a1)] rfl rfl rfl rfl (by decide) (by decide) rfl rfl (by decide) (by decide) (hb hby d8_25) rfl (fun v13 T13 h13 L13 X13 e13 z13 => ?_)
  obtain ⟨na13, nb13, k13, rfl, Nq13, K13, sa13, sb13, E_na13, F_value_na13, F_coder_na13, V_nb13⟩ := z13; have N := Fr.app N Nq13
  have s_na13 : h11.size ≤ na13 := sa13; have g_na13 : n0 ≤ na13 := Nat.le_trans (own_n0 O) s_na13; have sz_na13 : h0.size ≤ na13 := Nat.le_trans K.1 s_na13; have ne_a1_na13 : a1 ≠ na13 := Nat.ne_of_lt (Nat.lt_of_lt_of_le E_a1.lt s_na13); have ne_b1_na13 : b1 ≠ na13 := Nat.ne_of_lt (Nat.lt_of_lt_of_le V_b1.lt s_na13); have ne_w0_na13 : w0 ≠ na13 := O.ne E_w0.lt g_na13
  have ne_w1_na13 : w1 ≠ na13 := O.ne E_w1.lt g_na13; have ne_w2_na13 : w2 ≠ na13 := O.ne E_w2.lt g_na13; have ne_w3_na13 : w3 ≠ na13 := O.ne E_w3.lt g_na13; have ne_w4_na13 : w4 ≠ na13 := O.ne E_w4.lt g_na13; have ne_va_na13 : va ≠ na13 := O.ne E_va.lt g_na13; have ne_nb11_na13 : nb11 ≠ na13 := Nat.ne_of_lt (Nat.lt_of_lt_of_le V_nb11.lt s_na13)
  have s_nb13 : h11.size ≤ nb13 := sb13; have g_nb13 : n0 ≤ nb13 := Nat.le_trans (own_n0 O) s_nb13; have sz_nb13 : h0.size ≤ nb13 := Nat.le_trans K.1 s_nb13; have ne_a1_nb13 : a1 ≠ nb13 := Nat.ne_of_lt (Nat.lt_of_lt_of_le E_a1.lt s_nb13); have ne_b1_nb13 : b1 ≠ nb13 := Nat.ne_of_lt (Nat.lt_of_lt_of_le V_b1.lt s_nb13); have ne_w0_nb13 : w0 ≠ nb13 := O.ne E_w0.lt g_nb13
  have ne_w1_nb13 : w1 ≠ nb13 := O.ne E_w1.lt g_nb13; have ne_w2_nb13 : w2 ≠ nb13 := O.ne E_w2.lt g_nb13; have ne_w3_nb13 : w3 ≠ nb13 := O.ne E_w3.lt g_nb13; have ne_w4_nb13 : w4 ≠ nb13 := O.ne E_w4.lt g_nb13; have ne_va_nb13 : va ≠ nb13 := O.ne E_va.lt g_nb13; have ne_nb11_nb13 : nb11 ≠ nb13 := Nat.ne_of_lt (Nat.lt_of_lt_of_le V_nb11.lt s_nb13)
  have E_a1 := E_a1.keep K13; have F_value_a1 := F_value_a1.keep K13 nin0; have F_coder_a1 := F_coder_a1.keep K13 nin0; have V_b1 := V_b1.keep K13 nin0; have V_nb11 := V_nb11.keep K13 nin0; have O := O.keep K13 all0
  have K := K.trans K13 all0
  have V_nb13 : Arv Z h13 nb13 k13 .byte 1 [(.int (99 : Int32))] (.int (0 : Int32)) := V_nb13
  have ne_na13_nb13 : na13 ≠ nb13 := fun q => own_strarr E_na13 V_nb13 (ow18 hw) q
  show OG p e below _ (T13.setTop (mkF m 28 #[.val (.ref a1), .val (.ref nb11), .val (.int (5 : Int32)), .val (.int (0 : Int32)), .val (.ref w0)] [(.ref na13), (.ref a1)]))
  refine og_virtual (pc' := 31) (cells' := 3) (slots' := 10) (W := 0) X13 hx hZ (rm10_0 l Z a0 hw a1 na13 b1 nb13 k1 k13 (110 : Int32) (99 : Int32) (by decide) cs hcs h13 n0 O E_a1 F_value_a1 F_coder_a1 V_b1 E_na13 F_value_na13 F_coder_na13 V_nb13 S_CS ne_a1_na13) hown (ow61 hw) (ow62 hw) (own_nf hZ (ow64 hw)) (ow64 hw) (ow63 hw) (ow10 hw) (ow65 hw) (by decide) (by rw [hml]; rfl) e13 opd_6 [(.ref na13)] [] rfl rfl rfl rfl (by decide) (by decide) rfl rfl (by decide) (by decide) E_a1 (hb hby d8_28) rfl (fun v14 T14 h14 L14 X14 e14 z14 => ?_)
  obtain ⟨rfl, Nq14, hq14⟩ := z14; replace e14 := e14.trans hq14; have N := Fr.app N Nq14
  show OG p e below _ (T14.setTop (mkF m 31 #[.val (.ref a1), .val (.ref nb11), .val (.int (5 : Int32)), .val (.int (0 : Int32)), .val (.ref w0)] [(.int (0 : Int32))]))
  refine og_if_eq (pc1 := 37) (pc2 := 34) X14 hx (hb hby d8_31) (by decide) (by decide) rfl (fun _ => ?_) (fun q => absurd q (by decide))
  refine og_iinc (pc' := 40) (L' := #[.val (.ref a1), .val (.ref nb11), .val (.int (5 : Int32)), .val (.int (1 : Int32)), .val (.ref w0)]) (w := (1 : Int32)) X14 hx rfl rfl rfl (hb hby d8_37) rfl ?_
  refine og_goto (pc' := 9) X14 hx (hb hby d8_40) (by decide) (by decide) ?_
  refine og_iloadN (pc' := 10) X14 hx rfl (hb hby d8_9) rfl ?_
  refine og_iloadN (pc' := 11) X14 hx rfl (hb hby d8_10) rfl ?_
  refine og_icmp_ge (pc1 := 43) (pc2 := 14) X14 hx (hb hby d8_11) (by decide) (by decide) rfl (fun q => absurd q (by decide)) (fun _ => ?_)
  refine og_aloadN (pc' := 15) X14 hx rfl rfl (hb hby d8_14) rfl ?_
  refine og_iloadN (pc' := 16) X14 hx rfl (hb hby d8_15) rfl ?_
  refine og_aaload (pc' := 17) (v := (.ref w1)) X14 hx hZ e14 rfl V_nb11 ⟨by decide, by decide⟩ rfl (hb hby d8_16) rfl ?_
  refine og_astore (pc' := 19) (L' := #[.val (.ref a1), .val (.ref nb11), .val (.int (5 : Int32)), .val (.int (1 : Int32)), .val (.ref w1)]) X14 hx rfl rfl (hb hby d8_17) rfl ?_
  refine og_aloadN (pc' := 20) X14 hx rfl rfl (hb hby d8_19) rfl ?_
  refine og_aload (pc' := 22) X14 hx rfl rfl (hb hby d8_20) rfl ?_
  refine og_getfield (pc' := 25) X14 hx hZ (host := "") hown (Or.inl (ow58 hw)) Via.refl e14 (F_w1.ext O.2) (hb hby d8_22) rfl (fun T15 X15 e15 => ?_)
  refine og_static (pc' := 28) (cells' := 5) (slots' := 15) (W := 1) X15 hx hZ (rm_vo l Z a0 hw (110 : Int32) (by decide) cs hcs h13 n0 O S_CS) hown (ow60 hw) (ow9 hw) (ow10 hw) (ow11 hw) (by decide) (by rw [hml]; rfl) e15 opd_5 [(.int (110 : Int32))] [(.ref a1)] rfl rfl rfl rfl (by decide) (by decide) rfl rfl (by decide) (by decide) (hb hby d8_25) rfl (fun v16 T16 h16 L16 X16 e16 z16 => ?_)
  obtain ⟨na16, nb16, k16, rfl, Nq16, K16, sa16, sb16, E_na16, F_value_na16, F_coder_na16, V_nb16⟩ := z16; have N := Fr.app N Nq16
  have s_na16 : h13.size ≤ na16 := sa16; have g_na16 : n0 ≤ na16 := Nat.le_trans (own_n0 O) s_na16; have sz_na16 : h0.size ≤ na16 := Nat.le_trans K.1 s_na16; have ne_a1_na16 : a1 ≠ na16 := Nat.ne_of_lt (Nat.lt_of_lt_of_le E_a1.lt s_na16); have ne_b1_na16 : b1 ≠ na16 := Nat.ne_of_lt (Nat.lt_of_lt_of_le V_b1.lt s_na16); have ne_w0_na16 : w0 ≠ na16 := O.ne E_w0.lt g_na16
  have ne_w1_na16 : w1 ≠ na16 := O.ne E_w1.lt g_na16; have ne_w2_na16 : w2 ≠ na16 := O.ne E_w2.lt g_na16; have ne_w3_na16 : w3 ≠ na16 := O.ne E_w3.lt g_na16; have ne_w4_na16 : w4 ≠ na16 := O.ne E_w4.lt g_na16; have ne_va_na16 : va ≠ na16 := O.ne E_va.lt g_na16; have ne_nb11_na16 : nb11 ≠ na16 := Nat.ne_of_lt (Nat.lt_of_lt_of_le V_nb11.lt s_na16)
  have ne_na13_na16 : na13 ≠ na16 := Nat.ne_of_lt (Nat.lt_of_lt_of_le E_na13.lt s_na16); have ne_nb13_na16 : nb13 ≠ na16 := Nat.ne_of_lt (Nat.lt_of_lt_of_le V_nb13.lt s_na16)
  have s_nb16 : h13.size ≤ nb16 := sb16; have g_nb16 : n0 ≤ nb16 := Nat.le_trans (own_n0 O) s_nb16; have sz_nb16 : h0.size ≤ nb16 := Nat.le_trans K.1 s_nb16; have ne_a1_nb16 : a1 ≠ nb16 := Nat.ne_of_lt (Nat.lt_of_lt_of_le E_a1.lt s_nb16); have ne_b1_nb16 : b1 ≠ nb16 := Nat.ne_of_lt (Nat.lt_of_lt_of_le V_b1.lt s_nb16); have ne_w0_nb16 : w0 ≠ nb16 := O.ne E_w0.lt g_nb16
  have ne_w1_nb16 : w1 ≠ nb16 := O.ne E_w1.lt g_nb16; have ne_w2_nb16 : w2 ≠ nb16 := O.ne E_w2.lt g_nb16; have ne_w3_nb16 : w3 ≠ nb16 := O.ne E_w3.lt g_nb16; have ne_w4_nb16 : w4 ≠ nb16 := O.ne E_w4.lt g_nb16; have ne_va_nb16 : va ≠ nb16 := O.ne E_va.lt g_nb16; have ne_nb11_nb16 : nb11 ≠ nb16 := Nat.ne_of_lt (Nat.lt_of_lt_of_le V_nb11.lt s_nb16)
  have ne_na13_nb16 : na13 ≠ nb16 := Nat.ne_of_lt (Nat.lt_of_lt_of_le E_na13.lt s_nb16); have ne_nb13_nb16 : nb13 ≠ nb16 := Nat.ne_of_lt (Nat.lt_of_lt_of_le V_nb13.lt s_nb16)
  have E_a1 := E_a1.keep K16; have F_value_a1 := F_value_a1.keep K16 nin0; have F_coder_a1 := F_coder_a1.keep K16 nin0; have V_b1 := V_b1.keep K16 nin0; have V_nb11 := V_nb11.keep K16 nin0; have E_na13 := E_na13.keep K16
  have F_value_na13 := F_value_na13.keep K16 nin0; have F_coder_na13 := F_coder_na13.keep K16 nin0; have V_nb13 := V_nb13.keep K16 nin0; have O := O.keep K16 all0; have K := K.trans K16 all0
  have V_nb16 : Arv Z h16 nb16 k16 .byte 1 [(.int (110 : Int32))] (.int (0 : Int32)) := V_nb16
  have ne_na16_nb16 : na16 ≠ nb16 := fun q => own_strarr E_na16 V_nb16 (ow18 hw) q
  show OG p e below _ (T16.setTop (mkF m 28 #[.val (.ref a1), .val (.ref nb11), .val (.int (5 : Int32)), .val (.int (1 : Int32)), .val (.ref w1)] [(.ref na16), (.ref a1)]))
  refine og_virtual (pc' := 31) (cells' := 5) (slots' := 15) (W := 0) X16 hx hZ (rm10_1 l Z a0 hw a1 na16 b1 nb16 k1 k16 (110 : Int32)  cs hcs h16 n0 O E_a1 F_value_a1 F_coder_a1 V_b1 E_na16 F_value_na16 F_coder_na16 V_nb16 S_CS ne_a1_na16) hown (ow61 hw) (ow62 hw) (own_nf hZ (ow64 hw)) (ow64 hw) (ow63 hw) (ow10 hw) (ow65 hw) (by decide) (by rw [hml]; rfl) e16 opd_6 [(.ref na16)] [] rfl rfl rfl rfl (by decide) (by decide) rfl rfl (by decide) (by decide) E_a1 (hb hby d8_28) rfl (fun v17 T17 h17 L17 X17 e17 z17 => ?_)
  obtain ⟨rfl, Nq17, hq17⟩ := z17; replace e17 := e17.trans hq17; have N := Fr.app N Nq17
  show OG p e below _ (T17.setTop (mkF m 31 #[.val (.ref a1), .val (.ref nb11), .val (.int (5 : Int32)), .val (.int (1 : Int32)), .val (.ref w1)] [(.int (1 : Int32))]))
  refine og_if_eq (pc1 := 37) (pc2 := 34) X17 hx (hb hby d8_31) (by decide) (by decide) rfl (fun q => absurd q (by decide)) (fun _ => ?_)
  refine og_aload (pc' := 36) X17 hx rfl rfl (hb hby d8_34) rfl ?_
  refine og_retR X17 hx hlk hret rfl rfl rfl (hb hby d8_36) (by decide) (by decide) ?_
  rw [e17]; exact ⟨rfl, N, K⟩
theorem oef_rm8_2 (m : MethodId) (x0 : Addr) : entryFrame m #[(.ref x0)] 5 = mkF m 0 #[.val (.ref x0), .unset, .unset, .unset, .unset] [] := by first | (simp [entryFrame, mkF, argsToLocals, Value.category]; done) | rfl
set_option maxRecDepth 65536 in
set_option maxHeartbeats 40000000 in
theorem rm8_2 (l : Launch) (Z : State) (a0 : Array Value) (hw : ∀ d ∈ tables_1, d.before a0 Z = true) (a1 b1 va w0 w1 w2 w3 w4 : Addr) (k1 kv : ClassId) (cs : Int32) (hcs : ¬ cs = 0) (h0 : Heap) (n0 : Nat) (O : Old Z n0 h0) (E_a1 : Exa Z h0 a1 "java/lang/String") (F_value_a1 : Fld Z h0 a1 "java/lang/String" "value" "[B" (.ref b1)) (F_coder_a1 : Fld Z h0 a1 "java/lang/String" "coder" "B" (.int (0 : Int32))) (V_b1 : Arv Z h0 b1 k1 .byte (1 : Int32) [(.int (100 : Int32))] (.int (0 : Int32))) (S_CASCADE : Sta Z Z.heap "com/example/tombstone/tombstone/postgres/ForeignKey$Action" "CASCADE" "Lcom/example/tombstone/tombstone/postgres/ForeignKey$Action;" (.ref w0)) (S_SET_NULL : Sta Z Z.heap "com/example/tombstone/tombstone/postgres/ForeignKey$Action" "SET_NULL" "Lcom/example/tombstone/tombstone/postgres/ForeignKey$Action;" (.ref w1)) (S_SET_DEFAULT : Sta Z Z.heap "com/example/tombstone/tombstone/postgres/ForeignKey$Action" "SET_DEFAULT" "Lcom/example/tombstone/tombstone/postgres/ForeignKey$Action;" (.ref w2)) (S_RESTRICT : Sta Z Z.heap "com/example/tombstone/tombstone/postgres/ForeignKey$Action" "RESTRICT" "Lcom/example/tombstone/tombstone/postgres/ForeignKey$Action;" (.ref w3)) (S_NO_ACTION : Sta Z Z.heap "com/example/tombstone/tombstone/postgres/ForeignKey$Action" "NO_ACTION" "Lcom/example/tombstone/tombstone/postgres/ForeignKey$Action;" (.ref w4)) (E_w0 : Exa Z Z.heap w0 "com/example/tombstone/tombstone/postgres/ForeignKey$Action") (E_w1 : Exa Z Z.heap w1 "com/example/tombstone/tombstone/postgres/ForeignKey$Action") (E_w2 : Exa Z Z.heap w2 "com/example/tombstone/tombstone/postgres/ForeignKey$Action") (E_w3 : Exa Z Z.heap w3 "com/example/tombstone/tombstone/postgres/ForeignKey$Action") (E_w4 : Exa Z Z.heap w4 "com/example/tombstone/tombstone/postgres/ForeignKey$Action") (F_w0 : Fld Z Z.heap w0 "com/example/tombstone/tombstone/postgres/ForeignKey$Action" "code" "C" (.int (99 : Int32))) (F_w1 : Fld Z Z.heap w1 "com/example/tombstone/tombstone/postgres/ForeignKey$Action" "code" "C" (.int (110 : Int32))) (F_w2 : Fld Z Z.heap w2 "com/example/tombstone/tombstone/postgres/ForeignKey$Action" "code" "C" (.int (100 : Int32))) (F_w3 : Fld Z Z.heap w3 "com/example/tombstone/tombstone/postgres/ForeignKey$Action" "code" "C" (.int (114 : Int32))) (F_w4 : Fld Z Z.heap w4 "com/example/tombstone/tombstone/postgres/ForeignKey$Action" "code" "C" (.int (97 : Int32))) (S_VALUES : Sta Z Z.heap "com/example/tombstone/tombstone/postgres/ForeignKey$Action" "$VALUES" "[Lcom/example/tombstone/tombstone/postgres/ForeignKey$Action;" (.ref va)) (E_va : Exa Z Z.heap va "[Lcom/example/tombstone/tombstone/postgres/ForeignKey$Action;") (V_va : Arv Z Z.heap va kv (.object "com/example/tombstone/tombstone/postgres/ForeignKey$Action") (5 : Int32) [(.ref w0), (.ref w1), (.ref w2), (.ref w3), (.ref w4)] .null) (S_CS : Sta Z Z.heap "java/lang/String" "COMPACT_STRINGS" "Z" (.int cs)) :
    Con l Z (⟨"com/example/tombstone/tombstone/postgres/ForeignKey$Action", "fromCatalog", "(Ljava/lang/String;)Lcom/example/tombstone/tombstone/postgres/ForeignKey$Action;"⟩ : MethodName) prog_15_method_6_code 5 (some (.object "com/example/tombstone/tombstone/postgres/ForeignKey$Action")) ({ frames := 3, cells := 7, slots := 20, locals := 40 } : Room) #[(.ref a1)] h0 (fun v h L => v = some (.ref w2) ∧ Fr n0 L ∧ Keep h0 h []) := by
  refine own_start (Q := fun v h L => v = some (.ref w2) ∧ Fr n0 L ∧ Keep h0 h []) opn_8 ?_
  intro p e s m below meth c T0 X0 hx hby hml hZ hown hnm hret hlk e0
  have N := Fr.nil n0; have K := Keep.refl h0 []
  refine OG.cast (oef_rm8_2 m a1) ?_
  refine og_static (pc' := 3) (cells' := 1) (slots' := 5) (W := 0) X0 hx hZ (rm9 l Z a0 hw va w0 w1 w2 w3 w4 kv h0 n0 O S_VALUES E_va V_va) hown (ow38 hw) (ow39 hw) (ow36 hw) (ow40 hw) (by decide) (by rw [hml]; rfl) e0 opd_4 [] [] rfl rfl rfl rfl (by decide) (by decide) rfl rfl (by decide) (by decide) (hb hby d8_0) rfl (fun v11 T11 h11 L11 X11 e11 z11 => ?_)
  obtain ⟨nb11, k11, rfl, Nq11, K11, sb11, V_nb11⟩ := z11; have N := Fr.app N Nq11
  have s_nb11 : h0.size ≤ nb11 := sb11; have g_nb11 : n0 ≤ nb11 := Nat.le_trans (own_n0 O) s_nb11; have sz_nb11 : h0.size ≤ nb11 := Nat.le_trans K.1 s_nb11; have ne_a1_nb11 : a1 ≠ nb11 := Nat.ne_of_lt (Nat.lt_of_lt_of_le E_a1.lt s_nb11); have ne_b1_nb11 : b1 ≠ nb11 := Nat.ne_of_lt (Nat.lt_of_lt_of_le V_b1.lt s_nb11); have ne_w0_nb11 : w0 ≠ nb11 := O.ne E_w0.lt g_nb11
  have ne_w1_nb11 : w1 ≠ nb11 := O.ne E_w1.lt g_nb11; have ne_w2_nb11 : w2 ≠ nb11 := O.ne E_w2.lt g_nb11; have ne_w3_nb11 : w3 ≠ nb11 := O.ne E_w3.lt g_nb11; have ne_w4_nb11 : w4 ≠ nb11 := O.ne E_w4.lt g_nb11; have ne_va_nb11 : va ≠ nb11 := O.ne E_va.lt g_nb11
  have E_a1 := E_a1.keep K11; have F_value_a1 := F_value_a1.keep K11 nin0; have F_coder_a1 := F_coder_a1.keep K11 nin0; have V_b1 := V_b1.keep K11 nin0; have O := O.keep K11 all0; have K := K.trans K11 all0
  show OG p e below _ (T11.setTop (mkF m 3 #[.val (.ref a1), .unset, .unset, .unset, .unset] [(.ref nb11)]))
  refine og_astoreN (pc' := 4) (L' := #[.val (.ref a1), .val (.ref nb11), .unset, .unset, .unset]) X11 hx rfl rfl (hb hby d8_3) rfl ?_
  refine og_aloadN (pc' := 5) X11 hx rfl rfl (hb hby d8_4) rfl ?_
  refine og_arraylength (pc' := 6) X11 hx hZ e11 V_nb11 (hb hby d8_5) rfl ?_
  refine og_istoreN (pc' := 7) (L' := #[.val (.ref a1), .val (.ref nb11), .val (.int (5 : Int32)), .unset, .unset]) X11 hx rfl (hb hby d8_6) rfl ?_
  refine og_iconst (pc' := 8) (v := (0 : Int32)) X11 hx rfl (hb hby d8_7) rfl ?_
  refine og_istoreN (pc' := 9) (L' := #[.val (.ref a1), .val (.ref nb11), .val (.int (5 : Int32)), .val (.int (0 : Int32)), .unset]) X11 hx rfl (hb hby d8_8) rfl ?_
  refine og_iloadN (pc' := 10) X11 hx rfl (hb hby d8_9) rfl ?_
  refine og_iloadN (pc' := 11) X11 hx rfl (hb hby d8_10) rfl ?_
  refine og_icmp_ge (pc1 := 43) (pc2 := 14) X11 hx (hb hby d8_11) (by decide) (by decide) rfl (fun q => absurd q (by decide)) (fun _ => ?_)
  refine og_aloadN (pc' := 15) X11 hx rfl rfl (hb hby d8_14) rfl ?_
  refine og_iloadN (pc' := 16) X11 hx rfl (hb hby d8_15) rfl ?_
  refine og_aaload (pc' := 17) (v := (.ref w0)) X11 hx hZ e11 rfl V_nb11 ⟨by decide, by decide⟩ rfl (hb hby d8_16) rfl ?_
  refine og_astore (pc' := 19) (L' := #[.val (.ref a1), .val (.ref nb11), .val (.int (5 : Int32)), .val (.int (0 : Int32)), .val (.ref w0)]) X11 hx rfl rfl (hb hby d8_17) rfl ?_
  refine og_aloadN (pc' := 20) X11 hx rfl rfl (hb hby d8_19) rfl ?_
  refine og_aload (pc' := 22) X11 hx rfl rfl (hb hby d8_20) rfl ?_
  refine og_getfield (pc' := 25) X11 hx hZ (host := "") hown (Or.inl (ow58 hw)) Via.refl e11 (F_w0.ext O.2) (hb hby d8_22) rfl (fun T12 X12 e12 => ?_)
  refine og_static (pc' := 28) (cells' := 3) (slots' := 10) (W := 1) X12 hx hZ (rm_vo l Z a0 hw (99 : Int32) (by decide) cs hcs h11 n0 O S_CS) hown (ow60 hw) (ow9 hw) (ow10 hw) (ow11 hw) (by decide) (by rw [hml]; rfl) e12 opd_5 [(.int (99 : Int32))] [(.ref a1)] rfl rfl rfl rfl (by decide) (by decide) rfl rfl (by decide) (by decide) (hb hby d8_25) rfl (fun v13 T13 h13 L13 X13 e13 z13 => ?_)
  obtain ⟨na13, nb13, k13, rfl, Nq13, K13, sa13, sb13, E_na13, F_value_na13, F_coder_na13, V_nb13⟩ := z13; have N := Fr.app N Nq13
  have s_na13 : h11.size ≤ na13 := sa13; have g_na13 : n0 ≤ na13 := Nat.le_trans (own_n0 O) s_na13; have sz_na13 : h0.size ≤ na13 := Nat.le_trans K.1 s_na13; have ne_a1_na13 : a1 ≠ na13 := Nat.ne_of_lt (Nat.lt_of_lt_of_le E_a1.lt s_na13); have ne_b1_na13 : b1 ≠ na13 := Nat.ne_of_lt (Nat.lt_of_lt_of_le V_b1.lt s_na13); have ne_w0_na13 : w0 ≠ na13 := O.ne E_w0.lt g_na13
  have ne_w1_na13 : w1 ≠ na13 := O.ne E_w1.lt g_na13; have ne_w2_na13 : w2 ≠ na13 := O.ne E_w2.lt g_na13; have ne_w3_na13 : w3 ≠ na13 := O.ne E_w3.lt g_na13; have ne_w4_na13 : w4 ≠ na13 := O.ne E_w4.lt g_na13; have ne_va_na13 : va ≠ na13 := O.ne E_va.lt g_na13; have ne_nb11_na13 : nb11 ≠ na13 := Nat.ne_of_lt (Nat.lt_of_lt_of_le V_nb11.lt s_na13)
  have s_nb13 : h11.size ≤ nb13 := sb13; have g_nb13 : n0 ≤ nb13 := Nat.le_trans (own_n0 O) s_nb13; have sz_nb13 : h0.size ≤ nb13 := Nat.le_trans K.1 s_nb13; have ne_a1_nb13 : a1 ≠ nb13 := Nat.ne_of_lt (Nat.lt_of_lt_of_le E_a1.lt s_nb13); have ne_b1_nb13 : b1 ≠ nb13 := Nat.ne_of_lt (Nat.lt_of_lt_of_le V_b1.lt s_nb13); have ne_w0_nb13 : w0 ≠ nb13 := O.ne E_w0.lt g_nb13
  have ne_w1_nb13 : w1 ≠ nb13 := O.ne E_w1.lt g_nb13; have ne_w2_nb13 : w2 ≠ nb13 := O.ne E_w2.lt g_nb13; have ne_w3_nb13 : w3 ≠ nb13 := O.ne E_w3.lt g_nb13; have ne_w4_nb13 : w4 ≠ nb13 := O.ne E_w4.lt g_nb13; have ne_va_nb13 : va ≠ nb13 := O.ne E_va.lt g_nb13; have ne_nb11_nb13 : nb11 ≠ nb13 := Nat.ne_of_lt (Nat.lt_of_lt_of_le V_nb11.lt s_nb13)
  have E_a1 := E_a1.keep K13; have F_value_a1 := F_value_a1.keep K13 nin0; have F_coder_a1 := F_coder_a1.keep K13 nin0; have V_b1 := V_b1.keep K13 nin0; have V_nb11 := V_nb11.keep K13 nin0; have O := O.keep K13 all0
  have K := K.trans K13 all0
  have V_nb13 : Arv Z h13 nb13 k13 .byte 1 [(.int (99 : Int32))] (.int (0 : Int32)) := V_nb13
  have ne_na13_nb13 : na13 ≠ nb13 := fun q => own_strarr E_na13 V_nb13 (ow18 hw) q
  show OG p e below _ (T13.setTop (mkF m 28 #[.val (.ref a1), .val (.ref nb11), .val (.int (5 : Int32)), .val (.int (0 : Int32)), .val (.ref w0)] [(.ref na13), (.ref a1)]))
  refine og_virtual (pc' := 31) (cells' := 3) (slots' := 10) (W := 0) X13 hx hZ (rm10_0 l Z a0 hw a1 na13 b1 nb13 k1 k13 (100 : Int32) (99 : Int32) (by decide) cs hcs h13 n0 O E_a1 F_value_a1 F_coder_a1 V_b1 E_na13 F_value_na13 F_coder_na13 V_nb13 S_CS ne_a1_na13) hown (ow61 hw) (ow62 hw) (own_nf hZ (ow64 hw)) (ow64 hw) (ow63 hw) (ow10 hw) (ow65 hw) (by decide) (by rw [hml]; rfl) e13 opd_6 [(.ref na13)] [] rfl rfl rfl rfl (by decide) (by decide) rfl rfl (by decide) (by decide) E_a1 (hb hby d8_28) rfl (fun v14 T14 h14 L14 X14 e14 z14 => ?_)
  obtain ⟨rfl, Nq14, hq14⟩ := z14; replace e14 := e14.trans hq14; have N := Fr.app N Nq14
  show OG p e below _ (T14.setTop (mkF m 31 #[.val (.ref a1), .val (.ref nb11), .val (.int (5 : Int32)), .val (.int (0 : Int32)), .val (.ref w0)] [(.int (0 : Int32))]))
  refine og_if_eq (pc1 := 37) (pc2 := 34) X14 hx (hb hby d8_31) (by decide) (by decide) rfl (fun _ => ?_) (fun q => absurd q (by decide))
  refine og_iinc (pc' := 40) (L' := #[.val (.ref a1), .val (.ref nb11), .val (.int (5 : Int32)), .val (.int (1 : Int32)), .val (.ref w0)]) (w := (1 : Int32)) X14 hx rfl rfl rfl (hb hby d8_37) rfl ?_
  refine og_goto (pc' := 9) X14 hx (hb hby d8_40) (by decide) (by decide) ?_
  refine og_iloadN (pc' := 10) X14 hx rfl (hb hby d8_9) rfl ?_
  refine og_iloadN (pc' := 11) X14 hx rfl (hb hby d8_10) rfl ?_
  refine og_icmp_ge (pc1 := 43) (pc2 := 14) X14 hx (hb hby d8_11) (by decide) (by decide) rfl (fun q => absurd q (by decide)) (fun _ => ?_)
  refine og_aloadN (pc' := 15) X14 hx rfl rfl (hb hby d8_14) rfl ?_
  refine og_iloadN (pc' := 16) X14 hx rfl (hb hby d8_15) rfl ?_
  refine og_aaload (pc' := 17) (v := (.ref w1)) X14 hx hZ e14 rfl V_nb11 ⟨by decide, by decide⟩ rfl (hb hby d8_16) rfl ?_
  refine og_astore (pc' := 19) (L' := #[.val (.ref a1), .val (.ref nb11), .val (.int (5 : Int32)), .val (.int (1 : Int32)), .val (.ref w1)]) X14 hx rfl rfl (hb hby d8_17) rfl ?_
  refine og_aloadN (pc' := 20) X14 hx rfl rfl (hb hby d8_19) rfl ?_
  refine og_aload (pc' := 22) X14 hx rfl rfl (hb hby d8_20) rfl ?_
  refine og_getfield (pc' := 25) X14 hx hZ (host := "") hown (Or.inl (ow58 hw)) Via.refl e14 (F_w1.ext O.2) (hb hby d8_22) rfl (fun T15 X15 e15 => ?_)
  refine og_static (pc' := 28) (cells' := 5) (slots' := 15) (W := 1) X15 hx hZ (rm_vo l Z a0 hw (110 : Int32) (by decide) cs hcs h13 n0 O S_CS) hown (ow60 hw) (ow9 hw) (ow10 hw) (ow11 hw) (by decide) (by rw [hml]; rfl) e15 opd_5 [(.int (110 : Int32))] [(.ref a1)] rfl rfl rfl rfl (by decide) (by decide) rfl rfl (by decide) (by decide) (hb hby d8_25) rfl (fun v16 T16 h16 L16 X16 e16 z16 => ?_)
  obtain ⟨na16, nb16, k16, rfl, Nq16, K16, sa16, sb16, E_na16, F_value_na16, F_coder_na16, V_nb16⟩ := z16; have N := Fr.app N Nq16
  have s_na16 : h13.size ≤ na16 := sa16; have g_na16 : n0 ≤ na16 := Nat.le_trans (own_n0 O) s_na16; have sz_na16 : h0.size ≤ na16 := Nat.le_trans K.1 s_na16; have ne_a1_na16 : a1 ≠ na16 := Nat.ne_of_lt (Nat.lt_of_lt_of_le E_a1.lt s_na16); have ne_b1_na16 : b1 ≠ na16 := Nat.ne_of_lt (Nat.lt_of_lt_of_le V_b1.lt s_na16); have ne_w0_na16 : w0 ≠ na16 := O.ne E_w0.lt g_na16
  have ne_w1_na16 : w1 ≠ na16 := O.ne E_w1.lt g_na16; have ne_w2_na16 : w2 ≠ na16 := O.ne E_w2.lt g_na16; have ne_w3_na16 : w3 ≠ na16 := O.ne E_w3.lt g_na16; have ne_w4_na16 : w4 ≠ na16 := O.ne E_w4.lt g_na16; have ne_va_na16 : va ≠ na16 := O.ne E_va.lt g_na16; have ne_nb11_na16 : nb11 ≠ na16 := Nat.ne_of_lt (Nat.lt_of_lt_of_le V_nb11.lt s_na16)
  have ne_na13_na16 : na13 ≠ na16 := Nat.ne_of_lt (Nat.lt_of_lt_of_le E_na13.lt s_na16); have ne_nb13_na16 : nb13 ≠ na16 := Nat.ne_of_lt (Nat.lt_of_lt_of_le V_nb13.lt s_na16)
  have s_nb16 : h13.size ≤ nb16 := sb16; have g_nb16 : n0 ≤ nb16 := Nat.le_trans (own_n0 O) s_nb16; have sz_nb16 : h0.size ≤ nb16 := Nat.le_trans K.1 s_nb16; have ne_a1_nb16 : a1 ≠ nb16 := Nat.ne_of_lt (Nat.lt_of_lt_of_le E_a1.lt s_nb16); have ne_b1_nb16 : b1 ≠ nb16 := Nat.ne_of_lt (Nat.lt_of_lt_of_le V_b1.lt s_nb16); have ne_w0_nb16 : w0 ≠ nb16 := O.ne E_w0.lt g_nb16
  have ne_w1_nb16 : w1 ≠ nb16 := O.ne E_w1.lt g_nb16; have ne_w2_nb16 : w2 ≠ nb16 := O.ne E_w2.lt g_nb16; have ne_w3_nb16 : w3 ≠ nb16 := O.ne E_w3.lt g_nb16; have ne_w4_nb16 : w4 ≠ nb16 := O.ne E_w4.lt g_nb16; have ne_va_nb16 : va ≠ nb16 := O.ne E_va.lt g_nb16; have ne_nb11_nb16 : nb11 ≠ nb16 := Nat.ne_of_lt (Nat.lt_of_lt_of_le V_nb11.lt s_nb16)
  have ne_na13_nb16 : na13 ≠ nb16 := Nat.ne_of_lt (Nat.lt_of_lt_of_le E_na13.lt s_nb16); have ne_nb13_nb16 : nb13 ≠ nb16 := Nat.ne_of_lt (Nat.lt_of_lt_of_le V_nb13.lt s_nb16)
  have E_a1 := E_a1.keep K16; have F_value_a1 := F_value_a1.keep K16 nin0; have F_coder_a1 := F_coder_a1.keep K16 nin0; have V_b1 := V_b1.keep K16 nin0; have V_nb11 := V_nb11.keep K16 nin0; have E_na13 := E_na13.keep K16
  have F_value_na13 := F_value_na13.keep K16 nin0; have F_coder_na13 := F_coder_na13.keep K16 nin0; have V_nb13 := V_nb13.keep K16 nin0; have O := O.keep K16 all0; have K := K.trans K16 all0
  have V_nb16 : Arv Z h16 nb16 k16 .byte 1 [(.int (110 : Int32))] (.int (0 : Int32)) := V_nb16
  have ne_na16_nb16 : na16 ≠ nb16 := fun q => own_strarr E_na16 V_nb16 (ow18 hw) q
  show OG p e below _ (T16.setTop (mkF m 28 #[.val (.ref a1), .val (.ref nb11), .val (.int (5 : Int32)), .val (.int (1 : Int32)), .val (.ref w1)] [(.ref na16), (.ref a1)]))
  refine og_virtual (pc' := 31) (cells' := 5) (slots' := 15) (W := 0) X16 hx hZ (rm10_0 l Z a0 hw a1 na16 b1 nb16 k1 k16 (100 : Int32) (110 : Int32) (by decide) cs hcs h16 n0 O E_a1 F_value_a1 F_coder_a1 V_b1 E_na16 F_value_na16 F_coder_na16 V_nb16 S_CS ne_a1_na16) hown (ow61 hw) (ow62 hw) (own_nf hZ (ow64 hw)) (ow64 hw) (ow63 hw) (ow10 hw) (ow65 hw) (by decide) (by rw [hml]; rfl) e16 opd_6 [(.ref na16)] [] rfl rfl rfl rfl (by decide) (by decide) rfl rfl (by decide) (by decide) E_a1 (hb hby d8_28) rfl (fun v17 T17 h17 L17 X17 e17 z17 => ?_)
  obtain ⟨rfl, Nq17, hq17⟩ := z17; replace e17 := e17.trans hq17; have N := Fr.app N Nq17
  show OG p e below _ (T17.setTop (mkF m 31 #[.val (.ref a1), .val (.ref nb11), .val (.int (5 : Int32)), .val (.int (1 : Int32)), .val (.ref w1)] [(.int (0 : Int32))]))
  refine og_if_eq (pc1 := 37) (pc2 := 34) X17 hx (hb hby d8_31) (by decide) (by decide) rfl (fun _ => ?_) (fun q => absurd q (by decide))
  refine og_iinc (pc' := 40) (L' := #[.val (.ref a1), .val (.ref nb11), .val (.int (5 : Int32)), .val (.int (2 : Int32)), .val (.ref w1)]) (w := (1 : Int32)) X17 hx rfl rfl rfl (hb hby d8_37) rfl ?_
  refine og_goto (pc' := 9) X17 hx (hb hby d8_40) (by decide) (by decide) ?_
  refine og_iloadN (pc' := 10) X17 hx rfl (hb hby d8_9) rfl ?_
  refine og_iloadN (pc' := 11) X17 hx rfl (hb hby d8_10) rfl ?_
  refine og_icmp_ge (pc1 := 43) (pc2 := 14) X17 hx (hb hby d8_11) (by decide) (by decide) rfl (fun q => absurd q (by decide)) (fun _ => ?_)
  refine og_aloadN (pc' := 15) X17 hx rfl rfl (hb hby d8_14) rfl ?_
  refine og_iloadN (pc' := 16) X17 hx rfl (hb hby d8_15) rfl ?_
  refine og_aaload (pc' := 17) (v := (.ref w2)) X17 hx hZ e17 rfl V_nb11 ⟨by decide, by decide⟩ rfl (hb hby d8_16) rfl ?_
  refine og_astore (pc' := 19) (L' := #[.val (.ref a1), .val (.ref nb11), .val (.int (5 : Int32)), .val (.int (2 : Int32)), .val (.ref w2)]) X17 hx rfl rfl (hb hby d8_17) rfl ?_
  refine og_aloadN (pc' := 20) X17 hx rfl rfl (hb hby d8_19) rfl ?_
  refine og_aload (pc' := 22) X17 hx rfl rfl (hb hby d8_20) rfl ?_
  refine og_getfield (pc' := 25) X17 hx hZ (host := "") hown (Or.inl (ow58 hw)) Via.refl e17 (F_w2.ext O.2) (hb hby d8_22) rfl (fun T18 X18 e18 => ?_)
  refine og_static (pc' := 28) (cells' := 7) (slots' := 20) (W := 1) X18 hx hZ (rm_vo l Z a0 hw (100 : Int32) (by decide) cs hcs h16 n0 O S_CS) hown (ow60 hw) (ow9 hw) (ow10 hw) (ow11 hw) (by decide) (by rw [hml]; rfl) e18 opd_5 [(.int (100 : Int32))] [(.ref a1)] rfl rfl rfl rfl (by decide) (by decide) rfl rfl (by decide) (by decide) (hb hby d8_25) rfl (fun v19 T19 h19 L19 X19 e19 z19 => ?_)
  obtain ⟨na19, nb19, k19, rfl, Nq19, K19, sa19, sb19, E_na19, F_value_na19, F_coder_na19, V_nb19⟩ := z19; have N := Fr.app N Nq19
  have s_na19 : h16.size ≤ na19 := sa19; have g_na19 : n0 ≤ na19 := Nat.le_trans (own_n0 O) s_na19; have sz_na19 : h0.size ≤ na19 := Nat.le_trans K.1 s_na19; have ne_a1_na19 : a1 ≠ na19 := Nat.ne_of_lt (Nat.lt_of_lt_of_le E_a1.lt s_na19); have ne_b1_na19 : b1 ≠ na19 := Nat.ne_of_lt (Nat.lt_of_lt_of_le V_b1.lt s_na19); have ne_w0_na19 : w0 ≠ na19 := O.ne E_w0.lt g_na19
  have ne_w1_na19 : w1 ≠ na19 := O.ne E_w1.lt g_na19; have ne_w2_na19 : w2 ≠ na19 := O.ne E_w2.lt g_na19; have ne_w3_na19 : w3 ≠ na19 := O.ne E_w3.lt g_na19; have ne_w4_na19 : w4 ≠ na19 := O.ne E_w4.lt g_na19; have ne_va_na19 : va ≠ na19 := O.ne E_va.lt g_na19; have ne_nb11_na19 : nb11 ≠ na19 := Nat.ne_of_lt (Nat.lt_of_lt_of_le V_nb11.lt s_na19)
  have ne_na13_na19 : na13 ≠ na19 := Nat.ne_of_lt (Nat.lt_of_lt_of_le E_na13.lt s_na19); have ne_nb13_na19 : nb13 ≠ na19 := Nat.ne_of_lt (Nat.lt_of_lt_of_le V_nb13.lt s_na19); have ne_na16_na19 : na16 ≠ na19 := Nat.ne_of_lt (Nat.lt_of_lt_of_le E_na16.lt s_na19); have ne_nb16_na19 : nb16 ≠ na19 := Nat.ne_of_lt (Nat.lt_of_lt_of_le V_nb16.lt s_na19)
  have s_nb19 : h16.size ≤ nb19 := sb19; have g_nb19 : n0 ≤ nb19 := Nat.le_trans (own_n0 O) s_nb19; have sz_nb19 : h0.size ≤ nb19 := Nat.le_trans K.1 s_nb19; have ne_a1_nb19 : a1 ≠ nb19 := Nat.ne_of_lt (Nat.lt_of_lt_of_le E_a1.lt s_nb19); have ne_b1_nb19 : b1 ≠ nb19 := Nat.ne_of_lt (Nat.lt_of_lt_of_le V_b1.lt s_nb19); have ne_w0_nb19 : w0 ≠ nb19 := O.ne E_w0.lt g_nb19
  have ne_w1_nb19 : w1 ≠ nb19 := O.ne E_w1.lt g_nb19; have ne_w2_nb19 : w2 ≠ nb19 := O.ne E_w2.lt g_nb19; have ne_w3_nb19 : w3 ≠ nb19 := O.ne E_w3.lt g_nb19; have ne_w4_nb19 : w4 ≠ nb19 := O.ne E_w4.lt g_nb19; have ne_va_nb19 : va ≠ nb19 := O.ne E_va.lt g_nb19; have ne_nb11_nb19 : nb11 ≠ nb19 := Nat.ne_of_lt (Nat.lt_of_lt_of_le V_nb11.lt s_nb19)
  have ne_na13_nb19 : na13 ≠ nb19 := Nat.ne_of_lt (Nat.lt_of_lt_of_le E_na13.lt s_nb19); have ne_nb13_nb19 : nb13 ≠ nb19 := Nat.ne_of_lt (Nat.lt_of_lt_of_le V_nb13.lt s_nb19); have ne_na16_nb19 : na16 ≠ nb19 := Nat.ne_of_lt (Nat.lt_of_lt_of_le E_na16.lt s_nb19); have ne_nb16_nb19 : nb16 ≠ nb19 := Nat.ne_of_lt (Nat.lt_of_lt_of_le V_nb16.lt s_nb19)
  have E_a1 := E_a1.keep K19; have F_value_a1 := F_value_a1.keep K19 nin0; have F_coder_a1 := F_coder_a1.keep K19 nin0; have V_b1 := V_b1.keep K19 nin0; have V_nb11 := V_nb11.keep K19 nin0; have E_na13 := E_na13.keep K19
  have F_value_na13 := F_value_na13.keep K19 nin0; have F_coder_na13 := F_coder_na13.keep K19 nin0; have V_nb13 := V_nb13.keep K19 nin0; have E_na16 := E_na16.keep K19; have F_value_na16 := F_value_na16.keep K19 nin0; have F_coder_na16 := F_coder_na16.keep K19 nin0
  have V_nb16 := V_nb16.keep K19 nin0; have O := O.keep K19 all0; have K := K.trans K19 all0
  have V_nb19 : Arv Z h19 nb19 k19 .byte 1 [(.int (100 : Int32))] (.int (0 : Int32)) := V_nb19
  have ne_na19_nb19 : na19 ≠ nb19 := fun q => own_strarr E_na19 V_nb19 (ow18 hw) q
  show OG p e below _ (T19.setTop (mkF m 28 #[.val (.ref a1), .val (.ref nb11), .val (.int (5 : Int32)), .val (.int (2 : Int32)), .val (.ref w2)] [(.ref na19), (.ref a1)]))
  refine og_virtual (pc' := 31) (cells' := 7) (slots' := 20) (W := 0) X19 hx hZ (rm10_1 l Z a0 hw a1 na19 b1 nb19 k1 k19 (100 : Int32)  cs hcs h19 n0 O E_a1 F_value_a1 F_coder_a1 V_b1 E_na19 F_value_na19 F_coder_na19 V_nb19 S_CS ne_a1_na19) hown (ow61 hw) (ow62 hw) (own_nf hZ (ow64 hw)) (ow64 hw) (ow63 hw) (ow10 hw) (ow65 hw) (by decide) (by rw [hml]; rfl) e19 opd_6 [(.ref na19)] [] rfl rfl rfl rfl (by decide) (by decide) rfl rfl (by decide) (by decide) E_a1 (hb hby d8_28) rfl (fun v20 T20 h20 L20 X20 e20 z20 => ?_)
  obtain ⟨rfl, Nq20, hq20⟩ := z20; replace e20 := e20.trans hq20; have N := Fr.app N Nq20
  show OG p e below _ (T20.setTop (mkF m 31 #[.val (.ref a1), .val (.ref nb11), .val (.int (5 : Int32)), .val (.int (2 : Int32)), .val (.ref w2)] [(.int (1 : Int32))]))
  refine og_if_eq (pc1 := 37) (pc2 := 34) X20 hx (hb hby d8_31) (by decide) (by decide) rfl (fun q => absurd q (by decide)) (fun _ => ?_)
  refine og_aload (pc' := 36) X20 hx rfl rfl (hb hby d8_34) rfl ?_
  refine og_retR X20 hx hlk hret rfl rfl rfl (hb hby d8_36) (by decide) (by decide) ?_
  rw [e20]; exact ⟨rfl, N, K⟩
theorem oef_rm8_3 (m : MethodId) (x0 : Addr) : entryFrame m #[(.ref x0)] 5 = mkF m 0 #[.val (.ref x0), .unset, .unset, .unset, .unset] [] := by first | (simp [entryFrame, mkF, argsToLocals, Value.category]; done) | rfl
set_option maxRecDepth 65536 in
set_option maxHeartbeats 40000000 in
theorem rm8_3 (l : Launch) (Z : State) (a0 : Array Value) (hw : ∀ d ∈ tables_1, d.before a0 Z = true) (a1 b1 va w0 w1 w2 w3 w4 : Addr) (k1 kv : ClassId) (cs : Int32) (hcs : ¬ cs = 0) (h0 : Heap) (n0 : Nat) (O : Old Z n0 h0) (E_a1 : Exa Z h0 a1 "java/lang/String") (F_value_a1 : Fld Z h0 a1 "java/lang/String" "value" "[B" (.ref b1)) (F_coder_a1 : Fld Z h0 a1 "java/lang/String" "coder" "B" (.int (0 : Int32))) (V_b1 : Arv Z h0 b1 k1 .byte (1 : Int32) [(.int (114 : Int32))] (.int (0 : Int32))) (S_CASCADE : Sta Z Z.heap "com/example/tombstone/tombstone/postgres/ForeignKey$Action" "CASCADE" "Lcom/example/tombstone/tombstone/postgres/ForeignKey$Action;" (.ref w0)) (S_SET_NULL : Sta Z Z.heap "com/example/tombstone/tombstone/postgres/ForeignKey$Action" "SET_NULL" "Lcom/example/tombstone/tombstone/postgres/ForeignKey$Action;" (.ref w1)) (S_SET_DEFAULT : Sta Z Z.heap "com/example/tombstone/tombstone/postgres/ForeignKey$Action" "SET_DEFAULT" "Lcom/example/tombstone/tombstone/postgres/ForeignKey$Action;" (.ref w2)) (S_RESTRICT : Sta Z Z.heap "com/example/tombstone/tombstone/postgres/ForeignKey$Action" "RESTRICT" "Lcom/example/tombstone/tombstone/postgres/ForeignKey$Action;" (.ref w3)) (S_NO_ACTION : Sta Z Z.heap "com/example/tombstone/tombstone/postgres/ForeignKey$Action" "NO_ACTION" "Lcom/example/tombstone/tombstone/postgres/ForeignKey$Action;" (.ref w4)) (E_w0 : Exa Z Z.heap w0 "com/example/tombstone/tombstone/postgres/ForeignKey$Action") (E_w1 : Exa Z Z.heap w1 "com/example/tombstone/tombstone/postgres/ForeignKey$Action") (E_w2 : Exa Z Z.heap w2 "com/example/tombstone/tombstone/postgres/ForeignKey$Action") (E_w3 : Exa Z Z.heap w3 "com/example/tombstone/tombstone/postgres/ForeignKey$Action") (E_w4 : Exa Z Z.heap w4 "com/example/tombstone/tombstone/postgres/ForeignKey$Action") (F_w0 : Fld Z Z.heap w0 "com/example/tombstone/tombstone/postgres/ForeignKey$Action" "code" "C" (.int (99 : Int32))) (F_w1 : Fld Z Z.heap w1 "com/example/tombstone/tombstone/postgres/ForeignKey$Action" "code" "C" (.int (110 : Int32))) (F_w2 : Fld Z Z.heap w2 "com/example/tombstone/tombstone/postgres/ForeignKey$Action" "code" "C" (.int (100 : Int32))) (F_w3 : Fld Z Z.heap w3 "com/example/tombstone/tombstone/postgres/ForeignKey$Action" "code" "C" (.int (114 : Int32))) (F_w4 : Fld Z Z.heap w4 "com/example/tombstone/tombstone/postgres/ForeignKey$Action" "code" "C" (.int (97 : Int32))) (S_VALUES : Sta Z Z.heap "com/example/tombstone/tombstone/postgres/ForeignKey$Action" "$VALUES" "[Lcom/example/tombstone/tombstone/postgres/ForeignKey$Action;" (.ref va)) (E_va : Exa Z Z.heap va "[Lcom/example/tombstone/tombstone/postgres/ForeignKey$Action;") (V_va : Arv Z Z.heap va kv (.object "com/example/tombstone/tombstone/postgres/ForeignKey$Action") (5 : Int32) [(.ref w0), (.ref w1), (.ref w2), (.ref w3), (.ref w4)] .null) (S_CS : Sta Z Z.heap "java/lang/String" "COMPACT_STRINGS" "Z" (.int cs)) :
    Con l Z (⟨"com/example/tombstone/tombstone/postgres/ForeignKey$Action", "fromCatalog", "(Ljava/lang/String;)Lcom/example/tombstone/tombstone/postgres/ForeignKey$Action;"⟩ : MethodName) prog_15_method_6_code 5 (some (.object "com/example/tombstone/tombstone/postgres/ForeignKey$Action")) ({ frames := 3, cells := 9, slots := 25, locals := 40 } : Room) #[(.ref a1)] h0 (fun v h L => v = some (.ref w3) ∧ Fr n0 L ∧ Keep h0 h []) := by
  refine own_start (Q := fun v h L => v = some (.ref w3) ∧ Fr n0 L ∧ Keep h0 h []) opn_8 ?_
  intro p e s m below meth c T0 X0 hx hby hml hZ hown hnm hret hlk e0
  have N := Fr.nil n0; have K := Keep.refl h0 []
  refine OG.cast (oef_rm8_3 m a1) ?_
  refine og_static (pc' := 3) (cells' := 1) (slots' := 5) (W := 0) X0 hx hZ (rm9 l Z a0 hw va w0 w1 w2 w3 w4 kv h0 n0 O S_VALUES E_va V_va) hown (ow38 hw) (ow39 hw) (ow36 hw) (ow40 hw) (by decide) (by rw [hml]; rfl) e0 opd_4 [] [] rfl rfl rfl rfl (by decide) (by decide) rfl rfl (by decide) (by decide) (hb hby d8_0) rfl (fun v11 T11 h11 L11 X11 e11 z11 => ?_)
  obtain ⟨nb11, k11, rfl, Nq11, K11, sb11, V_nb11⟩ := z11; have N := Fr.app N Nq11
  have s_nb11 : h0.size ≤ nb11 := sb11; have g_nb11 : n0 ≤ nb11 := Nat.le_trans (own_n0 O) s_nb11; have sz_nb11 : h0.size ≤ nb11 := Nat.le_trans K.1 s_nb11; have ne_a1_nb11 : a1 ≠ nb11 := Nat.ne_of_lt (Nat.lt_of_lt_of_le E_a1.lt s_nb11); have ne_b1_nb11 : b1 ≠ nb11 := Nat.ne_of_lt (Nat.lt_of_lt_of_le V_b1.lt s_nb11); have ne_w0_nb11 : w0 ≠ nb11 := O.ne E_w0.lt g_nb11
  have ne_w1_nb11 : w1 ≠ nb11 := O.ne E_w1.lt g_nb11; have ne_w2_nb11 : w2 ≠ nb11 := O.ne E_w2.lt g_nb11; have ne_w3_nb11 : w3 ≠ nb11 := O.ne E_w3.lt g_nb11; have ne_w4_nb11 : w4 ≠ nb11 := O.ne E_w4.lt g_nb11; have ne_va_nb11 : va ≠ nb11 := O.ne E_va.lt g_nb11
  have E_a1 := E_a1.keep K11; have F_value_a1 := F_value_a1.keep K11 nin0; have F_coder_a1 := F_coder_a1.keep K11 nin0; have V_b1 := V_b1.keep K11 nin0; have O := O.keep K11 all0; have K := K.trans K11 all0
  show OG p e below _ (T11.setTop (mkF m 3 #[.val (.ref a1), .unset, .unset, .unset, .unset] [(.ref nb11)]))
  refine og_astoreN (pc' := 4) (L' := #[.val (.ref a1), .val (.ref nb11), .unset, .unset, .unset]) X11 hx rfl rfl (hb hby d8_3) rfl ?_
  refine og_aloadN (pc' := 5) X11 hx rfl rfl (hb hby d8_4) rfl ?_
  refine og_arraylength (pc' := 6) X11 hx hZ e11 V_nb11 (hb hby d8_5) rfl ?_
  refine og_istoreN (pc' := 7) (L' := #[.val (.ref a1), .val (.ref nb11), .val (.int (5 : Int32)), .unset, .unset]) X11 hx rfl (hb hby d8_6) rfl ?_
  refine og_iconst (pc' := 8) (v := (0 : Int32)) X11 hx rfl (hb hby d8_7) rfl ?_
  refine og_istoreN (pc' := 9) (L' := #[.val (.ref a1), .val (.ref nb11), .val (.int (5 : Int32)), .val (.int (0 : Int32)), .unset]) X11 hx rfl (hb hby d8_8) rfl ?_
  refine og_iloadN (pc' := 10) X11 hx rfl (hb hby d8_9) rfl ?_
  refine og_iloadN (pc' := 11) X11 hx rfl (hb hby d8_10) rfl ?_
  refine og_icmp_ge (pc1 := 43) (pc2 := 14) X11 hx (hb hby d8_11) (by decide) (by decide) rfl (fun q => absurd q (by decide)) (fun _ => ?_)
  refine og_aloadN (pc' := 15) X11 hx rfl rfl (hb hby d8_14) rfl ?_
  refine og_iloadN (pc' := 16) X11 hx rfl (hb hby d8_15) rfl ?_
  refine og_aaload (pc' := 17) (v := (.ref w0)) X11 hx hZ e11 rfl V_nb11 ⟨by decide, by decide⟩ rfl (hb hby d8_16) rfl ?_
  refine og_astore (pc' := 19) (L' := #[.val (.ref a1), .val (.ref nb11), .val (.int (5 : Int32)), .val (.int (0 : Int32)), .val (.ref w0)]) X11 hx rfl rfl (hb hby d8_17) rfl ?_
  refine og_aloadN (pc' := 20) X11 hx rfl rfl (hb hby d8_19) rfl ?_
  refine og_aload (pc' := 22) X11 hx rfl rfl (hb hby d8_20) rfl ?_
  refine og_getfield (pc' := 25) X11 hx hZ (host := "") hown (Or.inl (ow58 hw)) Via.refl e11 (F_w0.ext O.2) (hb hby d8_22) rfl (fun T12 X12 e12 => ?_)
  refine og_static (pc' := 28) (cells' := 3) (slots' := 10) (W := 1) X12 hx hZ (rm_vo l Z a0 hw (99 : Int32) (by decide) cs hcs h11 n0 O S_CS) hown (ow60 hw) (ow9 hw) (ow10 hw) (ow11 hw) (by decide) (by rw [hml]; rfl) e12 opd_5 [(.int (99 : Int32))] [(.ref a1)] rfl rfl rfl rfl (by decide) (by decide) rfl rfl (by decide) (by decide) (hb hby d8_25) rfl (fun v13 T13 h13 L13 X13 e13 z13 => ?_)
  obtain ⟨na13, nb13, k13, rfl, Nq13, K13, sa13, sb13, E_na13, F_value_na13, F_coder_na13, V_nb13⟩ := z13; have N := Fr.app N Nq13
  have s_na13 : h11.size ≤ na13 := sa13; have g_na13 : n0 ≤ na13 := Nat.le_trans (own_n0 O) s_na13; have sz_na13 : h0.size ≤ na13 := Nat.le_trans K.1 s_na13; have ne_a1_na13 : a1 ≠ na13 := Nat.ne_of_lt (Nat.lt_of_lt_of_le E_a1.lt s_na13); have ne_b1_na13 : b1 ≠ na13 := Nat.ne_of_lt (Nat.lt_of_lt_of_le V_b1.lt s_na13); have ne_w0_na13 : w0 ≠ na13 := O.ne E_w0.lt g_na13
  have ne_w1_na13 : w1 ≠ na13 := O.ne E_w1.lt g_na13; have ne_w2_na13 : w2 ≠ na13 := O.ne E_w2.lt g_na13; have ne_w3_na13 : w3 ≠ na13 := O.ne E_w3.lt g_na13; have ne_w4_na13 : w4 ≠ na13 := O.ne E_w4.lt g_na13; have ne_va_na13 : va ≠ na13 := O.ne E_va.lt g_na13; have ne_nb11_na13 : nb11 ≠ na13 := Nat.ne_of_lt (Nat.lt_of_lt_of_le V_nb11.lt s_na13)
  have s_nb13 : h11.size ≤ nb13 := sb13; have g_nb13 : n0 ≤ nb13 := Nat.le_trans (own_n0 O) s_nb13; have sz_nb13 : h0.size ≤ nb13 := Nat.le_trans K.1 s_nb13; have ne_a1_nb13 : a1 ≠ nb13 := Nat.ne_of_lt (Nat.lt_of_lt_of_le E_a1.lt s_nb13); have ne_b1_nb13 : b1 ≠ nb13 := Nat.ne_of_lt (Nat.lt_of_lt_of_le V_b1.lt s_nb13); have ne_w0_nb13 : w0 ≠ nb13 := O.ne E_w0.lt g_nb13
  have ne_w1_nb13 : w1 ≠ nb13 := O.ne E_w1.lt g_nb13; have ne_w2_nb13 : w2 ≠ nb13 := O.ne E_w2.lt g_nb13; have ne_w3_nb13 : w3 ≠ nb13 := O.ne E_w3.lt g_nb13; have ne_w4_nb13 : w4 ≠ nb13 := O.ne E_w4.lt g_nb13; have ne_va_nb13 : va ≠ nb13 := O.ne E_va.lt g_nb13; have ne_nb11_nb13 : nb11 ≠ nb13 := Nat.ne_of_lt (Nat.lt_of_lt_of_le V_nb11.lt s_nb13)
  have E_a1 := E_a1.keep K13; have F_value_a1 := F_value_a1.keep K13 nin0; have F_coder_a1 := F_coder_a1.keep K13 nin0; have V_b1 := V_b1.keep K13 nin0; have V_nb11 := V_nb11.keep K13 nin0; have O := O.keep K13 all0
  have K := K.trans K13 all0
  have V_nb13 : Arv Z h13 nb13 k13 .byte 1 [(.int (99 : Int32))] (.int (0 : Int32)) := V_nb13
  have ne_na13_nb13 : na13 ≠ nb13 := fun q => own_strarr E_na13 V_nb13 (ow18 hw) q
  show OG p e below _ (T13.setTop (mkF m 28 #[.val (.ref a1), .val (.ref nb11), .val (.int (5 : Int32)), .val (.int (0 : Int32)), .val (.ref w0)] [(.ref na13), (.ref a1)]))
  refine og_virtual (pc' := 31) (cells' := 3) (slots' := 10) (W := 0) X13 hx hZ (rm10_0 l Z a0 hw a1 na13 b1 nb13 k1 k13 (114 : Int32) (99 : Int32) (by decide) cs hcs h13 n0 O E_a1 F_value_a1 F_coder_a1 V_b1 E_na13 F_value_na13 F_coder_na13 V_nb13 S_CS ne_a1_na13) hown (ow61 hw) (ow62 hw) (own_nf hZ (ow64 hw)) (ow64 hw) (ow63 hw) (ow10 hw) (ow65 hw) (by decide) (by rw [hml]; rfl) e13 opd_6 [(.ref na13)] [] rfl rfl rfl rfl (by decide) (by decide) rfl rfl (by decide) (by decide) E_a1 (hb hby d8_28) rfl (fun v14 T14 h14 L14 X14 e14 z14 => ?_)
  obtain ⟨rfl, Nq14, hq14⟩ := z14; replace e14 := e14.trans hq14; have N := Fr.app N Nq14
  show OG p e below _ (T14.setTop (mkF m 31 #[.val (.ref a1), .val (.ref nb11), .val (.int (5 : Int32)), .val (.int (0 : Int32)), .val (.ref w0)] [(.int (0 : Int32))]))
  refine og_if_eq (pc1 := 37) (pc2 := 34) X14 hx (hb hby d8_31) (by decide) (by decide) rfl (fun _ => ?_) (fun q => absurd q (by decide))
  refine og_iinc (pc' := 40) (L' := #[.val (.ref a1), .val (.ref nb11), .val (.int (5 : Int32)), .val (.int (1 : Int32)), .val (.ref w0)]) (w := (1 : Int32)) X14 hx rfl rfl rfl (hb hby d8_37) rfl ?_
  refine og_goto (pc' := 9) X14 hx (hb hby d8_40) (by decide) (by decide) ?_
  refine og_iloadN (pc' := 10) X14 hx rfl (hb hby d8_9) rfl ?_
  refine og_iloadN (pc' := 11) X14 hx rfl (hb hby d8_10) rfl ?_
  refine og_icmp_ge (pc1 := 43) (pc2 := 14) X14 hx (hb hby d8_11) (by decide) (by decide) rfl (fun q => absurd q (by decide)) (fun _ => ?_)
  refine og_aloadN (pc' := 15) X14 hx rfl rfl (hb hby d8_14) rfl ?_
  refine og_iloadN (pc' := 16) X14 hx rfl (hb hby d8_15) rfl ?_
  refine og_aaload (pc' := 17) (v := (.ref w1)) X14 hx hZ e14 rfl V_nb11 ⟨by decide, by decide⟩ rfl (hb hby d8_16) rfl ?_
  refine og_astore (pc' := 19) (L' := #[.val (.ref a1), .val (.ref nb11), .val (.int (5 : Int32)), .val (.int (1 : Int32)), .val (.ref w1)]) X14 hx rfl rfl (hb hby d8_17) rfl ?_
  refine og_aloadN (pc' := 20) X14 hx rfl rfl (hb hby d8_19) rfl ?_
  refine og_aload (pc' := 22) X14 hx rfl rfl (hb hby d8_20) rfl ?_
  refine og_getfield (pc' := 25) X14 hx hZ (host := "") hown (Or.inl (ow58 hw)) Via.refl e14 (F_w1.ext O.2) (hb hby d8_22) rfl (fun T15 X15 e15 => ?_)
  refine og_static (pc' := 28) (cells' := 5) (slots' := 15) (W := 1) X15 hx hZ (rm_vo l Z a0 hw (110 : Int32) (by decide) cs hcs h13 n0 O S_CS) hown (ow60 hw) (ow9 hw) (ow10 hw) (ow11 hw) (by decide) (by rw [hml]; rfl) e15 opd_5 [(.int (110 : Int32))] [(.ref a1)] rfl rfl rfl rfl (by decide) (by decide) rfl rfl (by decide) (by decide) (hb hby d8_25) rfl (fun v16 T16 h16 L16 X16 e16 z16 => ?_)
  obtain ⟨na16, nb16, k16, rfl, Nq16, K16, sa16, sb16, E_na16, F_value_na16, F_coder_na16, V_nb16⟩ := z16; have N := Fr.app N Nq16
  have s_na16 : h13.size ≤ na16 := sa16; have g_na16 : n0 ≤ na16 := Nat.le_trans (own_n0 O) s_na16; have sz_na16 : h0.size ≤ na16 := Nat.le_trans K.1 s_na16; have ne_a1_na16 : a1 ≠ na16 := Nat.ne_of_lt (Nat.lt_of_lt_of_le E_a1.lt s_na16); have ne_b1_na16 : b1 ≠ na16 := Nat.ne_of_lt (Nat.lt_of_lt_of_le V_b1.lt s_na16); have ne_w0_na16 : w0 ≠ na16 := O.ne E_w0.lt g_na16
  have ne_w1_na16 : w1 ≠ na16 := O.ne E_w1.lt g_na16; have ne_w2_na16 : w2 ≠ na16 := O.ne E_w2.lt g_na16; have ne_w3_na16 : w3 ≠ na16 := O.ne E_w3.lt g_na16; have ne_w4_na16 : w4 ≠ na16 := O.ne E_w4.lt g_na16; have ne_va_na16 : va ≠ na16 := O.ne E_va.lt g_na16; have ne_nb11_na16 : nb11 ≠ na16 := Nat.ne_of_lt (Nat.lt_of_lt_of_le V_nb11.lt s_na16)
  have ne_na13_na16 : na13 ≠ na16 := Nat.ne_of_lt (Nat.lt_of_lt_of_le E_na13.lt s_na16); have ne_nb13_na16 : nb13 ≠ na16 := Nat.ne_of_lt (Nat.lt_of_lt_of_le V_nb13.lt s_na16)
  have s_nb16 : h13.size ≤ nb16 := sb16; have g_nb16 : n0 ≤ nb16 := Nat.le_trans (own_n0 O) s_nb16; have sz_nb16 : h0.size ≤ nb16 := Nat.le_trans K.1 s_nb16; have ne_a1_nb16 : a1 ≠ nb16 := Nat.ne_of_lt (Nat.lt_of_lt_of_le E_a1.lt s_nb16); have ne_b1_nb16 : b1 ≠ nb16 := Nat.ne_of_lt (Nat.lt_of_lt_of_le V_b1.lt s_nb16); have ne_w0_nb16 : w0 ≠ nb16 := O.ne E_w0.lt g_nb16
  have ne_w1_nb16 : w1 ≠ nb16 := O.ne E_w1.lt g_nb16; have ne_w2_nb16 : w2 ≠ nb16 := O.ne E_w2.lt g_nb16; have ne_w3_nb16 : w3 ≠ nb16 := O.ne E_w3.lt g_nb16; have ne_w4_nb16 : w4 ≠ nb16 := O.ne E_w4.lt g_nb16; have ne_va_nb16 : va ≠ nb16 := O.ne E_va.lt g_nb16; have ne_nb11_nb16 : nb11 ≠ nb16 := Nat.ne_of_lt (Nat.lt_of_lt_of_le V_nb11.lt s_nb16)
  have ne_na13_nb16 : na13 ≠ nb16 := Nat.ne_of_lt (Nat.lt_of_lt_of_le E_na13.lt s_nb16); have ne_nb13_nb16 : nb13 ≠ nb16 := Nat.ne_of_lt (Nat.lt_of_lt_of_le V_nb13.lt s_nb16)
  have E_a1 := E_a1.keep K16; have F_value_a1 := F_value_a1.keep K16 nin0; have F_coder_a1 := F_coder_a1.keep K16 nin0; have V_b1 := V_b1.keep K16 nin0; have V_nb11 := V_nb11.keep K16 nin0; have E_na13 := E_na13.keep K16
  have F_value_na13 := F_value_na13.keep K16 nin0; have F_coder_na13 := F_coder_na13.keep K16 nin0; have V_nb13 := V_nb13.keep K16 nin0; have O := O.keep K16 all0; have K := K.trans K16 all0
  have V_nb16 : Arv Z h16 nb16 k16 .byte 1 [(.int (110 : Int32))] (.int (0 : Int32)) := V_nb16
  have ne_na16_nb16 : na16 ≠ nb16 := fun q => own_strarr E_na16 V_nb16 (ow18 hw) q
  show OG p e below _ (T16.setTop (mkF m 28 #[.val (.ref a1), .val (.ref nb11), .val (.int (5 : Int32)), .val (.int (1 : Int32)), .val (.ref w1)] [(.ref na16), (.ref a1)]))
  refine og_virtual (pc' := 31) (cells' := 5) (slots' := 15) (W := 0) X16 hx hZ (rm10_0 l Z a0 hw a1 na16 b1 nb16 k1 k16 (114 : Int32) (110 : Int32) (by decide) cs hcs h16 n0 O E_a1 F_value_a1 F_coder_a1 V_b1 E_na16 F_value_na16 F_coder_na16 V_nb16 S_CS ne_a1_na16) hown (ow61 hw) (ow62 hw) (own_nf hZ (ow64 hw)) (ow64 hw) (ow63 hw) (ow10 hw) (ow65 hw) (by decide) (by rw [hml]; rfl) e16 opd_6 [(.ref na16)] [] rfl rfl rfl rfl (by decide) (by decide) rfl rfl (by decide) (by decide) E_a1 (hb hby d8_28) rfl (fun v17 T17 h17 L17 X17 e17 z17 => ?_)
  obtain ⟨rfl, Nq17, hq17⟩ := z17; replace e17 := e17.trans hq17; have N := Fr.app N Nq17
  show OG p e below _ (T17.setTop (mkF m 31 #[.val (.ref a1), .val (.ref nb11), .val (.int (5 : Int32)), .val (.int (1 : Int32)), .val (.ref w1)] [(.int (0 : Int32))]))
  refine og_if_eq (pc1 := 37) (pc2 := 34) X17 hx (hb hby d8_31) (by decide) (by decide) rfl (fun _ => ?_) (fun q => absurd q (by decide))
  refine og_iinc (pc' := 40) (L' := #[.val (.ref a1), .val (.ref nb11), .val (.int (5 : Int32)), .val (.int (2 : Int32)), .val (.ref w1)]) (w := (1 : Int32)) X17 hx rfl rfl rfl (hb hby d8_37) rfl ?_
  refine og_goto (pc' := 9) X17 hx (hb hby d8_40) (by decide) (by decide) ?_
  refine og_iloadN (pc' := 10) X17 hx rfl (hb hby d8_9) rfl ?_
  refine og_iloadN (pc' := 11) X17 hx rfl (hb hby d8_10) rfl ?_
  refine og_icmp_ge (pc1 := 43) (pc2 := 14) X17 hx (hb hby d8_11) (by decide) (by decide) rfl (fun q => absurd q (by decide)) (fun _ => ?_)
  refine og_aloadN (pc' := 15) X17 hx rfl rfl (hb hby d8_14) rfl ?_
  refine og_iloadN (pc' := 16) X17 hx rfl (hb hby d8_15) rfl ?_
  refine og_aaload (pc' := 17) (v := (.ref w2)) X17 hx hZ e17 rfl V_nb11 ⟨by decide, by decide⟩ rfl (hb hby d8_16) rfl ?_
  refine og_astore (pc' := 19) (L' := #[.val (.ref a1), .val (.ref nb11), .val (.int (5 : Int32)), .val (.int (2 : Int32)), .val (.ref w2)]) X17 hx rfl rfl (hb hby d8_17) rfl ?_
  refine og_aloadN (pc' := 20) X17 hx rfl rfl (hb hby d8_19) rfl ?_
  refine og_aload (pc' := 22) X17 hx rfl rfl (hb hby d8_20) rfl ?_
  refine og_getfield (pc' := 25) X17 hx hZ (host := "") hown (Or.inl (ow58 hw)) Via.refl e17 (F_w2.ext O.2) (hb hby d8_22) rfl (fun T18 X18 e18 => ?_)
  refine og_static (pc' := 28) (cells' := 7) (slots' := 20) (W := 1) X18 hx hZ (rm_vo l Z a0 hw (100 : Int32) (by decide) cs hcs h16 n0 O S_CS) hown (ow60 hw) (ow9 hw) (ow10 hw) (ow11 hw) (by decide) (by rw [hml]; rfl) e18 opd_5 [(.int (100 : Int32))] [(.ref a1)] rfl rfl rfl rfl (by decide) (by decide) rfl rfl (by decide) (by decide) (hb hby d8_25) rfl (fun v19 T19 h19 L19 X19 e19 z19 => ?_)
  obtain ⟨na19, nb19, k19, rfl, Nq19, K19, sa19, sb19, E_na19, F_value_na19, F_coder_na19, V_nb19⟩ := z19; have N := Fr.app N Nq19
  have s_na19 : h16.size ≤ na19 := sa19; have g_na19 : n0 ≤ na19 := Nat.le_trans (own_n0 O) s_na19; have sz_na19 : h0.size ≤ na19 := Nat.le_trans K.1 s_na19; have ne_a1_na19 : a1 ≠ na19 := Nat.ne_of_lt (Nat.lt_of_lt_of_le E_a1.lt s_na19); have ne_b1_na19 : b1 ≠ na19 := Nat.ne_of_lt (Nat.lt_of_lt_of_le V_b1.lt s_na19); have ne_w0_na19 : w0 ≠ na19 := O.ne E_w0.lt g_na19
  have ne_w1_na19 : w1 ≠ na19 := O.ne E_w1.lt g_na19; have ne_w2_na19 : w2 ≠ na19 := O.ne E_w2.lt g_na19; have ne_w3_na19 : w3 ≠ na19 := O.ne E_w3.lt g_na19; have ne_w4_na19 : w4 ≠ na19 := O.ne E_w4.lt g_na19; have ne_va_na19 : va ≠ na19 := O.ne E_va.lt g_na19; have ne_nb11_na19 : nb11 ≠ na19 := Nat.ne_of_lt (Nat.lt_of_lt_of_le V_nb11.lt s_na19)
  have ne_na13_na19 : na13 ≠ na19 := Nat.ne_of_lt (Nat.lt_of_lt_of_le E_na13.lt s_na19); have ne_nb13_na19 : nb13 ≠ na19 := Nat.ne_of_lt (Nat.lt_of_lt_of_le V_nb13.lt s_na19); have ne_na16_na19 : na16 ≠ na19 := Nat.ne_of_lt (Nat.lt_of_lt_of_le E_na16.lt s_na19); have ne_nb16_na19 : nb16 ≠ na19 := Nat.ne_of_lt (Nat.lt_of_lt_of_le V_nb16.lt s_na19)
  have s_nb19 : h16.size ≤ nb19 := sb19; have g_nb19 : n0 ≤ nb19 := Nat.le_trans (own_n0 O) s_nb19; have sz_nb19 : h0.size ≤ nb19 := Nat.le_trans K.1 s_nb19; have ne_a1_nb19 : a1 ≠ nb19 := Nat.ne_of_lt (Nat.lt_of_lt_of_le E_a1.lt s_nb19); have ne_b1_nb19 : b1 ≠ nb19 := Nat.ne_of_lt (Nat.lt_of_lt_of_le V_b1.lt s_nb19); have ne_w0_nb19 : w0 ≠ nb19 := O.ne E_w0.lt g_nb19
  have ne_w1_nb19 : w1 ≠ nb19 := O.ne E_w1.lt g_nb19; have ne_w2_nb19 : w2 ≠ nb19 := O.ne E_w2.lt g_nb19; have ne_w3_nb19 : w3 ≠ nb19 := O.ne E_w3.lt g_nb19; have ne_w4_nb19 : w4 ≠ nb19 := O.ne E_w4.lt g_nb19; have ne_va_nb19 : va ≠ nb19 := O.ne E_va.lt g_nb19; have ne_nb11_nb19 : nb11 ≠ nb19 := Nat.ne_of_lt (Nat.lt_of_lt_of_le V_nb11.lt s_nb19)
  have ne_na13_nb19 : na13 ≠ nb19 := Nat.ne_of_lt (Nat.lt_of_lt_of_le E_na13.lt s_nb19); have ne_nb13_nb19 : nb13 ≠ nb19 := Nat.ne_of_lt (Nat.lt_of_lt_of_le V_nb13.lt s_nb19); have ne_na16_nb19 : na16 ≠ nb19 := Nat.ne_of_lt (Nat.lt_of_lt_of_le E_na16.lt s_nb19); have ne_nb16_nb19 : nb16 ≠ nb19 := Nat.ne_of_lt (Nat.lt_of_lt_of_le V_nb16.lt s_nb19)
  have E_a1 := E_a1.keep K19; have F_value_a1 := F_value_a1.keep K19 nin0; have F_coder_a1 := F_coder_a1.keep K19 nin0; have V_b1 := V_b1.keep K19 nin0; have V_nb11 := V_nb11.keep K19 nin0; have E_na13 := E_na13.keep K19
  have F_value_na13 := F_value_na13.keep K19 nin0; have F_coder_na13 := F_coder_na13.keep K19 nin0; have V_nb13 := V_nb13.keep K19 nin0; have E_na16 := E_na16.keep K19; have F_value_na16 := F_value_na16.keep K19 nin0; have F_coder_na16 := F_coder_na16.keep K19 nin0
  have V_nb16 := V_nb16.keep K19 nin0; have O := O.keep K19 all0; have K := K.trans K19 all0
  have V_nb19 : Arv Z h19 nb19 k19 .byte 1 [(.int (100 : Int32))] (.int (0 : Int32)) := V_nb19
  have ne_na19_nb19 : na19 ≠ nb19 := fun q => own_strarr E_na19 V_nb19 (ow18 hw) q
  show OG p e below _ (T19.setTop (mkF m 28 #[.val (.ref a1), .val (.ref nb11), .val (.int (5 : Int32)), .val (.int (2 : Int32)), .val (.ref w2)] [(.ref na19), (.ref a1)]))
  refine og_virtual (pc' := 31) (cells' := 7) (slots' := 20) (W := 0) X19 hx hZ (rm10_0 l Z a0 hw a1 na19 b1 nb19 k1 k19 (114 : Int32) (100 : Int32) (by decide) cs hcs h19 n0 O E_a1 F_value_a1 F_coder_a1 V_b1 E_na19 F_value_na19 F_coder_na19 V_nb19 S_CS ne_a1_na19) hown (ow61 hw) (ow62 hw) (own_nf hZ (ow64 hw)) (ow64 hw) (ow63 hw) (ow10 hw) (ow65 hw) (by decide) (by rw [hml]; rfl) e19 opd_6 [(.ref na19)] [] rfl rfl rfl rfl (by decide) (by decide) rfl rfl (by decide) (by decide) E_a1 (hb hby d8_28) rfl (fun v20 T20 h20 L20 X20 e20 z20 => ?_)
  obtain ⟨rfl, Nq20, hq20⟩ := z20; replace e20 := e20.trans hq20; have N := Fr.app N Nq20
  show OG p e below _ (T20.setTop (mkF m 31 #[.val (.ref a1), .val (.ref nb11), .val (.int (5 : Int32)), .val (.int (2 : Int32)), .val (.ref w2)] [(.int (0 : Int32))]))
  refine og_if_eq (pc1 := 37) (pc2 := 34) X20 hx (hb hby d8_31) (by decide) (by decide) rfl (fun _ => ?_) (fun q => absurd q (by decide))
  refine og_iinc (pc' := 40) (L' := #[.val (.ref a1), .val (.ref nb11), .val (.int (5 : Int32)), .val (.int (3 : Int32)), .val (.ref w2)]) (w := (1 : Int32)) X20 hx rfl rfl rfl (hb hby d8_37) rfl ?_
  refine og_goto (pc' := 9) X20 hx (hb hby d8_40) (by decide) (by decide) ?_
  refine og_iloadN (pc' := 10) X20 hx rfl (hb hby d8_9) rfl ?_
  refine og_iloadN (pc' := 11) X20 hx rfl (hb hby d8_10) rfl ?_
  refine og_icmp_ge (pc1 := 43) (pc2 := 14) X20 hx (hb hby d8_11) (by decide) (by decide) rfl (fun q => absurd q (by decide)) (fun _ => ?_)
  refine og_aloadN (pc' := 15) X20 hx rfl rfl (hb hby d8_14) rfl ?_
  refine og_iloadN (pc' := 16) X20 hx rfl (hb hby d8_15) rfl ?_
  refine og_aaload (pc' := 17) (v := (.ref w3)) X20 hx hZ e20 rfl V_nb11 ⟨by decide, by decide⟩ rfl (hb hby d8_16) rfl ?_
  refine og_astore (pc' := 19) (L' := #[.val (.ref a1), .val (.ref nb11), .val (.int (5 : Int32)), .val (.int (3 : Int32)), .val (.ref w3)]) X20 hx rfl rfl (hb hby d8_17) rfl ?_
  refine og_aloadN (pc' := 20) X20 hx rfl rfl (hb hby d8_19) rfl ?_
  refine og_aload (pc' := 22) X20 hx rfl rfl (hb hby d8_20) rfl ?_
  refine og_getfield (pc' := 25) X20 hx hZ (host := "") hown (Or.inl (ow58 hw)) Via.refl e20 (F_w3.ext O.2) (hb hby d8_22) rfl (fun T21 X21 e21 => ?_)
  refine og_static (pc' := 28) (cells' := 9) (slots' := 25) (W := 1) X21 hx hZ (rm_vo l Z a0 hw (114 : Int32) (by decide) cs hcs h19 n0 O S_CS) hown (ow60 hw) (ow9 hw) (ow10 hw) (ow11 hw) (by decide) (by rw [hml]; rfl) e21 opd_5 [(.int (114 : Int32))] [(.ref a1)] rfl rfl rfl rfl (by decide) (by decide) rfl rfl (by decide) (by decide) (hb hby d8_25) rfl (fun v22 T22 h22 L22 X22 e22 z22 => ?_)
  obtain ⟨na22, nb22, k22, rfl, Nq22, K22, sa22, sb22, E_na22, F_value_na22, F_coder_na22, V_nb22⟩ := z22; have N := Fr.app N Nq22
  have s_na22 : h19.size ≤ na22 := sa22; have g_na22 : n0 ≤ na22 := Nat.le_trans (own_n0 O) s_na22; have sz_na22 : h0.size ≤ na22 := Nat.le_trans K.1 s_na22; have ne_a1_na22 : a1 ≠ na22 := Nat.ne_of_lt (Nat.lt_of_lt_of_le E_a1.lt s_na22); have ne_b1_na22 : b1 ≠ na22 := Nat.ne_of_lt (Nat.lt_of_lt_of_le V_b1.lt s_na22); have ne_w0_na22 : w0 ≠ na22 := O.ne E_w0.lt g_na22
  have ne_w1_na22 : w1 ≠ na22 := O.ne E_w1.lt g_na22; have ne_w2_na22 : w2 ≠ na22 := O.ne E_w2.lt g_na22; have ne_w3_na22 : w3 ≠ na22 := O.ne E_w3.lt g_na22; have ne_w4_na22 : w4 ≠ na22 := O.ne E_w4.lt g_na22; have ne_va_na22 : va ≠ na22 := O.ne E_va.lt g_na22; have ne_nb11_na22 : nb11 ≠ na22 := Nat.ne_of_lt (Nat.lt_of_lt_of_le V_nb11.lt s_na22)
  have ne_na13_na22 : na13 ≠ na22 := Nat.ne_of_lt (Nat.lt_of_lt_of_le E_na13.lt s_na22); have ne_nb13_na22 : nb13 ≠ na22 := Nat.ne_of_lt (Nat.lt_of_lt_of_le V_nb13.lt s_na22); have ne_na16_na22 : na16 ≠ na22 := Nat.ne_of_lt (Nat.lt_of_lt_of_le E_na16.lt s_na22); have ne_nb16_na22 : nb16 ≠ na22 := Nat.ne_of_lt (Nat.lt_of_lt_of_le V_nb16.lt s_na22); have ne_na19_na22 : na19 ≠ na22 := Nat.ne_of_lt (Nat.lt_of_lt_of_le E_na19.lt s_na22); have ne_nb19_na22 : nb19 ≠ na22 := Nat.ne_of_lt (Nat.lt_of_lt_of_le V_nb19.lt s_na22)
  have s_nb22 : h19.size ≤ nb22 := sb22; have g_nb22 : n0 ≤ nb22 := Nat.le_trans (own_n0 O) s_nb22; have sz_nb22 : h0.size ≤ nb22 := Nat.le_trans K.1 s_nb22; have ne_a1_nb22 : a1 ≠ nb22 := Nat.ne_of_lt (Nat.lt_of_lt_of_le E_a1.lt s_nb22); have ne_b1_nb22 : b1 ≠ nb22 := Nat.ne_of_lt (Nat.lt_of_lt_of_le V_b1.lt s_nb22); have ne_w0_nb22 : w0 ≠ nb22 := O.ne E_w0.lt g_nb22
  have ne_w1_nb22 : w1 ≠ nb22 := O.ne E_w1.lt g_nb22; have ne_w2_nb22 : w2 ≠ nb22 := O.ne E_w2.lt g_nb22; have ne_w3_nb22 : w3 ≠ nb22 := O.ne E_w3.lt g_nb22; have ne_w4_nb22 : w4 ≠ nb22 := O.ne E_w4.lt g_nb22; have ne_va_nb22 : va ≠ nb22 := O.ne E_va.lt g_nb22; have ne_nb11_nb22 : nb11 ≠ nb22 := Nat.ne_of_lt (Nat.lt_of_lt_of_le V_nb11.lt s_nb22)
  have ne_na13_nb22 : na13 ≠ nb22 := Nat.ne_of_lt (Nat.lt_of_lt_of_le E_na13.lt s_nb22); have ne_nb13_nb22 : nb13 ≠ nb22 := Nat.ne_of_lt (Nat.lt_of_lt_of_le V_nb13.lt s_nb22); have ne_na16_nb22 : na16 ≠ nb22 := Nat.ne_of_lt (Nat.lt_of_lt_of_le E_na16.lt s_nb22); have ne_nb16_nb22 : nb16 ≠ nb22 := Nat.ne_of_lt (Nat.lt_of_lt_of_le V_nb16.lt s_nb22); have ne_na19_nb22 : na19 ≠ nb22 := Nat.ne_of_lt (Nat.lt_of_lt_of_le E_na19.lt s_nb22); have ne_nb19_nb22 : nb19 ≠ nb22 := Nat.ne_of_lt (Nat.lt_of_lt_of_le V_nb19.lt s_nb22)
  have E_a1 := E_a1.keep K22; have F_value_a1 := F_value_a1.keep K22 nin0; have F_coder_a1 := F_coder_a1.keep K22 nin0; have V_b1 := V_b1.keep K22 nin0; have V_nb11 := V_nb11.keep K22 nin0; have E_na13 := E_na13.keep K22
  have F_value_na13 := F_value_na13.keep K22 nin0; have F_coder_na13 := F_coder_na13.keep K22 nin0; have V_nb13 := V_nb13.keep K22 nin0; have E_na16 := E_na16.keep K22; have F_value_na16 := F_value_na16.keep K22 nin0; have F_coder_na16 := F_coder_na16.keep K22 nin0
  have V_nb16 := V_nb16.keep K22 nin0; have E_na19 := E_na19.keep K22; have F_value_na19 := F_value_na19.keep K22 nin0; have F_coder_na19 := F_coder_na19.keep K22 nin0; have V_nb19 := V_nb19.keep K22 nin0; have O := O.keep K22 all0
  have K := K.trans K22 all0
  have V_nb22 : Arv Z h22 nb22 k22 .byte 1 [(.int (114 : Int32))] (.int (0 : Int32)) := V_nb22
  have ne_na22_nb22 : na22 ≠ nb22 := fun q => own_strarr E_na22 V_nb22 (ow18 hw) q
  show OG p e below _ (T22.setTop (mkF m 28 #[.val (.ref a1), .val (.ref nb11), .val (.int (5 : Int32)), .val (.int (3 : Int32)), .val (.ref w3)] [(.ref na22), (.ref a1)]))
  refine og_virtual (pc' := 31) (cells' := 9) (slots' := 25) (W := 0) X22 hx hZ (rm10_1 l Z a0 hw a1 na22 b1 nb22 k1 k22 (114 : Int32)  cs hcs h22 n0 O E_a1 F_value_a1 F_coder_a1 V_b1 E_na22 F_value_na22 F_coder_na22 V_nb22 S_CS ne_a1_na22) hown (ow61 hw) (ow62 hw) (own_nf hZ (ow64 hw)) (ow64 hw) (ow63 hw) (ow10 hw) (ow65 hw) (by decide) (by rw [hml]; rfl) e22 opd_6 [(.ref na22)] [] rfl rfl rfl rfl (by decide) (by decide) rfl rfl (by decide) (by decide) E_a1 (hb hby d8_28) rfl (fun v23 T23 h23 L23 X23 e23 z23 => ?_)
  obtain ⟨rfl, Nq23, hq23⟩ := z23; replace e23 := e23.trans hq23; have N := Fr.app N Nq23
  show OG p e below _ (T23.setTop (mkF m 31 #[.val (.ref a1), .val (.ref nb11), .val (.int (5 : Int32)), .val (.int (3 : Int32)), .val (.ref w3)] [(.int (1 : Int32))]))
  refine og_if_eq (pc1 := 37) (pc2 := 34) X23 hx (hb hby d8_31) (by decide) (by decide) rfl (fun q => absurd q (by decide)) (fun _ => ?_)
  refine og_aload (pc' := 36) X23 hx rfl rfl (hb hby d8_34) rfl ?_
  refine og_retR X23 hx hlk hret rfl rfl rfl (hb hby d8_36) (by decide) (by decide) ?_
  rw [e23]; exact ⟨rfl, N, K⟩
theorem oef_rm8_4 (m : MethodId) (x0 : Addr) : entryFrame m #[(.ref x0)] 5 = mkF m 0 #[.val (.ref x0), .unset, .unset, .unset, .unset] [] := by first | (simp [entryFrame, mkF, argsToLocals, Value.category]; done) | rfl
set_option maxRecDepth 65536 in
set_option maxHeartbeats 40000000 in
theorem rm8_4 (l : Launch) (Z : State) (a0 : Array Value) (hw : ∀ d ∈ tables_1, d.before a0 Z = true) (a1 b1 va w0 w1 w2 w3 w4 : Addr) (k1 kv : ClassId) (cs : Int32) (hcs : ¬ cs = 0) (h0 : Heap) (n0 : Nat) (O : Old Z n0 h0) (E_a1 : Exa Z h0 a1 "java/lang/String") (F_value_a1 : Fld Z h0 a1 "java/lang/String" "value" "[B" (.ref b1)) (F_coder_a1 : Fld Z h0 a1 "java/lang/String" "coder" "B" (.int (0 : Int32))) (V_b1 : Arv Z h0 b1 k1 .byte (1 : Int32) [(.int (97 : Int32))] (.int (0 : Int32))) (S_CASCADE : Sta Z Z.heap "com/example/tombstone/tombstone/postgres/ForeignKey$Action" "CASCADE" "Lcom/example/tombstone/tombstone/postgres/ForeignKey$Action;" (.ref w0)) (S_SET_NULL : Sta Z Z.heap "com/example/tombstone/tombstone/postgres/ForeignKey$Action" "SET_NULL" "Lcom/example/tombstone/tombstone/postgres/ForeignKey$Action;" (.ref w1)) (S_SET_DEFAULT : Sta Z Z.heap "com/example/tombstone/tombstone/postgres/ForeignKey$Action" "SET_DEFAULT" "Lcom/example/tombstone/tombstone/postgres/ForeignKey$Action;" (.ref w2)) (S_RESTRICT : Sta Z Z.heap "com/example/tombstone/tombstone/postgres/ForeignKey$Action" "RESTRICT" "Lcom/example/tombstone/tombstone/postgres/ForeignKey$Action;" (.ref w3)) (S_NO_ACTION : Sta Z Z.heap "com/example/tombstone/tombstone/postgres/ForeignKey$Action" "NO_ACTION" "Lcom/example/tombstone/tombstone/postgres/ForeignKey$Action;" (.ref w4)) (E_w0 : Exa Z Z.heap w0 "com/example/tombstone/tombstone/postgres/ForeignKey$Action") (E_w1 : Exa Z Z.heap w1 "com/example/tombstone/tombstone/postgres/ForeignKey$Action") (E_w2 : Exa Z Z.heap w2 "com/example/tombstone/tombstone/postgres/ForeignKey$Action") (E_w3 : Exa Z Z.heap w3 "com/example/tombstone/tombstone/postgres/ForeignKey$Action") (E_w4 : Exa Z Z.heap w4 "com/example/tombstone/tombstone/postgres/ForeignKey$Action") (F_w0 : Fld Z Z.heap w0 "com/example/tombstone/tombstone/postgres/ForeignKey$Action" "code" "C" (.int (99 : Int32))) (F_w1 : Fld Z Z.heap w1 "com/example/tombstone/tombstone/postgres/ForeignKey$Action" "code" "C" (.int (110 : Int32))) (F_w2 : Fld Z Z.heap w2 "com/example/tombstone/tombstone/postgres/ForeignKey$Action" "code" "C" (.int (100 : Int32))) (F_w3 : Fld Z Z.heap w3 "com/example/tombstone/tombstone/postgres/ForeignKey$Action" "code" "C" (.int (114 : Int32))) (F_w4 : Fld Z Z.heap w4 "com/example/tombstone/tombstone/postgres/ForeignKey$Action" "code" "C" (.int (97 : Int32))) (S_VALUES : Sta Z Z.heap "com/example/tombstone/tombstone/postgres/ForeignKey$Action" "$VALUES" "[Lcom/example/tombstone/tombstone/postgres/ForeignKey$Action;" (.ref va)) (E_va : Exa Z Z.heap va "[Lcom/example/tombstone/tombstone/postgres/ForeignKey$Action;") (V_va : Arv Z Z.heap va kv (.object "com/example/tombstone/tombstone/postgres/ForeignKey$Action") (5 : Int32) [(.ref w0), (.ref w1), (.ref w2), (.ref w3), (.ref w4)] .null) (S_CS : Sta Z Z.heap "java/lang/String" "COMPACT_STRINGS" "Z" (.int cs)) :
    Con l Z (⟨"com/example/tombstone/tombstone/postgres/ForeignKey$Action", "fromCatalog", "(Ljava/lang/String;)Lcom/example/tombstone/tombstone/postgres/ForeignKey$Action;"⟩ : MethodName) prog_15_method_6_code 5 (some (.object "com/example/tombstone/tombstone/postgres/ForeignKey$Action")) ({ frames := 3, cells := 11, slots := 30, locals := 40 } : Room) #[(.ref a1)] h0 (fun v h L => v = some (.ref w4) ∧ Fr n0 L ∧ Keep h0 h []) := by
  refine own_start (Q := fun v h L => v = some (.ref w4) ∧ Fr n0 L ∧ Keep h0 h []) opn_8 ?_
  intro p e s m below meth c T0 X0 hx hby hml hZ hown hnm hret hlk e0
  have N := Fr.nil n0; have K := Keep.refl h0 []
  refine OG.cast (oef_rm8_4 m a1) ?_
  refine og_static (pc' := 3) (cells' := 1) (slots' := 5) (W := 0) X0 hx hZ (rm9 l Z a0 hw va w0 w1 w2 w3 w4 kv h0 n0 O S_VALUES E_va V_va) hown (ow38 hw) (ow39 hw) (ow36 hw) (ow40 hw) (by decide) (by rw [hml]; rfl) e0 opd_4 [] [] rfl rfl rfl rfl (by decide) (by decide) rfl rfl (by decide) (by decide) (hb hby d8_0) rfl (fun v11 T11 h11 L11 X11 e11 z11 => ?_)
  obtain ⟨nb11, k11, rfl, Nq11, K11, sb11, V_nb11⟩ := z11; have N := Fr.app N Nq11
  have s_nb11 : h0.size ≤ nb11 := sb11; have g_nb11 : n0 ≤ nb11 := Nat.le_trans (own_n0 O) s_nb11; have sz_nb11 : h0.size ≤ nb11 := Nat.le_trans K.1 s_nb11; have ne_a1_nb11 : a1 ≠ nb11 := Nat.ne_of_lt (Nat.lt_of_lt_of_le E_a1.lt s_nb11); have ne_b1_nb11 : b1 ≠ nb11 := Nat.ne_of_lt (Nat.lt_of_lt_of_le V_b1.lt s_nb11); have ne_w0_nb11 : w0 ≠ nb11 := O.ne E_w0.lt g_nb11
  have ne_w1_nb11 : w1 ≠ nb11 := O.ne E_w1.lt g_nb11; have ne_w2_nb11 : w2 ≠ nb11 := O.ne E_w2.lt g_nb11; have ne_w3_nb11 : w3 ≠ nb11 := O.ne E_w3.lt g_nb11; have ne_w4_nb11 : w4 ≠ nb11 := O.ne E_w4.lt g_nb11; have ne_va_nb11 : va ≠ nb11 := O.ne E_va.lt g_nb11
  have E_a1 := E_a1.keep K11; have F_value_a1 := F_value_a1.keep K11 nin0; have F_coder_a1 := F_coder_a1.keep K11 nin0; have V_b1 := V_b1.keep K11 nin0; have O := O.keep K11 all0; have K := K.trans K11 all0
  show OG p e below _ (T11.setTop (mkF m 3 #[.val (.ref a1), .unset, .unset, .unset, .unset] [(.ref nb11)]))
  refine og_astoreN (pc' := 4) (L' := #[.val (.ref a1), .val (.ref nb11), .unset, .unset, .unset]) X11 hx rfl rfl (hb hby d8_3) rfl ?_
  refine og_aloadN (pc' := 5) X11 hx rfl rfl (hb hby d8_4) rfl ?_
  refine og_arraylength (pc' := 6) X11 hx hZ e11 V_nb11 (hb hby d8_5) rfl ?_
  refine og_istoreN (pc' := 7) (L' := #[.val (.ref a1), .val (.ref nb11), .val (.int (5 : Int32)), .unset, .unset]) X11 hx rfl (hb hby d8_6) rfl ?_
  refine og_iconst (pc' := 8) (v := (0 : Int32)) X11 hx rfl (hb hby d8_7) rfl ?_
  refine og_istoreN (pc' := 9) (L' := #[.val (.ref a1), .val (.ref nb11), .val (.int (5 : Int32)), .val (.int (0 : Int32)), .unset]) X11 hx rfl (hb hby d8_8) rfl ?_
  refine og_iloadN (pc' := 10) X11 hx rfl (hb hby d8_9) rfl ?_
  refine og_iloadN (pc' := 11) X11 hx rfl (hb hby d8_10) rfl ?_
  refine og_icmp_ge (pc1 := 43) (pc2 := 14) X11 hx (hb hby d8_11) (by decide) (by decide) rfl (fun q => absurd q (by decide)) (fun _ => ?_)
  refine og_aloadN (pc' := 15) X11 hx rfl rfl (hb hby d8_14) rfl ?_
  refine og_iloadN (pc' := 16) X11 hx rfl (hb hby d8_15) rfl ?_
  refine og_aaload (pc' := 17) (v := (.ref w0)) X11 hx hZ e11 rfl V_nb11 ⟨by decide, by decide⟩ rfl (hb hby d8_16) rfl ?_
  refine og_astore (pc' := 19) (L' := #[.val (.ref a1), .val (.ref nb11), .val (.int (5 : Int32)), .val (.int (0 : Int32)), .val (.ref w0)]) X11 hx rfl rfl (hb hby d8_17) rfl ?_
  refine og_aloadN (pc' := 20) X11 hx rfl rfl (hb hby d8_19) rfl ?_
  refine og_aload (pc' := 22) X11 hx rfl rfl (hb hby d8_20) rfl ?_
  refine og_getfield (pc' := 25) X11 hx hZ (host := "") hown (Or.inl (ow58 hw)) Via.refl e11 (F_w0.ext O.2) (hb hby d8_22) rfl (fun T12 X12 e12 => ?_)
  refine og_static (pc' := 28) (cells' := 3) (slots' := 10) (W := 1) X12 hx hZ (rm_vo l Z a0 hw (99 : Int32) (by decide) cs hcs h11 n0 O S_CS) hown (ow60 hw) (ow9 hw) (ow10 hw) (ow11 hw) (by decide) (by rw [hml]; rfl) e12 opd_5 [(.int (99 : Int32))] [(.ref a1)] rfl rfl rfl rfl (by decide) (by decide) rfl rfl (by decide) (by decide) (hb hby d8_25) rfl (fun v13 T13 h13 L13 X13 e13 z13 => ?_)
  obtain ⟨na13, nb13, k13, rfl, Nq13, K13, sa13, sb13, E_na13, F_value_na13, F_coder_na13, V_nb13⟩ := z13; have N := Fr.app N Nq13
  have s_na13 : h11.size ≤ na13 := sa13; have g_na13 : n0 ≤ na13 := Nat.le_trans (own_n0 O) s_na13; have sz_na13 : h0.size ≤ na13 := Nat.le_trans K.1 s_na13; have ne_a1_na13 : a1 ≠ na13 := Nat.ne_of_lt (Nat.lt_of_lt_of_le E_a1.lt s_na13); have ne_b1_na13 : b1 ≠ na13 := Nat.ne_of_lt (Nat.lt_of_lt_of_le V_b1.lt s_na13); have ne_w0_na13 : w0 ≠ na13 := O.ne E_w0.lt g_na13
  have ne_w1_na13 : w1 ≠ na13 := O.ne E_w1.lt g_na13; have ne_w2_na13 : w2 ≠ na13 := O.ne E_w2.lt g_na13; have ne_w3_na13 : w3 ≠ na13 := O.ne E_w3.lt g_na13; have ne_w4_na13 : w4 ≠ na13 := O.ne E_w4.lt g_na13; have ne_va_na13 : va ≠ na13 := O.ne E_va.lt g_na13; have ne_nb11_na13 : nb11 ≠ na13 := Nat.ne_of_lt (Nat.lt_of_lt_of_le V_nb11.lt s_na13)
  have s_nb13 : h11.size ≤ nb13 := sb13; have g_nb13 : n0 ≤ nb13 := Nat.le_trans (own_n0 O) s_nb13; have sz_nb13 : h0.size ≤ nb13 := Nat.le_trans K.1 s_nb13; have ne_a1_nb13 : a1 ≠ nb13 := Nat.ne_of_lt (Nat.lt_of_lt_of_le E_a1.lt s_nb13); have ne_b1_nb13 : b1 ≠ nb13 := Nat.ne_of_lt (Nat.lt_of_lt_of_le V_b1.lt s_nb13); have ne_w0_nb13 : w0 ≠ nb13 := O.ne E_w0.lt g_nb13
  have ne_w1_nb13 : w1 ≠ nb13 := O.ne E_w1.lt g_nb13; have ne_w2_nb13 : w2 ≠ nb13 := O.ne E_w2.lt g_nb13; have ne_w3_nb13 : w3 ≠ nb13 := O.ne E_w3.lt g_nb13; have ne_w4_nb13 : w4 ≠ nb13 := O.ne E_w4.lt g_nb13; have ne_va_nb13 : va ≠ nb13 := O.ne E_va.lt g_nb13; have ne_nb11_nb13 : nb11 ≠ nb13 := Nat.ne_of_lt (Nat.lt_of_lt_of_le V_nb11.lt s_nb13)
  have E_a1 := E_a1.keep K13; have F_value_a1 := F_value_a1.keep K13 nin0; have F_coder_a1 := F_coder_a1.keep K13 nin0; have V_b1 := V_b1.keep K13 nin0; have V_nb11 := V_nb11.keep K13 nin0; have O := O.keep K13 all0
  have K := K.trans K13 all0
  have V_nb13 : Arv Z h13 nb13 k13 .byte 1 [(.int (99 : Int32))] (.int (0 : Int32)) := V_nb13
  have ne_na13_nb13 : na13 ≠ nb13 := fun q => own_strarr E_na13 V_nb13 (ow18 hw) q
  show OG p e below _ (T13.setTop (mkF m 28 #[.val (.ref a1), .val (.ref nb11), .val (.int (5 : Int32)), .val (.int (0 : Int32)), .val (.ref w0)] [(.ref na13), (.ref a1)]))
  refine og_virtual (pc' := 31) (cells' := 3) (slots' := 10) (W := 0) X13 hx hZ (rm10_0 l Z a0 hw a1 na13 b1 nb13 k1 k13 (97 : Int32) (99 : Int32) (by decide) cs hcs h13 n0 O E_a1 F_value_a1 F_coder_a1 V_b1 E_na13 F_value_na13 F_coder_na13 V_nb13 S_CS ne_a1_na13) hown (ow61 hw) (ow62 hw) (own_nf hZ (ow64 hw)) (ow64 hw) (ow63 hw) (ow10 hw) (ow65 hw) (by decide) (by rw [hml]; rfl) e13 opd_6 [(.ref na13)] [] rfl rfl rfl rfl (by decide) (by decide) rfl rfl (by decide) (by decide) E_a1 (hb hby d8_28) rfl (fun v14 T14 h14 L14 X14 e14 z14 => ?_)
  obtain ⟨rfl, Nq14, hq14⟩ := z14; replace e14 := e14.trans hq14; have N := Fr.app N Nq14
  show OG p e below _ (T14.setTop (mkF m 31 #[.val (.ref a1), .val (.ref nb11), .val (.int (5 : Int32)), .val (.int (0 : Int32)), .val (.ref w0)] [(.int (0 : Int32))]))
  refine og_if_eq (pc1 := 37) (pc2 := 34) X14 hx (hb hby d8_31) (by decide) (by decide) rfl (fun _ => ?_) (fun q => absurd q (by decide))
  refine og_iinc (pc' := 40) (L' := #[.val (.ref a1), .val (.ref nb11), .val (.int (5 : Int32)), .val (.int (1 : Int32)), .val (.ref w0)]) (w := (1 : Int32)) X14 hx rfl rfl rfl (hb hby d8_37) rfl ?_
  refine og_goto (pc' := 9) X14 hx (hb hby d8_40) (by decide) (by decide) ?_
  refine og_iloadN (pc' := 10) X14 hx rfl (hb hby d8_9) rfl ?_
  refine og_iloadN (pc' := 11) X14 hx rfl (hb hby d8_10) rfl ?_
  refine og_icmp_ge (pc1 := 43) (pc2 := 14) X14 hx (hb hby d8_11) (by decide) (by decide) rfl (fun q => absurd q (by decide)) (fun _ => ?_)
  refine og_aloadN (pc' := 15) X14 hx rfl rfl (hb hby d8_14) rfl ?_
  refine og_iloadN (pc' := 16) X14 hx rfl (hb hby d8_15) rfl ?_
  refine og_aaload (pc' := 17) (v := (.ref w1)) X14 hx hZ e14 rfl V_nb11 ⟨by decide, by decide⟩ rfl (hb hby d8_16) rfl ?_
  refine og_astore (pc' := 19) (L' := #[.val (.ref a1), .val (.ref nb11), .val (.int (5 : Int32)), .val (.int (1 : Int32)), .val (.ref w1)]) X14 hx rfl rfl (hb hby d8_17) rfl ?_
  refine og_aloadN (pc' := 20) X14 hx rfl rfl (hb hby d8_19) rfl ?_
  refine og_aload (pc' := 22) X14 hx rfl rfl (hb hby d8_20) rfl ?_
  refine og_getfield (pc' := 25) X14 hx hZ (host := "") hown (Or.inl (ow58 hw)) Via.refl e14 (F_w1.ext O.2) (hb hby d8_22) rfl (fun T15 X15 e15 => ?_)
  refine og_static (pc' := 28) (cells' := 5) (slots' := 15) (W := 1) X15 hx hZ (rm_vo l Z a0 hw (110 : Int32) (by decide) cs hcs h13 n0 O S_CS) hown (ow60 hw) (ow9 hw) (ow10 hw) (ow11 hw) (by decide) (by rw [hml]; rfl) e15 opd_5 [(.int (110 : Int32))] [(.ref a1)] rfl rfl rfl rfl (by decide) (by decide) rfl rfl (by decide) (by decide) (hb hby d8_25) rfl (fun v16 T16 h16 L16 X16 e16 z16 => ?_)
  obtain ⟨na16, nb16, k16, rfl, Nq16, K16, sa16, sb16, E_na16, F_value_na16, F_coder_na16, V_nb16⟩ := z16; have N := Fr.app N Nq16
  have s_na16 : h13.size ≤ na16 := sa16; have g_na16 : n0 ≤ na16 := Nat.le_trans (own_n0 O) s_na16; have sz_na16 : h0.size ≤ na16 := Nat.le_trans K.1 s_na16; have ne_a1_na16 : a1 ≠ na16 := Nat.ne_of_lt (Nat.lt_of_lt_of_le E_a1.lt s_na16); have ne_b1_na16 : b1 ≠ na16 := Nat.ne_of_lt (Nat.lt_of_lt_of_le V_b1.lt s_na16); have ne_w0_na16 : w0 ≠ na16 := O.ne E_w0.lt g_na16
  have ne_w1_na16 : w1 ≠ na16 := O.ne E_w1.lt g_na16; have ne_w2_na16 : w2 ≠ na16 := O.ne E_w2.lt g_na16; have ne_w3_na16 : w3 ≠ na16 := O.ne E_w3.lt g_na16; have ne_w4_na16 : w4 ≠ na16 := O.ne E_w4.lt g_na16; have ne_va_na16 : va ≠ na16 := O.ne E_va.lt g_na16; have ne_nb11_na16 : nb11 ≠ na16 := Nat.ne_of_lt (Nat.lt_of_lt_of_le V_nb11.lt s_na16)
  have ne_na13_na16 : na13 ≠ na16 := Nat.ne_of_lt (Nat.lt_of_lt_of_le E_na13.lt s_na16); have ne_nb13_na16 : nb13 ≠ na16 := Nat.ne_of_lt (Nat.lt_of_lt_of_le V_nb13.lt s_na16)
  have s_nb16 : h13.size ≤ nb16 := sb16; have g_nb16 : n0 ≤ nb16 := Nat.le_trans (own_n0 O) s_nb16; have sz_nb16 : h0.size ≤ nb16 := Nat.le_trans K.1 s_nb16; have ne_a1_nb16 : a1 ≠ nb16 := Nat.ne_of_lt (Nat.lt_of_lt_of_le E_a1.lt s_nb16); have ne_b1_nb16 : b1 ≠ nb16 := Nat.ne_of_lt (Nat.lt_of_lt_of_le V_b1.lt s_nb16); have ne_w0_nb16 : w0 ≠ nb16 := O.ne E_w0.lt g_nb16
  have ne_w1_nb16 : w1 ≠ nb16 := O.ne E_w1.lt g_nb16; have ne_w2_nb16 : w2 ≠ nb16 := O.ne E_w2.lt g_nb16; have ne_w3_nb16 : w3 ≠ nb16 := O.ne E_w3.lt g_nb16; have ne_w4_nb16 : w4 ≠ nb16 := O.ne E_w4.lt g_nb16; have ne_va_nb16 : va ≠ nb16 := O.ne E_va.lt g_nb16; have ne_nb11_nb16 : nb11 ≠ nb16 := Nat.ne_of_lt (Nat.lt_of_lt_of_le V_nb11.lt s_nb16)
  have ne_na13_nb16 : na13 ≠ nb16 := Nat.ne_of_lt (Nat.lt_of_lt_of_le E_na13.lt s_nb16); have ne_nb13_nb16 : nb13 ≠ nb16 := Nat.ne_of_lt (Nat.lt_of_lt_of_le V_nb13.lt s_nb16)
  have E_a1 := E_a1.keep K16; have F_value_a1 := F_value_a1.keep K16 nin0; have F_coder_a1 := F_coder_a1.keep K16 nin0; have V_b1 := V_b1.keep K16 nin0; have V_nb11 := V_nb11.keep K16 nin0; have E_na13 := E_na13.keep K16
  have F_value_na13 := F_value_na13.keep K16 nin0; have F_coder_na13 := F_coder_na13.keep K16 nin0; have V_nb13 := V_nb13.keep K16 nin0; have O := O.keep K16 all0; have K := K.trans K16 all0
  have V_nb16 : Arv Z h16 nb16 k16 .byte 1 [(.int (110 : Int32))] (.int (0 : Int32)) := V_nb16
  have ne_na16_nb16 : na16 ≠ nb16 := fun q => own_strarr E_na16 V_nb16 (ow18 hw) q
  show OG p e below _ (T16.setTop (mkF m 28 #[.val (.ref a1), .val (.ref nb11), .val (.int (5 : Int32)), .val (.int (1 : Int32)), .val (.ref w1)] [(.ref na16), (.ref a1)]))
  refine og_virtual (pc' := 31) (cells' := 5) (slots' := 15) (W := 0) X16 hx hZ (rm10_0 l Z a0 hw a1 na16 b1 nb16 k1 k16 (97 : Int32) (110 : Int32) (by decide) cs hcs h16 n0 O E_a1 F_value_a1 F_coder_a1 V_b1 E_na16 F_value_na16 F_coder_na16 V_nb16 S_CS ne_a1_na16) hown (ow61 hw) (ow62 hw) (own_nf hZ (ow64 hw)) (ow64 hw) (ow63 hw) (ow10 hw) (ow65 hw) (by decide) (by rw [hml]; rfl) e16 opd_6 [(.ref na16)] [] rfl rfl rfl rfl (by decide) (by decide) rfl rfl (by decide) (by decide) E_a1 (hb hby d8_28) rfl (fun v17 T17 h17 L17 X17 e17 z17 => ?_)
  obtain ⟨rfl, Nq17, hq17⟩ := z17; replace e17 := e17.trans hq17; have N := Fr.app N Nq17
  show OG p e below _ (T17.setTop (mkF m 31 #[.val (.ref a1), .val (.ref nb11), .val (.int (5 : Int32)), .val (.int (1 : Int32)), .val (.ref w1)] [(.int (0 : Int32))]))
  refine og_if_eq (pc1 := 37) (pc2 := 34) X17 hx (hb hby d8_31) (by decide) (by decide) rfl (fun _ => ?_) (fun q => absurd q (by decide))
  refine og_iinc (pc' := 40) (L' := #[.val (.ref a1), .val (.ref nb11), .val (.int (5 : Int32)), .val (.int (2 : Int32)), .val (.ref w1)]) (w := (1 : Int32)) X17 hx rfl rfl rfl (hb hby d8_37) rfl ?_
  refine og_goto (pc' := 9) X17 hx (hb hby d8_40) (by decide) (by decide) ?_
  refine og_iloadN (pc' := 10) X17 hx rfl (hb hby d8_9) rfl ?_
  refine og_iloadN (pc' := 11) X17 hx rfl (hb hby d8_10) rfl ?_
  refine og_icmp_ge (pc1 := 43) (pc2 := 14) X17 hx (hb hby d8_11) (by decide) (by decide) rfl (fun q => absurd q (by decide)) (fun _ => ?_)
  refine og_aloadN (pc' := 15) X17 hx rfl rfl (hb hby d8_14) rfl ?_
  refine og_iloadN (pc' := 16) X17 hx rfl (hb hby d8_15) rfl ?_
  refine og_aaload (pc' := 17) (v := (.ref w2)) X17 hx hZ e17 rfl V_nb11 ⟨by decide, by decide⟩ rfl (hb hby d8_16) rfl ?_
  refine og_astore (pc' := 19) (L' := #[.val (.ref a1), .val (.ref nb11), .val (.int (5 : Int32)), .val (.int (2 : Int32)), .val (.ref w2)]) X17 hx rfl rfl (hb hby d8_17) rfl ?_
  refine og_aloadN (pc' := 20) X17 hx rfl rfl (hb hby d8_19) rfl ?_
  refine og_aload (pc' := 22) X17 hx rfl rfl (hb hby d8_20) rfl ?_
  refine og_getfield (pc' := 25) X17 hx hZ (host := "") hown (Or.inl (ow58 hw)) Via.refl e17 (F_w2.ext O.2) (hb hby d8_22) rfl (fun T18 X18 e18 => ?_)
  refine og_static (pc' := 28) (cells' := 7) (slots' := 20) (W := 1) X18 hx hZ (rm_vo l Z a0 hw (100 : Int32) (by decide) cs hcs h16 n0 O S_CS) hown (ow60 hw) (ow9 hw) (ow10 hw) (ow11 hw) (by decide) (by rw [hml]; rfl) e18 opd_5 [(.int (100 : Int32))] [(.ref a1)] rfl rfl rfl rfl (by decide) (by decide) rfl rfl (by decide) (by decide) (hb hby d8_25) rfl (fun v19 T19 h19 L19 X19 e19 z19 => ?_)
  obtain ⟨na19, nb19, k19, rfl, Nq19, K19, sa19, sb19, E_na19, F_value_na19, F_coder_na19, V_nb19⟩ := z19; have N := Fr.app N Nq19
  have s_na19 : h16.size ≤ na19 := sa19; have g_na19 : n0 ≤ na19 := Nat.le_trans (own_n0 O) s_na19; have sz_na19 : h0.size ≤ na19 := Nat.le_trans K.1 s_na19; have ne_a1_na19 : a1 ≠ na19 := Nat.ne_of_lt (Nat.lt_of_lt_of_le E_a1.lt s_na19); have ne_b1_na19 : b1 ≠ na19 := Nat.ne_of_lt (Nat.lt_of_lt_of_le V_b1.lt s_na19); have ne_w0_na19 : w0 ≠ na19 := O.ne E_w0.lt g_na19
  have ne_w1_na19 : w1 ≠ na19 := O.ne E_w1.lt g_na19; have ne_w2_na19 : w2 ≠ na19 := O.ne E_w2.lt g_na19; have ne_w3_na19 : w3 ≠ na19 := O.ne E_w3.lt g_na19; have ne_w4_na19 : w4 ≠ na19 := O.ne E_w4.lt g_na19; have ne_va_na19 : va ≠ na19 := O.ne E_va.lt g_na19; have ne_nb11_na19 : nb11 ≠ na19 := Nat.ne_of_lt (Nat.lt_of_lt_of_le V_nb11.lt s_na19)
  have ne_na13_na19 : na13 ≠ na19 := Nat.ne_of_lt (Nat.lt_of_lt_of_le E_na13.lt s_na19); have ne_nb13_na19 : nb13 ≠ na19 := Nat.ne_of_lt (Nat.lt_of_lt_of_le V_nb13.lt s_na19); have ne_na16_na19 : na16 ≠ na19 := Nat.ne_of_lt (Nat.lt_of_lt_of_le E_na16.lt s_na19); have ne_nb16_na19 : nb16 ≠ na19 := Nat.ne_of_lt (Nat.lt_of_lt_of_le V_nb16.lt s_na19)
  have s_nb19 : h16.size ≤ nb19 := sb19; have g_nb19 : n0 ≤ nb19 := Nat.le_trans (own_n0 O) s_nb19; have sz_nb19 : h0.size ≤ nb19 := Nat.le_trans K.1 s_nb19; have ne_a1_nb19 : a1 ≠ nb19 := Nat.ne_of_lt (Nat.lt_of_lt_of_le E_a1.lt s_nb19); have ne_b1_nb19 : b1 ≠ nb19 := Nat.ne_of_lt (Nat.lt_of_lt_of_le V_b1.lt s_nb19); have ne_w0_nb19 : w0 ≠ nb19 := O.ne E_w0.lt g_nb19
  have ne_w1_nb19 : w1 ≠ nb19 := O.ne E_w1.lt g_nb19; have ne_w2_nb19 : w2 ≠ nb19 := O.ne E_w2.lt g_nb19; have ne_w3_nb19 : w3 ≠ nb19 := O.ne E_w3.lt g_nb19; have ne_w4_nb19 : w4 ≠ nb19 := O.ne E_w4.lt g_nb19; have ne_va_nb19 : va ≠ nb19 := O.ne E_va.lt g_nb19; have ne_nb11_nb19 : nb11 ≠ nb19 := Nat.ne_of_lt (Nat.lt_of_lt_of_le V_nb11.lt s_nb19)
  have ne_na13_nb19 : na13 ≠ nb19 := Nat.ne_of_lt (Nat.lt_of_lt_of_le E_na13.lt s_nb19); have ne_nb13_nb19 : nb13 ≠ nb19 := Nat.ne_of_lt (Nat.lt_of_lt_of_le V_nb13.lt s_nb19); have ne_na16_nb19 : na16 ≠ nb19 := Nat.ne_of_lt (Nat.lt_of_lt_of_le E_na16.lt s_nb19); have ne_nb16_nb19 : nb16 ≠ nb19 := Nat.ne_of_lt (Nat.lt_of_lt_of_le V_nb16.lt s_nb19)
  have E_a1 := E_a1.keep K19; have F_value_a1 := F_value_a1.keep K19 nin0; have F_coder_a1 := F_coder_a1.keep K19 nin0; have V_b1 := V_b1.keep K19 nin0; have V_nb11 := V_nb11.keep K19 nin0; have E_na13 := E_na13.keep K19
  have F_value_na13 := F_value_na13.keep K19 nin0; have F_coder_na13 := F_coder_na13.keep K19 nin0; have V_nb13 := V_nb13.keep K19 nin0; have E_na16 := E_na16.keep K19; have F_value_na16 := F_value_na16.keep K19 nin0; have F_coder_na16 := F_coder_na16.keep K19 nin0
  have V_nb16 := V_nb16.keep K19 nin0; have O := O.keep K19 all0; have K := K.trans K19 all0
  have V_nb19 : Arv Z h19 nb19 k19 .byte 1 [(.int (100 : Int32))] (.int (0 : Int32)) := V_nb19
  have ne_na19_nb19 : na19 ≠ nb19 := fun q => own_strarr E_na19 V_nb19 (ow18 hw) q
  show OG p e below _ (T19.setTop (mkF m 28 #[.val (.ref a1), .val (.ref nb11), .val (.int (5 : Int32)), .val (.int (2 : Int32)), .val (.ref w2)] [(.ref na19), (.ref a1)]))
  refine og_virtual (pc' := 31) (cells' := 7) (slots' := 20) (W := 0) X19 hx hZ (rm10_0 l Z a0 hw a1 na19 b1 nb19 k1 k19 (97 : Int32) (100 : Int32) (by decide) cs hcs h19 n0 O E_a1 F_value_a1 F_coder_a1 V_b1 E_na19 F_value_na19 F_coder_na19 V_nb19 S_CS ne_a1_na19) hown (ow61 hw) (ow62 hw) (own_nf hZ (ow64 hw)) (ow64 hw) (ow63 hw) (ow10 hw) (ow65 hw) (by decide) (by rw [hml]; rfl) e19 opd_6 [(.ref na19)] [] rfl rfl rfl rfl (by decide) (by decide) rfl rfl (by decide) (by decide) E_a1 (hb hby d8_28) rfl (fun v20 T20 h20 L20 X20 e20 z20 => ?_)
  obtain ⟨rfl, Nq20, hq20⟩ := z20; replace e20 := e20.trans hq20; have N := Fr.app N Nq20
  show OG p e below _ (T20.setTop (mkF m 31 #[.val (.ref a1), .val (.ref nb11), .val (.int (5 : Int32)), .val (.int (2 : Int32)), .val (.ref w2)] [(.int (0 : Int32))]))
  refine og_if_eq (pc1 := 37) (pc2 := 34) X20 hx (hb hby d8_31) (by decide) (by decide) rfl (fun _ => ?_) (fun q => absurd q (by decide))
  refine og_iinc (pc' := 40) (L' := #[.val (.ref a1), .val (.ref nb11), .val (.int (5 : Int32)), .val (.int (3 : Int32)), .val (.ref w2)]) (w := (1 : Int32)) X20 hx rfl rfl rfl (hb hby d8_37) rfl ?_
  refine og_goto (pc' := 9) X20 hx (hb hby d8_40) (by decide) (by decide) ?_
  refine og_iloadN (pc' := 10) X20 hx rfl (hb hby d8_9) rfl ?_
  refine og_iloadN (pc' := 11) X20 hx rfl (hb hby d8_10) rfl ?_
  refine og_icmp_ge (pc1 := 43) (pc2 := 14) X20 hx (hb hby d8_11) (by decide) (by decide) rfl (fun q => absurd q (by decide)) (fun _ => ?_)
  refine og_aloadN (pc' := 15) X20 hx rfl rfl (hb hby d8_14) rfl ?_
  refine og_iloadN (pc' := 16) X20 hx rfl (hb hby d8_15) rfl ?_
  refine og_aaload (pc' := 17) (v := (.ref w3)) X20 hx hZ e20 rfl V_nb11 ⟨by decide, by decide⟩ rfl (hb hby d8_16) rfl ?_
  refine og_astore (pc' := 19) (L' := #[.val (.ref a1), .val (.ref nb11), .val (.int (5 : Int32)), .val (.int (3 : Int32)), .val (.ref w3)]) X20 hx rfl rfl (hb hby d8_17) rfl ?_
  refine og_aloadN (pc' := 20) X20 hx rfl rfl (hb hby d8_19) rfl ?_
  refine og_aload (pc' := 22) X20 hx rfl rfl (hb hby d8_20) rfl ?_
  refine og_getfield (pc' := 25) X20 hx hZ (host := "") hown (Or.inl (ow58 hw)) Via.refl e20 (F_w3.ext O.2) (hb hby d8_22) rfl (fun T21 X21 e21 => ?_)
  refine og_static (pc' := 28) (cells' := 9) (slots' := 25) (W := 1) X21 hx hZ (rm_vo l Z a0 hw (114 : Int32) (by decide) cs hcs h19 n0 O S_CS) hown (ow60 hw) (ow9 hw) (ow10 hw) (ow11 hw) (by decide) (by rw [hml]; rfl) e21 opd_5 [(.int (114 : Int32))] [(.ref a1)] rfl rfl rfl rfl (by decide) (by decide) rfl rfl (by decide) (by decide) (hb hby d8_25) rfl (fun v22 T22 h22 L22 X22 e22 z22 => ?_)
  obtain ⟨na22, nb22, k22, rfl, Nq22, K22, sa22, sb22, E_na22, F_value_na22, F_coder_na22, V_nb22⟩ := z22; have N := Fr.app N Nq22
  have s_na22 : h19.size ≤ na22 := sa22; have g_na22 : n0 ≤ na22 := Nat.le_trans (own_n0 O) s_na22; have sz_na22 : h0.size ≤ na22 := Nat.le_trans K.1 s_na22; have ne_a1_na22 : a1 ≠ na22 := Nat.ne_of_lt (Nat.lt_of_lt_of_le E_a1.lt s_na22); have ne_b1_na22 : b1 ≠ na22 := Nat.ne_of_lt (Nat.lt_of_lt_of_le V_b1.lt s_na22); have ne_w0_na22 : w0 ≠ na22 := O.ne E_w0.lt g_na22
  have ne_w1_na22 : w1 ≠ na22 := O.ne E_w1.lt g_na22; have ne_w2_na22 : w2 ≠ na22 := O.ne E_w2.lt g_na22; have ne_w3_na22 : w3 ≠ na22 := O.ne E_w3.lt g_na22; have ne_w4_na22 : w4 ≠ na22 := O.ne E_w4.lt g_na22; have ne_va_na22 : va ≠ na22 := O.ne E_va.lt g_na22; have ne_nb11_na22 : nb11 ≠ na22 := Nat.ne_of_lt (Nat.lt_of_lt_of_le V_nb11.lt s_na22)
  have ne_na13_na22 : na13 ≠ na22 := Nat.ne_of_lt (Nat.lt_of_lt_of_le E_na13.lt s_na22); have ne_nb13_na22 : nb13 ≠ na22 := Nat.ne_of_lt (Nat.lt_of_lt_of_le V_nb13.lt s_na22); have ne_na16_na22 : na16 ≠ na22 := Nat.ne_of_lt (Nat.lt_of_lt_of_le E_na16.lt s_na22); have ne_nb16_na22 : nb16 ≠ na22 := Nat.ne_of_lt (Nat.lt_of_lt_of_le V_nb16.lt s_na22); have ne_na19_na22 : na19 ≠ na22 := Nat.ne_of_lt (Nat.lt_of_lt_of_le E_na19.lt s_na22); have ne_nb19_na22 : nb19 ≠ na22 := Nat.ne_of_lt (Nat.lt_of_lt_of_le V_nb19.lt s_na22)
  have s_nb22 : h19.size ≤ nb22 := sb22; have g_nb22 : n0 ≤ nb22 := Nat.le_trans (own_n0 O) s_nb22; have sz_nb22 : h0.size ≤ nb22 := Nat.le_trans K.1 s_nb22; have ne_a1_nb22 : a1 ≠ nb22 := Nat.ne_of_lt (Nat.lt_of_lt_of_le E_a1.lt s_nb22); have ne_b1_nb22 : b1 ≠ nb22 := Nat.ne_of_lt (Nat.lt_of_lt_of_le V_b1.lt s_nb22); have ne_w0_nb22 : w0 ≠ nb22 := O.ne E_w0.lt g_nb22
  have ne_w1_nb22 : w1 ≠ nb22 := O.ne E_w1.lt g_nb22; have ne_w2_nb22 : w2 ≠ nb22 := O.ne E_w2.lt g_nb22; have ne_w3_nb22 : w3 ≠ nb22 := O.ne E_w3.lt g_nb22; have ne_w4_nb22 : w4 ≠ nb22 := O.ne E_w4.lt g_nb22; have ne_va_nb22 : va ≠ nb22 := O.ne E_va.lt g_nb22; have ne_nb11_nb22 : nb11 ≠ nb22 := Nat.ne_of_lt (Nat.lt_of_lt_of_le V_nb11.lt s_nb22)
  have ne_na13_nb22 : na13 ≠ nb22 := Nat.ne_of_lt (Nat.lt_of_lt_of_le E_na13.lt s_nb22); have ne_nb13_nb22 : nb13 ≠ nb22 := Nat.ne_of_lt (Nat.lt_of_lt_of_le V_nb13.lt s_nb22); have ne_na16_nb22 : na16 ≠ nb22 := Nat.ne_of_lt (Nat.lt_of_lt_of_le E_na16.lt s_nb22); have ne_nb16_nb22 : nb16 ≠ nb22 := Nat.ne_of_lt (Nat.lt_of_lt_of_le V_nb16.lt s_nb22); have ne_na19_nb22 : na19 ≠ nb22 := Nat.ne_of_lt (Nat.lt_of_lt_of_le E_na19.lt s_nb22); have ne_nb19_nb22 : nb19 ≠ nb22 := Nat.ne_of_lt (Nat.lt_of_lt_of_le V_nb19.lt s_nb22)
  have E_a1 := E_a1.keep K22; have F_value_a1 := F_value_a1.keep K22 nin0; have F_coder_a1 := F_coder_a1.keep K22 nin0; have V_b1 := V_b1.keep K22 nin0; have V_nb11 := V_nb11.keep K22 nin0; have E_na13 := E_na13.keep K22
  have F_value_na13 := F_value_na13.keep K22 nin0; have F_coder_na13 := F_coder_na13.keep K22 nin0; have V_nb13 := V_nb13.keep K22 nin0; have E_na16 := E_na16.keep K22; have F_value_na16 := F_value_na16.keep K22 nin0; have F_coder_na16 := F_coder_na16.keep K22 nin0
  have V_nb16 := V_nb16.keep K22 nin0; have E_na19 := E_na19.keep K22; have F_value_na19 := F_value_na19.keep K22 nin0; have F_coder_na19 := F_coder_na19.keep K22 nin0; have V_nb19 := V_nb19.keep K22 nin0; have O := O.keep K22 all0
  have K := K.trans K22 all0
  have V_nb22 : Arv Z h22 nb22 k22 .byte 1 [(.int (114 : Int32))] (.int (0 : Int32)) := V_nb22
  have ne_na22_nb22 : na22 ≠ nb22 := fun q => own_strarr E_na22 V_nb22 (ow18 hw) q
  show OG p e below _ (T22.setTop (mkF m 28 #[.val (.ref a1), .val (.ref nb11), .val (.int (5 : Int32)), .val (.int (3 : Int32)), .val (.ref w3)] [(.ref na22), (.ref a1)]))
  refine og_virtual (pc' := 31) (cells' := 9) (slots' := 25) (W := 0) X22 hx hZ (rm10_0 l Z a0 hw a1 na22 b1 nb22 k1 k22 (97 : Int32) (114 : Int32) (by decide) cs hcs h22 n0 O E_a1 F_value_a1 F_coder_a1 V_b1 E_na22 F_value_na22 F_coder_na22 V_nb22 S_CS ne_a1_na22) hown (ow61 hw) (ow62 hw) (own_nf hZ (ow64 hw)) (ow64 hw) (ow63 hw) (ow10 hw) (ow65 hw) (by decide) (by rw [hml]; rfl) e22 opd_6 [(.ref na22)] [] rfl rfl rfl rfl (by decide) (by decide) rfl rfl (by decide) (by decide) E_a1 (hb hby d8_28) rfl (fun v23 T23 h23 L23 X23 e23 z23 => ?_)
  obtain ⟨rfl, Nq23, hq23⟩ := z23; replace e23 := e23.trans hq23; have N := Fr.app N Nq23
  show OG p e below _ (T23.setTop (mkF m 31 #[.val (.ref a1), .val (.ref nb11), .val (.int (5 : Int32)), .val (.int (3 : Int32)), .val (.ref w3)] [(.int (0 : Int32))]))
  refine og_if_eq (pc1 := 37) (pc2 := 34) X23 hx (hb hby d8_31) (by decide) (by decide) rfl (fun _ => ?_) (fun q => absurd q (by decide))
  refine og_iinc (pc' := 40) (L' := #[.val (.ref a1), .val (.ref nb11), .val (.int (5 : Int32)), .val (.int (4 : Int32)), .val (.ref w3)]) (w := (1 : Int32)) X23 hx rfl rfl rfl (hb hby d8_37) rfl ?_
  refine og_goto (pc' := 9) X23 hx (hb hby d8_40) (by decide) (by decide) ?_
  refine og_iloadN (pc' := 10) X23 hx rfl (hb hby d8_9) rfl ?_
  refine og_iloadN (pc' := 11) X23 hx rfl (hb hby d8_10) rfl ?_
  refine og_icmp_ge (pc1 := 43) (pc2 := 14) X23 hx (hb hby d8_11) (by decide) (by decide) rfl (fun q => absurd q (by decide)) (fun _ => ?_)
  refine og_aloadN (pc' := 15) X23 hx rfl rfl (hb hby d8_14) rfl ?_
  refine og_iloadN (pc' := 16) X23 hx rfl (hb hby d8_15) rfl ?_
  refine og_aaload (pc' := 17) (v := (.ref w4)) X23 hx hZ e23 rfl V_nb11 ⟨by decide, by decide⟩ rfl (hb hby d8_16) rfl ?_
  refine og_astore (pc' := 19) (L' := #[.val (.ref a1), .val (.ref nb11), .val (.int (5 : Int32)), .val (.int (4 : Int32)), .val (.ref w4)]) X23 hx rfl rfl (hb hby d8_17) rfl ?_
  refine og_aloadN (pc' := 20) X23 hx rfl rfl (hb hby d8_19) rfl ?_
  refine og_aload (pc' := 22) X23 hx rfl rfl (hb hby d8_20) rfl ?_
  refine og_getfield (pc' := 25) X23 hx hZ (host := "") hown (Or.inl (ow58 hw)) Via.refl e23 (F_w4.ext O.2) (hb hby d8_22) rfl (fun T24 X24 e24 => ?_)
  refine og_static (pc' := 28) (cells' := 11) (slots' := 30) (W := 1) X24 hx hZ (rm_vo l Z a0 hw (97 : Int32) (by decide) cs hcs h22 n0 O S_CS) hown (ow60 hw) (ow9 hw) (ow10 hw) (ow11 hw) (by decide) (by rw [hml]; rfl) e24 opd_5 [(.int (97 : Int32))] [(.ref a1)] rfl rfl rfl rfl (by decide) (by decide) rfl rfl (by decide) (by decide) (hb hby d8_25) rfl (fun v25 T25 h25 L25 X25 e25 z25 => ?_)
  obtain ⟨na25, nb25, k25, rfl, Nq25, K25, sa25, sb25, E_na25, F_value_na25, F_coder_na25, V_nb25⟩ := z25; have N := Fr.app N Nq25
  have s_na25 : h22.size ≤ na25 := sa25; have g_na25 : n0 ≤ na25 := Nat.le_trans (own_n0 O) s_na25; have sz_na25 : h0.size ≤ na25 := Nat.le_trans K.1 s_na25; have ne_a1_na25 : a1 ≠ na25 := Nat.ne_of_lt (Nat.lt_of_lt_of_le E_a1.lt s_na25); have ne_b1_na25 : b1 ≠ na25 := Nat.ne_of_lt (Nat.lt_of_lt_of_le V_b1.lt s_na25); have ne_w0_na25 : w0 ≠ na25 := O.ne E_w0.lt g_na25
  have ne_w1_na25 : w1 ≠ na25 := O.ne E_w1.lt g_na25; have ne_w2_na25 : w2 ≠ na25 := O.ne E_w2.lt g_na25; have ne_w3_na25 : w3 ≠ na25 := O.ne E_w3.lt g_na25; have ne_w4_na25 : w4 ≠ na25 := O.ne E_w4.lt g_na25; have ne_va_na25 : va ≠ na25 := O.ne E_va.lt g_na25; have ne_nb11_na25 : nb11 ≠ na25 := Nat.ne_of_lt (Nat.lt_of_lt_of_le V_nb11.lt s_na25)
  have ne_na13_na25 : na13 ≠ na25 := Nat.ne_of_lt (Nat.lt_of_lt_of_le E_na13.lt s_na25); have ne_nb13_na25 : nb13 ≠ na25 := Nat.ne_of_lt (Nat.lt_of_lt_of_le V_nb13.lt s_na25); have ne_na16_na25 : na16 ≠ na25 := Nat.ne_of_lt (Nat.lt_of_lt_of_le E_na16.lt s_na25); have ne_nb16_na25 : nb16 ≠ na25 := Nat.ne_of_lt (Nat.lt_of_lt_of_le V_nb16.lt s_na25); have ne_na19_na25 : na19 ≠ na25 := Nat.ne_of_lt (Nat.lt_of_lt_of_le E_na19.lt s_na25); have ne_nb19_na25 : nb19 ≠ na25 := Nat.ne_of_lt (Nat.lt_of_lt_of_le V_nb19.lt s_na25)
  have ne_na22_na25 : na22 ≠ na25 := Nat.ne_of_lt (Nat.lt_of_lt_of_le E_na22.lt s_na25); have ne_nb22_na25 : nb22 ≠ na25 := Nat.ne_of_lt (Nat.lt_of_lt_of_le V_nb22.lt s_na25)
  have s_nb25 : h22.size ≤ nb25 := sb25; have g_nb25 : n0 ≤ nb25 := Nat.le_trans (own_n0 O) s_nb25; have sz_nb25 : h0.size ≤ nb25 := Nat.le_trans K.1 s_nb25; have ne_a1_nb25 : a1 ≠ nb25 := Nat.ne_of_lt (Nat.lt_of_lt_of_le E_a1.lt s_nb25); have ne_b1_nb25 : b1 ≠ nb25 := Nat.ne_of_lt (Nat.lt_of_lt_of_le V_b1.lt s_nb25); have ne_w0_nb25 : w0 ≠ nb25 := O.ne E_w0.lt g_nb25
  have ne_w1_nb25 : w1 ≠ nb25 := O.ne E_w1.lt g_nb25; have ne_w2_nb25 : w2 ≠ nb25 := O.ne E_w2.lt g_nb25; have ne_w3_nb25 : w3 ≠ nb25 := O.ne E_w3.lt g_nb25; have ne_w4_nb25 : w4 ≠ nb25 := O.ne E_w4.lt g_nb25; have ne_va_nb25 : va ≠ nb25 := O.ne E_va.lt g_nb25; have ne_nb11_nb25 : nb11 ≠ nb25 := Nat.ne_of_lt (Nat.lt_of_lt_of_le V_nb11.lt s_nb25)
  have ne_na13_nb25 : na13 ≠ nb25 := Nat.ne_of_lt (Nat.lt_of_lt_of_le E_na13.lt s_nb25); have ne_nb13_nb25 : nb13 ≠ nb25 := Nat.ne_of_lt (Nat.lt_of_lt_of_le V_nb13.lt s_nb25); have ne_na16_nb25 : na16 ≠ nb25 := Nat.ne_of_lt (Nat.lt_of_lt_of_le E_na16.lt s_nb25); have ne_nb16_nb25 : nb16 ≠ nb25 := Nat.ne_of_lt (Nat.lt_of_lt_of_le V_nb16.lt s_nb25); have ne_na19_nb25 : na19 ≠ nb25 := Nat.ne_of_lt (Nat.lt_of_lt_of_le E_na19.lt s_nb25); have ne_nb19_nb25 : nb19 ≠ nb25 := Nat.ne_of_lt (Nat.lt_of_lt_of_le V_nb19.lt s_nb25)
  have ne_na22_nb25 : na22 ≠ nb25 := Nat.ne_of_lt (Nat.lt_of_lt_of_le E_na22.lt s_nb25); have ne_nb22_nb25 : nb22 ≠ nb25 := Nat.ne_of_lt (Nat.lt_of_lt_of_le V_nb22.lt s_nb25)
  have E_a1 := E_a1.keep K25; have F_value_a1 := F_value_a1.keep K25 nin0; have F_coder_a1 := F_coder_a1.keep K25 nin0; have V_b1 := V_b1.keep K25 nin0; have V_nb11 := V_nb11.keep K25 nin0; have E_na13 := E_na13.keep K25
  have F_value_na13 := F_value_na13.keep K25 nin0; have F_coder_na13 := F_coder_na13.keep K25 nin0; have V_nb13 := V_nb13.keep K25 nin0; have E_na16 := E_na16.keep K25; have F_value_na16 := F_value_na16.keep K25 nin0; have F_coder_na16 := F_coder_na16.keep K25 nin0
  have V_nb16 := V_nb16.keep K25 nin0; have E_na19 := E_na19.keep K25; have F_value_na19 := F_value_na19.keep K25 nin0; have F_coder_na19 := F_coder_na19.keep K25 nin0; have V_nb19 := V_nb19.keep K25 nin0; have E_na22 := E_na22.keep K25
  have F_value_na22 := F_value_na22.keep K25 nin0; have F_coder_na22 := F_coder_na22.keep K25 nin0; have V_nb22 := V_nb22.keep K25 nin0; have O := O.keep K25 all0; have K := K.trans K25 all0
  have V_nb25 : Arv Z h25 nb25 k25 .byte 1 [(.int (97 : Int32))] (.int (0 : Int32)) := V_nb25
  have ne_na25_nb25 : na25 ≠ nb25 := fun q => own_strarr E_na25 V_nb25 (ow18 hw) q
  show OG p e below _ (T25.setTop (mkF m 28 #[.val (.ref a1), .val (.ref nb11), .val (.int (5 : Int32)), .val (.int (4 : Int32)), .val (.ref w4)] [(.ref na25), (.ref a1)]))
  refine og_virtual (pc' := 31) (cells' := 11) (slots' := 30) (W := 0) X25 hx hZ (rm10_1 l Z a0 hw a1 na25 b1 nb25 k1 k25 (97 : Int32)  cs hcs h25 n0 O E_a1 F_value_a1 F_coder_a1 V_b1 E_na25 F_value_na25 F_coder_na25 V_nb25 S_CS ne_a1_na25) hown (ow61 hw) (ow62 hw) (own_nf hZ (ow64 hw)) (ow64 hw) (ow63 hw) (ow10 hw) (ow65 hw) (by decide) (by rw [hml]; rfl) e25 opd_6 [(.ref na25)] [] rfl rfl rfl rfl (by decide) (by decide) rfl rfl (by decide) (by decide) E_a1 (hb hby d8_28) rfl (fun v26 T26 h26 L26 X26 e26 z26 => ?_)
  obtain ⟨rfl, Nq26, hq26⟩ := z26; replace e26 := e26.trans hq26; have N := Fr.app N Nq26
  show OG p e below _ (T26.setTop (mkF m 31 #[.val (.ref a1), .val (.ref nb11), .val (.int (5 : Int32)), .val (.int (4 : Int32)), .val (.ref w4)] [(.int (1 : Int32))]))
  refine og_if_eq (pc1 := 37) (pc2 := 34) X26 hx (hb hby d8_31) (by decide) (by decide) rfl (fun q => absurd q (by decide)) (fun _ => ?_)
  refine og_aload (pc' := 36) X26 hx rfl rfl (hb hby d8_34) rfl ?_
  refine og_retR X26 hx hlk hret rfl rfl rfl (hb hby d8_36) (by decide) (by decide) ?_
  rw [e26]; exact ⟨rfl, N, K⟩
theorem oef_rm0 (m : MethodId) (x0 : Int32) (x1 : Int32) : entryFrame m #[(.int x0), (.int x1)] maxLocals = mkF m 0 #[.val (.int x0), .val (.int x1), .unset, .unset, .unset] [] := by first | (simp [entryFrame, mkF, argsToLocals, Value.category, maxLocals]; done) | rfl
set_option maxRecDepth 65536 in
set_option maxHeartbeats 40000000 in
theorem rm0 (l : Launch) (Z : State) (a0 : Array Value) (hw : ∀ d ∈ tables_1, d.before a0 Z = true) (ws : List Jvm.Cond) (p1 p2 : Int32) (va w0 w1 w2 w3 w4 : Addr) (kv : ClassId) (cs : Int32) (hcs : ¬ cs = 0) (h0 : Heap) (n0 : Nat) (O : Old Z n0 h0) (S_CASCADE : Sta Z Z.heap "com/example/tombstone/tombstone/postgres/ForeignKey$Action" "CASCADE" "Lcom/example/tombstone/tombstone/postgres/ForeignKey$Action;" (.ref w0)) (S_SET_NULL : Sta Z Z.heap "com/example/tombstone/tombstone/postgres/ForeignKey$Action" "SET_NULL" "Lcom/example/tombstone/tombstone/postgres/ForeignKey$Action;" (.ref w1)) (S_SET_DEFAULT : Sta Z Z.heap "com/example/tombstone/tombstone/postgres/ForeignKey$Action" "SET_DEFAULT" "Lcom/example/tombstone/tombstone/postgres/ForeignKey$Action;" (.ref w2)) (S_RESTRICT : Sta Z Z.heap "com/example/tombstone/tombstone/postgres/ForeignKey$Action" "RESTRICT" "Lcom/example/tombstone/tombstone/postgres/ForeignKey$Action;" (.ref w3)) (S_NO_ACTION : Sta Z Z.heap "com/example/tombstone/tombstone/postgres/ForeignKey$Action" "NO_ACTION" "Lcom/example/tombstone/tombstone/postgres/ForeignKey$Action;" (.ref w4)) (E_w0 : Exa Z Z.heap w0 "com/example/tombstone/tombstone/postgres/ForeignKey$Action") (E_w1 : Exa Z Z.heap w1 "com/example/tombstone/tombstone/postgres/ForeignKey$Action") (E_w2 : Exa Z Z.heap w2 "com/example/tombstone/tombstone/postgres/ForeignKey$Action") (E_w3 : Exa Z Z.heap w3 "com/example/tombstone/tombstone/postgres/ForeignKey$Action") (E_w4 : Exa Z Z.heap w4 "com/example/tombstone/tombstone/postgres/ForeignKey$Action") (F_w0 : Fld Z Z.heap w0 "com/example/tombstone/tombstone/postgres/ForeignKey$Action" "code" "C" (.int (99 : Int32))) (F_w1 : Fld Z Z.heap w1 "com/example/tombstone/tombstone/postgres/ForeignKey$Action" "code" "C" (.int (110 : Int32))) (F_w2 : Fld Z Z.heap w2 "com/example/tombstone/tombstone/postgres/ForeignKey$Action" "code" "C" (.int (100 : Int32))) (F_w3 : Fld Z Z.heap w3 "com/example/tombstone/tombstone/postgres/ForeignKey$Action" "code" "C" (.int (114 : Int32))) (F_w4 : Fld Z Z.heap w4 "com/example/tombstone/tombstone/postgres/ForeignKey$Action" "code" "C" (.int (97 : Int32))) (S_VALUES : Sta Z Z.heap "com/example/tombstone/tombstone/postgres/ForeignKey$Action" "$VALUES" "[Lcom/example/tombstone/tombstone/postgres/ForeignKey$Action;" (.ref va)) (E_va : Exa Z Z.heap va "[Lcom/example/tombstone/tombstone/postgres/ForeignKey$Action;") (V_va : Arv Z Z.heap va kv (.object "com/example/tombstone/tombstone/postgres/ForeignKey$Action") (5 : Int32) [(.ref w0), (.ref w1), (.ref w2), (.ref w3), (.ref w4)] .null) (S_CS : Sta Z Z.heap "java/lang/String" "COMPACT_STRINGS" "Z" (.int cs)) :
    MetFree l x (head1 (Jvm.Cond.code x code maxLocals ret :: ws) room_1) (fun a U => a = #[(.int p1), (.int p2)] ∧ Z.Warmed39 U.vm ∧ U.heap = h0) (fun _ _ _ _ _ => True) (fun _ U o U' => ∃ v L, o = .returned v ∧ (fun v h L => v = some (.int 1) ∧ Fr n0 L) v U'.heap L ∧ FrameEnd U o U' L 40 192) := by
  refine own_start (Q := fun v h L => v = some (.int 1) ∧ Fr n0 L) opn_0 ?_
  intro p e s m below meth c T0 X0 hx hby hml hZ hown hnm hret hlk e0
  have N := Fr.nil n0; have K := Keep.refl h0 []
  refine OG.cast (oef_rm0 m p1 p2) ?_
  refine og_iloadN (pc' := 1) X0 hx rfl (hb hby at_0) rfl ?_
  refine og_sipush (pc' := 4) (v := (255 : Int32)) X0 hx rfl (hb hby at_1) rfl ?_
  refine og_iand (pc' := 5) X0 hx (hb hby at_4) rfl ?_
  refine og_i2c (pc' := 6) X0 hx (hb hby at_5) rfl ?_
  obtain ⟨dd, h_dd⟩ : ∃ z, z = ((p2 &&& (255 : Int32)).toUInt32.toUInt16.toUInt32.toInt32) := ⟨_, rfl⟩
  rw [← h_dd]
  rcases own_code dd with rfl | rfl | rfl | rfl | rfl | ⟨hd1, hd2, hd3, hd4, hd5⟩
  ·
    refine og_istoreN (pc' := 7) (L' := #[.val (.int p1), .val (.int p2), .val (.int (99 : Int32)), .unset, .unset]) X0 hx rfl (hb hby at_6) rfl ?_
    refine og_iloadN (pc' := 8) X0 hx rfl (hb hby at_7) rfl ?_
    refine og_static (pc' := 11) (cells' := 0) (slots' := 0) (W := 0) X0 hx hZ (rm1 l Z a0 hw (99 : Int32) 1 (by simp) h0 n0 O) hown (ow0 hw) (ow1 hw) (ow2 hw) (ow3 hw) (by decide) (by rw [hml]; rfl) e0 opd_0 [(.int (99 : Int32))] [] rfl rfl rfl rfl (by decide) (by decide) rfl rfl (by decide) (by decide) (hb hby at_8) rfl (fun v11 T11 h11 L11 X11 e11 z11 => ?_)
    obtain ⟨rfl, Nq11, hq11⟩ := z11; replace e11 := e11.trans hq11; have N := Fr.app N Nq11
    show OG p e below _ (T11.setTop (mkF m 11 #[.val (.int p1), .val (.int p2), .val (.int (99 : Int32)), .unset, .unset] [(.int (1 : Int32))]))
    refine og_if_eq (pc1 := 19) (pc2 := 14) X11 hx (hb hby at_11) (by decide) (by decide) rfl (fun q => absurd q (by decide)) (fun _ => ?_)
    refine og_iloadN (pc' := 15) X11 hx rfl (hb hby at_14) rfl ?_
    refine og_istoreN (pc' := 16) (L' := #[.val (.int p1), .val (.int p2), .val (.int (99 : Int32)), .val (.int (99 : Int32)), .unset]) X11 hx rfl (hb hby at_15) rfl ?_
    refine og_goto (pc' := 29) X11 hx (hb hby at_16) (by decide) (by decide) ?_
    refine og_iloadN (pc' := 30) X11 hx rfl (hb hby at_29) rfl ?_
    refine og_static (pc' := 33) (cells' := 2) (slots' := 5) (W := 0) X11 hx hZ (rm_vo l Z a0 hw (99 : Int32) (by decide) cs hcs h0 n0 O S_CS) hown (ow8 hw) (ow9 hw) (ow10 hw) (ow11 hw) (by decide) (by rw [hml]; rfl) e11 opd_5 [(.int (99 : Int32))] [] rfl rfl rfl rfl (by decide) (by decide) rfl rfl (by decide) (by decide) (hb hby at_30) rfl (fun v12 T12 h12 L12 X12 e12 z12 => ?_)
    obtain ⟨na12, nb12, k12, rfl, Nq12, K12, sa12, sb12, E_na12, F_value_na12, F_coder_na12, V_nb12⟩ := z12; have N := Fr.app N Nq12
    have s_na12 : h0.size ≤ na12 := sa12; have g_na12 : n0 ≤ na12 := Nat.le_trans (own_n0 O) s_na12; have sz_na12 : h0.size ≤ na12 := Nat.le_trans K.1 s_na12; have ne_w0_na12 : w0 ≠ na12 := O.ne E_w0.lt g_na12; have ne_w1_na12 : w1 ≠ na12 := O.ne E_w1.lt g_na12; have ne_w2_na12 : w2 ≠ na12 := O.ne E_w2.lt g_na12
    have ne_w3_na12 : w3 ≠ na12 := O.ne E_w3.lt g_na12; have ne_w4_na12 : w4 ≠ na12 := O.ne E_w4.lt g_na12; have ne_va_na12 : va ≠ na12 := O.ne E_va.lt g_na12
    have s_nb12 : h0.size ≤ nb12 := sb12; have g_nb12 : n0 ≤ nb12 := Nat.le_trans (own_n0 O) s_nb12; have sz_nb12 : h0.size ≤ nb12 := Nat.le_trans K.1 s_nb12; have ne_w0_nb12 : w0 ≠ nb12 := O.ne E_w0.lt g_nb12; have ne_w1_nb12 : w1 ≠ nb12 := O.ne E_w1.lt g_nb12; have ne_w2_nb12 : w2 ≠ nb12 := O.ne E_w2.lt g_nb12
    have ne_w3_nb12 : w3 ≠ nb12 := O.ne E_w3.lt g_nb12; have ne_w4_nb12 : w4 ≠ nb12 := O.ne E_w4.lt g_nb12; have ne_va_nb12 : va ≠ nb12 := O.ne E_va.lt g_nb12
    have O := O.keep K12 all0; have K := K.trans K12 all0
    have V_nb12 : Arv Z h12 nb12 k12 .byte 1 [(.int (99 : Int32))] (.int (0 : Int32)) := V_nb12
    have ne_na12_nb12 : na12 ≠ nb12 := fun q => own_strarr E_na12 V_nb12 (ow18 hw) q
    show OG p e below _ (T12.setTop (mkF m 33 #[.val (.int p1), .val (.int p2), .val (.int (99 : Int32)), .val (.int (99 : Int32)), .unset] [(.ref na12)]))
    refine og_static (pc' := 36) (cells' := 5) (slots' := 15) (W := 0) X12 hx hZ (rm8_0 l Z a0 hw na12 nb12 va w0 w1 w2 w3 w4 k12 kv cs hcs h12 n0 O E_na12 F_value_na12 F_coder_na12 V_nb12 S_CASCADE S_SET_NULL S_SET_DEFAULT S_RESTRICT S_NO_ACTION E_w0 E_w1 E_w2 E_w3 E_w4 F_w0 F_w1 F_w2 F_w3 F_w4 S_VALUES E_va V_va S_CS) hown (ow34 hw) (ow35 hw) (ow36 hw) (ow37 hw) (by decide) (by rw [hml]; rfl) e12 opd_7 [(.ref na12)] [] rfl rfl rfl rfl (by decide) (by decide) rfl rfl (by decide) (by decide) (hb hby at_33) rfl (fun v13 T13 h13 L13 X13 e13 z13 => ?_)
    obtain ⟨rfl, Nq13, K13⟩ := z13; have N := Fr.app N Nq13
    have E_na12 := E_na12.keep K13; have F_value_na12 := F_value_na12.keep K13 nin0; have F_coder_na12 := F_coder_na12.keep K13 nin0; have V_nb12 := V_nb12.keep K13 nin0; have O := O.keep K13 all0; have K := K.trans K13 all0
    show OG p e below _ (T13.setTop (mkF m 36 #[.val (.int p1), .val (.int p2), .val (.int (99 : Int32)), .val (.int (99 : Int32)), .unset] [(.ref w0)]))
    refine og_astore (pc' := 38) (L' := #[.val (.int p1), .val (.int p2), .val (.int (99 : Int32)), .val (.int (99 : Int32)), .val (.ref w0)]) X13 hx rfl rfl (hb hby at_36) rfl ?_
    refine og_aload (pc' := 40) X13 hx rfl rfl (hb hby at_38) rfl ?_
    refine og_iloadN (pc' := 41) X13 hx rfl (hb hby at_40) rfl ?_
    refine og_static (pc' := 44) (cells' := 5) (slots' := 15) (W := 1) X13 hx hZ (rm12_0 l Z a0 hw w0 w1 w2 w3 w4 h13 n0 O S_CASCADE S_SET_NULL S_SET_DEFAULT S_RESTRICT S_NO_ACTION) hown (ow69 hw) (ow70 hw) (ow2 hw) (ow71 hw) (by decide) (by rw [hml]; rfl) e13 opd_8 [(.int (99 : Int32))] [(.ref w0)] rfl rfl rfl rfl (by decide) (by decide) rfl rfl (by decide) (by decide) (hb hby at_41) rfl (fun v14 T14 h14 L14 X14 e14 z14 => ?_)
    obtain ⟨rfl, Nq14, hq14⟩ := z14; replace e14 := e14.trans hq14; have N := Fr.app N Nq14
    show OG p e below _ (T14.setTop (mkF m 44 #[.val (.int p1), .val (.int p2), .val (.int (99 : Int32)), .val (.int (99 : Int32)), .val (.ref w0)] [(.ref w0), (.ref w0)]))
    refine og_acmp_ne (pc1 := 51) (pc2 := 47) X14 hx rfl rfl (hb hby at_44) (by decide) (by decide) rfl (fun q => absurd rfl q) (fun _ => ?_)
    refine og_iconst (pc' := 48) (v := (1 : Int32)) X14 hx rfl (hb hby at_47) rfl ?_
    refine og_goto (pc' := 52) X14 hx (hb hby at_48) (by decide) (by decide) ?_
    refine og_retN X14 hx hlk hret (by simp) (hb hby at_52) (by decide) (by decide) ?_
    exact ⟨rfl, N⟩
  ·
    refine og_istoreN (pc' := 7) (L' := #[.val (.int p1), .val (.int p2), .val (.int (110 : Int32)), .unset, .unset]) X0 hx rfl (hb hby at_6) rfl ?_
    refine og_iloadN (pc' := 8) X0 hx rfl (hb hby at_7) rfl ?_
    refine og_static (pc' := 11) (cells' := 0) (slots' := 0) (W := 0) X0 hx hZ (rm1 l Z a0 hw (110 : Int32) 1 (by simp) h0 n0 O) hown (ow0 hw) (ow1 hw) (ow2 hw) (ow3 hw) (by decide) (by rw [hml]; rfl) e0 opd_0 [(.int (110 : Int32))] [] rfl rfl rfl rfl (by decide) (by decide) rfl rfl (by decide) (by decide) (hb hby at_8) rfl (fun v15 T15 h15 L15 X15 e15 z15 => ?_)
    obtain ⟨rfl, Nq15, hq15⟩ := z15; replace e15 := e15.trans hq15; have N := Fr.app N Nq15
    show OG p e below _ (T15.setTop (mkF m 11 #[.val (.int p1), .val (.int p2), .val (.int (110 : Int32)), .unset, .unset] [(.int (1 : Int32))]))
    refine og_if_eq (pc1 := 19) (pc2 := 14) X15 hx (hb hby at_11) (by decide) (by decide) rfl (fun q => absurd q (by decide)) (fun _ => ?_)
    refine og_iloadN (pc' := 15) X15 hx rfl (hb hby at_14) rfl ?_
    refine og_istoreN (pc' := 16) (L' := #[.val (.int p1), .val (.int p2), .val (.int (110 : Int32)), .val (.int (110 : Int32)), .unset]) X15 hx rfl (hb hby at_15) rfl ?_
    refine og_goto (pc' := 29) X15 hx (hb hby at_16) (by decide) (by decide) ?_
    refine og_iloadN (pc' := 30) X15 hx rfl (hb hby at_29) rfl ?_
    refine og_static (pc' := 33) (cells' := 2) (slots' := 5) (W := 0) X15 hx hZ (rm_vo l Z a0 hw (110 : Int32) (by decide) cs hcs h0 n0 O S_CS) hown (ow8 hw) (ow9 hw) (ow10 hw) (ow11 hw) (by decide) (by rw [hml]; rfl) e15 opd_5 [(.int (110 : Int32))] [] rfl rfl rfl rfl (by decide) (by decide) rfl rfl (by decide) (by decide) (hb hby at_30) rfl (fun v16 T16 h16 L16 X16 e16 z16 => ?_)
    obtain ⟨na16, nb16, k16, rfl, Nq16, K16, sa16, sb16, E_na16, F_value_na16, F_coder_na16, V_nb16⟩ := z16; have N := Fr.app N Nq16
    have s_na16 : h0.size ≤ na16 := sa16; have g_na16 : n0 ≤ na16 := Nat.le_trans (own_n0 O) s_na16; have sz_na16 : h0.size ≤ na16 := Nat.le_trans K.1 s_na16; have ne_w0_na16 : w0 ≠ na16 := O.ne E_w0.lt g_na16; have ne_w1_na16 : w1 ≠ na16 := O.ne E_w1.lt g_na16; have ne_w2_na16 : w2 ≠ na16 := O.ne E_w2.lt g_na16
    have ne_w3_na16 : w3 ≠ na16 := O.ne E_w3.lt g_na16; have ne_w4_na16 : w4 ≠ na16 := O.ne E_w4.lt g_na16; have ne_va_na16 : va ≠ na16 := O.ne E_va.lt g_na16
    have s_nb16 : h0.size ≤ nb16 := sb16; have g_nb16 : n0 ≤ nb16 := Nat.le_trans (own_n0 O) s_nb16; have sz_nb16 : h0.size ≤ nb16 := Nat.le_trans K.1 s_nb16; have ne_w0_nb16 : w0 ≠ nb16 := O.ne E_w0.lt g_nb16; have ne_w1_nb16 : w1 ≠ nb16 := O.ne E_w1.lt g_nb16; have ne_w2_nb16 : w2 ≠ nb16 := O.ne E_w2.lt g_nb16
    have ne_w3_nb16 : w3 ≠ nb16 := O.ne E_w3.lt g_nb16; have ne_w4_nb16 : w4 ≠ nb16 := O.ne E_w4.lt g_nb16; have ne_va_nb16 : va ≠ nb16 := O.ne E_va.lt g_nb16
    have O := O.keep K16 all0; have K := K.trans K16 all0
    have V_nb16 : Arv Z h16 nb16 k16 .byte 1 [(.int (110 : Int32))] (.int (0 : Int32)) := V_nb16
    have ne_na16_nb16 : na16 ≠ nb16 := fun q => own_strarr E_na16 V_nb16 (ow18 hw) q
    show OG p e below _ (T16.setTop (mkF m 33 #[.val (.int p1), .val (.int p2), .val (.int (110 : Int32)), .val (.int (110 : Int32)), .unset] [(.ref na16)]))
    refine og_static (pc' := 36) (cells' := 7) (slots' := 20) (W := 0) X16 hx hZ (rm8_1 l Z a0 hw na16 nb16 va w0 w1 w2 w3 w4 k16 kv cs hcs h16 n0 O E_na16 F_value_na16 F_coder_na16 V_nb16 S_CASCADE S_SET_NULL S_SET_DEFAULT S_RESTRICT S_NO_ACTION E_w0 E_w1 E_w2 E_w3 E_w4 F_w0 F_w1 F_w2 F_w3 F_w4 S_VALUES E_va V_va S_CS) hown (ow34 hw) (ow35 hw) (ow36 hw) (ow37 hw) (by decide) (by rw [hml]; rfl) e16 opd_7 [(.ref na16)] [] rfl rfl rfl rfl (by decide) (by decide) rfl rfl (by decide) (by decide) (hb hby at_33) rfl (fun v17 T17 h17 L17 X17 e17 z17 => ?_)
    obtain ⟨rfl, Nq17, K17⟩ := z17; have N := Fr.app N Nq17
    have E_na16 := E_na16.keep K17; have F_value_na16 := F_value_na16.keep K17 nin0; have F_coder_na16 := F_coder_na16.keep K17 nin0; have V_nb16 := V_nb16.keep K17 nin0; have O := O.keep K17 all0; have K := K.trans K17 all0
    show OG p e below _ (T17.setTop (mkF m 36 #[.val (.int p1), .val (.int p2), .val (.int (110 : Int32)), .val (.int (110 : Int32)), .unset] [(.ref w1)]))
    refine og_astore (pc' := 38) (L' := #[.val (.int p1), .val (.int p2), .val (.int (110 : Int32)), .val (.int (110 : Int32)), .val (.ref w1)]) X17 hx rfl rfl (hb hby at_36) rfl ?_
    refine og_aload (pc' := 40) X17 hx rfl rfl (hb hby at_38) rfl ?_
    refine og_iloadN (pc' := 41) X17 hx rfl (hb hby at_40) rfl ?_
    refine og_static (pc' := 44) (cells' := 7) (slots' := 20) (W := 1) X17 hx hZ (rm12_1 l Z a0 hw w0 w1 w2 w3 w4 h17 n0 O S_CASCADE S_SET_NULL S_SET_DEFAULT S_RESTRICT S_NO_ACTION) hown (ow69 hw) (ow70 hw) (ow2 hw) (ow71 hw) (by decide) (by rw [hml]; rfl) e17 opd_8 [(.int (110 : Int32))] [(.ref w1)] rfl rfl rfl rfl (by decide) (by decide) rfl rfl (by decide) (by decide) (hb hby at_41) rfl (fun v18 T18 h18 L18 X18 e18 z18 => ?_)
    obtain ⟨rfl, Nq18, hq18⟩ := z18; replace e18 := e18.trans hq18; have N := Fr.app N Nq18
    show OG p e below _ (T18.setTop (mkF m 44 #[.val (.int p1), .val (.int p2), .val (.int (110 : Int32)), .val (.int (110 : Int32)), .val (.ref w1)] [(.ref w1), (.ref w1)]))
    refine og_acmp_ne (pc1 := 51) (pc2 := 47) X18 hx rfl rfl (hb hby at_44) (by decide) (by decide) rfl (fun q => absurd rfl q) (fun _ => ?_)
    refine og_iconst (pc' := 48) (v := (1 : Int32)) X18 hx rfl (hb hby at_47) rfl ?_
    refine og_goto (pc' := 52) X18 hx (hb hby at_48) (by decide) (by decide) ?_
    refine og_retN X18 hx hlk hret (by simp) (hb hby at_52) (by decide) (by decide) ?_
    exact ⟨rfl, N⟩
  ·
    refine og_istoreN (pc' := 7) (L' := #[.val (.int p1), .val (.int p2), .val (.int (100 : Int32)), .unset, .unset]) X0 hx rfl (hb hby at_6) rfl ?_
    refine og_iloadN (pc' := 8) X0 hx rfl (hb hby at_7) rfl ?_
    refine og_static (pc' := 11) (cells' := 0) (slots' := 0) (W := 0) X0 hx hZ (rm1 l Z a0 hw (100 : Int32) 1 (by simp) h0 n0 O) hown (ow0 hw) (ow1 hw) (ow2 hw) (ow3 hw) (by decide) (by rw [hml]; rfl) e0 opd_0 [(.int (100 : Int32))] [] rfl rfl rfl rfl (by decide) (by decide) rfl rfl (by decide) (by decide) (hb hby at_8) rfl (fun v19 T19 h19 L19 X19 e19 z19 => ?_)
    obtain ⟨rfl, Nq19, hq19⟩ := z19; replace e19 := e19.trans hq19; have N := Fr.app N Nq19
    show OG p e below _ (T19.setTop (mkF m 11 #[.val (.int p1), .val (.int p2), .val (.int (100 : Int32)), .unset, .unset] [(.int (1 : Int32))]))
    refine og_if_eq (pc1 := 19) (pc2 := 14) X19 hx (hb hby at_11) (by decide) (by decide) rfl (fun q => absurd q (by decide)) (fun _ => ?_)
    refine og_iloadN (pc' := 15) X19 hx rfl (hb hby at_14) rfl ?_
    refine og_istoreN (pc' := 16) (L' := #[.val (.int p1), .val (.int p2), .val (.int (100 : Int32)), .val (.int (100 : Int32)), .unset]) X19 hx rfl (hb hby at_15) rfl ?_
    refine og_goto (pc' := 29) X19 hx (hb hby at_16) (by decide) (by decide) ?_
    refine og_iloadN (pc' := 30) X19 hx rfl (hb hby at_29) rfl ?_
    refine og_static (pc' := 33) (cells' := 2) (slots' := 5) (W := 0) X19 hx hZ (rm_vo l Z a0 hw (100 : Int32) (by decide) cs hcs h0 n0 O S_CS) hown (ow8 hw) (ow9 hw) (ow10 hw) (ow11 hw) (by decide) (by rw [hml]; rfl) e19 opd_5 [(.int (100 : Int32))] [] rfl rfl rfl rfl (by decide) (by decide) rfl rfl (by decide) (by decide) (hb hby at_30) rfl (fun v20 T20 h20 L20 X20 e20 z20 => ?_)
    obtain ⟨na20, nb20, k20, rfl, Nq20, K20, sa20, sb20, E_na20, F_value_na20, F_coder_na20, V_nb20⟩ := z20; have N := Fr.app N Nq20
    have s_na20 : h0.size ≤ na20 := sa20; have g_na20 : n0 ≤ na20 := Nat.le_trans (own_n0 O) s_na20; have sz_na20 : h0.size ≤ na20 := Nat.le_trans K.1 s_na20; have ne_w0_na20 : w0 ≠ na20 := O.ne E_w0.lt g_na20; have ne_w1_na20 : w1 ≠ na20 := O.ne E_w1.lt g_na20; have ne_w2_na20 : w2 ≠ na20 := O.ne E_w2.lt g_na20
    have ne_w3_na20 : w3 ≠ na20 := O.ne E_w3.lt g_na20; have ne_w4_na20 : w4 ≠ na20 := O.ne E_w4.lt g_na20; have ne_va_na20 : va ≠ na20 := O.ne E_va.lt g_na20
    have s_nb20 : h0.size ≤ nb20 := sb20; have g_nb20 : n0 ≤ nb20 := Nat.le_trans (own_n0 O) s_nb20; have sz_nb20 : h0.size ≤ nb20 := Nat.le_trans K.1 s_nb20; have ne_w0_nb20 : w0 ≠ nb20 := O.ne E_w0.lt g_nb20; have ne_w1_nb20 : w1 ≠ nb20 := O.ne E_w1.lt g_nb20; have ne_w2_nb20 : w2 ≠ nb20 := O.ne E_w2.lt g_nb20
    have ne_w3_nb20 : w3 ≠ nb20 := O.ne E_w3.lt g_nb20; have ne_w4_nb20 : w4 ≠ nb20 := O.ne E_w4.lt g_nb20; have ne_va_nb20 : va ≠ nb20 := O.ne E_va.lt g_nb20
    have O := O.keep K20 all0; have K := K.trans K20 all0
    have V_nb20 : Arv Z h20 nb20 k20 .byte 1 [(.int (100 : Int32))] (.int (0 : Int32)) := V_nb20
    have ne_na20_nb20 : na20 ≠ nb20 := fun q => own_strarr E_na20 V_nb20 (ow18 hw) q
    show OG p e below _ (T20.setTop (mkF m 33 #[.val (.int p1), .val (.int p2), .val (.int (100 : Int32)), .val (.int (100 : Int32)), .unset] [(.ref na20)]))
    refine og_static (pc' := 36) (cells' := 9) (slots' := 25) (W := 0) X20 hx hZ (rm8_2 l Z a0 hw na20 nb20 va w0 w1 w2 w3 w4 k20 kv cs hcs h20 n0 O E_na20 F_value_na20 F_coder_na20 V_nb20 S_CASCADE S_SET_NULL S_SET_DEFAULT S_RESTRICT S_NO_ACTION E_w0 E_w1 E_w2 E_w3 E_w4 F_w0 F_w1 F_w2 F_w3 F_w4 S_VALUES E_va V_va S_CS) hown (ow34 hw) (ow35 hw) (ow36 hw) (ow37 hw) (by decide) (by rw [hml]; rfl) e20 opd_7 [(.ref na20)] [] rfl rfl rfl rfl (by decide) (by decide) rfl rfl (by decide) (by decide) (hb hby at_33) rfl (fun v21 T21 h21 L21 X21 e21 z21 => ?_)
    obtain ⟨rfl, Nq21, K21⟩ := z21; have N := Fr.app N Nq21
    have E_na20 := E_na20.keep K21; have F_value_na20 := F_value_na20.keep K21 nin0; have F_coder_na20 := F_coder_na20.keep K21 nin0; have V_nb20 := V_nb20.keep K21 nin0; have O := O.keep K21 all0; have K := K.trans K21 all0
    show OG p e below _ (T21.setTop (mkF m 36 #[.val (.int p1), .val (.int p2), .val (.int (100 : Int32)), .val (.int (100 : Int32)), .unset] [(.ref w2)]))
    refine og_astore (pc' := 38) (L' := #[.val (.int p1), .val (.int p2), .val (.int (100 : Int32)), .val (.int (100 : Int32)), .val (.ref w2)]) X21 hx rfl rfl (hb hby at_36) rfl ?_
    refine og_aload (pc' := 40) X21 hx rfl rfl (hb hby at_38) rfl ?_
    refine og_iloadN (pc' := 41) X21 hx rfl (hb hby at_40) rfl ?_
    refine og_static (pc' := 44) (cells' := 9) (slots' := 25) (W := 1) X21 hx hZ (rm12_2 l Z a0 hw w0 w1 w2 w3 w4 h21 n0 O S_CASCADE S_SET_NULL S_SET_DEFAULT S_RESTRICT S_NO_ACTION) hown (ow69 hw) (ow70 hw) (ow2 hw) (ow71 hw) (by decide) (by rw [hml]; rfl) e21 opd_8 [(.int (100 : Int32))] [(.ref w2)] rfl rfl rfl rfl (by decide) (by decide) rfl rfl (by decide) (by decide) (hb hby at_41) rfl (fun v22 T22 h22 L22 X22 e22 z22 => ?_)
    obtain ⟨rfl, Nq22, hq22⟩ := z22; replace e22 := e22.trans hq22; have N := Fr.app N Nq22
    show OG p e below _ (T22.setTop (mkF m 44 #[.val (.int p1), .val (.int p2), .val (.int (100 : Int32)), .val (.int (100 : Int32)), .val (.ref w2)] [(.ref w2), (.ref w2)]))
    refine og_acmp_ne (pc1 := 51) (pc2 := 47) X22 hx rfl rfl (hb hby at_44) (by decide) (by decide) rfl (fun q => absurd rfl q) (fun _ => ?_)
    refine og_iconst (pc' := 48) (v := (1 : Int32)) X22 hx rfl (hb hby at_47) rfl ?_
    refine og_goto (pc' := 52) X22 hx (hb hby at_48) (by decide) (by decide) ?_
    refine og_retN X22 hx hlk hret (by simp) (hb hby at_52) (by decide) (by decide) ?_
    exact ⟨rfl, N⟩
  ·
    refine og_istoreN (pc' := 7) (L' := #[.val (.int p1), .val (.int p2), .val (.int (114 : Int32)), .unset, .unset]) X0 hx rfl (hb hby at_6) rfl ?_
    refine og_iloadN (pc' := 8) X0 hx rfl (hb hby at_7) rfl ?_
    refine og_static (pc' := 11) (cells' := 0) (slots' := 0) (W := 0) X0 hx hZ (rm1 l Z a0 hw (114 : Int32) 1 (by simp) h0 n0 O) hown (ow0 hw) (ow1 hw) (ow2 hw) (ow3 hw) (by decide) (by rw [hml]; rfl) e0 opd_0 [(.int (114 : Int32))] [] rfl rfl rfl rfl (by decide) (by decide) rfl rfl (by decide) (by decide) (hb hby at_8) rfl (fun v23 T23 h23 L23 X23 e23 z23 => ?_)
    obtain ⟨rfl, Nq23, hq23⟩ := z23; replace e23 := e23.trans hq23; have N := Fr.app N Nq23
    show OG p e below _ (T23.setTop (mkF m 11 #[.val (.int p1), .val (.int p2), .val (.int (114 : Int32)), .unset, .unset] [(.int (1 : Int32))]))
    refine og_if_eq (pc1 := 19) (pc2 := 14) X23 hx (hb hby at_11) (by decide) (by decide) rfl (fun q => absurd q (by decide)) (fun _ => ?_)
    refine og_iloadN (pc' := 15) X23 hx rfl (hb hby at_14) rfl ?_
    refine og_istoreN (pc' := 16) (L' := #[.val (.int p1), .val (.int p2), .val (.int (114 : Int32)), .val (.int (114 : Int32)), .unset]) X23 hx rfl (hb hby at_15) rfl ?_
    refine og_goto (pc' := 29) X23 hx (hb hby at_16) (by decide) (by decide) ?_
    refine og_iloadN (pc' := 30) X23 hx rfl (hb hby at_29) rfl ?_
    refine og_static (pc' := 33) (cells' := 2) (slots' := 5) (W := 0) X23 hx hZ (rm_vo l Z a0 hw (114 : Int32) (by decide) cs hcs h0 n0 O S_CS) hown (ow8 hw) (ow9 hw) (ow10 hw) (ow11 hw) (by decide) (by rw [hml]; rfl) e23 opd_5 [(.int (114 : Int32))] [] rfl rfl rfl rfl (by decide) (by decide) rfl rfl (by decide) (by decide) (hb hby at_30) rfl (fun v24 T24 h24 L24 X24 e24 z24 => ?_)
    obtain ⟨na24, nb24, k24, rfl, Nq24, K24, sa24, sb24, E_na24, F_value_na24, F_coder_na24, V_nb24⟩ := z24; have N := Fr.app N Nq24
    have s_na24 : h0.size ≤ na24 := sa24; have g_na24 : n0 ≤ na24 := Nat.le_trans (own_n0 O) s_na24; have sz_na24 : h0.size ≤ na24 := Nat.le_trans K.1 s_na24; have ne_w0_na24 : w0 ≠ na24 := O.ne E_w0.lt g_na24; have ne_w1_na24 : w1 ≠ na24 := O.ne E_w1.lt g_na24; have ne_w2_na24 : w2 ≠ na24 := O.ne E_w2.lt g_na24
    have ne_w3_na24 : w3 ≠ na24 := O.ne E_w3.lt g_na24; have ne_w4_na24 : w4 ≠ na24 := O.ne E_w4.lt g_na24; have ne_va_na24 : va ≠ na24 := O.ne E_va.lt g_na24
    have s_nb24 : h0.size ≤ nb24 := sb24; have g_nb24 : n0 ≤ nb24 := Nat.le_trans (own_n0 O) s_nb24; have sz_nb24 : h0.size ≤ nb24 := Nat.le_trans K.1 s_nb24; have ne_w0_nb24 : w0 ≠ nb24 := O.ne E_w0.lt g_nb24; have ne_w1_nb24 : w1 ≠ nb24 := O.ne E_w1.lt g_nb24; have ne_w2_nb24 : w2 ≠ nb24 := O.ne E_w2.lt g_nb24
    have ne_w3_nb24 : w3 ≠ nb24 := O.ne E_w3.lt g_nb24; have ne_w4_nb24 : w4 ≠ nb24 := O.ne E_w4.lt g_nb24; have ne_va_nb24 : va ≠ nb24 := O.ne E_va.lt g_nb24
    have O := O.keep K24 all0; have K := K.trans K24 all0
    have V_nb24 : Arv Z h24 nb24 k24 .byte 1 [(.int (114 : Int32))] (.int (0 : Int32)) := V_nb24
    have ne_na24_nb24 : na24 ≠ nb24 := fun q => own_strarr E_na24 V_nb24 (ow18 hw) q
    show OG p e below _ (T24.setTop (mkF m 33 #[.val (.int p1), .val (.int p2), .val (.int (114 : Int32)), .val (.int (114 : Int32)), .unset] [(.ref na24)]))
    refine og_static (pc' := 36) (cells' := 11) (slots' := 30) (W := 0) X24 hx hZ (rm8_3 l Z a0 hw na24 nb24 va w0 w1 w2 w3 w4 k24 kv cs hcs h24 n0 O E_na24 F_value_na24 F_coder_na24 V_nb24 S_CASCADE S_SET_NULL S_SET_DEFAULT S_RESTRICT S_NO_ACTION E_w0 E_w1 E_w2 E_w3 E_w4 F_w0 F_w1 F_w2 F_w3 F_w4 S_VALUES E_va V_va S_CS) hown (ow34 hw) (ow35 hw) (ow36 hw) (ow37 hw) (by decide) (by rw [hml]; rfl) e24 opd_7 [(.ref na24)] [] rfl rfl rfl rfl (by decide) (by decide) rfl rfl (by decide) (by decide) (hb hby at_33) rfl (fun v25 T25 h25 L25 X25 e25 z25 => ?_)
    obtain ⟨rfl, Nq25, K25⟩ := z25; have N := Fr.app N Nq25
    have E_na24 := E_na24.keep K25; have F_value_na24 := F_value_na24.keep K25 nin0; have F_coder_na24 := F_coder_na24.keep K25 nin0; have V_nb24 := V_nb24.keep K25 nin0; have O := O.keep K25 all0; have K := K.trans K25 all0
    show OG p e below _ (T25.setTop (mkF m 36 #[.val (.int p1), .val (.int p2), .val (.int (114 : Int32)), .val (.int (114 : Int32)), .unset] [(.ref w3)]))
    refine og_astore (pc' := 38) (L' := #[.val (.int p1), .val (.int p2), .val (.int (114 : Int32)), .val (.int (114 : Int32)), .val (.ref w3)]) X25 hx rfl rfl (hb hby at_36) rfl ?_
    refine og_aload (pc' := 40) X25 hx rfl rfl (hb hby at_38) rfl ?_
    refine og_iloadN (pc' := 41) X25 hx rfl (hb hby at_40) rfl ?_
    refine og_static (pc' := 44) (cells' := 11) (slots' := 30) (W := 1) X25 hx hZ (rm12_3 l Z a0 hw w0 w1 w2 w3 w4 h25 n0 O S_CASCADE S_SET_NULL S_SET_DEFAULT S_RESTRICT S_NO_ACTION) hown (ow69 hw) (ow70 hw) (ow2 hw) (ow71 hw) (by decide) (by rw [hml]; rfl) e25 opd_8 [(.int (114 : Int32))] [(.ref w3)] rfl rfl rfl rfl (by decide) (by decide) rfl rfl (by decide) (by decide) (hb hby at_41) rfl (fun v26 T26 h26 L26 X26 e26 z26 => ?_)
    obtain ⟨rfl, Nq26, hq26⟩ := z26; replace e26 := e26.trans hq26; have N := Fr.app N Nq26
    show OG p e below _ (T26.setTop (mkF m 44 #[.val (.int p1), .val (.int p2), .val (.int (114 : Int32)), .val (.int (114 : Int32)), .val (.ref w3)] [(.ref w3), (.ref w3)]))
    refine og_acmp_ne (pc1 := 51) (pc2 := 47) X26 hx rfl rfl (hb hby at_44) (by decide) (by decide) rfl (fun q => absurd rfl q) (fun _ => ?_)
    refine og_iconst (pc' := 48) (v := (1 : Int32)) X26 hx rfl (hb hby at_47) rfl ?_
    refine og_goto (pc' := 52) X26 hx (hb hby at_48) (by decide) (by decide) ?_
    refine og_retN X26 hx hlk hret (by simp) (hb hby at_52) (by decide) (by decide) ?_
    exact ⟨rfl, N⟩
  ·
    refine og_istoreN (pc' := 7) (L' := #[.val (.int p1), .val (.int p2), .val (.int (97 : Int32)), .unset, .unset]) X0 hx rfl (hb hby at_6) rfl ?_
    refine og_iloadN (pc' := 8) X0 hx rfl (hb hby at_7) rfl ?_
    refine og_static (pc' := 11) (cells' := 0) (slots' := 0) (W := 0) X0 hx hZ (rm1 l Z a0 hw (97 : Int32) 1 (by simp) h0 n0 O) hown (ow0 hw) (ow1 hw) (ow2 hw) (ow3 hw) (by decide) (by rw [hml]; rfl) e0 opd_0 [(.int (97 : Int32))] [] rfl rfl rfl rfl (by decide) (by decide) rfl rfl (by decide) (by decide) (hb hby at_8) rfl (fun v27 T27 h27 L27 X27 e27 z27 => ?_)
    obtain ⟨rfl, Nq27, hq27⟩ := z27; replace e27 := e27.trans hq27; have N := Fr.app N Nq27
    show OG p e below _ (T27.setTop (mkF m 11 #[.val (.int p1), .val (.int p2), .val (.int (97 : Int32)), .unset, .unset] [(.int (1 : Int32))]))
    refine og_if_eq (pc1 := 19) (pc2 := 14) X27 hx (hb hby at_11) (by decide) (by decide) rfl (fun q => absurd q (by decide)) (fun _ => ?_)
    refine og_iloadN (pc' := 15) X27 hx rfl (hb hby at_14) rfl ?_
    refine og_istoreN (pc' := 16) (L' := #[.val (.int p1), .val (.int p2), .val (.int (97 : Int32)), .val (.int (97 : Int32)), .unset]) X27 hx rfl (hb hby at_15) rfl ?_
    refine og_goto (pc' := 29) X27 hx (hb hby at_16) (by decide) (by decide) ?_
    refine og_iloadN (pc' := 30) X27 hx rfl (hb hby at_29) rfl ?_
    refine og_static (pc' := 33) (cells' := 2) (slots' := 5) (W := 0) X27 hx hZ (rm_vo l Z a0 hw (97 : Int32) (by decide) cs hcs h0 n0 O S_CS) hown (ow8 hw) (ow9 hw) (ow10 hw) (ow11 hw) (by decide) (by rw [hml]; rfl) e27 opd_5 [(.int (97 : Int32))] [] rfl rfl rfl rfl (by decide) (by decide) rfl rfl (by decide) (by decide) (hb hby at_30) rfl (fun v28 T28 h28 L28 X28 e28 z28 => ?_)
    obtain ⟨na28, nb28, k28, rfl, Nq28, K28, sa28, sb28, E_na28, F_value_na28, F_coder_na28, V_nb28⟩ := z28; have N := Fr.app N Nq28
    have s_na28 : h0.size ≤ na28 := sa28; have g_na28 : n0 ≤ na28 := Nat.le_trans (own_n0 O) s_na28; have sz_na28 : h0.size ≤ na28 := Nat.le_trans K.1 s_na28; have ne_w0_na28 : w0 ≠ na28 := O.ne E_w0.lt g_na28; have ne_w1_na28 : w1 ≠ na28 := O.ne E_w1.lt g_na28; have ne_w2_na28 : w2 ≠ na28 := O.ne E_w2.lt g_na28
    have ne_w3_na28 : w3 ≠ na28 := O.ne E_w3.lt g_na28; have ne_w4_na28 : w4 ≠ na28 := O.ne E_w4.lt g_na28; have ne_va_na28 : va ≠ na28 := O.ne E_va.lt g_na28
    have s_nb28 : h0.size ≤ nb28 := sb28; have g_nb28 : n0 ≤ nb28 := Nat.le_trans (own_n0 O) s_nb28; have sz_nb28 : h0.size ≤ nb28 := Nat.le_trans K.1 s_nb28; have ne_w0_nb28 : w0 ≠ nb28 := O.ne E_w0.lt g_nb28; have ne_w1_nb28 : w1 ≠ nb28 := O.ne E_w1.lt g_nb28; have ne_w2_nb28 : w2 ≠ nb28 := O.ne E_w2.lt g_nb28
    have ne_w3_nb28 : w3 ≠ nb28 := O.ne E_w3.lt g_nb28; have ne_w4_nb28 : w4 ≠ nb28 := O.ne E_w4.lt g_nb28; have ne_va_nb28 : va ≠ nb28 := O.ne E_va.lt g_nb28
    have O := O.keep K28 all0; have K := K.trans K28 all0
    have V_nb28 : Arv Z h28 nb28 k28 .byte 1 [(.int (97 : Int32))] (.int (0 : Int32)) := V_nb28
    have ne_na28_nb28 : na28 ≠ nb28 := fun q => own_strarr E_na28 V_nb28 (ow18 hw) q
    show OG p e below _ (T28.setTop (mkF m 33 #[.val (.int p1), .val (.int p2), .val (.int (97 : Int32)), .val (.int (97 : Int32)), .unset] [(.ref na28)]))
    refine og_static (pc' := 36) (cells' := 13) (slots' := 35) (W := 0) X28 hx hZ (rm8_4 l Z a0 hw na28 nb28 va w0 w1 w2 w3 w4 k28 kv cs hcs h28 n0 O E_na28 F_value_na28 F_coder_na28 V_nb28 S_CASCADE S_SET_NULL S_SET_DEFAULT S_RESTRICT S_NO_ACTION E_w0 E_w1 E_w2 E_w3 E_w4 F_w0 F_w1 F_w2 F_w3 F_w4 S_VALUES E_va V_va S_CS) hown (ow34 hw) (ow35 hw) (ow36 hw) (ow37 hw) (by decide) (by rw [hml]; rfl) e28 opd_7 [(.ref na28)] [] rfl rfl rfl rfl (by decide) (by decide) rfl rfl (by decide) (by decide) (hb hby at_33) rfl (fun v29 T29 h29 L29 X29 e29 z29 => ?_)
    obtain ⟨rfl, Nq29, K29⟩ := z29; have N := Fr.app N Nq29
    have E_na28 := E_na28.keep K29; have F_value_na28 := F_value_na28.keep K29 nin0; have F_coder_na28 := F_coder_na28.keep K29 nin0; have V_nb28 := V_nb28.keep K29 nin0; have O := O.keep K29 all0; have K := K.trans K29 all0
    show OG p e below _ (T29.setTop (mkF m 36 #[.val (.int p1), .val (.int p2), .val (.int (97 : Int32)), .val (.int (97 : Int32)), .unset] [(.ref w4)]))
    refine og_astore (pc' := 38) (L' := #[.val (.int p1), .val (.int p2), .val (.int (97 : Int32)), .val (.int (97 : Int32)), .val (.ref w4)]) X29 hx rfl rfl (hb hby at_36) rfl ?_
    refine og_aload (pc' := 40) X29 hx rfl rfl (hb hby at_38) rfl ?_
    refine og_iloadN (pc' := 41) X29 hx rfl (hb hby at_40) rfl ?_
    refine og_static (pc' := 44) (cells' := 13) (slots' := 35) (W := 1) X29 hx hZ (rm12_4 l Z a0 hw w0 w1 w2 w3 w4 h29 n0 O S_CASCADE S_SET_NULL S_SET_DEFAULT S_RESTRICT S_NO_ACTION) hown (ow69 hw) (ow70 hw) (ow2 hw) (ow71 hw) (by decide) (by rw [hml]; rfl) e29 opd_8 [(.int (97 : Int32))] [(.ref w4)] rfl rfl rfl rfl (by decide) (by decide) rfl rfl (by decide) (by decide) (hb hby at_41) rfl (fun v30 T30 h30 L30 X30 e30 z30 => ?_)
    obtain ⟨rfl, Nq30, hq30⟩ := z30; replace e30 := e30.trans hq30; have N := Fr.app N Nq30
    show OG p e below _ (T30.setTop (mkF m 44 #[.val (.int p1), .val (.int p2), .val (.int (97 : Int32)), .val (.int (97 : Int32)), .val (.ref w4)] [(.ref w4), (.ref w4)]))
    refine og_acmp_ne (pc1 := 51) (pc2 := 47) X30 hx rfl rfl (hb hby at_44) (by decide) (by decide) rfl (fun q => absurd rfl q) (fun _ => ?_)
    refine og_iconst (pc' := 48) (v := (1 : Int32)) X30 hx rfl (hb hby at_47) rfl ?_
    refine og_goto (pc' := 52) X30 hx (hb hby at_48) (by decide) (by decide) ?_
    refine og_retN X30 hx hlk hret (by simp) (hb hby at_52) (by decide) (by decide) ?_
    exact ⟨rfl, N⟩
  ·
    refine og_istoreN (pc' := 7) (L' := #[.val (.int p1), .val (.int p2), .val (.int dd), .unset, .unset]) X0 hx rfl (hb hby at_6) rfl ?_
    refine og_iloadN (pc' := 8) X0 hx rfl (hb hby at_7) rfl ?_
    refine og_static (pc' := 11) (cells' := 0) (slots' := 0) (W := 0) X0 hx hZ (rm1 l Z a0 hw dd 0 (by simp [hd1, hd2, hd3, hd4, hd5]) h0 n0 O) hown (ow0 hw) (ow1 hw) (ow2 hw) (ow3 hw) (by decide) (by rw [hml]; rfl) e0 opd_0 [(.int dd)] [] rfl rfl rfl rfl (by decide) (by decide) rfl rfl (by decide) (by decide) (hb hby at_8) rfl (fun v31 T31 h31 L31 X31 e31 z31 => ?_)
    obtain ⟨rfl, Nq31, hq31⟩ := z31; replace e31 := e31.trans hq31; have N := Fr.app N Nq31
    show OG p e below _ (T31.setTop (mkF m 11 #[.val (.int p1), .val (.int p2), .val (.int dd), .unset, .unset] [(.int (0 : Int32))]))
    refine og_if_eq (pc1 := 19) (pc2 := 14) X31 hx (hb hby at_11) (by decide) (by decide) rfl (fun _ => ?_) (fun q => absurd q (by decide))
    refine og_iloadN (pc' := 20) X31 hx rfl (hb hby at_19) rfl ?_
    refine og_ldc (pc' := 22) X31 hx hZ hown (ow4 hw) (hb hby at_20) rfl ?_
    refine og_iand (pc' := 23) X31 hx (hb hby at_22) rfl ?_
    refine og_iconst (pc' := 24) (v := (5 : Int32)) X31 hx rfl (hb hby at_23) rfl ?_
    refine og_irem (pc' := 25) X31 hx (by decide) (hb hby at_24) rfl ?_
    obtain ⟨ii, h_ii⟩ : ∃ z, z = ((p1 &&& (2147483647 : Int32)) % (5 : Int32)) := ⟨_, rfl⟩
    rw [← h_ii]
    rcases own_cases5 (h_ii ▸ own_rem p1 5 5 rfl (by decide)) with rfl | rfl | rfl | rfl | rfl
    · -- ii = 0
      refine og_static (pc' := 28) (cells' := 0) (slots' := 0) (W := 0) X31 hx hZ (rm2_0 l Z a0 hw h0 n0 O) hown (ow5 hw) (ow6 hw) (ow2 hw) (ow7 hw) (by decide) (by rw [hml]; rfl) e31 opd_9 [(.int (0 : Int32))] [] rfl rfl rfl rfl (by decide) (by decide) rfl rfl (by decide) (by decide) (hb hby at_25) rfl (fun v32 T32 h32 L32 X32 e32 z32 => ?_)
      obtain ⟨rfl, Nq32, hq32⟩ := z32; replace e32 := e32.trans hq32; have N := Fr.app N Nq32
      show OG p e below _ (T32.setTop (mkF m 28 #[.val (.int p1), .val (.int p2), .val (.int dd), .unset, .unset] [(.int (99 : Int32))]))
      refine og_istoreN (pc' := 29) (L' := #[.val (.int p1), .val (.int p2), .val (.int dd), .val (.int (99 : Int32)), .unset]) X32 hx rfl (hb hby at_28) rfl ?_
      refine og_iloadN (pc' := 30) X32 hx rfl (hb hby at_29) rfl ?_
      refine og_static (pc' := 33) (cells' := 2) (slots' := 5) (W := 0) X32 hx hZ (rm_vo l Z a0 hw (99 : Int32) (by decide) cs hcs h0 n0 O S_CS) hown (ow8 hw) (ow9 hw) (ow10 hw) (ow11 hw) (by decide) (by rw [hml]; rfl) e32 opd_5 [(.int (99 : Int32))] [] rfl rfl rfl rfl (by decide) (by decide) rfl rfl (by decide) (by decide) (hb hby at_30) rfl (fun v33 T33 h33 L33 X33 e33 z33 => ?_)
      obtain ⟨na33, nb33, k33, rfl, Nq33, K33, sa33, sb33, E_na33, F_value_na33, F_coder_na33, V_nb33⟩ := z33; have N := Fr.app N Nq33
      have s_na33 : h0.size ≤ na33 := sa33; have g_na33 : n0 ≤ na33 := Nat.le_trans (own_n0 O) s_na33; have sz_na33 : h0.size ≤ na33 := Nat.le_trans K.1 s_na33; have ne_w0_na33 : w0 ≠ na33 := O.ne E_w0.lt g_na33; have ne_w1_na33 : w1 ≠ na33 := O.ne E_w1.lt g_na33; have ne_w2_na33 : w2 ≠ na33 := O.ne E_w2.lt g_na33
      have ne_w3_na33 : w3 ≠ na33 := O.ne E_w3.lt g_na33; have ne_w4_na33 : w4 ≠ na33 := O.ne E_w4.lt g_na33; have ne_va_na33 : va ≠ na33 := O.ne E_va.lt g_na33
      have s_nb33 : h0.size ≤ nb33 := sb33; have g_nb33 : n0 ≤ nb33 := Nat.le_trans (own_n0 O) s_nb33; have sz_nb33 : h0.size ≤ nb33 := Nat.le_trans K.1 s_nb33; have ne_w0_nb33 : w0 ≠ nb33 := O.ne E_w0.lt g_nb33; have ne_w1_nb33 : w1 ≠ nb33 := O.ne E_w1.lt g_nb33; have ne_w2_nb33 : w2 ≠ nb33 := O.ne E_w2.lt g_nb33
      have ne_w3_nb33 : w3 ≠ nb33 := O.ne E_w3.lt g_nb33; have ne_w4_nb33 : w4 ≠ nb33 := O.ne E_w4.lt g_nb33; have ne_va_nb33 : va ≠ nb33 := O.ne E_va.lt g_nb33
      have O := O.keep K33 all0; have K := K.trans K33 all0
      have V_nb33 : Arv Z h33 nb33 k33 .byte 1 [(.int (99 : Int32))] (.int (0 : Int32)) := V_nb33
      have ne_na33_nb33 : na33 ≠ nb33 := fun q => own_strarr E_na33 V_nb33 (ow18 hw) q
      show OG p e below _ (T33.setTop (mkF m 33 #[.val (.int p1), .val (.int p2), .val (.int dd), .val (.int (99 : Int32)), .unset] [(.ref na33)]))
      refine og_static (pc' := 36) (cells' := 5) (slots' := 15) (W := 0) X33 hx hZ (rm8_0 l Z a0 hw na33 nb33 va w0 w1 w2 w3 w4 k33 kv cs hcs h33 n0 O E_na33 F_value_na33 F_coder_na33 V_nb33 S_CASCADE S_SET_NULL S_SET_DEFAULT S_RESTRICT S_NO_ACTION E_w0 E_w1 E_w2 E_w3 E_w4 F_w0 F_w1 F_w2 F_w3 F_w4 S_VALUES E_va V_va S_CS) hown (ow34 hw) (ow35 hw) (ow36 hw) (ow37 hw) (by decide) (by rw [hml]; rfl) e33 opd_7 [(.ref na33)] [] rfl rfl rfl rfl (by decide) (by decide) rfl rfl (by decide) (by decide) (hb hby at_33) rfl (fun v34 T34 h34 L34 X34 e34 z34 => ?_)
      obtain ⟨rfl, Nq34, K34⟩ := z34; have N := Fr.app N Nq34
      have E_na33 := E_na33.keep K34; have F_value_na33 := F_value_na33.keep K34 nin0; have F_coder_na33 := F_coder_na33.keep K34 nin0; have V_nb33 := V_nb33.keep K34 nin0; have O := O.keep K34 all0; have K := K.trans K34 all0
      show OG p e below _ (T34.setTop (mkF m 36 #[.val (.int p1), .val (.int p2), .val (.int dd), .val (.int (99 : Int32)), .unset] [(.ref w0)]))
      refine og_astore (pc' := 38) (L' := #[.val (.int p1), .val (.int p2), .val (.int dd), .val (.int (99 : Int32)), .val (.ref w0)]) X34 hx rfl rfl (hb hby at_36) rfl ?_
      refine og_aload (pc' := 40) X34 hx rfl rfl (hb hby at_38) rfl ?_
      refine og_iloadN (pc' := 41) X34 hx rfl (hb hby at_40) rfl ?_
      refine og_static (pc' := 44) (cells' := 5) (slots' := 15) (W := 1) X34 hx hZ (rm12_0 l Z a0 hw w0 w1 w2 w3 w4 h34 n0 O S_CASCADE S_SET_NULL S_SET_DEFAULT S_RESTRICT S_NO_ACTION) hown (ow69 hw) (ow70 hw) (ow2 hw) (ow71 hw) (by decide) (by rw [hml]; rfl) e34 opd_8 [(.int (99 : Int32))] [(.ref w0)] rfl rfl rfl rfl (by decide) (by decide) rfl rfl (by decide) (by decide) (hb hby at_41) rfl (fun v35 T35 h35 L35 X35 e35 z35 => ?_)
      obtain ⟨rfl, Nq35, hq35⟩ := z35; replace e35 := e35.trans hq35; have N := Fr.app N Nq35
      show OG p e below _ (T35.setTop (mkF m 44 #[.val (.int p1), .val (.int p2), .val (.int dd), .val (.int (99 : Int32)), .val (.ref w0)] [(.ref w0), (.ref w0)]))
      refine og_acmp_ne (pc1 := 51) (pc2 := 47) X35 hx rfl rfl (hb hby at_44) (by decide) (by decide) rfl (fun q => absurd rfl q) (fun _ => ?_)
      refine og_iconst (pc' := 48) (v := (1 : Int32)) X35 hx rfl (hb hby at_47) rfl ?_
      refine og_goto (pc' := 52) X35 hx (hb hby at_48) (by decide) (by decide) ?_
      refine og_retN X35 hx hlk hret (by simp) (hb hby at_52) (by decide) (by decide) ?_
      exact ⟨rfl, N⟩
    · -- ii = 1
      refine og_static (pc' := 28) (cells' := 0) (slots' := 0) (W := 0) X31 hx hZ (rm2_1 l Z a0 hw h0 n0 O) hown (ow5 hw) (ow6 hw) (ow2 hw) (ow7 hw) (by decide) (by rw [hml]; rfl) e31 opd_9 [(.int (1 : Int32))] [] rfl rfl rfl rfl (by decide) (by decide) rfl rfl (by decide) (by decide) (hb hby at_25) rfl (fun v36 T36 h36 L36 X36 e36 z36 => ?_)
      obtain ⟨rfl, Nq36, hq36⟩ := z36; replace e36 := e36.trans hq36; have N := Fr.app N Nq36
      show OG p e below _ (T36.setTop (mkF m 28 #[.val (.int p1), .val (.int p2), .val (.int dd), .unset, .unset] [(.int (110 : Int32))]))
      refine og_istoreN (pc' := 29) (L' := #[.val (.int p1), .val (.int p2), .val (.int dd), .val (.int (110 : Int32)), .unset]) X36 hx rfl (hb hby at_28) rfl ?_
      refine og_iloadN (pc' := 30) X36 hx rfl (hb hby at_29) rfl ?_
      refine og_static (pc' := 33) (cells' := 2) (slots' := 5) (W := 0) X36 hx hZ (rm_vo l Z a0 hw (110 : Int32) (by decide) cs hcs h0 n0 O S_CS) hown (ow8 hw) (ow9 hw) (ow10 hw) (ow11 hw) (by decide) (by rw [hml]; rfl) e36 opd_5 [(.int (110 : Int32))] [] rfl rfl rfl rfl (by decide) (by decide) rfl rfl (by decide) (by decide) (hb hby at_30) rfl (fun v37 T37 h37 L37 X37 e37 z37 => ?_)
      obtain ⟨na37, nb37, k37, rfl, Nq37, K37, sa37, sb37, E_na37, F_value_na37, F_coder_na37, V_nb37⟩ := z37; have N := Fr.app N Nq37
      have s_na37 : h0.size ≤ na37 := sa37; have g_na37 : n0 ≤ na37 := Nat.le_trans (own_n0 O) s_na37; have sz_na37 : h0.size ≤ na37 := Nat.le_trans K.1 s_na37; have ne_w0_na37 : w0 ≠ na37 := O.ne E_w0.lt g_na37; have ne_w1_na37 : w1 ≠ na37 := O.ne E_w1.lt g_na37; have ne_w2_na37 : w2 ≠ na37 := O.ne E_w2.lt g_na37
      have ne_w3_na37 : w3 ≠ na37 := O.ne E_w3.lt g_na37; have ne_w4_na37 : w4 ≠ na37 := O.ne E_w4.lt g_na37; have ne_va_na37 : va ≠ na37 := O.ne E_va.lt g_na37
      have s_nb37 : h0.size ≤ nb37 := sb37; have g_nb37 : n0 ≤ nb37 := Nat.le_trans (own_n0 O) s_nb37; have sz_nb37 : h0.size ≤ nb37 := Nat.le_trans K.1 s_nb37; have ne_w0_nb37 : w0 ≠ nb37 := O.ne E_w0.lt g_nb37; have ne_w1_nb37 : w1 ≠ nb37 := O.ne E_w1.lt g_nb37; have ne_w2_nb37 : w2 ≠ nb37 := O.ne E_w2.lt g_nb37
      have ne_w3_nb37 : w3 ≠ nb37 := O.ne E_w3.lt g_nb37; have ne_w4_nb37 : w4 ≠ nb37 := O.ne E_w4.lt g_nb37; have ne_va_nb37 : va ≠ nb37 := O.ne E_va.lt g_nb37
      have O := O.keep K37 all0; have K := K.trans K37 all0
      have V_nb37 : Arv Z h37 nb37 k37 .byte 1 [(.int (110 : Int32))] (.int (0 : Int32)) := V_nb37
      have ne_na37_nb37 : na37 ≠ nb37 := fun q => own_strarr E_na37 V_nb37 (ow18 hw) q
      show OG p e below _ (T37.setTop (mkF m 33 #[.val (.int p1), .val (.int p2), .val (.int dd), .val (.int (110 : Int32)), .unset] [(.ref na37)]))
      refine og_static (pc' := 36) (cells' := 7) (slots' := 20) (W := 0) X37 hx hZ (rm8_1 l Z a0 hw na37 nb37 va w0 w1 w2 w3 w4 k37 kv cs hcs h37 n0 O E_na37 F_value_na37 F_coder_na37 V_nb37 S_CASCADE S_SET_NULL S_SET_DEFAULT S_RESTRICT S_NO_ACTION E_w0 E_w1 E_w2 E_w3 E_w4 F_w0 F_w1 F_w2 F_w3 F_w4 S_VALUES E_va V_va S_CS) hown (ow34 hw) (ow35 hw) (ow36 hw) (ow37 hw) (by decide) (by rw [hml]; rfl) e37 opd_7 [(.ref na37)] [] rfl rfl rfl rfl (by decide) (by decide) rfl rfl (by decide) (by decide) (hb hby at_33) rfl (fun v38 T38 h38 L38 X38 e38 z38 => ?_)
      obtain ⟨rfl, Nq38, K38⟩ := z38; have N := Fr.app N Nq38
      have E_na37 := E_na37.keep K38; have F_value_na37 := F_value_na37.keep K38 nin0; have F_coder_na37 := F_coder_na37.keep K38 nin0; have V_nb37 := V_nb37.keep K38 nin0; have O := O.keep K38 all0; have K := K.trans K38 all0
      show OG p e below _ (T38.setTop (mkF m 36 #[.val (.int p1), .val (.int p2), .val (.int dd), .val (.int (110 : Int32)), .unset] [(.ref w1)]))
      refine og_astore (pc' := 38) (L' := #[.val (.int p1), .val (.int p2), .val (.int dd), .val (.int (110 : Int32)), .val (.ref w1)]) X38 hx rfl rfl (hb hby at_36) rfl ?_
      refine og_aload (pc' := 40) X38 hx rfl rfl (hb hby at_38) rfl ?_
      refine og_iloadN (pc' := 41) X38 hx rfl (hb hby at_40) rfl ?_
      refine og_static (pc' := 44) (cells' := 7) (slots' := 20) (W := 1) X38 hx hZ (rm12_1 l Z a0 hw w0 w1 w2 w3 w4 h38 n0 O S_CASCADE S_SET_NULL S_SET_DEFAULT S_RESTRICT S_NO_ACTION) hown (ow69 hw) (ow70 hw) (ow2 hw) (ow71 hw) (by decide) (by rw [hml]; rfl) e38 opd_8 [(.int (110 : Int32))] [(.ref w1)] rfl rfl rfl rfl (by decide) (by decide) rfl rfl (by decide) (by decide) (hb hby at_41) rfl (fun v39 T39 h39 L39 X39 e39 z39 => ?_)
      obtain ⟨rfl, Nq39, hq39⟩ := z39; replace e39 := e39.trans hq39; have N := Fr.app N Nq39
      show OG p e below _ (T39.setTop (mkF m 44 #[.val (.int p1), .val (.int p2), .val (.int dd), .val (.int (110 : Int32)), .val (.ref w1)] [(.ref w1), (.ref w1)]))
      refine og_acmp_ne (pc1 := 51) (pc2 := 47) X39 hx rfl rfl (hb hby at_44) (by decide) (by decide) rfl (fun q => absurd rfl q) (fun _ => ?_)
      refine og_iconst (pc' := 48) (v := (1 : Int32)) X39 hx rfl (hb hby at_47) rfl ?_
      refine og_goto (pc' := 52) X39 hx (hb hby at_48) (by decide) (by decide) ?_
      refine og_retN X39 hx hlk hret (by simp) (hb hby at_52) (by decide) (by decide) ?_
      exact ⟨rfl, N⟩
    · -- ii = 2
      refine og_static (pc' := 28) (cells' := 0) (slots' := 0) (W := 0) X31 hx hZ (rm2_2 l Z a0 hw h0 n0 O) hown (ow5 hw) (ow6 hw) (ow2 hw) (ow7 hw) (by decide) (by rw [hml]; rfl) e31 opd_9 [(.int (2 : Int32))] [] rfl rfl rfl rfl (by decide) (by decide) rfl rfl (by decide) (by decide) (hb hby at_25) rfl (fun v40 T40 h40 L40 X40 e40 z40 => ?_)
      obtain ⟨rfl, Nq40, hq40⟩ := z40; replace e40 := e40.trans hq40; have N := Fr.app N Nq40
      show OG p e below _ (T40.setTop (mkF m 28 #[.val (.int p1), .val (.int p2), .val (.int dd), .unset, .unset] [(.int (100 : Int32))]))
      refine og_istoreN (pc' := 29) (L' := #[.val (.int p1), .val (.int p2), .val (.int dd), .val (.int (100 : Int32)), .unset]) X40 hx rfl (hb hby at_28) rfl ?_
      refine og_iloadN (pc' := 30) X40 hx rfl (hb hby at_29) rfl ?_
      refine og_static (pc' := 33) (cells' := 2) (slots' := 5) (W := 0) X40 hx hZ (rm_vo l Z a0 hw (100 : Int32) (by decide) cs hcs h0 n0 O S_CS) hown (ow8 hw) (ow9 hw) (ow10 hw) (ow11 hw) (by decide) (by rw [hml]; rfl) e40 opd_5 [(.int (100 : Int32))] [] rfl rfl rfl rfl (by decide) (by decide) rfl rfl (by decide) (by decide) (hb hby at_30) rfl (fun v41 T41 h41 L41 X41 e41 z41 => ?_)
      obtain ⟨na41, nb41, k41, rfl, Nq41, K41, sa41, sb41, E_na41, F_value_na41, F_coder_na41, V_nb41⟩ := z41; have N := Fr.app N Nq41
      have s_na41 : h0.size ≤ na41 := sa41; have g_na41 : n0 ≤ na41 := Nat.le_trans (own_n0 O) s_na41; have sz_na41 : h0.size ≤ na41 := Nat.le_trans K.1 s_na41; have ne_w0_na41 : w0 ≠ na41 := O.ne E_w0.lt g_na41; have ne_w1_na41 : w1 ≠ na41 := O.ne E_w1.lt g_na41; have ne_w2_na41 : w2 ≠ na41 := O.ne E_w2.lt g_na41
      have ne_w3_na41 : w3 ≠ na41 := O.ne E_w3.lt g_na41; have ne_w4_na41 : w4 ≠ na41 := O.ne E_w4.lt g_na41; have ne_va_na41 : va ≠ na41 := O.ne E_va.lt g_na41
      have s_nb41 : h0.size ≤ nb41 := sb41; have g_nb41 : n0 ≤ nb41 := Nat.le_trans (own_n0 O) s_nb41; have sz_nb41 : h0.size ≤ nb41 := Nat.le_trans K.1 s_nb41; have ne_w0_nb41 : w0 ≠ nb41 := O.ne E_w0.lt g_nb41; have ne_w1_nb41 : w1 ≠ nb41 := O.ne E_w1.lt g_nb41; have ne_w2_nb41 : w2 ≠ nb41 := O.ne E_w2.lt g_nb41
      have ne_w3_nb41 : w3 ≠ nb41 := O.ne E_w3.lt g_nb41; have ne_w4_nb41 : w4 ≠ nb41 := O.ne E_w4.lt g_nb41; have ne_va_nb41 : va ≠ nb41 := O.ne E_va.lt g_nb41
      have O := O.keep K41 all0; have K := K.trans K41 all0
      have V_nb41 : Arv Z h41 nb41 k41 .byte 1 [(.int (100 : Int32))] (.int (0 : Int32)) := V_nb41
      have ne_na41_nb41 : na41 ≠ nb41 := fun q => own_strarr E_na41 V_nb41 (ow18 hw) q
      show OG p e below _ (T41.setTop (mkF m 33 #[.val (.int p1), .val (.int p2), .val (.int dd), .val (.int (100 : Int32)), .unset] [(.ref na41)]))
      refine og_static (pc' := 36) (cells' := 9) (slots' := 25) (W := 0) X41 hx hZ (rm8_2 l Z a0 hw na41 nb41 va w0 w1 w2 w3 w4 k41 kv cs hcs h41 n0 O E_na41 F_value_na41 F_coder_na41 V_nb41 S_CASCADE S_SET_NULL S_SET_DEFAULT S_RESTRICT S_NO_ACTION E_w0 E_w1 E_w2 E_w3 E_w4 F_w0 F_w1 F_w2 F_w3 F_w4 S_VALUES E_va V_va S_CS) hown (ow34 hw) (ow35 hw) (ow36 hw) (ow37 hw) (by decide) (by rw [hml]; rfl) e41 opd_7 [(.ref na41)] [] rfl rfl rfl rfl (by decide) (by decide) rfl rfl (by decide) (by decide) (hb hby at_33) rfl (fun v42 T42 h42 L42 X42 e42 z42 => ?_)
      obtain ⟨rfl, Nq42, K42⟩ := z42; have N := Fr.app N Nq42
      have E_na41 := E_na41.keep K42; have F_value_na41 := F_value_na41.keep K42 nin0; have F_coder_na41 := F_coder_na41.keep K42 nin0; have V_nb41 := V_nb41.keep K42 nin0; have O := O.keep K42 all0; have K := K.trans K42 all0
      show OG p e below _ (T42.setTop (mkF m 36 #[.val (.int p1), .val (.int p2), .val (.int dd), .val (.int (100 : Int32)), .unset] [(.ref w2)]))
      refine og_astore (pc' := 38) (L' := #[.val (.int p1), .val (.int p2), .val (.int dd), .val (.int (100 : Int32)), .val (.ref w2)]) X42 hx rfl rfl (hb hby at_36) rfl ?_
      refine og_aload (pc' := 40) X42 hx rfl rfl (hb hby at_38) rfl ?_
      refine og_iloadN (pc' := 41) X42 hx rfl (hb hby at_40) rfl ?_
      refine og_static (pc' := 44) (cells' := 9) (slots' := 25) (W := 1) X42 hx hZ (rm12_2 l Z a0 hw w0 w1 w2 w3 w4 h42 n0 O S_CASCADE S_SET_NULL S_SET_DEFAULT S_RESTRICT S_NO_ACTION) hown (ow69 hw) (ow70 hw) (ow2 hw) (ow71 hw) (by decide) (by rw [hml]; rfl) e42 opd_8 [(.int (100 : Int32))] [(.ref w2)] rfl rfl rfl rfl (by decide) (by decide) rfl rfl (by decide) (by decide) (hb hby at_41) rfl (fun v43 T43 h43 L43 X43 e43 z43 => ?_)
      obtain ⟨rfl, Nq43, hq43⟩ := z43; replace e43 := e43.trans hq43; have N := Fr.app N Nq43
      show OG p e below _ (T43.setTop (mkF m 44 #[.val (.int p1), .val (.int p2), .val (.int dd), .val (.int (100 : Int32)), .val (.ref w2)] [(.ref w2), (.ref w2)]))
      refine og_acmp_ne (pc1 := 51) (pc2 := 47) X43 hx rfl rfl (hb hby at_44) (by decide) (by decide) rfl (fun q => absurd rfl q) (fun _ => ?_)
      refine og_iconst (pc' := 48) (v := (1 : Int32)) X43 hx rfl (hb hby at_47) rfl ?_
      refine og_goto (pc' := 52) X43 hx (hb hby at_48) (by decide) (by decide) ?_
      refine og_retN X43 hx hlk hret (by simp) (hb hby at_52) (by decide) (by decide) ?_
      exact ⟨rfl, N⟩
    · -- ii = 3
      refine og_static (pc' := 28) (cells' := 0) (slots' := 0) (W := 0) X31 hx hZ (rm2_3 l Z a0 hw h0 n0 O) hown (ow5 hw) (ow6 hw) (ow2 hw) (ow7 hw) (by decide) (by rw [hml]; rfl) e31 opd_9 [(.int (3 : Int32))] [] rfl rfl rfl rfl (by decide) (by decide) rfl rfl (by decide) (by decide) (hb hby at_25) rfl (fun v44 T44 h44 L44 X44 e44 z44 => ?_)
      obtain ⟨rfl, Nq44, hq44⟩ := z44; replace e44 := e44.trans hq44; have N := Fr.app N Nq44
      show OG p e below _ (T44.setTop (mkF m 28 #[.val (.int p1), .val (.int p2), .val (.int dd), .unset, .unset] [(.int (114 : Int32))]))
      refine og_istoreN (pc' := 29) (L' := #[.val (.int p1), .val (.int p2), .val (.int dd), .val (.int (114 : Int32)), .unset]) X44 hx rfl (hb hby at_28) rfl ?_
      refine og_iloadN (pc' := 30) X44 hx rfl (hb hby at_29) rfl ?_
      refine og_static (pc' := 33) (cells' := 2) (slots' := 5) (W := 0) X44 hx hZ (rm_vo l Z a0 hw (114 : Int32) (by decide) cs hcs h0 n0 O S_CS) hown (ow8 hw) (ow9 hw) (ow10 hw) (ow11 hw) (by decide) (by rw [hml]; rfl) e44 opd_5 [(.int (114 : Int32))] [] rfl rfl rfl rfl (by decide) (by decide) rfl rfl (by decide) (by decide) (hb hby at_30) rfl (fun v45 T45 h45 L45 X45 e45 z45 => ?_)
      obtain ⟨na45, nb45, k45, rfl, Nq45, K45, sa45, sb45, E_na45, F_value_na45, F_coder_na45, V_nb45⟩ := z45; have N := Fr.app N Nq45
      have s_na45 : h0.size ≤ na45 := sa45; have g_na45 : n0 ≤ na45 := Nat.le_trans (own_n0 O) s_na45; have sz_na45 : h0.size ≤ na45 := Nat.le_trans K.1 s_na45; have ne_w0_na45 : w0 ≠ na45 := O.ne E_w0.lt g_na45; have ne_w1_na45 : w1 ≠ na45 := O.ne E_w1.lt g_na45; have ne_w2_na45 : w2 ≠ na45 := O.ne E_w2.lt g_na45
      have ne_w3_na45 : w3 ≠ na45 := O.ne E_w3.lt g_na45; have ne_w4_na45 : w4 ≠ na45 := O.ne E_w4.lt g_na45; have ne_va_na45 : va ≠ na45 := O.ne E_va.lt g_na45
      have s_nb45 : h0.size ≤ nb45 := sb45; have g_nb45 : n0 ≤ nb45 := Nat.le_trans (own_n0 O) s_nb45; have sz_nb45 : h0.size ≤ nb45 := Nat.le_trans K.1 s_nb45; have ne_w0_nb45 : w0 ≠ nb45 := O.ne E_w0.lt g_nb45; have ne_w1_nb45 : w1 ≠ nb45 := O.ne E_w1.lt g_nb45; have ne_w2_nb45 : w2 ≠ nb45 := O.ne E_w2.lt g_nb45
      have ne_w3_nb45 : w3 ≠ nb45 := O.ne E_w3.lt g_nb45; have ne_w4_nb45 : w4 ≠ nb45 := O.ne E_w4.lt g_nb45; have ne_va_nb45 : va ≠ nb45 := O.ne E_va.lt g_nb45
      have O := O.keep K45 all0; have K := K.trans K45 all0
      have V_nb45 : Arv Z h45 nb45 k45 .byte 1 [(.int (114 : Int32))] (.int (0 : Int32)) := V_nb45
      have ne_na45_nb45 : na45 ≠ nb45 := fun q => own_strarr E_na45 V_nb45 (ow18 hw) q
      show OG p e below _ (T45.setTop (mkF m 33 #[.val (.int p1), .val (.int p2), .val (.int dd), .val (.int (114 : Int32)), .unset] [(.ref na45)]))
      refine og_static (pc' := 36) (cells' := 11) (slots' := 30) (W := 0) X45 hx hZ (rm8_3 l Z a0 hw na45 nb45 va w0 w1 w2 w3 w4 k45 kv cs hcs h45 n0 O E_na45 F_value_na45 F_coder_na45 V_nb45 S_CASCADE S_SET_NULL S_SET_DEFAULT S_RESTRICT S_NO_ACTION E_w0 E_w1 E_w2 E_w3 E_w4 F_w0 F_w1 F_w2 F_w3 F_w4 S_VALUES E_va V_va S_CS) hown (ow34 hw) (ow35 hw) (ow36 hw) (ow37 hw) (by decide) (by rw [hml]; rfl) e45 opd_7 [(.ref na45)] [] rfl rfl rfl rfl (by decide) (by decide) rfl rfl (by decide) (by decide) (hb hby at_33) rfl (fun v46 T46 h46 L46 X46 e46 z46 => ?_)
      obtain ⟨rfl, Nq46, K46⟩ := z46; have N := Fr.app N Nq46
      have E_na45 := E_na45.keep K46; have F_value_na45 := F_value_na45.keep K46 nin0; have F_coder_na45 := F_coder_na45.keep K46 nin0; have V_nb45 := V_nb45.keep K46 nin0; have O := O.keep K46 all0; have K := K.trans K46 all0
      show OG p e below _ (T46.setTop (mkF m 36 #[.val (.int p1), .val (.int p2), .val (.int dd), .val (.int (114 : Int32)), .unset] [(.ref w3)]))
      refine og_astore (pc' := 38) (L' := #[.val (.int p1), .val (.int p2), .val (.int dd), .val (.int (114 : Int32)), .val (.ref w3)]) X46 hx rfl rfl (hb hby at_36) rfl ?_
      refine og_aload (pc' := 40) X46 hx rfl rfl (hb hby at_38) rfl ?_
      refine og_iloadN (pc' := 41) X46 hx rfl (hb hby at_40) rfl ?_
      refine og_static (pc' := 44) (cells' := 11) (slots' := 30) (W := 1) X46 hx hZ (rm12_3 l Z a0 hw w0 w1 w2 w3 w4 h46 n0 O S_CASCADE S_SET_NULL S_SET_DEFAULT S_RESTRICT S_NO_ACTION) hown (ow69 hw) (ow70 hw) (ow2 hw) (ow71 hw) (by decide) (by rw [hml]; rfl) e46 opd_8 [(.int (114 : Int32))] [(.ref w3)] rfl rfl rfl rfl (by decide) (by decide) rfl rfl (by decide) (by decide) (hb hby at_41) rfl (fun v47 T47 h47 L47 X47 e47 z47 => ?_)
      obtain ⟨rfl, Nq47, hq47⟩ := z47; replace e47 := e47.trans hq47; have N := Fr.app N Nq47
      show OG p e below _ (T47.setTop (mkF m 44 #[.val (.int p1), .val (.int p2), .val (.int dd), .val (.int (114 : Int32)), .val (.ref w3)] [(.ref w3), (.ref w3)]))
      refine og_acmp_ne (pc1 := 51) (pc2 := 47) X47 hx rfl rfl (hb hby at_44) (by decide) (by decide) rfl (fun q => absurd rfl q) (fun _ => ?_)
      refine og_iconst (pc' := 48) (v := (1 : Int32)) X47 hx rfl (hb hby at_47) rfl ?_
      refine og_goto (pc' := 52) X47 hx (hb hby at_48) (by decide) (by decide) ?_
      refine og_retN X47 hx hlk hret (by simp) (hb hby at_52) (by decide) (by decide) ?_
      exact ⟨rfl, N⟩
    · -- ii = 4
      refine og_static (pc' := 28) (cells' := 0) (slots' := 0) (W := 0) X31 hx hZ (rm2_4 l Z a0 hw h0 n0 O) hown (ow5 hw) (ow6 hw) (ow2 hw) (ow7 hw) (by decide) (by rw [hml]; rfl) e31 opd_9 [(.int (4 : Int32))] [] rfl rfl rfl rfl (by decide) (by decide) rfl rfl (by decide) (by decide) (hb hby at_25) rfl (fun v48 T48 h48 L48 X48 e48 z48 => ?_)
      obtain ⟨rfl, Nq48, hq48⟩ := z48; replace e48 := e48.trans hq48; have N := Fr.app N Nq48
      show OG p e below _ (T48.setTop (mkF m 28 #[.val (.int p1), .val (.int p2), .val (.int dd), .unset, .unset] [(.int (97 : Int32))]))
      refine og_istoreN (pc' := 29) (L' := #[.val (.int p1), .val (.int p2), .val (.int dd), .val (.int (97 : Int32)), .unset]) X48 hx rfl (hb hby at_28) rfl ?_
      refine og_iloadN (pc' := 30) X48 hx rfl (hb hby at_29) rfl ?_
      refine og_static (pc' := 33) (cells' := 2) (slots' := 5) (W := 0) X48 hx hZ (rm_vo l Z a0 hw (97 : Int32) (by decide) cs hcs h0 n0 O S_CS) hown (ow8 hw) (ow9 hw) (ow10 hw) (ow11 hw) (by decide) (by rw [hml]; rfl) e48 opd_5 [(.int (97 : Int32))] [] rfl rfl rfl rfl (by decide) (by decide) rfl rfl (by decide) (by decide) (hb hby at_30) rfl (fun v49 T49 h49 L49 X49 e49 z49 => ?_)
      obtain ⟨na49, nb49, k49, rfl, Nq49, K49, sa49, sb49, E_na49, F_value_na49, F_coder_na49, V_nb49⟩ := z49; have N := Fr.app N Nq49
      have s_na49 : h0.size ≤ na49 := sa49; have g_na49 : n0 ≤ na49 := Nat.le_trans (own_n0 O) s_na49; have sz_na49 : h0.size ≤ na49 := Nat.le_trans K.1 s_na49; have ne_w0_na49 : w0 ≠ na49 := O.ne E_w0.lt g_na49; have ne_w1_na49 : w1 ≠ na49 := O.ne E_w1.lt g_na49; have ne_w2_na49 : w2 ≠ na49 := O.ne E_w2.lt g_na49
      have ne_w3_na49 : w3 ≠ na49 := O.ne E_w3.lt g_na49; have ne_w4_na49 : w4 ≠ na49 := O.ne E_w4.lt g_na49; have ne_va_na49 : va ≠ na49 := O.ne E_va.lt g_na49
      have s_nb49 : h0.size ≤ nb49 := sb49; have g_nb49 : n0 ≤ nb49 := Nat.le_trans (own_n0 O) s_nb49; have sz_nb49 : h0.size ≤ nb49 := Nat.le_trans K.1 s_nb49; have ne_w0_nb49 : w0 ≠ nb49 := O.ne E_w0.lt g_nb49; have ne_w1_nb49 : w1 ≠ nb49 := O.ne E_w1.lt g_nb49; have ne_w2_nb49 : w2 ≠ nb49 := O.ne E_w2.lt g_nb49
      have ne_w3_nb49 : w3 ≠ nb49 := O.ne E_w3.lt g_nb49; have ne_w4_nb49 : w4 ≠ nb49 := O.ne E_w4.lt g_nb49; have ne_va_nb49 : va ≠ nb49 := O.ne E_va.lt g_nb49
      have O := O.keep K49 all0; have K := K.trans K49 all0
      have V_nb49 : Arv Z h49 nb49 k49 .byte 1 [(.int (97 : Int32))] (.int (0 : Int32)) := V_nb49
      have ne_na49_nb49 : na49 ≠ nb49 := fun q => own_strarr E_na49 V_nb49 (ow18 hw) q
      show OG p e below _ (T49.setTop (mkF m 33 #[.val (.int p1), .val (.int p2), .val (.int dd), .val (.int (97 : Int32)), .unset] [(.ref na49)]))
      refine og_static (pc' := 36) (cells' := 13) (slots' := 35) (W := 0) X49 hx hZ (rm8_4 l Z a0 hw na49 nb49 va w0 w1 w2 w3 w4 k49 kv cs hcs h49 n0 O E_na49 F_value_na49 F_coder_na49 V_nb49 S_CASCADE S_SET_NULL S_SET_DEFAULT S_RESTRICT S_NO_ACTION E_w0 E_w1 E_w2 E_w3 E_w4 F_w0 F_w1 F_w2 F_w3 F_w4 S_VALUES E_va V_va S_CS) hown (ow34 hw) (ow35 hw) (ow36 hw) (ow37 hw) (by decide) (by rw [hml]; rfl) e49 opd_7 [(.ref na49)] [] rfl rfl rfl rfl (by decide) (by decide) rfl rfl (by decide) (by decide) (hb hby at_33) rfl (fun v50 T50 h50 L50 X50 e50 z50 => ?_)
      obtain ⟨rfl, Nq50, K50⟩ := z50; have N := Fr.app N Nq50
      have E_na49 := E_na49.keep K50; have F_value_na49 := F_value_na49.keep K50 nin0; have F_coder_na49 := F_coder_na49.keep K50 nin0; have V_nb49 := V_nb49.keep K50 nin0; have O := O.keep K50 all0; have K := K.trans K50 all0
      show OG p e below _ (T50.setTop (mkF m 36 #[.val (.int p1), .val (.int p2), .val (.int dd), .val (.int (97 : Int32)), .unset] [(.ref w4)]))
      refine og_astore (pc' := 38) (L' := #[.val (.int p1), .val (.int p2), .val (.int dd), .val (.int (97 : Int32)), .val (.ref w4)]) X50 hx rfl rfl (hb hby at_36) rfl ?_
      refine og_aload (pc' := 40) X50 hx rfl rfl (hb hby at_38) rfl ?_
      refine og_iloadN (pc' := 41) X50 hx rfl (hb hby at_40) rfl ?_
      refine og_static (pc' := 44) (cells' := 13) (slots' := 35) (W := 1) X50 hx hZ (rm12_4 l Z a0 hw w0 w1 w2 w3 w4 h50 n0 O S_CASCADE S_SET_NULL S_SET_DEFAULT S_RESTRICT S_NO_ACTION) hown (ow69 hw) (ow70 hw) (ow2 hw) (ow71 hw) (by decide) (by rw [hml]; rfl) e50 opd_8 [(.int (97 : Int32))] [(.ref w4)] rfl rfl rfl rfl (by decide) (by decide) rfl rfl (by decide) (by decide) (hb hby at_41) rfl (fun v51 T51 h51 L51 X51 e51 z51 => ?_)
      obtain ⟨rfl, Nq51, hq51⟩ := z51; replace e51 := e51.trans hq51; have N := Fr.app N Nq51
      show OG p e below _ (T51.setTop (mkF m 44 #[.val (.int p1), .val (.int p2), .val (.int dd), .val (.int (97 : Int32)), .val (.ref w4)] [(.ref w4), (.ref w4)]))
      refine og_acmp_ne (pc1 := 51) (pc2 := 47) X51 hx rfl rfl (hb hby at_44) (by decide) (by decide) rfl (fun q => absurd rfl q) (fun _ => ?_)
      refine og_iconst (pc' := 48) (v := (1 : Int32)) X51 hx rfl (hb hby at_47) rfl ?_
      refine og_goto (pc' := 52) X51 hx (hb hby at_48) (by decide) (by decide) ?_
      refine og_retN X51 hx hlk hret (by simp) (hb hby at_52) (by decide) (by decide) ?_
      exact ⟨rfl, N⟩
set_option maxRecDepth 65536 in
set_option maxHeartbeats 40000000 in
theorem comes_1 {Post : Tables → Env → Array Value → State → Outcome → State → Prop} (hpost : ∀ tb e args s v u, (limb_1_1.after args s (.returned v) u = true ∧ limb_1_2.after args s (.returned v) u = true ∧ True) → FrameEnd s (.returned v) u (Jvm.fieldLocs frame_1_writes args s ++ Jvm.arrayLocs frame_1_arrays args s ++ Jvm.staticLocs frame_1_statics s) 40 192 → Post tb e args s (.returned v) u) :
    ArmFor flags0 classFile x code maxLocals ret World_1 tables_1 room_1 Calls_1 rest_1 Pre_1 Post := by
  intro l hfl _ _ p e ha hc hk s m args below hf hA hF happ hP
  obtain ⟨hcalls, hrest, hpre⟩ := hP
  obtain ⟨-, -, -, hnamed, -, -, -, hat⟩ := (Spec.applies_iff hf).mp happ
  obtain ⟨hg, hn⟩ := and_e (Cond.before_iff.mp (show (Jvm.Cond.and given_1 narrow_1).before args s = true from hpre))
  obtain ⟨g2, g3⟩ := and_e hg
  obtain ⟨g4, g5⟩ := and_e g3
  obtain ⟨w0, w1, rfl⟩ : ∃ w0 w1 : Value, args = #[w0, w1] := by
    have hs : args.size = 2 := by simpa [Cond.value, given_1] using g2
    obtain ⟨L⟩ := args
    match L, hs with
    | [w0, w1], _ => exact ⟨w0, w1, rfl⟩
  have hw := fun d (hd : d ∈ tables_1) => atoms_spec (ws := Jvm.Cond.code x code maxLocals ret :: tables_1) hat d (List.mem_cons_of_mem _ hd)
  have hfit : Fit s := fun {y c} hc i hi => by
    obtain ⟨ha, rfl⟩ := Array.getElem?_eq_some_iff.mp hc
    have q := List.all_eq_true.mp ((Array.all_eq_true_iff_forall_mem.mp hF) _ (Array.getElem_mem ha)) i (List.mem_range.mpr hi)
    simpa [Array.getElem?_eq_getElem hi] using q
  obtain ⟨hsets, hown0⟩ := atoms_of _ (rest_1_c_eq ▸ (show rest_1_c.before _ s = true from hrest))
  obtain ⟨i0, ei0⟩ := is_v g4
  obtain rfl : w0 = (.int i0) := Option.some.inj ei0
  obtain ⟨i1, ei1⟩ := is_v g5
  obtain rfl : w1 = (.int i1) := Option.some.inj ei1
  obtain ⟨hnl, hnr⟩ := and_e hn
  obtain ⟨hnrl, hnrr⟩ := and_e hnr
  obtain ⟨hnrrl, hnrrr⟩ := and_e hnrr
  obtain ⟨hnrrrl, hnrrrr⟩ := and_e hnrrr
  obtain ⟨hnrrrrl, hnrrrrr⟩ := and_e hnrrrr
  obtain ⟨hnrrrrrl, hnrrrrrr⟩ := and_e hnrrrrr
  obtain ⟨hnrrrrrrl, hnrrrrrrr⟩ := and_e hnrrrrrr
  obtain ⟨hnrrrrrrrl, hnrrrrrrrr⟩ := and_e hnrrrrrrr
  obtain ⟨hnrrrrrrrrl, hnrrrrrrrrr⟩ := and_e hnrrrrrrrr
  obtain ⟨hnrrrrrrrrrl, hnrrrrrrrrrr⟩ := and_e hnrrrrrrrrr
  obtain ⟨hnrrrrrrrrrrl, hnrrrrrrrrrrr⟩ := and_e hnrrrrrrrrrr
  obtain ⟨hnrrrrrrrrrrrl, hnrrrrrrrrrrrr⟩ := and_e hnrrrrrrrrrrr
  obtain ⟨hnrrrrrrrrrrrrl, hnrrrrrrrrrrrrr⟩ := and_e hnrrrrrrrrrrrr
  obtain ⟨hnrrrrrrrrrrrrrl, hnrrrrrrrrrrrrrr⟩ := and_e hnrrrrrrrrrrrrr
  obtain ⟨hnrrrrrrrrrrrrrrl, hnrrrrrrrrrrrrrrr⟩ := and_e hnrrrrrrrrrrrrrr
  obtain ⟨hnrrrrrrrrrrrrrrrl, hnrrrrrrrrrrrrrrrr⟩ := and_e hnrrrrrrrrrrrrrrr
  obtain ⟨hnrrrrrrrrrrrrrrrrl, hnrrrrrrrrrrrrrrrrr⟩ := and_e hnrrrrrrrrrrrrrrrr
  obtain ⟨va, ev_va⟩ := exa_v hnrl
  have E_va := Exa.start ev_va hnrl
  have S_VALUES := Sta.start ev_va (Or.inr ⟨(ow36 hw), (ow42 hw)⟩)
  obtain ⟨w0, ev_w0⟩ := exa_v hnrrrl
  have E_w0 := Exa.start ev_w0 hnrrrl
  have S_CASCADE := Sta.start ev_w0 (Or.inr ⟨(ow36 hw), (ow50 hw)⟩)
  obtain ⟨w1, ev_w1⟩ := exa_v hnrrrrrl
  have E_w1 := Exa.start ev_w1 hnrrrrrl
  have S_SET_NULL := Sta.start ev_w1 (Or.inr ⟨(ow36 hw), (ow51 hw)⟩)
  obtain ⟨w2, ev_w2⟩ := exa_v hnrrrrrrrl
  have E_w2 := Exa.start ev_w2 hnrrrrrrrl
  have S_SET_DEFAULT := Sta.start ev_w2 (Or.inr ⟨(ow36 hw), (ow52 hw)⟩)
  obtain ⟨w3, ev_w3⟩ := exa_v hnrrrrrrrrrl
  have E_w3 := Exa.start ev_w3 hnrrrrrrrrrl
  have S_RESTRICT := Sta.start ev_w3 (Or.inr ⟨(ow36 hw), (ow53 hw)⟩)
  obtain ⟨w4, ev_w4⟩ := exa_v hnrrrrrrrrrrrl
  have E_w4 := Exa.start ev_w4 hnrrrrrrrrrrrl
  have S_NO_ACTION := Sta.start ev_w4 (Or.inr ⟨(ow36 hw), (ow54 hw)⟩)
  have F_w0 := own_fldstart ev_w0 (own_eqint hnrrrrrrrrrrrrrl)
  have F_w1 := own_fldstart ev_w1 (own_eqint hnrrrrrrrrrrrrrrl)
  have F_w2 := own_fldstart ev_w2 (own_eqint hnrrrrrrrrrrrrrrrl)
  have F_w3 := own_fldstart ev_w3 (own_eqint hnrrrrrrrrrrrrrrrrl)
  have F_w4 := own_fldstart ev_w4 (own_eqint hnrrrrrrrrrrrrrrrrr)
  obtain ⟨cv, Ar_va⟩ := Arr.start ev_va hnl
  have V_va := own_arvstart hfit ev_va Ar_va (own_eqint hnrrl) (vs := [(.ref w0), (.ref w1), (.ref w2), (.ref w3), (.ref w4)]) (dv := .null) (by decide) rfl ⟨own_elem ev_va Ar_va ev_w0 hnrrrrl rfl, own_elem ev_va Ar_va ev_w1 hnrrrrrrl rfl, own_elem ev_va Ar_va ev_w2 hnrrrrrrrrl rfl, own_elem ev_va Ar_va ev_w3 hnrrrrrrrrrrl rfl, own_elem ev_va Ar_va ev_w4 hnrrrrrrrrrrrrl rfl, trivial⟩
  obtain ⟨cs, ecs⟩ := is_v (Cond.before_iff.mp (hsets _ (List.mem_of_getElem? (i := 1) rfl)))
  have S_CS := Sta.start ecs (Or.inl (hsets _ (List.mem_of_getElem? (i := 0) rfl)))
  have hcs : ¬ cs = 0 := own_ne0 ecs (Cond.before_iff.mp (hsets _ (List.mem_of_getElem? (i := 2) rfl)))
  obtain ⟨n, o, h1, h2, h3, _, L, rfl, ⟨rfl, N⟩, hq⟩ := rm0 l s _ hw tables_1 i0 i1 va w0 w1 w2 w3 w4 cv.cls cs hcs s.heap s.heap.size (Old.start s) S_CASCADE S_SET_NULL S_SET_DEFAULT S_RESTRICT S_NO_ACTION E_w0 E_w1 E_w2 E_w3 E_w4 F_w0 F_w1 F_w2 F_w3 F_w4 S_VALUES E_va V_va S_CS p e ha hc hk s m _ below hf ((Spec.applies_iff_loose hf).mp happ).1 ⟨rfl, State.Warmed39.refl s, rfl⟩ trivial
  refine ⟨n, _, h1, h2, h3, hpost _ _ _ _ _ _ ⟨Cond.after_iff.mpr rfl, Cond.after_iff.mpr (eq_i res_at (Term.int_eval (1)) rfl), trivial⟩ ⟨hq.1, hq.2.1, (hq.2.2.sift fun y hy => Or.inr (N y hy)).mono (by decide) (by decide)⟩⟩
theorem main_1_1 : Claimed_1_1 := comes_1 fun _ _ _ _ _ _ h hF => ⟨h.1, hF⟩
theorem main_1_2 : Claimed_1_2 := comes_1 fun _ _ _ _ _ _ h hF => ⟨h.2.1, hF⟩
end Jvm.Pilot.@@N@@
namespace Jvm.Pilot.@@N@@
open Jvm Jvm.ClassFile Sem Op Lib Jvm.Free Jvm.Stand Jvm.Pilot.@@N@@.Jvm.D
/-! MADE BY PROGRAM (witnessworld.py) out of the Statement's table words and the real class files: 19 classes; the members and pool entries that the words name. The judged class is class 1, her method 1. -/
namespace start1
open Jvm.ClassFile
def u (s : String) : CpInfo := .utf8 (stringToUtf16 s)
/-- a pool by its gaps: so many unusable entries, then the entry; so many at the end -/
def gap : Nat → List CpInfo → List CpInfo
  | 0, r => r
  | n + 1, r => .unusable :: gap n r
def poolList (es : List (Nat × CpInfo)) (last : Nat) : List CpInfo := es.foldr (fun e r => gap e.1 (e.2 :: r)) (gap last [])
def pool (es : List (Nat × CpInfo)) (last : Nat) : Array CpInfo := ⟨poolList es last⟩
def fileOf (pool : Array CpInfo) (this : Nat) (attrs : Array Attribute := #[]) (ms : Array MethodInfo := #[]) (fl : Nat := 33) (sup : Nat := 0) (ifs : Array Nat := #[]) (fds : Array FieldInfo := #[]) : ClassFile where
  minorVersion := 0
  majorVersion := 65
  constantPool := pool
  accessFlags := fl
  thisClass := this
  superClass := sup
  interfaces := ifs
  fields := fds
  methods := ms
  attributes := attrs
def plain (name : String) (sup : Option ClassId) : Class where
  name := name
  kind := .ordinary
  loader := none
  accessFlags := 33
  super := sup
  interfaces := #[]
  cf := none
  fields := #[]
  methods := #[]
  instanceTypes := #[]
  staticTypes := #[]
  resolved := #[]
  callSites := []
  init := .initialized
  statics := none
  mirror := none

def pool0 : Array CpInfo := pool [(5, u "<init>"), (0, u "()V"), (1, .class_ 10), (1, u "java/lang/Object"), (85, u "clone"), (0, u "()Ljava/lang/Object;")] 26

def k0c0 : Code := { maxStack := 0, maxLocals := 1, code := object_method_1_code, exceptionTable := #[], attributes := #[] }
def k0m0 : Method := { name := "<init>", desc := "()V", sig := { parameters := [], returnType := none }, accessFlags := 1, code := some k0c0 }
def k0m1 : Method := { name := "clone", desc := "()Ljava/lang/Object;", sig := { parameters := [], returnType := some (.object "java/lang/Object") }, accessFlags := 260, code := none }
/-- java/lang/Object -/
def k0 : Class := { plain "java/lang/Object" none with
  accessFlags := 33
  interfaces := #[]
  cf := some (fileOf pool0 8 #[] #[{ accessFlags := 1, nameIndex := 5, descriptorIndex := 6, attributes := #[] }, { accessFlags := 260, nameIndex := 96, descriptorIndex := 97, attributes := #[] }] 33 0 #[] #[])
  fields := #[]
  methods := #[k0m0, k0m1]
  instanceTypes := #[]
  staticTypes := #[]
  resolved := Array.replicate 124 none
  statics := none }

def pool1 : Array CpInfo := pool [(2, .class_ 4), (1, u "java/lang/Object"), (0, u "<init>"), (0, u "()V"), (0, .methodref 8 9), (0, .class_ 10), (0, .nameAndType 11 12), (0, u "com/example/tombstone/tombstone/postgres/ActionFromCatalogPinLaw"), (0, u "isCode"), (0, u "(C)Z"), (0, .integer 2147483647), (0, .methodref 8 15), (0, .nameAndType 16 17), (0, u "codeAt"), (0, u "(I)C"), (0, .methodref 19 20), (0, .class_ 21), (0, .nameAndType 22 23), (0, u "java/lang/String"), (0, u "valueOf"), (0, u "(C)Ljava/lang/String;"), (0, .methodref 25 26), (0, .class_ 27), (0, .nameAndType 28 29), (0, u "com/example/tombstone/tombstone/postgres/ForeignKey$Action"), (0, u "fromCatalog"), (0, u "(Ljava/lang/String;)Lcom/example/tombstone/tombstone/postgres/ForeignKey$Action;"), (0, .methodref 8 31), (0, .nameAndType 32 33), (0, u "expected"), (0, u "(C)Lcom/example/tombstone/tombstone/postgres/ForeignKey$Action;"), (0, .fieldref 25 35), (0, .nameAndType 36 37), (0, u "CASCADE"), (0, u "Lcom/example/tombstone/tombstone/postgres/ForeignKey$Action;"), (0, .fieldref 25 39), (0, .nameAndType 40 37), (0, u "SET_NULL"), (0, .fieldref 25 42), (0, .nameAndType 43 37), (0, u "SET_DEFAULT"), (0, .fieldref 25 45), (0, .nameAndType 46 37), (0, u "RESTRICT"), (0, .fieldref 25 48), (0, .nameAndType 49 37), (0, u "NO_ACTION"), (2, u "law"), (0, u "(II)Z")] 7

def k1m0 : Method := { name := "<init>", desc := "()V", sig := { parameters := [], returnType := none }, accessFlags := 2, code := none }
def k1c1 : Code := { maxStack := 2, maxLocals := 5, code := code, exceptionTable := #[], attributes := #[] }
def k1m1 : Method := { name := "law", desc := "(II)Z", sig := { parameters := [.int, .int], returnType := some .boolean }, accessFlags := 9, code := some k1c1 }
def k1c2 : Code := { maxStack := 2, maxLocals := 1, code := method_3_code, exceptionTable := #[], attributes := #[] }
def k1m2 : Method := { name := "isCode", desc := "(C)Z", sig := { parameters := [.char], returnType := some .boolean }, accessFlags := 10, code := some k1c2 }
def k1c3 : Code := { maxStack := 2, maxLocals := 1, code := method_4_code, exceptionTable := #[], attributes := #[] }
def k1m3 : Method := { name := "codeAt", desc := "(I)C", sig := { parameters := [.int], returnType := some .char }, accessFlags := 10, code := some k1c3 }
def k1c4 : Code := { maxStack := 2, maxLocals := 1, code := method_5_code, exceptionTable := #[], attributes := #[] }
def k1m4 : Method := { name := "expected", desc := "(C)Lcom/example/tombstone/tombstone/postgres/ForeignKey$Action;", sig := { parameters := [.char], returnType := some (.object "com/example/tombstone/tombstone/postgres/ForeignKey$Action") }, accessFlags := 10, code := some k1c4 }
/-- com/example/tombstone/tombstone/postgres/ActionFromCatalogPinLaw -/
def k1 : Class := { plain "com/example/tombstone/tombstone/postgres/ActionFromCatalogPinLaw" (some 0) with
  accessFlags := 49
  interfaces := #[]
  cf := some (fileOf pool1 8 #[] #[{ accessFlags := 2, nameIndex := 5, descriptorIndex := 6, attributes := #[] }, { accessFlags := 9, nameIndex := 52, descriptorIndex := 53, attributes := #[] }, { accessFlags := 10, nameIndex := 11, descriptorIndex := 12, attributes := #[] }, { accessFlags := 10, nameIndex := 16, descriptorIndex := 17, attributes := #[] }, { accessFlags := 10, nameIndex := 32, descriptorIndex := 33, attributes := #[] }] 49 2 #[] #[])
  fields := #[]
  methods := #[k1m0, k1m1, k1m2, k1m3, k1m4]
  instanceTypes := #[]
  staticTypes := #[]
  resolved := Array.replicate 61 none
  statics := none }

def pool2 : Array CpInfo := pool [(1, .class_ 2), (0, u "java/io/Serializable"), (0, .class_ 4), (0, u "java/lang/Object")] 2

/-- java/io/Serializable -/
def k2 : Class := { plain "java/io/Serializable" (some 0) with
  accessFlags := 1537
  interfaces := #[]
  cf := some (fileOf pool2 1 #[] #[] 1537 3 #[] #[])
  fields := #[]
  methods := #[]
  instanceTypes := #[]
  staticTypes := #[]
  resolved := Array.replicate 7 none
  statics := none }

def pool3 : Array CpInfo := pool [(1, .class_ 2), (0, u "java/lang/Comparable"), (0, .class_ 4), (0, u "java/lang/Object")] 7

/-- java/lang/Comparable -/
def k3 : Class := { plain "java/lang/Comparable" (some 0) with
  accessFlags := 1537
  interfaces := #[]
  cf := some (fileOf pool3 1 #[] #[] 1537 3 #[] #[])
  fields := #[]
  methods := #[]
  instanceTypes := #[]
  staticTypes := #[]
  resolved := Array.replicate 12 none
  statics := none }

def pool4 : Array CpInfo := pool [(2, .class_ 4), (1, u "java/lang/CharSequence"), (42, .class_ 48), (0, u "java/lang/CharSequence$1CodePointIterator"), (10, .class_ 60), (0, u "java/lang/CharSequence$1CharIterator"), (5, .class_ 67), (0, u "java/lang/Object")] 63

/-- java/lang/CharSequence -/
def k4 : Class := { plain "java/lang/CharSequence" (some 0) with
  accessFlags := 1537
  interfaces := #[]
  cf := some (fileOf pool4 2 #[.nestMembers #[47, 59]] #[] 1537 66 #[] #[])
  fields := #[]
  methods := #[]
  instanceTypes := #[]
  staticTypes := #[]
  resolved := Array.replicate 131 none
  statics := none }

def pool5 : Array CpInfo := pool [(1, .class_ 2), (0, u "java/lang/constant/Constable"), (0, .class_ 4), (0, u "java/lang/Object")] 6

/-- java/lang/constant/Constable -/
def k5 : Class := { plain "java/lang/constant/Constable" (some 0) with
  accessFlags := 1537
  interfaces := #[]
  cf := some (fileOf pool5 1 #[] #[] 1537 3 #[] #[])
  fields := #[]
  methods := #[]
  instanceTypes := #[]
  staticTypes := #[]
  resolved := Array.replicate 11 none
  statics := none }

def pool6 : Array CpInfo := pool [(1, .class_ 2), (0, u "java/lang/constant/ConstantDesc"), (0, .class_ 4), (0, u "java/lang/Object")] 32

/-- java/lang/constant/ConstantDesc -/
def k6 : Class := { plain "java/lang/constant/ConstantDesc" (some 0) with
  accessFlags := 1537
  interfaces := #[]
  cf := some (fileOf pool6 1 #[] #[] 1537 3 #[] #[])
  fields := #[]
  methods := #[]
  instanceTypes := #[]
  staticTypes := #[]
  resolved := Array.replicate 37 none
  statics := none }

def pool7 : Array CpInfo := pool [(1, .methodref 2 3), (0, .class_ 4), (0, .nameAndType 5 6), (0, u "java/lang/Object"), (0, u "<init>"), (0, u "()V"), (2, .fieldref 10 11), (0, .class_ 12), (0, .nameAndType 13 14), (0, u "java/lang/String"), (0, u "value"), (0, u "[B"), (0, .fieldref 10 16), (0, .nameAndType 17 18), (0, u "coder"), (0, u "B"), (2, u "hash"), (0, u "I"), (2, u "hashIsZero"), (0, u "Z"), (11, .fieldref 10 39), (0, .nameAndType 40 26), (0, u "COMPACT_STRINGS"), (12, u "toBytes"), (53, .class_ 109), (1, u "java/lang/StringLatin1"), (99, .methodref 10 210), (0, .nameAndType 5 211), (0, u "([BB)V"), (157, u "(C)Z"), (171, .methodref 107 542), (0, .nameAndType 543 544), (0, u "equals"), (0, u "([B[B)Z"), (28, u "(Ljava/lang/Object;)Z"), (1, .class_ 576), (0, u "java/lang/CharSequence"), (22, u "CASE_INSENSITIVE_ORDER"), (0, u "Ljava/util/Comparator;"), (181, u "valueOf"), (0, u "(C)Ljava/lang/String;"), (231, .methodref 107 1016), (0, .nameAndType 1017 369), (0, u "canEncode"), (0, .methodref 107 1019), (0, .nameAndType 53 1020), (0, u "(C)[B"), (80, u "serialPersistentFields"), (0, u "[Ljava/io/ObjectStreamField;"), (0, .class_ 1104), (0, u "java/lang/String$CaseInsensitiveComparator"), (1, .class_ 1107), (0, u "java/io/Serializable"), (0, .class_ 1109), (0, u "java/lang/Comparable"), (0, .class_ 1111), (0, u "java/lang/constant/Constable"), (0, .class_ 1113), (0, u "java/lang/constant/ConstantDesc"), (2, u "serialVersionUID"), (0, u "J"), (3, u "REPL"), (0, u "C"), (2, u "LATIN1"), (1, u "UTF16")] 323

def k7m0 : Method := { name := "<init>", desc := "()V", sig := { parameters := [], returnType := none }, accessFlags := 1, code := none }
def k7c1 : Code := { maxStack := 2, maxLocals := 3, code := jdk_42_method_66_code, exceptionTable := #[], attributes := #[] }
def k7m1 : Method := { name := "equals", desc := "(Ljava/lang/Object;)Z", sig := { parameters := [(.object "java/lang/Object")], returnType := some .boolean }, accessFlags := 1, code := some k7c1 }
def k7c2 : Code := { maxStack := 4, maxLocals := 1, code := jdk_42_method_139_code, exceptionTable := #[], attributes := #[] }
def k7m2 : Method := { name := "valueOf", desc := "(C)Ljava/lang/String;", sig := { parameters := [.char], returnType := some (.object "java/lang/String") }, accessFlags := 9, code := some k7c2 }
def k7c3 : Code := { maxStack := 2, maxLocals := 3, code := jdk_42_method_151_code, exceptionTable := #[], attributes := #[] }
def k7m3 : Method := { name := "<init>", desc := "([BB)V", sig := { parameters := [(.array .byte), .byte], returnType := none }, accessFlags := 0, code := some k7c3 }
/-- java/lang/String -/
def k7 : Class := { plain "java/lang/String" (some 0) with
  accessFlags := 49
  interfaces := #[2, 3, 4, 5, 6]
  cf := some (fileOf pool7 10 #[.nestMembers #[1103]] #[{ accessFlags := 1, nameIndex := 5, descriptorIndex := 6, attributes := #[] }, { accessFlags := 1, nameIndex := 543, descriptorIndex := 573, attributes := #[] }, { accessFlags := 9, nameIndex := 782, descriptorIndex := 783, attributes := #[] }, { accessFlags := 0, nameIndex := 5, descriptorIndex := 211, attributes := #[] }] 49 2 #[1106, 1108, 575, 1110, 1112] #[{ accessFlags := 18, nameIndex := 13, descriptorIndex := 14, attributes := #[] }, { accessFlags := 18, nameIndex := 17, descriptorIndex := 18, attributes := #[] }, { accessFlags := 2, nameIndex := 21, descriptorIndex := 22, attributes := #[] }, { accessFlags := 2, nameIndex := 25, descriptorIndex := 26, attributes := #[] }, { accessFlags := 26, nameIndex := 1116, descriptorIndex := 1117, attributes := #[] }, { accessFlags := 24, nameIndex := 40, descriptorIndex := 26, attributes := #[] }, { accessFlags := 26, nameIndex := 1101, descriptorIndex := 1102, attributes := #[] }, { accessFlags := 26, nameIndex := 1121, descriptorIndex := 1122, attributes := #[] }, { accessFlags := 25, nameIndex := 599, descriptorIndex := 600, attributes := #[] }, { accessFlags := 24, nameIndex := 1125, descriptorIndex := 18, attributes := #[] }, { accessFlags := 24, nameIndex := 1127, descriptorIndex := 18, attributes := #[] }])
  fields := #[{ name := "value", type := (.array .byte), accessFlags := 18, slot := 0, constantValue := 0 }, { name := "coder", type := .byte, accessFlags := 18, slot := 1, constantValue := 0 }, { name := "hash", type := .int, accessFlags := 2, slot := 2, constantValue := 0 }, { name := "hashIsZero", type := .boolean, accessFlags := 2, slot := 3, constantValue := 0 }, { name := "serialVersionUID", type := .long, accessFlags := 26, slot := 0, constantValue := 0 }, { name := "COMPACT_STRINGS", type := .boolean, accessFlags := 24, slot := 1, constantValue := 0 }, { name := "serialPersistentFields", type := (.array (.object "java/io/ObjectStreamField")), accessFlags := 26, slot := 2, constantValue := 0 }, { name := "REPL", type := .char, accessFlags := 26, slot := 3, constantValue := 0 }, { name := "CASE_INSENSITIVE_ORDER", type := (.object "java/util/Comparator"), accessFlags := 25, slot := 4, constantValue := 0 }, { name := "LATIN1", type := .byte, accessFlags := 24, slot := 5, constantValue := 0 }, { name := "UTF16", type := .byte, accessFlags := 24, slot := 6, constantValue := 0 }]
  methods := #[k7m0, k7m1, k7m2, k7m3]
  instanceTypes := #[(.array .byte), .byte, .int, .boolean]
  staticTypes := #[.long, .boolean, (.array (.object "java/io/ObjectStreamField")), .char, (.object "java/util/Comparator"), .byte, .byte]
  resolved := Array.replicate 1451 none
  statics := some 0 }

def pool8 : Array CpInfo := pool [(4, .class_ 6), (1, u "java/lang/Object"), (0, u "<init>"), (0, u "()V"), (5, .class_ 16), (1, u "java/lang/StringLatin1"), (73, u "canEncode"), (14, u "(C)Z"), (15, u "$assertionsDisabled"), (0, u "Z"), (98, .class_ 223), (1, u "java/lang/StringLatin1$LinesSpliterator"), (57, u "equals"), (0, u "([B[B)Z"), (97, u "toBytes"), (1, u "(C)[B"), (7, .class_ 391), (0, u "java/lang/StringLatin1$CharsSpliterator")] 3

def k8m0 : Method := { name := "<init>", desc := "()V", sig := { parameters := [], returnType := none }, accessFlags := 0, code := none }
def k8c1 : Code := { maxStack := 2, maxLocals := 1, code := jdk_43_method_3_code, exceptionTable := #[], attributes := #[] }
def k8m1 : Method := { name := "canEncode", desc := "(C)Z", sig := { parameters := [.char], returnType := some .boolean }, accessFlags := 9, code := some k8c1 }
def k8c2 : Code := { maxStack := 3, maxLocals := 3, code := jdk_43_method_13_code, exceptionTable := #[], attributes := #[] }
def k8m2 : Method := { name := "equals", desc := "([B[B)Z", sig := { parameters := [(.array .byte), (.array .byte)], returnType := some .boolean }, accessFlags := 9, code := some k8c2 }
def k8c3 : Code := { maxStack := 4, maxLocals := 1, code := jdk_43_method_46_code, exceptionTable := #[], attributes := #[] }
def k8m3 : Method := { name := "toBytes", desc := "(C)[B", sig := { parameters := [.char], returnType := some (.array .byte) }, accessFlags := 9, code := some k8c3 }
/-- java/lang/StringLatin1 -/
def k8 : Class := { plain "java/lang/StringLatin1" (some 0) with
  accessFlags := 48
  interfaces := #[]
  cf := some (fileOf pool8 14 #[.nestMembers #[390, 221]] #[{ accessFlags := 0, nameIndex := 7, descriptorIndex := 8, attributes := #[] }, { accessFlags := 9, nameIndex := 90, descriptorIndex := 105, attributes := #[] }, { accessFlags := 9, nameIndex := 281, descriptorIndex := 282, attributes := #[] }, { accessFlags := 9, nameIndex := 380, descriptorIndex := 382, attributes := #[] }] 48 4 #[] #[{ accessFlags := 4120, nameIndex := 121, descriptorIndex := 122, attributes := #[] }])
  fields := #[{ name := "$assertionsDisabled", type := .boolean, accessFlags := 4120, slot := 0, constantValue := 0 }]
  methods := #[k8m0, k8m1, k8m2, k8m3]
  instanceTypes := #[]
  staticTypes := #[.boolean]
  resolved := Array.replicate 395 none
  statics := none }

def pool9 : Array CpInfo := pool [(2, .class_ 4), (1, u "java/lang/Enum"), (0, u "name"), (0, u "Ljava/lang/String;"), (2, u "ordinal"), (0, u "I"), (1, .class_ 14), (1, u "java/lang/Object"), (4, u "hash"), (86, .class_ 108), (1, u "java/lang/Enum$EnumDesc"), (2, .class_ 112), (0, u "java/lang/constant/Constable"), (0, .class_ 114), (0, u "java/lang/Comparable"), (0, .class_ 116), (0, u "java/io/Serializable")] 87

/-- java/lang/Enum -/
def k9 : Class := { plain "java/lang/Enum" (some 0) with
  accessFlags := 1057
  interfaces := #[5, 3, 2]
  cf := some (fileOf pool9 2 #[.nestMembers #[106]] #[] 1057 12 #[111, 113, 115] #[{ accessFlags := 18, nameIndex := 5, descriptorIndex := 6, attributes := #[] }, { accessFlags := 18, nameIndex := 9, descriptorIndex := 10, attributes := #[] }, { accessFlags := 2, nameIndex := 19, descriptorIndex := 10, attributes := #[] }])
  fields := #[{ name := "name", type := (.object "java/lang/String"), accessFlags := 18, slot := 0, constantValue := 0 }, { name := "ordinal", type := .int, accessFlags := 18, slot := 1, constantValue := 0 }, { name := "hash", type := .int, accessFlags := 2, slot := 2, constantValue := 0 }]
  methods := #[]
  instanceTypes := #[(.object "java/lang/String"), .int, .int]
  staticTypes := #[]
  resolved := Array.replicate 204 none
  statics := none }

def pool10 : Array CpInfo := pool [(1, .class_ 2), (0, u "com/example/tombstone/tombstone/postgres/ForeignKey$Action"), (2, u "CASCADE"), (0, u "Lcom/example/tombstone/tombstone/postgres/ForeignKey$Action;"), (2, u "SET_NULL"), (2, u "SET_DEFAULT"), (2, u "RESTRICT"), (2, u "NO_ACTION"), (0, .fieldref 1 20), (0, .nameAndType 21 22), (0, u "$VALUES"), (0, u "[Lcom/example/tombstone/tombstone/postgres/ForeignKey$Action;"), (0, .methodref 24 25), (0, .class_ 22), (0, .nameAndType 26 27), (0, u "clone"), (0, u "()Ljava/lang/Object;"), (1, .class_ 31), (1, u "java/lang/Enum"), (0, u "valueOf"), (5, .fieldref 1 39), (0, .nameAndType 40 41), (0, u "code"), (0, u "C"), (2, u "text"), (0, u "Ljava/lang/String;"), (2, u "loose"), (0, u "Lcom/example/tombstone/tombstone/config/OnDeleteAction;"), (6, .methodref 1 57), (0, .nameAndType 58 59), (0, u "values"), (0, u "()[Lcom/example/tombstone/tombstone/postgres/ForeignKey$Action;"), (0, .methodref 61 62), (0, .class_ 63), (0, .nameAndType 32 64), (0, u "java/lang/String"), (0, u "(C)Ljava/lang/String;"), (0, .methodref 61 66), (0, .nameAndType 67 68), (0, u "equals"), (0, u "(Ljava/lang/Object;)Z"), (40, u "(Ljava/lang/String;)Lcom/example/tombstone/tombstone/postgres/ForeignKey$Action;"), (6, u "fromCatalog"), (7, .class_ 125), (0, u "com/example/tombstone/tombstone/postgres/ForeignKey")] 16

def k10c0 : Code := { maxStack := 1, maxLocals := 0, code := prog_15_method_1_code, exceptionTable := #[], attributes := #[] }
def k10m0 : Method := { name := "values", desc := "()[Lcom/example/tombstone/tombstone/postgres/ForeignKey$Action;", sig := { parameters := [], returnType := some (.array (.object "com/example/tombstone/tombstone/postgres/ForeignKey$Action")) }, accessFlags := 9, code := some k10c0 }
def k10c1 : Code := { maxStack := 3, maxLocals := 5, code := prog_15_method_6_code, exceptionTable := #[], attributes := #[] }
def k10m1 : Method := { name := "fromCatalog", desc := "(Ljava/lang/String;)Lcom/example/tombstone/tombstone/postgres/ForeignKey$Action;", sig := { parameters := [(.object "java/lang/String")], returnType := some (.object "com/example/tombstone/tombstone/postgres/ForeignKey$Action") }, accessFlags := 8, code := some k10c1 }
/-- com/example/tombstone/tombstone/postgres/ForeignKey$Action -/
def k10 : Class := { plain "com/example/tombstone/tombstone/postgres/ForeignKey$Action" (some 9) with
  accessFlags := 16433
  interfaces := #[]
  cf := some (fileOf pool10 1 #[.nestHost 124] #[{ accessFlags := 9, nameIndex := 58, descriptorIndex := 59, attributes := #[] }, { accessFlags := 8, nameIndex := 116, descriptorIndex := 109, attributes := #[] }] 16433 29 #[] #[{ accessFlags := 16409, nameIndex := 5, descriptorIndex := 6, attributes := #[] }, { accessFlags := 16409, nameIndex := 9, descriptorIndex := 6, attributes := #[] }, { accessFlags := 16409, nameIndex := 12, descriptorIndex := 6, attributes := #[] }, { accessFlags := 16409, nameIndex := 15, descriptorIndex := 6, attributes := #[] }, { accessFlags := 16409, nameIndex := 18, descriptorIndex := 6, attributes := #[] }, { accessFlags := 18, nameIndex := 40, descriptorIndex := 41, attributes := #[] }, { accessFlags := 18, nameIndex := 44, descriptorIndex := 45, attributes := #[] }, { accessFlags := 18, nameIndex := 48, descriptorIndex := 49, attributes := #[] }, { accessFlags := 4122, nameIndex := 21, descriptorIndex := 22, attributes := #[] }])
  fields := #[{ name := "CASCADE", type := (.object "com/example/tombstone/tombstone/postgres/ForeignKey$Action"), accessFlags := 16409, slot := 0, constantValue := 0 }, { name := "SET_NULL", type := (.object "com/example/tombstone/tombstone/postgres/ForeignKey$Action"), accessFlags := 16409, slot := 1, constantValue := 0 }, { name := "SET_DEFAULT", type := (.object "com/example/tombstone/tombstone/postgres/ForeignKey$Action"), accessFlags := 16409, slot := 2, constantValue := 0 }, { name := "RESTRICT", type := (.object "com/example/tombstone/tombstone/postgres/ForeignKey$Action"), accessFlags := 16409, slot := 3, constantValue := 0 }, { name := "NO_ACTION", type := (.object "com/example/tombstone/tombstone/postgres/ForeignKey$Action"), accessFlags := 16409, slot := 4, constantValue := 0 }, { name := "code", type := .char, accessFlags := 18, slot := 3, constantValue := 0 }, { name := "text", type := (.object "java/lang/String"), accessFlags := 18, slot := 4, constantValue := 0 }, { name := "loose", type := (.object "com/example/tombstone/tombstone/config/OnDeleteAction"), accessFlags := 18, slot := 5, constantValue := 0 }, { name := "$VALUES", type := (.array (.object "com/example/tombstone/tombstone/postgres/ForeignKey$Action")), accessFlags := 4122, slot := 5, constantValue := 0 }]
  methods := #[k10m0, k10m1]
  instanceTypes := #[(.object "java/lang/String"), .int, .int, .char, (.object "java/lang/String"), (.object "com/example/tombstone/tombstone/config/OnDeleteAction")]
  staticTypes := #[(.object "com/example/tombstone/tombstone/postgres/ForeignKey$Action"), (.object "com/example/tombstone/tombstone/postgres/ForeignKey$Action"), (.object "com/example/tombstone/tombstone/postgres/ForeignKey$Action"), (.object "com/example/tombstone/tombstone/postgres/ForeignKey$Action"), (.object "com/example/tombstone/tombstone/postgres/ForeignKey$Action"), (.array (.object "com/example/tombstone/tombstone/postgres/ForeignKey$Action"))]
  resolved := Array.replicate 142 none
  statics := some 1 }

def pool11 : Array CpInfo := pool [(1, .class_ 2), (0, u "java/lang/Cloneable"), (0, .class_ 4), (0, u "java/lang/Object")] 2

/-- java/lang/Cloneable -/
def k11 : Class := { plain "java/lang/Cloneable" (some 0) with
  accessFlags := 1537
  interfaces := #[]
  cf := some (fileOf pool11 1 #[] #[] 1537 3 #[] #[])
  fields := #[]
  methods := #[]
  instanceTypes := #[]
  staticTypes := #[]
  resolved := Array.replicate 7 none
  statics := none }

def pool12 : Array CpInfo := pool [(2, .class_ 4), (1, u "java/lang/Object"), (0, u "<init>"), (0, u "()V"), (17, .class_ 26), (1, u "jdk/internal/util/Preconditions"), (28, .class_ 56), (0, u "jdk/internal/util/Preconditions$4"), (57, .class_ 115), (0, u "jdk/internal/util/Preconditions$1"), (7, u "SIOOBE_FORMATTER"), (0, u "Ljava/util/function/BiFunction;"), (0, .class_ 126), (0, u "jdk/internal/util/Preconditions$2"), (3, u "AIOOBE_FORMATTER"), (0, .class_ 132), (0, u "jdk/internal/util/Preconditions$3"), (3, u "IOOBE_FORMATTER")] 57

def k12m0 : Method := { name := "<init>", desc := "()V", sig := { parameters := [], returnType := none }, accessFlags := 1, code := none }
/-- jdk/internal/util/Preconditions -/
def k12 : Class := { plain "jdk/internal/util/Preconditions" (some 0) with
  accessFlags := 33
  interfaces := #[]
  cf := some (fileOf pool12 24 #[.nestMembers #[55, 131, 125, 114]] #[{ accessFlags := 1, nameIndex := 5, descriptorIndex := 6, attributes := #[] }] 33 2 #[] #[{ accessFlags := 25, nameIndex := 123, descriptorIndex := 124, attributes := #[] }, { accessFlags := 25, nameIndex := 130, descriptorIndex := 124, attributes := #[] }, { accessFlags := 25, nameIndex := 136, descriptorIndex := 124, attributes := #[] }])
  fields := #[{ name := "SIOOBE_FORMATTER", type := (.object "java/util/function/BiFunction"), accessFlags := 25, slot := 0, constantValue := 0 }, { name := "AIOOBE_FORMATTER", type := (.object "java/util/function/BiFunction"), accessFlags := 25, slot := 1, constantValue := 0 }, { name := "IOOBE_FORMATTER", type := (.object "java/util/function/BiFunction"), accessFlags := 25, slot := 2, constantValue := 0 }]
  methods := #[k12m0]
  instanceTypes := #[]
  staticTypes := #[(.object "java/util/function/BiFunction"), (.object "java/util/function/BiFunction"), (.object "java/util/function/BiFunction")]
  resolved := Array.replicate 194 none
  statics := some 2 }

def pool13 : Array CpInfo := pool [(9, u "<init>"), (6, .class_ 18), (1, u "java/lang/Object"), (0, u "()V"), (1, .class_ 23), (1, u "jdk/internal/util/ArraysSupport"), (0, u "LOG2_ARRAY_LONG_INDEX_SCALE"), (0, u "I"), (2, u "U"), (0, u "Ljdk/internal/misc/Unsafe;"), (8, u "BIG_ENDIAN"), (0, u "Z"), (8, u "LOG2_BYTE_BIT_SIZE"), (4, u "LOG2_ARRAY_INT_INDEX_SCALE"), (54, u "JLA"), (0, u "Ljdk/internal/access/JavaLangAccess;"), (11, u "LOG2_ARRAY_BOOLEAN_INDEX_SCALE"), (9, u "LOG2_ARRAY_BYTE_INDEX_SCALE"), (5, u "LOG2_ARRAY_CHAR_INDEX_SCALE"), (5, u "LOG2_ARRAY_SHORT_INDEX_SCALE"), (18, u "LOG2_ARRAY_FLOAT_INDEX_SCALE"), (24, u "LOG2_ARRAY_DOUBLE_INDEX_SCALE"), (89, u "T_BOOLEAN"), (2, u "T_CHAR"), (1, u "T_FLOAT"), (1, u "T_DOUBLE"), (1, u "T_BYTE"), (1, u "T_SHORT"), (1, u "T_INT"), (1, u "T_LONG"), (1, u "SOFT_MAX_ARRAY_LENGTH")] 83

def k13m0 : Method := { name := "<init>", desc := "()V", sig := { parameters := [], returnType := none }, accessFlags := 2, code := none }
/-- jdk/internal/util/ArraysSupport -/
def k13 : Class := { plain "jdk/internal/util/ArraysSupport" (some 0) with
  accessFlags := 33
  interfaces := #[]
  cf := some (fileOf pool13 21 #[] #[{ accessFlags := 2, nameIndex := 9, descriptorIndex := 19, attributes := #[] }] 33 16 #[] #[{ accessFlags := 24, nameIndex := 28, descriptorIndex := 29, attributes := #[] }, { accessFlags := 26, nameIndex := 38, descriptorIndex := 39, attributes := #[] }, { accessFlags := 25, nameIndex := 121, descriptorIndex := 25, attributes := #[] }, { accessFlags := 25, nameIndex := 131, descriptorIndex := 25, attributes := #[] }, { accessFlags := 25, nameIndex := 137, descriptorIndex := 25, attributes := #[] }, { accessFlags := 25, nameIndex := 143, descriptorIndex := 25, attributes := #[] }, { accessFlags := 25, nameIndex := 53, descriptorIndex := 25, attributes := #[] }, { accessFlags := 25, nameIndex := 24, descriptorIndex := 25, attributes := #[] }, { accessFlags := 25, nameIndex := 162, descriptorIndex := 25, attributes := #[] }, { accessFlags := 25, nameIndex := 187, descriptorIndex := 25, attributes := #[] }, { accessFlags := 26, nameIndex := 48, descriptorIndex := 25, attributes := #[] }, { accessFlags := 25, nameIndex := 277, descriptorIndex := 25, attributes := #[] }, { accessFlags := 25, nameIndex := 280, descriptorIndex := 25, attributes := #[] }, { accessFlags := 25, nameIndex := 282, descriptorIndex := 25, attributes := #[] }, { accessFlags := 25, nameIndex := 284, descriptorIndex := 25, attributes := #[] }, { accessFlags := 25, nameIndex := 286, descriptorIndex := 25, attributes := #[] }, { accessFlags := 25, nameIndex := 288, descriptorIndex := 25, attributes := #[] }, { accessFlags := 25, nameIndex := 290, descriptorIndex := 25, attributes := #[] }, { accessFlags := 25, nameIndex := 292, descriptorIndex := 25, attributes := #[] }, { accessFlags := 26, nameIndex := 108, descriptorIndex := 109, attributes := #[] }, { accessFlags := 25, nameIndex := 294, descriptorIndex := 25, attributes := #[] }])
  fields := #[{ name := "U", type := (.object "jdk/internal/misc/Unsafe"), accessFlags := 24, slot := 0, constantValue := 0 }, { name := "BIG_ENDIAN", type := .boolean, accessFlags := 26, slot := 1, constantValue := 0 }, { name := "LOG2_ARRAY_BOOLEAN_INDEX_SCALE", type := .int, accessFlags := 25, slot := 2, constantValue := 0 }, { name := "LOG2_ARRAY_BYTE_INDEX_SCALE", type := .int, accessFlags := 25, slot := 3, constantValue := 0 }, { name := "LOG2_ARRAY_CHAR_INDEX_SCALE", type := .int, accessFlags := 25, slot := 4, constantValue := 0 }, { name := "LOG2_ARRAY_SHORT_INDEX_SCALE", type := .int, accessFlags := 25, slot := 5, constantValue := 0 }, { name := "LOG2_ARRAY_INT_INDEX_SCALE", type := .int, accessFlags := 25, slot := 6, constantValue := 0 }, { name := "LOG2_ARRAY_LONG_INDEX_SCALE", type := .int, accessFlags := 25, slot := 7, constantValue := 0 }, { name := "LOG2_ARRAY_FLOAT_INDEX_SCALE", type := .int, accessFlags := 25, slot := 8, constantValue := 0 }, { name := "LOG2_ARRAY_DOUBLE_INDEX_SCALE", type := .int, accessFlags := 25, slot := 9, constantValue := 0 }, { name := "LOG2_BYTE_BIT_SIZE", type := .int, accessFlags := 26, slot := 10, constantValue := 0 }, { name := "T_BOOLEAN", type := .int, accessFlags := 25, slot := 11, constantValue := 0 }, { name := "T_CHAR", type := .int, accessFlags := 25, slot := 12, constantValue := 0 }, { name := "T_FLOAT", type := .int, accessFlags := 25, slot := 13, constantValue := 0 }, { name := "T_DOUBLE", type := .int, accessFlags := 25, slot := 14, constantValue := 0 }, { name := "T_BYTE", type := .int, accessFlags := 25, slot := 15, constantValue := 0 }, { name := "T_SHORT", type := .int, accessFlags := 25, slot := 16, constantValue := 0 }, { name := "T_INT", type := .int, accessFlags := 25, slot := 17, constantValue := 0 }, { name := "T_LONG", type := .int, accessFlags := 25, slot := 18, constantValue := 0 }, { name := "JLA", type := (.object "jdk/internal/access/JavaLangAccess"), accessFlags := 26, slot := 19, constantValue := 0 }, { name := "SOFT_MAX_ARRAY_LENGTH", type := .int, accessFlags := 25, slot := 20, constantValue := 0 }]
  methods := #[k13m0]
  instanceTypes := #[]
  staticTypes := #[(.object "jdk/internal/misc/Unsafe"), .boolean, .int, .int, .int, .int, .int, .int, .int, .int, .int, .int, .int, .int, .int, .int, .int, .int, .int, (.object "jdk/internal/access/JavaLangAccess"), .int]
  resolved := Array.replicate 378 none
  statics := none }

/-- the primitive byte -/
def k14 : Class := { plain "byte" none with kind := .primitive 'B', accessFlags := 0x411 }
/-- [B -/
def k15 : Class := { plain "[B" (some 0) with kind := .array 14 .byte, interfaces := #[11, 2], accessFlags := 1041 }

/-- the primitive int -/
def k16 : Class := { plain "int" none with kind := .primitive 'I', accessFlags := 0x411 }
/-- [I -/
def k17 : Class := { plain "[I" (some 0) with kind := .array 16 .int, interfaces := #[11, 2], accessFlags := 1041 }

/-- [Lcom/example/tombstone/tombstone/postgres/ForeignKey$Action; -/
def k18 : Class := { plain "[Lcom/example/tombstone/tombstone/postgres/ForeignKey$Action;" (some 0) with kind := .array 10 (.object "com/example/tombstone/tombstone/postgres/ForeignKey$Action"), interfaces := #[11, 2], accessFlags := 1041 }

def heap : Heap := #[{ cls := 7, slots := #[.long 0, .int 1, .null, .int 0, .null, .int 0, .int 0], vm := .statics 7 },
  { cls := 10, slots := #[.ref 4, .ref 5, .ref 6, .ref 7, .ref 8, .ref 3], vm := .statics 10 },
  { cls := 12, slots := #[.null, .null, .null], vm := .statics 12 },
  { cls := 18, slots := #[.ref 4, .ref 5, .ref 6, .ref 7, .ref 8], vm := .none },
  { cls := 10, slots := #[.null, .int 0, .int 0, .int 99, .null, .null], vm := .none },
  { cls := 10, slots := #[.null, .int 1, .int 0, .int 110, .null, .null], vm := .none },
  { cls := 10, slots := #[.null, .int 2, .int 0, .int 100, .null, .null], vm := .none },
  { cls := 10, slots := #[.null, .int 3, .int 0, .int 114, .null, .null], vm := .none },
  { cls := 10, slots := #[.null, .int 4, .int 0, .int 97, .null, .null], vm := .none }]
def classes : Array Class := #[k0, k1, k2, k3, k4, k5, k6, k7, k8, k9, k10, k11, k12, k13, k14, k15, k16, k17, k18]
def interned : List (Array UInt16 × Addr) := []
def slotsUsed : Nat := 51
def theMethod : MethodId := ⟨1, 1⟩
def args0 : Array Value := #[.int 5, .int 5]
def aboutOver (below : List Frame) : State where
  vm := { classes := classes, interned := interned.toArray }
  heap := heap
  slotsUsed := slotsUsed
  threads := #[{ frames := .invoking theMethod args0 :: below }]
def below0 : List Frame := [.native { method := ⟨0, 0⟩, args := #[] }]
def about1 : State := aboutOver below0
def p0 : Program := .bare "" "" ""
def e0 : Env := launch0.env 0 0 0
theorem w_frames : about1.frames = Frame.invoking theMethod args0 :: below0 := rfl
set_option maxRecDepth 65536 in
theorem w_args : argsFit about1.vm theMethod args0 = true := by decide +kernel
set_option maxRecDepth 65536 in
theorem w_heap : heapFits about1 = true := by decide +kernel
set_option maxRecDepth 65536 in
theorem w_runnable : about1.curStatus? = some .runnable := by decide +kernel
set_option maxRecDepth 65536 in
theorem w_alone : about1.alone = true := by decide +kernel
set_option maxRecDepth 65536 in
theorem w_named : about1.methodNamed? x = some theMethod := by decide +kernel
set_option maxRecDepth 65536 in
theorem w_hears : about1.hears theMethod below0 = true := by decide +kernel
set_option maxRecDepth 65536 in
theorem w_ripe : about1.ripe theMethod args0 below0 = true := by decide +kernel
theorem w_running : about1.status = .running := rfl
set_option maxRecDepth 65536 in
theorem w_room : about1.hasRoom e0.platform room_1 = true :=
  launch0.hasRoom_least _ room_1 (by decide +kernel) (by decide +kernel) (by decide +kernel) (by decide +kernel) (by decide +kernel) (by decide +kernel)
theorem allAtoms_all (ts : List Jvm.Cond) (a : Array Jvm.Value) (st : Jvm.State) : (allAtoms ts).before a st = ts.all (fun c => c.before a st) := by
  induction ts with
  | nil => rfl
  | cons c t ih =>
    show (Jvm.Cond.and c (allAtoms t)).before a st = _
    rw [Jvm.Cond.before_and, ih, List.all_cons]
def words1 : List Jvm.Cond := Jvm.Cond.code x code maxLocals ret :: tables_1
/-- a 'code' word, met by the world's own term for the bytes: nothing is compared byte by byte -/
theorem code_word {y : MethodName} {bytes : ByteArray} {mx : Nat} {rt : Option FieldType} {a : Array Value} {s : State} {m : MethodId} {meth : Method} {c : Code} (h1 : s.methodNamed? y = some m) (h2 : s.vm.method? m = some meth) (h3 : meth.code = some c) (h4 : c.code = bytes)
    (h5 : (c.maxLocals == mx && c.exceptionTable.isEmpty && decide (c.maxStack ≤ mostOperands) && decide (meth.sig.returnType = rt) && !meth.locks && decide (parseMethodDescriptor y.desc = some meth.sig)) = true) : (Jvm.Cond.code y bytes mx rt).before a s = true := by
  simp only [Bool.and_eq_true, beq_iff_eq, Bool.not_eq_true', decide_eq_true_eq] at h5
  obtain ⟨⟨⟨⟨⟨g1, g2⟩, g3⟩, g4⟩, g5⟩, g6⟩ := h5
  simp [Cond.before, Cond.holds, Cond.value, h1, h2, h3, h4, g1, g2, g3, g4, g5, g6]
def isCode : Jvm.Cond → Bool
  | .code _ _ _ _ => true
  | _ => false
theorem all_split {L : List Jvm.Cond} {P : Jvm.Cond → Bool} (h1 : L.all (fun c => isCode c || P c) = true) (h2 : ∀ c ∈ L.filter isCode, P c = true) : L.all P = true := by
  refine List.all_eq_true.mpr fun c hc => ?_
  have h := List.all_eq_true.mp h1 c hc
  rcases Bool.eq_false_or_eq_true (isCode c) with hi | hi
  · exact h2 c (List.mem_filter.mpr ⟨hc, hi⟩)
  · simpa [hi] using h
set_option maxRecDepth 65536 in
theorem w_c0 : (Jvm.Cond.code x code maxLocals ret).before args0 about1 = true := code_word (m := ⟨1, 1⟩) (meth := k1m1) (c := k1c1) (by decide +kernel) rfl rfl rfl (by decide +kernel)
set_option maxRecDepth 65536 in
theorem w_c1 : (Jvm.Cond.code ({ cls := "com/example/tombstone/tombstone/postgres/ActionFromCatalogPinLaw", name := "isCode", desc := "(C)Z" } : Jvm.MethodName) method_3_code (1 : Nat) (Option.some Jvm.ClassFile.FieldType.boolean)).before args0 about1 = true := code_word (m := ⟨1, 2⟩) (meth := k1m2) (c := k1c2) (by decide +kernel) rfl rfl rfl (by decide +kernel)
set_option maxRecDepth 65536 in
theorem w_c2 : (Jvm.Cond.code ({ cls := "com/example/tombstone/tombstone/postgres/ActionFromCatalogPinLaw", name := "codeAt", desc := "(I)C" } : Jvm.MethodName) method_4_code (1 : Nat) (Option.some Jvm.ClassFile.FieldType.char)).before args0 about1 = true := code_word (m := ⟨1, 3⟩) (meth := k1m3) (c := k1c3) (by decide +kernel) rfl rfl rfl (by decide +kernel)
set_option maxRecDepth 65536 in
theorem w_c3 : (Jvm.Cond.code ({ cls := "java/lang/String", name := "valueOf", desc := "(C)Ljava/lang/String;" } : Jvm.MethodName) jdk_42_method_139_code (1 : Nat) (Option.some (Jvm.ClassFile.FieldType.object "java/lang/String"))).before args0 about1 = true := code_word (m := ⟨7, 2⟩) (meth := k7m2) (c := k7c2) (by decide +kernel) rfl rfl rfl (by decide +kernel)
set_option maxRecDepth 65536 in
theorem w_c4 : (Jvm.Cond.code ({ cls := "java/lang/StringLatin1", name := "canEncode", desc := "(C)Z" } : Jvm.MethodName) jdk_43_method_3_code (1 : Nat) (Option.some Jvm.ClassFile.FieldType.boolean)).before args0 about1 = true := code_word (m := ⟨8, 1⟩) (meth := k8m1) (c := k8c1) (by decide +kernel) rfl rfl rfl (by decide +kernel)
set_option maxRecDepth 65536 in
theorem w_c5 : (Jvm.Cond.code ({ cls := "java/lang/StringLatin1", name := "toBytes", desc := "(C)[B" } : Jvm.MethodName) jdk_43_method_46_code (1 : Nat) (Option.some (Jvm.ClassFile.FieldType.array Jvm.ClassFile.FieldType.byte))).before args0 about1 = true := code_word (m := ⟨8, 3⟩) (meth := k8m3) (c := k8c3) (by decide +kernel) rfl rfl rfl (by decide +kernel)
set_option maxRecDepth 65536 in
theorem w_c6 : (Jvm.Cond.code ({ cls := "java/lang/String", name := "<init>", desc := "([BB)V" } : Jvm.MethodName) jdk_42_method_151_code (3 : Nat) (Option.none : Option Jvm.ClassFile.FieldType)).before args0 about1 = true := code_word (m := ⟨7, 3⟩) (meth := k7m3) (c := k7c3) (by decide +kernel) rfl rfl rfl (by decide +kernel)
set_option maxRecDepth 65536 in
theorem w_c7 : (Jvm.Cond.code ({ cls := "java/lang/Object", name := "<init>", desc := "()V" } : Jvm.MethodName) object_method_1_code (1 : Nat) (Option.none : Option Jvm.ClassFile.FieldType)).before args0 about1 = true := code_word (m := ⟨0, 0⟩) (meth := k0m0) (c := k0c0) (by decide +kernel) rfl rfl rfl (by decide +kernel)
set_option maxRecDepth 65536 in
theorem w_c8 : (Jvm.Cond.code ({ cls := "com/example/tombstone/tombstone/postgres/ForeignKey$Action", name := "fromCatalog", desc := "(Ljava/lang/String;)Lcom/example/tombstone/tombstone/postgres/ForeignKey$Action;" } : Jvm.MethodName) prog_15_method_6_code (5 : Nat) (Option.some (Jvm.ClassFile.FieldType.object "com/example/tombstone/tombstone/postgres/ForeignKey$Action"))).before args0 about1 = true := code_word (m := ⟨10, 1⟩) (meth := k10m1) (c := k10c1) (by decide +kernel) rfl rfl rfl (by decide +kernel)
set_option maxRecDepth 65536 in
theorem w_c9 : (Jvm.Cond.code ({ cls := "com/example/tombstone/tombstone/postgres/ForeignKey$Action", name := "values", desc := "()[Lcom/example/tombstone/tombstone/postgres/ForeignKey$Action;" } : Jvm.MethodName) prog_15_method_1_code (0 : Nat) (Option.some (Jvm.ClassFile.FieldType.array (Jvm.ClassFile.FieldType.object "com/example/tombstone/tombstone/postgres/ForeignKey$Action")))).before args0 about1 = true := code_word (m := ⟨10, 0⟩) (meth := k10m0) (c := k10c0) (by decide +kernel) rfl rfl rfl (by decide +kernel)
set_option maxRecDepth 65536 in
theorem w_c10 : (Jvm.Cond.code ({ cls := "java/lang/String", name := "equals", desc := "(Ljava/lang/Object;)Z" } : Jvm.MethodName) jdk_42_method_66_code (3 : Nat) (Option.some Jvm.ClassFile.FieldType.boolean)).before args0 about1 = true := code_word (m := ⟨7, 1⟩) (meth := k7m1) (c := k7c1) (by decide +kernel) rfl rfl rfl (by decide +kernel)
set_option maxRecDepth 65536 in
theorem w_c11 : (Jvm.Cond.code ({ cls := "java/lang/StringLatin1", name := "equals", desc := "([B[B)Z" } : Jvm.MethodName) jdk_43_method_13_code (3 : Nat) (Option.some Jvm.ClassFile.FieldType.boolean)).before args0 about1 = true := code_word (m := ⟨8, 2⟩) (meth := k8m2) (c := k8c2) (by decide +kernel) rfl rfl rfl (by decide +kernel)
set_option maxRecDepth 65536 in
theorem w_c12 : (Jvm.Cond.code ({ cls := "com/example/tombstone/tombstone/postgres/ActionFromCatalogPinLaw", name := "expected", desc := "(C)Lcom/example/tombstone/tombstone/postgres/ForeignKey$Action;" } : Jvm.MethodName) method_5_code (1 : Nat) (Option.some (Jvm.ClassFile.FieldType.object "com/example/tombstone/tombstone/postgres/ForeignKey$Action"))).before args0 about1 = true := code_word (m := ⟨1, 4⟩) (meth := k1m4) (c := k1c4) (by decide +kernel) rfl rfl rfl (by decide +kernel)
def codes1 : List Jvm.Cond := [Jvm.Cond.code x code maxLocals ret, Jvm.Cond.code ({ cls := "com/example/tombstone/tombstone/postgres/ActionFromCatalogPinLaw", name := "isCode", desc := "(C)Z" } : Jvm.MethodName) method_3_code (1 : Nat) (Option.some Jvm.ClassFile.FieldType.boolean), Jvm.Cond.code ({ cls := "com/example/tombstone/tombstone/postgres/ActionFromCatalogPinLaw", name := "codeAt", desc := "(I)C" } : Jvm.MethodName) method_4_code (1 : Nat) (Option.some Jvm.ClassFile.FieldType.char), Jvm.Cond.code ({ cls := "java/lang/String", name := "valueOf", desc := "(C)Ljava/lang/String;" } : Jvm.MethodName) jdk_42_method_139_code (1 : Nat) (Option.some (Jvm.ClassFile.FieldType.object "java/lang/String")), Jvm.Cond.code ({ cls := "java/lang/StringLatin1", name := "canEncode", desc := "(C)Z" } : Jvm.MethodName) jdk_43_method_3_code (1 : Nat) (Option.some Jvm.ClassFile.FieldType.boolean), Jvm.Cond.code ({ cls := "java/lang/StringLatin1", name := "toBytes", desc := "(C)[B" } : Jvm.MethodName) jdk_43_method_46_code (1 : Nat) (Option.some (Jvm.ClassFile.FieldType.array Jvm.ClassFile.FieldType.byte)), Jvm.Cond.code ({ cls := "java/lang/String", name := "<init>", desc := "([BB)V" } : Jvm.MethodName) jdk_42_method_151_code (3 : Nat) (Option.none : Option Jvm.ClassFile.FieldType), Jvm.Cond.code ({ cls := "java/lang/Object", name := "<init>", desc := "()V" } : Jvm.MethodName) object_method_1_code (1 : Nat) (Option.none : Option Jvm.ClassFile.FieldType), Jvm.Cond.code ({ cls := "com/example/tombstone/tombstone/postgres/ForeignKey$Action", name := "fromCatalog", desc := "(Ljava/lang/String;)Lcom/example/tombstone/tombstone/postgres/ForeignKey$Action;" } : Jvm.MethodName) prog_15_method_6_code (5 : Nat) (Option.some (Jvm.ClassFile.FieldType.object "com/example/tombstone/tombstone/postgres/ForeignKey$Action")), Jvm.Cond.code ({ cls := "com/example/tombstone/tombstone/postgres/ForeignKey$Action", name := "values", desc := "()[Lcom/example/tombstone/tombstone/postgres/ForeignKey$Action;" } : Jvm.MethodName) prog_15_method_1_code (0 : Nat) (Option.some (Jvm.ClassFile.FieldType.array (Jvm.ClassFile.FieldType.object "com/example/tombstone/tombstone/postgres/ForeignKey$Action"))), Jvm.Cond.code ({ cls := "java/lang/String", name := "equals", desc := "(Ljava/lang/Object;)Z" } : Jvm.MethodName) jdk_42_method_66_code (3 : Nat) (Option.some Jvm.ClassFile.FieldType.boolean), Jvm.Cond.code ({ cls := "java/lang/StringLatin1", name := "equals", desc := "([B[B)Z" } : Jvm.MethodName) jdk_43_method_13_code (3 : Nat) (Option.some Jvm.ClassFile.FieldType.boolean), Jvm.Cond.code ({ cls := "com/example/tombstone/tombstone/postgres/ActionFromCatalogPinLaw", name := "expected", desc := "(C)Lcom/example/tombstone/tombstone/postgres/ForeignKey$Action;" } : Jvm.MethodName) method_5_code (1 : Nat) (Option.some (Jvm.ClassFile.FieldType.object "com/example/tombstone/tombstone/postgres/ForeignKey$Action"))]
set_option maxRecDepth 65536 in
theorem codes_eq : words1.filter isCode = codes1 := rfl
theorem w_codes : ∀ c ∈ words1.filter isCode, c.before args0 about1 = true := by
  rw [codes_eq]
  intro c hc
  simp only [codes1, List.mem_cons, List.not_mem_nil, or_false] at hc
  rcases hc with rfl | rfl | rfl | rfl | rfl | rfl | rfl | rfl | rfl | rfl | rfl | rfl | rfl
  · exact w_c0
  · exact w_c1
  · exact w_c2
  · exact w_c3
  · exact w_c4
  · exact w_c5
  · exact w_c6
  · exact w_c7
  · exact w_c8
  · exact w_c9
  · exact w_c10
  · exact w_c11
  · exact w_c12
set_option maxRecDepth 65536 in
theorem w_t1 : (words1.take 24).all (fun c => isCode c || c.before args0 about1) = true := by decide +kernel
set_option maxRecDepth 65536 in
theorem w_t2 : ((words1.drop 24).take 24).all (fun c => isCode c || c.before args0 about1) = true := by decide +kernel
set_option maxRecDepth 65536 in
theorem w_t3 : (((words1.drop 24).drop 24).take 24).all (fun c => isCode c || c.before args0 about1) = true := by decide +kernel
set_option maxRecDepth 65536 in
theorem w_t4 : (((words1.drop 24).drop 24).drop 24).all (fun c => isCode c || c.before args0 about1) = true := by decide +kernel
theorem w_tables : (allAtoms (Jvm.Cond.code x code maxLocals ret :: tables_1)).before args0 about1 = true := by
  rw [allAtoms_all]
  show words1.all (fun c => c.before args0 about1) = true
  refine all_split ?_ w_codes
  rw [← List.take_append_drop 24 words1, List.all_append, w_t1, ← List.take_append_drop 24 (words1.drop 24), List.all_append, w_t2, ← List.take_append_drop 24 ((words1.drop 24).drop 24), List.all_append, w_t3, w_t4]
  rfl
set_option maxRecDepth 65536 in
theorem w_rest : rest_1_c.before args0 about1 = true := by decide +kernel
set_option maxRecDepth 65536 in
theorem w_case : (Jvm.Cond.and given_1 narrow_1).before args0 about1 = true := by decide +kernel
theorem w_applies : (headSpec (Jvm.Cond.code x code maxLocals ret :: tables_1) room_1).applies x e0.platform about1 = true :=
  (Spec.applies_iff w_frames).mpr ⟨w_running, w_runnable, w_alone, w_named, w_hears, w_ripe, w_room, w_tables⟩
theorem atStart : AtStart classFile x code maxLocals ret World_1 tables_1 room_1 Calls_1 rest_1 Pre_1 launch0 p0 e0 about1 theMethod args0 below0 :=
  ⟨lists_1, trivial, launch0.admits_env _ _ _, launch0.least_env, fairChoices_fair.cas, fairChoices_fair.clock, w_frames, w_args, w_heap, w_applies, trivial, w_rest, w_case⟩
end start1
theorem witness_1 : WitnessClaimed_1 := ⟨start1.p0, start1.e0, start1.about1, start1.theMethod, start1.args0, start1.below0, start1.atStart⟩
end Jvm.Pilot.@@N@@
