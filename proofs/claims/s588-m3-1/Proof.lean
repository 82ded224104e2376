import JvmDerived
import JvmDerived.Pilot.@@N@@Statement
import JvmDerived.Pilot.@@N@@Code
set_option linter.unusedVariables false
set_option linter.unusedSimpArgs false
namespace Jvm.RoadKit
open Sem ClassFile Op Lib Jvm.Stand Jvm.Free Jvm.LawKit
section New
variable {p : Program} {l : Launch} {e : Env} {R : Room} {s : State} {m : MethodId} {args : Array Value} {below : List Frame} {meth : Method} {c : Code} {T : State} {locs : List Loc} {cells slots : Nat}
theorem retI (X : Stand p l e R s m args below meth c T locs cells slots) (hx : p.tables.exec = Jvm.exec) {pc : Nat} {Ls : Array Slot} {z : Int32} {rest : List Value} (hret : meth.sig.returnType = some .int) (hd : decode c.code pc = .ok (.ireturn, 1)) {fs : List Frame}
  (hl : ∀ (f : JFrame) (acts : List Action), f.method = m → f.locked = none → f.entered = [] → (doReturn e (T.setTop f) acts (some (.int z))).1 = T.setFrames fs) : Steps p.tables e below (T.setTop (mkF m pc Ls (.int z :: rest))) (T.setFrames fs) := by
 have hm' : T.vm.method? m = some meth := X.method'
 have hn : narrow .int (.int z) = .int z := rfl
 show Steps p.tables e below (T.setTop { method := m, pc := pc, locals := Ls, stack := _ :: rest, locked := none }) _
 jvm_step X.here [X.here.top, hx, hd, hm', hret, hn]
 first | (intro acts; rw [hl _ acts rfl rfl rfl]) | rw [hl _ _ rfl rfl rfl]
 exact Steps.refl _
end New
end Jvm.RoadKit
namespace Jvm.Pilot.@@N@@
set_option maxRecDepth 65536
set_option maxHeartbeats 40000000
open Jvm Jvm.ClassFile Sem Op Lib Jvm.Free Jvm.Stand Jvm.LawKit Jvm.RoadKit Bundle Jvm.Pilot.@@N@@.Jvm.D
section OwnKit
variable {p : Program} {l : Launch} {e : Env} {R : Room} {s : State} {m : MethodId} {args : Array Value} {below : List Frame} {meth : Method} {c : Code} {T : State} {locs : List Loc} {cells slots : Nat} {Z : State} {a0 : Array Value} {h : Heap} {P : Outcome → State → Prop} {pc pc' pc1 pc2 : Nat} {L L' : Array Slot} {S : List Value}
/-- the run from U comes to an end that P holds of -/
def OG (p : Program) (e : Env) (below : List Frame) (P : Outcome → State → Prop) (U : State) : Prop := ∃ s₂ o, Steps p.tables e below U s₂ ∧ s₂.status = .running ∧ Ended s₂ below o ∧ P o s₂
theorem OG.of {U U' : State} (k : ∀ t, Steps p.tables e below U' t → Steps p.tables e below U t) (h : OG p e below P U') : OG p e below P U := by
 obtain ⟨t, o, h1, h2⟩ := h; exact ⟨t, o, k t h1, h2⟩
theorem OG.cast {g g' : JFrame} (q : g = g') (k : OG p e below P (T.setTop g')) : OG p e below P (T.setTop g) := q ▸ k
theorem og_iadd (X : Stand p l e R s m args below meth c T locs cells slots) (hx : p.tables.exec = Jvm.exec) {x y : Int32} (hd : decode c.code pc = .ok (.iadd, 1)) (hp : pc + 1 = pc') (k : OG p e below P (T.setTop (mkF m pc' L (.int (x + y) :: S)))) : OG p e below P (T.setTop (mkF m pc L (.int y :: .int x :: S))) := by
 subst hp; exact OG.of (fun t k => XS.iadd X.here hx rfl hd rfl k) k
theorem og_isub (X : Stand p l e R s m args below meth c T locs cells slots) (hx : p.tables.exec = Jvm.exec) {x y : Int32} (hd : decode c.code pc = .ok (.isub, 1)) (hp : pc + 1 = pc') (k : OG p e below P (T.setTop (mkF m pc' L (.int (x - y) :: S)))) : OG p e below P (T.setTop (mkF m pc L (.int y :: .int x :: S))) := by
 subst hp; exact OG.of (fun t k => XS.isub X.here hx rfl hd rfl k) k
theorem og_iand (X : Stand p l e R s m args below meth c T locs cells slots) (hx : p.tables.exec = Jvm.exec) {x y : Int32} (hd : decode c.code pc = .ok (.iand, 1)) (hp : pc + 1 = pc') (k : OG p e below P (T.setTop (mkF m pc' L (.int (x &&& y) :: S)))) : OG p e below P (T.setTop (mkF m pc L (.int y :: .int x :: S))) := by
 subst hp; exact OG.of (fun t k => XS.iand X.here hx rfl hd rfl k) k
theorem og_irem (X : Stand p l e R s m args below meth c T locs cells slots) (hx : p.tables.exec = Jvm.exec) {x y : Int32} (hy : y ≠ 0) (hd : decode c.code pc = .ok (.irem, 1)) (hp : pc + 1 = pc') (k : OG p e below P (T.setTop (mkF m pc' L (.int (x % y) :: S)))) : OG p e below P (T.setTop (mkF m pc L (.int y :: .int x :: S))) := by
 subst hp; exact OG.of (fun t k => iremM X hx rfl hd rfl hy k) k
theorem og_ishr (X : Stand p l e R s m args below meth c T locs cells slots) (hx : p.tables.exec = Jvm.exec) {x y : Int32} (hd : decode c.code pc = .ok (.ishr, 1)) (hp : pc + 1 = pc') (k : OG p e below P (T.setTop (mkF m pc' L (.int (x >>> (y &&& 31)) :: S)))) : OG p e below P (T.setTop (mkF m pc L (.int y :: .int x :: S))) := by
 subst hp; exact OG.of (fun t k => XS.ishr X.here hx rfl hd rfl k) k
theorem og_iushr (X : Stand p l e R s m args below meth c T locs cells slots) (hx : p.tables.exec = Jvm.exec) {x y : Int32} (hd : decode c.code pc = .ok (.iushr, 1)) (hp : pc + 1 = pc') (k : OG p e below P (T.setTop (mkF m pc' L (.int ((x.toUInt32 >>> (y &&& 31).toUInt32).toInt32) :: S)))) : OG p e below P (T.setTop (mkF m pc L (.int y :: .int x :: S))) := by
 subst hp; exact OG.of (fun t k => XS.iushr X.here hx rfl hd rfl k) k
theorem og_i2b (X : Stand p l e R s m args below meth c T locs cells slots) (hx : p.tables.exec = Jvm.exec) {x : Int32} (hd : decode c.code pc = .ok (.i2b, 1)) (hp : pc + 1 = pc') (k : OG p e below P (T.setTop (mkF m pc' L (.int (x.toInt8.toInt32) :: S)))) : OG p e below P (T.setTop (mkF m pc L (.int x :: S))) := by
 subst hp; exact OG.of (fun t k => XS.i2b X.here hx rfl hd rfl k) k
theorem og_i2c (X : Stand p l e R s m args below meth c T locs cells slots) (hx : p.tables.exec = Jvm.exec) {x : Int32} (hd : decode c.code pc = .ok (.i2c, 1)) (hp : pc + 1 = pc') (k : OG p e below P (T.setTop (mkF m pc' L (.int (x.toUInt32.toUInt16.toUInt32.toInt32) :: S)))) : OG p e below P (T.setTop (mkF m pc L (.int x :: S))) := by
 subst hp; exact OG.of (fun t k => XS.i2c X.here hx rfl hd rfl k) k
theorem og_iconst (X : Stand p l e R s m args below meth c T locs cells slots) (hx : p.tables.exec = Jvm.exec) {i : Int} {v : Int32} (hv : Int32.ofInt i = v) (hd : decode c.code pc = .ok (.iconst i, 1)) (hp : pc + 1 = pc') (k : OG p e below P (T.setTop (mkF m pc' L (.int v :: S)))) : OG p e below P (T.setTop (mkF m pc L S)) := by
 subst hp; exact OG.of (fun t k => XS.iconst X.here hx rfl hd (hv ▸ k)) k
theorem og_bipush (X : Stand p l e R s m args below meth c T locs cells slots) (hx : p.tables.exec = Jvm.exec) {i : Int} {v : Int32} (hv : (Int8.ofInt i).toInt32 = v) (hd : decode c.code pc = .ok (.bipush i, 2)) (hp : pc + 2 = pc') (k : OG p e below P (T.setTop (mkF m pc' L (.int v :: S)))) : OG p e below P (T.setTop (mkF m pc L S)) := by
 subst hp; exact OG.of (fun t k => XS.bipush X.here hx rfl hd (hv ▸ k)) k
theorem og_sipush (X : Stand p l e R s m args below meth c T locs cells slots) (hx : p.tables.exec = Jvm.exec) {i : Int} {v : Int32} (hv : (Int16.ofInt i).toInt32 = v) (hd : decode c.code pc = .ok (.sipush i, 3)) (hp : pc + 3 = pc') (k : OG p e below P (T.setTop (mkF m pc' L (.int v :: S)))) : OG p e below P (T.setTop (mkF m pc L S)) := by
 subst hp; exact OG.of (fun t k => XS.sipush X.here hx rfl hd (hv ▸ k)) k
theorem og_aconst_null (X : Stand p l e R s m args below meth c T locs cells slots) (hx : p.tables.exec = Jvm.exec)  (hd : decode c.code pc = .ok (.aconst_null, 1)) (hp : pc + 1 = pc') (k : OG p e below P (T.setTop (mkF m pc' L (.null :: S)))) : OG p e below P (T.setTop (mkF m pc L S)) := by
 subst hp; exact OG.of (fun t k => XS.aconstNull X.here hx rfl hd k) k
theorem og_iload (X : Stand p l e R s m args below meth c T locs cells slots) (hx : p.tables.exec = Jvm.exec) {j : Nat} {v : Int32} (hl : L[j]? = some (.val (.int v))) (hd : decode c.code pc = .ok (.iload j, 2)) (hp : pc + 2 = pc') (k : OG p e below P (T.setTop (mkF m pc' L (.int v :: S)))) : OG p e below P (T.setTop (mkF m pc L S)) := by
 subst hp; exact OG.of (fun t k => XS.iload X.here hx rfl hd hl k) k
theorem og_iloadN (X : Stand p l e R s m args below meth c T locs cells slots) (hx : p.tables.exec = Jvm.exec) {j : Fin 4} {v : Int32} (hl : L[j.val]? = some (.val (.int v))) (hd : decode c.code pc = .ok (.iload_n j, 1)) (hp : pc + 1 = pc') (k : OG p e below P (T.setTop (mkF m pc' L (.int v :: S)))) : OG p e below P (T.setTop (mkF m pc L S)) := by
 subst hp; exact OG.of (fun t k => XS.iloadN X.here hx rfl hd hl k) k
theorem og_istore (X : Stand p l e R s m args below meth c T locs cells slots) (hx : p.tables.exec = Jvm.exec) {j : Nat} {v : Int32} (hl : storeLocals L j (.int v) = some L') (hd : decode c.code pc = .ok (.istore j, 2)) (hp : pc + 2 = pc') (k : OG p e below P (T.setTop (mkF m pc' L' S))) : OG p e below P (T.setTop (mkF m pc L (.int v :: S))) := by
 subst hp; exact OG.of (fun t k => XS.istore X.here hx rfl hd rfl hl k) k
theorem og_istoreN (X : Stand p l e R s m args below meth c T locs cells slots) (hx : p.tables.exec = Jvm.exec) {j : Fin 4} {v : Int32} (hl : storeLocals L j.val (.int v) = some L') (hd : decode c.code pc = .ok (.istore_n j, 1)) (hp : pc + 1 = pc') (k : OG p e below P (T.setTop (mkF m pc' L' S))) : OG p e below P (T.setTop (mkF m pc L (.int v :: S))) := by
 subst hp; exact OG.of (fun t k => XS.istoreN X.here hx rfl hd rfl hl k) k
theorem og_aload (X : Stand p l e R s m args below meth c T locs cells slots) (hx : p.tables.exec = Jvm.exec) {j : Nat} {v : Value} (hl : L[j]? = some (.val v)) (hv : v.isRef = true) (hd : decode c.code pc = .ok (.aload j, 2)) (hp : pc + 2 = pc') (k : OG p e below P (T.setTop (mkF m pc' L (v :: S)))) : OG p e below P (T.setTop (mkF m pc L S)) := by
 subst hp; exact OG.of (fun t k => XS.aload X.here hx rfl hd hl hv k) k
theorem og_aloadN (X : Stand p l e R s m args below meth c T locs cells slots) (hx : p.tables.exec = Jvm.exec) {j : Fin 4} {v : Value} (hl : L[j.val]? = some (.val v)) (hv : v.isRef = true) (hd : decode c.code pc = .ok (.aload_n j, 1)) (hp : pc + 1 = pc') (k : OG p e below P (T.setTop (mkF m pc' L (v :: S)))) : OG p e below P (T.setTop (mkF m pc L S)) := by
 subst hp; exact OG.of (fun t k => XS.aloadN X.here hx rfl hd hl hv k) k
theorem og_astore (X : Stand p l e R s m args below meth c T locs cells slots) (hx : p.tables.exec = Jvm.exec) {j : Nat} {v : Value} (hv : v.isRef = true) (hl : storeLocals L j v = some L') (hd : decode c.code pc = .ok (.astore j, 2)) (hp : pc + 2 = pc') (k : OG p e below P (T.setTop (mkF m pc' L' S))) : OG p e below P (T.setTop (mkF m pc L (v :: S))) := by
 subst hp; exact OG.of (fun t k => XS.astore X.here hx rfl hd rfl hv hl k) k
theorem og_astoreN (X : Stand p l e R s m args below meth c T locs cells slots) (hx : p.tables.exec = Jvm.exec) {j : Fin 4} {v : Value} (hv : v.isRef = true) (hl : storeLocals L j.val v = some L') (hd : decode c.code pc = .ok (.astore_n j, 1)) (hp : pc + 1 = pc') (k : OG p e below P (T.setTop (mkF m pc' L' S))) : OG p e below P (T.setTop (mkF m pc L (v :: S))) := by
 subst hp; exact OG.of (fun t k => XS.astoreN X.here hx rfl hd rfl hv hl k) k
theorem og_iinc (X : Stand p l e R s m args below meth c T locs cells slots) (hx : p.tables.exec = Jvm.exec) {j : Nat} {i : Int} {v w : Int32} (h1 : L[j]? = some (.val (.int v))) (hv : Int32.ofInt i = w) (hl : storeLocals L j (.int (v + w)) = some L') (hd : decode c.code pc = .ok (.iinc j i, 3)) (hp : pc + 3 = pc') (k : OG p e below P (T.setTop (mkF m pc' L' S))) : OG p e below P (T.setTop (mkF m pc L S)) := by
 subst hp; exact OG.of (fun t k => XS.iinc X.here hx rfl hd h1 (hv.symm ▸ hl) k) k
theorem og_dup (X : Stand p l e R s m args below meth c T locs cells slots) (hx : p.tables.exec = Jvm.exec) {v : Value} (hv : v.category = 1) (hd : decode c.code pc = .ok (.dup, 1)) (hp : pc + 1 = pc') (k : OG p e below P (T.setTop (mkF m pc' L (v :: v :: S)))) : OG p e below P (T.setTop (mkF m pc L (v :: S))) := by
 subst hp; exact OG.of (fun t k => XS.dup X.here hx rfl hd rfl hv k) k
theorem og_pop (X : Stand p l e R s m args below meth c T locs cells slots) (hx : p.tables.exec = Jvm.exec) {v : Value} (hv : v.category = 1) (hd : decode c.code pc = .ok (.pop, 1)) (hp : pc + 1 = pc') (k : OG p e below P (T.setTop (mkF m pc' L S))) : OG p e below P (T.setTop (mkF m pc L (v :: S))) := by
 subst hp; exact OG.of (fun t k => XS.pop X.here hx rfl hd rfl hv k) k
theorem og_goto (X : Stand p l e R s m args below meth c T locs cells slots) (hx : p.tables.exec = Jvm.exec) {o : Int} (hd : decode c.code pc = .ok (.goto o, 3)) (ho : 0 ≤ (pc : Int) + o) (hp : ((pc : Int) + o).toNat = pc') (k : OG p e below P (T.setTop (mkF m pc' L S))) : OG p e below P (T.setTop (mkF m pc L S)) :=
 OG.of (fun t k => XS.goto X.here hx rfl rfl hd ho hp k) k
theorem og_icmp_lt (X : Stand p l e R s m args below meth c T locs cells slots) (hx : p.tables.exec = Jvm.exec) {x y : Int32} {o : Int} (hd : decode c.code pc = .ok (.if_icmp .lt o, 3)) (ho : 0 ≤ (pc : Int) + o) (hp1 : ((pc : Int) + o).toNat = pc1) (hp2 : pc + 3 = pc2) (k1 : x < y → OG p e below P (T.setTop (mkF m pc1 L S))) (k2 : ¬ x < y → OG p e below P (T.setTop (mkF m pc2 L S))) : OG p e below P (T.setTop (mkF m pc L (.int y :: .int x :: S))) := by
  subst hp2; by_cases q : x < y
  · exact OG.of (fun t k => XS.icmpYes X.here hx rfl rfl hd rfl ((tlt q).1) ho hp1 k) (k1 q)
  · exact OG.of (fun t k => XS.icmpNo X.here hx rfl hd rfl ((flt q).1) k) (k2 q)
theorem og_if_lt (X : Stand p l e R s m args below meth c T locs cells slots) (hx : p.tables.exec = Jvm.exec) {x : Int32} {o : Int} (hd : decode c.code pc = .ok (.ifCond .lt o, 3)) (ho : 0 ≤ (pc : Int) + o) (hp1 : ((pc : Int) + o).toNat = pc1) (hp2 : pc + 3 = pc2) (k1 : x < (0 : Int32) → OG p e below P (T.setTop (mkF m pc1 L S))) (k2 : ¬ x < (0 : Int32) → OG p e below P (T.setTop (mkF m pc2 L S))) : OG p e below P (T.setTop (mkF m pc L (.int x :: S))) := by
  subst hp2; by_cases q : x < (0 : Int32)
  · exact OG.of (fun t k => XS.ifYes X.here hx rfl rfl hd rfl ((if0 _ _).trans (tlt q).1) ho hp1 k) (k1 q)
  · exact OG.of (fun t k => XS.ifNo X.here hx rfl hd rfl ((if0 _ _).trans (flt q).1) k) (k2 q)
theorem og_icmp_ge (X : Stand p l e R s m args below meth c T locs cells slots) (hx : p.tables.exec = Jvm.exec) {x y : Int32} {o : Int} (hd : decode c.code pc = .ok (.if_icmp .ge o, 3)) (ho : 0 ≤ (pc : Int) + o) (hp1 : ((pc : Int) + o).toNat = pc1) (hp2 : pc + 3 = pc2) (k1 : ¬ x < y → OG p e below P (T.setTop (mkF m pc1 L S))) (k2 : x < y → OG p e below P (T.setTop (mkF m pc2 L S))) : OG p e below P (T.setTop (mkF m pc L (.int y :: .int x :: S))) := by
  subst hp2; by_cases q : x < y
  · exact OG.of (fun t k => XS.icmpNo X.here hx rfl hd rfl ((tlt q).2.1) k) (k2 q)
  · exact OG.of (fun t k => XS.icmpYes X.here hx rfl rfl hd rfl ((flt q).2.1) ho hp1 k) (k1 q)
theorem og_if_ge (X : Stand p l e R s m args below meth c T locs cells slots) (hx : p.tables.exec = Jvm.exec) {x : Int32} {o : Int} (hd : decode c.code pc = .ok (.ifCond .ge o, 3)) (ho : 0 ≤ (pc : Int) + o) (hp1 : ((pc : Int) + o).toNat = pc1) (hp2 : pc + 3 = pc2) (k1 : ¬ x < (0 : Int32) → OG p e below P (T.setTop (mkF m pc1 L S))) (k2 : x < (0 : Int32) → OG p e below P (T.setTop (mkF m pc2 L S))) : OG p e below P (T.setTop (mkF m pc L (.int x :: S))) := by
  subst hp2; by_cases q : x < (0 : Int32)
  · exact OG.of (fun t k => XS.ifNo X.here hx rfl hd rfl ((if0 _ _).trans (tlt q).2.1) k) (k2 q)
  · exact OG.of (fun t k => XS.ifYes X.here hx rfl rfl hd rfl ((if0 _ _).trans (flt q).2.1) ho hp1 k) (k1 q)
theorem og_icmp_gt (X : Stand p l e R s m args below meth c T locs cells slots) (hx : p.tables.exec = Jvm.exec) {x y : Int32} {o : Int} (hd : decode c.code pc = .ok (.if_icmp .gt o, 3)) (ho : 0 ≤ (pc : Int) + o) (hp1 : ((pc : Int) + o).toNat = pc1) (hp2 : pc + 3 = pc2) (k1 : y < x → OG p e below P (T.setTop (mkF m pc1 L S))) (k2 : ¬ y < x → OG p e below P (T.setTop (mkF m pc2 L S))) : OG p e below P (T.setTop (mkF m pc L (.int y :: .int x :: S))) := by
  subst hp2; by_cases q : y < x
  · exact OG.of (fun t k => XS.icmpYes X.here hx rfl rfl hd rfl ((tlt q).2.2.1) ho hp1 k) (k1 q)
  · exact OG.of (fun t k => XS.icmpNo X.here hx rfl hd rfl ((flt q).2.2.1) k) (k2 q)
theorem og_if_gt (X : Stand p l e R s m args below meth c T locs cells slots) (hx : p.tables.exec = Jvm.exec) {x : Int32} {o : Int} (hd : decode c.code pc = .ok (.ifCond .gt o, 3)) (ho : 0 ≤ (pc : Int) + o) (hp1 : ((pc : Int) + o).toNat = pc1) (hp2 : pc + 3 = pc2) (k1 : (0 : Int32) < x → OG p e below P (T.setTop (mkF m pc1 L S))) (k2 : ¬ (0 : Int32) < x → OG p e below P (T.setTop (mkF m pc2 L S))) : OG p e below P (T.setTop (mkF m pc L (.int x :: S))) := by
  subst hp2; by_cases q : (0 : Int32) < x
  · exact OG.of (fun t k => XS.ifYes X.here hx rfl rfl hd rfl ((if0 _ _).trans (tlt q).2.2.1) ho hp1 k) (k1 q)
  · exact OG.of (fun t k => XS.ifNo X.here hx rfl hd rfl ((if0 _ _).trans (flt q).2.2.1) k) (k2 q)
theorem og_icmp_le (X : Stand p l e R s m args below meth c T locs cells slots) (hx : p.tables.exec = Jvm.exec) {x y : Int32} {o : Int} (hd : decode c.code pc = .ok (.if_icmp .le o, 3)) (ho : 0 ≤ (pc : Int) + o) (hp1 : ((pc : Int) + o).toNat = pc1) (hp2 : pc + 3 = pc2) (k1 : ¬ y < x → OG p e below P (T.setTop (mkF m pc1 L S))) (k2 : y < x → OG p e below P (T.setTop (mkF m pc2 L S))) : OG p e below P (T.setTop (mkF m pc L (.int y :: .int x :: S))) := by
  subst hp2; by_cases q : y < x
  · exact OG.of (fun t k => XS.icmpNo X.here hx rfl hd rfl ((tlt q).2.2.2) k) (k2 q)
  · exact OG.of (fun t k => XS.icmpYes X.here hx rfl rfl hd rfl ((flt q).2.2.2) ho hp1 k) (k1 q)
theorem og_if_le (X : Stand p l e R s m args below meth c T locs cells slots) (hx : p.tables.exec = Jvm.exec) {x : Int32} {o : Int} (hd : decode c.code pc = .ok (.ifCond .le o, 3)) (ho : 0 ≤ (pc : Int) + o) (hp1 : ((pc : Int) + o).toNat = pc1) (hp2 : pc + 3 = pc2) (k1 : ¬ (0 : Int32) < x → OG p e below P (T.setTop (mkF m pc1 L S))) (k2 : (0 : Int32) < x → OG p e below P (T.setTop (mkF m pc2 L S))) : OG p e below P (T.setTop (mkF m pc L (.int x :: S))) := by
  subst hp2; by_cases q : (0 : Int32) < x
  · exact OG.of (fun t k => XS.ifNo X.here hx rfl hd rfl ((if0 _ _).trans (tlt q).2.2.2) k) (k2 q)
  · exact OG.of (fun t k => XS.ifYes X.here hx rfl rfl hd rfl ((if0 _ _).trans (flt q).2.2.2) ho hp1 k) (k1 q)
theorem og_icmp_eq (X : Stand p l e R s m args below meth c T locs cells slots) (hx : p.tables.exec = Jvm.exec) {x y : Int32} {o : Int} (hd : decode c.code pc = .ok (.if_icmp .eq o, 3)) (ho : 0 ≤ (pc : Int) + o) (hp1 : ((pc : Int) + o).toNat = pc1) (hp2 : pc + 3 = pc2) (k1 : x = y → OG p e below P (T.setTop (mkF m pc1 L S))) (k2 : ¬ x = y → OG p e below P (T.setTop (mkF m pc2 L S))) : OG p e below P (T.setTop (mkF m pc L (.int y :: .int x :: S))) := by
  subst hp2; by_cases q : x = y
  · exact OG.of (fun t k => XS.icmpYes X.here hx rfl rfl hd rfl ((teq q).1) ho hp1 k) (k1 q)
  · exact OG.of (fun t k => XS.icmpNo X.here hx rfl hd rfl ((feq q).1) k) (k2 q)
theorem og_if_eq (X : Stand p l e R s m args below meth c T locs cells slots) (hx : p.tables.exec = Jvm.exec) {x : Int32} {o : Int} (hd : decode c.code pc = .ok (.ifCond .eq o, 3)) (ho : 0 ≤ (pc : Int) + o) (hp1 : ((pc : Int) + o).toNat = pc1) (hp2 : pc + 3 = pc2) (k1 : x = (0 : Int32) → OG p e below P (T.setTop (mkF m pc1 L S))) (k2 : ¬ x = (0 : Int32) → OG p e below P (T.setTop (mkF m pc2 L S))) : OG p e below P (T.setTop (mkF m pc L (.int x :: S))) := by
  subst hp2; by_cases q : x = (0 : Int32)
  · exact OG.of (fun t k => XS.ifYes X.here hx rfl rfl hd rfl ((if0 _ _).trans (teq q).1) ho hp1 k) (k1 q)
  · exact OG.of (fun t k => XS.ifNo X.here hx rfl hd rfl ((if0 _ _).trans (feq q).1) k) (k2 q)
theorem og_icmp_ne (X : Stand p l e R s m args below meth c T locs cells slots) (hx : p.tables.exec = Jvm.exec) {x y : Int32} {o : Int} (hd : decode c.code pc = .ok (.if_icmp .ne o, 3)) (ho : 0 ≤ (pc : Int) + o) (hp1 : ((pc : Int) + o).toNat = pc1) (hp2 : pc + 3 = pc2) (k1 : ¬ x = y → OG p e below P (T.setTop (mkF m pc1 L S))) (k2 : x = y → OG p e below P (T.setTop (mkF m pc2 L S))) : OG p e below P (T.setTop (mkF m pc L (.int y :: .int x :: S))) := by
  subst hp2; by_cases q : x = y
  · exact OG.of (fun t k => XS.icmpNo X.here hx rfl hd rfl ((teq q).2) k) (k2 q)
  · exact OG.of (fun t k => XS.icmpYes X.here hx rfl rfl hd rfl ((feq q).2) ho hp1 k) (k1 q)
theorem og_if_ne (X : Stand p l e R s m args below meth c T locs cells slots) (hx : p.tables.exec = Jvm.exec) {x : Int32} {o : Int} (hd : decode c.code pc = .ok (.ifCond .ne o, 3)) (ho : 0 ≤ (pc : Int) + o) (hp1 : ((pc : Int) + o).toNat = pc1) (hp2 : pc + 3 = pc2) (k1 : ¬ x = (0 : Int32) → OG p e below P (T.setTop (mkF m pc1 L S))) (k2 : x = (0 : Int32) → OG p e below P (T.setTop (mkF m pc2 L S))) : OG p e below P (T.setTop (mkF m pc L (.int x :: S))) := by
  subst hp2; by_cases q : x = (0 : Int32)
  · exact OG.of (fun t k => XS.ifNo X.here hx rfl hd rfl ((if0 _ _).trans (teq q).2) k) (k2 q)
  · exact OG.of (fun t k => XS.ifYes X.here hx rfl rfl hd rfl ((if0 _ _).trans (feq q).2) ho hp1 k) (k1 q)
theorem og_ifnonnull (X : Stand p l e R s m args below meth c T locs cells slots) (hx : p.tables.exec = Jvm.exec) {v : Value} (hv : v.isRef = true) {o : Int} (hd : decode c.code pc = .ok (.ifnonnull o, 3)) (ho : 0 ≤ (pc : Int) + o) (hp1 : ((pc : Int) + o).toNat = pc1) (hp2 : pc + 3 = pc2) (k1 : v ≠ .null → OG p e below P (T.setTop (mkF m pc1 L S))) (k2 : v = .null → OG p e below P (T.setTop (mkF m pc2 L S))) : OG p e below P (T.setTop (mkF m pc L (v :: S))) := by
  subst hp2; rcases ref_cases hv with rfl | ⟨b, rfl⟩
  · exact OG.of (fun t k => XS.ifnonnullNo X.here hx rfl hd rfl k) (k2 rfl)
  · exact OG.of (fun t k => XS.ifnonnullYes X.here hx rfl rfl hd rfl ho hp1 k) (k1 nofun)
theorem og_acmp_ne (X : Stand p l e R s m args below meth c T locs cells slots) (hx : p.tables.exec = Jvm.exec) {v w : Value} (hv : v.isRef = true) (hw : w.isRef = true) {o : Int} (hd : decode c.code pc = .ok (.if_acmp .ne o, 3)) (ho : 0 ≤ (pc : Int) + o) (hp1 : ((pc : Int) + o).toNat = pc1) (hp2 : pc + 3 = pc2) (k1 : ¬ v = w → OG p e below P (T.setTop (mkF m pc1 L S))) (k2 : v = w → OG p e below P (T.setTop (mkF m pc2 L S))) : OG p e below P (T.setTop (mkF m pc L (w :: v :: S))) := by
  subst hp2 hp1; by_cases q : v = w
  · exact OG.of (fun t k => Jvm.RoadKit.acmp X hx rfl hv hw (same := true) rfl hd rfl (decide_eq_true q) ho rfl k) (k2 q)
  · exact OG.of (fun t k => Jvm.RoadKit.acmp X hx rfl hv hw (same := false) rfl hd rfl (decide_eq_false q) ho rfl k) (k1 q)
theorem og_ldc (X : Stand p l e R s m args below meth c T locs cells slots) (hx : p.tables.exec = Jvm.exec) (hZ : Z.Warmed39 s.vm) {own : String} {index : Nat} {v : Int32} (hown : s.vm.findClass own = some m.cls) (w : (Cond.constant own index v).before a0 Z = true) (hd : decode c.code pc = .ok (.ldc index, 2)) (hp : pc + 2 = pc') (k : OG p e below P (T.setTop (mkF m pc' L (.int v :: S)))) : OG p e below P (T.setTop (mkF m pc L S)) := by
 subst hp; exact OG.of (X.ldcInt hx hown (mvT hZ w) (g := mkF m pc L S) rfl hd) k
theorem og_getstatic (X : Stand p l e R s m args below meth c T locs cells slots) (hx : p.tables.exec = Jvm.exec) (hZ : Z.Warmed39 s.vm) {own R0 O n d host : String} {index : Nat} (hown : s.vm.findClass own = some m.cls) (w : (Cond.fieldLink own index R0 n d).before a0 Z = true ∨ (Cond.fieldLinkNest own index R0 n d host).before a0 Z = true) (via : Via Z R0 O n d) (eT : T.heap = h) {v : Value} (F : Sta Z h O n d v) (hd : decode c.code pc = .ok (.getstatic index, 3)) (hp : pc + 3 = pc') (k : ∀ T', Stand p l e R s m args below meth c T' locs cells slots → T'.heap = h → OG p e below P (T'.setTop (mkF m pc' L (v :: S)))) : OG p e below P (T.setTop (mkF m pc L S)) := by
 subst hp; obtain ⟨T', X', e', st⟩ := getS2 X hx hZ hown w via eT F (g := mkF m pc L S) rfl hd
 exact OG.of st (k T' X' e')
theorem og_getfield (X : Stand p l e R s m args below meth c T locs cells slots) (hx : p.tables.exec = Jvm.exec) (hZ : Z.Warmed39 s.vm) {own R0 O n d host : String} {index : Nat} (hown : s.vm.findClass own = some m.cls) (w : (Cond.fieldLink own index R0 n d).before a0 Z = true ∨ (Cond.fieldLinkNest own index R0 n d host).before a0 Z = true) (via : Via Z R0 O n d) (eT : T.heap = h) {a : Addr} {v : Value} (F : Fld Z h a O n d v) (hd : decode c.code pc = .ok (.getfield index, 3)) (hp : pc + 3 = pc') (k : ∀ T', Stand p l e R s m args below meth c T' locs cells slots → T'.heap = h → OG p e below P (T'.setTop (mkF m pc' L (v :: S)))) : OG p e below P (T.setTop (mkF m pc L (.ref a :: S))) := by
 subst hp; obtain ⟨T', X', e', st⟩ := getF X hx hZ hown w via eT F (g := mkF m pc L (.ref a :: S)) rfl rfl hd
 exact OG.of st (k T' X' e')
theorem og_putfield (X : Stand p l e R s m args below meth c T locs cells slots) (hx : p.tables.exec = Jvm.exec) (hZ : Z.Warmed39 s.vm) {C : String} {kk : Nat} {ty : FieldType} {own R0 O n d host : String} {index : Nat} (hown : s.vm.findClass own = some m.cls) (w : (Cond.fieldLink own index R0 n d).before a0 Z = true ∨ (Cond.fieldLinkNest own index R0 n d host).before a0 Z = true) (via : Via Z R0 O n d) (eT : T.heap = h) {a : Addr} {v old : Value} (F : Fld Z h a O n d old) (E : Exa Z h a C) (Ly : (Cond.lays C O n d).before a0 Z = true ∨ ((Cond.laysFinal C O n d).before a0 Z = true ∧ own = O ∧ meth.name = "<init>")) (wi : (Cond.instantiable C kk).before a0 Z = true) (hty : parseFieldDescriptor d = some ty) (hn : narrow ty v = v) (hf : fits ty v = true) (hd : decode c.code pc = .ok (.putfield index, 3)) (hp : pc + 3 = pc') (k : ∀ T' h', Stand p l e R s m args below meth c T' (locs ++ [⟨a, Jvm.RoadKit.slotOf Z O n d⟩]) cells slots → T'.heap = h' → Wr h h' a (Jvm.RoadKit.slotOf Z O n d) v → OG p e below P (T'.setTop (mkF m pc' L S))) : OG p e below P (T.setTop (mkF m pc L (v :: .ref a :: S))) := by
 subst hp; obtain ⟨T', h', X', e', W', st⟩ := putF X hx hZ hown w via eT F E Ly wi hty hn hf (g := mkF m pc L (v :: .ref a :: S)) rfl rfl hd
 exact OG.of st (k T' h' X' e' W')
theorem og_new (X : Stand p l e R s m args below meth c T locs cells slots) (hx : p.tables.exec = Jvm.exec) (hZ : Z.Warmed39 s.vm) {own C : String} {index n : Nat} {cells' slots' : Nat} (hown : s.vm.findClass own = some m.cls) (w : (Cond.classLink own index C).before a0 Z = true) (wi : (Cond.instantiable C n).before a0 Z = true) (wz : (Cond.initialized C).before a0 Z = true) (eT : T.heap = h) (hd : decode c.code pc = .ok (.new index, 3)) (hp : pc + 3 = pc') (hc' : cells + 1 = cells') (hs' : slots + n = slots') (hc : cells' ≤ R.cells) (hl : slots' ≤ R.slots) (k : ∀ T' h' a, Stand p l e R s m args below meth c T' locs cells' slots' → T'.heap = h' → Ext h h' → a = h.size → Exa Z h' a C → (∀ {O nm d : String} {ty : FieldType}, Laid Z a0 C O nm d → parseFieldDescriptor d = some ty → Fld Z h' a O nm d (defaultValue ty)) → (∃ cell : Cell, h'[a]? = some cell ∧ cell.vm = .none ∧ cell.monitor = {}) → OG p e below P (T'.setTop (mkF m pc' L (.ref a :: S)))) : OG p e below P (T.setTop (mkF m pc L S)) := by
 subst hp hc' hs'; obtain ⟨T', h', X', e', E', A', D', B', st⟩ := newO X hx hZ hown w wi wz eT (g := mkF m pc L S) rfl hd hc hl
 exact OG.of st (k T' h' _ X' e' E' rfl A' D' B')
theorem og_newarray (X : Stand p l e R s m args below meth c T locs cells slots) (hx : p.tables.exec = Jvm.exec) (hZ : Z.Warmed39 s.vm) {aty : ArrayType} {ty : FieldType} {cells' slots' : Nat} (hty : newarray.typeOf aty = ty) (w : (Cond.arrayClass ty).before a0 Z = true) (eT : T.heap = h) {n : Int32} (hn : ¬ n < 0) {cap : Nat} (hcap : n.toNatClampNeg ≤ cap) (hb : cap * 8 ≤ 536870912) (hd : decode c.code pc = .ok (.newarray aty, 2)) (hp : pc + 2 = pc') (hc' : cells + 1 = cells') (hs' : slots + cap = slots') (hc : cells' ≤ R.cells) (hl : slots' ≤ R.slots) (k : ∀ T' h' a kA, Stand p l e R s m args below meth c T' locs cells' slots' → T'.heap = h' → Ext h h' → a = h.size → Arv Z h' a kA ty n [] (defaultValue ty) → OG p e below P (T'.setTop (mkF m pc' L (.ref a :: S)))) : OG p e below P (T.setTop (mkF m pc L (.int n :: S))) := by
 subst hp hc' hs' hty; obtain ⟨T', h', kA, X', e', E', A', st⟩ := newP X hx hZ w eT (g := mkF m pc L (.int n :: S)) rfl hd rfl hn hcap hb hc hl
 exact OG.of st (k T' h' _ kA X' e' E' rfl (Arv.new A' hn))
theorem og_castore (X : Stand p l e R s m args below meth c T locs cells slots) (hx : p.tables.exec = Jvm.exec) (hZ : Z.Warmed39 s.vm) (eT : T.heap = h) {a : Addr} {kA : ClassId} {j x z : Int32} {vs : List Value} {dv : Value} (F : Arv Z h a kA .char z vs dv) (q : ¬ j < 0 ∧ j < z) (i : Nat) (hj : j.toNatClampNeg = i) (hi : i < vs.length) (hd : decode c.code pc = .ok (.castore, 1)) (hp : pc + 1 = pc') (k : ∀ T' h', Stand p l e R s m args below meth c T' (locs ++ [⟨a, j.toNatClampNeg⟩]) cells slots → T'.heap = h' → Wr h h' a j.toNatClampNeg (.int (nar .char x)) → Arv Z h' a kA .char z (vs.set i (.int (nar .char x))) dv → OG p e below P (T'.setTop (mkF m pc' L S))) : OG p e below P (T.setTop (mkF m pc L (.int x :: .int j :: .ref a :: S))) := by
 subst hp; obtain ⟨cl, A, q1, S1, q3, H, G⟩ := F
 obtain ⟨T', h', X', e', W', st⟩ := stC X hx hZ eT A (j := j) (inb_of S1 q) (g := mkF m pc L (.int x :: .int j :: .ref a :: S)) rfl rfl hd
 exact OG.of st (k T' h' X' e' W' (Arv.set A q1 S1 q3 H G (fits_nar_char _) W' i hj hi))
theorem og_bastore (X : Stand p l e R s m args below meth c T locs cells slots) (hx : p.tables.exec = Jvm.exec) (hZ : Z.Warmed39 s.vm) (eT : T.heap = h) {a : Addr} {kA : ClassId} {j x z : Int32} {vs : List Value} {dv : Value} (F : Arv Z h a kA .byte z vs dv) (q : ¬ j < 0 ∧ j < z) (i : Nat) (hj : j.toNatClampNeg = i) (hi : i < vs.length) (hd : decode c.code pc = .ok (.bastore, 1)) (hp : pc + 1 = pc') (k : ∀ T' h', Stand p l e R s m args below meth c T' (locs ++ [⟨a, j.toNatClampNeg⟩]) cells slots → T'.heap = h' → Wr h h' a j.toNatClampNeg (.int (nar .byte x)) → Arv Z h' a kA .byte z (vs.set i (.int (nar .byte x))) dv → OG p e below P (T'.setTop (mkF m pc' L S))) : OG p e below P (T.setTop (mkF m pc L (.int x :: .int j :: .ref a :: S))) := by
 subst hp; obtain ⟨cl, A, q1, S1, q3, H, G⟩ := F
 obtain ⟨T', h', X', e', W', st⟩ := stB X hx hZ eT A (j := j) (inb_of S1 q) (g := mkF m pc L (.int x :: .int j :: .ref a :: S)) rfl rfl hd
 exact OG.of st (k T' h' X' e' W' (Arv.set A q1 S1 q3 H G (fits_nar_byte _) W' i hj hi))
theorem og_caload (X : Stand p l e R s m args below meth c T locs cells slots) (hx : p.tables.exec = Jvm.exec) (hZ : Z.Warmed39 s.vm) (eT : T.heap = h) {a : Addr} {kA : ClassId} {j z : Int32} {vs : List Value} {dv v : Value} (F : Arv Z h a kA .char z vs dv) (q : ¬ j < 0 ∧ j < z) (hv : vs.getD j.toNatClampNeg dv = v) (hd : decode c.code pc = .ok (.caload, 1)) (hp : pc + 1 = pc') (k : OG p e below P (T.setTop (mkF m pc' L (v :: S)))) : OG p e below P (T.setTop (mkF m pc L (.int j :: .ref a :: S))) := by
 subst hp; obtain ⟨cl, A, q1, S1, q3, H, G⟩ := F
 exact OG.of (fun t k => X.caload hx (j := j) (v := v) (by rw [eT]; exact A.1) (State.isArrayOf_alike hZ.alike A.2.1) A.2.2 (inb_of S1 q) (H.at (inb_of S1 q) hv) (g := mkF m pc L (.int j :: .ref a :: S)) rfl rfl hd t k) k
theorem og_baload (X : Stand p l e R s m args below meth c T locs cells slots) (hx : p.tables.exec = Jvm.exec) (hZ : Z.Warmed39 s.vm) (eT : T.heap = h) {a : Addr} {kA : ClassId} {j z : Int32} {vs : List Value} {dv v : Value} (F : Arv Z h a kA .byte z vs dv) (q : ¬ j < 0 ∧ j < z) (hv : vs.getD j.toNatClampNeg dv = v) (hd : decode c.code pc = .ok (.baload, 1)) (hp : pc + 1 = pc') (k : OG p e below P (T.setTop (mkF m pc' L (v :: S)))) : OG p e below P (T.setTop (mkF m pc L (.int j :: .ref a :: S))) := by
 subst hp; obtain ⟨cl, A, q1, S1, q3, H, G⟩ := F
 exact OG.of (fun t k => X.baloadBytes hx (j := j) (v := v) (by rw [eT]; exact A.1) (State.isArrayOf_alike hZ.alike A.2.1) A.2.2 (inb_of S1 q) (H.at (inb_of S1 q) hv) (g := mkF m pc L (.int j :: .ref a :: S)) rfl rfl hd t k) k
theorem og_arraylength (X : Stand p l e R s m args below meth c T locs cells slots) (hx : p.tables.exec = Jvm.exec) (hZ : Z.Warmed39 s.vm) (eT : T.heap = h) {a : Addr} {kA : ClassId} {z : Int32} {vs : List Value} {dv : Value} {ty : FieldType} (F : Arv Z h a kA ty z vs dv) (hd : decode c.code pc = .ok (.arraylength, 1)) (hp : pc + 1 = pc') (k : OG p e below P (T.setTop (mkF m pc' L (.int z :: S)))) : OG p e below P (T.setTop (mkF m pc L (.ref a :: S))) := by
 subst hp; obtain ⟨cl, A, q1, S1, q3, H, G⟩ := F
 refine OG.of (fun t k => X.arraylength hx (by rw [eT]; exact A.1) (State.isArrayOf_alike hZ.alike A.2.1) (g := mkF m pc L (.ref a :: S)) rfl rfl hd t k) ?_
 rw [len_of S1 q3]; exact k
theorem og_initO (X : Stand p l e R s m args below meth c T locs cells slots) (hx : p.tables.exec = Jvm.exec) (hZ : Z.Warmed39 s.vm) {own : String} {idx : Nat} (hml : L.size = c.maxLocals) (hown : s.vm.findClass own = some m.cls) (w1 : (Cond.methodLink own idx Lib.objectInit).before a0 Z = true) (w2 : (Cond.instanceMethod Lib.objectInit).before a0 Z = true) (w3 : (Cond.code Lib.objectInit ⟨#[0xb1]⟩ 1 none).before a0 Z = true) (eT : T.heap = h) {a : Addr} {W : Nat} (hW : (S.map fun v => v.category).sum = W) (hf : 1 ≤ R.frames) (hl : W + 12 ≤ R.locals) (hd : decode c.code pc = .ok (.invokespecial idx, 3)) (hp : pc + 3 = pc') (k : ∀ T', Stand p l e R s m args below meth c T' locs cells slots → T'.heap = h → OG p e below P (T'.setTop (mkF m pc' L S))) : OG p e below P (T.setTop (mkF m pc L (.ref a :: S))) := by
 subst hp; obtain ⟨T', X', e', st⟩ := initO X hx hZ hown w1 w2 w3 eT (g := mkF m pc L (.ref a :: S)) rfl hml rfl hd hf (W := W) (by show 2 * 0 + _ ≤ _; rw [hW]; omega) hl
 exact OG.of st (k T' X' e')
theorem og_arraycopy (X : Stand p l e R s m args below meth c T locs cells slots) (hx : p.tables.exec = Jvm.exec) (hZ : Z.Warmed39 s.vm) {own : String} {index : Nat} (hml : L.size = c.maxLocals) (hown : s.vm.findClass own = some m.cls) (w1 : (Cond.methodLink own index Jvm.Stand.acN).before a0 Z = true) (w2 : (Cond.native Jvm.Stand.acN).before a0 Z = true) (w3 : (Cond.static Jvm.Stand.acN).before a0 Z = true) (w4 : (Cond.initialized "java/lang/System").before a0 Z = true) (eT : T.heap = h) {a b : Addr} {kA kB : ClassId} {ty : FieldType} {z z' sp dp nn : Int32} {vs vd us : List Value} {dv dd : Value} (A : Arv Z h a kA ty z vs dv) (B : Arv Z h b kB ty z' vd dd) (hty : refKind ty = false) (h1 : ¬ sp < 0) (h2 : ¬ dp < 0) (h3 : ¬ nn < 0) (h4 : sp.toNatClampNeg + nn.toNatClampNeg ≤ z.toNatClampNeg) (h5 : dp.toNatClampNeg + nn.toNatClampNeg ≤ z'.toNatClampNeg) (hus : us = (List.range nn.toNatClampNeg).map fun i => vs.getD (sp.toNatClampNeg + i) dv) (hl : dp.toNatClampNeg + nn.toNatClampNeg ≤ vd.length) {n0 : Nat} (N : Fr n0 locs) (ge : n0 ≤ b) {W : Nat} (hW : (S.map fun v => v.category).sum = W) (hf : 1 ≤ R.frames) (hlo : W + (nativeFrameWords "java/lang/System" "arraycopy" 5 + 11) ≤ R.locals) (hd : decode c.code pc = .ok (.invokestatic index, 3)) (hp : pc + 3 = pc') (k : ∀ T' h' l', Stand p l e R s m args below meth c T' l' cells slots → T'.heap = h' → Fr n0 l' → Keep h h' [b] → Arv Z h' b kB ty z' (vd.take dp.toNatClampNeg ++ us ++ vd.drop (dp.toNatClampNeg + nn.toNatClampNeg)) dd → OG p e below P (T'.setTop (mkF m pc' L S))) : OG p e below P (T.setTop (mkF m pc L (.int nn :: .int dp :: .ref b :: .int sp :: .ref a :: S))) := by
 subst hp; obtain ⟨T', h', l', X', e', N', K', V', st⟩ := cpA X hx hZ hown w1 w2 w3 w4 eT A B (Or.inl ⟨rfl, hty⟩) h1 h2 h3 h4 h5 hus hl N ge (g := mkF m pc L (.int nn :: .int dp :: .ref b :: .int sp :: .ref a :: S)) rfl hml rfl hd hf (W := W) (by show 2 * 0 + _ ≤ _; rw [hW]; omega) hlo
 exact OG.of st (k T' h' l' X' e' N' K' V')
def Con (l : Launch) (Z : State) (y : MethodName) (bytes : ByteArray) (maxL : Nat) (ret : Option FieldType) (rm : Room) (as' : Array Value) (h : Heap) (Q : Option Value → Heap → List Loc → Prop) : Prop :=
 MetFree l y (head1 [Cond.code y bytes maxL ret] rm) (fun a U => a = as' ∧ Z.Warmed39 U.vm ∧ U.heap = h) (fun _ _ _ _ _ => True) (fun _ U o U' => ∃ v L, o = .returned v ∧ Q v U'.heap L ∧ FrameEnd U o U' L rm.cells rm.slots)
abbrev OFin (s : State) (Q : Option Value → Heap → List Loc → Prop) (k n : Nat) (o : Outcome) (t : State) : Prop := ∃ v L, o = .returned v ∧ Q v t.heap L ∧ FrameEnd s o t L k n
theorem own_start {y : MethodName} {bytes : ByteArray} {maxL : Nat} {ret : Option FieldType} {rm : Room} {as' : Array Value} {ws : List Cond} {Q : Option Value → Heap → List Loc → Prop} {kc ks : Nat} (hpn : plainFor y = true)
  (body : ∀ (p : Program) (e : Env) (s : State) (m : MethodId) (below : List Frame) (meth : Method) (c : Code) (T : State), Stand p l e rm s m as' below meth c T [] 0 0 → p.tables.exec = Jvm.exec → c.code = bytes → c.maxLocals = maxL → Z.Warmed39 s.vm → s.vm.findClass y.cls = some m.cls → meth.name = y.name → meth.sig.returnType = ret → meth.locks = false → T.heap = h → OG p e below (OFin s Q kc ks) (T.setTop (entryFrame m as' maxL))) :
  MetFree l y (head1 (Cond.code y bytes maxL ret :: ws) rm) (fun a U => a = as' ∧ Z.Warmed39 U.vm ∧ U.heap = h) (fun _ _ _ _ _ => True) (fun _ U o U' => ∃ v L, o = .returned v ∧ Q v U'.heap L ∧ FrameEnd U o U' L kc ks) := by
 refine MetFree.of_bodySF hpn hisR ?_
 intro p e s m args below meth c s₁ Bd hml0 hP hK
 obtain ⟨rfl, hZ, hh⟩ := hP
 exact body p e s m below meth c s₁ (Stand.of_body Bd) Bd.exec Bd.bytes hml0 hZ (findClass_of_methodNamed Bd.named) (name_of_methodNamed Bd.named Bd.method).1 Bd.returns Bd.notSynchronized (by rw [← hh, Bd.state]; rfl)
theorem own_startC {y : MethodName} {bytes : ByteArray} {maxL : Nat} {ret : Option FieldType} {rm : Room} {as' : Array Value} {Q : Option Value → Heap → List Loc → Prop} (hpn : plainFor y = true)
  (body : ∀ (p : Program) (e : Env) (s : State) (m : MethodId) (below : List Frame) (meth : Method) (c : Code) (T : State), Stand p l e rm s m as' below meth c T [] 0 0 → p.tables.exec = Jvm.exec → c.code = bytes → c.maxLocals = maxL → Z.Warmed39 s.vm → s.vm.findClass y.cls = some m.cls → meth.name = y.name → meth.sig.returnType = ret → meth.locks = false → T.heap = h → OG p e below (OFin s Q rm.cells rm.slots) (T.setTop (entryFrame m as' maxL))) : Con l Z y bytes maxL ret rm as' h Q := own_start (Q := Q) hpn body
theorem og_ret (X : Stand p l e R s m args below meth c T locs cells slots) (hlk : meth.locks = false) {Q : Option Value → Heap → List Loc → Prop} {kc ks : Nat} {g : JFrame} (v : Option Value) (hv : meth.sig.returnType = none → v = none)
  (st : ∀ fs, (∀ (f : JFrame) (acts : List Action), f.method = m → f.locked = none → f.entered = [] → (doReturn e (T.setTop f) acts v).1 = T.setFrames fs) → Steps p.tables e below (T.setTop g) (T.setFrames fs)) (hc : cells ≤ kc) (hs : slots ≤ ks) (hQ : Q v T.heap locs) : OG p e below (OFin s Q kc ks) (T.setTop g) := by
 obtain ⟨fs, hr, hrun, hended, hW, hsame⟩ := X.leave hv hlk
 exact ⟨_, _, st fs hr, hrun, hended, v, locs, rfl, hQ, ⟨_, rfl⟩, hW, hsame.mono hc hs⟩
theorem og_retI (X : Stand p l e R s m args below meth c T locs cells slots) (hx : p.tables.exec = Jvm.exec) (hlk : meth.locks = false) (hret : meth.sig.returnType = some .int) {Q : Option Value → Heap → List Loc → Prop} {kc ks : Nat} {z : Int32} (hd : decode c.code pc = .ok (.ireturn, 1)) (hc : cells ≤ kc) (hs : slots ≤ ks) (hQ : Q (some (.int z)) T.heap locs) : OG p e below (OFin s Q kc ks) (T.setTop (mkF m pc L (.int z :: S))) :=
 og_ret X hlk (some (.int z)) (fun q => by rw [hret] at q; cases q) (fun fs hr => retI X hx hret hd hr) hc hs hQ
theorem og_retN (X : Stand p l e R s m args below meth c T locs cells slots) (hx : p.tables.exec = Jvm.exec) (hlk : meth.locks = false) {t : FieldType} (hret : meth.sig.returnType = some t) (ht : t = .boolean ∨ t = .byte ∨ t = .char ∨ t = .short) {Q : Option Value → Heap → List Loc → Prop} {kc ks : Nat} {z : Int32} (hd : decode c.code pc = .ok (.ireturn, 1)) (hc : cells ≤ kc) (hs : slots ≤ ks) (hQ : Q (some (.int (nar t z))) T.heap locs) : OG p e below (OFin s Q kc ks) (T.setTop (mkF m pc L (.int z :: S))) :=
 og_ret X hlk (some (.int (nar t z))) (fun q => by rw [hret] at q; cases q) (fun fs hr => retN X hx hret ht hd hr) hc hs hQ
theorem og_retR (X : Stand p l e R s m args below meth c T locs cells slots) (hx : p.tables.exec = Jvm.exec) (hlk : meth.locks = false) {t : FieldType} (hret : meth.sig.returnType = some t) (ht : t.isReference = true) {Q : Option Value → Heap → List Loc → Prop} {kc ks : Nat} {v : Value} (hv : v.isRef = true) (hn : narrow t v = v) (hd : decode c.code pc = .ok (.areturn, 1)) (hc : cells ≤ kc) (hs : slots ≤ ks) (hQ : Q (some v) T.heap locs) : OG p e below (OFin s Q kc ks) (T.setTop (mkF m pc L (v :: S))) :=
 og_ret X hlk (some v) (fun q => by rw [hret] at q; cases q) (fun fs hr => retOut X hx hret hn (Or.inr (Or.inr (Or.inr (Or.inr ⟨rfl, ht, hv⟩)))) hd hr) hc hs hQ
theorem og_retV (X : Stand p l e R s m args below meth c T locs cells slots) (hx : p.tables.exec = Jvm.exec) (hlk : meth.locks = false) (hret : meth.sig.returnType = none) {Q : Option Value → Heap → List Loc → Prop} {kc ks : Nat} (hd : decode c.code pc = .ok (.return_, 1)) (hc : cells ≤ kc) (hs : slots ≤ ks) (hQ : Q none T.heap locs) : OG p e below (OFin s Q kc ks) (T.setTop (mkF m pc L [])) :=
 og_ret X hlk none (fun _ => rfl) (fun fs hr => X.returnOut hx hret hd hr) hc hs hQ
theorem og_static (X : Stand p l e R s m args below meth c T locs cells slots) (hx : p.tables.exec = Jvm.exec) (hZ : Z.Warmed39 s.vm) {own : String} {index : Nat} {y : MethodName} {bytes : ByteArray} {maxL : Nat} {ret : Option FieldType} {rm : Room} {as' : Array Value} {Q : Option Value → Heap → List Loc → Prop} {W cells' slots' : Nat} (hM : Con l Z y bytes maxL ret rm as' h Q) (hown : s.vm.findClass own = some m.cls) (w1 : (Cond.methodLink own index y).before a0 Z = true) (w2 : (Cond.static y).before a0 Z = true) (wz : (Cond.initialized y.cls).before a0 Z = true) (wc : (Cond.code y bytes maxL ret).before a0 Z = true) (hy : y.cls ≠ "java/lang/invoke/MethodHandle" ∧ y.cls ≠ "java/lang/invoke/VarHandle") (hml : L.size = c.maxLocals) (eT : T.heap = h) {ps : List FieldType} {rt : Option FieldType} (hpd : parseMethodDescriptor y.desc = some ⟨ps, rt⟩) (argsL rest : List Value) (hll : argsL.length = ps.length) (has : argsL.toArray = as') (hst : S = argsL.reverse ++ rest) (hW : (rest.map fun v => v.category).sum = W) (hf : rm.frames + 1 ≤ R.frames) (hl : W + (maxL + 11) + rm.locals ≤ R.locals) (hc' : cells + rm.cells = cells') (hs' : slots + rm.slots = slots') (hc : cells' ≤ R.cells) (hs : slots' ≤ R.slots) (hd : decode c.code pc = .ok (.invokestatic index, 3)) (hp : pc + 3 = pc') (k : ∀ v T' h' Lc, Stand p l e R s m args below meth c T' (locs ++ Lc) cells' slots' → T'.heap = h' → Q v h' Lc → OG p e below P (T'.setTop (mkF m pc' L (v.toList ++ rest)))) : OG p e below P (T.setTop (mkF m pc L S)) := by
 subst hp hst hc' hs' has
 obtain ⟨v, _, ⟨T1, L1, k1, n1⟩, -, X1, ⟨Lc, hQ, l1, y1, z1⟩, st⟩ := Jvm.LawKit.callS X hx (y := y) hown (mvT hZ w1) (mvT hZ w2) (mvT hZ wz) (mvT hZ wc) hy (backOf (W := W) hM hZ wc wz hf hl) (g := mkF m pc L (argsL.reverse ++ rest)) rfl hml (argsL := argsL) (rest := rest) (lenOf hpd hll) rfl (by show 2 * 0 + _ ≤ _; rw [hW]; omega) hd (fun _ _ => ⟨rfl, eT, hc, hs⟩)
 dsimp only [Pt.U, Pt.locs, Pt.cells, Pt.slots] at X1 l1 y1 z1 st hQ
 subst l1 y1 z1
 exact OG.of st (k v T1 _ Lc X1 rfl hQ)
theorem og_special (X : Stand p l e R s m args below meth c T locs cells slots) (hx : p.tables.exec = Jvm.exec) (hZ : Z.Warmed39 s.vm) {own : String} {index : Nat} {y : MethodName} {bytes : ByteArray} {maxL : Nat} {rm : Room} {as' : Array Value} {Q : Option Value → Heap → List Loc → Prop} {W cells' slots' : Nat} (hM : Con l Z y bytes maxL none rm as' h Q) (hin : y.name = "<init>") (hown : s.vm.findClass own = some m.cls) (w1 : (Cond.methodLink own index y).before a0 Z = true) (w2 : (Cond.instanceMethod y).before a0 Z = true) (wz : (Cond.initialized y.cls).before a0 Z = true) (wc : (Cond.code y bytes maxL none).before a0 Z = true) (hy : y.cls ≠ "java/lang/invoke/MethodHandle" ∧ y.cls ≠ "java/lang/invoke/VarHandle") (hml : L.size = c.maxLocals) (eT : T.heap = h) {ps : List FieldType} {rt : Option FieldType} (hpd : parseMethodDescriptor y.desc = some ⟨ps, rt⟩) {a : Addr} (argsL rest : List Value) (hll : argsL.length = ps.length) (has : (.ref a :: argsL).toArray = as') (hst : S = argsL.reverse ++ .ref a :: rest) (hW : (rest.map fun v => v.category).sum = W) (hf : rm.frames + 1 ≤ R.frames) (hl : W + (maxL + 11) + rm.locals ≤ R.locals) (hc' : cells + rm.cells = cells') (hs' : slots + rm.slots = slots') (hc : cells' ≤ R.cells) (hs : slots' ≤ R.slots) (hd : decode c.code pc = .ok (.invokespecial index, 3)) (hp : pc + 3 = pc') (k : ∀ v T' h' Lc, Stand p l e R s m args below meth c T' (locs ++ Lc) cells' slots' → T'.heap = h' → Q v h' Lc → OG p e below P (T'.setTop (mkF m pc' L (v.toList ++ rest)))) : OG p e below P (T.setTop (mkF m pc L S)) := by
 subst hp hst hc' hs' has
 obtain ⟨v, _, ⟨T1, L1, k1, n1⟩, -, X1, ⟨Lc, hQ, l1, y1, z1⟩, st⟩ := X.specialBack hx (y := y) hin hown (mvT hZ w1) (mvT hZ w2) (mvT hZ wc) hy (backOf (W := W) hM hZ wc wz hf hl) (g := mkF m pc L (argsL.reverse ++ .ref a :: rest)) rfl hml (Steps.refl _) (a := a) (argsL := argsL) (rest := rest) (lenOf hpd hll) rfl (by show 2 * 0 + _ ≤ _; rw [hW]; omega) hd (fun _ _ => ⟨rfl, eT, hc, hs⟩)
 dsimp only [Pt.U, Pt.locs, Pt.cells, Pt.slots] at X1 l1 y1 z1 st hQ
 subst l1 y1 z1
 exact OG.of (fun t k => st.trans k) (k v T1 _ Lc X1 rfl hQ)
theorem og_virtual (X : Stand p l e R s m args below meth c T locs cells slots) (hx : p.tables.exec = Jvm.exec) (hZ : Z.Warmed39 s.vm) {own C : String} {index : Nat} {y z : MethodName} {bytes : ByteArray} {maxL : Nat} {ret : Option FieldType} {rm : Room} {as' : Array Value} {Q : Option Value → Heap → List Loc → Prop} {W cells' slots' : Nat} (hM : Con l Z z bytes maxL ret rm as' h Q) (hown : s.vm.findClass own = some m.cls) (w1 : (Cond.methodLink own index y).before a0 Z = true) (w2 : (Cond.declares y).before a0 Z = true) (hnf : NotFace s y) (w3 : (Cond.selects C y z).before a0 Z = true) (w4 : (Cond.instanceMethod z).before a0 Z = true) (wz : (Cond.initialized z.cls).before a0 Z = true) (wc : (Cond.code z bytes maxL ret).before a0 Z = true) (hy : y.cls ≠ "java/lang/invoke/MethodHandle" ∧ y.cls ≠ "java/lang/invoke/VarHandle") (hml : L.size = c.maxLocals) (eT : T.heap = h) {ps : List FieldType} {rt : Option FieldType} (hpd : parseMethodDescriptor y.desc = some ⟨ps, rt⟩) {a : Addr} (argsL rest : List Value) (hll : argsL.length = ps.length) (has : (.ref a :: argsL).toArray = as') (hst : S = argsL.reverse ++ .ref a :: rest) (hW : (rest.map fun v => v.category).sum = W) (hf : rm.frames + 1 ≤ R.frames) (hl : W + (maxL + 11) + rm.locals ≤ R.locals) (hc' : cells + rm.cells = cells') (hs' : slots + rm.slots = slots') (hc : cells' ≤ R.cells) (hs : slots' ≤ R.slots) (E : Exa Z h a C) (hd : decode c.code pc = .ok (.invokevirtual index, 3)) (hp : pc + 3 = pc') (k : ∀ v T' h' Lc, Stand p l e R s m args below meth c T' (locs ++ Lc) cells' slots' → T'.heap = h' → Q v h' Lc → OG p e below P (T'.setTop (mkF m pc' L (v.toList ++ rest)))) : OG p e below P (T.setTop (mkF m pc L S)) := by
 subst hp hst hc' hs' has
 obtain ⟨cq, kq, qa, qb, qc⟩ := isOf hZ eT E
 obtain ⟨v, _, ⟨T1, L1, k1, n1⟩, -, X1, ⟨Lc, hQ, l1, y1, z1⟩, st⟩ := X.virtualBack hx (y := y) (z := z) hown (mvT hZ w1) (mvT hZ w2) hnf (mvT hZ w3) (mvT hZ w4) hy (backOf (W := W) hM hZ wc wz hf hl) qa qc (g := mkF m pc L (argsL.reverse ++ .ref a :: rest)) rfl hml (Steps.refl _) (argsL := argsL) (rest := rest) (lenOf hpd hll) rfl (by show 2 * 0 + _ ≤ _; rw [hW]; omega) hd (fun _ _ => ⟨rfl, eT, hc, hs⟩)
 dsimp only [Pt.U, Pt.locs, Pt.cells, Pt.slots] at X1 l1 y1 z1 st hQ
 subst l1 y1 z1
 exact OG.of (fun t k => st.trans k) (k v T1 _ Lc X1 rfl hQ)
theorem own_nf (hZ : Z.Warmed39 s.vm) {C : String} {y : MethodName} (w : (Cond.selects C y y).before a0 Z = true) : NotFace s y := notFace_of_selects (args := #[]) (mvT hZ w)
theorem own_n0 {n0 : Nat} (O : Old Z n0 h) : n0 ≤ h.size := O.1 ▸ O.2.1
end OwnKit
section OwnKitW
variable {p : Program} {l : Launch} {e : Env} {R : Room} {s : State} {m : MethodId} {args : Array Value} {below : List Frame} {meth : Method} {c : Code} {T : State} {locs : List Loc} {cells slots : Nat} {Z : State} {a0 : Array Value} {h : Heap} {P : Outcome → State → Prop} {pc pc' pc1 pc2 : Nat} {L L' : Array Slot} {S : List Value} {vm : Vm} {EL : List (String × Nat)} {k0 : Nat}
abbrev FinW (s Z : State) (EL : List (String × Nat)) (Q : Option Value → Heap → List Loc → Prop) (k n : Nat) (o : Outcome) (t : State) : Prop := ∃ v L, o = .returned v ∧ Q v t.heap L ∧ CHr Z EL s.vm s.heap t.vm t.heap ∧ ReturnedEndW s o t L k n
def ConW (l : Launch) (Z : State) (EL : List (String × Nat)) (sw : List Addr) (y : MethodName) (bytes : ByteArray) (maxL : Nat) (ret : Option FieldType) (rm : Room) (as' : Array Value) (h : Heap) (Q : Option Value → Heap → List Loc → Prop) : Prop :=
 MetFree l y (head1 [Cond.code y bytes maxL ret] rm) (fun a U => a = as' ∧ Z.Warmed39 U.vm ∧ U.heap = h ∧ CHv Z EL U.vm h ∧ ∀ x ∈ sw, Safe Z EL U.vm h x) (fun _ _ _ _ _ => True) (fun _ U o U' => ∃ v L, o = .returned v ∧ Q v U'.heap L ∧ CHr Z EL U.vm U.heap U'.vm U'.heap ∧ ReturnedEndW U o U' L rm.cells rm.slots)
theorem own_since (s : State) (n : Nat) : s.Since s.vm n := ⟨State.Warmed39.refl s, by first | exact State.Booked.refl _ _ | (intro j q h1 h2; exact absurd (Array.getElem?_eq_some_iff.mp h2).1 (Nat.not_lt.mpr h1)) | simp [State.Booked]⟩
theorem own_backW {sw : List Addr} {y : MethodName} {bytes : ByteArray} {maxL : Nat} {ret : Option FieldType} {rm : Room} {len W : Nat} {as' : Array Value} {Q : Option Value → Heap → List Loc → Prop} (hM : ConW l Z EL sw y bytes maxL ret rm as' h Q) (hZ : Z.Warmed39 vm) (wc : (Cond.code y bytes maxL ret).before a0 Z = true) (wz : (Cond.initialized y.cls).before a0 Z = true) (hf : rm.frames + 1 ≤ R.frames) (hl : W + (maxL + 11) + rm.locals ≤ R.locals) (hEL : EW Z a0 EL) (H : CHv Z EL vm h) (hsw : ∀ x ∈ sw, x < h.size ∧ Safe Z EL vm h x) :
    BackS l R p e below (s.setVm vm) args y len W (fun A a => a = as' ∧ A.U.heap = h ∧ A.cells + rm.cells ≤ R.cells ∧ A.slots + rm.slots ≤ R.slots) (fun A _ v B => ∃ L, Q v B.U.heap L ∧ B.locs = A.locs ++ L ∧ B.cells = A.cells + rm.cells ∧ B.slots = A.slots + rm.slots ∧ CHr Z EL vm h B.U.vm B.U.heap) := by
  refine BackS.of_freeW (bytes := bytes) (maxL := maxL) (ret := ret) (E := fun _ first o t L k n => k = rm.cells ∧ n = rm.slots ∧ (∃ v, o = .returned v ∧ Q v t.heap L) ∧ CHr Z EL first.vm first.heap t.vm t.heap) hM hf hl ?_ ?_ (fun _ _ _ _ _ _ _ _ _ => trivial) ?_ ?_
  · intro m meth c A a Y hp
    have hU : Z.Warmed39 A.U.vm := wtrans (s := s.setVm vm) hZ Y.warmed
    exact ⟨by show (Cond.and _ .tt).before a A.U = true; rw [Cond.before_and, mv hU wc]; rfl, mv hU wc, mv hU wz, hp.2.2.1, hp.2.2.2⟩
  · intro m meth c A a g mk Y hp
    have q := CHv.at Y hZ hEL H
    exact ⟨hp.1, wtrans (s := s.setVm vm) hZ Y.warmed, hp.2.1, q.1, fun x hx => q.safe (hsw x hx).1 (hsw x hx).2⟩
  · rintro _ _ _ _ ⟨v, L, h1, h2, h3, h4⟩
    exact ⟨L, _, _, h4, rfl, rfl, ⟨v, h1, h2⟩, h3⟩
  · rintro m meth c A a g mk v t L k n Y hp _ _ ⟨e1, e2, ⟨v', e3, e4⟩, e5⟩
    cases e3; subst e1 e2
    refine ⟨L, e4, rfl, rfl, rfl, (CHv.at Y hZ hEL H).trans ?_⟩
    rw [← hp.2.1]; exact e5
theorem own_startW {sw : List Addr} {y : MethodName} {bytes : ByteArray} {maxL : Nat} {ret : Option FieldType} {rm : Room} {as' : Array Value} {ws : List Cond} {Q : Option Value → Heap → List Loc → Prop} {kc ks : Nat} (hpn : plainFor y = true)
  (body : ∀ (p : Program) (e : Env) (s : State) (m : MethodId) (below : List Frame) (meth : Method) (c : Code) (T : State), Stand p l e rm (s.setVm s.vm) m as' below meth c T [] 0 0 → p.tables.exec = Jvm.exec → c.code = bytes → c.maxLocals = maxL → Z.Warmed39 s.vm → s.vm.findClass y.cls = some m.cls → meth.name = y.name → meth.sig.returnType = ret → meth.locks = false → T.heap = h → s.heap = h → s.Since s.vm h.size → CHr Z EL s.vm h s.vm h → (∀ x ∈ sw, Safe Z EL s.vm h x) → OG p e below (FinW s Z EL Q kc ks) (T.setTop (entryFrame m as' maxL))) :
  MetFree l y (head1 (Cond.code y bytes maxL ret :: ws) rm) (fun a U => a = as' ∧ Z.Warmed39 U.vm ∧ U.heap = h ∧ CHv Z EL U.vm h ∧ ∀ x ∈ sw, Safe Z EL U.vm h x) (fun _ _ _ _ _ => True) (fun _ U o U' => ∃ v L, o = .returned v ∧ Q v U'.heap L ∧ CHr Z EL U.vm U.heap U'.vm U'.heap ∧ ReturnedEndW U o U' L kc ks) := by
 refine MetFree.of_bodySF hpn hisR ?_
 intro p e s m args below meth c s₁ Bd hml0 hP hK
 obtain ⟨rfl, hZ, hh, hC, hQ⟩ := hP
 exact body p e s m below meth c s₁ (Stand.of_body Bd) Bd.exec Bd.bytes hml0 hZ (findClass_of_methodNamed Bd.named) (name_of_methodNamed Bd.named Bd.method).1 Bd.returns Bd.notSynchronized (by rw [← hh, Bd.state]; rfl) hh (own_since s _) (CHr.refl hC) hQ
theorem own_startWC {sw : List Addr} {y : MethodName} {bytes : ByteArray} {maxL : Nat} {ret : Option FieldType} {rm : Room} {as' : Array Value} {Q : Option Value → Heap → List Loc → Prop} (hpn : plainFor y = true)
  (body : ∀ (p : Program) (e : Env) (s : State) (m : MethodId) (below : List Frame) (meth : Method) (c : Code) (T : State), Stand p l e rm (s.setVm s.vm) m as' below meth c T [] 0 0 → p.tables.exec = Jvm.exec → c.code = bytes → c.maxLocals = maxL → Z.Warmed39 s.vm → s.vm.findClass y.cls = some m.cls → meth.name = y.name → meth.sig.returnType = ret → meth.locks = false → T.heap = h → s.heap = h → s.Since s.vm h.size → CHr Z EL s.vm h s.vm h → (∀ x ∈ sw, Safe Z EL s.vm h x) → OG p e below (FinW s Z EL Q rm.cells rm.slots) (T.setTop (entryFrame m as' maxL))) : ConW l Z EL sw y bytes maxL ret rm as' h Q := own_startW (Q := Q) hpn body
theorem og_retW (X : Stand p l e R (s.setVm vm) m args below meth c T locs cells slots) (hZ : Z.Warmed39 vm) (hlk : meth.locks = false) {Q : Option Value → Heap → List Loc → Prop} {kc ks : Nat} {g : JFrame} (hEL : EW Z a0 EL) (hS : s.Since vm k0) (eT : T.heap = h) {h' : Heap} (e0 : s.heap = h') (hk : k0 ≤ h.size) (hR : CHr Z EL s.vm h' vm h) (v : Option Value) (hv : meth.sig.returnType = none → v = none)
  (st : ∀ fs, (∀ (f : JFrame) (acts : List Action), f.method = m → f.locked = none → f.entered = [] → (doReturn e (T.setTop f) acts v).1 = T.setFrames fs) → Steps p.tables e below (T.setTop g) (T.setFrames fs)) (hc : cells ≤ kc) (hs : slots ≤ ks) (hQ : Q v T.heap locs) : OG p e below (FinW s Z EL Q kc ks) (T.setTop g) := by
 subst eT e0
 obtain ⟨fs, hr, hrun, hended, hW⟩ := X.leaveW hS hk hv hlk
 have q := CHv.at X hZ hEL hR.1
 exact ⟨_, _, st fs hr, hrun, hended, v, locs, rfl, hQ, hR.trans q, hW.1, hW.2.1, hW.2.2.1, hW.2.2.2.mono hc hs⟩
theorem og_retNW (X : Stand p l e R (s.setVm vm) m args below meth c T locs cells slots) (hx : p.tables.exec = Jvm.exec) (hZ : Z.Warmed39 vm) (hlk : meth.locks = false) (hEL : EW Z a0 EL) (hS : s.Since vm k0) (eT : T.heap = h) {h' : Heap} (e0 : s.heap = h') (hk : k0 ≤ h.size) (hR : CHr Z EL s.vm h' vm h) {t : FieldType} (hret : meth.sig.returnType = some t) (ht : t = .boolean ∨ t = .byte ∨ t = .char ∨ t = .short) {Q : Option Value → Heap → List Loc → Prop} {kc ks : Nat} {z : Int32} (hd : decode c.code pc = .ok (.ireturn, 1)) (hc : cells ≤ kc) (hs : slots ≤ ks) (hQ : Q (some (.int (nar t z))) T.heap locs) : OG p e below (FinW s Z EL Q kc ks) (T.setTop (mkF m pc L (.int z :: S))) :=
 og_retW X hZ hlk hEL hS eT e0 hk hR (some (.int (nar t z))) (fun q => by rw [hret] at q; cases q) (fun fs hr => retN X hx hret ht hd hr) hc hs hQ
theorem og_retRW (X : Stand p l e R (s.setVm vm) m args below meth c T locs cells slots) (hx : p.tables.exec = Jvm.exec) (hZ : Z.Warmed39 vm) (hlk : meth.locks = false) (hEL : EW Z a0 EL) (hS : s.Since vm k0) (eT : T.heap = h) {h' : Heap} (e0 : s.heap = h') (hk : k0 ≤ h.size) (hR : CHr Z EL s.vm h' vm h) {t : FieldType} (hret : meth.sig.returnType = some t) (ht : t.isReference = true) {Q : Option Value → Heap → List Loc → Prop} {kc ks : Nat} {v : Value} (hv : v.isRef = true) (hn : narrow t v = v) (hd : decode c.code pc = .ok (.areturn, 1)) (hc : cells ≤ kc) (hs : slots ≤ ks) (hQ : Q (some v) T.heap locs) : OG p e below (FinW s Z EL Q kc ks) (T.setTop (mkF m pc L (v :: S))) :=
 og_retW X hZ hlk hEL hS eT e0 hk hR (some v) (fun q => by rw [hret] at q; cases q) (fun fs hr => retOut X hx hret hn (Or.inr (Or.inr (Or.inr (Or.inr ⟨rfl, ht, hv⟩)))) hd hr) hc hs hQ
theorem og_retVW (X : Stand p l e R (s.setVm vm) m args below meth c T locs cells slots) (hx : p.tables.exec = Jvm.exec) (hZ : Z.Warmed39 vm) (hlk : meth.locks = false) (hEL : EW Z a0 EL) (hS : s.Since vm k0) (eT : T.heap = h) {h' : Heap} (e0 : s.heap = h') (hk : k0 ≤ h.size) (hR : CHr Z EL s.vm h' vm h) (hret : meth.sig.returnType = none) {Q : Option Value → Heap → List Loc → Prop} {kc ks : Nat}  (hd : decode c.code pc = .ok (.return_, 1)) (hc : cells ≤ kc) (hs : slots ≤ ks) (hQ : Q none T.heap locs) : OG p e below (FinW s Z EL Q kc ks) (T.setTop (mkF m pc L [])) :=
 og_retW X hZ hlk hEL hS eT e0 hk hR none (fun _ => rfl) (fun fs hr => X.returnOut hx hret hd hr) hc hs hQ
theorem og_ldcS (X : Stand p l e R (s.setVm vm) m args below meth c T locs cells slots) (hx : p.tables.exec = Jvm.exec) (hZ : Z.Warmed39 vm) {own text : String} {index : Nat} (hown : vm.findClass own = some m.cls) (w : (Cond.stringLink own index text).before a0 Z = true) (wS : ∀ a ∈ Bundle.stringAtoms, a.before a0 Z = true) (eT : T.heap = h) (hS : s.Since vm k0) (hk : k0 ≤ h.size) (hEL : EW Z a0 EL) (hmem : (own, index) ∈ EL) (H : CHv Z EL vm h) {vs : List Value} {z : Int32} (ht : (∀ c ∈ text.toList, c.toNat < 256) ∧ text.toList.map (fun c => Value.int (Jvm.Lit.byteI c.toNat.toUInt16)) = vs) (hz : ¬ z < 0) (hl : z.toNatClampNeg = vs.length) {n cells' slots' : Nat} (hn : 4 * text.toList.length ≤ n) (hbig : n ≤ 536870912) (hd : decode c.code pc = .ok (.ldc index, 2)) (hp : pc + 2 = pc') (hc' : cells + 2 = cells') (hs' : slots + (n + 4) = slots') (hc : cells' ≤ R.cells) (hsl : slots' ≤ R.slots) (k : ∀ a T' h' k1 b kA, Stand p l e R (s.setVm T'.vm) m args below meth c T' locs cells' slots' → T'.heap = h' → Ext h h' → s.Since T'.vm k1 → k1 ≤ h'.size → Z.Warmed39 T'.vm → T'.vm.findClass own = some m.cls → Exa Z h' a "java/lang/String" → Fld Z h' a "java/lang/String" "coder" "B" (.int 0) → Fld Z h' a "java/lang/String" "value" "[B" (.ref b) → Arv Z h' b kA .byte z vs (.int 0) → CHr Z EL vm h T'.vm h' → (∀ x, Safe Z EL T'.vm h' x → x ≠ a ∧ x ≠ b) → OG p e below P (T'.setTop (mkF m pc' L (.ref a :: S)))) : OG p e below P (T.setTop (mkF m pc L S)) := by
 subst hp hc' hs'
 obtain ⟨a, T', h', k1, b, kA, X', e', E', S', hk', hZ', ho', A1, A2, A3, A4, -, -, hC', -, hne', st⟩ := ldcCH X hx hZ hown w wS eT hS hk hEL hmem H ht hz hl (g := mkF m pc L S) rfl hd hn hbig hc hsl
 exact OG.of st (k a T' h' k1 b kA X' e' E' S' hk' hZ' ho' A1 A2 A3 A4 hC' hne')
theorem og_ldcO (X : Stand p l e R (s.setVm vm) m args below meth c T locs cells slots) (hx : p.tables.exec = Jvm.exec) (hZ : Z.Warmed39 vm) {own text : String} {index : Nat} (hown : vm.findClass own = some m.cls) (w : (Cond.stringLink own index text).before a0 Z = true) (wS : ∀ a ∈ Bundle.stringAtoms, a.before a0 Z = true) (eT : T.heap = h) (hS : s.Since vm k0) (hk : k0 ≤ h.size) (hEL : EW Z a0 EL) (H : CHv Z EL vm h) {n cells' slots' : Nat} (hn : 4 * text.toList.length ≤ n) (hbig : n ≤ 536870912) (hd : decode c.code pc = .ok (.ldc index, 2)) (hp : pc + 2 = pc') (hc' : cells + 2 = cells') (hs' : slots + (n + 4) = slots') (hc : cells' ≤ R.cells) (hsl : slots' ≤ R.slots) (k : ∀ a T' h' k1, Stand p l e R (s.setVm T'.vm) m args below meth c T' locs cells' slots' → T'.heap = h' → Ext h h' → s.Since T'.vm k1 → k1 ≤ h'.size → Z.Warmed39 T'.vm → T'.vm.findClass own = some m.cls → CHr Z EL vm h T'.vm h' → OG p e below P (T'.setTop (mkF m pc' L (.ref a :: S)))) : OG p e below P (T.setTop (mkF m pc L S)) := by
 subst hp hc' hs'
 obtain ⟨a, T', h', k1, X', e', E', S', hk', hZ', ho', hC', -, st⟩ := ldcOH X hx hZ hown w wS eT hS hk hEL H (g := mkF m pc L S) rfl hd hn hbig hc hsl
 exact OG.of st (k a T' h' k1 X' e' E' S' hk' hZ' ho' hC')
theorem og_staticW (X : Stand p l e R (s.setVm vm) m args below meth c T locs cells slots) (hx : p.tables.exec = Jvm.exec) (hZ : Z.Warmed39 vm) {own : String} {index : Nat} {y : MethodName} {bytes : ByteArray} {maxL : Nat} {ret : Option FieldType} {sw : List Addr} {rm : Room} {as' : Array Value} {Q : Option Value → Heap → List Loc → Prop} {W cells' slots' : Nat} (hM : ConW l Z EL sw y bytes maxL ret rm as' h Q) (hEL : EW Z a0 EL) (hS : s.Since vm k0) (hk : k0 ≤ h.size) (H : CHv Z EL vm h) (hsw : ∀ x ∈ sw, x < h.size ∧ Safe Z EL vm h x) (hown : vm.findClass own = some m.cls) (w1 : (Cond.methodLink own index y).before a0 Z = true) (w2 : (Cond.static y).before a0 Z = true) (wz : (Cond.initialized y.cls).before a0 Z = true) (wc : (Cond.code y bytes maxL ret).before a0 Z = true) (hy : y.cls ≠ "java/lang/invoke/MethodHandle" ∧ y.cls ≠ "java/lang/invoke/VarHandle") (hml : L.size = c.maxLocals) (eT : T.heap = h) {ps : List FieldType} {rt : Option FieldType} (hpd : parseMethodDescriptor y.desc = some ⟨ps, rt⟩) (argsL rest : List Value) (hll : argsL.length = ps.length) (has : argsL.toArray = as') (hst : S = argsL.reverse ++ rest) (hW : (rest.map fun v => v.category).sum = W) (hf : rm.frames + 1 ≤ R.frames) (hl : W + (maxL + 11) + rm.locals ≤ R.locals) (hc' : cells + rm.cells = cells') (hs' : slots + rm.slots = slots') (hc : cells' ≤ R.cells) (hs : slots' ≤ R.slots) (hd : decode c.code pc = .ok (.invokestatic index, 3)) (hp : pc + 3 = pc') (k : ∀ v T' h' Lc k1, Stand p l e R (s.setVm T'.vm) m args below meth c T' (locs ++ Lc) cells' slots' → T'.heap = h' → s.Since T'.vm k1 → k1 ≤ h'.size → Z.Warmed39 T'.vm → T'.vm.findClass own = some m.cls → CHr Z EL vm h T'.vm h' → Q v h' Lc → OG p e below P (T'.setTop (mkF m pc' L (v.toList ++ rest)))) : OG p e below P (T.setTop (mkF m pc L S)) := by
 subst hp hst hc' hs' has
 obtain ⟨v, _, ⟨T1, L1, k1, n1⟩, -, X1, hS1, hg1, ⟨Lc, hQ, l1, y1, z1, hC1⟩, st⟩ := callSS X hx (y := y) hown (mvT (s := s.setVm vm) hZ w1) (mvT (s := s.setVm vm) hZ w2) (mvT (s := s.setVm vm) hZ wz) (mvT (s := s.setVm vm) hZ wc) hy (own_backW (s := s) (vm := vm) (W := W) hM hZ wc wz hf hl hEL H hsw) (g := mkF m pc L (argsL.reverse ++ rest)) rfl hml (argsL := argsL) (rest := rest) (lenOf hpd hll) rfl (by show 2 * 0 + _ ≤ _; rw [hW]; omega) hd (fun _ _ => ⟨rfl, eT, hc, hs⟩)
 dsimp only [Pt.U, Pt.locs, Pt.cells, Pt.slots] at X1 l1 y1 z1 st hQ hS1 hg1 hC1
 subst l1 y1 z1 eT
 exact OG.of (fun t k => st.trans k) (k v T1 _ Lc _ X1 rfl (hS.trans hS1 (Nat.le_trans hk hg1)) (Nat.le_refl _) (State.Warmed39.trans (t := s.setVm vm) hZ hS1.1) (by rw [hS1.1.alike.findClass]; exact hown) hC1 hQ)
theorem og_specialW (X : Stand p l e R (s.setVm vm) m args below meth c T locs cells slots) (hx : p.tables.exec = Jvm.exec) (hZ : Z.Warmed39 vm) {own : String} {index : Nat} {y : MethodName} {bytes : ByteArray} {maxL : Nat} {sw : List Addr} {rm : Room} {as' : Array Value} {Q : Option Value → Heap → List Loc → Prop} {W cells' slots' : Nat} (hM : ConW l Z EL sw y bytes maxL none rm as' h Q) (hEL : EW Z a0 EL) (hS : s.Since vm k0) (hk : k0 ≤ h.size) (H : CHv Z EL vm h) (hsw : ∀ x ∈ sw, x < h.size ∧ Safe Z EL vm h x) (hin : y.name = "<init>") (hown : vm.findClass own = some m.cls) (w1 : (Cond.methodLink own index y).before a0 Z = true) (w2 : (Cond.instanceMethod y).before a0 Z = true) (wz : (Cond.initialized y.cls).before a0 Z = true) (wc : (Cond.code y bytes maxL none).before a0 Z = true) (hy : y.cls ≠ "java/lang/invoke/MethodHandle" ∧ y.cls ≠ "java/lang/invoke/VarHandle") (hml : L.size = c.maxLocals) (eT : T.heap = h) {ps : List FieldType} {rt : Option FieldType} (hpd : parseMethodDescriptor y.desc = some ⟨ps, rt⟩) {a : Addr} (argsL rest : List Value) (hll : argsL.length = ps.length) (has : (.ref a :: argsL).toArray = as') (hst : S = argsL.reverse ++ .ref a :: rest) (hW : (rest.map fun v => v.category).sum = W) (hf : rm.frames + 1 ≤ R.frames) (hl : W + (maxL + 11) + rm.locals ≤ R.locals) (hc' : cells + rm.cells = cells') (hs' : slots + rm.slots = slots') (hc : cells' ≤ R.cells) (hs : slots' ≤ R.slots) (hd : decode c.code pc = .ok (.invokespecial index, 3)) (hp : pc + 3 = pc') (k : ∀ v T' h' Lc k1, Stand p l e R (s.setVm T'.vm) m args below meth c T' (locs ++ Lc) cells' slots' → T'.heap = h' → s.Since T'.vm k1 → k1 ≤ h'.size → Z.Warmed39 T'.vm → T'.vm.findClass own = some m.cls → CHr Z EL vm h T'.vm h' → Q v h' Lc → OG p e below P (T'.setTop (mkF m pc' L (v.toList ++ rest)))) : OG p e below P (T.setTop (mkF m pc L S)) := by
 subst hp hst hc' hs' has
 obtain ⟨v, _, ⟨T1, L1, k1, n1⟩, -, X1, hS1, hg1, ⟨Lc, hQ, l1, y1, z1, hC1⟩, st⟩ := X.specialBackS hx (y := y) hin hown (mvT (s := s.setVm vm) hZ w1) (mvT (s := s.setVm vm) hZ w2) (mvT (s := s.setVm vm) hZ wc) hy (own_backW (s := s) (vm := vm) (W := W) hM hZ wc wz hf hl hEL H hsw) (g := mkF m pc L (argsL.reverse ++ .ref a :: rest)) rfl hml (Steps.refl _) (a := a) (argsL := argsL) (rest := rest) (lenOf hpd hll) rfl (by show 2 * 0 + _ ≤ _; rw [hW]; omega) hd (fun _ _ => ⟨rfl, eT, hc, hs⟩)
 dsimp only [Pt.U, Pt.locs, Pt.cells, Pt.slots] at X1 l1 y1 z1 st hQ hS1 hg1 hC1
 subst l1 y1 z1 eT
 exact OG.of (fun t k => st.trans k) (k v T1 _ Lc _ X1 rfl (hS.trans hS1 (Nat.le_trans hk hg1)) (Nat.le_refl _) (State.Warmed39.trans (t := s.setVm vm) hZ hS1.1) (by rw [hS1.1.alike.findClass]; exact hown) hC1 hQ)
end OwnKitW
def own_EL : List (String × Nat) := [("java/lang/String", 7), ("com/example/tombstone/tombstone/config/TableName", 54), ("com/example/tombstone/tombstone/config/TableNameParsePinLaw", 33)]
abbrev HW (a0 : Array Value) (Z : State) : Prop := ∀ d ∈ tables_1, d.before a0 Z = true
def ow0 {a0 : Array Value} {Z : State} (hw : HW a0 Z) := hw _ (List.mem_of_getElem? (i := 0) rfl)
def ow1 {a0 : Array Value} {Z : State} (hw : HW a0 Z) := hw _ (List.mem_of_getElem? (i := 1) rfl)
def ow2 {a0 : Array Value} {Z : State} (hw : HW a0 Z) := hw _ (List.mem_of_getElem? (i := 2) rfl)
def ow3 {a0 : Array Value} {Z : State} (hw : HW a0 Z) := hw _ (List.mem_of_getElem? (i := 3) rfl)
def ow4 {a0 : Array Value} {Z : State} (hw : HW a0 Z) := hw _ (List.mem_of_getElem? (i := 4) rfl)
def ow5 {a0 : Array Value} {Z : State} (hw : HW a0 Z) := hw _ (List.mem_of_getElem? (i := 5) rfl)
def ow6 {a0 : Array Value} {Z : State} (hw : HW a0 Z) := hw _ (List.mem_of_getElem? (i := 6) rfl)
def ow7 {a0 : Array Value} {Z : State} (hw : HW a0 Z) := hw _ (List.mem_of_getElem? (i := 7) rfl)
def ow8 {a0 : Array Value} {Z : State} (hw : HW a0 Z) := hw _ (List.mem_of_getElem? (i := 8) rfl)
def ow9 {a0 : Array Value} {Z : State} (hw : HW a0 Z) := hw _ (List.mem_of_getElem? (i := 9) rfl)
def ow10 {a0 : Array Value} {Z : State} (hw : HW a0 Z) := hw _ (List.mem_of_getElem? (i := 10) rfl)
def ow11 {a0 : Array Value} {Z : State} (hw : HW a0 Z) := hw _ (List.mem_of_getElem? (i := 11) rfl)
def ow12 {a0 : Array Value} {Z : State} (hw : HW a0 Z) := hw _ (List.mem_of_getElem? (i := 12) rfl)
def ow13 {a0 : Array Value} {Z : State} (hw : HW a0 Z) := hw _ (List.mem_of_getElem? (i := 13) rfl)
def ow14 {a0 : Array Value} {Z : State} (hw : HW a0 Z) := hw _ (List.mem_of_getElem? (i := 14) rfl)
def ow15 {a0 : Array Value} {Z : State} (hw : HW a0 Z) := hw _ (List.mem_of_getElem? (i := 15) rfl)
def ow16 {a0 : Array Value} {Z : State} (hw : HW a0 Z) := hw _ (List.mem_of_getElem? (i := 16) rfl)
def ow18 {a0 : Array Value} {Z : State} (hw : HW a0 Z) := hw _ (List.mem_of_getElem? (i := 18) rfl)
def ow19 {a0 : Array Value} {Z : State} (hw : HW a0 Z) := hw _ (List.mem_of_getElem? (i := 19) rfl)
def ow20 {a0 : Array Value} {Z : State} (hw : HW a0 Z) := hw _ (List.mem_of_getElem? (i := 20) rfl)
def ow21 {a0 : Array Value} {Z : State} (hw : HW a0 Z) := hw _ (List.mem_of_getElem? (i := 21) rfl)
def ow23 {a0 : Array Value} {Z : State} (hw : HW a0 Z) := hw _ (List.mem_of_getElem? (i := 23) rfl)
def ow24 {a0 : Array Value} {Z : State} (hw : HW a0 Z) := hw _ (List.mem_of_getElem? (i := 24) rfl)
def ow25 {a0 : Array Value} {Z : State} (hw : HW a0 Z) := hw _ (List.mem_of_getElem? (i := 25) rfl)
def ow26 {a0 : Array Value} {Z : State} (hw : HW a0 Z) := hw _ (List.mem_of_getElem? (i := 26) rfl)
def ow27 {a0 : Array Value} {Z : State} (hw : HW a0 Z) := hw _ (List.mem_of_getElem? (i := 27) rfl)
def ow28 {a0 : Array Value} {Z : State} (hw : HW a0 Z) := hw _ (List.mem_of_getElem? (i := 28) rfl)
def ow29 {a0 : Array Value} {Z : State} (hw : HW a0 Z) := hw _ (List.mem_of_getElem? (i := 29) rfl)
def ow30 {a0 : Array Value} {Z : State} (hw : HW a0 Z) := hw _ (List.mem_of_getElem? (i := 30) rfl)
def ow31 {a0 : Array Value} {Z : State} (hw : HW a0 Z) := hw _ (List.mem_of_getElem? (i := 31) rfl)
def ow32 {a0 : Array Value} {Z : State} (hw : HW a0 Z) := hw _ (List.mem_of_getElem? (i := 32) rfl)
def ow33 {a0 : Array Value} {Z : State} (hw : HW a0 Z) := hw _ (List.mem_of_getElem? (i := 33) rfl)
def ow34 {a0 : Array Value} {Z : State} (hw : HW a0 Z) := hw _ (List.mem_of_getElem? (i := 34) rfl)
def ow35 {a0 : Array Value} {Z : State} (hw : HW a0 Z) := hw _ (List.mem_of_getElem? (i := 35) rfl)
def ow36 {a0 : Array Value} {Z : State} (hw : HW a0 Z) := hw _ (List.mem_of_getElem? (i := 36) rfl)
def ow37 {a0 : Array Value} {Z : State} (hw : HW a0 Z) := hw _ (List.mem_of_getElem? (i := 37) rfl)
def ow38 {a0 : Array Value} {Z : State} (hw : HW a0 Z) := hw _ (List.mem_of_getElem? (i := 38) rfl)
def ow39 {a0 : Array Value} {Z : State} (hw : HW a0 Z) := hw _ (List.mem_of_getElem? (i := 39) rfl)
def ow40 {a0 : Array Value} {Z : State} (hw : HW a0 Z) := hw _ (List.mem_of_getElem? (i := 40) rfl)
def ow41 {a0 : Array Value} {Z : State} (hw : HW a0 Z) := hw _ (List.mem_of_getElem? (i := 41) rfl)
def ow42 {a0 : Array Value} {Z : State} (hw : HW a0 Z) := hw _ (List.mem_of_getElem? (i := 42) rfl)
def ow43 {a0 : Array Value} {Z : State} (hw : HW a0 Z) := hw _ (List.mem_of_getElem? (i := 43) rfl)
def ow44 {a0 : Array Value} {Z : State} (hw : HW a0 Z) := hw _ (List.mem_of_getElem? (i := 44) rfl)
def ow46 {a0 : Array Value} {Z : State} (hw : HW a0 Z) := hw _ (List.mem_of_getElem? (i := 46) rfl)
def ow47 {a0 : Array Value} {Z : State} (hw : HW a0 Z) := hw _ (List.mem_of_getElem? (i := 47) rfl)
def ow48 {a0 : Array Value} {Z : State} (hw : HW a0 Z) := hw _ (List.mem_of_getElem? (i := 48) rfl)
def ow49 {a0 : Array Value} {Z : State} (hw : HW a0 Z) := hw _ (List.mem_of_getElem? (i := 49) rfl)
def ow50 {a0 : Array Value} {Z : State} (hw : HW a0 Z) := hw _ (List.mem_of_getElem? (i := 50) rfl)
def ow51 {a0 : Array Value} {Z : State} (hw : HW a0 Z) := hw _ (List.mem_of_getElem? (i := 51) rfl)
def ow52 {a0 : Array Value} {Z : State} (hw : HW a0 Z) := hw _ (List.mem_of_getElem? (i := 52) rfl)
def ow53 {a0 : Array Value} {Z : State} (hw : HW a0 Z) := hw _ (List.mem_of_getElem? (i := 53) rfl)
def ow54 {a0 : Array Value} {Z : State} (hw : HW a0 Z) := hw _ (List.mem_of_getElem? (i := 54) rfl)
def ow55 {a0 : Array Value} {Z : State} (hw : HW a0 Z) := hw _ (List.mem_of_getElem? (i := 55) rfl)
def ow56 {a0 : Array Value} {Z : State} (hw : HW a0 Z) := hw _ (List.mem_of_getElem? (i := 56) rfl)
def ow57 {a0 : Array Value} {Z : State} (hw : HW a0 Z) := hw _ (List.mem_of_getElem? (i := 57) rfl)
def ow58 {a0 : Array Value} {Z : State} (hw : HW a0 Z) := hw _ (List.mem_of_getElem? (i := 58) rfl)
def ow59 {a0 : Array Value} {Z : State} (hw : HW a0 Z) := hw _ (List.mem_of_getElem? (i := 59) rfl)
def ow60 {a0 : Array Value} {Z : State} (hw : HW a0 Z) := hw _ (List.mem_of_getElem? (i := 60) rfl)
def ow61 {a0 : Array Value} {Z : State} (hw : HW a0 Z) := hw _ (List.mem_of_getElem? (i := 61) rfl)
def ow62 {a0 : Array Value} {Z : State} (hw : HW a0 Z) := hw _ (List.mem_of_getElem? (i := 62) rfl)
def ow63 {a0 : Array Value} {Z : State} (hw : HW a0 Z) := hw _ (List.mem_of_getElem? (i := 63) rfl)
def ow64 {a0 : Array Value} {Z : State} (hw : HW a0 Z) := hw _ (List.mem_of_getElem? (i := 64) rfl)
def ow65 {a0 : Array Value} {Z : State} (hw : HW a0 Z) := hw _ (List.mem_of_getElem? (i := 65) rfl)
def ow66 {a0 : Array Value} {Z : State} (hw : HW a0 Z) := hw _ (List.mem_of_getElem? (i := 66) rfl)
def ow67 {a0 : Array Value} {Z : State} (hw : HW a0 Z) := hw _ (List.mem_of_getElem? (i := 67) rfl)
def ow68 {a0 : Array Value} {Z : State} (hw : HW a0 Z) := hw _ (List.mem_of_getElem? (i := 68) rfl)
def ow69 {a0 : Array Value} {Z : State} (hw : HW a0 Z) := hw _ (List.mem_of_getElem? (i := 69) rfl)
def ow70 {a0 : Array Value} {Z : State} (hw : HW a0 Z) := hw _ (List.mem_of_getElem? (i := 70) rfl)
def ow71 {a0 : Array Value} {Z : State} (hw : HW a0 Z) := hw _ (List.mem_of_getElem? (i := 71) rfl)
def ow72 {a0 : Array Value} {Z : State} (hw : HW a0 Z) := hw _ (List.mem_of_getElem? (i := 72) rfl)
def ow73 {a0 : Array Value} {Z : State} (hw : HW a0 Z) := hw _ (List.mem_of_getElem? (i := 73) rfl)
def ow74 {a0 : Array Value} {Z : State} (hw : HW a0 Z) := hw _ (List.mem_of_getElem? (i := 74) rfl)
def ow75 {a0 : Array Value} {Z : State} (hw : HW a0 Z) := hw _ (List.mem_of_getElem? (i := 75) rfl)
def ow76 {a0 : Array Value} {Z : State} (hw : HW a0 Z) := hw _ (List.mem_of_getElem? (i := 76) rfl)
def ow77 {a0 : Array Value} {Z : State} (hw : HW a0 Z) := hw _ (List.mem_of_getElem? (i := 77) rfl)
def ow78 {a0 : Array Value} {Z : State} (hw : HW a0 Z) := hw _ (List.mem_of_getElem? (i := 78) rfl)
def ow79 {a0 : Array Value} {Z : State} (hw : HW a0 Z) := hw _ (List.mem_of_getElem? (i := 79) rfl)
def ow80 {a0 : Array Value} {Z : State} (hw : HW a0 Z) := hw _ (List.mem_of_getElem? (i := 80) rfl)
def ow81 {a0 : Array Value} {Z : State} (hw : HW a0 Z) := hw _ (List.mem_of_getElem? (i := 81) rfl)
def ow82 {a0 : Array Value} {Z : State} (hw : HW a0 Z) := hw _ (List.mem_of_getElem? (i := 82) rfl)
def ow83 {a0 : Array Value} {Z : State} (hw : HW a0 Z) := hw _ (List.mem_of_getElem? (i := 83) rfl)
def ow84 {a0 : Array Value} {Z : State} (hw : HW a0 Z) := hw _ (List.mem_of_getElem? (i := 84) rfl)
def ow85 {a0 : Array Value} {Z : State} (hw : HW a0 Z) := hw _ (List.mem_of_getElem? (i := 85) rfl)
def ow86 {a0 : Array Value} {Z : State} (hw : HW a0 Z) := hw _ (List.mem_of_getElem? (i := 86) rfl)
def ow87 {a0 : Array Value} {Z : State} (hw : HW a0 Z) := hw _ (List.mem_of_getElem? (i := 87) rfl)
def ow88 {a0 : Array Value} {Z : State} (hw : HW a0 Z) := hw _ (List.mem_of_getElem? (i := 88) rfl)
def ow89 {a0 : Array Value} {Z : State} (hw : HW a0 Z) := hw _ (List.mem_of_getElem? (i := 89) rfl)
def ow90 {a0 : Array Value} {Z : State} (hw : HW a0 Z) := hw _ (List.mem_of_getElem? (i := 90) rfl)
def ow91 {a0 : Array Value} {Z : State} (hw : HW a0 Z) := hw _ (List.mem_of_getElem? (i := 91) rfl)
def ow92 {a0 : Array Value} {Z : State} (hw : HW a0 Z) := hw _ (List.mem_of_getElem? (i := 92) rfl)
def ow93 {a0 : Array Value} {Z : State} (hw : HW a0 Z) := hw _ (List.mem_of_getElem? (i := 93) rfl)
def ow94 {a0 : Array Value} {Z : State} (hw : HW a0 Z) := hw _ (List.mem_of_getElem? (i := 94) rfl)
def ow95 {a0 : Array Value} {Z : State} (hw : HW a0 Z) := hw _ (List.mem_of_getElem? (i := 95) rfl)
def ow96 {a0 : Array Value} {Z : State} (hw : HW a0 Z) := hw _ (List.mem_of_getElem? (i := 96) rfl)
def ow97 {a0 : Array Value} {Z : State} (hw : HW a0 Z) := hw _ (List.mem_of_getElem? (i := 97) rfl)
def ow98 {a0 : Array Value} {Z : State} (hw : HW a0 Z) := hw _ (List.mem_of_getElem? (i := 98) rfl)
def ow99 {a0 : Array Value} {Z : State} (hw : HW a0 Z) := hw _ (List.mem_of_getElem? (i := 99) rfl)
def ow101 {a0 : Array Value} {Z : State} (hw : HW a0 Z) := hw _ (List.mem_of_getElem? (i := 101) rfl)
def ow102 {a0 : Array Value} {Z : State} (hw : HW a0 Z) := hw _ (List.mem_of_getElem? (i := 102) rfl)
def ow103 {a0 : Array Value} {Z : State} (hw : HW a0 Z) := hw _ (List.mem_of_getElem? (i := 103) rfl)
def ow104 {a0 : Array Value} {Z : State} (hw : HW a0 Z) := hw _ (List.mem_of_getElem? (i := 104) rfl)
def ow105 {a0 : Array Value} {Z : State} (hw : HW a0 Z) := hw _ (List.mem_of_getElem? (i := 105) rfl)
def ow107 {a0 : Array Value} {Z : State} (hw : HW a0 Z) := hw _ (List.mem_of_getElem? (i := 107) rfl)
def ow108 {a0 : Array Value} {Z : State} (hw : HW a0 Z) := hw _ (List.mem_of_getElem? (i := 108) rfl)
def ow109 {a0 : Array Value} {Z : State} (hw : HW a0 Z) := hw _ (List.mem_of_getElem? (i := 109) rfl)
def ow112 {a0 : Array Value} {Z : State} (hw : HW a0 Z) := hw _ (List.mem_of_getElem? (i := 112) rfl)
def ow113 {a0 : Array Value} {Z : State} (hw : HW a0 Z) := hw _ (List.mem_of_getElem? (i := 113) rfl)
def ow114 {a0 : Array Value} {Z : State} (hw : HW a0 Z) := hw _ (List.mem_of_getElem? (i := 114) rfl)
def ow115 {a0 : Array Value} {Z : State} (hw : HW a0 Z) := hw _ (List.mem_of_getElem? (i := 115) rfl)
def ow116 {a0 : Array Value} {Z : State} (hw : HW a0 Z) := hw _ (List.mem_of_getElem? (i := 116) rfl)
def ow117 {a0 : Array Value} {Z : State} (hw : HW a0 Z) := hw _ (List.mem_of_getElem? (i := 117) rfl)
def ow118 {a0 : Array Value} {Z : State} (hw : HW a0 Z) := hw _ (List.mem_of_getElem? (i := 118) rfl)
def ow119 {a0 : Array Value} {Z : State} (hw : HW a0 Z) := hw _ (List.mem_of_getElem? (i := 119) rfl)
def ow120 {a0 : Array Value} {Z : State} (hw : HW a0 Z) := hw _ (List.mem_of_getElem? (i := 120) rfl)
def ow122 {a0 : Array Value} {Z : State} (hw : HW a0 Z) := hw _ (List.mem_of_getElem? (i := 122) rfl)
def ow123 {a0 : Array Value} {Z : State} (hw : HW a0 Z) := hw _ (List.mem_of_getElem? (i := 123) rfl)
def ow124 {a0 : Array Value} {Z : State} (hw : HW a0 Z) := hw _ (List.mem_of_getElem? (i := 124) rfl)
def ow125 {a0 : Array Value} {Z : State} (hw : HW a0 Z) := hw _ (List.mem_of_getElem? (i := 125) rfl)
def ow126 {a0 : Array Value} {Z : State} (hw : HW a0 Z) := hw _ (List.mem_of_getElem? (i := 126) rfl)
def ow127 {a0 : Array Value} {Z : State} (hw : HW a0 Z) := hw _ (List.mem_of_getElem? (i := 127) rfl)
def ow128 {a0 : Array Value} {Z : State} (hw : HW a0 Z) := hw _ (List.mem_of_getElem? (i := 128) rfl)
def ow129 {a0 : Array Value} {Z : State} (hw : HW a0 Z) := hw _ (List.mem_of_getElem? (i := 129) rfl)
def ow130 {a0 : Array Value} {Z : State} (hw : HW a0 Z) := hw _ (List.mem_of_getElem? (i := 130) rfl)
def ow131 {a0 : Array Value} {Z : State} (hw : HW a0 Z) := hw _ (List.mem_of_getElem? (i := 131) rfl)
def ow132 {a0 : Array Value} {Z : State} (hw : HW a0 Z) := hw _ (List.mem_of_getElem? (i := 132) rfl)
def ow133 {a0 : Array Value} {Z : State} (hw : HW a0 Z) := hw _ (List.mem_of_getElem? (i := 133) rfl)
def ow134 {a0 : Array Value} {Z : State} (hw : HW a0 Z) := hw _ (List.mem_of_getElem? (i := 134) rfl)
def ow135 {a0 : Array Value} {Z : State} (hw : HW a0 Z) := hw _ (List.mem_of_getElem? (i := 135) rfl)
def ow136 {a0 : Array Value} {Z : State} (hw : HW a0 Z) := hw _ (List.mem_of_getElem? (i := 136) rfl)
def ow137 {a0 : Array Value} {Z : State} (hw : HW a0 Z) := hw _ (List.mem_of_getElem? (i := 137) rfl)
def ow138 {a0 : Array Value} {Z : State} (hw : HW a0 Z) := hw _ (List.mem_of_getElem? (i := 138) rfl)
def ow139 {a0 : Array Value} {Z : State} (hw : HW a0 Z) := hw _ (List.mem_of_getElem? (i := 139) rfl)
def ow140 {a0 : Array Value} {Z : State} (hw : HW a0 Z) := hw _ (List.mem_of_getElem? (i := 140) rfl)
def ow141 {a0 : Array Value} {Z : State} (hw : HW a0 Z) := hw _ (List.mem_of_getElem? (i := 141) rfl)
def ow142 {a0 : Array Value} {Z : State} (hw : HW a0 Z) := hw _ (List.mem_of_getElem? (i := 142) rfl)
def ow143 {a0 : Array Value} {Z : State} (hw : HW a0 Z) := hw _ (List.mem_of_getElem? (i := 143) rfl)
def ow144 {a0 : Array Value} {Z : State} (hw : HW a0 Z) := hw _ (List.mem_of_getElem? (i := 144) rfl)
def ow145 {a0 : Array Value} {Z : State} (hw : HW a0 Z) := hw _ (List.mem_of_getElem? (i := 145) rfl)
def ow146 {a0 : Array Value} {Z : State} (hw : HW a0 Z) := hw _ (List.mem_of_getElem? (i := 146) rfl)
def ow147 {a0 : Array Value} {Z : State} (hw : HW a0 Z) := hw _ (List.mem_of_getElem? (i := 147) rfl)
def ow148 {a0 : Array Value} {Z : State} (hw : HW a0 Z) := hw _ (List.mem_of_getElem? (i := 148) rfl)
def ow149 {a0 : Array Value} {Z : State} (hw : HW a0 Z) := hw _ (List.mem_of_getElem? (i := 149) rfl)
def ow150 {a0 : Array Value} {Z : State} (hw : HW a0 Z) := hw _ (List.mem_of_getElem? (i := 150) rfl)
def ow151 {a0 : Array Value} {Z : State} (hw : HW a0 Z) := hw _ (List.mem_of_getElem? (i := 151) rfl)
def ow152 {a0 : Array Value} {Z : State} (hw : HW a0 Z) := hw _ (List.mem_of_getElem? (i := 152) rfl)
def ow153 {a0 : Array Value} {Z : State} (hw : HW a0 Z) := hw _ (List.mem_of_getElem? (i := 153) rfl)
def ow154 {a0 : Array Value} {Z : State} (hw : HW a0 Z) := hw _ (List.mem_of_getElem? (i := 154) rfl)
def ow155 {a0 : Array Value} {Z : State} (hw : HW a0 Z) := hw _ (List.mem_of_getElem? (i := 155) rfl)
def ow156 {a0 : Array Value} {Z : State} (hw : HW a0 Z) := hw _ (List.mem_of_getElem? (i := 156) rfl)
def ow157 {a0 : Array Value} {Z : State} (hw : HW a0 Z) := hw _ (List.mem_of_getElem? (i := 157) rfl)
def ow158 {a0 : Array Value} {Z : State} (hw : HW a0 Z) := hw _ (List.mem_of_getElem? (i := 158) rfl)
def ow159 {a0 : Array Value} {Z : State} (hw : HW a0 Z) := hw _ (List.mem_of_getElem? (i := 159) rfl)
def ow160 {a0 : Array Value} {Z : State} (hw : HW a0 Z) := hw _ (List.mem_of_getElem? (i := 160) rfl)
def ow161 {a0 : Array Value} {Z : State} (hw : HW a0 Z) := hw _ (List.mem_of_getElem? (i := 161) rfl)
def ow162 {a0 : Array Value} {Z : State} (hw : HW a0 Z) := hw _ (List.mem_of_getElem? (i := 162) rfl)
def ow163 {a0 : Array Value} {Z : State} (hw : HW a0 Z) := hw _ (List.mem_of_getElem? (i := 163) rfl)
def ow164 {a0 : Array Value} {Z : State} (hw : HW a0 Z) := hw _ (List.mem_of_getElem? (i := 164) rfl)
def ow165 {a0 : Array Value} {Z : State} (hw : HW a0 Z) := hw _ (List.mem_of_getElem? (i := 165) rfl)
def ow166 {a0 : Array Value} {Z : State} (hw : HW a0 Z) := hw _ (List.mem_of_getElem? (i := 166) rfl)
def ow167 {a0 : Array Value} {Z : State} (hw : HW a0 Z) := hw _ (List.mem_of_getElem? (i := 167) rfl)
def ow168 {a0 : Array Value} {Z : State} (hw : HW a0 Z) := hw _ (List.mem_of_getElem? (i := 168) rfl)
def ow169 {a0 : Array Value} {Z : State} (hw : HW a0 Z) := hw _ (List.mem_of_getElem? (i := 169) rfl)
def ow170 {a0 : Array Value} {Z : State} (hw : HW a0 Z) := hw _ (List.mem_of_getElem? (i := 170) rfl)
def ow171 {a0 : Array Value} {Z : State} (hw : HW a0 Z) := hw _ (List.mem_of_getElem? (i := 171) rfl)
def ow172 {a0 : Array Value} {Z : State} (hw : HW a0 Z) := hw _ (List.mem_of_getElem? (i := 172) rfl)
def ow173 {a0 : Array Value} {Z : State} (hw : HW a0 Z) := hw _ (List.mem_of_getElem? (i := 173) rfl)
def ow174 {a0 : Array Value} {Z : State} (hw : HW a0 Z) := hw _ (List.mem_of_getElem? (i := 174) rfl)
def ow175 {a0 : Array Value} {Z : State} (hw : HW a0 Z) := hw _ (List.mem_of_getElem? (i := 175) rfl)
def ow176 {a0 : Array Value} {Z : State} (hw : HW a0 Z) := hw _ (List.mem_of_getElem? (i := 176) rfl)
def ow177 {a0 : Array Value} {Z : State} (hw : HW a0 Z) := hw _ (List.mem_of_getElem? (i := 177) rfl)
theorem opd_0 : parseMethodDescriptor "([CIILjava/lang/Void;)V" = some ⟨[(.array .char), .int, .int, (.object "java/lang/Void")], none⟩ := by decide +kernel
theorem opd_1 : parseMethodDescriptor "([CI[BII)I" = some ⟨[(.array .char), .int, (.array .byte), .int, .int], some .int⟩ := by decide +kernel
theorem opd_2 : parseMethodDescriptor "([CII)[B" = some ⟨[(.array .char), .int, .int], some (.array .byte)⟩ := by decide +kernel
theorem opd_3 : parseMethodDescriptor "([BI)B" = some ⟨[(.array .byte), .int], some .byte⟩ := by decide +kernel
theorem opd_4 : parseMethodDescriptor "()B" = some ⟨[], some .byte⟩ := by decide +kernel
theorem opd_5 : parseMethodDescriptor "([B[B)Z" = some ⟨[(.array .byte), (.array .byte)], some .boolean⟩ := by decide +kernel
theorem opd_6 : parseMethodDescriptor "([C)V" = some ⟨[(.array .char)], none⟩ := by decide +kernel
theorem opd_7 : parseMethodDescriptor "()V" = some ⟨[], none⟩ := by decide +kernel
theorem opd_8 : parseMethodDescriptor "(Ljava/lang/Object;Ljava/lang/String;)Ljava/lang/Object;" = some ⟨[(.object "java/lang/Object"), (.object "java/lang/String")], some (.object "java/lang/Object")⟩ := by decide +kernel
theorem opd_9 : parseMethodDescriptor "()Z" = some ⟨[], some .boolean⟩ := by decide +kernel
theorem opd_10 : parseMethodDescriptor "(I)Z" = some ⟨[.int], some .boolean⟩ := by decide +kernel
theorem opd_11 : parseMethodDescriptor "(II)I" = some ⟨[.int, .int], some .int⟩ := by decide +kernel
theorem opd_12 : parseMethodDescriptor "([BIII)I" = some ⟨[(.array .byte), .int, .int, .int], some .int⟩ := by decide +kernel
theorem opd_13 : parseMethodDescriptor "()I" = some ⟨[], some .int⟩ := by decide +kernel
theorem opd_14 : parseMethodDescriptor "(I)I" = some ⟨[.int], some .int⟩ := by decide +kernel
theorem opd_15 : parseMethodDescriptor "(Ljava/lang/String;Ljava/lang/String;)V" = some ⟨[(.object "java/lang/String"), (.object "java/lang/String")], none⟩ := by decide +kernel
theorem opd_16 : parseMethodDescriptor "(II)V" = some ⟨[.int, .int], none⟩ := by decide +kernel
theorem opd_17 : parseMethodDescriptor "([BII)[B" = some ⟨[(.array .byte), .int, .int], some (.array .byte)⟩ := by decide +kernel
theorem opd_18 : parseMethodDescriptor "([BB)V" = some ⟨[(.array .byte), .byte], none⟩ := by decide +kernel
theorem opd_19 : parseMethodDescriptor "(IIILjava/util/function/BiFunction;)I" = some ⟨[.int, .int, .int, (.object "java/util/function/BiFunction")], some .int⟩ := by decide +kernel
theorem opd_20 : parseMethodDescriptor "(III)V" = some ⟨[.int, .int, .int], none⟩ := by decide +kernel
theorem opd_21 : parseMethodDescriptor "([BII)Ljava/lang/String;" = some ⟨[(.array .byte), .int, .int], some (.object "java/lang/String")⟩ := by decide +kernel
theorem opd_22 : parseMethodDescriptor "(II)Ljava/lang/String;" = some ⟨[.int, .int], some (.object "java/lang/String")⟩ := by decide +kernel
theorem opd_23 : parseMethodDescriptor "(I)Ljava/lang/String;" = some ⟨[.int], some (.object "java/lang/String")⟩ := by decide +kernel
theorem opd_24 : parseMethodDescriptor "(I)C" = some ⟨[.int], some .char⟩ := by decide +kernel
theorem opd_25 : parseMethodDescriptor "(ICCCC)Ljava/lang/String;" = some ⟨[.int, .char, .char, .char, .char], some (.object "java/lang/String")⟩ := by decide +kernel
theorem opd_26 : parseMethodDescriptor "(Ljava/lang/String;)Lcom/example/tombstone/tombstone/config/TableName;" = some ⟨[(.object "java/lang/String")], some (.object "com/example/tombstone/tombstone/config/TableName")⟩ := by decide +kernel
theorem opd_27 : parseMethodDescriptor "()Ljava/lang/String;" = some ⟨[], some (.object "java/lang/String")⟩ := by decide +kernel
theorem opd_28 : parseMethodDescriptor "(Ljava/lang/Object;)Z" = some ⟨[(.object "java/lang/Object")], some .boolean⟩ := by decide +kernel
theorem d1_0 : decode method_2_code 0 = .ok (.iload_n 0, 1) := by decide +kernel
theorem d1_1 : decode method_2_code 1 = .ok (.sipush 768, 3) := by decide +kernel
theorem d1_4 : decode method_2_code 4 = .ok (.iand, 1) := by decide +kernel
theorem d1_5 : decode method_2_code 5 = .ok (.sipush 768, 3) := by decide +kernel
theorem d1_8 : decode method_2_code 8 = .ok (.if_icmp .ne 6, 3) := by decide +kernel
theorem d1_11 : decode method_2_code 11 = .ok (.bipush 46, 2) := by decide +kernel
theorem d1_13 : decode method_2_code 13 = .ok (.ireturn, 1) := by decide +kernel
theorem d1_14 : decode method_2_code 14 = .ok (.iload_n 0, 1) := by decide +kernel
theorem d1_15 : decode method_2_code 15 = .ok (.sipush 255, 3) := by decide +kernel
theorem d1_18 : decode method_2_code 18 = .ok (.iand, 1) := by decide +kernel
theorem d1_19 : decode method_2_code 19 = .ok (.i2c, 1) := by decide +kernel
theorem d1_20 : decode method_2_code 20 = .ok (.ireturn, 1) := by decide +kernel
theorem d2_0 : decode method_3_code 0 = .ok (.iload_n 0, 1) := by decide +kernel
theorem d2_1 : decode method_3_code 1 = .ok (.ifCond .gt 14, 3) := by decide +kernel
theorem d2_4 : decode method_3_code 4 = .ok (.new 7, 3) := by decide +kernel
theorem d2_7 : decode method_3_code 7 = .ok (.dup, 1) := by decide +kernel
theorem d2_8 : decode method_3_code 8 = .ok (.iconst 0, 1) := by decide +kernel
theorem d2_9 : decode method_3_code 9 = .ok (.newarray .char, 2) := by decide +kernel
theorem d2_11 : decode method_3_code 11 = .ok (.invokespecial 9, 3) := by decide +kernel
theorem d2_14 : decode method_3_code 14 = .ok (.areturn, 1) := by decide +kernel
theorem d2_15 : decode method_3_code 15 = .ok (.iload_n 0, 1) := by decide +kernel
theorem d2_16 : decode method_3_code 16 = .ok (.iconst 1, 1) := by decide +kernel
theorem d2_17 : decode method_3_code 17 = .ok (.if_icmp .ne 23, 3) := by decide +kernel
theorem d2_20 : decode method_3_code 20 = .ok (.iconst 1, 1) := by decide +kernel
theorem d2_21 : decode method_3_code 21 = .ok (.newarray .char, 2) := by decide +kernel
theorem d2_23 : decode method_3_code 23 = .ok (.astore 5, 2) := by decide +kernel
theorem d2_25 : decode method_3_code 25 = .ok (.aload 5, 2) := by decide +kernel
theorem d2_27 : decode method_3_code 27 = .ok (.iconst 0, 1) := by decide +kernel
theorem d2_28 : decode method_3_code 28 = .ok (.iload_n 1, 1) := by decide +kernel
theorem d2_29 : decode method_3_code 29 = .ok (.castore, 1) := by decide +kernel
theorem d2_30 : decode method_3_code 30 = .ok (.new 7, 3) := by decide +kernel
theorem d2_33 : decode method_3_code 33 = .ok (.dup, 1) := by decide +kernel
theorem d2_34 : decode method_3_code 34 = .ok (.aload 5, 2) := by decide +kernel
theorem d2_36 : decode method_3_code 36 = .ok (.invokespecial 9, 3) := by decide +kernel
theorem d2_39 : decode method_3_code 39 = .ok (.areturn, 1) := by decide +kernel
theorem d2_40 : decode method_3_code 40 = .ok (.iload_n 0, 1) := by decide +kernel
theorem d2_41 : decode method_3_code 41 = .ok (.iconst 2, 1) := by decide +kernel
theorem d2_42 : decode method_3_code 42 = .ok (.if_icmp .ne 28, 3) := by decide +kernel
theorem d2_45 : decode method_3_code 45 = .ok (.iconst 2, 1) := by decide +kernel
theorem d2_46 : decode method_3_code 46 = .ok (.newarray .char, 2) := by decide +kernel
theorem d2_48 : decode method_3_code 48 = .ok (.astore 5, 2) := by decide +kernel
theorem d2_50 : decode method_3_code 50 = .ok (.aload 5, 2) := by decide +kernel
theorem d2_52 : decode method_3_code 52 = .ok (.iconst 0, 1) := by decide +kernel
theorem d2_53 : decode method_3_code 53 = .ok (.iload_n 1, 1) := by decide +kernel
theorem d2_54 : decode method_3_code 54 = .ok (.castore, 1) := by decide +kernel
theorem d2_55 : decode method_3_code 55 = .ok (.aload 5, 2) := by decide +kernel
theorem d2_57 : decode method_3_code 57 = .ok (.iconst 1, 1) := by decide +kernel
theorem d2_58 : decode method_3_code 58 = .ok (.iload_n 2, 1) := by decide +kernel
theorem d2_59 : decode method_3_code 59 = .ok (.castore, 1) := by decide +kernel
theorem d2_60 : decode method_3_code 60 = .ok (.new 7, 3) := by decide +kernel
theorem d2_63 : decode method_3_code 63 = .ok (.dup, 1) := by decide +kernel
theorem d2_64 : decode method_3_code 64 = .ok (.aload 5, 2) := by decide +kernel
theorem d2_66 : decode method_3_code 66 = .ok (.invokespecial 9, 3) := by decide +kernel
theorem d2_69 : decode method_3_code 69 = .ok (.areturn, 1) := by decide +kernel
theorem d2_70 : decode method_3_code 70 = .ok (.iload_n 0, 1) := by decide +kernel
theorem d2_71 : decode method_3_code 71 = .ok (.iconst 3, 1) := by decide +kernel
theorem d2_72 : decode method_3_code 72 = .ok (.if_icmp .ne 33, 3) := by decide +kernel
theorem d2_75 : decode method_3_code 75 = .ok (.iconst 3, 1) := by decide +kernel
theorem d2_76 : decode method_3_code 76 = .ok (.newarray .char, 2) := by decide +kernel
theorem d2_78 : decode method_3_code 78 = .ok (.astore 5, 2) := by decide +kernel
theorem d2_80 : decode method_3_code 80 = .ok (.aload 5, 2) := by decide +kernel
theorem d2_82 : decode method_3_code 82 = .ok (.iconst 0, 1) := by decide +kernel
theorem d2_83 : decode method_3_code 83 = .ok (.iload_n 1, 1) := by decide +kernel
theorem d2_84 : decode method_3_code 84 = .ok (.castore, 1) := by decide +kernel
theorem d2_85 : decode method_3_code 85 = .ok (.aload 5, 2) := by decide +kernel
theorem d2_87 : decode method_3_code 87 = .ok (.iconst 1, 1) := by decide +kernel
theorem d2_88 : decode method_3_code 88 = .ok (.iload_n 2, 1) := by decide +kernel
theorem d2_89 : decode method_3_code 89 = .ok (.castore, 1) := by decide +kernel
theorem d2_90 : decode method_3_code 90 = .ok (.aload 5, 2) := by decide +kernel
theorem d2_92 : decode method_3_code 92 = .ok (.iconst 2, 1) := by decide +kernel
theorem d2_93 : decode method_3_code 93 = .ok (.iload_n 3, 1) := by decide +kernel
theorem d2_94 : decode method_3_code 94 = .ok (.castore, 1) := by decide +kernel
theorem d2_95 : decode method_3_code 95 = .ok (.new 7, 3) := by decide +kernel
theorem d2_98 : decode method_3_code 98 = .ok (.dup, 1) := by decide +kernel
theorem d2_99 : decode method_3_code 99 = .ok (.aload 5, 2) := by decide +kernel
theorem d2_101 : decode method_3_code 101 = .ok (.invokespecial 9, 3) := by decide +kernel
theorem d2_104 : decode method_3_code 104 = .ok (.areturn, 1) := by decide +kernel
theorem d2_105 : decode method_3_code 105 = .ok (.iconst 4, 1) := by decide +kernel
theorem d2_106 : decode method_3_code 106 = .ok (.newarray .char, 2) := by decide +kernel
theorem d2_108 : decode method_3_code 108 = .ok (.astore 5, 2) := by decide +kernel
theorem d2_110 : decode method_3_code 110 = .ok (.aload 5, 2) := by decide +kernel
theorem d2_112 : decode method_3_code 112 = .ok (.iconst 0, 1) := by decide +kernel
theorem d2_113 : decode method_3_code 113 = .ok (.iload_n 1, 1) := by decide +kernel
theorem d2_114 : decode method_3_code 114 = .ok (.castore, 1) := by decide +kernel
theorem d2_115 : decode method_3_code 115 = .ok (.aload 5, 2) := by decide +kernel
theorem d2_117 : decode method_3_code 117 = .ok (.iconst 1, 1) := by decide +kernel
theorem d2_118 : decode method_3_code 118 = .ok (.iload_n 2, 1) := by decide +kernel
theorem d2_119 : decode method_3_code 119 = .ok (.castore, 1) := by decide +kernel
theorem d2_120 : decode method_3_code 120 = .ok (.aload 5, 2) := by decide +kernel
theorem d2_122 : decode method_3_code 122 = .ok (.iconst 2, 1) := by decide +kernel
theorem d2_123 : decode method_3_code 123 = .ok (.iload_n 3, 1) := by decide +kernel
theorem d2_124 : decode method_3_code 124 = .ok (.castore, 1) := by decide +kernel
theorem d2_125 : decode method_3_code 125 = .ok (.aload 5, 2) := by decide +kernel
theorem d2_127 : decode method_3_code 127 = .ok (.iconst 3, 1) := by decide +kernel
theorem d2_128 : decode method_3_code 128 = .ok (.iload 4, 2) := by decide +kernel
theorem d2_130 : decode method_3_code 130 = .ok (.castore, 1) := by decide +kernel
theorem d2_131 : decode method_3_code 131 = .ok (.new 7, 3) := by decide +kernel
theorem d2_134 : decode method_3_code 134 = .ok (.dup, 1) := by decide +kernel
theorem d2_135 : decode method_3_code 135 = .ok (.aload 5, 2) := by decide +kernel
theorem d2_137 : decode method_3_code 137 = .ok (.invokespecial 9, 3) := by decide +kernel
theorem d2_140 : decode method_3_code 140 = .ok (.areturn, 1) := by decide +kernel
theorem d3_0 : decode jdk_42_method_3_code 0 = .ok (.aload_n 0, 1) := by decide +kernel
theorem d3_1 : decode jdk_42_method_3_code 1 = .ok (.aload_n 1, 1) := by decide +kernel
theorem d3_2 : decode jdk_42_method_3_code 2 = .ok (.iconst 0, 1) := by decide +kernel
theorem d3_3 : decode jdk_42_method_3_code 3 = .ok (.aload_n 1, 1) := by decide +kernel
theorem d3_4 : decode jdk_42_method_3_code 4 = .ok (.arraylength, 1) := by decide +kernel
theorem d3_5 : decode jdk_42_method_3_code 5 = .ok (.aconst_null, 1) := by decide +kernel
theorem d3_6 : decode jdk_42_method_3_code 6 = .ok (.invokespecial 27, 3) := by decide +kernel
theorem d3_9 : decode jdk_42_method_3_code 9 = .ok (.return_, 1) := by decide +kernel
theorem d4_0 : decode jdk_42_method_149_code 0 = .ok (.aload_n 0, 1) := by decide +kernel
theorem d4_1 : decode jdk_42_method_149_code 1 = .ok (.invokespecial 1, 3) := by decide +kernel
theorem d4_4 : decode jdk_42_method_149_code 4 = .ok (.iload_n 3, 1) := by decide +kernel
theorem d4_5 : decode jdk_42_method_149_code 5 = .ok (.ifCond .ne 22, 3) := by decide +kernel
theorem d4_8 : decode jdk_42_method_149_code 8 = .ok (.aload_n 0, 1) := by decide +kernel
theorem d4_9 : decode jdk_42_method_149_code 9 = .ok (.ldc 7, 2) := by decide +kernel
theorem d4_11 : decode jdk_42_method_149_code 11 = .ok (.getfield 9, 3) := by decide +kernel
theorem d4_14 : decode jdk_42_method_149_code 14 = .ok (.putfield 9, 3) := by decide +kernel
theorem d4_17 : decode jdk_42_method_149_code 17 = .ok (.aload_n 0, 1) := by decide +kernel
theorem d4_18 : decode jdk_42_method_149_code 18 = .ok (.ldc 7, 2) := by decide +kernel
theorem d4_20 : decode jdk_42_method_149_code 20 = .ok (.getfield 15, 3) := by decide +kernel
theorem d4_23 : decode jdk_42_method_149_code 23 = .ok (.putfield 15, 3) := by decide +kernel
theorem d4_26 : decode jdk_42_method_149_code 26 = .ok (.return_, 1) := by decide +kernel
theorem d4_27 : decode jdk_42_method_149_code 27 = .ok (.getstatic 38, 3) := by decide +kernel
theorem d4_30 : decode jdk_42_method_149_code 30 = .ok (.ifCond .eq 28, 3) := by decide +kernel
theorem d4_33 : decode jdk_42_method_149_code 33 = .ok (.aload_n 1, 1) := by decide +kernel
theorem d4_34 : decode jdk_42_method_149_code 34 = .ok (.iload_n 2, 1) := by decide +kernel
theorem d4_35 : decode jdk_42_method_149_code 35 = .ok (.iload_n 3, 1) := by decide +kernel
theorem d4_36 : decode jdk_42_method_149_code 36 = .ok (.invokestatic 177, 3) := by decide +kernel
theorem d4_39 : decode jdk_42_method_149_code 39 = .ok (.astore 5, 2) := by decide +kernel
theorem d4_41 : decode jdk_42_method_149_code 41 = .ok (.aload_n 0, 1) := by decide +kernel
theorem d4_42 : decode jdk_42_method_149_code 42 = .ok (.aload 5, 2) := by decide +kernel
theorem d4_44 : decode jdk_42_method_149_code 44 = .ok (.iload_n 3, 1) := by decide +kernel
theorem d4_45 : decode jdk_42_method_149_code 45 = .ok (.invokestatic 47, 3) := by decide +kernel
theorem d4_48 : decode jdk_42_method_149_code 48 = .ok (.putfield 15, 3) := by decide +kernel
theorem d4_51 : decode jdk_42_method_149_code 51 = .ok (.aload_n 0, 1) := by decide +kernel
theorem d4_52 : decode jdk_42_method_149_code 52 = .ok (.aload 5, 2) := by decide +kernel
theorem d4_54 : decode jdk_42_method_149_code 54 = .ok (.putfield 9, 3) := by decide +kernel
theorem d4_57 : decode jdk_42_method_149_code 57 = .ok (.return_, 1) := by decide +kernel
theorem d6_0 : decode jdk_52_method_16_code 0 = .ok (.iload_n 2, 1) := by decide +kernel
theorem d6_1 : decode jdk_52_method_16_code 1 = .ok (.newarray .byte, 2) := by decide +kernel
theorem d6_3 : decode jdk_52_method_16_code 3 = .ok (.astore_n 3, 1) := by decide +kernel
theorem d6_4 : decode jdk_52_method_16_code 4 = .ok (.aload_n 0, 1) := by decide +kernel
theorem d6_5 : decode jdk_52_method_16_code 5 = .ok (.iload_n 1, 1) := by decide +kernel
theorem d6_6 : decode jdk_52_method_16_code 6 = .ok (.aload_n 3, 1) := by decide +kernel
theorem d6_7 : decode jdk_52_method_16_code 7 = .ok (.iconst 0, 1) := by decide +kernel
theorem d6_8 : decode jdk_52_method_16_code 8 = .ok (.iload_n 2, 1) := by decide +kernel
theorem d6_9 : decode jdk_52_method_16_code 9 = .ok (.invokestatic 115, 3) := by decide +kernel
theorem d6_12 : decode jdk_52_method_16_code 12 = .ok (.istore 4, 2) := by decide +kernel
theorem d6_14 : decode jdk_52_method_16_code 14 = .ok (.iload 4, 2) := by decide +kernel
theorem d6_16 : decode jdk_52_method_16_code 16 = .ok (.iload_n 2, 1) := by decide +kernel
theorem d6_17 : decode jdk_52_method_16_code 17 = .ok (.if_icmp .eq 40, 3) := by decide +kernel
theorem d6_57 : decode jdk_52_method_16_code 57 = .ok (.aload_n 3, 1) := by decide +kernel
theorem d6_58 : decode jdk_52_method_16_code 58 = .ok (.areturn, 1) := by decide +kernel
theorem d7_0 : decode jdk_52_method_21_code 0 = .ok (.iconst 0, 1) := by decide +kernel
theorem d7_1 : decode jdk_52_method_21_code 1 = .ok (.istore 5, 2) := by decide +kernel
theorem d7_3 : decode jdk_52_method_21_code 3 = .ok (.iload 5, 2) := by decide +kernel
theorem d7_5 : decode jdk_52_method_21_code 5 = .ok (.iload 4, 2) := by decide +kernel
theorem d7_7 : decode jdk_52_method_21_code 7 = .ok (.if_icmp .ge 37, 3) := by decide +kernel
theorem d7_10 : decode jdk_52_method_21_code 10 = .ok (.aload_n 0, 1) := by decide +kernel
theorem d7_11 : decode jdk_52_method_21_code 11 = .ok (.iload_n 1, 1) := by decide +kernel
theorem d7_12 : decode jdk_52_method_21_code 12 = .ok (.caload, 1) := by decide +kernel
theorem d7_13 : decode jdk_52_method_21_code 13 = .ok (.istore 6, 2) := by decide +kernel
theorem d7_15 : decode jdk_52_method_21_code 15 = .ok (.iload 6, 2) := by decide +kernel
theorem d7_17 : decode jdk_52_method_21_code 17 = .ok (.sipush 255, 3) := by decide +kernel
theorem d7_20 : decode jdk_52_method_21_code 20 = .ok (.if_icmp .le 6, 3) := by decide +kernel
theorem d7_26 : decode jdk_52_method_21_code 26 = .ok (.aload_n 2, 1) := by decide +kernel
theorem d7_27 : decode jdk_52_method_21_code 27 = .ok (.iload_n 3, 1) := by decide +kernel
theorem d7_28 : decode jdk_52_method_21_code 28 = .ok (.iload 6, 2) := by decide +kernel
theorem d7_30 : decode jdk_52_method_21_code 30 = .ok (.i2b, 1) := by decide +kernel
theorem d7_31 : decode jdk_52_method_21_code 31 = .ok (.bastore, 1) := by decide +kernel
theorem d7_32 : decode jdk_52_method_21_code 32 = .ok (.iinc 1 1, 3) := by decide +kernel
theorem d7_35 : decode jdk_52_method_21_code 35 = .ok (.iinc 3 1, 3) := by decide +kernel
theorem d7_38 : decode jdk_52_method_21_code 38 = .ok (.iinc 5 1, 3) := by decide +kernel
theorem d7_41 : decode jdk_52_method_21_code 41 = .ok (.goto (-38), 3) := by decide +kernel
theorem d7_44 : decode jdk_52_method_21_code 44 = .ok (.iload 4, 2) := by decide +kernel
theorem d7_46 : decode jdk_52_method_21_code 46 = .ok (.ireturn, 1) := by decide +kernel
theorem d8_0 : decode jdk_52_method_15_code 0 = .ok (.iload_n 1, 1) := by decide +kernel
theorem d8_1 : decode jdk_52_method_15_code 1 = .ok (.aload_n 0, 1) := by decide +kernel
theorem d8_2 : decode jdk_52_method_15_code 2 = .ok (.arraylength, 1) := by decide +kernel
theorem d8_3 : decode jdk_52_method_15_code 3 = .ok (.isub, 1) := by decide +kernel
theorem d8_4 : decode jdk_52_method_15_code 4 = .ok (.bipush 31, 2) := by decide +kernel
theorem d8_6 : decode jdk_52_method_15_code 6 = .ok (.iushr, 1) := by decide +kernel
theorem d8_7 : decode jdk_52_method_15_code 7 = .ok (.i2b, 1) := by decide +kernel
theorem d8_8 : decode jdk_52_method_15_code 8 = .ok (.ireturn, 1) := by decide +kernel
theorem d9_0 : decode prog_8_method_2_code 0 = .ok (.aload_n 0, 1) := by decide +kernel
theorem d9_1 : decode prog_8_method_2_code 1 = .ok (.ldc 37, 2) := by decide +kernel
theorem d9_3 : decode prog_8_method_2_code 3 = .ok (.invokestatic 9, 3) := by decide +kernel
theorem d9_6 : decode prog_8_method_2_code 6 = .ok (.pop, 1) := by decide +kernel
theorem d9_7 : decode prog_8_method_2_code 7 = .ok (.aload_n 0, 1) := by decide +kernel
theorem d9_8 : decode prog_8_method_2_code 8 = .ok (.bipush 46, 2) := by decide +kernel
theorem d9_10 : decode prog_8_method_2_code 10 = .ok (.invokevirtual 39, 3) := by decide +kernel
theorem d9_13 : decode prog_8_method_2_code 13 = .ok (.istore_n 1, 1) := by decide +kernel
theorem d9_14 : decode prog_8_method_2_code 14 = .ok (.iload_n 1, 1) := by decide +kernel
theorem d9_15 : decode prog_8_method_2_code 15 = .ok (.ifCond .lt 15, 3) := by decide +kernel
theorem d9_18 : decode prog_8_method_2_code 18 = .ok (.aload_n 0, 1) := by decide +kernel
theorem d9_19 : decode prog_8_method_2_code 19 = .ok (.bipush 46, 2) := by decide +kernel
theorem d9_21 : decode prog_8_method_2_code 21 = .ok (.iload_n 1, 1) := by decide +kernel
theorem d9_22 : decode prog_8_method_2_code 22 = .ok (.iconst 1, 1) := by decide +kernel
theorem d9_23 : decode prog_8_method_2_code 23 = .ok (.iadd, 1) := by decide +kernel
theorem d9_24 : decode prog_8_method_2_code 24 = .ok (.invokevirtual 43, 3) := by decide +kernel
theorem d9_27 : decode prog_8_method_2_code 27 = .ok (.ifCond .ge 7, 3) := by decide +kernel
theorem d9_30 : decode prog_8_method_2_code 30 = .ok (.iconst 1, 1) := by decide +kernel
theorem d9_31 : decode prog_8_method_2_code 31 = .ok (.goto 4, 3) := by decide +kernel
theorem d9_35 : decode prog_8_method_2_code 35 = .ok (.istore_n 2, 1) := by decide +kernel
theorem d9_36 : decode prog_8_method_2_code 36 = .ok (.aload_n 0, 1) := by decide +kernel
theorem d9_37 : decode prog_8_method_2_code 37 = .ok (.invokevirtual 17, 3) := by decide +kernel
theorem d9_40 : decode prog_8_method_2_code 40 = .ok (.ifCond .ne 21, 3) := by decide +kernel
theorem d9_43 : decode prog_8_method_2_code 43 = .ok (.iload_n 1, 1) := by decide +kernel
theorem d9_44 : decode prog_8_method_2_code 44 = .ok (.ifCond .eq 17, 3) := by decide +kernel
theorem d9_47 : decode prog_8_method_2_code 47 = .ok (.iload_n 1, 1) := by decide +kernel
theorem d9_48 : decode prog_8_method_2_code 48 = .ok (.aload_n 0, 1) := by decide +kernel
theorem d9_49 : decode prog_8_method_2_code 49 = .ok (.invokevirtual 46, 3) := by decide +kernel
theorem d9_52 : decode prog_8_method_2_code 52 = .ok (.iconst 1, 1) := by decide +kernel
theorem d9_53 : decode prog_8_method_2_code 53 = .ok (.isub, 1) := by decide +kernel
theorem d9_54 : decode prog_8_method_2_code 54 = .ok (.if_icmp .eq 7, 3) := by decide +kernel
theorem d9_57 : decode prog_8_method_2_code 57 = .ok (.iconst 1, 1) := by decide +kernel
theorem d9_58 : decode prog_8_method_2_code 58 = .ok (.goto 4, 3) := by decide +kernel
theorem d9_62 : decode prog_8_method_2_code 62 = .ok (.istore_n 3, 1) := by decide +kernel
theorem d9_63 : decode prog_8_method_2_code 63 = .ok (.iload_n 2, 1) := by decide +kernel
theorem d9_64 : decode prog_8_method_2_code 64 = .ok (.ifCond .eq 7, 3) := by decide +kernel
theorem d9_67 : decode prog_8_method_2_code 67 = .ok (.iload_n 3, 1) := by decide +kernel
theorem d9_68 : decode prog_8_method_2_code 68 = .ok (.ifCond .ne 17, 3) := by decide +kernel
theorem d9_85 : decode prog_8_method_2_code 85 = .ok (.iload_n 1, 1) := by decide +kernel
theorem d9_86 : decode prog_8_method_2_code 86 = .ok (.ifCond .ge 16, 3) := by decide +kernel
theorem d9_89 : decode prog_8_method_2_code 89 = .ok (.new 31, 3) := by decide +kernel
theorem d9_92 : decode prog_8_method_2_code 92 = .ok (.dup, 1) := by decide +kernel
theorem d9_93 : decode prog_8_method_2_code 93 = .ok (.ldc 54, 2) := by decide +kernel
theorem d9_95 : decode prog_8_method_2_code 95 = .ok (.aload_n 0, 1) := by decide +kernel
theorem d9_96 : decode prog_8_method_2_code 96 = .ok (.invokespecial 56, 3) := by decide +kernel
theorem d9_99 : decode prog_8_method_2_code 99 = .ok (.goto 23, 3) := by decide +kernel
theorem d9_102 : decode prog_8_method_2_code 102 = .ok (.new 31, 3) := by decide +kernel
theorem d9_105 : decode prog_8_method_2_code 105 = .ok (.dup, 1) := by decide +kernel
theorem d9_106 : decode prog_8_method_2_code 106 = .ok (.aload_n 0, 1) := by decide +kernel
theorem d9_107 : decode prog_8_method_2_code 107 = .ok (.iconst 0, 1) := by decide +kernel
theorem d9_108 : decode prog_8_method_2_code 108 = .ok (.iload_n 1, 1) := by decide +kernel
theorem d9_109 : decode prog_8_method_2_code 109 = .ok (.invokevirtual 59, 3) := by decide +kernel
theorem d9_112 : decode prog_8_method_2_code 112 = .ok (.aload_n 0, 1) := by decide +kernel
theorem d9_113 : decode prog_8_method_2_code 113 = .ok (.iload_n 1, 1) := by decide +kernel
theorem d9_114 : decode prog_8_method_2_code 114 = .ok (.iconst 1, 1) := by decide +kernel
theorem d9_115 : decode prog_8_method_2_code 115 = .ok (.iadd, 1) := by decide +kernel
theorem d9_116 : decode prog_8_method_2_code 116 = .ok (.invokevirtual 63, 3) := by decide +kernel
theorem d9_119 : decode prog_8_method_2_code 119 = .ok (.invokespecial 56, 3) := by decide +kernel
theorem d9_122 : decode prog_8_method_2_code 122 = .ok (.areturn, 1) := by decide +kernel
theorem d10_0 : decode jdk_31_method_11_code 0 = .ok (.aload_n 0, 1) := by decide +kernel
theorem d10_1 : decode jdk_31_method_11_code 1 = .ok (.ifnonnull 12, 3) := by decide +kernel
theorem d10_13 : decode jdk_31_method_11_code 13 = .ok (.aload_n 0, 1) := by decide +kernel
theorem d10_14 : decode jdk_31_method_11_code 14 = .ok (.areturn, 1) := by decide +kernel
theorem d11_0 : decode jdk_42_method_79_code 0 = .ok (.aload_n 0, 1) := by decide +kernel
theorem d11_1 : decode jdk_42_method_79_code 1 = .ok (.iload_n 1, 1) := by decide +kernel
theorem d11_2 : decode jdk_42_method_79_code 2 = .ok (.iconst 0, 1) := by decide +kernel
theorem d11_3 : decode jdk_42_method_79_code 3 = .ok (.invokevirtual 633, 3) := by decide +kernel
theorem d11_6 : decode jdk_42_method_79_code 6 = .ok (.ireturn, 1) := by decide +kernel
theorem d12_0 : decode jdk_42_method_80_code 0 = .ok (.aload_n 0, 1) := by decide +kernel
theorem d12_1 : decode jdk_42_method_80_code 1 = .ok (.invokevirtual 492, 3) := by decide +kernel
theorem d12_4 : decode jdk_42_method_80_code 4 = .ok (.ifCond .eq 19, 3) := by decide +kernel
theorem d12_7 : decode jdk_42_method_80_code 7 = .ok (.aload_n 0, 1) := by decide +kernel
theorem d12_8 : decode jdk_42_method_80_code 8 = .ok (.getfield 9, 3) := by decide +kernel
theorem d12_11 : decode jdk_42_method_80_code 11 = .ok (.iload_n 1, 1) := by decide +kernel
theorem d12_12 : decode jdk_42_method_80_code 12 = .ok (.iload_n 2, 1) := by decide +kernel
theorem d12_13 : decode jdk_42_method_80_code 13 = .ok (.aload_n 0, 1) := by decide +kernel
theorem d12_14 : decode jdk_42_method_80_code 14 = .ok (.invokevirtual 505, 3) := by decide +kernel
theorem d12_17 : decode jdk_42_method_80_code 17 = .ok (.invokestatic 637, 3) := by decide +kernel
theorem d12_20 : decode jdk_42_method_80_code 20 = .ok (.goto 16, 3) := by decide +kernel
theorem d12_36 : decode jdk_42_method_80_code 36 = .ok (.ireturn, 1) := by decide +kernel
theorem d13_0 : decode jdk_42_method_154_code 0 = .ok (.getstatic 38, 3) := by decide +kernel
theorem d13_3 : decode jdk_42_method_154_code 3 = .ok (.ifCond .eq 14, 3) := by decide +kernel
theorem d13_6 : decode jdk_42_method_154_code 6 = .ok (.aload_n 0, 1) := by decide +kernel
theorem d13_7 : decode jdk_42_method_154_code 7 = .ok (.getfield 15, 3) := by decide +kernel
theorem d13_10 : decode jdk_42_method_154_code 10 = .ok (.ifCond .ne 7, 3) := by decide +kernel
theorem d13_13 : decode jdk_42_method_154_code 13 = .ok (.iconst 1, 1) := by decide +kernel
theorem d13_14 : decode jdk_42_method_154_code 14 = .ok (.goto 4, 3) := by decide +kernel
theorem d13_18 : decode jdk_42_method_154_code 18 = .ok (.ireturn, 1) := by decide +kernel
theorem d14_0 : decode jdk_42_method_54_code 0 = .ok (.aload_n 0, 1) := by decide +kernel
theorem d14_1 : decode jdk_42_method_54_code 1 = .ok (.getfield 9, 3) := by decide +kernel
theorem d14_4 : decode jdk_42_method_54_code 4 = .ok (.arraylength, 1) := by decide +kernel
theorem d14_5 : decode jdk_42_method_54_code 5 = .ok (.aload_n 0, 1) := by decide +kernel
theorem d14_6 : decode jdk_42_method_54_code 6 = .ok (.invokevirtual 335, 3) := by decide +kernel
theorem d14_9 : decode jdk_42_method_54_code 9 = .ok (.ishr, 1) := by decide +kernel
theorem d14_10 : decode jdk_42_method_54_code 10 = .ok (.ireturn, 1) := by decide +kernel
theorem d15_0 : decode jdk_42_method_152_code 0 = .ok (.getstatic 38, 3) := by decide +kernel
theorem d15_3 : decode jdk_42_method_152_code 3 = .ok (.ifCond .eq 10, 3) := by decide +kernel
theorem d15_6 : decode jdk_42_method_152_code 6 = .ok (.aload_n 0, 1) := by decide +kernel
theorem d15_7 : decode jdk_42_method_152_code 7 = .ok (.getfield 15, 3) := by decide +kernel
theorem d15_10 : decode jdk_42_method_152_code 10 = .ok (.goto 4, 3) := by decide +kernel
theorem d15_14 : decode jdk_42_method_152_code 14 = .ok (.ireturn, 1) := by decide +kernel
theorem d16_0 : decode jdk_43_method_22_code 0 = .ok (.iload_n 1, 1) := by decide +kernel
theorem d16_1 : decode jdk_43_method_22_code 1 = .ok (.invokestatic 88, 3) := by decide +kernel
theorem d16_4 : decode jdk_43_method_22_code 4 = .ok (.ifCond .ne 5, 3) := by decide +kernel
theorem d16_9 : decode jdk_43_method_22_code 9 = .ok (.iload_n 2, 1) := by decide +kernel
theorem d16_10 : decode jdk_43_method_22_code 10 = .ok (.iconst 0, 1) := by decide +kernel
theorem d16_11 : decode jdk_43_method_22_code 11 = .ok (.invokestatic 92, 3) := by decide +kernel
theorem d16_14 : decode jdk_43_method_22_code 14 = .ok (.istore_n 2, 1) := by decide +kernel
theorem d16_15 : decode jdk_43_method_22_code 15 = .ok (.iload_n 3, 1) := by decide +kernel
theorem d16_16 : decode jdk_43_method_22_code 16 = .ok (.aload_n 0, 1) := by decide +kernel
theorem d16_17 : decode jdk_43_method_22_code 17 = .ok (.arraylength, 1) := by decide +kernel
theorem d16_18 : decode jdk_43_method_22_code 18 = .ok (.invokestatic 38, 3) := by decide +kernel
theorem d16_21 : decode jdk_43_method_22_code 21 = .ok (.istore_n 3, 1) := by decide +kernel
theorem d16_22 : decode jdk_43_method_22_code 22 = .ok (.iload_n 2, 1) := by decide +kernel
theorem d16_23 : decode jdk_43_method_22_code 23 = .ok (.iload_n 3, 1) := by decide +kernel
theorem d16_24 : decode jdk_43_method_22_code 24 = .ok (.if_icmp .lt 5, 3) := by decide +kernel
theorem d16_29 : decode jdk_43_method_22_code 29 = .ok (.aload_n 0, 1) := by decide +kernel
theorem d16_30 : decode jdk_43_method_22_code 30 = .ok (.iload_n 1, 1) := by decide +kernel
theorem d16_31 : decode jdk_43_method_22_code 31 = .ok (.iload_n 2, 1) := by decide +kernel
theorem d16_32 : decode jdk_43_method_22_code 32 = .ok (.iload_n 3, 1) := by decide +kernel
theorem d16_33 : decode jdk_43_method_22_code 33 = .ok (.invokestatic 95, 3) := by decide +kernel
theorem d16_36 : decode jdk_43_method_22_code 36 = .ok (.ireturn, 1) := by decide +kernel
theorem d17_0 : decode jdk_43_method_4_code 0 = .ok (.iload_n 0, 1) := by decide +kernel
theorem d17_1 : decode jdk_43_method_4_code 1 = .ok (.ifCond .lt 14, 3) := by decide +kernel
theorem d17_4 : decode jdk_43_method_4_code 4 = .ok (.iload_n 0, 1) := by decide +kernel
theorem d17_5 : decode jdk_43_method_4_code 5 = .ok (.sipush 255, 3) := by decide +kernel
theorem d17_8 : decode jdk_43_method_4_code 8 = .ok (.if_icmp .gt 7, 3) := by decide +kernel
theorem d17_11 : decode jdk_43_method_4_code 11 = .ok (.iconst 1, 1) := by decide +kernel
theorem d17_12 : decode jdk_43_method_4_code 12 = .ok (.goto 4, 3) := by decide +kernel
theorem d17_16 : decode jdk_43_method_4_code 16 = .ok (.ireturn, 1) := by decide +kernel
theorem d18_0 : decode jdk_29_method_65_code 0 = .ok (.iload_n 0, 1) := by decide +kernel
theorem d18_1 : decode jdk_29_method_65_code 1 = .ok (.iload_n 1, 1) := by decide +kernel
theorem d18_2 : decode jdk_29_method_65_code 2 = .ok (.if_icmp .lt 7, 3) := by decide +kernel
theorem d18_5 : decode jdk_29_method_65_code 5 = .ok (.iload_n 0, 1) := by decide +kernel
theorem d18_6 : decode jdk_29_method_65_code 6 = .ok (.goto 4, 3) := by decide +kernel
theorem d18_10 : decode jdk_29_method_65_code 10 = .ok (.ireturn, 1) := by decide +kernel
theorem d19_0 : decode jdk_29_method_69_code 0 = .ok (.iload_n 0, 1) := by decide +kernel
theorem d19_1 : decode jdk_29_method_69_code 1 = .ok (.iload_n 1, 1) := by decide +kernel
theorem d19_2 : decode jdk_29_method_69_code 2 = .ok (.if_icmp .gt 7, 3) := by decide +kernel
theorem d19_5 : decode jdk_29_method_69_code 5 = .ok (.iload_n 0, 1) := by decide +kernel
theorem d19_6 : decode jdk_29_method_69_code 6 = .ok (.goto 4, 3) := by decide +kernel
theorem d19_9 : decode jdk_29_method_69_code 9 = .ok (.iload_n 1, 1) := by decide +kernel
theorem d19_10 : decode jdk_29_method_69_code 10 = .ok (.ireturn, 1) := by decide +kernel
theorem d20_0 : decode jdk_43_method_23_code 0 = .ok (.iload_n 1, 1) := by decide +kernel
theorem d20_1 : decode jdk_43_method_23_code 1 = .ok (.i2b, 1) := by decide +kernel
theorem d20_2 : decode jdk_43_method_23_code 2 = .ok (.istore 4, 2) := by decide +kernel
theorem d20_4 : decode jdk_43_method_23_code 4 = .ok (.iload_n 2, 1) := by decide +kernel
theorem d20_5 : decode jdk_43_method_23_code 5 = .ok (.istore 5, 2) := by decide +kernel
theorem d20_7 : decode jdk_43_method_23_code 7 = .ok (.iload 5, 2) := by decide +kernel
theorem d20_9 : decode jdk_43_method_23_code 9 = .ok (.iload_n 3, 1) := by decide +kernel
theorem d20_10 : decode jdk_43_method_23_code 10 = .ok (.if_icmp .ge 21, 3) := by decide +kernel
theorem d20_13 : decode jdk_43_method_23_code 13 = .ok (.aload_n 0, 1) := by decide +kernel
theorem d20_14 : decode jdk_43_method_23_code 14 = .ok (.iload 5, 2) := by decide +kernel
theorem d20_16 : decode jdk_43_method_23_code 16 = .ok (.baload, 1) := by decide +kernel
theorem d20_17 : decode jdk_43_method_23_code 17 = .ok (.iload 4, 2) := by decide +kernel
theorem d20_19 : decode jdk_43_method_23_code 19 = .ok (.if_icmp .ne 6, 3) := by decide +kernel
theorem d20_22 : decode jdk_43_method_23_code 22 = .ok (.iload 5, 2) := by decide +kernel
theorem d20_24 : decode jdk_43_method_23_code 24 = .ok (.ireturn, 1) := by decide +kernel
theorem d20_25 : decode jdk_43_method_23_code 25 = .ok (.iinc 5 1, 3) := by decide +kernel
theorem d20_28 : decode jdk_43_method_23_code 28 = .ok (.goto (-21), 3) := by decide +kernel
theorem d20_31 : decode jdk_43_method_23_code 31 = .ok (.iconst (-1), 1) := by decide +kernel
theorem d20_32 : decode jdk_43_method_23_code 32 = .ok (.ireturn, 1) := by decide +kernel
theorem d21_0 : decode jdk_42_method_55_code 0 = .ok (.aload_n 0, 1) := by decide +kernel
theorem d21_1 : decode jdk_42_method_55_code 1 = .ok (.getfield 9, 3) := by decide +kernel
theorem d21_4 : decode jdk_42_method_55_code 4 = .ok (.arraylength, 1) := by decide +kernel
theorem d21_5 : decode jdk_42_method_55_code 5 = .ok (.ifCond .ne 7, 3) := by decide +kernel
theorem d21_12 : decode jdk_42_method_55_code 12 = .ok (.iconst 0, 1) := by decide +kernel
theorem d21_13 : decode jdk_42_method_55_code 13 = .ok (.ireturn, 1) := by decide +kernel
theorem d22_0 : decode prog_8_method_1_code 0 = .ok (.aload_n 0, 1) := by decide +kernel
theorem d22_1 : decode prog_8_method_1_code 1 = .ok (.invokespecial 1, 3) := by decide +kernel
theorem d22_4 : decode prog_8_method_1_code 4 = .ok (.aload_n 1, 1) := by decide +kernel
theorem d22_5 : decode prog_8_method_1_code 5 = .ok (.ldc 7, 2) := by decide +kernel
theorem d22_7 : decode prog_8_method_1_code 7 = .ok (.invokestatic 9, 3) := by decide +kernel
theorem d22_10 : decode prog_8_method_1_code 10 = .ok (.pop, 1) := by decide +kernel
theorem d22_11 : decode prog_8_method_1_code 11 = .ok (.aload_n 2, 1) := by decide +kernel
theorem d22_12 : decode prog_8_method_1_code 12 = .ok (.ldc 15, 2) := by decide +kernel
theorem d22_14 : decode prog_8_method_1_code 14 = .ok (.invokestatic 9, 3) := by decide +kernel
theorem d22_17 : decode prog_8_method_1_code 17 = .ok (.pop, 1) := by decide +kernel
theorem d22_18 : decode prog_8_method_1_code 18 = .ok (.aload_n 1, 1) := by decide +kernel
theorem d22_19 : decode prog_8_method_1_code 19 = .ok (.invokevirtual 17, 3) := by decide +kernel
theorem d22_22 : decode prog_8_method_1_code 22 = .ok (.ifCond .ne 10, 3) := by decide +kernel
theorem d22_25 : decode prog_8_method_1_code 25 = .ok (.aload_n 2, 1) := by decide +kernel
theorem d22_26 : decode prog_8_method_1_code 26 = .ok (.invokevirtual 17, 3) := by decide +kernel
theorem d22_29 : decode prog_8_method_1_code 29 = .ok (.ifCond .eq 13, 3) := by decide +kernel
theorem d22_42 : decode prog_8_method_1_code 42 = .ok (.aload_n 0, 1) := by decide +kernel
theorem d22_43 : decode prog_8_method_1_code 43 = .ok (.aload_n 1, 1) := by decide +kernel
theorem d22_44 : decode prog_8_method_1_code 44 = .ok (.putfield 30, 3) := by decide +kernel
theorem d22_47 : decode prog_8_method_1_code 47 = .ok (.aload_n 0, 1) := by decide +kernel
theorem d22_48 : decode prog_8_method_1_code 48 = .ok (.aload_n 2, 1) := by decide +kernel
theorem d22_49 : decode prog_8_method_1_code 49 = .ok (.putfield 35, 3) := by decide +kernel
theorem d22_52 : decode prog_8_method_1_code 52 = .ok (.return_, 1) := by decide +kernel
theorem d23_0 : decode jdk_30_method_1_code 0 = .ok (.aload_n 0, 1) := by decide +kernel
theorem d23_1 : decode jdk_30_method_1_code 1 = .ok (.invokespecial 1, 3) := by decide +kernel
theorem d23_4 : decode jdk_30_method_1_code 4 = .ok (.return_, 1) := by decide +kernel
theorem d24_0 : decode prog_8_method_9_code 0 = .ok (.aload_n 0, 1) := by decide +kernel
theorem d24_1 : decode prog_8_method_9_code 1 = .ok (.getfield 30, 3) := by decide +kernel
theorem d24_4 : decode prog_8_method_9_code 4 = .ok (.areturn, 1) := by decide +kernel
theorem d25_0 : decode jdk_42_method_66_code 0 = .ok (.aload_n 0, 1) := by decide +kernel
theorem d25_1 : decode jdk_42_method_66_code 1 = .ok (.aload_n 1, 1) := by decide +kernel
theorem d25_2 : decode jdk_42_method_66_code 2 = .ok (.if_acmp .ne 5, 3) := by decide +kernel
theorem d25_5 : decode jdk_42_method_66_code 5 = .ok (.iconst 1, 1) := by decide +kernel
theorem d25_6 : decode jdk_42_method_66_code 6 = .ok (.ireturn, 1) := by decide +kernel
theorem d25_7 : decode jdk_42_method_66_code 7 = .ok (.aload_n 1, 1) := by decide +kernel
theorem d25_8 : decode jdk_42_method_66_code 8 = .ok (.instanceof 10, 3) := by decide +kernel
theorem d25_11 : decode jdk_42_method_66_code 11 = .ok (.ifCond .eq 43, 3) := by decide +kernel
theorem d25_14 : decode jdk_42_method_66_code 14 = .ok (.aload_n 1, 1) := by decide +kernel
theorem d25_15 : decode jdk_42_method_66_code 15 = .ok (.checkcast 10, 3) := by decide +kernel
theorem d25_18 : decode jdk_42_method_66_code 18 = .ok (.astore_n 2, 1) := by decide +kernel
theorem d25_19 : decode jdk_42_method_66_code 19 = .ok (.getstatic 38, 3) := by decide +kernel
theorem d25_22 : decode jdk_42_method_66_code 22 = .ok (.ifCond .eq 14, 3) := by decide +kernel
theorem d25_25 : decode jdk_42_method_66_code 25 = .ok (.aload_n 0, 1) := by decide +kernel
theorem d25_26 : decode jdk_42_method_66_code 26 = .ok (.getfield 15, 3) := by decide +kernel
theorem d25_29 : decode jdk_42_method_66_code 29 = .ok (.aload_n 2, 1) := by decide +kernel
theorem d25_30 : decode jdk_42_method_66_code 30 = .ok (.getfield 15, 3) := by decide +kernel
theorem d25_33 : decode jdk_42_method_66_code 33 = .ok (.if_icmp .ne 21, 3) := by decide +kernel
theorem d25_36 : decode jdk_42_method_66_code 36 = .ok (.aload_n 0, 1) := by decide +kernel
theorem d25_37 : decode jdk_42_method_66_code 37 = .ok (.getfield 9, 3) := by decide +kernel
theorem d25_40 : decode jdk_42_method_66_code 40 = .ok (.aload_n 2, 1) := by decide +kernel
theorem d25_41 : decode jdk_42_method_66_code 41 = .ok (.getfield 9, 3) := by decide +kernel
theorem d25_44 : decode jdk_42_method_66_code 44 = .ok (.invokestatic 541, 3) := by decide +kernel
theorem d25_47 : decode jdk_42_method_66_code 47 = .ok (.ifCond .eq 7, 3) := by decide +kernel
theorem d25_50 : decode jdk_42_method_66_code 50 = .ok (.iconst 1, 1) := by decide +kernel
theorem d25_51 : decode jdk_42_method_66_code 51 = .ok (.goto 4, 3) := by decide +kernel
theorem d25_54 : decode jdk_42_method_66_code 54 = .ok (.iconst 0, 1) := by decide +kernel
theorem d25_55 : decode jdk_42_method_66_code 55 = .ok (.ireturn, 1) := by decide +kernel
theorem d26_0 : decode prog_8_method_10_code 0 = .ok (.aload_n 0, 1) := by decide +kernel
theorem d26_1 : decode prog_8_method_10_code 1 = .ok (.getfield 35, 3) := by decide +kernel
theorem d26_4 : decode prog_8_method_10_code 4 = .ok (.areturn, 1) := by decide +kernel
theorem d27_0 : decode jdk_42_method_92_code 0 = .ok (.aload_n 0, 1) := by decide +kernel
theorem d27_1 : decode jdk_42_method_92_code 1 = .ok (.invokevirtual 505, 3) := by decide +kernel
theorem d27_4 : decode jdk_42_method_92_code 4 = .ok (.istore_n 3, 1) := by decide +kernel
theorem d27_5 : decode jdk_42_method_92_code 5 = .ok (.iload_n 1, 1) := by decide +kernel
theorem d27_6 : decode jdk_42_method_92_code 6 = .ok (.iload_n 2, 1) := by decide +kernel
theorem d27_7 : decode jdk_42_method_92_code 7 = .ok (.iload_n 3, 1) := by decide +kernel
theorem d27_8 : decode jdk_42_method_92_code 8 = .ok (.invokestatic 521, 3) := by decide +kernel
theorem d27_11 : decode jdk_42_method_92_code 11 = .ok (.iload_n 1, 1) := by decide +kernel
theorem d27_12 : decode jdk_42_method_92_code 12 = .ok (.ifCond .ne 10, 3) := by decide +kernel
theorem d27_15 : decode jdk_42_method_92_code 15 = .ok (.iload_n 2, 1) := by decide +kernel
theorem d27_16 : decode jdk_42_method_92_code 16 = .ok (.iload_n 3, 1) := by decide +kernel
theorem d27_17 : decode jdk_42_method_92_code 17 = .ok (.if_icmp .ne 5, 3) := by decide +kernel
theorem d27_22 : decode jdk_42_method_92_code 22 = .ok (.iload_n 2, 1) := by decide +kernel
theorem d27_23 : decode jdk_42_method_92_code 23 = .ok (.iload_n 1, 1) := by decide +kernel
theorem d27_24 : decode jdk_42_method_92_code 24 = .ok (.isub, 1) := by decide +kernel
theorem d27_25 : decode jdk_42_method_92_code 25 = .ok (.istore 4, 2) := by decide +kernel
theorem d27_27 : decode jdk_42_method_92_code 27 = .ok (.aload_n 0, 1) := by decide +kernel
theorem d27_28 : decode jdk_42_method_92_code 28 = .ok (.invokevirtual 492, 3) := by decide +kernel
theorem d27_31 : decode jdk_42_method_92_code 31 = .ok (.ifCond .eq 16, 3) := by decide +kernel
theorem d27_34 : decode jdk_42_method_92_code 34 = .ok (.aload_n 0, 1) := by decide +kernel
theorem d27_35 : decode jdk_42_method_92_code 35 = .ok (.getfield 9, 3) := by decide +kernel
theorem d27_38 : decode jdk_42_method_92_code 38 = .ok (.iload_n 1, 1) := by decide +kernel
theorem d27_39 : decode jdk_42_method_92_code 39 = .ok (.iload 4, 2) := by decide +kernel
theorem d27_41 : decode jdk_42_method_92_code 41 = .ok (.invokestatic 685, 3) := by decide +kernel
theorem d27_44 : decode jdk_42_method_92_code 44 = .ok (.goto 13, 3) := by decide +kernel
theorem d27_57 : decode jdk_42_method_92_code 57 = .ok (.areturn, 1) := by decide +kernel
theorem d28_0 : decode jdk_42_method_158_code 0 = .ok (.iload_n 0, 1) := by decide +kernel
theorem d28_1 : decode jdk_42_method_158_code 1 = .ok (.iload_n 1, 1) := by decide +kernel
theorem d28_2 : decode jdk_42_method_158_code 2 = .ok (.iload_n 2, 1) := by decide +kernel
theorem d28_3 : decode jdk_42_method_158_code 3 = .ok (.getstatic 1053, 3) := by decide +kernel
theorem d28_6 : decode jdk_42_method_158_code 6 = .ok (.invokestatic 1062, 3) := by decide +kernel
theorem d28_9 : decode jdk_42_method_158_code 9 = .ok (.pop, 1) := by decide +kernel
theorem d28_10 : decode jdk_42_method_158_code 10 = .ok (.return_, 1) := by decide +kernel
theorem d29_0 : decode jdk_41_method_12_code 0 = .ok (.iload_n 0, 1) := by decide +kernel
theorem d29_1 : decode jdk_41_method_12_code 1 = .ok (.ifCond .lt 13, 3) := by decide +kernel
theorem d29_4 : decode jdk_41_method_12_code 4 = .ok (.iload_n 0, 1) := by decide +kernel
theorem d29_5 : decode jdk_41_method_12_code 5 = .ok (.iload_n 1, 1) := by decide +kernel
theorem d29_6 : decode jdk_41_method_12_code 6 = .ok (.if_icmp .gt 8, 3) := by decide +kernel
theorem d29_9 : decode jdk_41_method_12_code 9 = .ok (.iload_n 1, 1) := by decide +kernel
theorem d29_10 : decode jdk_41_method_12_code 10 = .ok (.iload_n 2, 1) := by decide +kernel
theorem d29_11 : decode jdk_41_method_12_code 11 = .ok (.if_icmp .le 11, 3) := by decide +kernel
theorem d29_22 : decode jdk_41_method_12_code 22 = .ok (.iload_n 0, 1) := by decide +kernel
theorem d29_23 : decode jdk_41_method_12_code 23 = .ok (.ireturn, 1) := by decide +kernel
theorem d30_0 : decode jdk_43_method_47_code 0 = .ok (.iload_n 2, 1) := by decide +kernel
theorem d30_1 : decode jdk_43_method_47_code 1 = .ok (.ifCond .ne 6, 3) := by decide +kernel
theorem d30_7 : decode jdk_43_method_47_code 7 = .ok (.new 1, 3) := by decide +kernel
theorem d30_10 : decode jdk_43_method_47_code 10 = .ok (.dup, 1) := by decide +kernel
theorem d30_11 : decode jdk_43_method_47_code 11 = .ok (.aload_n 0, 1) := by decide +kernel
theorem d30_12 : decode jdk_43_method_47_code 12 = .ok (.iload_n 1, 1) := by decide +kernel
theorem d30_13 : decode jdk_43_method_47_code 13 = .ok (.iload_n 1, 1) := by decide +kernel
theorem d30_14 : decode jdk_43_method_47_code 14 = .ok (.iload_n 2, 1) := by decide +kernel
theorem d30_15 : decode jdk_43_method_47_code 15 = .ok (.iadd, 1) := by decide +kernel
theorem d30_16 : decode jdk_43_method_47_code 16 = .ok (.invokestatic 232, 3) := by decide +kernel
theorem d30_19 : decode jdk_43_method_47_code 19 = .ok (.iconst 0, 1) := by decide +kernel
theorem d30_20 : decode jdk_43_method_47_code 20 = .ok (.invokespecial 112, 3) := by decide +kernel
theorem d30_23 : decode jdk_43_method_47_code 23 = .ok (.areturn, 1) := by decide +kernel
theorem d31_0 : decode jdk_65_method_132_code 0 = .ok (.iload_n 1, 1) := by decide +kernel
theorem d31_1 : decode jdk_65_method_132_code 1 = .ok (.ifCond .ne 9, 3) := by decide +kernel
theorem d31_4 : decode jdk_65_method_132_code 4 = .ok (.iload_n 2, 1) := by decide +kernel
theorem d31_5 : decode jdk_65_method_132_code 5 = .ok (.aload_n 0, 1) := by decide +kernel
theorem d31_6 : decode jdk_65_method_132_code 6 = .ok (.arraylength, 1) := by decide +kernel
theorem d31_7 : decode jdk_65_method_132_code 7 = .ok (.if_icmp .eq 10, 3) := by decide +kernel
theorem d31_10 : decode jdk_65_method_132_code 10 = .ok (.aload_n 0, 1) := by decide +kernel
theorem d31_11 : decode jdk_65_method_132_code 11 = .ok (.iload_n 1, 1) := by decide +kernel
theorem d31_12 : decode jdk_65_method_132_code 12 = .ok (.iload_n 2, 1) := by decide +kernel
theorem d31_13 : decode jdk_65_method_132_code 13 = .ok (.invokestatic 339, 3) := by decide +kernel
theorem d31_16 : decode jdk_65_method_132_code 16 = .ok (.areturn, 1) := by decide +kernel
theorem d32_0 : decode jdk_65_method_133_code 0 = .ok (.iload_n 1, 1) := by decide +kernel
theorem d32_1 : decode jdk_65_method_133_code 1 = .ok (.iload_n 2, 1) := by decide +kernel
theorem d32_2 : decode jdk_65_method_133_code 2 = .ok (.invokestatic 343, 3) := by decide +kernel
theorem d32_5 : decode jdk_65_method_133_code 5 = .ok (.iload_n 2, 1) := by decide +kernel
theorem d32_6 : decode jdk_65_method_133_code 6 = .ok (.iload_n 1, 1) := by decide +kernel
theorem d32_7 : decode jdk_65_method_133_code 7 = .ok (.isub, 1) := by decide +kernel
theorem d32_8 : decode jdk_65_method_133_code 8 = .ok (.istore_n 3, 1) := by decide +kernel
theorem d32_9 : decode jdk_65_method_133_code 9 = .ok (.iload_n 3, 1) := by decide +kernel
theorem d32_10 : decode jdk_65_method_133_code 10 = .ok (.newarray .byte, 2) := by decide +kernel
theorem d32_12 : decode jdk_65_method_133_code 12 = .ok (.astore 4, 2) := by decide +kernel
theorem d32_14 : decode jdk_65_method_133_code 14 = .ok (.aload_n 0, 1) := by decide +kernel
theorem d32_15 : decode jdk_65_method_133_code 15 = .ok (.iload_n 1, 1) := by decide +kernel
theorem d32_16 : decode jdk_65_method_133_code 16 = .ok (.aload 4, 2) := by decide +kernel
theorem d32_18 : decode jdk_65_method_133_code 18 = .ok (.iconst 0, 1) := by decide +kernel
theorem d32_19 : decode jdk_65_method_133_code 19 = .ok (.aload_n 0, 1) := by decide +kernel
theorem d32_20 : decode jdk_65_method_133_code 20 = .ok (.arraylength, 1) := by decide +kernel
theorem d32_21 : decode jdk_65_method_133_code 21 = .ok (.iload_n 1, 1) := by decide +kernel
theorem d32_22 : decode jdk_65_method_133_code 22 = .ok (.isub, 1) := by decide +kernel
theorem d32_23 : decode jdk_65_method_133_code 23 = .ok (.iload_n 3, 1) := by decide +kernel
theorem d32_24 : decode jdk_65_method_133_code 24 = .ok (.invokestatic 304, 3) := by decide +kernel
theorem d32_27 : decode jdk_65_method_133_code 27 = .ok (.invokestatic 150, 3) := by decide +kernel
theorem d32_30 : decode jdk_65_method_133_code 30 = .ok (.aload 4, 2) := by decide +kernel
theorem d32_32 : decode jdk_65_method_133_code 32 = .ok (.areturn, 1) := by decide +kernel
theorem d33_0 : decode jdk_65_method_131_code 0 = .ok (.iload_n 1, 1) := by decide +kernel
theorem d33_1 : decode jdk_65_method_131_code 1 = .ok (.iload_n 0, 1) := by decide +kernel
theorem d33_2 : decode jdk_65_method_131_code 2 = .ok (.if_icmp .ge 35, 3) := by decide +kernel
theorem d33_37 : decode jdk_65_method_131_code 37 = .ok (.return_, 1) := by decide +kernel
theorem d34_0 : decode jdk_42_method_151_code 0 = .ok (.aload_n 0, 1) := by decide +kernel
theorem d34_1 : decode jdk_42_method_151_code 1 = .ok (.invokespecial 1, 3) := by decide +kernel
theorem d34_4 : decode jdk_42_method_151_code 4 = .ok (.aload_n 0, 1) := by decide +kernel
theorem d34_5 : decode jdk_42_method_151_code 5 = .ok (.aload_n 1, 1) := by decide +kernel
theorem d34_6 : decode jdk_42_method_151_code 6 = .ok (.putfield 9, 3) := by decide +kernel
theorem d34_9 : decode jdk_42_method_151_code 9 = .ok (.aload_n 0, 1) := by decide +kernel
theorem d34_10 : decode jdk_42_method_151_code 10 = .ok (.iload_n 2, 1) := by decide +kernel
theorem d34_11 : decode jdk_42_method_151_code 11 = .ok (.putfield 15, 3) := by decide +kernel
theorem d34_14 : decode jdk_42_method_151_code 14 = .ok (.return_, 1) := by decide +kernel
theorem d35_0 : decode jdk_42_method_91_code 0 = .ok (.aload_n 0, 1) := by decide +kernel
theorem d35_1 : decode jdk_42_method_91_code 1 = .ok (.iload_n 1, 1) := by decide +kernel
theorem d35_2 : decode jdk_42_method_91_code 2 = .ok (.aload_n 0, 1) := by decide +kernel
theorem d35_3 : decode jdk_42_method_91_code 3 = .ok (.invokevirtual 505, 3) := by decide +kernel
theorem d35_6 : decode jdk_42_method_91_code 6 = .ok (.invokevirtual 681, 3) := by decide +kernel
theorem d35_9 : decode jdk_42_method_91_code 9 = .ok (.areturn, 1) := by decide +kernel
theorem d36_0 : decode jdk_43_method_13_code 0 = .ok (.aload_n 0, 1) := by decide +kernel
theorem d36_1 : decode jdk_43_method_13_code 1 = .ok (.arraylength, 1) := by decide +kernel
theorem d36_2 : decode jdk_43_method_13_code 2 = .ok (.aload_n 1, 1) := by decide +kernel
theorem d36_3 : decode jdk_43_method_13_code 3 = .ok (.arraylength, 1) := by decide +kernel
theorem d36_4 : decode jdk_43_method_13_code 4 = .ok (.if_icmp .ne 30, 3) := by decide +kernel
theorem d36_7 : decode jdk_43_method_13_code 7 = .ok (.iconst 0, 1) := by decide +kernel
theorem d36_8 : decode jdk_43_method_13_code 8 = .ok (.istore_n 2, 1) := by decide +kernel
theorem d36_9 : decode jdk_43_method_13_code 9 = .ok (.iload_n 2, 1) := by decide +kernel
theorem d36_10 : decode jdk_43_method_13_code 10 = .ok (.aload_n 0, 1) := by decide +kernel
theorem d36_11 : decode jdk_43_method_13_code 11 = .ok (.arraylength, 1) := by decide +kernel
theorem d36_12 : decode jdk_43_method_13_code 12 = .ok (.if_icmp .ge 20, 3) := by decide +kernel
theorem d36_15 : decode jdk_43_method_13_code 15 = .ok (.aload_n 0, 1) := by decide +kernel
theorem d36_16 : decode jdk_43_method_13_code 16 = .ok (.iload_n 2, 1) := by decide +kernel
theorem d36_17 : decode jdk_43_method_13_code 17 = .ok (.baload, 1) := by decide +kernel
theorem d36_18 : decode jdk_43_method_13_code 18 = .ok (.aload_n 1, 1) := by decide +kernel
theorem d36_19 : decode jdk_43_method_13_code 19 = .ok (.iload_n 2, 1) := by decide +kernel
theorem d36_20 : decode jdk_43_method_13_code 20 = .ok (.baload, 1) := by decide +kernel
theorem d36_21 : decode jdk_43_method_13_code 21 = .ok (.if_icmp .eq 5, 3) := by decide +kernel
theorem d36_24 : decode jdk_43_method_13_code 24 = .ok (.iconst 0, 1) := by decide +kernel
theorem d36_25 : decode jdk_43_method_13_code 25 = .ok (.ireturn, 1) := by decide +kernel
theorem d36_26 : decode jdk_43_method_13_code 26 = .ok (.iinc 2 1, 3) := by decide +kernel
theorem d36_29 : decode jdk_43_method_13_code 29 = .ok (.goto (-20), 3) := by decide +kernel
theorem d36_32 : decode jdk_43_method_13_code 32 = .ok (.iconst 1, 1) := by decide +kernel
theorem d36_33 : decode jdk_43_method_13_code 33 = .ok (.ireturn, 1) := by decide +kernel
theorem d36_34 : decode jdk_43_method_13_code 34 = .ok (.iconst 0, 1) := by decide +kernel
theorem d36_35 : decode jdk_43_method_13_code 35 = .ok (.ireturn, 1) := by decide +kernel
theorem oef0 (m : MethodId) (x0 : Addr) (x1 : Addr) (x2 : Int32) (x3 : Int32) : entryFrame m #[(.ref x0), (.ref x1), (.int x2), (.int x3), .null] 6 = mkF m 0 #[.val (.ref x0), .val (.ref x1), .val (.int x2), .val (.int x3), .val .null, .unset] [] := by first | (simp [entryFrame, mkF, argsToLocals, Value.category]; done) | rfl
theorem oef1 (m : MethodId) (x0 : Addr) (x1 : Addr) : entryFrame m #[(.ref x0), (.ref x1)] 2 = mkF m 0 #[.val (.ref x0), .val (.ref x1)] [] := by first | (simp [entryFrame, mkF, argsToLocals, Value.category]; done) | rfl
theorem oef2 (m : MethodId) (x0 : Addr) (x1 : Int32) (x2 : Addr) (x3 : Int32) (x4 : Int32) : entryFrame m #[(.ref x0), (.int x1), (.ref x2), (.int x3), (.int x4)] 7 = mkF m 0 #[.val (.ref x0), .val (.int x1), .val (.ref x2), .val (.int x3), .val (.int x4), .unset, .unset] [] := by first | (simp [entryFrame, mkF, argsToLocals, Value.category]; done) | rfl
theorem oef3 (m : MethodId) (x0 : Addr) (x1 : Int32) (x2 : Int32) : entryFrame m #[(.ref x0), (.int x1), (.int x2)] 6 = mkF m 0 #[.val (.ref x0), .val (.int x1), .val (.int x2), .unset, .unset, .unset] [] := by first | (simp [entryFrame, mkF, argsToLocals, Value.category]; done) | rfl
theorem oef4 (m : MethodId) (x0 : Addr) (x1 : Int32) : entryFrame m #[(.ref x0), (.int x1)] 2 = mkF m 0 #[.val (.ref x0), .val (.int x1)] [] := by first | (simp [entryFrame, mkF, argsToLocals, Value.category]; done) | rfl
theorem oef5 (m : MethodId) (x0 : Addr) : entryFrame m #[(.ref x0)] 1 = mkF m 0 #[.val (.ref x0)] [] := by first | (simp [entryFrame, mkF, argsToLocals, Value.category]; done) | rfl
theorem oef6 (m : MethodId) (x0 : Addr) (x1 : Addr) : entryFrame m #[(.ref x0), (.ref x1)] 3 = mkF m 0 #[.val (.ref x0), .val (.ref x1), .unset] [] := by first | (simp [entryFrame, mkF, argsToLocals, Value.category]; done) | rfl
theorem oef7 (m : MethodId) (x0 : Int32) : entryFrame m #[(.int x0)] 1 = mkF m 0 #[.val (.int x0)] [] := by first | (simp [entryFrame, mkF, argsToLocals, Value.category]; done) | rfl
theorem oef8 (m : MethodId) (x0 : Int32) (x1 : Int32) (x2 : Int32) (x3 : Int32) (x4 : Int32) : entryFrame m #[(.int x0), (.int x1), (.int x2), (.int x3), (.int x4)] 6 = mkF m 0 #[.val (.int x0), .val (.int x1), .val (.int x2), .val (.int x3), .val (.int x4), .unset] [] := by first | (simp [entryFrame, mkF, argsToLocals, Value.category]; done) | rfl
theorem oef9 (m : MethodId) (x0 : Addr) (x1 : Addr) (x2 : Int32) : entryFrame m #[(.ref x0), (.ref x1), (.int x2)] 3 = mkF m 0 #[.val (.ref x0), .val (.ref x1), .val (.int x2)] [] := by first | (simp [entryFrame, mkF, argsToLocals, Value.category]; done) | rfl
theorem oef10 (m : MethodId) (x0 : Addr) (x1 : Addr) (x2 : Addr) : entryFrame m #[(.ref x0), (.ref x1), (.ref x2)] 3 = mkF m 0 #[.val (.ref x0), .val (.ref x1), .val (.ref x2)] [] := by first | (simp [entryFrame, mkF, argsToLocals, Value.category]; done) | rfl
theorem oef11 (m : MethodId) (x0 : Int32) (x1 : Int32) : entryFrame m #[(.int x0), (.int x1)] 2 = mkF m 0 #[.val (.int x0), .val (.int x1)] [] := by first | (simp [entryFrame, mkF, argsToLocals, Value.category]; done) | rfl
theorem oef12 (m : MethodId) (x0 : Addr) (x1 : Int32) (x2 : Int32) (x3 : Int32) : entryFrame m #[(.ref x0), (.int x1), (.int x2), (.int x3)] 6 = mkF m 0 #[.val (.ref x0), .val (.int x1), .val (.int x2), .val (.int x3), .unset, .unset] [] := by first | (simp [entryFrame, mkF, argsToLocals, Value.category]; done) | rfl
theorem oef13 (m : MethodId) (x0 : Addr) (x1 : Int32) (x2 : Int32) (x3 : Int32) : entryFrame m #[(.ref x0), (.int x1), (.int x2), (.int x3)] 4 = mkF m 0 #[.val (.ref x0), .val (.int x1), .val (.int x2), .val (.int x3)] [] := by first | (simp [entryFrame, mkF, argsToLocals, Value.category]; done) | rfl
theorem oef14 (m : MethodId) (x0 : Addr) (x1 : Int32) (x2 : Int32) : entryFrame m #[(.ref x0), (.int x1), (.int x2)] 3 = mkF m 0 #[.val (.ref x0), .val (.int x1), .val (.int x2)] [] := by first | (simp [entryFrame, mkF, argsToLocals, Value.category]; done) | rfl
theorem oef15 (m : MethodId) (x0 : Addr) : entryFrame m #[(.ref x0)] 4 = mkF m 0 #[.val (.ref x0), .unset, .unset, .unset] [] := by first | (simp [entryFrame, mkF, argsToLocals, Value.category]; done) | rfl
theorem oef16 (m : MethodId) (x0 : Addr) (x1 : Int32) (x2 : Int32) : entryFrame m #[(.ref x0), (.int x1), (.int x2)] 5 = mkF m 0 #[.val (.ref x0), .val (.int x1), .val (.int x2), .unset, .unset] [] := by first | (simp [entryFrame, mkF, argsToLocals, Value.category]; done) | rfl
theorem oef17 (m : MethodId) (x0 : Int32) (x1 : Int32) (x2 : Int32) (x3 : Value) (hx3 : x3.isRef = true) : entryFrame m #[(.int x0), (.int x1), (.int x2), x3] 4 = mkF m 0 #[.val (.int x0), .val (.int x1), .val (.int x2), .val x3] [] := by rcases ref_cases hx3 with rfl | ⟨_, rfl⟩ <;> first | (simp [entryFrame, mkF, argsToLocals, Value.category]; done) | rfl
theorem oef18 (m : MethodId) (x0 : Int32) (x1 : Int32) (x2 : Int32) : entryFrame m #[(.int x0), (.int x1), (.int x2)] 3 = mkF m 0 #[.val (.int x0), .val (.int x1), .val (.int x2)] [] := by first | (simp [entryFrame, mkF, argsToLocals, Value.category]; done) | rfl
theorem oef19 (m : MethodId) (x0 : Int32) (x1 : Int32) (x2 : Int32) (x3 : Int32) (x4 : Int32) : entryFrame m #[(.int x0), (.int x1), (.int x2), (.int x3), (.int x4)] maxLocals = mkF m 0 #[.val (.int x0), .val (.int x1), .val (.int x2), .val (.int x3), .val (.int x4), .unset, .unset, .unset, .unset, .unset, .unset, .unset, .unset, .unset] [] := by first | (simp [entryFrame, mkF, argsToLocals, Value.category, maxLocals]; done) | rfl
theorem opn_0 : plainFor x = true := plainFor_of_name (by first | (simp [plainName, overriddenIn]; done) | decide +kernel)
theorem opn_1 : plainFor (⟨"com/example/tombstone/tombstone/config/TableNameParsePinLaw", "ch", "(I)C"⟩ : MethodName) = true := plainFor_of_name (by first | (simp [plainName, overriddenIn]; done) | decide +kernel)
theorem opn_2 : plainFor (⟨"com/example/tombstone/tombstone/config/TableNameParsePinLaw", "mk", "(ICCCC)Ljava/lang/String;"⟩ : MethodName) = true := plainFor_of_name (by first | (simp [plainName, overriddenIn]; done) | decide +kernel)
theorem opn_3 : plainFor (⟨"java/lang/String", "<init>", "([C)V"⟩ : MethodName) = true := plainFor_of_name (by first | (simp [plainName, overriddenIn]; done) | decide +kernel)
theorem opn_4 : plainFor (⟨"java/lang/String", "<init>", "([CIILjava/lang/Void;)V"⟩ : MethodName) = true := plainFor_of_name (by first | (simp [plainName, overriddenIn]; done) | decide +kernel)
theorem opn_6 : plainFor (⟨"java/lang/StringUTF16", "compress", "([CII)[B"⟩ : MethodName) = true := plainFor_of_name (by first | (simp [plainName, overriddenIn]; done) | decide +kernel)
theorem opn_7 : plainFor (⟨"java/lang/StringUTF16", "compress", "([CI[BII)I"⟩ : MethodName) = true := plainFor_of_name (by first | (simp [plainName, overriddenIn]; done) | decide +kernel)
theorem opn_8 : plainFor (⟨"java/lang/StringUTF16", "coderFromArrayLen", "([BI)B"⟩ : MethodName) = true := plainFor_of_name (by first | (simp [plainName, overriddenIn]; done) | decide +kernel)
theorem opn_9 : plainFor (⟨"com/example/tombstone/tombstone/config/TableName", "parse", "(Ljava/lang/String;)Lcom/example/tombstone/tombstone/config/TableName;"⟩ : MethodName) = true := plainFor_of_name (by first | (simp [plainName, overriddenIn]; done) | decide +kernel)
theorem opn_10 : plainFor (⟨"java/util/Objects", "requireNonNull", "(Ljava/lang/Object;Ljava/lang/String;)Ljava/lang/Object;"⟩ : MethodName) = true := plainFor_of_name (by first | (simp [plainName, overriddenIn]; done) | decide +kernel)
theorem opn_11 : plainFor (⟨"java/lang/String", "indexOf", "(I)I"⟩ : MethodName) = true := plainFor_of_name (by first | (simp [plainName, overriddenIn]; done) | decide +kernel)
theorem opn_12 : plainFor (⟨"java/lang/String", "indexOf", "(II)I"⟩ : MethodName) = true := plainFor_of_name (by first | (simp [plainName, overriddenIn]; done) | decide +kernel)
theorem opn_13 : plainFor (⟨"java/lang/String", "isLatin1", "()Z"⟩ : MethodName) = true := plainFor_of_name (by first | (simp [plainName, overriddenIn]; done) | decide +kernel)
theorem opn_14 : plainFor (⟨"java/lang/String", "length", "()I"⟩ : MethodName) = true := plainFor_of_name (by first | (simp [plainName, overriddenIn]; done) | decide +kernel)
theorem opn_15 : plainFor (⟨"java/lang/String", "coder", "()B"⟩ : MethodName) = true := plainFor_of_name (by first | (simp [plainName, overriddenIn]; done) | decide +kernel)
theorem opn_16 : plainFor (⟨"java/lang/StringLatin1", "indexOf", "([BIII)I"⟩ : MethodName) = true := plainFor_of_name (by first | (simp [plainName, overriddenIn]; done) | decide +kernel)
theorem opn_17 : plainFor (⟨"java/lang/StringLatin1", "canEncode", "(I)Z"⟩ : MethodName) = true := plainFor_of_name (by first | (simp [plainName, overriddenIn]; done) | decide +kernel)
theorem opn_18 : plainFor (⟨"java/lang/Math", "max", "(II)I"⟩ : MethodName) = true := Jvm.Free.JP.mathPlain rfl (by decide +kernel)
theorem opn_19 : plainFor (⟨"java/lang/Math", "min", "(II)I"⟩ : MethodName) = true := Jvm.Free.JP.mathPlain rfl (by decide +kernel)
theorem opn_20 : plainFor (⟨"java/lang/StringLatin1", "indexOfChar", "([BIII)I"⟩ : MethodName) = true := plainFor_of_name (by first | (simp [plainName, overriddenIn]; done) | decide +kernel)
theorem opn_21 : plainFor (⟨"java/lang/String", "isEmpty", "()Z"⟩ : MethodName) = true := plainFor_of_name (by first | (simp [plainName, overriddenIn]; done) | decide +kernel)
theorem opn_22 : plainFor (⟨"com/example/tombstone/tombstone/config/TableName", "<init>", "(Ljava/lang/String;Ljava/lang/String;)V"⟩ : MethodName) = true := plainFor_of_name (by first | (simp [plainName, overriddenIn]; done) | decide +kernel)
theorem opn_23 : plainFor (⟨"java/lang/Record", "<init>", "()V"⟩ : MethodName) = true := plainFor_of_name (by first | (simp [plainName, overriddenIn]; done) | decide +kernel)
theorem opn_24 : plainFor (⟨"com/example/tombstone/tombstone/config/TableName", "schema", "()Ljava/lang/String;"⟩ : MethodName) = true := plainFor_of_name (by first | (simp [plainName, overriddenIn]; done) | decide +kernel)
theorem opn_25 : plainFor (⟨"java/lang/String", "equals", "(Ljava/lang/Object;)Z"⟩ : MethodName) = true := plainFor_of_name (by first | (simp [plainName, overriddenIn]; done) | decide +kernel)
theorem opn_26 : plainFor (⟨"com/example/tombstone/tombstone/config/TableName", "name", "()Ljava/lang/String;"⟩ : MethodName) = true := plainFor_of_name (by first | (simp [plainName, overriddenIn]; done) | decide +kernel)
theorem opn_27 : plainFor (⟨"java/lang/String", "substring", "(II)Ljava/lang/String;"⟩ : MethodName) = true := plainFor_of_name (by first | (simp [plainName, overriddenIn]; done) | decide +kernel)
theorem opn_28 : plainFor (⟨"java/lang/String", "checkBoundsBeginEnd", "(III)V"⟩ : MethodName) = true := plainFor_of_name (by first | (simp [plainName, overriddenIn]; done) | decide +kernel)
theorem opn_29 : plainFor (⟨"jdk/internal/util/Preconditions", "checkFromToIndex", "(IIILjava/util/function/BiFunction;)I"⟩ : MethodName) = true := plainFor_of_name (by first | (simp [plainName, overriddenIn]; done) | decide +kernel)
theorem opn_30 : plainFor (⟨"java/lang/StringLatin1", "newString", "([BII)Ljava/lang/String;"⟩ : MethodName) = true := plainFor_of_name (by first | (simp [plainName, overriddenIn]; done) | decide +kernel)
theorem opn_31 : plainFor (⟨"java/util/Arrays", "copyOfRange", "([BII)[B"⟩ : MethodName) = true := plainFor_of_name (by first | (simp [plainName, overriddenIn]; done) | decide +kernel)
theorem opn_32 : plainFor (⟨"java/util/Arrays", "copyOfRangeByte", "([BII)[B"⟩ : MethodName) = true := plainFor_of_name (by first | (simp [plainName, overriddenIn]; done) | decide +kernel)
theorem opn_33 : plainFor (⟨"java/util/Arrays", "checkLength", "(II)V"⟩ : MethodName) = true := plainFor_of_name (by first | (simp [plainName, overriddenIn]; done) | decide +kernel)
theorem opn_34 : plainFor (⟨"java/lang/String", "<init>", "([BB)V"⟩ : MethodName) = true := plainFor_of_name (by first | (simp [plainName, overriddenIn]; done) | decide +kernel)
theorem opn_35 : plainFor (⟨"java/lang/String", "substring", "(I)Ljava/lang/String;"⟩ : MethodName) = true := plainFor_of_name (by first | (simp [plainName, overriddenIn]; done) | decide +kernel)
theorem opn_36 : plainFor (⟨"java/lang/StringLatin1", "equals", "([B[B)Z"⟩ : MethodName) = true := plainFor_of_name (by first | (simp [plainName, overriddenIn]; done) | decide +kernel)
theorem own_hEL {a0 : Array Value} {Z : State} (hw : HW a0 Z) : EW Z a0 own_EL := (EW.cons (hw _ (List.mem_of_getElem? (i := 22) rfl)) (by decide) (EW.cons (hw _ (List.mem_of_getElem? (i := 100) rfl)) (by decide) (EW.cons (hw _ (List.mem_of_getElem? (i := 121) rfl)) (by decide) EW.nil)))
theorem own_wS {a0 : Array Value} {Z : State} (hw : HW a0 Z) : ∀ a ∈ Bundle.stringAtoms, a.before a0 Z = true := by
  intro a ha
  simp only [Bundle.stringAtoms, List.mem_cons, List.not_mem_nil, or_false] at ha
  rcases ha with rfl | rfl | rfl | rfl | rfl | rfl | rfl
  · exact (ow11 hw)
  · exact (ow10 hw)
  · exact (ow23 hw)
  · exact (ow24 hw)
  · exact (ow25 hw)
  · exact (ow26 hw)
  · exact (ow27 hw)
theorem own_rem (x n : Int32) (k : Int) (hn : n.toInt = k) (h0 : 0 < k) : 0 ≤ ((x &&& 2147483647) % n).toInt ∧ ((x &&& 2147483647) % n).toInt < k := by
 have h1 := (c_and x 2147483647 (by decide)).1
 have h2 := (c_irem (x &&& 2147483647) n k hn).1 h1
 rw [h2]; exact ⟨Int.emod_nonneg _ (by omega), Int.emod_lt_of_pos _ h0⟩
theorem own_cases5 {z : Int32} (h : 0 ≤ z.toInt ∧ z.toInt < 5) : z = 0 ∨ z = 1 ∨ z = 2 ∨ z = 3 ∨ z = 4 := by
  have q : z.toInt = 0 ∨ z.toInt = 1 ∨ z.toInt = 2 ∨ z.toInt = 3 ∨ z.toInt = 4 := by omega
  rcases q with q | q | q | q | q
  · exact Or.inl (Int32.toInt_inj.mp q)
  · exact Or.inr (Or.inl (Int32.toInt_inj.mp q))
  · exact Or.inr (Or.inr (Or.inl (Int32.toInt_inj.mp q)))
  · exact Or.inr (Or.inr (Or.inr (Or.inl (Int32.toInt_inj.mp q))))
  · exact Or.inr (Or.inr (Or.inr (Or.inr (Int32.toInt_inj.mp q))))
theorem own_nb (x : Int32) : nar .byte (x.toInt8.toInt32) = x.toInt8.toInt32 := by
 show x.toInt8.toInt32.toInt8.toInt32 = x.toInt8.toInt32
 simp
theorem own_strarr {Z : State} {h : Heap} {a b : Addr} {C : String} {k : ClassId} {ty : FieldType} {z : Int32} {vs : List Value} {dv : Value} {a0 : Array Value} {n : Nat} (E : Exa Z h a C) (A : Arv Z h b k ty z vs dv) (w : (Cond.instantiable C n).before a0 Z = true) (q : a = b) : False := by
 obtain ⟨cl, A, -⟩ := A
 exact ne_arr E w A q
theorem own_ne0 {args : Array Value} {s : State} {t : Term} {x : Int32} (e : t.eval args s none [] s = some (.int x)) (h : (Cond.not (Cond.eq t (Term.int 0))).value args s none s [] = some true) : ¬ x = 0 := by
 have h := not_v h
 simp only [Cond.value, Term.eval, e] at h
 simpa using h
theorem own_byte {c : Int32} (h : 0 ≤ c.toInt ∧ c.toInt ≤ 255) : ∃ n : Fin 256, c = Int32.ofNat n.val := by
 refine ⟨⟨c.toInt.toNat, by omega⟩, ?_⟩
 apply Int32.toInt_inj.mp
 rw [Int32.toInt_ofNat_of_lt (by omega)]
 show c.toInt = ((c.toInt.toNat : Nat) : Int)
 omega
theorem own_ch {c : Int32} (h : 0 ≤ c.toInt ∧ c.toInt ≤ 255) : nar .char ((c.toInt8.toInt32 &&& 255).toUInt32.toUInt16.toUInt32.toInt32) = c := by
 obtain ⟨n, rfl⟩ := own_byte h
 revert n; decide +kernel
theorem own_nc {c : Int32} (h : 0 ≤ c.toInt ∧ c.toInt ≤ 255) : nar .char c = c := by
 obtain ⟨n, rfl⟩ := own_byte h
 revert n; decide +kernel
theorem own_shr0 (x : Int32) : x >>> ((0 : Int32) &&& 31) = x := by
 have h := c_ishr x 0 0 (by decide)
 apply Int32.toInt_inj.mp
 rw [h]; simp
theorem own_le255 {c : Int32} (h : 0 ≤ c.toInt ∧ c.toInt ≤ 255) : ¬ (255 : Int32) < c := by
 rw [Int32.lt_iff_toInt_lt]
 have e : (255 : Int32).toInt = 255 := by decide
 omega
theorem own_getD (us : List Int32) {z : Int32} {i : Nat} (h : z.toNatClampNeg = i) : (us.map Value.int).getD z.toNatClampNeg (.int 0) = .int (us.getD i 0) := by
 rw [h]; simp only [List.getD_eq_getElem?_getD, List.getElem?_map]; cases us[i]? <;> rfl
theorem own_nlt {z n : Int32} {i k : Nat} (h : ¬ z < 0 ∧ z.toNatClampNeg = i) (hn : n.toNatClampNeg = k) (q : k ≤ i) : ¬ z < n := by
 obtain ⟨h1, h⟩ := h
 rw [Int32.lt_iff_toInt_lt] at h1 ⊢
 have e0 : (0 : Int32).toInt = 0 := by decide
 unfold Int32.toNatClampNeg at h hn; omega
theorem own_lt1 {z n : Int32} {i k : Nat} (h : ¬ z < 0 ∧ z.toNatClampNeg = i) (hn : n.toNatClampNeg = k) (hp : ¬ n < 0) (q : i < k) : z < n := by
 have h1 := h.1; have h2 := h.2
 rw [Int32.lt_iff_toInt_lt] at h1 hp ⊢
 have e : (0 : Int32).toInt = 0 := by decide
 rw [e] at h1 hp
 unfold Int32.toNatClampNeg at h2 hn; omega
theorem own_iinc {z n : Int32} {i : Nat} (h : ¬ z < 0 ∧ z.toNatClampNeg = i) (q : i < n.toNatClampNeg) (hp : ¬ n < 0) : ¬ (z + 1) < 0 ∧ (z + 1).toNatClampNeg = i + 1 := by
 have h1 := h.1; have h2 := h.2; have a := c_iadd z 1; have r := rng32 (z + 1); have r2 := rng32 n
 have e1 : (1 : Int32).toInt = 1 := by decide
 have e0 : (0 : Int32).toInt = 0 := by decide
 rw [e1] at a
 rw [Int32.lt_iff_toInt_lt, e0] at h1 hp ⊢
 unfold Int32.toNatClampNeg at h2 q ⊢; omega
theorem own_eqstep {us ws : List Int32} {i : Nat} (hj : ∀ j, j < i → us[j]? = ws[j]?) (hlt : i < us.length) (hle : us.length = ws.length) (q : us.getD i 0 = ws.getD i 0) : ∀ j, j < i + 1 → us[j]? = ws[j]? := by
  intro j h
  by_cases e : j = i
  · subst e
    simp only [List.getD_eq_getElem?_getD] at q
    rw [List.getElem?_eq_getElem hlt, List.getElem?_eq_getElem (by omega)] at q ⊢
    simpa using q
  · exact hj j (by omega)
theorem own_eqall {us ws : List Int32} {i : Nat} (hle : us.length = ws.length) (hi : us.length ≤ i) (hj : ∀ j, j < i → us[j]? = ws[j]?) : us = ws := by
  apply List.ext_getElem?
  intro j
  by_cases h : j < i
  · exact hj j h
  · rw [List.getElem?_eq_none (by omega), List.getElem?_eq_none (by omega)]
theorem own_len_ne {us ws : List Int32} {n1 n2 : Int32} (q : us = ws) (h1 : n1.toNatClampNeg = us.length) (h2 : n2.toNatClampNeg = ws.length) (p1 : ¬ n1 < 0) (p2 : ¬ n2 < 0) : n1 = n2 := by
 have e : n1.toNatClampNeg = n2.toNatClampNeg := by rw [h1, h2, q]
 rw [← (back32 p1).1, ← (back32 p2).1, e]
theorem own_eqsame {Z : State} {h : Heap} {a1 a2 b1 b2 : Addr} {k1 k2 : ClassId} {us ws : List Int32} {n1 n2 : Int32} {C n d : String} (e : a1 = a2) (F1 : Fld Z h a1 C n d (.ref b1)) (F2 : Fld Z h a2 C n d (.ref b2)) (V1 : Arv Z h b1 k1 .byte n1 (us.map Value.int) (.int 0)) (V2 : Arv Z h b2 k2 .byte n2 (ws.map Value.int) (.int 0)) (h1 : n1.toNatClampNeg = us.length) (h2 : n2.toNatClampNeg = ws.length) : us = ws := by
 subst e
 have eb : b1 = b2 := Classical.byContradiction fun q => Fld.ne F1 F2 (fun z => q (Value.ref.inj z)) rfl
 subst eb
 obtain ⟨c1, A1, -, S1, -, H1, -⟩ := V1
 obtain ⟨c2, A2, -, S2, -, H2, -⟩ := V2
 cases A1.1.symm.trans A2.1
 have hle : us.length = ws.length := by rw [← h1, ← h2, ← S1, ← S2]
 refine own_eqall (i := us.length) hle (Nat.le_refl _) fun j hj => ?_
 have q := (H1 j (by omega)).symm.trans (H2 j (by omega))
 simp only [List.getD_eq_getElem?_getD, List.getElem?_map] at q
 rw [List.getElem?_eq_getElem hj, List.getElem?_eq_getElem (by omega)] at q ⊢
 simpa using q
theorem own_chb (x : Int32) : 0 ≤ (nar .char ((x &&& 255).toUInt32.toUInt16.toUInt32.toInt32)).toInt ∧ (nar .char ((x &&& 255).toUInt32.toUInt16.toUInt32.toInt32)).toInt ≤ 255 := by
 have h1 := c_mask x 255 8 (by decide) (by decide)
 have h : 0 ≤ (x &&& 255).toInt ∧ (x &&& 255).toInt ≤ 255 := by omega
 have e : (x &&& 255).toUInt32.toUInt16.toUInt32.toInt32 = x &&& 255 := own_nc h
 rw [e, own_nc h]; exact h
theorem own_n46 {c : Int32} (h : 0 ≤ c.toInt ∧ c.toInt ≤ 255) (n : ¬ c = 46) : ¬ c.toInt8.toInt32 = 46 := fun q => n (by
 have e := own_ch h
 rw [q] at e
 exact e.symm.trans (by decide))
theorem own_held {tb : Tables} {e : Env} {args : Array Value} {s : State} (h : call_1_1 tb e args s) : ∀ p ∈ own_EL, Jvm.Lit.constHeld s p.1 p.2 := fun p hp => h p ((by decide : ∀ p ∈ own_EL, p ∈ consts_1) p hp)
theorem rm_sv_0 (l : Launch) (Z : State) (a0 : Array Value) (hw : HW a0 Z) (a1 ca : Addr) (h0 : Heap) (n0 : Nat) (O : Old Z n0 h0) (hEL : EW Z a0 own_EL) (E_a1 : Exa Z h0 a1 "java/lang/String") (F_value_a1 : Fld Z h0 a1 "java/lang/String" "value" "[B" .null) (F_coder_a1 : Fld Z h0 a1 "java/lang/String" "coder" "B" (.int 0)) (g_a1 : n0 ≤ a1) :
  ConW l Z own_EL [a1] (⟨"java/lang/String", "<init>", "([CIILjava/lang/Void;)V"⟩ : MethodName) jdk_42_method_149_code 6 none ({ frames := 1, cells := 4, slots := 8, locals := 12 } : Room) #[(.ref a1), (.ref ca), (.int 0), (.int 0), .null] h0 (fun v h L => ∃ b k, v = none ∧ Fr n0 L ∧ Keep h0 h [a1] ∧ Exa Z h a1 "java/lang/String" ∧ Fld Z h a1 "java/lang/String" "value" "[B" (.ref b) ∧ Fld Z h a1 "java/lang/String" "coder" "B" (.int 0) ∧ Arv Z h b k .byte (0 : Int32) [] (.int 0)) := by
 refine own_startWC opn_4 ?_
 intro p e s m below meth c T0 X0 hx hby hml hZ hown hnm hret hlk e0 es hS CR hsf
 have N := Fr.nil n0; have K := Keep.refl h0 [a1]; have hk := Nat.le_refl h0.size; have Q_a1 := hsf _ (List.mem_of_getElem? (i := 0) rfl)
 refine OG.cast (oef0 m a1 ca (0 : Int32) (0 : Int32)) ?_
 refine og_aloadN X0 hx rfl rfl (hb hby d4_0) rfl ?_
 refine og_initO (pc' := 4) X0 hx hZ (W := 0) (by rw [hml]; rfl) hown (ow19 hw) (ow20 hw) (ow21 hw) e0 rfl (by decide) (by decide) (hb hby d4_1) rfl (fun T11 X11 e11 => ?_)
 refine og_iloadN X11 hx rfl (hb hby d4_4) rfl ?_
 refine og_if_ne (pc1 := 27) (pc2 := 8) X11 hx (hb hby d4_5) (by decide) (by decide) rfl (fun q => absurd q (by decide)) (fun _ => ?_)
 refine og_aloadN X11 hx rfl rfl (hb hby d4_8) rfl ?_
 refine og_ldcS (pc' := 11) (cells' := 2) (slots' := 4) (n := 0) (z := (0 : Int32)) (vs := []) X11 hx hZ hown (hw _ (List.mem_of_getElem? (i := 22) rfl)) (own_wS hw) e11 hS hk hEL (by decide) CR.1 ⟨by decide, by decide⟩ (by decide) (by decide) (by decide) (by decide) (hb hby d4_9) rfl rfl rfl (by decide) (by decide) (fun na12 T12 h12 kk12 nb12 k12 X12 e12 E12 hS hk hZ hown E_na12 F_coder_na12 F_value_na12 V_nb12 cr12 hne12 => ?_)
 have Q_a1 := cr12.safe E_a1.lt Q_a1; have E_a1 := E_a1.ext E12; have F_value_a1 := F_value_a1.ext E12; have F_coder_a1 := F_coder_a1.ext E12; have O := O.ext E12; have K := K.ext E12
 have CR := CR.trans cr12
 have ne_a1_na12 := (hne12 _ Q_a1).1; have ne_a1_nb12 := (hne12 _ Q_a1).2
 refine og_getfield X12 hx hZ (host := "") hown (Or.inl (ow28 hw)) Via.refl e12 F_value_na12 (hb hby d4_11) rfl (fun T13 X13 e13 => ?_)
 refine og_putfield X13 hx hZ (ty := (.array .byte)) (host := "") hown (Or.inl (ow28 hw)) Via.refl e13 F_value_a1 E_a1 (Or.inr ⟨(ow24 hw), rfl, hnm⟩) (ow10 hw) (by decide) rfl rfl (hb hby d4_14) rfl (fun T14 h14 X14 e14 W14 => ?_)
 have F_value_a1_ := F_value_a1.same W14
 have sf14 : Safe Z own_EL T12.vm h12 a1 := Q_a1; have Q_a1 := Safe.wr W14 sf14 CR.1 Q_a1; have E_a1 := E_a1.wr W14; have F_coder_a1 := F_coder_a1.other W14 (Or.inr (slot_ne (Or.inr (ow25 hw)) (Or.inr (ow24 hw)) (by decide) (t := .byte) (t' := (.array .byte)) (by decide) (by decide))); have E_na12 := E_na12.wr W14; have F_value_na12 := F_value_na12.other W14 (Or.inl (Ne.symm ne_a1_na12))
 have F_coder_na12 := F_coder_na12.other W14 (Or.inl (Ne.symm ne_a1_na12)); have V_nb12 := V_nb12.other W14 (Ne.symm ne_a1_nb12); have O := O.wr W14 g_a1; have K := K.wr W14 (Or.inl (List.mem_of_getElem? (i := 0) rfl)); have hk := Nat.le_trans hk (Keep.of_wr W14).1; have CR := CR.trans (CHr.wr W14 sf14 CR.1)
 have N := Fr.snoc X14 N g_a1; have F_value_a1 := F_value_a1_
 refine og_aloadN X14 hx rfl rfl (hb hby d4_17) rfl ?_
 refine og_ldcS (pc' := 20) (cells' := 4) (slots' := 8) (n := 0) (z := (0 : Int32)) (vs := []) X14 hx hZ hown (hw _ (List.mem_of_getElem? (i := 22) rfl)) (own_wS hw) e14 hS hk hEL (by decide) CR.1 ⟨by decide, by decide⟩ (by decide) (by decide) (by decide) (by decide) (hb hby d4_18) rfl rfl rfl (by decide) (by decide) (fun na15 T15 h15 kk15 nb15 k15 X15 e15 E15 hS hk hZ hown E_na15 F_coder_na15 F_value_na15 V_nb15 cr15 hne15 => ?_)
 have Q_a1 := cr15.safe E_a1.lt Q_a1; have E_a1 := E_a1.ext E15; have F_coder_a1 := F_coder_a1.ext E15; have E_na12 := E_na12.ext E15; have F_value_na12 := F_value_na12.ext E15; have F_coder_na12 := F_coder_na12.ext E15
 have V_nb12 := V_nb12.ext E15; have F_value_a1 := F_value_a1.ext E15; have O := O.ext E15; have K := K.ext E15; have CR := CR.trans cr15
 have ne_a1_na15 := (hne15 _ Q_a1).1; have ne_a1_nb15 := (hne15 _ Q_a1).2
 refine og_getfield X15 hx hZ (host := "") hown (Or.inl (ow29 hw)) Via.refl e15 F_coder_na15 (hb hby d4_20) rfl (fun T16 X16 e16 => ?_)
 refine og_putfield X16 hx hZ (ty := .byte) (host := "") hown (Or.inl (ow29 hw)) Via.refl e16 F_coder_a1 E_a1 (Or.inr ⟨(ow25 hw), rfl, hnm⟩) (ow10 hw) (by decide) rfl rfl (hb hby d4_23) rfl (fun T17 h17 X17 e17 W17 => ?_)
 have F_coder_a1_ := F_coder_a1.same W17
 have sf17 : Safe Z own_EL T15.vm h15 a1 := Q_a1; have Q_a1 := Safe.wr W17 sf17 CR.1 Q_a1; have E_a1 := E_a1.wr W17; have E_na12 := E_na12.wr W17; have F_value_na12 := F_value_na12.other W17 (Or.inl (Ne.symm ne_a1_na12)); have F_coder_na12 := F_coder_na12.other W17 (Or.inl (Ne.symm ne_a1_na12))
 have V_nb12 := V_nb12.other W17 (Ne.symm ne_a1_nb12); have F_value_a1 := F_value_a1.other W17 (Or.inr (slot_ne (Or.inr (ow24 hw)) (Or.inr (ow25 hw)) (by decide) (t := (.array .byte)) (t' := .byte) (by decide) (by decide))); have E_na15 := E_na15.wr W17; have F_value_na15 := F_value_na15.other W17 (Or.inl (Ne.symm ne_a1_na15)); have F_coder_na15 := F_coder_na15.other W17 (Or.inl (Ne.symm ne_a1_na15)); have V_nb15 := V_nb15.other W17 (Ne.symm ne_a1_nb15)
 have O := O.wr W17 g_a1; have K := K.wr W17 (Or.inl (List.mem_of_getElem? (i := 0) rfl)); have hk := Nat.le_trans hk (Keep.of_wr W17).1; have CR := CR.trans (CHr.wr W17 sf17 CR.1)
 have N := Fr.snoc X17 N g_a1; have F_coder_a1 := F_coder_a1_
 refine og_retVW X17 hx hZ hlk hEL hS e17 es hk CR hret (hb hby d4_26) (by decide) (by decide) ?_
 rw [e17]; exact ⟨_, _, rfl, N, K, E_a1, F_value_a1, F_coder_a1, V_nb12⟩
theorem rm_sn_0 (l : Launch) (Z : State) (a0 : Array Value) (hw : HW a0 Z) (a1 ca : Addr) (kc : ClassId) (h0 : Heap) (n0 : Nat) (O : Old Z n0 h0) (hEL : EW Z a0 own_EL) (E_a1 : Exa Z h0 a1 "java/lang/String") (F_value_a1 : Fld Z h0 a1 "java/lang/String" "value" "[B" .null) (F_coder_a1 : Fld Z h0 a1 "java/lang/String" "coder" "B" (.int 0)) (V_ca : Arv Z h0 ca kc .char (0 : Int32) [] (.int 0)) (g_a1 : n0 ≤ a1) (ne_ca_a1 : ca ≠ a1) :
  ConW l Z own_EL [a1] (⟨"java/lang/String", "<init>", "([C)V"⟩ : MethodName) jdk_42_method_3_code 2 none ({ frames := 2, cells := 4, slots := 8, locals := 29 } : Room) #[(.ref a1), (.ref ca)] h0 (fun v h L => ∃ b k, v = none ∧ Fr n0 L ∧ Keep h0 h [a1] ∧ Exa Z h a1 "java/lang/String" ∧ Fld Z h a1 "java/lang/String" "value" "[B" (.ref b) ∧ Fld Z h a1 "java/lang/String" "coder" "B" (.int 0) ∧ Arv Z h b k .byte (0 : Int32) [] (.int 0)) := by
 refine own_startWC opn_3 ?_
 intro p e s m below meth c T0 X0 hx hby hml hZ hown hnm hret hlk e0 es hS CR hsf
 have N := Fr.nil n0; have K := Keep.refl h0 [a1]; have hk := Nat.le_refl h0.size; have Q_a1 := hsf _ (List.mem_of_getElem? (i := 0) rfl)
 refine OG.cast (oef1 m a1 ca) ?_
 refine og_aloadN X0 hx rfl rfl (hb hby d3_0) rfl ?_
 refine og_aloadN X0 hx rfl rfl (hb hby d3_1) rfl ?_
 refine og_iconst (v := (0 : Int32)) X0 hx rfl (hb hby d3_2) rfl ?_
 refine og_aloadN X0 hx rfl rfl (hb hby d3_3) rfl ?_
 refine og_arraylength X0 hx hZ e0 V_ca (hb hby d3_4) rfl ?_
 refine og_aconst_null X0 hx (hb hby d3_5) rfl ?_
 refine og_specialW (pc' := 9) (cells' := 4) (slots' := 8) (W := 0) X0 hx hZ (rm_sv_0 l Z a0 hw a1 ca h0 n0 O hEL E_a1 F_value_a1 F_coder_a1 g_a1) hEL hS hk CR.1 (allS (P := fun x => x < _ ∧ Safe Z own_EL _ _ x) ⟨E_a1.lt, Q_a1⟩ all0) rfl hown (ow15 hw) (ow16 hw) (ow11 hw) (ow18 hw) (by decide) (by rw [hml]; rfl) e0 opd_0 [(.ref ca), (.int 0), (.int 0), .null] [] rfl rfl rfl rfl (by decide) (by decide) rfl rfl (by decide) (by decide) (hb hby d3_6) rfl (fun v11 T11 h11 L11 kk11 X11 e11 hS hk hZ hown cr11 z11 => ?_)
 obtain ⟨nb11, k11, rfl, Nq11, K11, E_a1', F_value_a1', F_coder_a1', V_nb11⟩ := z11; have N := Fr.app N Nq11
 have Q_a1 := cr11.safe E_a1.lt Q_a1; have E_a1 := E_a1.keep K11; have V_ca := V_ca.keep K11 (ninS ne_ca_a1 nin0); have O := O.keep K11 (allS g_a1 all0); have K := K.trans K11 (allS (Or.inl (List.mem_of_getElem? (i := 0) rfl)) all0); have CR := CR.trans cr11
 have E_a1 := E_a1'; have F_value_a1 := F_value_a1'; have F_coder_a1 := F_coder_a1'
 refine og_retVW X11 hx hZ hlk hEL hS e11 es hk CR hret (hb hby d3_9) (by decide) (by decide) ?_
 rw [e11]; exact ⟨_, _, rfl, N, K, E_a1, F_value_a1, F_coder_a1, V_nb11⟩
theorem rm_c2_1 (l : Launch) (Z : State) (a0 : Array Value) (hw : HW a0 Z) (ca ba : Addr) (kc kb : ClassId) (c0 : Int32) (hb0 : ¬ 255 < c0) (h0 : Heap) (n0 : Nat) (O : Old Z n0 h0) (V_ca : Arv Z h0 ca kc .char (1 : Int32) [(.int c0)] (.int 0)) (V_ba : Arv Z h0 ba kb .byte (1 : Int32) [(.int 0)] (.int 0)) (g_ba : n0 ≤ ba) (ne_ca_ba : ca ≠ ba) :
  Con l Z (⟨"java/lang/StringUTF16", "compress", "([CI[BII)I"⟩ : MethodName) jdk_52_method_21_code 7 (some .int) ({ frames := 0, cells := 0, slots := 0, locals := 0 } : Room) #[(.ref ca), (.int 0), (.ref ba), (.int 0), (.int 1)] h0 (fun v h L => v = some (.int 1) ∧ Fr n0 L ∧ Keep h0 h [ba] ∧ Arv Z h ba kb .byte (1 : Int32) [(.int c0.toInt8.toInt32)] (.int 0)) := by
 refine own_startC opn_7 ?_
 intro p e s m below meth c T0 X0 hx hby hml hZ hown hnm hret hlk e0
 have N := Fr.nil n0; have K := Keep.refl h0 [ba]
 refine OG.cast (oef2 m ca (0 : Int32) ba (0 : Int32) (1 : Int32)) ?_
 refine og_iconst (v := (0 : Int32)) X0 hx rfl (hb hby d7_0) rfl ?_
 refine og_istore (L' := #[.val (.ref ca), .val (.int 0), .val (.ref ba), .val (.int 0), .val (.int 1), .val (.int 0), .unset]) X0 hx rfl (hb hby d7_1) rfl ?_
 refine og_iload X0 hx rfl (hb hby d7_3) rfl ?_
 refine og_iload X0 hx rfl (hb hby d7_5) rfl ?_
 refine og_icmp_ge (pc1 := 44) (pc2 := 10) X0 hx (hb hby d7_7) (by decide) (by decide) rfl (fun q => absurd q (by decide)) (fun _ => ?_)
 refine og_aloadN X0 hx rfl rfl (hb hby d7_10) rfl ?_
 refine og_iloadN X0 hx rfl (hb hby d7_11) rfl ?_
 refine og_caload (v := (.int c0)) X0 hx hZ e0 V_ca ⟨by decide, by decide⟩ rfl (hb hby d7_12) rfl ?_
 refine og_istore (L' := #[.val (.ref ca), .val (.int 0), .val (.ref ba), .val (.int 0), .val (.int 1), .val (.int 0), .val (.int c0)]) X0 hx rfl (hb hby d7_13) rfl ?_
 refine og_iload X0 hx rfl (hb hby d7_15) rfl ?_
 refine og_sipush (v := (255 : Int32)) X0 hx rfl (hb hby d7_17) rfl ?_
 refine og_icmp_le (pc1 := 26) (pc2 := 23) X0 hx (hb hby d7_20) (by decide) (by decide) rfl (fun _ => ?_) (fun q => absurd q hb0)
 refine og_aloadN X0 hx rfl rfl (hb hby d7_26) rfl ?_
 refine og_iloadN X0 hx rfl (hb hby d7_27) rfl ?_
 refine og_iload X0 hx rfl (hb hby d7_28) rfl ?_
 refine og_i2b X0 hx (hb hby d7_30) rfl ?_
 refine og_bastore X0 hx hZ e0 V_ba ⟨by decide, by decide⟩ 0 (by decide) (Nat.le_of_ble_eq_true rfl) (hb hby d7_31) rfl (fun T11 h11 X11 e11 W11 V11 => ?_)
 have V_ca := V_ca.other W11 ne_ca_ba; have O := O.wr W11 g_ba; have K := K.wr W11 (Or.inl (List.mem_of_getElem? (i := 0) rfl))
 have N := Fr.snoc X11 N g_ba
 have V_ba : Arv Z h11 ba kb .byte (1 : Int32) [(.int (nar .byte (c0.toInt8.toInt32)))] (.int 0) := V11
 rw [own_nb] at V_ba
 refine og_iinc (L' := #[.val (.ref ca), .val (.int 1), .val (.ref ba), .val (.int 0), .val (.int 1), .val (.int 0), .val (.int c0)]) (w := (1 : Int32)) X11 hx rfl rfl rfl (hb hby d7_32) rfl ?_
 refine og_iinc (L' := #[.val (.ref ca), .val (.int 1), .val (.ref ba), .val (.int 1), .val (.int 1), .val (.int 0), .val (.int c0)]) (w := (1 : Int32)) X11 hx rfl rfl rfl (hb hby d7_35) rfl ?_
 refine og_iinc (L' := #[.val (.ref ca), .val (.int 1), .val (.ref ba), .val (.int 1), .val (.int 1), .val (.int 1), .val (.int c0)]) (w := (1 : Int32)) X11 hx rfl rfl rfl (hb hby d7_38) rfl ?_
 refine og_goto (pc' := 3) X11 hx (hb hby d7_41) (by decide) (by decide) ?_
 refine og_iload X11 hx rfl (hb hby d7_3) rfl ?_
 refine og_iload X11 hx rfl (hb hby d7_5) rfl ?_
 refine og_icmp_ge (pc1 := 44) (pc2 := 10) X11 hx (hb hby d7_7) (by decide) (by decide) rfl (fun _ => ?_) (fun q => absurd q (by decide))
 refine og_iload X11 hx rfl (hb hby d7_44) rfl ?_
 refine og_retI X11 hx hlk hret (hb hby d7_46) (by decide) (by decide) ?_
 rw [e11]; exact ⟨rfl, N, K, V_ba⟩
theorem rm_c1_1 (l : Launch) (Z : State) (a0 : Array Value) (hw : HW a0 Z) (ca : Addr) (kc : ClassId) (c0 : Int32) (hb0 : ¬ 255 < c0) (h0 : Heap) (n0 : Nat) (O : Old Z n0 h0) (V_ca : Arv Z h0 ca kc .char (1 : Int32) [(.int c0)] (.int 0)) :
  Con l Z (⟨"java/lang/StringUTF16", "compress", "([CII)[B"⟩ : MethodName) jdk_52_method_16_code 6 (some (.array .byte)) ({ frames := 1, cells := 1, slots := 1, locals := 18 } : Room) #[(.ref ca), (.int 0), (.int 1)] h0 (fun v h L => ∃ b k, v = some (.ref b) ∧ Fr n0 L ∧ Keep h0 h [] ∧ h0.size ≤ b ∧ Arv Z h b k .byte (1 : Int32) [(.int c0.toInt8.toInt32)] (.int 0)) := by
 refine own_startC opn_6 ?_
 intro p e s m below meth c T0 X0 hx hby hml hZ hown hnm hret hlk e0
 have N := Fr.nil n0; have K := Keep.refl h0 []
 refine OG.cast (oef3 m ca (0 : Int32) (1 : Int32)) ?_
 refine og_iloadN X0 hx rfl (hb hby d6_0) rfl ?_
 refine og_newarray (pc' := 3) (cells' := 1) (slots' := 1) (cap := 1) (ty := .byte) X0 hx hZ rfl (ow23 hw) e0 (by decide) (by decide) (by decide) (hb hby d6_1) rfl rfl rfl (by decide) (by decide) (fun T11 h11 nb11 kA11 X11 e11 E11 q11 V_nb11 => ?_)
 have s_nb11 : h0.size ≤ nb11 := Nat.le_of_eq q11.symm; have g_nb11 : n0 ≤ nb11 := Nat.le_trans (own_n0 O) s_nb11; have sz_nb11 : h0.size ≤ nb11 := Nat.le_trans K.1 s_nb11; have ne_ca_nb11 : ca ≠ nb11 := Nat.ne_of_lt (Nat.lt_of_lt_of_le V_ca.lt s_nb11)
 have V_ca := V_ca.ext E11; have O := O.ext E11; have K := K.ext E11
 have V_nb11 : Arv Z h11 nb11 kA11 .byte (1 : Int32) [(.int 0)] (.int 0) := V_nb11.pad (pad_rep [] (.int 0) 1)
 refine og_astoreN (L' := #[.val (.ref ca), .val (.int 0), .val (.int 1), .val (.ref nb11), .unset, .unset]) X11 hx rfl rfl (hb hby d6_3) rfl ?_
 refine og_aloadN X11 hx rfl rfl (hb hby d6_4) rfl ?_
 refine og_iloadN X11 hx rfl (hb hby d6_5) rfl ?_
 refine og_aloadN X11 hx rfl rfl (hb hby d6_6) rfl ?_
 refine og_iconst (v := (0 : Int32)) X11 hx rfl (hb hby d6_7) rfl ?_
 refine og_iloadN X11 hx rfl (hb hby d6_8) rfl ?_
 refine og_static (pc' := 12) (cells' := 1) (slots' := 1) (W := 0) X11 hx hZ (rm_c2_1 l Z a0 hw ca nb11 kc kA11 c0 hb0 h11 n0 O V_ca V_nb11 g_nb11 ne_ca_nb11) hown (ow35 hw) (ow36 hw) (ow33 hw) (ow37 hw) (by decide) (by rw [hml]; rfl) e11 opd_1 [(.ref ca), (.int 0), (.ref nb11), (.int 0), (.int 1)] [] rfl rfl rfl rfl (by decide) (by decide) rfl rfl (by decide) (by decide) (hb hby d6_9) rfl (fun v12 T12 h12 L12 X12 e12 z12 => ?_)
 obtain ⟨rfl, Nq12, K12, V_nb11'⟩ := z12; have N := Fr.app N Nq12
 have V_ca := V_ca.keep K12 (ninS ne_ca_nb11 nin0); have O := O.keep K12 (allS g_nb11 all0); have K := K.trans K12 (allS (Or.inr sz_nb11) all0)
 have V_nb11 := V_nb11'
 refine og_istore (L' := #[.val (.ref ca), .val (.int 0), .val (.int 1), .val (.ref nb11), .val (.int 1), .unset]) X12 hx rfl (hb hby d6_12) rfl ?_
 refine og_iload X12 hx rfl (hb hby d6_14) rfl ?_
 refine og_iloadN X12 hx rfl (hb hby d6_16) rfl ?_
 refine og_icmp_eq (pc1 := 57) (pc2 := 20) X12 hx (hb hby d6_17) (by decide) (by decide) rfl (fun _ => ?_) (fun q => absurd q (by decide))
 refine og_aloadN X12 hx rfl rfl (hb hby d6_57) rfl ?_
 refine og_retR X12 hx hlk hret rfl rfl rfl (hb hby d6_58) (by decide) (by decide) ?_
 rw [e12]; exact ⟨_, _, rfl, N, K, sz_nb11, V_nb11⟩
theorem rm_cfa_1 (l : Launch) (Z : State) (a0 : Array Value) (hw : HW a0 Z) (ba : Addr) (kb : ClassId) (vs : List Value) (h0 : Heap) (n0 : Nat) (O : Old Z n0 h0) (V_ba : Arv Z h0 ba kb .byte (1 : Int32) vs (.int 0)) :
  Con l Z (⟨"java/lang/StringUTF16", "coderFromArrayLen", "([BI)B"⟩ : MethodName) jdk_52_method_15_code 2 (some .byte) ({ frames := 0, cells := 0, slots := 0, locals := 0 } : Room) #[(.ref ba), (.int 1)] h0 (fun v h L => v = some (.int 0) ∧ Fr n0 L ∧ h = h0) := by
 refine own_startC opn_8 ?_
 intro p e s m below meth c T0 X0 hx hby hml hZ hown hnm hret hlk e0
 have N := Fr.nil n0; have K := Keep.refl h0 []
 refine OG.cast (oef4 m ba (1 : Int32)) ?_
 refine og_iloadN X0 hx rfl (hb hby d8_0) rfl ?_
 refine og_aloadN X0 hx rfl rfl (hb hby d8_1) rfl ?_
 refine og_arraylength X0 hx hZ e0 V_ba (hb hby d8_2) rfl ?_
 refine og_isub X0 hx (hb hby d8_3) rfl ?_
 show OG p e below _ (T0.setTop (mkF m 4 #[.val (.ref ba), .val (.int 1)] [(.int 0)]))
 refine og_bipush (v := (31 : Int32)) X0 hx rfl (hb hby d8_4) rfl ?_
 refine og_iushr X0 hx (hb hby d8_6) rfl ?_
 show OG p e below _ (T0.setTop (mkF m 7 #[.val (.ref ba), .val (.int 1)] [(.int 0)]))
 refine og_i2b X0 hx (hb hby d8_7) rfl ?_
 show OG p e below _ (T0.setTop (mkF m 8 #[.val (.ref ba), .val (.int 1)] [(.int 0)]))
 refine og_retN X0 hx hlk hret (by simp) (hb hby d8_8) (by decide) (by decide) ?_
 rw [e0]; exact ⟨rfl, N, rfl⟩
theorem rm_sv_1 (l : Launch) (Z : State) (a0 : Array Value) (hw : HW a0 Z) (a1 ca : Addr) (kc : ClassId) (c0 : Int32) (hb0 : ¬ 255 < c0) (cs : Int32) (hcs : ¬ cs = 0) (h0 : Heap) (n0 : Nat) (O : Old Z n0 h0) (E_a1 : Exa Z h0 a1 "java/lang/String") (F_value_a1 : Fld Z h0 a1 "java/lang/String" "value" "[B" .null) (F_coder_a1 : Fld Z h0 a1 "java/lang/String" "coder" "B" (.int 0)) (V_ca : Arv Z h0 ca kc .char (1 : Int32) [(.int c0)] (.int 0)) (S_CS : Sta Z Z.heap "java/lang/String" "COMPACT_STRINGS" "Z" (.int cs)) (g_a1 : n0 ≤ a1) (ne_ca_a1 : ca ≠ a1) :
  Con l Z (⟨"java/lang/String", "<init>", "([CIILjava/lang/Void;)V"⟩ : MethodName) jdk_42_method_149_code 6 none ({ frames := 2, cells := 1, slots := 1, locals := 35 } : Room) #[(.ref a1), (.ref ca), (.int 0), (.int 1), .null] h0 (fun v h L => ∃ b k, v = none ∧ Fr n0 L ∧ Keep h0 h [a1] ∧ h0.size ≤ b ∧ Exa Z h a1 "java/lang/String" ∧ Fld Z h a1 "java/lang/String" "value" "[B" (.ref b) ∧ Fld Z h a1 "java/lang/String" "coder" "B" (.int 0) ∧ Arv Z h b k .byte (1 : Int32) [(.int c0.toInt8.toInt32)] (.int 0)) := by
 refine own_startC opn_4 ?_
 intro p e s m below meth c T0 X0 hx hby hml hZ hown hnm hret hlk e0
 have N := Fr.nil n0; have K := Keep.refl h0 [a1]
 refine OG.cast (oef0 m a1 ca (0 : Int32) (1 : Int32)) ?_
 refine og_aloadN X0 hx rfl rfl (hb hby d4_0) rfl ?_
 refine og_initO (pc' := 4) X0 hx hZ (W := 0) (by rw [hml]; rfl) hown (ow19 hw) (ow20 hw) (ow21 hw) e0 rfl (by decide) (by decide) (hb hby d4_1) rfl (fun T11 X11 e11 => ?_)
 refine og_iloadN X11 hx rfl (hb hby d4_4) rfl ?_
 refine og_if_ne (pc1 := 27) (pc2 := 8) X11 hx (hb hby d4_5) (by decide) (by decide) rfl (fun _ => ?_) (fun q => absurd q (by decide))
 refine og_getstatic X11 hx hZ (host := "") hown (Or.inl (ow30 hw)) Via.refl e11 (S_CS.ext O.2) (hb hby d4_27) rfl (fun T12 X12 e12 => ?_)
 refine og_if_eq (pc1 := 58) (pc2 := 33) X12 hx (hb hby d4_30) (by decide) (by decide) rfl (fun q => absurd q hcs) (fun _ => ?_)
 refine og_aloadN X12 hx rfl rfl (hb hby d4_33) rfl ?_
 refine og_iloadN X12 hx rfl (hb hby d4_34) rfl ?_
 refine og_iloadN X12 hx rfl (hb hby d4_35) rfl ?_
 refine og_static (pc' := 39) (cells' := 1) (slots' := 1) (W := 0) X12 hx hZ (rm_c1_1 l Z a0 hw ca kc c0 hb0 h0 n0 O V_ca) hown (ow31 hw) (ow32 hw) (ow33 hw) (ow34 hw) (by decide) (by rw [hml]; rfl) e12 opd_2 [(.ref ca), (.int 0), (.int 1)] [] rfl rfl rfl rfl (by decide) (by decide) rfl rfl (by decide) (by decide) (hb hby d4_36) rfl (fun v13 T13 h13 L13 X13 e13 z13 => ?_)
 obtain ⟨nb13, k13, rfl, Nq13, K13, sb13, V_nb13⟩ := z13; have N := Fr.app N Nq13
 have s_nb13 : h0.size ≤ nb13 := sb13; have g_nb13 : n0 ≤ nb13 := Nat.le_trans (own_n0 O) s_nb13; have sz_nb13 : h0.size ≤ nb13 := Nat.le_trans K.1 s_nb13; have ne_a1_nb13 : a1 ≠ nb13 := Nat.ne_of_lt (Nat.lt_of_lt_of_le E_a1.lt s_nb13); have ne_ca_nb13 : ca ≠ nb13 := Nat.ne_of_lt (Nat.lt_of_lt_of_le V_ca.lt s_nb13)
 have E_a1 := E_a1.keep K13; have F_value_a1 := F_value_a1.keep K13 nin0; have F_coder_a1 := F_coder_a1.keep K13 nin0; have V_ca := V_ca.keep K13 nin0; have O := O.keep K13 all0; have K := K.trans K13 all0
 refine og_astore (L' := #[.val (.ref a1), .val (.ref ca), .val (.int 0), .val (.int 1), .val .null, .val (.ref nb13)]) X13 hx rfl rfl (hb hby d4_39) rfl ?_
 refine og_aloadN X13 hx rfl rfl (hb hby d4_41) rfl ?_
 refine og_aload X13 hx rfl rfl (hb hby d4_42) rfl ?_
 refine og_iloadN X13 hx rfl (hb hby d4_44) rfl ?_
 refine og_static (pc' := 48) (cells' := 1) (slots' := 1) (W := 1) X13 hx hZ (rm_cfa_1 l Z a0 hw nb13 k13 _ h13 n0 O V_nb13) hown (ow38 hw) (ow39 hw) (ow33 hw) (ow40 hw) (by decide) (by rw [hml]; rfl) e13 opd_3 [(.ref nb13), (.int 1)] [(.ref a1)] rfl rfl rfl rfl (by decide) (by decide) rfl rfl (by decide) (by decide) (hb hby d4_45) rfl (fun v14 T14 h14 L14 X14 e14 z14 => ?_)
 obtain ⟨rfl, Nq14, hq14⟩ := z14; replace e14 := e14.trans hq14; have N := Fr.app N Nq14
 refine og_putfield X14 hx hZ (ty := .byte) (host := "") hown (Or.inl (ow29 hw)) Via.refl e14 F_coder_a1 E_a1 (Or.inr ⟨(ow25 hw), rfl, hnm⟩) (ow10 hw) (by decide) rfl rfl (hb hby d4_48) rfl (fun T15 h15 X15 e15 W15 => ?_)
 have F_coder_a1_ := F_coder_a1.same W15
 have E_a1 := E_a1.wr W15; have F_value_a1 := F_value_a1.other W15 (Or.inr (slot_ne (Or.inr (ow24 hw)) (Or.inr (ow25 hw)) (by decide) (t := (.array .byte)) (t' := .byte) (by decide) (by decide))); have V_ca := V_ca.other W15 ne_ca_a1; have V_nb13 := V_nb13.other W15 (Ne.symm ne_a1_nb13); have O := O.wr W15 g_a1; have K := K.wr W15 (Or.inl (List.mem_of_getElem? (i := 0) rfl))
 have N := Fr.snoc X15 N g_a1; have F_coder_a1 := F_coder_a1_
 refine og_aloadN X15 hx rfl rfl (hb hby d4_51) rfl ?_
 refine og_aload X15 hx rfl rfl (hb hby d4_52) rfl ?_
 refine og_putfield X15 hx hZ (ty := (.array .byte)) (host := "") hown (Or.inl (ow28 hw)) Via.refl e15 F_value_a1 E_a1 (Or.inr ⟨(ow24 hw), rfl, hnm⟩) (ow10 hw) (by decide) rfl rfl (hb hby d4_54) rfl (fun T16 h16 X16 e16 W16 => ?_)
 have F_value_a1_ := F_value_a1.same W16
 have E_a1 := E_a1.wr W16; have V_ca := V_ca.other W16 ne_ca_a1; have V_nb13 := V_nb13.other W16 (Ne.symm ne_a1_nb13); have F_coder_a1 := F_coder_a1.other W16 (Or.inr (slot_ne (Or.inr (ow25 hw)) (Or.inr (ow24 hw)) (by decide) (t := .byte) (t' := (.array .byte)) (by decide) (by decide))); have O := O.wr W16 g_a1; have K := K.wr W16 (Or.inl (List.mem_of_getElem? (i := 0) rfl))
 have N := Fr.snoc X16 N g_a1; have F_value_a1 := F_value_a1_
 refine og_retV X16 hx hlk hret (hb hby d4_57) (by decide) (by decide) ?_
 rw [e16]; exact ⟨_, _, rfl, N, K, sz_nb13, E_a1, F_value_a1, F_coder_a1, V_nb13⟩
theorem rm_sn_1 (l : Launch) (Z : State) (a0 : Array Value) (hw : HW a0 Z) (a1 ca : Addr) (kc : ClassId) (c0 : Int32) (hb0 : ¬ 255 < c0) (cs : Int32) (hcs : ¬ cs = 0) (h0 : Heap) (n0 : Nat) (O : Old Z n0 h0) (E_a1 : Exa Z h0 a1 "java/lang/String") (F_value_a1 : Fld Z h0 a1 "java/lang/String" "value" "[B" .null) (F_coder_a1 : Fld Z h0 a1 "java/lang/String" "coder" "B" (.int 0)) (V_ca : Arv Z h0 ca kc .char (1 : Int32) [(.int c0)] (.int 0)) (S_CS : Sta Z Z.heap "java/lang/String" "COMPACT_STRINGS" "Z" (.int cs)) (g_a1 : n0 ≤ a1) (ne_ca_a1 : ca ≠ a1) :
  Con l Z (⟨"java/lang/String", "<init>", "([C)V"⟩ : MethodName) jdk_42_method_3_code 2 none ({ frames := 3, cells := 1, slots := 1, locals := 52 } : Room) #[(.ref a1), (.ref ca)] h0 (fun v h L => ∃ b k, v = none ∧ Fr n0 L ∧ Keep h0 h [a1] ∧ h0.size ≤ b ∧ Exa Z h a1 "java/lang/String" ∧ Fld Z h a1 "java/lang/String" "value" "[B" (.ref b) ∧ Fld Z h a1 "java/lang/String" "coder" "B" (.int 0) ∧ Arv Z h b k .byte (1 : Int32) [(.int c0.toInt8.toInt32)] (.int 0)) := by
 refine own_startC opn_3 ?_
 intro p e s m below meth c T0 X0 hx hby hml hZ hown hnm hret hlk e0
 have N := Fr.nil n0; have K := Keep.refl h0 [a1]
 refine OG.cast (oef1 m a1 ca) ?_
 refine og_aloadN X0 hx rfl rfl (hb hby d3_0) rfl ?_
 refine og_aloadN X0 hx rfl rfl (hb hby d3_1) rfl ?_
 refine og_iconst (v := (0 : Int32)) X0 hx rfl (hb hby d3_2) rfl ?_
 refine og_aloadN X0 hx rfl rfl (hb hby d3_3) rfl ?_
 refine og_arraylength X0 hx hZ e0 V_ca (hb hby d3_4) rfl ?_
 refine og_aconst_null X0 hx (hb hby d3_5) rfl ?_
 refine og_special (pc' := 9) (cells' := 1) (slots' := 1) (W := 0) X0 hx hZ (rm_sv_1 l Z a0 hw a1 ca kc c0 hb0 cs hcs h0 n0 O E_a1 F_value_a1 F_coder_a1 V_ca S_CS g_a1 ne_ca_a1) rfl hown (ow15 hw) (ow16 hw) (ow11 hw) (ow18 hw) (by decide) (by rw [hml]; rfl) e0 opd_0 [(.ref ca), (.int 0), (.int 1), .null] [] rfl rfl rfl rfl (by decide) (by decide) rfl rfl (by decide) (by decide) (hb hby d3_6) rfl (fun v11 T11 h11 L11 X11 e11 z11 => ?_)
 obtain ⟨nb11, k11, rfl, Nq11, K11, sb11, E_a1', F_value_a1', F_coder_a1', V_nb11⟩ := z11; have N := Fr.app N Nq11
 have s_nb11 : h0.size ≤ nb11 := sb11; have g_nb11 : n0 ≤ nb11 := Nat.le_trans (own_n0 O) s_nb11; have sz_nb11 : h0.size ≤ nb11 := Nat.le_trans K.1 s_nb11; have ne_a1_nb11 : a1 ≠ nb11 := Nat.ne_of_lt (Nat.lt_of_lt_of_le E_a1.lt s_nb11); have ne_ca_nb11 : ca ≠ nb11 := Nat.ne_of_lt (Nat.lt_of_lt_of_le V_ca.lt s_nb11)
 have E_a1 := E_a1.keep K11; have V_ca := V_ca.keep K11 (ninS ne_ca_a1 nin0); have O := O.keep K11 (allS g_a1 all0); have K := K.trans K11 (allS (Or.inl (List.mem_of_getElem? (i := 0) rfl)) all0)
 have E_a1 := E_a1'; have F_value_a1 := F_value_a1'; have F_coder_a1 := F_coder_a1'
 refine og_retV X11 hx hlk hret (hb hby d3_9) (by decide) (by decide) ?_
 rw [e11]; exact ⟨_, _, rfl, N, K, sz_nb11, E_a1, F_value_a1, F_coder_a1, V_nb11⟩
theorem rm_c2_2 (l : Launch) (Z : State) (a0 : Array Value) (hw : HW a0 Z) (ca ba : Addr) (kc kb : ClassId) (c0 c1 : Int32) (hb0 : ¬ 255 < c0) (hb1 : ¬ 255 < c1) (h0 : Heap) (n0 : Nat) (O : Old Z n0 h0) (V_ca : Arv Z h0 ca kc .char (2 : Int32) [(.int c0), (.int c1)] (.int 0)) (V_ba : Arv Z h0 ba kb .byte (2 : Int32) [(.int 0), (.int 0)] (.int 0)) (g_ba : n0 ≤ ba) (ne_ca_ba : ca ≠ ba) :
  Con l Z (⟨"java/lang/StringUTF16", "compress", "([CI[BII)I"⟩ : MethodName) jdk_52_method_21_code 7 (some .int) ({ frames := 0, cells := 0, slots := 0, locals := 0 } : Room) #[(.ref ca), (.int 0), (.ref ba), (.int 0), (.int 2)] h0 (fun v h L => v = some (.int 2) ∧ Fr n0 L ∧ Keep h0 h [ba] ∧ Arv Z h ba kb .byte (2 : Int32) [(.int c0.toInt8.toInt32), (.int c1.toInt8.toInt32)] (.int 0)) := by
 refine own_startC opn_7 ?_
 intro p e s m below meth c T0 X0 hx hby hml hZ hown hnm hret hlk e0
 have N := Fr.nil n0; have K := Keep.refl h0 [ba]
 refine OG.cast (oef2 m ca (0 : Int32) ba (0 : Int32) (2 : Int32)) ?_
 refine og_iconst (v := (0 : Int32)) X0 hx rfl (hb hby d7_0) rfl ?_
 refine og_istore (L' := #[.val (.ref ca), .val (.int 0), .val (.ref ba), .val (.int 0), .val (.int 2), .val (.int 0), .unset]) X0 hx rfl (hb hby d7_1) rfl ?_
 refine og_iload X0 hx rfl (hb hby d7_3) rfl ?_
 refine og_iload X0 hx rfl (hb hby d7_5) rfl ?_
 refine og_icmp_ge (pc1 := 44) (pc2 := 10) X0 hx (hb hby d7_7) (by decide) (by decide) rfl (fun q => absurd q (by decide)) (fun _ => ?_)
 refine og_aloadN X0 hx rfl rfl (hb hby d7_10) rfl ?_
 refine og_iloadN X0 hx rfl (hb hby d7_11) rfl ?_
 refine og_caload (v := (.int c0)) X0 hx hZ e0 V_ca ⟨by decide, by decide⟩ rfl (hb hby d7_12) rfl ?_
 refine og_istore (L' := #[.val (.ref ca), .val (.int 0), .val (.ref ba), .val (.int 0), .val (.int 2), .val (.int 0), .val (.int c0)]) X0 hx rfl (hb hby d7_13) rfl ?_
 refine og_iload X0 hx rfl (hb hby d7_15) rfl ?_
 refine og_sipush (v := (255 : Int32)) X0 hx rfl (hb hby d7_17) rfl ?_
 refine og_icmp_le (pc1 := 26) (pc2 := 23) X0 hx (hb hby d7_20) (by decide) (by decide) rfl (fun _ => ?_) (fun q => absurd q hb0)
 refine og_aloadN X0 hx rfl rfl (hb hby d7_26) rfl ?_
 refine og_iloadN X0 hx rfl (hb hby d7_27) rfl ?_
 refine og_iload X0 hx rfl (hb hby d7_28) rfl ?_
 refine og_i2b X0 hx (hb hby d7_30) rfl ?_
 refine og_bastore X0 hx hZ e0 V_ba ⟨by decide, by decide⟩ 0 (by decide) (Nat.le_of_ble_eq_true rfl) (hb hby d7_31) rfl (fun T11 h11 X11 e11 W11 V11 => ?_)
 have V_ca := V_ca.other W11 ne_ca_ba; have O := O.wr W11 g_ba; have K := K.wr W11 (Or.inl (List.mem_of_getElem? (i := 0) rfl))
 have N := Fr.snoc X11 N g_ba
 have V_ba : Arv Z h11 ba kb .byte (2 : Int32) [(.int (nar .byte (c0.toInt8.toInt32))), (.int 0)] (.int 0) := V11
 rw [own_nb] at V_ba
 refine og_iinc (L' := #[.val (.ref ca), .val (.int 1), .val (.ref ba), .val (.int 0), .val (.int 2), .val (.int 0), .val (.int c0)]) (w := (1 : Int32)) X11 hx rfl rfl rfl (hb hby d7_32) rfl ?_
 refine og_iinc (L' := #[.val (.ref ca), .val (.int 1), .val (.ref ba), .val (.int 1), .val (.int 2), .val (.int 0), .val (.int c0)]) (w := (1 : Int32)) X11 hx rfl rfl rfl (hb hby d7_35) rfl ?_
 refine og_iinc (L' := #[.val (.ref ca), .val (.int 1), .val (.ref ba), .val (.int 1), .val (.int 2), .val (.int 1), .val (.int c0)]) (w := (1 : Int32)) X11 hx rfl rfl rfl (hb hby d7_38) rfl ?_
 refine og_goto (pc' := 3) X11 hx (hb hby d7_41) (by decide) (by decide) ?_
 refine og_iload X11 hx rfl (hb hby d7_3) rfl ?_
 refine og_iload X11 hx rfl (hb hby d7_5) rfl ?_
 refine og_icmp_ge (pc1 := 44) (pc2 := 10) X11 hx (hb hby d7_7) (by decide) (by decide) rfl (fun q => absurd q (by decide)) (fun _ => ?_)
 refine og_aloadN X11 hx rfl rfl (hb hby d7_10) rfl ?_
 refine og_iloadN X11 hx rfl (hb hby d7_11) rfl ?_
 refine og_caload (v := (.int c1)) X11 hx hZ e11 V_ca ⟨by decide, by decide⟩ rfl (hb hby d7_12) rfl ?_
 refine og_istore (L' := #[.val (.ref ca), .val (.int 1), .val (.ref ba), .val (.int 1), .val (.int 2), .val (.int 1), .val (.int c1)]) X11 hx rfl (hb hby d7_13) rfl ?_
 refine og_iload X11 hx rfl (hb hby d7_15) rfl ?_
 refine og_sipush (v := (255 : Int32)) X11 hx rfl (hb hby d7_17) rfl ?_
 refine og_icmp_le (pc1 := 26) (pc2 := 23) X11 hx (hb hby d7_20) (by decide) (by decide) rfl (fun _ => ?_) (fun q => absurd q hb1)
 refine og_aloadN X11 hx rfl rfl (hb hby d7_26) rfl ?_
 refine og_iloadN X11 hx rfl (hb hby d7_27) rfl ?_
 refine og_iload X11 hx rfl (hb hby d7_28) rfl ?_
 refine og_i2b X11 hx (hb hby d7_30) rfl ?_
 refine og_bastore X11 hx hZ e11 V_ba ⟨by decide, by decide⟩ 1 (by decide) (Nat.le_of_ble_eq_true rfl) (hb hby d7_31) rfl (fun T12 h12 X12 e12 W12 V12 => ?_)
 have V_ca := V_ca.other W12 ne_ca_ba; have O := O.wr W12 g_ba; have K := K.wr W12 (Or.inl (List.mem_of_getElem? (i := 0) rfl))
 have N := Fr.snoc X12 N g_ba
 have V_ba : Arv Z h12 ba kb .byte (2 : Int32) [(.int c0.toInt8.toInt32), (.int (nar .byte (c1.toInt8.toInt32)))] (.int 0) := V12
 rw [own_nb] at V_ba
 refine og_iinc (L' := #[.val (.ref ca), .val (.int 2), .val (.ref ba), .val (.int 1), .val (.int 2), .val (.int 1), .val (.int c1)]) (w := (1 : Int32)) X12 hx rfl rfl rfl (hb hby d7_32) rfl ?_
 refine og_iinc (L' := #[.val (.ref ca), .val (.int 2), .val (.ref ba), .val (.int 2), .val (.int 2), .val (.int 1), .val (.int c1)]) (w := (1 : Int32)) X12 hx rfl rfl rfl (hb hby d7_35) rfl ?_
 refine og_iinc (L' := #[.val (.ref ca), .val (.int 2), .val (.ref ba), .val (.int 2), .val (.int 2), .val (.int 2), .val (.int c1)]) (w := (1 : Int32)) X12 hx rfl rfl rfl (hb hby d7_38) rfl ?_
 refine og_goto (pc' := 3) X12 hx (hb hby d7_41) (by decide) (by decide) ?_
 refine og_iload X12 hx rfl (hb hby d7_3) rfl ?_
 refine og_iload X12 hx rfl (hb hby d7_5) rfl ?_
 refine og_icmp_ge (pc1 := 44) (pc2 := 10) X12 hx (hb hby d7_7) (by decide) (by decide) rfl (fun _ => ?_) (fun q => absurd q (by decide))
 refine og_iload X12 hx rfl (hb hby d7_44) rfl ?_
 refine og_retI X12 hx hlk hret (hb hby d7_46) (by decide) (by decide) ?_
 rw [e12]; exact ⟨rfl, N, K, V_ba⟩
theorem rm_c1_2 (l : Launch) (Z : State) (a0 : Array Value) (hw : HW a0 Z) (ca : Addr) (kc : ClassId) (c0 c1 : Int32) (hb0 : ¬ 255 < c0) (hb1 : ¬ 255 < c1) (h0 : Heap) (n0 : Nat) (O : Old Z n0 h0) (V_ca : Arv Z h0 ca kc .char (2 : Int32) [(.int c0), (.int c1)] (.int 0)) :
  Con l Z (⟨"java/lang/StringUTF16", "compress", "([CII)[B"⟩ : MethodName) jdk_52_method_16_code 6 (some (.array .byte)) ({ frames := 1, cells := 1, slots := 2, locals := 18 } : Room) #[(.ref ca), (.int 0), (.int 2)] h0 (fun v h L => ∃ b k, v = some (.ref b) ∧ Fr n0 L ∧ Keep h0 h [] ∧ h0.size ≤ b ∧ Arv Z h b k .byte (2 : Int32) [(.int c0.toInt8.toInt32), (.int c1.toInt8.toInt32)] (.int 0)) := by
 refine own_startC opn_6 ?_
 intro p e s m below meth c T0 X0 hx hby hml hZ hown hnm hret hlk e0
 have N := Fr.nil n0; have K := Keep.refl h0 []
 refine OG.cast (oef3 m ca (0 : Int32) (2 : Int32)) ?_
 refine og_iloadN X0 hx rfl (hb hby d6_0) rfl ?_
 refine og_newarray (pc' := 3) (cells' := 1) (slots' := 2) (cap := 2) (ty := .byte) X0 hx hZ rfl (ow23 hw) e0 (by decide) (by decide) (by decide) (hb hby d6_1) rfl rfl rfl (by decide) (by decide) (fun T11 h11 nb11 kA11 X11 e11 E11 q11 V_nb11 => ?_)
 have s_nb11 : h0.size ≤ nb11 := Nat.le_of_eq q11.symm; have g_nb11 : n0 ≤ nb11 := Nat.le_trans (own_n0 O) s_nb11; have sz_nb11 : h0.size ≤ nb11 := Nat.le_trans K.1 s_nb11; have ne_ca_nb11 : ca ≠ nb11 := Nat.ne_of_lt (Nat.lt_of_lt_of_le V_ca.lt s_nb11)
 have V_ca := V_ca.ext E11; have O := O.ext E11; have K := K.ext E11
 have V_nb11 : Arv Z h11 nb11 kA11 .byte (2 : Int32) [(.int 0), (.int 0)] (.int 0) := V_nb11.pad (pad_rep [] (.int 0) 2)
 refine og_astoreN (L' := #[.val (.ref ca), .val (.int 0), .val (.int 2), .val (.ref nb11), .unset, .unset]) X11 hx rfl rfl (hb hby d6_3) rfl ?_
 refine og_aloadN X11 hx rfl rfl (hb hby d6_4) rfl ?_
 refine og_iloadN X11 hx rfl (hb hby d6_5) rfl ?_
 refine og_aloadN X11 hx rfl rfl (hb hby d6_6) rfl ?_
 refine og_iconst (v := (0 : Int32)) X11 hx rfl (hb hby d6_7) rfl ?_
 refine og_iloadN X11 hx rfl (hb hby d6_8) rfl ?_
 refine og_static (pc' := 12) (cells' := 1) (slots' := 2) (W := 0) X11 hx hZ (rm_c2_2 l Z a0 hw ca nb11 kc kA11 c0 c1 hb0 hb1 h11 n0 O V_ca V_nb11 g_nb11 ne_ca_nb11) hown (ow35 hw) (ow36 hw) (ow33 hw) (ow37 hw) (by decide) (by rw [hml]; rfl) e11 opd_1 [(.ref ca), (.int 0), (.ref nb11), (.int 0), (.int 2)] [] rfl rfl rfl rfl (by decide) (by decide) rfl rfl (by decide) (by decide) (hb hby d6_9) rfl (fun v12 T12 h12 L12 X12 e12 z12 => ?_)
 obtain ⟨rfl, Nq12, K12, V_nb11'⟩ := z12; have N := Fr.app N Nq12
 have V_ca := V_ca.keep K12 (ninS ne_ca_nb11 nin0); have O := O.keep K12 (allS g_nb11 all0); have K := K.trans K12 (allS (Or.inr sz_nb11) all0)
 have V_nb11 := V_nb11'
 refine og_istore (L' := #[.val (.ref ca), .val (.int 0), .val (.int 2), .val (.ref nb11), .val (.int 2), .unset]) X12 hx rfl (hb hby d6_12) rfl ?_
 refine og_iload X12 hx rfl (hb hby d6_14) rfl ?_
 refine og_iloadN X12 hx rfl (hb hby d6_16) rfl ?_
 refine og_icmp_eq (pc1 := 57) (pc2 := 20) X12 hx (hb hby d6_17) (by decide) (by decide) rfl (fun _ => ?_) (fun q => absurd q (by decide))
 refine og_aloadN X12 hx rfl rfl (hb hby d6_57) rfl ?_
 refine og_retR X12 hx hlk hret rfl rfl rfl (hb hby d6_58) (by decide) (by decide) ?_
 rw [e12]; exact ⟨_, _, rfl, N, K, sz_nb11, V_nb11⟩
theorem rm_cfa_2 (l : Launch) (Z : State) (a0 : Array Value) (hw : HW a0 Z) (ba : Addr) (kb : ClassId) (vs : List Value) (h0 : Heap) (n0 : Nat) (O : Old Z n0 h0) (V_ba : Arv Z h0 ba kb .byte (2 : Int32) vs (.int 0)) :
  Con l Z (⟨"java/lang/StringUTF16", "coderFromArrayLen", "([BI)B"⟩ : MethodName) jdk_52_method_15_code 2 (some .byte) ({ frames := 0, cells := 0, slots := 0, locals := 0 } : Room) #[(.ref ba), (.int 2)] h0 (fun v h L => v = some (.int 0) ∧ Fr n0 L ∧ h = h0) := by
 refine own_startC opn_8 ?_
 intro p e s m below meth c T0 X0 hx hby hml hZ hown hnm hret hlk e0
 have N := Fr.nil n0; have K := Keep.refl h0 []
 refine OG.cast (oef4 m ba (2 : Int32)) ?_
 refine og_iloadN X0 hx rfl (hb hby d8_0) rfl ?_
 refine og_aloadN X0 hx rfl rfl (hb hby d8_1) rfl ?_
 refine og_arraylength X0 hx hZ e0 V_ba (hb hby d8_2) rfl ?_
 refine og_isub X0 hx (hb hby d8_3) rfl ?_
 show OG p e below _ (T0.setTop (mkF m 4 #[.val (.ref ba), .val (.int 2)] [(.int 0)]))
 refine og_bipush (v := (31 : Int32)) X0 hx rfl (hb hby d8_4) rfl ?_
 refine og_iushr X0 hx (hb hby d8_6) rfl ?_
 show OG p e below _ (T0.setTop (mkF m 7 #[.val (.ref ba), .val (.int 2)] [(.int 0)]))
 refine og_i2b X0 hx (hb hby d8_7) rfl ?_
 show OG p e below _ (T0.setTop (mkF m 8 #[.val (.ref ba), .val (.int 2)] [(.int 0)]))
 refine og_retN X0 hx hlk hret (by simp) (hb hby d8_8) (by decide) (by decide) ?_
 rw [e0]; exact ⟨rfl, N, rfl⟩
theorem rm_sv_2 (l : Launch) (Z : State) (a0 : Array Value) (hw : HW a0 Z) (a1 ca : Addr) (kc : ClassId) (c0 c1 : Int32) (hb0 : ¬ 255 < c0) (hb1 : ¬ 255 < c1) (cs : Int32) (hcs : ¬ cs = 0) (h0 : Heap) (n0 : Nat) (O : Old Z n0 h0) (E_a1 : Exa Z h0 a1 "java/lang/String") (F_value_a1 : Fld Z h0 a1 "java/lang/String" "value" "[B" .null) (F_coder_a1 : Fld Z h0 a1 "java/lang/String" "coder" "B" (.int 0)) (V_ca : Arv Z h0 ca kc .char (2 : Int32) [(.int c0), (.int c1)] (.int 0)) (S_CS : Sta Z Z.heap "java/lang/String" "COMPACT_STRINGS" "Z" (.int cs)) (g_a1 : n0 ≤ a1) (ne_ca_a1 : ca ≠ a1) :
  Con l Z (⟨"java/lang/String", "<init>", "([CIILjava/lang/Void;)V"⟩ : MethodName) jdk_42_method_149_code 6 none ({ frames := 2, cells := 1, slots := 2, locals := 35 } : Room) #[(.ref a1), (.ref ca), (.int 0), (.int 2), .null] h0 (fun v h L => ∃ b k, v = none ∧ Fr n0 L ∧ Keep h0 h [a1] ∧ h0.size ≤ b ∧ Exa Z h a1 "java/lang/String" ∧ Fld Z h a1 "java/lang/String" "value" "[B" (.ref b) ∧ Fld Z h a1 "java/lang/String" "coder" "B" (.int 0) ∧ Arv Z h b k .byte (2 : Int32) [(.int c0.toInt8.toInt32), (.int c1.toInt8.toInt32)] (.int 0)) := by
 refine own_startC opn_4 ?_
 intro p e s m below meth c T0 X0 hx hby hml hZ hown hnm hret hlk e0
 have N := Fr.nil n0; have K := Keep.refl h0 [a1]
 refine OG.cast (oef0 m a1 ca (0 : Int32) (2 : Int32)) ?_
 refine og_aloadN X0 hx rfl rfl (hb hby d4_0) rfl ?_
 refine og_initO (pc' := 4) X0 hx hZ (W := 0) (by rw [hml]; rfl) hown (ow19 hw) (ow20 hw) (ow21 hw) e0 rfl (by decide) (by decide) (hb hby d4_1) rfl (fun T11 X11 e11 => ?_)
 refine og_iloadN X11 hx rfl (hb hby d4_4) rfl ?_
 refine og_if_ne (pc1 := 27) (pc2 := 8) X11 hx (hb hby d4_5) (by decide) (by decide) rfl (fun _ => ?_) (fun q => absurd q (by decide))
 refine og_getstatic X11 hx hZ (host := "") hown (Or.inl (ow30 hw)) Via.refl e11 (S_CS.ext O.2) (hb hby d4_27) rfl (fun T12 X12 e12 => ?_)
 refine og_if_eq (pc1 := 58) (pc2 := 33) X12 hx (hb hby d4_30) (by decide) (by decide) rfl (fun q => absurd q hcs) (fun _ => ?_)
 refine og_aloadN X12 hx rfl rfl (hb hby d4_33) rfl ?_
 refine og_iloadN X12 hx rfl (hb hby d4_34) rfl ?_
 refine og_iloadN X12 hx rfl (hb hby d4_35) rfl ?_
 refine og_static (pc' := 39) (cells' := 1) (slots' := 2) (W := 0) X12 hx hZ (rm_c1_2 l Z a0 hw ca kc c0 c1 hb0 hb1 h0 n0 O V_ca) hown (ow31 hw) (ow32 hw) (ow33 hw) (ow34 hw) (by decide) (by rw [hml]; rfl) e12 opd_2 [(.ref ca), (.int 0), (.int 2)] [] rfl rfl rfl rfl (by decide) (by decide) rfl rfl (by decide) (by decide) (hb hby d4_36) rfl (fun v13 T13 h13 L13 X13 e13 z13 => ?_)
 obtain ⟨nb13, k13, rfl, Nq13, K13, sb13, V_nb13⟩ := z13; have N := Fr.app N Nq13
 have s_nb13 : h0.size ≤ nb13 := sb13; have g_nb13 : n0 ≤ nb13 := Nat.le_trans (own_n0 O) s_nb13; have sz_nb13 : h0.size ≤ nb13 := Nat.le_trans K.1 s_nb13; have ne_a1_nb13 : a1 ≠ nb13 := Nat.ne_of_lt (Nat.lt_of_lt_of_le E_a1.lt s_nb13); have ne_ca_nb13 : ca ≠ nb13 := Nat.ne_of_lt (Nat.lt_of_lt_of_le V_ca.lt s_nb13)
 have E_a1 := E_a1.keep K13; have F_value_a1 := F_value_a1.keep K13 nin0; have F_coder_a1 := F_coder_a1.keep K13 nin0; have V_ca := V_ca.keep K13 nin0; have O := O.keep K13 all0; have K := K.trans K13 all0
 refine og_astore (L' := #[.val (.ref a1), .val (.ref ca), .val (.int 0), .val (.int 2), .val .null, .val (.ref nb13)]) X13 hx rfl rfl (hb hby d4_39) rfl ?_
 refine og_aloadN X13 hx rfl rfl (hb hby d4_41) rfl ?_
 refine og_aload X13 hx rfl rfl (hb hby d4_42) rfl ?_
 refine og_iloadN X13 hx rfl (hb hby d4_44) rfl ?_
 refine og_static (pc' := 48) (cells' := 1) (slots' := 2) (W := 1) X13 hx hZ (rm_cfa_2 l Z a0 hw nb13 k13 _ h13 n0 O V_nb13) hown (ow38 hw) (ow39 hw) (ow33 hw) (ow40 hw) (by decide) (by rw [hml]; rfl) e13 opd_3 [(.ref nb13), (.int 2)] [(.ref a1)] rfl rfl rfl rfl (by decide) (by decide) rfl rfl (by decide) (by decide) (hb hby d4_45) rfl (fun v14 T14 h14 L14 X14 e14 z14 => ?_)
 obtain ⟨rfl, Nq14, hq14⟩ := z14; replace e14 := e14.trans hq14; have N := Fr.app N Nq14
 refine og_putfield X14 hx hZ (ty := .byte) (host := "") hown (Or.inl (ow29 hw)) Via.refl e14 F_coder_a1 E_a1 (Or.inr ⟨(ow25 hw), rfl, hnm⟩) (ow10 hw) (by decide) rfl rfl (hb hby d4_48) rfl (fun T15 h15 X15 e15 W15 => ?_)
 have F_coder_a1_ := F_coder_a1.same W15
 have E_a1 := E_a1.wr W15; have F_value_a1 := F_value_a1.other W15 (Or.inr (slot_ne (Or.inr (ow24 hw)) (Or.inr (ow25 hw)) (by decide) (t := (.array .byte)) (t' := .byte) (by decide) (by decide))); have V_ca := V_ca.other W15 ne_ca_a1; have V_nb13 := V_nb13.other W15 (Ne.symm ne_a1_nb13); have O := O.wr W15 g_a1; have K := K.wr W15 (Or.inl (List.mem_of_getElem? (i := 0) rfl))
 have N := Fr.snoc X15 N g_a1; have F_coder_a1 := F_coder_a1_
 refine og_aloadN X15 hx rfl rfl (hb hby d4_51) rfl ?_
 refine og_aload X15 hx rfl rfl (hb hby d4_52) rfl ?_
 refine og_putfield X15 hx hZ (ty := (.array .byte)) (host := "") hown (Or.inl (ow28 hw)) Via.refl e15 F_value_a1 E_a1 (Or.inr ⟨(ow24 hw), rfl, hnm⟩) (ow10 hw) (by decide) rfl rfl (hb hby d4_54) rfl (fun T16 h16 X16 e16 W16 => ?_)
 have F_value_a1_ := F_value_a1.same W16
 have E_a1 := E_a1.wr W16; have V_ca := V_ca.other W16 ne_ca_a1; have V_nb13 := V_nb13.other W16 (Ne.symm ne_a1_nb13); have F_coder_a1 := F_coder_a1.other W16 (Or.inr (slot_ne (Or.inr (ow25 hw)) (Or.inr (ow24 hw)) (by decide) (t := .byte) (t' := (.array .byte)) (by decide) (by decide))); have O := O.wr W16 g_a1; have K := K.wr W16 (Or.inl (List.mem_of_getElem? (i := 0) rfl))
 have N := Fr.snoc X16 N g_a1; have F_value_a1 := F_value_a1_
 refine og_retV X16 hx hlk hret (hb hby d4_57) (by decide) (by decide) ?_
 rw [e16]; exact ⟨_, _, rfl, N, K, sz_nb13, E_a1, F_value_a1, F_coder_a1, V_nb13⟩
theorem rm_sn_2 (l : Launch) (Z : State) (a0 : Array Value) (hw : HW a0 Z) (a1 ca : Addr) (kc : ClassId) (c0 c1 : Int32) (hb0 : ¬ 255 < c0) (hb1 : ¬ 255 < c1) (cs : Int32) (hcs : ¬ cs = 0) (h0 : Heap) (n0 : Nat) (O : Old Z n0 h0) (E_a1 : Exa Z h0 a1 "java/lang/String") (F_value_a1 : Fld Z h0 a1 "java/lang/String" "value" "[B" .null) (F_coder_a1 : Fld Z h0 a1 "java/lang/String" "coder" "B" (.int 0)) (V_ca : Arv Z h0 ca kc .char (2 : Int32) [(.int c0), (.int c1)] (.int 0)) (S_CS : Sta Z Z.heap "java/lang/String" "COMPACT_STRINGS" "Z" (.int cs)) (g_a1 : n0 ≤ a1) (ne_ca_a1 : ca ≠ a1) :
  Con l Z (⟨"java/lang/String", "<init>", "([C)V"⟩ : MethodName) jdk_42_method_3_code 2 none ({ frames := 3, cells := 1, slots := 2, locals := 52 } : Room) #[(.ref a1), (.ref ca)] h0 (fun v h L => ∃ b k, v = none ∧ Fr n0 L ∧ Keep h0 h [a1] ∧ h0.size ≤ b ∧ Exa Z h a1 "java/lang/String" ∧ Fld Z h a1 "java/lang/String" "value" "[B" (.ref b) ∧ Fld Z h a1 "java/lang/String" "coder" "B" (.int 0) ∧ Arv Z h b k .byte (2 : Int32) [(.int c0.toInt8.toInt32), (.int c1.toInt8.toInt32)] (.int 0)) := by
 refine own_startC opn_3 ?_
 intro p e s m below meth c T0 X0 hx hby hml hZ hown hnm hret hlk e0
 have N := Fr.nil n0; have K := Keep.refl h0 [a1]
 refine OG.cast (oef1 m a1 ca) ?_
 refine og_aloadN X0 hx rfl rfl (hb hby d3_0) rfl ?_
 refine og_aloadN X0 hx rfl rfl (hb hby d3_1) rfl ?_
 refine og_iconst (v := (0 : Int32)) X0 hx rfl (hb hby d3_2) rfl ?_
 refine og_aloadN X0 hx rfl rfl (hb hby d3_3) rfl ?_
 refine og_arraylength X0 hx hZ e0 V_ca (hb hby d3_4) rfl ?_
 refine og_aconst_null X0 hx (hb hby d3_5) rfl ?_
 refine og_special (pc' := 9) (cells' := 1) (slots' := 2) (W := 0) X0 hx hZ (rm_sv_2 l Z a0 hw a1 ca kc c0 c1 hb0 hb1 cs hcs h0 n0 O E_a1 F_value_a1 F_coder_a1 V_ca S_CS g_a1 ne_ca_a1) rfl hown (ow15 hw) (ow16 hw) (ow11 hw) (ow18 hw) (by decide) (by rw [hml]; rfl) e0 opd_0 [(.ref ca), (.int 0), (.int 2), .null] [] rfl rfl rfl rfl (by decide) (by decide) rfl rfl (by decide) (by decide) (hb hby d3_6) rfl (fun v11 T11 h11 L11 X11 e11 z11 => ?_)
 obtain ⟨nb11, k11, rfl, Nq11, K11, sb11, E_a1', F_value_a1', F_coder_a1', V_nb11⟩ := z11; have N := Fr.app N Nq11
 have s_nb11 : h0.size ≤ nb11 := sb11; have g_nb11 : n0 ≤ nb11 := Nat.le_trans (own_n0 O) s_nb11; have sz_nb11 : h0.size ≤ nb11 := Nat.le_trans K.1 s_nb11; have ne_a1_nb11 : a1 ≠ nb11 := Nat.ne_of_lt (Nat.lt_of_lt_of_le E_a1.lt s_nb11); have ne_ca_nb11 : ca ≠ nb11 := Nat.ne_of_lt (Nat.lt_of_lt_of_le V_ca.lt s_nb11)
 have E_a1 := E_a1.keep K11; have V_ca := V_ca.keep K11 (ninS ne_ca_a1 nin0); have O := O.keep K11 (allS g_a1 all0); have K := K.trans K11 (allS (Or.inl (List.mem_of_getElem? (i := 0) rfl)) all0)
 have E_a1 := E_a1'; have F_value_a1 := F_value_a1'; have F_coder_a1 := F_coder_a1'
 refine og_retV X11 hx hlk hret (hb hby d3_9) (by decide) (by decide) ?_
 rw [e11]; exact ⟨_, _, rfl, N, K, sz_nb11, E_a1, F_value_a1, F_coder_a1, V_nb11⟩
theorem rm_c2_3 (l : Launch) (Z : State) (a0 : Array Value) (hw : HW a0 Z) (ca ba : Addr) (kc kb : ClassId) (c0 c1 c2 : Int32) (hb0 : ¬ 255 < c0) (hb1 : ¬ 255 < c1) (hb2 : ¬ 255 < c2) (h0 : Heap) (n0 : Nat) (O : Old Z n0 h0) (V_ca : Arv Z h0 ca kc .char (3 : Int32) [(.int c0), (.int c1), (.int c2)] (.int 0)) (V_ba : Arv Z h0 ba kb .byte (3 : Int32) [(.int 0), (.int 0), (.int 0)] (.int 0)) (g_ba : n0 ≤ ba) (ne_ca_ba : ca ≠ ba) :
  Con l Z (⟨"java/lang/StringUTF16", "compress", "([CI[BII)I"⟩ : MethodName) jdk_52_method_21_code 7 (some .int) ({ frames := 0, cells := 0, slots := 0, locals := 0 } : Room) #[(.ref ca), (.int 0), (.ref ba), (.int 0), (.int 3)] h0 (fun v h L => v = some (.int 3) ∧ Fr n0 L ∧ Keep h0 h [ba] ∧ Arv Z h ba kb .byte (3 : Int32) [(.int c0.toInt8.toInt32), (.int c1.toInt8.toInt32), (.int c2.toInt8.toInt32)] (.int 0)) := by
 refine own_startC opn_7 ?_
 intro p e s m below meth c T0 X0 hx hby hml hZ hown hnm hret hlk e0
 have N := Fr.nil n0; have K := Keep.refl h0 [ba]
 refine OG.cast (oef2 m ca (0 : Int32) ba (0 : Int32) (3 : Int32)) ?_
 refine og_iconst (v := (0 : Int32)) X0 hx rfl (hb hby d7_0) rfl ?_
 refine og_istore (L' := #[.val (.ref ca), .val (.int 0), .val (.ref ba), .val (.int 0), .val (.int 3), .val (.int 0), .unset]) X0 hx rfl (hb hby d7_1) rfl ?_
 refine og_iload X0 hx rfl (hb hby d7_3) rfl ?_
 refine og_iload X0 hx rfl (hb hby d7_5) rfl ?_
 refine og_icmp_ge (pc1 := 44) (pc2 := 10) X0 hx (hb hby d7_7) (by decide) (by decide) rfl (fun q => absurd q (by decide)) (fun _ => ?_)
 refine og_aloadN X0 hx rfl rfl (hb hby d7_10) rfl ?_
 refine og_iloadN X0 hx rfl (hb hby d7_11) rfl ?_
 refine og_caload (v := (.int c0)) X0 hx hZ e0 V_ca ⟨by decide, by decide⟩ rfl (hb hby d7_12) rfl ?_
 refine og_istore (L' := #[.val (.ref ca), .val (.int 0), .val (.ref ba), .val (.int 0), .val (.int 3), .val (.int 0), .val (.int c0)]) X0 hx rfl (hb hby d7_13) rfl ?_
 refine og_iload X0 hx rfl (hb hby d7_15) rfl ?_
 refine og_sipush (v := (255 : Int32)) X0 hx rfl (hb hby d7_17) rfl ?_
 refine og_icmp_le (pc1 := 26) (pc2 := 23) X0 hx (hb hby d7_20) (by decide) (by decide) rfl (fun _ => ?_) (fun q => absurd q hb0)
 refine og_aloadN X0 hx rfl rfl (hb hby d7_26) rfl ?_
 refine og_iloadN X0 hx rfl (hb hby d7_27) rfl ?_
 refine og_iload X0 hx rfl (hb hby d7_28) rfl ?_
 refine og_i2b X0 hx (hb hby d7_30) rfl ?_
 refine og_bastore X0 hx hZ e0 V_ba ⟨by decide, by decide⟩ 0 (by decide) (Nat.le_of_ble_eq_true rfl) (hb hby d7_31) rfl (fun T11 h11 X11 e11 W11 V11 => ?_)
 have V_ca := V_ca.other W11 ne_ca_ba; have O := O.wr W11 g_ba; have K := K.wr W11 (Or.inl (List.mem_of_getElem? (i := 0) rfl))
 have N := Fr.snoc X11 N g_ba
 have V_ba : Arv Z h11 ba kb .byte (3 : Int32) [(.int (nar .byte (c0.toInt8.toInt32))), (.int 0), (.int 0)] (.int 0) := V11
 rw [own_nb] at V_ba
 refine og_iinc (L' := #[.val (.ref ca), .val (.int 1), .val (.ref ba), .val (.int 0), .val (.int 3), .val (.int 0), .val (.int c0)]) (w := (1 : Int32)) X11 hx rfl rfl rfl (hb hby d7_32) rfl ?_
 refine og_iinc (L' := #[.val (.ref ca), .val (.int 1), .val (.ref ba), .val (.int 1), .val (.int 3), .val (.int 0), .val (.int c0)]) (w := (1 : Int32)) X11 hx rfl rfl rfl (hb hby d7_35) rfl ?_
 refine og_iinc (L' := #[.val (.ref ca), .val (.int 1), .val (.ref ba), .val (.int 1), .val (.int 3), .val (.int 1), .val (.int c0)]) (w := (1 : Int32)) X11 hx rfl rfl rfl (hb hby d7_38) rfl ?_
 refine og_goto (pc' := 3) X11 hx (hb hby d7_41) (by decide) (by decide) ?_
 refine og_iload X11 hx rfl (hb hby d7_3) rfl ?_
 refine og_iload X11 hx rfl (hb hby d7_5) rfl ?_
 refine og_icmp_ge (pc1 := 44) (pc2 := 10) X11 hx (hb hby d7_7) (by decide) (by decide) rfl (fun q => absurd q (by decide)) (fun _ => ?_)
 refine og_aloadN X11 hx rfl rfl (hb hby d7_10) rfl ?_
 refine og_iloadN X11 hx rfl (hb hby d7_11) rfl ?_
 refine og_caload (v := (.int c1)) X11 hx hZ e11 V_ca ⟨by decide, by decide⟩ rfl (hb hby d7_12) rfl ?_
 refine og_istore (L' := #[.val (.ref ca), .val (.int 1), .val (.ref ba), .val (.int 1), .val (.int 3), .val (.int 1), .val (.int c1)]) X11 hx rfl (hb hby d7_13) rfl ?_
 refine og_iload X11 hx rfl (hb hby d7_15) rfl ?_
 refine og_sipush (v := (255 : Int32)) X11 hx rfl (hb hby d7_17) rfl ?_
 refine og_icmp_le (pc1 := 26) (pc2 := 23) X11 hx (hb hby d7_20) (by decide) (by decide) rfl (fun _ => ?_) (fun q => absurd q hb1)
 refine og_aloadN X11 hx rfl rfl (hb hby d7_26) rfl ?_
 refine og_iloadN X11 hx rfl (hb hby d7_27) rfl ?_
 refine og_iload X11 hx rfl (hb hby d7_28) rfl ?_
 refine og_i2b X11 hx (hb hby d7_30) rfl ?_
 refine og_bastore X11 hx hZ e11 V_ba ⟨by decide, by decide⟩ 1 (by decide) (Nat.le_of_ble_eq_true rfl) (hb hby d7_31) rfl (fun T12 h12 X12 e12 W12 V12 => ?_)
 have V_ca := V_ca.other W12 ne_ca_ba; have O := O.wr W12 g_ba; have K := K.wr W12 (Or.inl (List.mem_of_getElem? (i := 0) rfl))
 have N := Fr.snoc X12 N g_ba
 have V_ba : Arv Z h12 ba kb .byte (3 : Int32) [(.int c0.toInt8.toInt32), (.int (nar .byte (c1.toInt8.toInt32))), (.int 0)] (.int 0) := V12
 rw [own_nb] at V_ba
 refine og_iinc (L' := #[.val (.ref ca), .val (.int 2), .val (.ref ba), .val (.int 1), .val (.int 3), .val (.int 1), .val (.int c1)]) (w := (1 : Int32)) X12 hx rfl rfl rfl (hb hby d7_32) rfl ?_
 refine og_iinc (L' := #[.val (.ref ca), .val (.int 2), .val (.ref ba), .val (.int 2), .val (.int 3), .val (.int 1), .val (.int c1)]) (w := (1 : Int32)) X12 hx rfl rfl rfl (hb hby d7_35) rfl ?_
 refine og_iinc (L' := #[.val (.ref ca), .val (.int 2), .val (.ref ba), .val (.int 2), .val (.int 3), .val (.int 2), .val (.int c1)]) (w := (1 : Int32)) X12 hx rfl rfl rfl (hb hby d7_38) rfl ?_
 refine og_goto (pc' := 3) X12 hx (hb hby d7_41) (by decide) (by decide) ?_
 refine og_iload X12 hx rfl (hb hby d7_3) rfl ?_
 refine og_iload X12 hx rfl (hb hby d7_5) rfl ?_
 refine og_icmp_ge (pc1 := 44) (pc2 := 10) X12 hx (hb hby d7_7) (by decide) (by decide) rfl (fun q => absurd q (by decide)) (fun _ => ?_)
 refine og_aloadN X12 hx rfl rfl (hb hby d7_10) rfl ?_
 refine og_iloadN X12 hx rfl (hb hby d7_11) rfl ?_
 refine og_caload (v := (.int c2)) X12 hx hZ e12 V_ca ⟨by decide, by decide⟩ rfl (hb hby d7_12) rfl ?_
 refine og_istore (L' := #[.val (.ref ca), .val (.int 2), .val (.ref ba), .val (.int 2), .val (.int 3), .val (.int 2), .val (.int c2)]) X12 hx rfl (hb hby d7_13) rfl ?_
 refine og_iload X12 hx rfl (hb hby d7_15) rfl ?_
 refine og_sipush (v := (255 : Int32)) X12 hx rfl (hb hby d7_17) rfl ?_
 refine og_icmp_le (pc1 := 26) (pc2 := 23) X12 hx (hb hby d7_20) (by decide) (by decide) rfl (fun _ => ?_) (fun q => absurd q hb2)
 refine og_aloadN X12 hx rfl rfl (hb hby d7_26) rfl ?_
 refine og_iloadN X12 hx rfl (hb hby d7_27) rfl ?_
 refine og_iload X12 hx rfl (hb hby d7_28) rfl ?_
 refine og_i2b X12 hx (hb hby d7_30) rfl ?_
 refine og_bastore X12 hx hZ e12 V_ba ⟨by decide, by decide⟩ 2 (by decide) (Nat.le_of_ble_eq_true rfl) (hb hby d7_31) rfl (fun T13 h13 X13 e13 W13 V13 => ?_)
 have V_ca := V_ca.other W13 ne_ca_ba; have O := O.wr W13 g_ba; have K := K.wr W13 (Or.inl (List.mem_of_getElem? (i := 0) rfl))
 have N := Fr.snoc X13 N g_ba
 have V_ba : Arv Z h13 ba kb .byte (3 : Int32) [(.int c0.toInt8.toInt32), (.int c1.toInt8.toInt32), (.int (nar .byte (c2.toInt8.toInt32)))] (.int 0) := V13
 rw [own_nb] at V_ba
 refine og_iinc (L' := #[.val (.ref ca), .val (.int 3), .val (.ref ba), .val (.int 2), .val (.int 3), .val (.int 2), .val (.int c2)]) (w := (1 : Int32)) X13 hx rfl rfl rfl (hb hby d7_32) rfl ?_
 refine og_iinc (L' := #[.val (.ref ca), .val (.int 3), .val (.ref ba), .val (.int 3), .val (.int 3), .val (.int 2), .val (.int c2)]) (w := (1 : Int32)) X13 hx rfl rfl rfl (hb hby d7_35) rfl ?_
 refine og_iinc (L' := #[.val (.ref ca), .val (.int 3), .val (.ref ba), .val (.int 3), .val (.int 3), .val (.int 3), .val (.int c2)]) (w := (1 : Int32)) X13 hx rfl rfl rfl (hb hby d7_38) rfl ?_
 refine og_goto (pc' := 3) X13 hx (hb hby d7_41) (by decide) (by decide) ?_
 refine og_iload X13 hx rfl (hb hby d7_3) rfl ?_
 refine og_iload X13 hx rfl (hb hby d7_5) rfl ?_
 refine og_icmp_ge (pc1 := 44) (pc2 := 10) X13 hx (hb hby d7_7) (by decide) (by decide) rfl (fun _ => ?_) (fun q => absurd q (by decide))
 refine og_iload X13 hx rfl (hb hby d7_44) rfl ?_
 refine og_retI X13 hx hlk hret (hb hby d7_46) (by decide) (by decide) ?_
 rw [e13]; exact ⟨rfl, N, K, V_ba⟩
theorem rm_c1_3 (l : Launch) (Z : State) (a0 : Array Value) (hw : HW a0 Z) (ca : Addr) (kc : ClassId) (c0 c1 c2 : Int32) (hb0 : ¬ 255 < c0) (hb1 : ¬ 255 < c1) (hb2 : ¬ 255 < c2) (h0 : Heap) (n0 : Nat) (O : Old Z n0 h0) (V_ca : Arv Z h0 ca kc .char (3 : Int32) [(.int c0), (.int c1), (.int c2)] (.int 0)) :
  Con l Z (⟨"java/lang/StringUTF16", "compress", "([CII)[B"⟩ : MethodName) jdk_52_method_16_code 6 (some (.array .byte)) ({ frames := 1, cells := 1, slots := 3, locals := 18 } : Room) #[(.ref ca), (.int 0), (.int 3)] h0 (fun v h L => ∃ b k, v = some (.ref b) ∧ Fr n0 L ∧ Keep h0 h [] ∧ h0.size ≤ b ∧ Arv Z h b k .byte (3 : Int32) [(.int c0.toInt8.toInt32), (.int c1.toInt8.toInt32), (.int c2.toInt8.toInt32)] (.int 0)) := by
 refine own_startC opn_6 ?_
 intro p e s m below meth c T0 X0 hx hby hml hZ hown hnm hret hlk e0
 have N := Fr.nil n0; have K := Keep.refl h0 []
 refine OG.cast (oef3 m ca (0 : Int32) (3 : Int32)) ?_
 refine og_iloadN X0 hx rfl (hb hby d6_0) rfl ?_
 refine og_newarray (pc' := 3) (cells' := 1) (slots' := 3) (cap := 3) (ty := .byte) X0 hx hZ rfl (ow23 hw) e0 (by decide) (by decide) (by decide) (hb hby d6_1) rfl rfl rfl (by decide) (by decide) (fun T11 h11 nb11 kA11 X11 e11 E11 q11 V_nb11 => ?_)
 have s_nb11 : h0.size ≤ nb11 := Nat.le_of_eq q11.symm; have g_nb11 : n0 ≤ nb11 := Nat.le_trans (own_n0 O) s_nb11; have sz_nb11 : h0.size ≤ nb11 := Nat.le_trans K.1 s_nb11; have ne_ca_nb11 : ca ≠ nb11 := Nat.ne_of_lt (Nat.lt_of_lt_of_le V_ca.lt s_nb11)
 have V_ca := V_ca.ext E11; have O := O.ext E11; have K := K.ext E11
 have V_nb11 : Arv Z h11 nb11 kA11 .byte (3 : Int32) [(.int 0), (.int 0), (.int 0)] (.int 0) := V_nb11.pad (pad_rep [] (.int 0) 3)
 refine og_astoreN (L' := #[.val (.ref ca), .val (.int 0), .val (.int 3), .val (.ref nb11), .unset, .unset]) X11 hx rfl rfl (hb hby d6_3) rfl ?_
 refine og_aloadN X11 hx rfl rfl (hb hby d6_4) rfl ?_
 refine og_iloadN X11 hx rfl (hb hby d6_5) rfl ?_
 refine og_aloadN X11 hx rfl rfl (hb hby d6_6) rfl ?_
 refine og_iconst (v := (0 : Int32)) X11 hx rfl (hb hby d6_7) rfl ?_
 refine og_iloadN X11 hx rfl (hb hby d6_8) rfl ?_
 refine og_static (pc' := 12) (cells' := 1) (slots' := 3) (W := 0) X11 hx hZ (rm_c2_3 l Z a0 hw ca nb11 kc kA11 c0 c1 c2 hb0 hb1 hb2 h11 n0 O V_ca V_nb11 g_nb11 ne_ca_nb11) hown (ow35 hw) (ow36 hw) (ow33 hw) (ow37 hw) (by decide) (by rw [hml]; rfl) e11 opd_1 [(.ref ca), (.int 0), (.ref nb11), (.int 0), (.int 3)] [] rfl rfl rfl rfl (by decide) (by decide) rfl rfl (by decide) (by decide) (hb hby d6_9) rfl (fun v12 T12 h12 L12 X12 e12 z12 => ?_)
 obtain ⟨rfl, Nq12, K12, V_nb11'⟩ := z12; have N := Fr.app N Nq12
 have V_ca := V_ca.keep K12 (ninS ne_ca_nb11 nin0); have O := O.keep K12 (allS g_nb11 all0); have K := K.trans K12 (allS (Or.inr sz_nb11) all0)
 have V_nb11 := V_nb11'
 refine og_istore (L' := #[.val (.ref ca), .val (.int 0), .val (.int 3), .val (.ref nb11), .val (.int 3), .unset]) X12 hx rfl (hb hby d6_12) rfl ?_
 refine og_iload X12 hx rfl (hb hby d6_14) rfl ?_
 refine og_iloadN X12 hx rfl (hb hby d6_16) rfl ?_
 refine og_icmp_eq (pc1 := 57) (pc2 := 20) X12 hx (hb hby d6_17) (by decide) (by decide) rfl (fun _ => ?_) (fun q => absurd q (by decide))
 refine og_aloadN X12 hx rfl rfl (hb hby d6_57) rfl ?_
 refine og_retR X12 hx hlk hret rfl rfl rfl (hb hby d6_58) (by decide) (by decide) ?_
 rw [e12]; exact ⟨_, _, rfl, N, K, sz_nb11, V_nb11⟩
theorem rm_cfa_3 (l : Launch) (Z : State) (a0 : Array Value) (hw : HW a0 Z) (ba : Addr) (kb : ClassId) (vs : List Value) (h0 : Heap) (n0 : Nat) (O : Old Z n0 h0) (V_ba : Arv Z h0 ba kb .byte (3 : Int32) vs (.int 0)) :
  Con l Z (⟨"java/lang/StringUTF16", "coderFromArrayLen", "([BI)B"⟩ : MethodName) jdk_52_method_15_code 2 (some .byte) ({ frames := 0, cells := 0, slots := 0, locals := 0 } : Room) #[(.ref ba), (.int 3)] h0 (fun v h L => v = some (.int 0) ∧ Fr n0 L ∧ h = h0) := by
 refine own_startC opn_8 ?_
 intro p e s m below meth c T0 X0 hx hby hml hZ hown hnm hret hlk e0
 have N := Fr.nil n0; have K := Keep.refl h0 []
 refine OG.cast (oef4 m ba (3 : Int32)) ?_
 refine og_iloadN X0 hx rfl (hb hby d8_0) rfl ?_
 refine og_aloadN X0 hx rfl rfl (hb hby d8_1) rfl ?_
 refine og_arraylength X0 hx hZ e0 V_ba (hb hby d8_2) rfl ?_
 refine og_isub X0 hx (hb hby d8_3) rfl ?_
 show OG p e below _ (T0.setTop (mkF m 4 #[.val (.ref ba), .val (.int 3)] [(.int 0)]))
 refine og_bipush (v := (31 : Int32)) X0 hx rfl (hb hby d8_4) rfl ?_
 refine og_iushr X0 hx (hb hby d8_6) rfl ?_
 show OG p e below _ (T0.setTop (mkF m 7 #[.val (.ref ba), .val (.int 3)] [(.int 0)]))
 refine og_i2b X0 hx (hb hby d8_7) rfl ?_
 show OG p e below _ (T0.setTop (mkF m 8 #[.val (.ref ba), .val (.int 3)] [(.int 0)]))
 refine og_retN X0 hx hlk hret (by simp) (hb hby d8_8) (by decide) (by decide) ?_
 rw [e0]; exact ⟨rfl, N, rfl⟩
theorem rm_sv_3 (l : Launch) (Z : State) (a0 : Array Value) (hw : HW a0 Z) (a1 ca : Addr) (kc : ClassId) (c0 c1 c2 : Int32) (hb0 : ¬ 255 < c0) (hb1 : ¬ 255 < c1) (hb2 : ¬ 255 < c2) (cs : Int32) (hcs : ¬ cs = 0) (h0 : Heap) (n0 : Nat) (O : Old Z n0 h0) (E_a1 : Exa Z h0 a1 "java/lang/String") (F_value_a1 : Fld Z h0 a1 "java/lang/String" "value" "[B" .null) (F_coder_a1 : Fld Z h0 a1 "java/lang/String" "coder" "B" (.int 0)) (V_ca : Arv Z h0 ca kc .char (3 : Int32) [(.int c0), (.int c1), (.int c2)] (.int 0)) (S_CS : Sta Z Z.heap "java/lang/String" "COMPACT_STRINGS" "Z" (.int cs)) (g_a1 : n0 ≤ a1) (ne_ca_a1 : ca ≠ a1) :
  Con l Z (⟨"java/lang/String", "<init>", "([CIILjava/lang/Void;)V"⟩ : MethodName) jdk_42_method_149_code 6 none ({ frames := 2, cells := 1, slots := 3, locals := 35 } : Room) #[(.ref a1), (.ref ca), (.int 0), (.int 3), .null] h0 (fun v h L => ∃ b k, v = none ∧ Fr n0 L ∧ Keep h0 h [a1] ∧ h0.size ≤ b ∧ Exa Z h a1 "java/lang/String" ∧ Fld Z h a1 "java/lang/String" "value" "[B" (.ref b) ∧ Fld Z h a1 "java/lang/String" "coder" "B" (.int 0) ∧ Arv Z h b k .byte (3 : Int32) [(.int c0.toInt8.toInt32), (.int c1.toInt8.toInt32), (.int c2.toInt8.toInt32)] (.int 0)) := by
 refine own_startC opn_4 ?_
 intro p e s m below meth c T0 X0 hx hby hml hZ hown hnm hret hlk e0
 have N := Fr.nil n0; have K := Keep.refl h0 [a1]
 refine OG.cast (oef0 m a1 ca (0 : Int32) (3 : Int32)) ?_
 refine og_aloadN X0 hx rfl rfl (hb hby d4_0) rfl ?_
 refine og_initO (pc' := 4) X0 hx hZ (W := 0) (by rw [hml]; rfl) hown (ow19 hw) (ow20 hw) (ow21 hw) e0 rfl (by decide) (by decide) (hb hby d4_1) rfl (fun T11 X11 e11 => ?_)
 refine og_iloadN X11 hx rfl (hb hby d4_4) rfl ?_
 refine og_if_ne (pc1 := 27) (pc2 := 8) X11 hx (hb hby d4_5) (by decide) (by decide) rfl (fun _ => ?_) (fun q => absurd q (by decide))
 refine og_getstatic X11 hx hZ (host := "") hown (Or.inl (ow30 hw)) Via.refl e11 (S_CS.ext O.2) (hb hby d4_27) rfl (fun T12 X12 e12 => ?_)
 refine og_if_eq (pc1 := 58) (pc2 := 33) X12 hx (hb hby d4_30) (by decide) (by decide) rfl (fun q => absurd q hcs) (fun _ => ?_)
 refine og_aloadN X12 hx rfl rfl (hb hby d4_33) rfl ?_
 refine og_iloadN X12 hx rfl (hb hby d4_34) rfl ?_
 refine og_iloadN X12 hx rfl (hb hby d4_35) rfl ?_
 refine og_static (pc' := 39) (cells' := 1) (slots' := 3) (W := 0) X12 hx hZ (rm_c1_3 l Z a0 hw ca kc c0 c1 c2 hb0 hb1 hb2 h0 n0 O V_ca) hown (ow31 hw) (ow32 hw) (ow33 hw) (ow34 hw) (by decide) (by rw [hml]; rfl) e12 opd_2 [(.ref ca), (.int 0), (.int 3)] [] rfl rfl rfl rfl (by decide) (by decide) rfl rfl (by decide) (by decide) (hb hby d4_36) rfl (fun v13 T13 h13 L13 X13 e13 z13 => ?_)
 obtain ⟨nb13, k13, rfl, Nq13, K13, sb13, V_nb13⟩ := z13; have N := Fr.app N Nq13
 have s_nb13 : h0.size ≤ nb13 := sb13; have g_nb13 : n0 ≤ nb13 := Nat.le_trans (own_n0 O) s_nb13; have sz_nb13 : h0.size ≤ nb13 := Nat.le_trans K.1 s_nb13; have ne_a1_nb13 : a1 ≠ nb13 := Nat.ne_of_lt (Nat.lt_of_lt_of_le E_a1.lt s_nb13); have ne_ca_nb13 : ca ≠ nb13 := Nat.ne_of_lt (Nat.lt_of_lt_of_le V_ca.lt s_nb13)
 have E_a1 := E_a1.keep K13; have F_value_a1 := F_value_a1.keep K13 nin0; have F_coder_a1 := F_coder_a1.keep K13 nin0; have V_ca := V_ca.keep K13 nin0; have O := O.keep K13 all0; have K := K.trans K13 all0
 refine og_astore (L' := #[.val (.ref a1), .val (.ref ca), .val (.int 0), .val (.int 3), .val .null, .val (.ref nb13)]) X13 hx rfl rfl (hb hby d4_39) rfl ?_
 refine og_aloadN X13 hx rfl rfl (hb hby d4_41) rfl ?_
 refine og_aload X13 hx rfl rfl (hb hby d4_42) rfl ?_
 refine og_iloadN X13 hx rfl (hb hby d4_44) rfl ?_
 refine og_static (pc' := 48) (cells' := 1) (slots' := 3) (W := 1) X13 hx hZ (rm_cfa_3 l Z a0 hw nb13 k13 _ h13 n0 O V_nb13) hown (ow38 hw) (ow39 hw) (ow33 hw) (ow40 hw) (by decide) (by rw [hml]; rfl) e13 opd_3 [(.ref nb13), (.int 3)] [(.ref a1)] rfl rfl rfl rfl (by decide) (by decide) rfl rfl (by decide) (by decide) (hb hby d4_45) rfl (fun v14 T14 h14 L14 X14 e14 z14 => ?_)
 obtain ⟨rfl, Nq14, hq14⟩ := z14; replace e14 := e14.trans hq14; have N := Fr.app N Nq14
 refine og_putfield X14 hx hZ (ty := .byte) (host := "") hown (Or.inl (ow29 hw)) Via.refl e14 F_coder_a1 E_a1 (Or.inr ⟨(ow25 hw), rfl, hnm⟩) (ow10 hw) (by decide) rfl rfl (hb hby d4_48) rfl (fun T15 h15 X15 e15 W15 => ?_)
 have F_coder_a1_ := F_coder_a1.same W15
 have E_a1 := E_a1.wr W15; have F_value_a1 := F_value_a1.other W15 (Or.inr (slot_ne (Or.inr (ow24 hw)) (Or.inr (ow25 hw)) (by decide) (t := (.array .byte)) (t' := .byte) (by decide) (by decide))); have V_ca := V_ca.other W15 ne_ca_a1; have V_nb13 := V_nb13.other W15 (Ne.symm ne_a1_nb13); have O := O.wr W15 g_a1; have K := K.wr W15 (Or.inl (List.mem_of_getElem? (i := 0) rfl))
 have N := Fr.snoc X15 N g_a1; have F_coder_a1 := F_coder_a1_
 refine og_aloadN X15 hx rfl rfl (hb hby d4_51) rfl ?_
 refine og_aload X15 hx rfl rfl (hb hby d4_52) rfl ?_
 refine og_putfield X15 hx hZ (ty := (.array .byte)) (host := "") hown (Or.inl (ow28 hw)) Via.refl e15 F_value_a1 E_a1 (Or.inr ⟨(ow24 hw), rfl, hnm⟩) (ow10 hw) (by decide) rfl rfl (hb hby d4_54) rfl (fun T16 h16 X16 e16 W16 => ?_)
 have F_value_a1_ := F_value_a1.same W16
 have E_a1 := E_a1.wr W16; have V_ca := V_ca.other W16 ne_ca_a1; have V_nb13 := V_nb13.other W16 (Ne.symm ne_a1_nb13); have F_coder_a1 := F_coder_a1.other W16 (Or.inr (slot_ne (Or.inr (ow25 hw)) (Or.inr (ow24 hw)) (by decide) (t := .byte) (t' := (.array .byte)) (by decide) (by decide))); have O := O.wr W16 g_a1; have K := K.wr W16 (Or.inl (List.mem_of_getElem? (i := 0) rfl))
 have N := Fr.snoc X16 N g_a1; have F_value_a1 := F_value_a1_
 refine og_retV X16 hx hlk hret (hb hby d4_57) (by decide) (by decide) ?_
 rw [e16]; exact ⟨_, _, rfl, N, K, sz_nb13, E_a1, F_value_a1, F_coder_a1, V_nb13⟩
theorem rm_sn_3 (l : Launch) (Z : State) (a0 : Array Value) (hw : HW a0 Z) (a1 ca : Addr) (kc : ClassId) (c0 c1 c2 : Int32) (hb0 : ¬ 255 < c0) (hb1 : ¬ 255 < c1) (hb2 : ¬ 255 < c2) (cs : Int32) (hcs : ¬ cs = 0) (h0 : Heap) (n0 : Nat) (O : Old Z n0 h0) (E_a1 : Exa Z h0 a1 "java/lang/String") (F_value_a1 : Fld Z h0 a1 "java/lang/String" "value" "[B" .null) (F_coder_a1 : Fld Z h0 a1 "java/lang/String" "coder" "B" (.int 0)) (V_ca : Arv Z h0 ca kc .char (3 : Int32) [(.int c0), (.int c1), (.int c2)] (.int 0)) (S_CS : Sta Z Z.heap "java/lang/String" "COMPACT_STRINGS" "Z" (.int cs)) (g_a1 : n0 ≤ a1) (ne_ca_a1 : ca ≠ a1) :
  Con l Z (⟨"java/lang/String", "<init>", "([C)V"⟩ : MethodName) jdk_42_method_3_code 2 none ({ frames := 3, cells := 1, slots := 3, locals := 52 } : Room) #[(.ref a1), (.ref ca)] h0 (fun v h L => ∃ b k, v = none ∧ Fr n0 L ∧ Keep h0 h [a1] ∧ h0.size ≤ b ∧ Exa Z h a1 "java/lang/String" ∧ Fld Z h a1 "java/lang/String" "value" "[B" (.ref b) ∧ Fld Z h a1 "java/lang/String" "coder" "B" (.int 0) ∧ Arv Z h b k .byte (3 : Int32) [(.int c0.toInt8.toInt32), (.int c1.toInt8.toInt32), (.int c2.toInt8.toInt32)] (.int 0)) := by
 refine own_startC opn_3 ?_
 intro p e s m below meth c T0 X0 hx hby hml hZ hown hnm hret hlk e0
 have N := Fr.nil n0; have K := Keep.refl h0 [a1]
 refine OG.cast (oef1 m a1 ca) ?_
 refine og_aloadN X0 hx rfl rfl (hb hby d3_0) rfl ?_
 refine og_aloadN X0 hx rfl rfl (hb hby d3_1) rfl ?_
 refine og_iconst (v := (0 : Int32)) X0 hx rfl (hb hby d3_2) rfl ?_
 refine og_aloadN X0 hx rfl rfl (hb hby d3_3) rfl ?_
 refine og_arraylength X0 hx hZ e0 V_ca (hb hby d3_4) rfl ?_
 refine og_aconst_null X0 hx (hb hby d3_5) rfl ?_
 refine og_special (pc' := 9) (cells' := 1) (slots' := 3) (W := 0) X0 hx hZ (rm_sv_3 l Z a0 hw a1 ca kc c0 c1 c2 hb0 hb1 hb2 cs hcs h0 n0 O E_a1 F_value_a1 F_coder_a1 V_ca S_CS g_a1 ne_ca_a1) rfl hown (ow15 hw) (ow16 hw) (ow11 hw) (ow18 hw) (by decide) (by rw [hml]; rfl) e0 opd_0 [(.ref ca), (.int 0), (.int 3), .null] [] rfl rfl rfl rfl (by decide) (by decide) rfl rfl (by decide) (by decide) (hb hby d3_6) rfl (fun v11 T11 h11 L11 X11 e11 z11 => ?_)
 obtain ⟨nb11, k11, rfl, Nq11, K11, sb11, E_a1', F_value_a1', F_coder_a1', V_nb11⟩ := z11; have N := Fr.app N Nq11
 have s_nb11 : h0.size ≤ nb11 := sb11; have g_nb11 : n0 ≤ nb11 := Nat.le_trans (own_n0 O) s_nb11; have sz_nb11 : h0.size ≤ nb11 := Nat.le_trans K.1 s_nb11; have ne_a1_nb11 : a1 ≠ nb11 := Nat.ne_of_lt (Nat.lt_of_lt_of_le E_a1.lt s_nb11); have ne_ca_nb11 : ca ≠ nb11 := Nat.ne_of_lt (Nat.lt_of_lt_of_le V_ca.lt s_nb11)
 have E_a1 := E_a1.keep K11; have V_ca := V_ca.keep K11 (ninS ne_ca_a1 nin0); have O := O.keep K11 (allS g_a1 all0); have K := K.trans K11 (allS (Or.inl (List.mem_of_getElem? (i := 0) rfl)) all0)
 have E_a1 := E_a1'; have F_value_a1 := F_value_a1'; have F_coder_a1 := F_coder_a1'
 refine og_retV X11 hx hlk hret (hb hby d3_9) (by decide) (by decide) ?_
 rw [e11]; exact ⟨_, _, rfl, N, K, sz_nb11, E_a1, F_value_a1, F_coder_a1, V_nb11⟩
theorem rm_c2_4 (l : Launch) (Z : State) (a0 : Array Value) (hw : HW a0 Z) (ca ba : Addr) (kc kb : ClassId) (c0 c1 c2 c3 : Int32) (hb0 : ¬ 255 < c0) (hb1 : ¬ 255 < c1) (hb2 : ¬ 255 < c2) (hb3 : ¬ 255 < c3) (h0 : Heap) (n0 : Nat) (O : Old Z n0 h0) (V_ca : Arv Z h0 ca kc .char (4 : Int32) [(.int c0), (.int c1), (.int c2), (.int c3)] (.int 0)) (V_ba : Arv Z h0 ba kb .byte (4 : Int32) [(.int 0), (.int 0), (.int 0), (.int 0)] (.int 0)) (g_ba : n0 ≤ ba) (ne_ca_ba : ca ≠ ba) :
  Con l Z (⟨"java/lang/StringUTF16", "compress", "([CI[BII)I"⟩ : MethodName) jdk_52_method_21_code 7 (some .int) ({ frames := 0, cells := 0, slots := 0, locals := 0 } : Room) #[(.ref ca), (.int 0), (.ref ba), (.int 0), (.int 4)] h0 (fun v h L => v = some (.int 4) ∧ Fr n0 L ∧ Keep h0 h [ba] ∧ Arv Z h ba kb .byte (4 : Int32) [(.int c0.toInt8.toInt32), (.int c1.toInt8.toInt32), (.int c2.toInt8.toInt32), (.int c3.toInt8.toInt32)] (.int 0)) := by
 refine own_startC opn_7 ?_
 intro p e s m below meth c T0 X0 hx hby hml hZ hown hnm hret hlk e0
 have N := Fr.nil n0; have K := Keep.refl h0 [ba]
 refine OG.cast (oef2 m ca (0 : Int32) ba (0 : Int32) (4 : Int32)) ?_
 refine og_iconst (v := (0 : Int32)) X0 hx rfl (hb hby d7_0) rfl ?_
 refine og_istore (L' := #[.val (.ref ca), .val (.int 0), .val (.ref ba), .val (.int 0), .val (.int 4), .val (.int 0), .unset]) X0 hx rfl (hb hby d7_1) rfl ?_
 refine og_iload X0 hx rfl (hb hby d7_3) rfl ?_
 refine og_iload X0 hx rfl (hb hby d7_5) rfl ?_
 refine og_icmp_ge (pc1 := 44) (pc2 := 10) X0 hx (hb hby d7_7) (by decide) (by decide) rfl (fun q => absurd q (by decide)) (fun _ => ?_)
 refine og_aloadN X0 hx rfl rfl (hb hby d7_10) rfl ?_
 refine og_iloadN X0 hx rfl (hb hby d7_11) rfl ?_
 refine og_caload (v := (.int c0)) X0 hx hZ e0 V_ca ⟨by decide, by decide⟩ rfl (hb hby d7_12) rfl ?_
 refine og_istore (L' := #[.val (.ref ca), .val (.int 0), .val (.ref ba), .val (.int 0), .val (.int 4), .val (.int 0), .val (.int c0)]) X0 hx rfl (hb hby d7_13) rfl ?_
 refine og_iload X0 hx rfl (hb hby d7_15) rfl ?_
 refine og_sipush (v := (255 : Int32)) X0 hx rfl (hb hby d7_17) rfl ?_
 refine og_icmp_le (pc1 := 26) (pc2 := 23) X0 hx (hb hby d7_20) (by decide) (by decide) rfl (fun _ => ?_) (fun q => absurd q hb0)
 refine og_aloadN X0 hx rfl rfl (hb hby d7_26) rfl ?_
 refine og_iloadN X0 hx rfl (hb hby d7_27) rfl ?_
 refine og_iload X0 hx rfl (hb hby d7_28) rfl ?_
 refine og_i2b X0 hx (hb hby d7_30) rfl ?_
 refine og_bastore X0 hx hZ e0 V_ba ⟨by decide, by decide⟩ 0 (by decide) (Nat.le_of_ble_eq_true rfl) (hb hby d7_31) rfl (fun T11 h11 X11 e11 W11 V11 => ?_)
 have V_ca := V_ca.other W11 ne_ca_ba; have O := O.wr W11 g_ba; have K := K.wr W11 (Or.inl (List.mem_of_getElem? (i := 0) rfl))
 have N := Fr.snoc X11 N g_ba
 have V_ba : Arv Z h11 ba kb .byte (4 : Int32) [(.int (nar .byte (c0.toInt8.toInt32))), (.int 0), (.int 0), (.int 0)] (.int 0) := V11
 rw [own_nb] at V_ba
 refine og_iinc (L' := #[.val (.ref ca), .val (.int 1), .val (.ref ba), .val (.int 0), .val (.int 4), .val (.int 0), .val (.int c0)]) (w := (1 : Int32)) X11 hx rfl rfl rfl (hb hby d7_32) rfl ?_
 refine og_iinc (L' := #[.val (.ref ca), .val (.int 1), .val (.ref ba), .val (.int 1), .val (.int 4), .val (.int 0), .val (.int c0)]) (w := (1 : Int32)) X11 hx rfl rfl rfl (hb hby d7_35) rfl ?_
 refine og_iinc (L' := #[.val (.ref ca), .val (.int 1), .val (.ref ba), .val (.int 1), .val (.int 4), .val (.int 1), .val (.int c0)]) (w := (1 : Int32)) X11 hx rfl rfl rfl (hb hby d7_38) rfl ?_
 refine og_goto (pc' := 3) X11 hx (hb hby d7_41) (by decide) (by decide) ?_
 refine og_iload X11 hx rfl (hb hby d7_3) rfl ?_
 refine og_iload X11 hx rfl (hb hby d7_5) rfl ?_
 refine og_icmp_ge (pc1 := 44) (pc2 := 10) X11 hx (hb hby d7_7) (by decide) (by decide) rfl (fun q => absurd q (by decide)) (fun _ => ?_)
 refine og_aloadN X11 hx rfl rfl (hb hby d7_10) rfl ?_
 refine og_iloadN X11 hx rfl (hb hby d7_11) rfl ?_
 refine og_caload (v := (.int c1)) X11 hx hZ e11 V_ca ⟨by decide, by decide⟩ rfl (hb hby d7_12) rfl ?_
 refine og_istore (L' := #[.val (.ref ca), .val (.int 1), .val (.ref ba), .val (.int 1), .val (.int 4), .val (.int 1), .val (.int c1)]) X11 hx rfl (hb hby d7_13) rfl ?_
 refine og_iload X11 hx rfl (hb hby d7_15) rfl ?_
 refine og_sipush (v := (255 : Int32)) X11 hx rfl (hb hby d7_17) rfl ?_
 refine og_icmp_le (pc1 := 26) (pc2 := 23) X11 hx (hb hby d7_20) (by decide) (by decide) rfl (fun _ => ?_) (fun q => absurd q hb1)
 refine og_aloadN X11 hx rfl rfl (hb hby d7_26) rfl ?_
 refine og_iloadN X11 hx rfl (hb hby d7_27) rfl ?_
 refine og_iload X11 hx rfl (hb hby d7_28) rfl ?_
 refine og_i2b X11 hx (hb hby d7_30) rfl ?_
 refine og_bastore X11 hx hZ e11 V_ba ⟨by decide, by decide⟩ 1 (by decide) (Nat.le_of_ble_eq_true rfl) (hb hby d7_31) rfl (fun T12 h12 X12 e12 W12 V12 => ?_)
 have V_ca := V_ca.other W12 ne_ca_ba; have O := O.wr W12 g_ba; have K := K.wr W12 (Or.inl (List.mem_of_getElem? (i := 0) rfl))
 have N := Fr.snoc X12 N g_ba
 have V_ba : Arv Z h12 ba kb .byte (4 : Int32) [(.int c0.toInt8.toInt32), (.int (nar .byte (c1.toInt8.toInt32))), (.int 0), (.int 0)] (.int 0) := V12
 rw [own_nb] at V_ba
 refine og_iinc (L' := #[.val (.ref ca), .val (.int 2), .val (.ref ba), .val (.int 1), .val (.int 4), .val (.int 1), .val (.int c1)]) (w := (1 : Int32)) X12 hx rfl rfl rfl (hb hby d7_32) rfl ?_
 refine og_iinc (L' := #[.val (.ref ca), .val (.int 2), .val (.ref ba), .val (.int 2), .val (.int 4), .val (.int 1), .val (.int c1)]) (w := (1 : Int32)) X12 hx rfl rfl rfl (hb hby d7_35) rfl ?_
 refine og_iinc (L' := #[.val (.ref ca), .val (.int 2), .val (.ref ba), .val (.int 2), .val (.int 4), .val (.int 2), .val (.int c1)]) (w := (1 : Int32)) X12 hx rfl rfl rfl (hb hby d7_38) rfl ?_
 refine og_goto (pc' := 3) X12 hx (hb hby d7_41) (by decide) (by decide) ?_
 refine og_iload X12 hx rfl (hb hby d7_3) rfl ?_
 refine og_iload X12 hx rfl (hb hby d7_5) rfl ?_
 refine og_icmp_ge (pc1 := 44) (pc2 := 10) X12 hx (hb hby d7_7) (by decide) (by decide) rfl (fun q => absurd q (by decide)) (fun _ => ?_)
 refine og_aloadN X12 hx rfl rfl (hb hby d7_10) rfl ?_
 refine og_iloadN X12 hx rfl (hb hby d7_11) rfl ?_
 refine og_caload (v := (.int c2)) X12 hx hZ e12 V_ca ⟨by decide, by decide⟩ rfl (hb hby d7_12) rfl ?_
 refine og_istore (L' := #[.val (.ref ca), .val (.int 2), .val (.ref ba), .val (.int 2), .val (.int 4), .val (.int 2), .val (.int c2)]) X12 hx rfl (hb hby d7_13) rfl ?_
 refine og_iload X12 hx rfl (hb hby d7_15) rfl ?_
 refine og_sipush (v := (255 : Int32)) X12 hx rfl (hb hby d7_17) rfl ?_
 refine og_icmp_le (pc1 := 26) (pc2 := 23) X12 hx (hb hby d7_20) (by decide) (by decide) rfl (fun _ => ?_) (fun q => absurd q hb2)
 refine og_aloadN X12 hx rfl rfl (hb hby d7_26) rfl ?_
 refine og_iloadN X12 hx rfl (hb hby d7_27) rfl ?_
 refine og_iload X12 hx rfl (hb hby d7_28) rfl ?_
 refine og_i2b X12 hx (hb hby d7_30) rfl ?_
 refine og_bastore X12 hx hZ e12 V_ba ⟨by decide, by decide⟩ 2 (by decide) (Nat.le_of_ble_eq_true rfl) (hb hby d7_31) rfl (fun T13 h13 X13 e13 W13 V13 => ?_)
 have V_ca := V_ca.other W13 ne_ca_ba; have O := O.wr W13 g_ba; have K := K.wr W13 (Or.inl (List.mem_of_getElem? (i := 0) rfl))
 have N := Fr.snoc X13 N g_ba
 have V_ba : Arv Z h13 ba kb .byte (4 : Int32) [(.int c0.toInt8.toInt32), (.int c1.toInt8.toInt32), (.int (nar .byte (c2.toInt8.toInt32))), (.int 0)] (.int 0) := V13
 rw [own_nb] at V_ba
 refine og_iinc (L' := #[.val (.ref ca), .val (.int 3), .val (.ref ba), .val (.int 2), .val (.int 4), .val (.int 2), .val (.int c2)]) (w := (1 : Int32)) X13 hx rfl rfl rfl (hb hby d7_32) rfl ?_
 refine og_iinc (L' := #[.val (.ref ca), .val (.int 3), .val (.ref ba), .val (.int 3), .val (.int 4), .val (.int 2), .val (.int c2)]) (w := (1 : Int32)) X13 hx rfl rfl rfl (hb hby d7_35) rfl ?_
 refine og_iinc (L' := #[.val (.ref ca), .val (.int 3), .val (.ref ba), .val (.int 3), .val (.int 4), .val (.int 3), .val (.int c2)]) (w := (1 : Int32)) X13 hx rfl rfl rfl (hb hby d7_38) rfl ?_
 refine og_goto (pc' := 3) X13 hx (hb hby d7_41) (by decide) (by decide) ?_
 refine og_iload X13 hx rfl (hb hby d7_3) rfl ?_
 refine og_iload X13 hx rfl (hb hby d7_5) rfl ?_
 refine og_icmp_ge (pc1 := 44) (pc2 := 10) X13 hx (hb hby d7_7) (by decide) (by decide) rfl (fun q => absurd q (by decide)) (fun _ => ?_)
 refine og_aloadN X13 hx rfl rfl (hb hby d7_10) rfl ?_
 refine og_iloadN X13 hx rfl (hb hby d7_11) rfl ?_
 refine og_caload (v := (.int c3)) X13 hx hZ e13 V_ca ⟨by decide, by decide⟩ rfl (hb hby d7_12) rfl ?_
 refine og_istore (L' := #[.val (.ref ca), .val (.int 3), .val (.ref ba), .val (.int 3), .val (.int 4), .val (.int 3), .val (.int c3)]) X13 hx rfl (hb hby d7_13) rfl ?_
 refine og_iload X13 hx rfl (hb hby d7_15) rfl ?_
 refine og_sipush (v := (255 : Int32)) X13 hx rfl (hb hby d7_17) rfl ?_
 refine og_icmp_le (pc1 := 26) (pc2 := 23) X13 hx (hb hby d7_20) (by decide) (by decide) rfl (fun _ => ?_) (fun q => absurd q hb3)
 refine og_aloadN X13 hx rfl rfl (hb hby d7_26) rfl ?_
 refine og_iloadN X13 hx rfl (hb hby d7_27) rfl ?_
 refine og_iload X13 hx rfl (hb hby d7_28) rfl ?_
 refine og_i2b X13 hx (hb hby d7_30) rfl ?_
 refine og_bastore X13 hx hZ e13 V_ba ⟨by decide, by decide⟩ 3 (by decide) (Nat.le_of_ble_eq_true rfl) (hb hby d7_31) rfl (fun T14 h14 X14 e14 W14 V14 => ?_)
 have V_ca := V_ca.other W14 ne_ca_ba; have O := O.wr W14 g_ba; have K := K.wr W14 (Or.inl (List.mem_of_getElem? (i := 0) rfl))
 have N := Fr.snoc X14 N g_ba
 have V_ba : Arv Z h14 ba kb .byte (4 : Int32) [(.int c0.toInt8.toInt32), (.int c1.toInt8.toInt32), (.int c2.toInt8.toInt32), (.int (nar .byte (c3.toInt8.toInt32)))] (.int 0) := V14
 rw [own_nb] at V_ba
 refine og_iinc (L' := #[.val (.ref ca), .val (.int 4), .val (.ref ba), .val (.int 3), .val (.int 4), .val (.int 3), .val (.int c3)]) (w := (1 : Int32)) X14 hx rfl rfl rfl (hb hby d7_32) rfl ?_
 refine og_iinc (L' := #[.val (.ref ca), .val (.int 4), .val (.ref ba), .val (.int 4), .val (.int 4), .val (.int 3), .val (.int c3)]) (w := (1 : Int32)) X14 hx rfl rfl rfl (hb hby d7_35) rfl ?_
 refine og_iinc (L' := #[.val (.ref ca), .val (.int 4), .val (.ref ba), .val (.int 4), .val (.int 4), .val (.int 4), .val (.int c3)]) (w := (1 : Int32)) X14 hx rfl rfl rfl (hb hby d7_38) rfl ?_
 refine og_goto (pc' := 3) X14 hx (hb hby d7_41) (by decide) (by decide) ?_
 refine og_iload X14 hx rfl (hb hby d7_3) rfl ?_
 refine og_iload X14 hx rfl (hb hby d7_5) rfl ?_
 refine og_icmp_ge (pc1 := 44) (pc2 := 10) X14 hx (hb hby d7_7) (by decide) (by decide) rfl (fun _ => ?_) (fun q => absurd q (by decide))
 refine og_iload X14 hx rfl (hb hby d7_44) rfl ?_
 refine og_retI X14 hx hlk hret (hb hby d7_46) (by decide) (by decide) ?_
 rw [e14]; exact ⟨rfl, N, K, V_ba⟩
theorem rm_c1_4 (l : Launch) (Z : State) (a0 : Array Value) (hw : HW a0 Z) (ca : Addr) (kc : ClassId) (c0 c1 c2 c3 : Int32) (hb0 : ¬ 255 < c0) (hb1 : ¬ 255 < c1) (hb2 : ¬ 255 < c2) (hb3 : ¬ 255 < c3) (h0 : Heap) (n0 : Nat) (O : Old Z n0 h0) (V_ca : Arv Z h0 ca kc .char (4 : Int32) [(.int c0), (.int c1), (.int c2), (.int c3)] (.int 0)) :
  Con l Z (⟨"java/lang/StringUTF16", "compress", "([CII)[B"⟩ : MethodName) jdk_52_method_16_code 6 (some (.array .byte)) ({ frames := 1, cells := 1, slots := 4, locals := 18 } : Room) #[(.ref ca), (.int 0), (.int 4)] h0 (fun v h L => ∃ b k, v = some (.ref b) ∧ Fr n0 L ∧ Keep h0 h [] ∧ h0.size ≤ b ∧ Arv Z h b k .byte (4 : Int32) [(.int c0.toInt8.toInt32), (.int c1.toInt8.toInt32), (.int c2.toInt8.toInt32), (.int c3.toInt8.toInt32)] (.int 0)) := by
 refine own_startC opn_6 ?_
 intro p e s m below meth c T0 X0 hx hby hml hZ hown hnm hret hlk e0
 have N := Fr.nil n0; have K := Keep.refl h0 []
 refine OG.cast (oef3 m ca (0 : Int32) (4 : Int32)) ?_
 refine og_iloadN X0 hx rfl (hb hby d6_0) rfl ?_
 refine og_newarray (pc' := 3) (cells' := 1) (slots' := 4) (cap := 4) (ty := .byte) X0 hx hZ rfl (ow23 hw) e0 (by decide) (by decide) (by decide) (hb hby d6_1) rfl rfl rfl (by decide) (by decide) (fun T11 h11 nb11 kA11 X11 e11 E11 q11 V_nb11 => ?_)
 have s_nb11 : h0.size ≤ nb11 := Nat.le_of_eq q11.symm; have g_nb11 : n0 ≤ nb11 := Nat.le_trans (own_n0 O) s_nb11; have sz_nb11 : h0.size ≤ nb11 := Nat.le_trans K.1 s_nb11; have ne_ca_nb11 : ca ≠ nb11 := Nat.ne_of_lt (Nat.lt_of_lt_of_le V_ca.lt s_nb11)
 have V_ca := V_ca.ext E11; have O := O.ext E11; have K := K.ext E11
 have V_nb11 : Arv Z h11 nb11 kA11 .byte (4 : Int32) [(.int 0), (.int 0), (.int 0), (.int 0)] (.int 0) := V_nb11.pad (pad_rep [] (.int 0) 4)
 refine og_astoreN (L' := #[.val (.ref ca), .val (.int 0), .val (.int 4), .val (.ref nb11), .unset, .unset]) X11 hx rfl rfl (hb hby d6_3) rfl ?_
 refine og_aloadN X11 hx rfl rfl (hb hby d6_4) rfl ?_
 refine og_iloadN X11 hx rfl (hb hby d6_5) rfl ?_
 refine og_aloadN X11 hx rfl rfl (hb hby d6_6) rfl ?_
 refine og_iconst (v := (0 : Int32)) X11 hx rfl (hb hby d6_7) rfl ?_
 refine og_iloadN X11 hx rfl (hb hby d6_8) rfl ?_
 refine og_static (pc' := 12) (cells' := 1) (slots' := 4) (W := 0) X11 hx hZ (rm_c2_4 l Z a0 hw ca nb11 kc kA11 c0 c1 c2 c3 hb0 hb1 hb2 hb3 h11 n0 O V_ca V_nb11 g_nb11 ne_ca_nb11) hown (ow35 hw) (ow36 hw) (ow33 hw) (ow37 hw) (by decide) (by rw [hml]; rfl) e11 opd_1 [(.ref ca), (.int 0), (.ref nb11), (.int 0), (.int 4)] [] rfl rfl rfl rfl (by decide) (by decide) rfl rfl (by decide) (by decide) (hb hby d6_9) rfl (fun v12 T12 h12 L12 X12 e12 z12 => ?_)
 obtain ⟨rfl, Nq12, K12, V_nb11'⟩ := z12; have N := Fr.app N Nq12
 have V_ca := V_ca.keep K12 (ninS ne_ca_nb11 nin0); have O := O.keep K12 (allS g_nb11 all0); have K := K.trans K12 (allS (Or.inr sz_nb11) all0)
 have V_nb11 := V_nb11'
 refine og_istore (L' := #[.val (.ref ca), .val (.int 0), .val (.int 4), .val (.ref nb11), .val (.int 4), .unset]) X12 hx rfl (hb hby d6_12) rfl ?_
 refine og_iload X12 hx rfl (hb hby d6_14) rfl ?_
 refine og_iloadN X12 hx rfl (hb hby d6_16) rfl ?_
 refine og_icmp_eq (pc1 := 57) (pc2 := 20) X12 hx (hb hby d6_17) (by decide) (by decide) rfl (fun _ => ?_) (fun q => absurd q (by decide))
 refine og_aloadN X12 hx rfl rfl (hb hby d6_57) rfl ?_
 refine og_retR X12 hx hlk hret rfl rfl rfl (hb hby d6_58) (by decide) (by decide) ?_
 rw [e12]; exact ⟨_, _, rfl, N, K, sz_nb11, V_nb11⟩
theorem rm_cfa_4 (l : Launch) (Z : State) (a0 : Array Value) (hw : HW a0 Z) (ba : Addr) (kb : ClassId) (vs : List Value) (h0 : Heap) (n0 : Nat) (O : Old Z n0 h0) (V_ba : Arv Z h0 ba kb .byte (4 : Int32) vs (.int 0)) :
  Con l Z (⟨"java/lang/StringUTF16", "coderFromArrayLen", "([BI)B"⟩ : MethodName) jdk_52_method_15_code 2 (some .byte) ({ frames := 0, cells := 0, slots := 0, locals := 0 } : Room) #[(.ref ba), (.int 4)] h0 (fun v h L => v = some (.int 0) ∧ Fr n0 L ∧ h = h0) := by
 refine own_startC opn_8 ?_
 intro p e s m below meth c T0 X0 hx hby hml hZ hown hnm hret hlk e0
 have N := Fr.nil n0; have K := Keep.refl h0 []
 refine OG.cast (oef4 m ba (4 : Int32)) ?_
 refine og_iloadN X0 hx rfl (hb hby d8_0) rfl ?_
 refine og_aloadN X0 hx rfl rfl (hb hby d8_1) rfl ?_
 refine og_arraylength X0 hx hZ e0 V_ba (hb hby d8_2) rfl ?_
 refine og_isub X0 hx (hb hby d8_3) rfl ?_
 show OG p e below _ (T0.setTop (mkF m 4 #[.val (.ref ba), .val (.int 4)] [(.int 0)]))
 refine og_bipush (v := (31 : Int32)) X0 hx rfl (hb hby d8_4) rfl ?_
 refine og_iushr X0 hx (hb hby d8_6) rfl ?_
 show OG p e below _ (T0.setTop (mkF m 7 #[.val (.ref ba), .val (.int 4)] [(.int 0)]))
 refine og_i2b X0 hx (hb hby d8_7) rfl ?_
 show OG p e below _ (T0.setTop (mkF m 8 #[.val (.ref ba), .val (.int 4)] [(.int 0)]))
 refine og_retN X0 hx hlk hret (by simp) (hb hby d8_8) (by decide) (by decide) ?_
 rw [e0]; exact ⟨rfl, N, rfl⟩
theorem rm_sv_4 (l : Launch) (Z : State) (a0 : Array Value) (hw : HW a0 Z) (a1 ca : Addr) (kc : ClassId) (c0 c1 c2 c3 : Int32) (hb0 : ¬ 255 < c0) (hb1 : ¬ 255 < c1) (hb2 : ¬ 255 < c2) (hb3 : ¬ 255 < c3) (cs : Int32) (hcs : ¬ cs = 0) (h0 : Heap) (n0 : Nat) (O : Old Z n0 h0) (E_a1 : Exa Z h0 a1 "java/lang/String") (F_value_a1 : Fld Z h0 a1 "java/lang/String" "value" "[B" .null) (F_coder_a1 : Fld Z h0 a1 "java/lang/String" "coder" "B" (.int 0)) (V_ca : Arv Z h0 ca kc .char (4 : Int32) [(.int c0), (.int c1), (.int c2), (.int c3)] (.int 0)) (S_CS : Sta Z Z.heap "java/lang/String" "COMPACT_STRINGS" "Z" (.int cs)) (g_a1 : n0 ≤ a1) (ne_ca_a1 : ca ≠ a1) :
  Con l Z (⟨"java/lang/String", "<init>", "([CIILjava/lang/Void;)V"⟩ : MethodName) jdk_42_method_149_code 6 none ({ frames := 2, cells := 1, slots := 4, locals := 35 } : Room) #[(.ref a1), (.ref ca), (.int 0), (.int 4), .null] h0 (fun v h L => ∃ b k, v = none ∧ Fr n0 L ∧ Keep h0 h [a1] ∧ h0.size ≤ b ∧ Exa Z h a1 "java/lang/String" ∧ Fld Z h a1 "java/lang/String" "value" "[B" (.ref b) ∧ Fld Z h a1 "java/lang/String" "coder" "B" (.int 0) ∧ Arv Z h b k .byte (4 : Int32) [(.int c0.toInt8.toInt32), (.int c1.toInt8.toInt32), (.int c2.toInt8.toInt32), (.int c3.toInt8.toInt32)] (.int 0)) := by
 refine own_startC opn_4 ?_
 intro p e s m below meth c T0 X0 hx hby hml hZ hown hnm hret hlk e0
 have N := Fr.nil n0; have K := Keep.refl h0 [a1]
 refine OG.cast (oef0 m a1 ca (0 : Int32) (4 : Int32)) ?_
 refine og_aloadN X0 hx rfl rfl (hb hby d4_0) rfl ?_
 refine og_initO (pc' := 4) X0 hx hZ (W := 0) (by rw [hml]; rfl) hown (ow19 hw) (ow20 hw) (ow21 hw) e0 rfl (by decide) (by decide) (hb hby d4_1) rfl (fun T11 X11 e11 => ?_)
 refine og_iloadN X11 hx rfl (hb hby d4_4) rfl ?_
 refine og_if_ne (pc1 := 27) (pc2 := 8) X11 hx (hb hby d4_5) (by decide) (by decide) rfl (fun _ => ?_) (fun q => absurd q (by decide))
 refine og_getstatic X11 hx hZ (host := "") hown (Or.inl (ow30 hw)) Via.refl e11 (S_CS.ext O.2) (hb hby d4_27) rfl (fun T12 X12 e12 => ?_)
 refine og_if_eq (pc1 := 58) (pc2 := 33) X12 hx (hb hby d4_30) (by decide) (by decide) rfl (fun q => absurd q hcs) (fun _ => ?_)
 refine og_aloadN X12 hx rfl rfl (hb hby d4_33) rfl ?_
 refine og_iloadN X12 hx rfl (hb hby d4_34) rfl ?_
 refine og_iloadN X12 hx rfl (hb hby d4_35) rfl ?_
 refine og_static (pc' := 39) (cells' := 1) (slots' := 4) (W := 0) X12 hx hZ (rm_c1_4 l Z a0 hw ca kc c0 c1 c2 c3 hb0 hb1 hb2 hb3 h0 n0 O V_ca) hown (ow31 hw) (ow32 hw) (ow33 hw) (ow34 hw) (by decide) (by rw [hml]; rfl) e12 opd_2 [(.ref ca), (.int 0), (.int 4)] [] rfl rfl rfl rfl (by decide) (by decide) rfl rfl (by decide) (by decide) (hb hby d4_36) rfl (fun v13 T13 h13 L13 X13 e13 z13 => ?_)
 obtain ⟨nb13, k13, rfl, Nq13, K13, sb13, V_nb13⟩ := z13; have N := Fr.app N Nq13
 have s_nb13 : h0.size ≤ nb13 := sb13; have g_nb13 : n0 ≤ nb13 := Nat.le_trans (own_n0 O) s_nb13; have sz_nb13 : h0.size ≤ nb13 := Nat.le_trans K.1 s_nb13; have ne_a1_nb13 : a1 ≠ nb13 := Nat.ne_of_lt (Nat.lt_of_lt_of_le E_a1.lt s_nb13); have ne_ca_nb13 : ca ≠ nb13 := Nat.ne_of_lt (Nat.lt_of_lt_of_le V_ca.lt s_nb13)
 have E_a1 := E_a1.keep K13; have F_value_a1 := F_value_a1.keep K13 nin0; have F_coder_a1 := F_coder_a1.keep K13 nin0; have V_ca := V_ca.keep K13 nin0; have O := O.keep K13 all0; have K := K.trans K13 all0
 refine og_astore (L' := #[.val (.ref a1), .val (.ref ca), .val (.int 0), .val (.int 4), .val .null, .val (.ref nb13)]) X13 hx rfl rfl (hb hby d4_39) rfl ?_
 refine og_aloadN X13 hx rfl rfl (hb hby d4_41) rfl ?_
 refine og_aload X13 hx rfl rfl (hb hby d4_42) rfl ?_
 refine og_iloadN X13 hx rfl (hb hby d4_44) rfl ?_
 refine og_static (pc' := 48) (cells' := 1) (slots' := 4) (W := 1) X13 hx hZ (rm_cfa_4 l Z a0 hw nb13 k13 _ h13 n0 O V_nb13) hown (ow38 hw) (ow39 hw) (ow33 hw) (ow40 hw) (by decide) (by rw [hml]; rfl) e13 opd_3 [(.ref nb13), (.int 4)] [(.ref a1)] rfl rfl rfl rfl (by decide) (by decide) rfl rfl (by decide) (by decide) (hb hby d4_45) rfl (fun v14 T14 h14 L14 X14 e14 z14 => ?_)
 obtain ⟨rfl, Nq14, hq14⟩ := z14; replace e14 := e14.trans hq14; have N := Fr.app N Nq14
 refine og_putfield X14 hx hZ (ty := .byte) (host := "") hown (Or.inl (ow29 hw)) Via.refl e14 F_coder_a1 E_a1 (Or.inr ⟨(ow25 hw), rfl, hnm⟩) (ow10 hw) (by decide) rfl rfl (hb hby d4_48) rfl (fun T15 h15 X15 e15 W15 => ?_)
 have F_coder_a1_ := F_coder_a1.same W15
 have E_a1 := E_a1.wr W15; have F_value_a1 := F_value_a1.other W15 (Or.inr (slot_ne (Or.inr (ow24 hw)) (Or.inr (ow25 hw)) (by decide) (t := (.array .byte)) (t' := .byte) (by decide) (by decide))); have V_ca := V_ca.other W15 ne_ca_a1; have V_nb13 := V_nb13.other W15 (Ne.symm ne_a1_nb13); have O := O.wr W15 g_a1; have K := K.wr W15 (Or.inl (List.mem_of_getElem? (i := 0) rfl))
 have N := Fr.snoc X15 N g_a1; have F_coder_a1 := F_coder_a1_
 refine og_aloadN X15 hx rfl rfl (hb hby d4_51) rfl ?_
 refine og_aload X15 hx rfl rfl (hb hby d4_52) rfl ?_
 refine og_putfield X15 hx hZ (ty := (.array .byte)) (host := "") hown (Or.inl (ow28 hw)) Via.refl e15 F_value_a1 E_a1 (Or.inr ⟨(ow24 hw), rfl, hnm⟩) (ow10 hw) (by decide) rfl rfl (hb hby d4_54) rfl (fun T16 h16 X16 e16 W16 => ?_)
 have F_value_a1_ := F_value_a1.same W16
 have E_a1 := E_a1.wr W16; have V_ca := V_ca.other W16 ne_ca_a1; have V_nb13 := V_nb13.other W16 (Ne.symm ne_a1_nb13); have F_coder_a1 := F_coder_a1.other W16 (Or.inr (slot_ne (Or.inr (ow25 hw)) (Or.inr (ow24 hw)) (by decide) (t := .byte) (t' := (.array .byte)) (by decide) (by decide))); have O := O.wr W16 g_a1; have K := K.wr W16 (Or.inl (List.mem_of_getElem? (i := 0) rfl))
 have N := Fr.snoc X16 N g_a1; have F_value_a1 := F_value_a1_
 refine og_retV X16 hx hlk hret (hb hby d4_57) (by decide) (by decide) ?_
 rw [e16]; exact ⟨_, _, rfl, N, K, sz_nb13, E_a1, F_value_a1, F_coder_a1, V_nb13⟩
theorem rm_sn_4 (l : Launch) (Z : State) (a0 : Array Value) (hw : HW a0 Z) (a1 ca : Addr) (kc : ClassId) (c0 c1 c2 c3 : Int32) (hb0 : ¬ 255 < c0) (hb1 : ¬ 255 < c1) (hb2 : ¬ 255 < c2) (hb3 : ¬ 255 < c3) (cs : Int32) (hcs : ¬ cs = 0) (h0 : Heap) (n0 : Nat) (O : Old Z n0 h0) (E_a1 : Exa Z h0 a1 "java/lang/String") (F_value_a1 : Fld Z h0 a1 "java/lang/String" "value" "[B" .null) (F_coder_a1 : Fld Z h0 a1 "java/lang/String" "coder" "B" (.int 0)) (V_ca : Arv Z h0 ca kc .char (4 : Int32) [(.int c0), (.int c1), (.int c2), (.int c3)] (.int 0)) (S_CS : Sta Z Z.heap "java/lang/String" "COMPACT_STRINGS" "Z" (.int cs)) (g_a1 : n0 ≤ a1) (ne_ca_a1 : ca ≠ a1) :
  Con l Z (⟨"java/lang/String", "<init>", "([C)V"⟩ : MethodName) jdk_42_method_3_code 2 none ({ frames := 3, cells := 1, slots := 4, locals := 52 } : Room) #[(.ref a1), (.ref ca)] h0 (fun v h L => ∃ b k, v = none ∧ Fr n0 L ∧ Keep h0 h [a1] ∧ h0.size ≤ b ∧ Exa Z h a1 "java/lang/String" ∧ Fld Z h a1 "java/lang/String" "value" "[B" (.ref b) ∧ Fld Z h a1 "java/lang/String" "coder" "B" (.int 0) ∧ Arv Z h b k .byte (4 : Int32) [(.int c0.toInt8.toInt32), (.int c1.toInt8.toInt32), (.int c2.toInt8.toInt32), (.int c3.toInt8.toInt32)] (.int 0)) := by
 refine own_startC opn_3 ?_
 intro p e s m below meth c T0 X0 hx hby hml hZ hown hnm hret hlk e0
 have N := Fr.nil n0; have K := Keep.refl h0 [a1]
 refine OG.cast (oef1 m a1 ca) ?_
 refine og_aloadN X0 hx rfl rfl (hb hby d3_0) rfl ?_
 refine og_aloadN X0 hx rfl rfl (hb hby d3_1) rfl ?_
 refine og_iconst (v := (0 : Int32)) X0 hx rfl (hb hby d3_2) rfl ?_
 refine og_aloadN X0 hx rfl rfl (hb hby d3_3) rfl ?_
 refine og_arraylength X0 hx hZ e0 V_ca (hb hby d3_4) rfl ?_
 refine og_aconst_null X0 hx (hb hby d3_5) rfl ?_
 refine og_special (pc' := 9) (cells' := 1) (slots' := 4) (W := 0) X0 hx hZ (rm_sv_4 l Z a0 hw a1 ca kc c0 c1 c2 c3 hb0 hb1 hb2 hb3 cs hcs h0 n0 O E_a1 F_value_a1 F_coder_a1 V_ca S_CS g_a1 ne_ca_a1) rfl hown (ow15 hw) (ow16 hw) (ow11 hw) (ow18 hw) (by decide) (by rw [hml]; rfl) e0 opd_0 [(.ref ca), (.int 0), (.int 4), .null] [] rfl rfl rfl rfl (by decide) (by decide) rfl rfl (by decide) (by decide) (hb hby d3_6) rfl (fun v11 T11 h11 L11 X11 e11 z11 => ?_)
 obtain ⟨nb11, k11, rfl, Nq11, K11, sb11, E_a1', F_value_a1', F_coder_a1', V_nb11⟩ := z11; have N := Fr.app N Nq11
 have s_nb11 : h0.size ≤ nb11 := sb11; have g_nb11 : n0 ≤ nb11 := Nat.le_trans (own_n0 O) s_nb11; have sz_nb11 : h0.size ≤ nb11 := Nat.le_trans K.1 s_nb11; have ne_a1_nb11 : a1 ≠ nb11 := Nat.ne_of_lt (Nat.lt_of_lt_of_le E_a1.lt s_nb11); have ne_ca_nb11 : ca ≠ nb11 := Nat.ne_of_lt (Nat.lt_of_lt_of_le V_ca.lt s_nb11)
 have E_a1 := E_a1.keep K11; have V_ca := V_ca.keep K11 (ninS ne_ca_a1 nin0); have O := O.keep K11 (allS g_a1 all0); have K := K.trans K11 (allS (Or.inl (List.mem_of_getElem? (i := 0) rfl)) all0)
 have E_a1 := E_a1'; have F_value_a1 := F_value_a1'; have F_coder_a1 := F_coder_a1'
 refine og_retV X11 hx hlk hret (hb hby d3_9) (by decide) (by decide) ?_
 rw [e11]; exact ⟨_, _, rfl, N, K, sz_nb11, E_a1, F_value_a1, F_coder_a1, V_nb11⟩
theorem rm_cod (l : Launch) (Z : State) (a0 : Array Value) (hw : HW a0 Z) (a1 : Addr) (cs : Int32) (hcs : ¬ cs = 0) (h0 : Heap) (n0 : Nat) (O : Old Z n0 h0) (F_coder_a1 : Fld Z h0 a1 "java/lang/String" "coder" "B" (.int 0)) (S_CS : Sta Z Z.heap "java/lang/String" "COMPACT_STRINGS" "Z" (.int cs)) :
  Con l Z (⟨"java/lang/String", "coder", "()B"⟩ : MethodName) jdk_42_method_152_code 1 (some .byte) ({ frames := 0, cells := 0, slots := 0, locals := 0 } : Room) #[(.ref a1)] h0 (fun v h L => v = some (.int 0) ∧ Fr n0 L ∧ h = h0) := by
 refine own_startC opn_15 ?_
 intro p e s m below meth c T0 X0 hx hby hml hZ hown hnm hret hlk e0
 have N := Fr.nil n0; have K := Keep.refl h0 []
 refine OG.cast (oef5 m a1) ?_
 refine og_getstatic X0 hx hZ (host := "") hown (Or.inl (ow30 hw)) Via.refl e0 (S_CS.ext O.2) (hb hby d15_0) rfl (fun T11 X11 e11 => ?_)
 refine og_if_eq (pc1 := 13) (pc2 := 6) X11 hx (hb hby d15_3) (by decide) (by decide) rfl (fun q => absurd q hcs) (fun _ => ?_)
 refine og_aloadN X11 hx rfl rfl (hb hby d15_6) rfl ?_
 refine og_getfield X11 hx hZ (host := "") hown (Or.inl (ow29 hw)) Via.refl e11 F_coder_a1 (hb hby d15_7) rfl (fun T12 X12 e12 => ?_)
 refine og_goto (pc' := 14) X12 hx (hb hby d15_10) (by decide) (by decide) ?_
 refine og_retN X12 hx hlk hret (by simp) (hb hby d15_14) (by decide) (by decide) ?_
 rw [e12]; exact ⟨rfl, N, rfl⟩
theorem rm_len (l : Launch) (Z : State) (a0 : Array Value) (hw : HW a0 Z) (a1 ba : Addr) (kb : ClassId) (nn : Int32) (vs : List Value) (cs : Int32) (hcs : ¬ cs = 0) (h0 : Heap) (n0 : Nat) (O : Old Z n0 h0) (E_a1 : Exa Z h0 a1 "java/lang/String") (F_value_a1 : Fld Z h0 a1 "java/lang/String" "value" "[B" (.ref ba)) (F_coder_a1 : Fld Z h0 a1 "java/lang/String" "coder" "B" (.int 0)) (V_ba : Arv Z h0 ba kb .byte nn vs (.int 0)) (S_CS : Sta Z Z.heap "java/lang/String" "COMPACT_STRINGS" "Z" (.int cs)) :
  Con l Z (⟨"java/lang/String", "length", "()I"⟩ : MethodName) jdk_42_method_54_code 1 (some .int) ({ frames := 1, cells := 0, slots := 0, locals := 13 } : Room) #[(.ref a1)] h0 (fun v h L => v = some (.int nn) ∧ Fr n0 L ∧ h = h0) := by
 refine own_startC opn_14 ?_
 intro p e s m below meth c T0 X0 hx hby hml hZ hown hnm hret hlk e0
 have N := Fr.nil n0; have K := Keep.refl h0 []
 refine OG.cast (oef5 m a1) ?_
 refine og_aloadN X0 hx rfl rfl (hb hby d14_0) rfl ?_
 refine og_getfield X0 hx hZ (host := "") hown (Or.inl (ow28 hw)) Via.refl e0 F_value_a1 (hb hby d14_1) rfl (fun T11 X11 e11 => ?_)
 refine og_arraylength X11 hx hZ e11 V_ba (hb hby d14_4) rfl ?_
 refine og_aloadN X11 hx rfl rfl (hb hby d14_5) rfl ?_
 refine og_virtual (pc' := 9) (cells' := 0) (slots' := 0) (W := 1) X11 hx hZ (rm_cod l Z a0 hw a1 cs hcs h0 n0 O F_coder_a1 S_CS) hown (ow70 hw) (ow71 hw) (own_nf hZ (ow73 hw)) (ow73 hw) (ow72 hw) (ow11 hw) (ow74 hw) (by decide) (by rw [hml]; rfl) e11 opd_4 [] [(.int nn)] rfl rfl rfl rfl (by decide) (by decide) rfl rfl (by decide) (by decide) E_a1 (hb hby d14_6) rfl (fun v12 T12 h12 L12 X12 e12 z12 => ?_)
 obtain ⟨rfl, Nq12, hq12⟩ := z12; replace e12 := e12.trans hq12; have N := Fr.app N Nq12
 refine og_ishr X12 hx (hb hby d14_9) rfl ?_
 refine og_retI X12 hx hlk hret (hb hby d14_10) (by decide) (by decide) ?_
 rw [e12, own_shr0]; exact ⟨rfl, N, rfl⟩
theorem rm_leG (l : Launch) (Z : State) (a0 : Array Value) (hw : HW a0 Z) (b1 b2 : Addr) (k1 k2 : ClassId) (us ws : List Int32) (n1 n2 : Int32) (hn1 : n1.toNatClampNeg = us.length) (hn2 : n2.toNatClampNeg = ws.length) (hp1 : ¬ n1 < 0) (hp2 : ¬ n2 < 0) (r : Int32) (hr : r = if us = ws then 1 else 0) (h0 : Heap) (n0 : Nat) (O : Old Z n0 h0) (V_b1 : Arv Z h0 b1 k1 .byte n1 (us.map Value.int) (.int 0)) (V_b2 : Arv Z h0 b2 k2 .byte n2 (ws.map Value.int) (.int 0)) :
    Con l Z (⟨"java/lang/StringLatin1", "equals", "([B[B)Z"⟩ : MethodName) jdk_43_method_13_code 3 (some .boolean) ({ frames := 0, cells := 0, slots := 0, locals := 0 } : Room) #[(.ref b1), (.ref b2)] h0 (fun v h L => v = some (.int r) ∧ Fr n0 L ∧ h = h0) := by
  refine own_startC opn_36 ?_
  intro p e s m below meth c T0 X0 hx hby hml hZ hown hnm hret hlk e0
  have N := Fr.nil n0; have K := Keep.refl h0 []
  refine OG.cast (oef6 m b1 b2) ?_
  refine og_aloadN X0 hx rfl rfl (hb hby d36_0) rfl ?_
  refine og_arraylength X0 hx hZ e0 V_b1 (hb hby d36_1) rfl ?_
  refine og_aloadN X0 hx rfl rfl (hb hby d36_2) rfl ?_
  refine og_arraylength X0 hx hZ e0 V_b2 (hb hby d36_3) rfl ?_
  refine og_icmp_ne (pc1 := 34) (pc2 := 7) X0 hx (hb hby d36_4) (by decide) (by decide) rfl (fun hc4 => ?_) (fun hc4 => ?_)
  ·
    refine og_iconst (v := (0 : Int32)) X0 hx rfl (hb hby d36_34) rfl ?_
    refine og_retN X0 hx hlk hret (by simp) (hb hby d36_35) (by decide) (by decide) ?_
    rw [e0]; refine ⟨?_, N, rfl⟩
    show some (Value.int 0) = _
    rw [hr, if_neg (fun q => hc4 (own_len_ne q hn1 hn2 hp1 hp2))]
  ·
    have hnn : n1 = n2 := hc4
    have hle : us.length = ws.length := by rw [← hn1, ← hn2, hnn]
    refine og_iconst (v := (0 : Int32)) X0 hx rfl (hb hby d36_7) rfl ?_
    refine og_istoreN (L' := #[.val (.ref b1), .val (.ref b2), .val (.int 0)]) X0 hx rfl (hb hby d36_8) rfl ?_
    have LOOP : ∀ (k i : Nat) (T11 : State) (l11 : List Loc) (X11 : Stand p l e ({ frames := 0, cells := 0, slots := 0, locals := 0 } : Room) s m #[(.ref b1), (.ref b2)] below meth c T11 l11 0 0) (e11 : T11.heap = h0) (N : Fr n0 l11), i + k = us.length → (∀ j, j < i → us[j]? = ws[j]?) → ∀ z : Int32, (¬ z < 0 ∧ z.toNatClampNeg = i) → OG p e below (OFin s (fun v h L => v = some (.int r) ∧ Fr n0 L ∧ h = h0) 0 0) (T11.setTop (mkF m 9 #[.val (.ref b1), .val (.ref b2), .val (.int z)] [])) := by
      intro k
      induction k with
      | zero =>
        intro i T11 l11 X11 e11 N hik hj z hi
        have hlt : ¬ z < n1 := own_nlt hi hn1 (by omega)
        refine og_iloadN X11 hx rfl (hb hby d36_9) rfl ?_
        refine og_aloadN X11 hx rfl rfl (hb hby d36_10) rfl ?_
        refine og_arraylength X11 hx hZ e11 V_b1 (hb hby d36_11) rfl ?_
        refine og_icmp_ge (pc1 := 32) (pc2 := 15) X11 hx (hb hby d36_12) (by decide) (by decide) rfl (fun _ => ?_) (fun q => absurd q hlt)
        refine og_iconst (v := (1 : Int32)) X11 hx rfl (hb hby d36_32) rfl ?_
        refine og_retN X11 hx hlk hret (by simp) (hb hby d36_33) (by decide) (by decide) ?_
        rw [e11]; refine ⟨?_, N, rfl⟩
        show some (Value.int 1) = _
        rw [hr, if_pos (own_eqall hle (by omega) hj)]
      | succ k ih =>
        intro i T11 l11 X11 e11 N hik hj z hi
        have hlt : i < us.length := by omega
        have hlt1 : z < n1 := own_lt1 hi hn1 hp1 hlt
        have hlt2 : z < n2 := hnn ▸ hlt1
        refine og_iloadN X11 hx rfl (hb hby d36_9) rfl ?_
        refine og_aloadN X11 hx rfl rfl (hb hby d36_10) rfl ?_
        refine og_arraylength X11 hx hZ e11 V_b1 (hb hby d36_11) rfl ?_
        refine og_icmp_ge (pc1 := 32) (pc2 := 15) X11 hx (hb hby d36_12) (by decide) (by decide) rfl (fun q => absurd hlt1 q) (fun _ => ?_)
        refine og_aloadN X11 hx rfl rfl (hb hby d36_15) rfl ?_
        refine og_iloadN X11 hx rfl (hb hby d36_16) rfl ?_
        refine og_baload (v := (.int (us.getD i 0))) X11 hx hZ e11 V_b1 ⟨hi.1, hlt1⟩ (own_getD us hi.2) (hb hby d36_17) rfl ?_
        refine og_aloadN X11 hx rfl rfl (hb hby d36_18) rfl ?_
        refine og_iloadN X11 hx rfl (hb hby d36_19) rfl ?_
        refine og_baload (v := (.int (ws.getD i 0))) X11 hx hZ e11 V_b2 ⟨hi.1, hlt2⟩ (own_getD ws hi.2) (hb hby d36_20) rfl ?_
        refine og_icmp_eq (pc1 := 26) (pc2 := 24) X11 hx (hb hby d36_21) (by decide) (by decide) rfl (fun hc21 => ?_) (fun hc21 => ?_)
        ·
          refine og_iinc (L' := #[.val (.ref b1), .val (.ref b2), .val (.int (z + (1 : Int32)))]) (w := (1 : Int32)) X11 hx rfl rfl rfl (hb hby d36_26) rfl ?_
          refine og_goto (pc' := 9) X11 hx (hb hby d36_29) (by decide) (by decide) ?_
          exact ih (i + 1) T11 _ X11 e11 N (by omega) (own_eqstep hj hlt hle hc21) _ (own_iinc hi (by rw [← hn1] at hlt; exact hlt) hp1)
        ·
          refine og_iconst (v := (0 : Int32)) X11 hx rfl (hb hby d36_24) rfl ?_
          refine og_retN X11 hx hlk hret (by simp) (hb hby d36_25) (by decide) (by decide) ?_
          rw [e11]; refine ⟨?_, N, rfl⟩
          show some (Value.int 0) = _
          rw [hr, if_neg (fun q => hc21 (by rw [q]))]
    exact LOOP us.length 0 T0 _ X0 e0 N (by omega) (fun j hj => absurd hj (Nat.not_lt_zero j)) 0 (by decide)
theorem rm_eqG (l : Launch) (Z : State) (a0 : Array Value) (hw : HW a0 Z) (a1 a2 b1 b2 : Addr) (k1 k2 : ClassId) (us ws : List Int32) (n1 n2 : Int32) (hn1 : n1.toNatClampNeg = us.length) (hn2 : n2.toNatClampNeg = ws.length) (hp1 : ¬ n1 < 0) (hp2 : ¬ n2 < 0) (r : Int32) (hr : r = if us = ws then 1 else 0) (cs : Int32) (hcs : ¬ cs = 0) (h0 : Heap) (n0 : Nat) (O : Old Z n0 h0) (E_a1 : Exa Z h0 a1 "java/lang/String") (F_value_a1 : Fld Z h0 a1 "java/lang/String" "value" "[B" (.ref b1)) (F_coder_a1 : Fld Z h0 a1 "java/lang/String" "coder" "B" (.int 0)) (V_b1 : Arv Z h0 b1 k1 .byte n1 (us.map Value.int) (.int 0)) (E_a2 : Exa Z h0 a2 "java/lang/String") (F_value_a2 : Fld Z h0 a2 "java/lang/String" "value" "[B" (.ref b2)) (F_coder_a2 : Fld Z h0 a2 "java/lang/String" "coder" "B" (.int 0)) (V_b2 : Arv Z h0 b2 k2 .byte n2 (ws.map Value.int) (.int 0)) (S_CS : Sta Z Z.heap "java/lang/String" "COMPACT_STRINGS" "Z" (.int cs)) :
  Con l Z (⟨"java/lang/String", "equals", "(Ljava/lang/Object;)Z"⟩ : MethodName) jdk_42_method_66_code 3 (some .boolean) ({ frames := 1, cells := 0, slots := 0, locals := 14 } : Room) #[(.ref a1), (.ref a2)] h0 (fun v h L => v = some (.int r) ∧ Fr n0 L ∧ h = h0) := by
 refine own_startC opn_25 ?_
 intro p e s m below meth c T0 X0 hx hby hml hZ hown hnm hret hlk e0
 have N := Fr.nil n0; have K := Keep.refl h0 []
 refine OG.cast (oef6 m a1 a2) ?_
 refine og_aloadN X0 hx rfl rfl (hb hby d25_0) rfl ?_
 refine og_aloadN X0 hx rfl rfl (hb hby d25_1) rfl ?_
 refine og_acmp_ne (pc1 := 7) (pc2 := 5) X0 hx rfl rfl (hb hby d25_2) (by decide) (by decide) rfl (fun hc2 => ?_) (fun hc2 => ?_)
 ·
  refine og_aloadN X0 hx rfl rfl (hb hby d25_7) rfl ?_
  obtain ⟨T11, X11, e11, st11⟩ := instY X0 hx hZ hown (ow174 hw) e0 (Ins.self E_a2) (g := (mkF m 8 #[.val (.ref a1), .val (.ref a2), .unset] [(.ref a2)])) rfl rfl (hb hby d25_8)
  refine OG.of st11 ?_
  show OG p e below _ (T11.setTop (mkF m 11 #[.val (.ref a1), .val (.ref a2), .unset] [(.int 1)]))
  refine og_if_eq (pc1 := 54) (pc2 := 14) X11 hx (hb hby d25_11) (by decide) (by decide) rfl (fun q => absurd q (by decide)) (fun _ => ?_)
  refine og_aloadN X11 hx rfl rfl (hb hby d25_14) rfl ?_
  obtain ⟨T12, X12, e12, st12⟩ := castY X11 hx hZ hown (ow174 hw) e11 (Ins.self E_a2) (g := (mkF m 15 #[.val (.ref a1), .val (.ref a2), .unset] [(.ref a2)])) rfl rfl (hb hby d25_15)
  refine OG.of st12 ?_
  show OG p e below _ (T12.setTop (mkF m 18 #[.val (.ref a1), .val (.ref a2), .unset] [(.ref a2)]))
  refine og_astoreN (L' := #[.val (.ref a1), .val (.ref a2), .val (.ref a2)]) X12 hx rfl rfl (hb hby d25_18) rfl ?_
  refine og_getstatic X12 hx hZ (host := "") hown (Or.inl (ow30 hw)) Via.refl e12 (S_CS.ext O.2) (hb hby d25_19) rfl (fun T13 X13 e13 => ?_)
  refine og_if_eq (pc1 := 36) (pc2 := 25) X13 hx (hb hby d25_22) (by decide) (by decide) rfl (fun q => absurd q hcs) (fun _ => ?_)
  refine og_aloadN X13 hx rfl rfl (hb hby d25_25) rfl ?_
  refine og_getfield X13 hx hZ (host := "") hown (Or.inl (ow29 hw)) Via.refl e13 F_coder_a1 (hb hby d25_26) rfl (fun T14 X14 e14 => ?_)
  refine og_aloadN X14 hx rfl rfl (hb hby d25_29) rfl ?_
  refine og_getfield X14 hx hZ (host := "") hown (Or.inl (ow29 hw)) Via.refl e14 F_coder_a2 (hb hby d25_30) rfl (fun T15 X15 e15 => ?_)
  refine og_icmp_ne (pc1 := 54) (pc2 := 36) X15 hx (hb hby d25_33) (by decide) (by decide) rfl (fun q => absurd q (by decide)) (fun _ => ?_)
  refine og_aloadN X15 hx rfl rfl (hb hby d25_36) rfl ?_
  refine og_getfield X15 hx hZ (host := "") hown (Or.inl (ow28 hw)) Via.refl e15 F_value_a1 (hb hby d25_37) rfl (fun T16 X16 e16 => ?_)
  refine og_aloadN X16 hx rfl rfl (hb hby d25_40) rfl ?_
  refine og_getfield X16 hx hZ (host := "") hown (Or.inl (ow28 hw)) Via.refl e16 F_value_a2 (hb hby d25_41) rfl (fun T17 X17 e17 => ?_)
  by_cases hQ : us = ws
  ·
   refine og_static (pc' := 47) (cells' := 0) (slots' := 0) (W := 0) X17 hx hZ (rm_leG l Z a0 hw b1 b2 k1 k2 us ws n1 n2 hn1 hn2 hp1 hp2 1 (if_pos hQ).symm h0 n0 O V_b1 V_b2) hown (ow175 hw) (ow176 hw) (ow77 hw) (ow177 hw) (by decide) (by rw [hml]; rfl) e17 opd_5 [(.ref b1), (.ref b2)] [] rfl rfl rfl rfl (by decide) (by decide) rfl rfl (by decide) (by decide) (hb hby d25_44) rfl (fun v18 T18 h18 L18 X18 e18 z18 => ?_)
   obtain ⟨rfl, Nq18, hq18⟩ := z18; replace e18 := e18.trans hq18; have N := Fr.app N Nq18
   refine og_if_eq (pc1 := 54) (pc2 := 50) X18 hx (hb hby d25_47) (by decide) (by decide) rfl (fun q => absurd q (by decide)) (fun _ => ?_)
   refine og_iconst (v := (1 : Int32)) X18 hx rfl (hb hby d25_50) rfl ?_
   refine og_goto (pc' := 55) X18 hx (hb hby d25_51) (by decide) (by decide) ?_
   refine og_retN X18 hx hlk hret (by simp) (hb hby d25_55) (by decide) (by decide) ?_
   rw [e18]; refine ⟨?_, N, rfl⟩
   show some (Value.int 1) = _
   rw [hr, if_pos hQ]
  ·
   refine og_static (pc' := 47) (cells' := 0) (slots' := 0) (W := 0) X17 hx hZ (rm_leG l Z a0 hw b1 b2 k1 k2 us ws n1 n2 hn1 hn2 hp1 hp2 0 (if_neg hQ).symm h0 n0 O V_b1 V_b2) hown (ow175 hw) (ow176 hw) (ow77 hw) (ow177 hw) (by decide) (by rw [hml]; rfl) e17 opd_5 [(.ref b1), (.ref b2)] [] rfl rfl rfl rfl (by decide) (by decide) rfl rfl (by decide) (by decide) (hb hby d25_44) rfl (fun v19 T19 h19 L19 X19 e19 z19 => ?_)
   obtain ⟨rfl, Nq19, hq19⟩ := z19; replace e19 := e19.trans hq19; have N := Fr.app N Nq19
   refine og_if_eq (pc1 := 54) (pc2 := 50) X19 hx (hb hby d25_47) (by decide) (by decide) rfl (fun _ => ?_) (fun q => absurd q (by decide))
   refine og_iconst (v := (0 : Int32)) X19 hx rfl (hb hby d25_54) rfl ?_
   refine og_retN X19 hx hlk hret (by simp) (hb hby d25_55) (by decide) (by decide) ?_
   rw [e19]; refine ⟨?_, N, rfl⟩
   show some (Value.int 0) = _
   rw [hr, if_neg hQ]
 ·
  refine og_iconst (v := (1 : Int32)) X0 hx rfl (hb hby d25_5) rfl ?_
  refine og_retN X0 hx hlk hret (by simp) (hb hby d25_6) (by decide) (by decide) ?_
  rw [e0]; refine ⟨?_, N, rfl⟩
  show some (Value.int 1) = _
  rw [hr, if_pos (own_eqsame (Value.ref.inj hc2) F_value_a1 F_value_a2 V_b1 V_b2 hn1 hn2)]
theorem rm_c (l : Launch) (Z : State) (a0 : Array Value) (hw : HW a0 Z) (vv : Int32) (h0 : Heap) (n0 : Nat) (O : Old Z n0 h0) :
  Con l Z (⟨"com/example/tombstone/tombstone/config/TableNameParsePinLaw", "ch", "(I)C"⟩ : MethodName) method_2_code 1 (some .char) ({ frames := 0, cells := 0, slots := 0, locals := 0 } : Room) #[(.int vv)] h0 (fun v h L => ∃ z : Int32, v = some (.int z) ∧ Fr n0 L ∧ h = h0 ∧ 0 ≤ z.toInt ∧ z.toInt ≤ 255) := by
 refine own_startC opn_1 ?_
 intro p e s m below meth c T0 X0 hx hby hml hZ hown hnm hret hlk e0
 have N := Fr.nil n0; have K := Keep.refl h0 []
 refine OG.cast (oef7 m vv) ?_
 refine og_iloadN X0 hx rfl (hb hby d1_0) rfl ?_
 refine og_sipush (v := (768 : Int32)) X0 hx rfl (hb hby d1_1) rfl ?_
 refine og_iand X0 hx (hb hby d1_4) rfl ?_
 refine og_sipush (v := (768 : Int32)) X0 hx rfl (hb hby d1_5) rfl ?_
 refine og_icmp_ne (pc1 := 14) (pc2 := 11) X0 hx (hb hby d1_8) (by decide) (by decide) rfl (fun hc8 => ?_) (fun hc8 => ?_)
 ·
  refine og_iloadN X0 hx rfl (hb hby d1_14) rfl ?_
  refine og_sipush (v := (255 : Int32)) X0 hx rfl (hb hby d1_15) rfl ?_
  refine og_iand X0 hx (hb hby d1_18) rfl ?_
  refine og_i2c X0 hx (hb hby d1_19) rfl ?_
  refine og_retN X0 hx hlk hret (by simp) (hb hby d1_20) (by decide) (by decide) ?_
  rw [e0]; exact ⟨_, rfl, N, rfl, own_chb _⟩
 ·
  refine og_bipush (v := (46 : Int32)) X0 hx rfl (hb hby d1_11) rfl ?_
  refine og_retN X0 hx hlk hret (by simp) (hb hby d1_13) (by decide) (by decide) ?_
  rw [e0]; exact ⟨(46 : Int32), rfl, N, rfl, by decide, by decide⟩
theorem rm_mk0 (l : Launch) (Z : State) (a0 : Array Value) (hw : HW a0 Z) (c0 c1 c2 c3 : Int32) (hc0 : 0 ≤ c0.toInt ∧ c0.toInt ≤ 255) (hc1 : 0 ≤ c1.toInt ∧ c1.toInt ≤ 255) (hc2 : 0 ≤ c2.toInt ∧ c2.toInt ≤ 255) (hc3 : 0 ≤ c3.toInt ∧ c3.toInt ≤ 255) (cs : Int32) (hcs : ¬ cs = 0) (h0 : Heap) (n0 : Nat) (O : Old Z n0 h0) (hEL : EW Z a0 own_EL) (S_CS : Sta Z Z.heap "java/lang/String" "COMPACT_STRINGS" "Z" (.int cs)) :
  ConW l Z own_EL [] (⟨"com/example/tombstone/tombstone/config/TableNameParsePinLaw", "mk", "(ICCCC)Ljava/lang/String;"⟩ : MethodName) method_3_code 6 (some (.object "java/lang/String")) ({ frames := 3, cells := 6, slots := 12, locals := 43 } : Room) #[(.int 0), (.int c0), (.int c1), (.int c2), (.int c3)] h0 (fun v h L => ∃ a b k, v = some (.ref a) ∧ Fr n0 L ∧ Keep h0 h [] ∧ h0.size ≤ a ∧ Exa Z h a "java/lang/String" ∧ Fld Z h a "java/lang/String" "value" "[B" (.ref b) ∧ Fld Z h a "java/lang/String" "coder" "B" (.int 0) ∧ Arv Z h b k .byte (0 : Int32) [] (.int 0)) := by
 refine own_startWC opn_2 ?_
 intro p e s m below meth c T0 X0 hx hby hml hZ hown hnm hret hlk e0 es hS CR hsf
 have N := Fr.nil n0; have K := Keep.refl h0 []; have hk := Nat.le_refl h0.size
 refine OG.cast (oef8 m (0 : Int32) c0 c1 c2 c3) ?_
 refine og_iloadN X0 hx rfl (hb hby d2_0) rfl ?_
 refine og_if_gt (pc1 := 15) (pc2 := 4) X0 hx (hb hby d2_1) (by decide) (by decide) rfl (fun q => absurd q (by decide)) (fun _ => ?_)
 refine og_new (pc' := 7) (cells' := 1) (slots' := 4) X0 hx hZ hown (ow9 hw) (ow10 hw) (ow11 hw) e0 (hb hby d2_4) rfl rfl rfl (by decide) (by decide) (fun T11 h11 nb11 X11 e11 E11 q11 E_nb11 D11 B11 => ?_)
 have s_nb11 : h0.size ≤ nb11 := Nat.le_of_eq q11.symm; have g_nb11 : n0 ≤ nb11 := Nat.le_trans (own_n0 O) s_nb11; have sz_nb11 : h0.size ≤ nb11 := Nat.le_trans K.1 s_nb11; have Q_nb11 : Safe Z own_EL _ _ nb11 := Safe.new (Z := Z) (EL := own_EL) (vm := s.vm) s_nb11
 have Q_nb11 := Safe.ext E11 CR.1 Q_nb11; have O := O.ext E11; have K := K.ext E11; have hk := Nat.le_trans hk E11.1; have CR := CR.trans (CHr.ext E11 CR.1)
 have F_value_nb11 : Fld Z h11 nb11 "java/lang/String" "value" "[B" .null := D11 (Or.inr (ow24 hw)) (ty := (.array .byte)) (by decide)
 have F_coder_nb11 : Fld Z h11 nb11 "java/lang/String" "coder" "B" (.int 0) := D11 (Or.inr (ow25 hw)) (ty := .byte) (by decide)
 refine og_dup X11 hx rfl (hb hby d2_7) rfl ?_
 refine og_iconst (v := (0 : Int32)) X11 hx rfl (hb hby d2_8) rfl ?_
 refine og_newarray (pc' := 11) (cells' := 2) (slots' := 4) (cap := 0) (ty := .char) X11 hx hZ rfl (ow1 hw) e11 (by decide) (by decide) (by decide) (hb hby d2_9) rfl rfl rfl (by decide) (by decide) (fun T12 h12 nb12 kA12 X12 e12 E12 q12 V_nb12 => ?_)
 have s_nb12 : h11.size ≤ nb12 := Nat.le_of_eq q12.symm; have g_nb12 : n0 ≤ nb12 := Nat.le_trans (own_n0 O) s_nb12; have sz_nb12 : h0.size ≤ nb12 := Nat.le_trans K.1 s_nb12; have ne_nb11_nb12 : nb11 ≠ nb12 := Nat.ne_of_lt (Nat.lt_of_lt_of_le E_nb11.lt s_nb12); have Q_nb12 : Safe Z own_EL _ _ nb12 := Safe.new (Z := Z) (EL := own_EL) (vm := s.vm) s_nb12
 have Q_nb11 := Safe.ext E12 CR.1 Q_nb11; have Q_nb12 := Safe.ext E12 CR.1 Q_nb12; have E_nb11 := E_nb11.ext E12; have F_value_nb11 := F_value_nb11.ext E12; have F_coder_nb11 := F_coder_nb11.ext E12; have O := O.ext E12
 have K := K.ext E12; have hk := Nat.le_trans hk E12.1; have CR := CR.trans (CHr.ext E12 CR.1)
 refine og_specialW (pc' := 14) (cells' := 6) (slots' := 12) (W := 1) X12 hx hZ (rm_sn_0 l Z a0 hw nb11 nb12 kA12 h12 n0 O hEL E_nb11 F_value_nb11 F_coder_nb11 V_nb12 g_nb11 (Ne.symm ne_nb11_nb12)) hEL hS hk CR.1 (allS (P := fun x => x < _ ∧ Safe Z own_EL _ _ x) ⟨E_nb11.lt, Q_nb11⟩ all0) rfl hown (ow12 hw) (ow13 hw) (ow11 hw) (ow14 hw) (by decide) (by rw [hml]; rfl) e12 opd_6 [(.ref nb12)] [(.ref nb11)] rfl rfl rfl rfl (by decide) (by decide) rfl rfl (by decide) (by decide) (hb hby d2_11) rfl (fun v13 T13 h13 L13 kk13 X13 e13 hS hk hZ hown cr13 z13 => ?_)
 obtain ⟨nb13, k13, rfl, Nq13, K13, E_nb11', F_value_nb11', F_coder_nb11', V_nb13⟩ := z13; have N := Fr.app N Nq13
 have Q_nb11 := cr13.safe E_nb11.lt Q_nb11; have Q_nb12 := cr13.safe V_nb12.lt Q_nb12; have E_nb11 := E_nb11.keep K13; have V_nb12 := V_nb12.keep K13 (ninS (Ne.symm ne_nb11_nb12) nin0); have O := O.keep K13 (allS g_nb11 all0); have K := K.trans K13 (allS (Or.inr sz_nb11) all0)
 have CR := CR.trans cr13
 have E_nb11 := E_nb11'; have F_value_nb11 := F_value_nb11'; have F_coder_nb11 := F_coder_nb11'
 refine og_retRW X13 hx hZ hlk hEL hS e13 es hk CR hret rfl rfl rfl (hb hby d2_14) (by decide) (by decide) ?_
 rw [e13]; exact ⟨_, _, _, rfl, N, K, sz_nb11, E_nb11, F_value_nb11, F_coder_nb11, V_nb13⟩
theorem rm_mk1 (l : Launch) (Z : State) (a0 : Array Value) (hw : HW a0 Z) (c0 c1 c2 c3 : Int32) (hc0 : 0 ≤ c0.toInt ∧ c0.toInt ≤ 255) (hc1 : 0 ≤ c1.toInt ∧ c1.toInt ≤ 255) (hc2 : 0 ≤ c2.toInt ∧ c2.toInt ≤ 255) (hc3 : 0 ≤ c3.toInt ∧ c3.toInt ≤ 255) (cs : Int32) (hcs : ¬ cs = 0) (h0 : Heap) (n0 : Nat) (O : Old Z n0 h0) (hEL : EW Z a0 own_EL) (S_CS : Sta Z Z.heap "java/lang/String" "COMPACT_STRINGS" "Z" (.int cs)) :
  ConW l Z own_EL [] (⟨"com/example/tombstone/tombstone/config/TableNameParsePinLaw", "mk", "(ICCCC)Ljava/lang/String;"⟩ : MethodName) method_3_code 6 (some (.object "java/lang/String")) ({ frames := 4, cells := 3, slots := 6, locals := 66 } : Room) #[(.int 1), (.int c0), (.int c1), (.int c2), (.int c3)] h0 (fun v h L => ∃ a b k, v = some (.ref a) ∧ Fr n0 L ∧ Keep h0 h [] ∧ h0.size ≤ a ∧ Exa Z h a "java/lang/String" ∧ Fld Z h a "java/lang/String" "value" "[B" (.ref b) ∧ Fld Z h a "java/lang/String" "coder" "B" (.int 0) ∧ Arv Z h b k .byte (1 : Int32) [(.int c0.toInt8.toInt32)] (.int 0)) := by
 refine own_startWC opn_2 ?_
 intro p e s m below meth c T0 X0 hx hby hml hZ hown hnm hret hlk e0 es hS CR hsf
 have N := Fr.nil n0; have K := Keep.refl h0 []; have hk := Nat.le_refl h0.size
 refine OG.cast (oef8 m (1 : Int32) c0 c1 c2 c3) ?_
 refine og_iloadN X0 hx rfl (hb hby d2_0) rfl ?_
 refine og_if_gt (pc1 := 15) (pc2 := 4) X0 hx (hb hby d2_1) (by decide) (by decide) rfl (fun _ => ?_) (fun q => absurd q (by decide))
 refine og_iloadN X0 hx rfl (hb hby d2_15) rfl ?_
 refine og_iconst (v := (1 : Int32)) X0 hx rfl (hb hby d2_16) rfl ?_
 refine og_icmp_ne (pc1 := 40) (pc2 := 20) X0 hx (hb hby d2_17) (by decide) (by decide) rfl (fun q => absurd q (by decide)) (fun _ => ?_)
 refine og_iconst (v := (1 : Int32)) X0 hx rfl (hb hby d2_20) rfl ?_
 refine og_newarray (pc' := 23) (cells' := 1) (slots' := 1) (cap := 1) (ty := .char) X0 hx hZ rfl (ow1 hw) e0 (by decide) (by decide) (by decide) (hb hby d2_21) rfl rfl rfl (by decide) (by decide) (fun T11 h11 nb11 kA11 X11 e11 E11 q11 V_nb11 => ?_)
 have s_nb11 : h0.size ≤ nb11 := Nat.le_of_eq q11.symm; have g_nb11 : n0 ≤ nb11 := Nat.le_trans (own_n0 O) s_nb11; have sz_nb11 : h0.size ≤ nb11 := Nat.le_trans K.1 s_nb11; have Q_nb11 : Safe Z own_EL _ _ nb11 := Safe.new (Z := Z) (EL := own_EL) (vm := s.vm) s_nb11
 have Q_nb11 := Safe.ext E11 CR.1 Q_nb11; have O := O.ext E11; have K := K.ext E11; have hk := Nat.le_trans hk E11.1; have CR := CR.trans (CHr.ext E11 CR.1)
 have V_nb11 : Arv Z h11 nb11 kA11 .char (1 : Int32) [(.int 0)] (.int 0) := V_nb11.pad (pad_rep [] (.int 0) 1)
 refine og_astore (L' := #[.val (.int 1), .val (.int c0), .val (.int c1), .val (.int c2), .val (.int c3), .val (.ref nb11)]) X11 hx rfl rfl (hb hby d2_23) rfl ?_
 refine og_aload X11 hx rfl rfl (hb hby d2_25) rfl ?_
 refine og_iconst (v := (0 : Int32)) X11 hx rfl (hb hby d2_27) rfl ?_
 refine og_iloadN X11 hx rfl (hb hby d2_28) rfl ?_
 refine og_castore X11 hx hZ e11 V_nb11 ⟨by decide, by decide⟩ 0 (by decide) (Nat.le_of_ble_eq_true rfl) (hb hby d2_29) rfl (fun T12 h12 X12 e12 W12 V12 => ?_)
 have sf12 : Safe Z own_EL s.vm h11 nb11 := Q_nb11; have Q_nb11 := Safe.wr W12 sf12 CR.1 Q_nb11; have O := O.wr W12 g_nb11; have K := K.wr W12 (Or.inr sz_nb11); have hk := Nat.le_trans hk (Keep.of_wr W12).1; have CR := CR.trans (CHr.wr W12 sf12 CR.1)
 have N := Fr.snoc X12 N g_nb11
 have V_nb11 : Arv Z h12 nb11 kA11 .char (1 : Int32) [(.int (nar .char c0))] (.int 0) := V12
 rw [own_nc hc0] at V_nb11
 refine og_new (pc' := 33) (cells' := 2) (slots' := 5) X12 hx hZ hown (ow9 hw) (ow10 hw) (ow11 hw) e12 (hb hby d2_30) rfl rfl rfl (by decide) (by decide) (fun T13 h13 nb13 X13 e13 E13 q13 E_nb13 D13 B13 => ?_)
 have s_nb13 : h12.size ≤ nb13 := Nat.le_of_eq q13.symm; have g_nb13 : n0 ≤ nb13 := Nat.le_trans (own_n0 O) s_nb13; have sz_nb13 : h0.size ≤ nb13 := Nat.le_trans K.1 s_nb13; have ne_nb11_nb13 : nb11 ≠ nb13 := Nat.ne_of_lt (Nat.lt_of_lt_of_le V_nb11.lt s_nb13); have Q_nb13 : Safe Z own_EL _ _ nb13 := Safe.new (Z := Z) (EL := own_EL) (vm := s.vm) s_nb13
 have Q_nb11 := Safe.ext E13 CR.1 Q_nb11; have Q_nb13 := Safe.ext E13 CR.1 Q_nb13; have V_nb11 := V_nb11.ext E13; have O := O.ext E13; have K := K.ext E13; have hk := Nat.le_trans hk E13.1
 have CR := CR.trans (CHr.ext E13 CR.1)
 have F_value_nb13 : Fld Z h13 nb13 "java/lang/String" "value" "[B" .null := D13 (Or.inr (ow24 hw)) (ty := (.array .byte)) (by decide)
 have F_coder_nb13 : Fld Z h13 nb13 "java/lang/String" "coder" "B" (.int 0) := D13 (Or.inr (ow25 hw)) (ty := .byte) (by decide)
 refine og_dup X13 hx rfl (hb hby d2_33) rfl ?_
 refine og_aload X13 hx rfl rfl (hb hby d2_34) rfl ?_
 refine og_special (pc' := 39) (cells' := 3) (slots' := 6) (W := 1) X13 hx hZ (rm_sn_1 l Z a0 hw nb13 nb11 kA11 c0 (own_le255 hc0) cs hcs h13 n0 O E_nb13 F_value_nb13 F_coder_nb13 V_nb11 S_CS g_nb13 ne_nb11_nb13) rfl hown (ow12 hw) (ow13 hw) (ow11 hw) (ow14 hw) (by decide) (by rw [hml]; rfl) e13 opd_6 [(.ref nb11)] [(.ref nb13)] rfl rfl rfl rfl (by decide) (by decide) rfl rfl (by decide) (by decide) (hb hby d2_36) rfl (fun v14 T14 h14 L14 X14 e14 z14 => ?_)
 obtain ⟨nb14, k14, rfl, Nq14, K14, sb14, E_nb13', F_value_nb13', F_coder_nb13', V_nb14⟩ := z14; have N := Fr.app N Nq14
 have s_nb14 : h13.size ≤ nb14 := sb14; have g_nb14 : n0 ≤ nb14 := Nat.le_trans (own_n0 O) s_nb14; have sz_nb14 : h0.size ≤ nb14 := Nat.le_trans K.1 s_nb14; have ne_nb11_nb14 : nb11 ≠ nb14 := Nat.ne_of_lt (Nat.lt_of_lt_of_le V_nb11.lt s_nb14); have ne_nb13_nb14 : nb13 ≠ nb14 := Nat.ne_of_lt (Nat.lt_of_lt_of_le E_nb13.lt s_nb14); have Q_nb14 : Safe Z own_EL _ _ nb14 := Safe.new (Z := Z) (EL := own_EL) (vm := s.vm) s_nb14
 have sf14 : ∀ x ∈ ([nb13] : List Addr), Safe Z own_EL s.vm h13 x := (sfS Q_nb13 sf0); have Q_nb11 := Safe.keep K14 sf14 CR.1 Q_nb11; have Q_nb13 := Safe.keep K14 sf14 CR.1 Q_nb13; have Q_nb14 := Safe.keep K14 sf14 CR.1 Q_nb14; have V_nb11 := V_nb11.keep K14 (ninS ne_nb11_nb13 nin0); have E_nb13 := E_nb13.keep K14
 have O := O.keep K14 (allS g_nb13 all0); have K := K.trans K14 (allS (Or.inr sz_nb13) all0); have hk := Nat.le_trans hk K14.1; have CR := CR.trans (CHr.keep K14 sf14 CR.1)
 have E_nb13 := E_nb13'; have F_value_nb13 := F_value_nb13'; have F_coder_nb13 := F_coder_nb13'
 refine og_retRW X14 hx hZ hlk hEL hS e14 es hk CR hret rfl rfl rfl (hb hby d2_39) (by decide) (by decide) ?_
 rw [e14]; exact ⟨_, _, _, rfl, N, K, sz_nb13, E_nb13, F_value_nb13, F_coder_nb13, V_nb14⟩
theorem rm_mk2 (l : Launch) (Z : State) (a0 : Array Value) (hw : HW a0 Z) (c0 c1 c2 c3 : Int32) (hc0 : 0 ≤ c0.toInt ∧ c0.toInt ≤ 255) (hc1 : 0 ≤ c1.toInt ∧ c1.toInt ≤ 255) (hc2 : 0 ≤ c2.toInt ∧ c2.toInt ≤ 255) (hc3 : 0 ≤ c3.toInt ∧ c3.toInt ≤ 255) (cs : Int32) (hcs : ¬ cs = 0) (h0 : Heap) (n0 : Nat) (O : Old Z n0 h0) (hEL : EW Z a0 own_EL) (S_CS : Sta Z Z.heap "java/lang/String" "COMPACT_STRINGS" "Z" (.int cs)) :
  ConW l Z own_EL [] (⟨"com/example/tombstone/tombstone/config/TableNameParsePinLaw", "mk", "(ICCCC)Ljava/lang/String;"⟩ : MethodName) method_3_code 6 (some (.object "java/lang/String")) ({ frames := 4, cells := 3, slots := 8, locals := 66 } : Room) #[(.int 2), (.int c0), (.int c1), (.int c2), (.int c3)] h0 (fun v h L => ∃ a b k, v = some (.ref a) ∧ Fr n0 L ∧ Keep h0 h [] ∧ h0.size ≤ a ∧ Exa Z h a "java/lang/String" ∧ Fld Z h a "java/lang/String" "value" "[B" (.ref b) ∧ Fld Z h a "java/lang/String" "coder" "B" (.int 0) ∧ Arv Z h b k .byte (2 : Int32) [(.int c0.toInt8.toInt32), (.int c1.toInt8.toInt32)] (.int 0)) := by
 refine own_startWC opn_2 ?_
 intro p e s m below meth c T0 X0 hx hby hml hZ hown hnm hret hlk e0 es hS CR hsf
 have N := Fr.nil n0; have K := Keep.refl h0 []; have hk := Nat.le_refl h0.size
 refine OG.cast (oef8 m (2 : Int32) c0 c1 c2 c3) ?_
 refine og_iloadN X0 hx rfl (hb hby d2_0) rfl ?_
 refine og_if_gt (pc1 := 15) (pc2 := 4) X0 hx (hb hby d2_1) (by decide) (by decide) rfl (fun _ => ?_) (fun q => absurd q (by decide))
 refine og_iloadN X0 hx rfl (hb hby d2_15) rfl ?_
 refine og_iconst (v := (1 : Int32)) X0 hx rfl (hb hby d2_16) rfl ?_
 refine og_icmp_ne (pc1 := 40) (pc2 := 20) X0 hx (hb hby d2_17) (by decide) (by decide) rfl (fun _ => ?_) (fun q => absurd q (by decide))
 refine og_iloadN X0 hx rfl (hb hby d2_40) rfl ?_
 refine og_iconst (v := (2 : Int32)) X0 hx rfl (hb hby d2_41) rfl ?_
 refine og_icmp_ne (pc1 := 70) (pc2 := 45) X0 hx (hb hby d2_42) (by decide) (by decide) rfl (fun q => absurd q (by decide)) (fun _ => ?_)
 refine og_iconst (v := (2 : Int32)) X0 hx rfl (hb hby d2_45) rfl ?_
 refine og_newarray (pc' := 48) (cells' := 1) (slots' := 2) (cap := 2) (ty := .char) X0 hx hZ rfl (ow1 hw) e0 (by decide) (by decide) (by decide) (hb hby d2_46) rfl rfl rfl (by decide) (by decide) (fun T11 h11 nb11 kA11 X11 e11 E11 q11 V_nb11 => ?_)
 have s_nb11 : h0.size ≤ nb11 := Nat.le_of_eq q11.symm; have g_nb11 : n0 ≤ nb11 := Nat.le_trans (own_n0 O) s_nb11; have sz_nb11 : h0.size ≤ nb11 := Nat.le_trans K.1 s_nb11; have Q_nb11 : Safe Z own_EL _ _ nb11 := Safe.new (Z := Z) (EL := own_EL) (vm := s.vm) s_nb11
 have Q_nb11 := Safe.ext E11 CR.1 Q_nb11; have O := O.ext E11; have K := K.ext E11; have hk := Nat.le_trans hk E11.1; have CR := CR.trans (CHr.ext E11 CR.1)
 have V_nb11 : Arv Z h11 nb11 kA11 .char (2 : Int32) [(.int 0), (.int 0)] (.int 0) := V_nb11.pad (pad_rep [] (.int 0) 2)
 refine og_astore (L' := #[.val (.int 2), .val (.int c0), .val (.int c1), .val (.int c2), .val (.int c3), .val (.ref nb11)]) X11 hx rfl rfl (hb hby d2_48) rfl ?_
 refine og_aload X11 hx rfl rfl (hb hby d2_50) rfl ?_
 refine og_iconst (v := (0 : Int32)) X11 hx rfl (hb hby d2_52) rfl ?_
 refine og_iloadN X11 hx rfl (hb hby d2_53) rfl ?_
 refine og_castore X11 hx hZ e11 V_nb11 ⟨by decide, by decide⟩ 0 (by decide) (Nat.le_of_ble_eq_true rfl) (hb hby d2_54) rfl (fun T12 h12 X12 e12 W12 V12 => ?_)
 have sf12 : Safe Z own_EL s.vm h11 nb11 := Q_nb11; have Q_nb11 := Safe.wr W12 sf12 CR.1 Q_nb11; have O := O.wr W12 g_nb11; have K := K.wr W12 (Or.inr sz_nb11); have hk := Nat.le_trans hk (Keep.of_wr W12).1; have CR := CR.trans (CHr.wr W12 sf12 CR.1)
 have N := Fr.snoc X12 N g_nb11
 have V_nb11 : Arv Z h12 nb11 kA11 .char (2 : Int32) [(.int (nar .char c0)), (.int 0)] (.int 0) := V12
 rw [own_nc hc0] at V_nb11
 refine og_aload X12 hx rfl rfl (hb hby d2_55) rfl ?_
 refine og_iconst (v := (1 : Int32)) X12 hx rfl (hb hby d2_57) rfl ?_
 refine og_iloadN X12 hx rfl (hb hby d2_58) rfl ?_
 refine og_castore X12 hx hZ e12 V_nb11 ⟨by decide, by decide⟩ 1 (by decide) (Nat.le_of_ble_eq_true rfl) (hb hby d2_59) rfl (fun T13 h13 X13 e13 W13 V13 => ?_)
 have sf13 : Safe Z own_EL s.vm h12 nb11 := Q_nb11; have Q_nb11 := Safe.wr W13 sf13 CR.1 Q_nb11; have O := O.wr W13 g_nb11; have K := K.wr W13 (Or.inr sz_nb11); have hk := Nat.le_trans hk (Keep.of_wr W13).1; have CR := CR.trans (CHr.wr W13 sf13 CR.1)
 have N := Fr.snoc X13 N g_nb11
 have V_nb11 : Arv Z h13 nb11 kA11 .char (2 : Int32) [(.int c0), (.int (nar .char c1))] (.int 0) := V13
 rw [own_nc hc1] at V_nb11
 refine og_new (pc' := 63) (cells' := 2) (slots' := 6) X13 hx hZ hown (ow9 hw) (ow10 hw) (ow11 hw) e13 (hb hby d2_60) rfl rfl rfl (by decide) (by decide) (fun T14 h14 nb14 X14 e14 E14 q14 E_nb14 D14 B14 => ?_)
 have s_nb14 : h13.size ≤ nb14 := Nat.le_of_eq q14.symm; have g_nb14 : n0 ≤ nb14 := Nat.le_trans (own_n0 O) s_nb14; have sz_nb14 : h0.size ≤ nb14 := Nat.le_trans K.1 s_nb14; have ne_nb11_nb14 : nb11 ≠ nb14 := Nat.ne_of_lt (Nat.lt_of_lt_of_le V_nb11.lt s_nb14); have Q_nb14 : Safe Z own_EL _ _ nb14 := Safe.new (Z := Z) (EL := own_EL) (vm := s.vm) s_nb14
 have Q_nb11 := Safe.ext E14 CR.1 Q_nb11; have Q_nb14 := Safe.ext E14 CR.1 Q_nb14; have V_nb11 := V_nb11.ext E14; have O := O.ext E14; have K := K.ext E14; have hk := Nat.le_trans hk E14.1
 have CR := CR.trans (CHr.ext E14 CR.1)
 have F_value_nb14 : Fld Z h14 nb14 "java/lang/String" "value" "[B" .null := D14 (Or.inr (ow24 hw)) (ty := (.array .byte)) (by decide)
 have F_coder_nb14 : Fld Z h14 nb14 "java/lang/String" "coder" "B" (.int 0) := D14 (Or.inr (ow25 hw)) (ty := .byte) (by decide)
 refine og_dup X14 hx rfl (hb hby d2_63) rfl ?_
 refine og_aload X14 hx rfl rfl (hb hby d2_64) rfl ?_
 refine og_special (pc' := 69) (cells' := 3) (slots' := 8) (W := 1) X14 hx hZ (rm_sn_2 l Z a0 hw nb14 nb11 kA11 c0 c1 (own_le255 hc0) (own_le255 hc1) cs hcs h14 n0 O E_nb14 F_value_nb14 F_coder_nb14 V_nb11 S_CS g_nb14 ne_nb11_nb14) rfl hown (ow12 hw) (ow13 hw) (ow11 hw) (ow14 hw) (by decide) (by rw [hml]; rfl) e14 opd_6 [(.ref nb11)] [(.ref nb14)] rfl rfl rfl rfl (by decide) (by decide) rfl rfl (by decide) (by decide) (hb hby d2_66) rfl (fun v15 T15 h15 L15 X15 e15 z15 => ?_)
 obtain ⟨nb15, k15, rfl, Nq15, K15, sb15, E_nb14', F_value_nb14', F_coder_nb14', V_nb15⟩ := z15; have N := Fr.app N Nq15
 have s_nb15 : h14.size ≤ nb15 := sb15; have g_nb15 : n0 ≤ nb15 := Nat.le_trans (own_n0 O) s_nb15; have sz_nb15 : h0.size ≤ nb15 := Nat.le_trans K.1 s_nb15; have ne_nb11_nb15 : nb11 ≠ nb15 := Nat.ne_of_lt (Nat.lt_of_lt_of_le V_nb11.lt s_nb15); have ne_nb14_nb15 : nb14 ≠ nb15 := Nat.ne_of_lt (Nat.lt_of_lt_of_le E_nb14.lt s_nb15); have Q_nb15 : Safe Z own_EL _ _ nb15 := Safe.new (Z := Z) (EL := own_EL) (vm := s.vm) s_nb15
 have sf15 : ∀ x ∈ ([nb14] : List Addr), Safe Z own_EL s.vm h14 x := (sfS Q_nb14 sf0); have Q_nb11 := Safe.keep K15 sf15 CR.1 Q_nb11; have Q_nb14 := Safe.keep K15 sf15 CR.1 Q_nb14; have Q_nb15 := Safe.keep K15 sf15 CR.1 Q_nb15; have V_nb11 := V_nb11.keep K15 (ninS ne_nb11_nb14 nin0); have E_nb14 := E_nb14.keep K15
 have O := O.keep K15 (allS g_nb14 all0); have K := K.trans K15 (allS (Or.inr sz_nb14) all0); have hk := Nat.le_trans hk K15.1; have CR := CR.trans (CHr.keep K15 sf15 CR.1)
 have E_nb14 := E_nb14'; have F_value_nb14 := F_value_nb14'; have F_coder_nb14 := F_coder_nb14'
 refine og_retRW X15 hx hZ hlk hEL hS e15 es hk CR hret rfl rfl rfl (hb hby d2_69) (by decide) (by decide) ?_
 rw [e15]; exact ⟨_, _, _, rfl, N, K, sz_nb14, E_nb14, F_value_nb14, F_coder_nb14, V_nb15⟩
theorem rm_mk3 (l : Launch) (Z : State) (a0 : Array Value) (hw : HW a0 Z) (c0 c1 c2 c3 : Int32) (hc0 : 0 ≤ c0.toInt ∧ c0.toInt ≤ 255) (hc1 : 0 ≤ c1.toInt ∧ c1.toInt ≤ 255) (hc2 : 0 ≤ c2.toInt ∧ c2.toInt ≤ 255) (hc3 : 0 ≤ c3.toInt ∧ c3.toInt ≤ 255) (cs : Int32) (hcs : ¬ cs = 0) (h0 : Heap) (n0 : Nat) (O : Old Z n0 h0) (hEL : EW Z a0 own_EL) (S_CS : Sta Z Z.heap "java/lang/String" "COMPACT_STRINGS" "Z" (.int cs)) :
  ConW l Z own_EL [] (⟨"com/example/tombstone/tombstone/config/TableNameParsePinLaw", "mk", "(ICCCC)Ljava/lang/String;"⟩ : MethodName) method_3_code 6 (some (.object "java/lang/String")) ({ frames := 4, cells := 3, slots := 10, locals := 66 } : Room) #[(.int 3), (.int c0), (.int c1), (.int c2), (.int c3)] h0 (fun v h L => ∃ a b k, v = some (.ref a) ∧ Fr n0 L ∧ Keep h0 h [] ∧ h0.size ≤ a ∧ Exa Z h a "java/lang/String" ∧ Fld Z h a "java/lang/String" "value" "[B" (.ref b) ∧ Fld Z h a "java/lang/String" "coder" "B" (.int 0) ∧ Arv Z h b k .byte (3 : Int32) [(.int c0.toInt8.toInt32), (.int c1.toInt8.toInt32), (.int c2.toInt8.toInt32)] (.int 0)) := by
 refine own_startWC opn_2 ?_
 intro p e s m below meth c T0 X0 hx hby hml hZ hown hnm hret hlk e0 es hS CR hsf
 have N := Fr.nil n0; have K := Keep.refl h0 []; have hk := Nat.le_refl h0.size
 refine OG.cast (oef8 m (3 : Int32) c0 c1 c2 c3) ?_
 refine og_iloadN X0 hx rfl (hb hby d2_0) rfl ?_
 refine og_if_gt (pc1 := 15) (pc2 := 4) X0 hx (hb hby d2_1) (by decide) (by decide) rfl (fun _ => ?_) (fun q => absurd q (by decide))
 refine og_iloadN X0 hx rfl (hb hby d2_15) rfl ?_
 refine og_iconst (v := (1 : Int32)) X0 hx rfl (hb hby d2_16) rfl ?_
 refine og_icmp_ne (pc1 := 40) (pc2 := 20) X0 hx (hb hby d2_17) (by decide) (by decide) rfl (fun _ => ?_) (fun q => absurd q (by decide))
 refine og_iloadN X0 hx rfl (hb hby d2_40) rfl ?_
 refine og_iconst (v := (2 : Int32)) X0 hx rfl (hb hby d2_41) rfl ?_
 refine og_icmp_ne (pc1 := 70) (pc2 := 45) X0 hx (hb hby d2_42) (by decide) (by decide) rfl (fun _ => ?_) (fun q => absurd q (by decide))
 refine og_iloadN X0 hx rfl (hb hby d2_70) rfl ?_
 refine og_iconst (v := (3 : Int32)) X0 hx rfl (hb hby d2_71) rfl ?_
 refine og_icmp_ne (pc1 := 105) (pc2 := 75) X0 hx (hb hby d2_72) (by decide) (by decide) rfl (fun q => absurd q (by decide)) (fun _ => ?_)
 refine og_iconst (v := (3 : Int32)) X0 hx rfl (hb hby d2_75) rfl ?_
 refine og_newarray (pc' := 78) (cells' := 1) (slots' := 3) (cap := 3) (ty := .char) X0 hx hZ rfl (ow1 hw) e0 (by decide) (by decide) (by decide) (hb hby d2_76) rfl rfl rfl (by decide) (by decide) (fun T11 h11 nb11 kA11 X11 e11 E11 q11 V_nb11 => ?_)
 have s_nb11 : h0.size ≤ nb11 := Nat.le_of_eq q11.symm; have g_nb11 : n0 ≤ nb11 := Nat.le_trans (own_n0 O) s_nb11; have sz_nb11 : h0.size ≤ nb11 := Nat.le_trans K.1 s_nb11; have Q_nb11 : Safe Z own_EL _ _ nb11 := Safe.new (Z := Z) (EL := own_EL) (vm := s.vm) s_nb11
 have Q_nb11 := Safe.ext E11 CR.1 Q_nb11; have O := O.ext E11; have K := K.ext E11; have hk := Nat.le_trans hk E11.1; have CR := CR.trans (CHr.ext E11 CR.1)
 have V_nb11 : Arv Z h11 nb11 kA11 .char (3 : Int32) [(.int 0), (.int 0), (.int 0)] (.int 0) := V_nb11.pad (pad_rep [] (.int 0) 3)
 refine og_astore (L' := #[.val (.int 3), .val (.int c0), .val (.int c1), .val (.int c2), .val (.int c3), .val (.ref nb11)]) X11 hx rfl rfl (hb hby d2_78) rfl ?_
 refine og_aload X11 hx rfl rfl (hb hby d2_80) rfl ?_
 refine og_iconst (v := (0 : Int32)) X11 hx rfl (hb hby d2_82) rfl ?_
 refine og_iloadN X11 hx rfl (hb hby d2_83) rfl ?_
 refine og_castore X11 hx hZ e11 V_nb11 ⟨by decide, by decide⟩ 0 (by decide) (Nat.le_of_ble_eq_true rfl) (hb hby d2_84) rfl (fun T12 h12 X12 e12 W12 V12 => ?_)
 have sf12 : Safe Z own_EL s.vm h11 nb11 := Q_nb11; have Q_nb11 := Safe.wr W12 sf12 CR.1 Q_nb11; have O := O.wr W12 g_nb11; have K := K.wr W12 (Or.inr sz_nb11); have hk := Nat.le_trans hk (Keep.of_wr W12).1; have CR := CR.trans (CHr.wr W12 sf12 CR.1)
 have N := Fr.snoc X12 N g_nb11
 have V_nb11 : Arv Z h12 nb11 kA11 .char (3 : Int32) [(.int (nar .char c0)), (.int 0), (.int 0)] (.int 0) := V12
 rw [own_nc hc0] at V_nb11
 refine og_aload X12 hx rfl rfl (hb hby d2_85) rfl ?_
 refine og_iconst (v := (1 : Int32)) X12 hx rfl (hb hby d2_87) rfl ?_
 refine og_iloadN X12 hx rfl (hb hby d2_88) rfl ?_
 refine og_castore X12 hx hZ e12 V_nb11 ⟨by decide, by decide⟩ 1 (by decide) (Nat.le_of_ble_eq_true rfl) (hb hby d2_89) rfl (fun T13 h13 X13 e13 W13 V13 => ?_)
 have sf13 : Safe Z own_EL s.vm h12 nb11 := Q_nb11; have Q_nb11 := Safe.wr W13 sf13 CR.1 Q_nb11; have O := O.wr W13 g_nb11; have K := K.wr W13 (Or.inr sz_nb11); have hk := Nat.le_trans hk (Keep.of_wr W13).1; have CR := CR.trans (CHr.wr W13 sf13 CR.1)
 have N := Fr.snoc X13 N g_nb11
 have V_nb11 : Arv Z h13 nb11 kA11 .char (3 : Int32) [(.int c0), (.int (nar .char c1)), (.int 0)] (.int 0) := V13
 rw [own_nc hc1] at V_nb11
 refine og_aload X13 hx rfl rfl (hb hby d2_90) rfl ?_
 refine og_iconst (v := (2 : Int32)) X13 hx rfl (hb hby d2_92) rfl ?_
 refine og_iloadN X13 hx rfl (hb hby d2_93) rfl ?_
 refine og_castore X13 hx hZ e13 V_nb11 ⟨by decide, by decide⟩ 2 (by decide) (Nat.le_of_ble_eq_true rfl) (hb hby d2_94) rfl (fun T14 h14 X14 e14 W14 V14 => ?_)
 have sf14 : Safe Z own_EL s.vm h13 nb11 := Q_nb11; have Q_nb11 := Safe.wr W14 sf14 CR.1 Q_nb11; have O := O.wr W14 g_nb11; have K := K.wr W14 (Or.inr sz_nb11); have hk := Nat.le_trans hk (Keep.of_wr W14).1; have CR := CR.trans (CHr.wr W14 sf14 CR.1)
 have N := Fr.snoc X14 N g_nb11
 have V_nb11 : Arv Z h14 nb11 kA11 .char (3 : Int32) [(.int c0), (.int c1), (.int (nar .char c2))] (.int 0) := V14
 rw [own_nc hc2] at V_nb11
 refine og_new (pc' := 98) (cells' := 2) (slots' := 7) X14 hx hZ hown (ow9 hw) (ow10 hw) (ow11 hw) e14 (hb hby d2_95) rfl rfl rfl (by decide) (by decide) (fun T15 h15 nb15 X15 e15 E15 q15 E_nb15 D15 B15 => ?_)
 have s_nb15 : h14.size ≤ nb15 := Nat.le_of_eq q15.symm; have g_nb15 : n0 ≤ nb15 := Nat.le_trans (own_n0 O) s_nb15; have sz_nb15 : h0.size ≤ nb15 := Nat.le_trans K.1 s_nb15; have ne_nb11_nb15 : nb11 ≠ nb15 := Nat.ne_of_lt (Nat.lt_of_lt_of_le V_nb11.lt s_nb15); have Q_nb15 : Safe Z own_EL _ _ nb15 := Safe.new (Z := Z) (EL := own_EL) (vm := s.vm) s_nb15
 have Q_nb11 := Safe.ext E15 CR.1 Q_nb11; have Q_nb15 := Safe.ext E15 CR.1 Q_nb15; have V_nb11 := V_nb11.ext E15; have O := O.ext E15; have K := K.ext E15; have hk := Nat.le_trans hk E15.1
 have CR := CR.trans (CHr.ext E15 CR.1)
 have F_value_nb15 : Fld Z h15 nb15 "java/lang/String" "value" "[B" .null := D15 (Or.inr (ow24 hw)) (ty := (.array .byte)) (by decide)
 have F_coder_nb15 : Fld Z h15 nb15 "java/lang/String" "coder" "B" (.int 0) := D15 (Or.inr (ow25 hw)) (ty := .byte) (by decide)
 refine og_dup X15 hx rfl (hb hby d2_98) rfl ?_
 refine og_aload X15 hx rfl rfl (hb hby d2_99) rfl ?_
 refine og_special (pc' := 104) (cells' := 3) (slots' := 10) (W := 1) X15 hx hZ (rm_sn_3 l Z a0 hw nb15 nb11 kA11 c0 c1 c2 (own_le255 hc0) (own_le255 hc1) (own_le255 hc2) cs hcs h15 n0 O E_nb15 F_value_nb15 F_coder_nb15 V_nb11 S_CS g_nb15 ne_nb11_nb15) rfl hown (ow12 hw) (ow13 hw) (ow11 hw) (ow14 hw) (by decide) (by rw [hml]; rfl) e15 opd_6 [(.ref nb11)] [(.ref nb15)] rfl rfl rfl rfl (by decide) (by decide) rfl rfl (by decide) (by decide) (hb hby d2_101) rfl (fun v16 T16 h16 L16 X16 e16 z16 => ?_)
 obtain ⟨nb16, k16, rfl, Nq16, K16, sb16, E_nb15', F_value_nb15', F_coder_nb15', V_nb16⟩ := z16; have N := Fr.app N Nq16
 have s_nb16 : h15.size ≤ nb16 := sb16; have g_nb16 : n0 ≤ nb16 := Nat.le_trans (own_n0 O) s_nb16; have sz_nb16 : h0.size ≤ nb16 := Nat.le_trans K.1 s_nb16; have ne_nb11_nb16 : nb11 ≠ nb16 := Nat.ne_of_lt (Nat.lt_of_lt_of_le V_nb11.lt s_nb16); have ne_nb15_nb16 : nb15 ≠ nb16 := Nat.ne_of_lt (Nat.lt_of_lt_of_le E_nb15.lt s_nb16); have Q_nb16 : Safe Z own_EL _ _ nb16 := Safe.new (Z := Z) (EL := own_EL) (vm := s.vm) s_nb16
 have sf16 : ∀ x ∈ ([nb15] : List Addr), Safe Z own_EL s.vm h15 x := (sfS Q_nb15 sf0); have Q_nb11 := Safe.keep K16 sf16 CR.1 Q_nb11; have Q_nb15 := Safe.keep K16 sf16 CR.1 Q_nb15; have Q_nb16 := Safe.keep K16 sf16 CR.1 Q_nb16; have V_nb11 := V_nb11.keep K16 (ninS ne_nb11_nb15 nin0); have E_nb15 := E_nb15.keep K16
 have O := O.keep K16 (allS g_nb15 all0); have K := K.trans K16 (allS (Or.inr sz_nb15) all0); have hk := Nat.le_trans hk K16.1; have CR := CR.trans (CHr.keep K16 sf16 CR.1)
 have E_nb15 := E_nb15'; have F_value_nb15 := F_value_nb15'; have F_coder_nb15 := F_coder_nb15'
 refine og_retRW X16 hx hZ hlk hEL hS e16 es hk CR hret rfl rfl rfl (hb hby d2_104) (by decide) (by decide) ?_
 rw [e16]; exact ⟨_, _, _, rfl, N, K, sz_nb15, E_nb15, F_value_nb15, F_coder_nb15, V_nb16⟩
theorem rm_mk4 (l : Launch) (Z : State) (a0 : Array Value) (hw : HW a0 Z) (c0 c1 c2 c3 : Int32) (hc0 : 0 ≤ c0.toInt ∧ c0.toInt ≤ 255) (hc1 : 0 ≤ c1.toInt ∧ c1.toInt ≤ 255) (hc2 : 0 ≤ c2.toInt ∧ c2.toInt ≤ 255) (hc3 : 0 ≤ c3.toInt ∧ c3.toInt ≤ 255) (cs : Int32) (hcs : ¬ cs = 0) (h0 : Heap) (n0 : Nat) (O : Old Z n0 h0) (hEL : EW Z a0 own_EL) (S_CS : Sta Z Z.heap "java/lang/String" "COMPACT_STRINGS" "Z" (.int cs)) :
  ConW l Z own_EL [] (⟨"com/example/tombstone/tombstone/config/TableNameParsePinLaw", "mk", "(ICCCC)Ljava/lang/String;"⟩ : MethodName) method_3_code 6 (some (.object "java/lang/String")) ({ frames := 4, cells := 3, slots := 12, locals := 66 } : Room) #[(.int 4), (.int c0), (.int c1), (.int c2), (.int c3)] h0 (fun v h L => ∃ a b k, v = some (.ref a) ∧ Fr n0 L ∧ Keep h0 h [] ∧ h0.size ≤ a ∧ Exa Z h a "java/lang/String" ∧ Fld Z h a "java/lang/String" "value" "[B" (.ref b) ∧ Fld Z h a "java/lang/String" "coder" "B" (.int 0) ∧ Arv Z h b k .byte (4 : Int32) [(.int c0.toInt8.toInt32), (.int c1.toInt8.toInt32), (.int c2.toInt8.toInt32), (.int c3.toInt8.toInt32)] (.int 0)) := by
 refine own_startWC opn_2 ?_
 intro p e s m below meth c T0 X0 hx hby hml hZ hown hnm hret hlk e0 es hS CR hsf
 have N := Fr.nil n0; have K := Keep.refl h0 []; have hk := Nat.le_refl h0.size
 refine OG.cast (oef8 m (4 : Int32) c0 c1 c2 c3) ?_
 refine og_iloadN X0 hx rfl (hb hby d2_0) rfl ?_
 refine og_if_gt (pc1 := 15) (pc2 := 4) X0 hx (hb hby d2_1) (by decide) (by decide) rfl (fun _ => ?_) (fun q => absurd q (by decide))
 refine og_iloadN X0 hx rfl (hb hby d2_15) rfl ?_
 refine og_iconst (v := (1 : Int32)) X0 hx rfl (hb hby d2_16) rfl ?_
 refine og_icmp_ne (pc1 := 40) (pc2 := 20) X0 hx (hb hby d2_17) (by decide) (by decide) rfl (fun _ => ?_) (fun q => absurd q (by decide))
 refine og_iloadN X0 hx rfl (hb hby d2_40) rfl ?_
 refine og_iconst (v := (2 : Int32)) X0 hx rfl (hb hby d2_41) rfl ?_
 refine og_icmp_ne (pc1 := 70) (pc2 := 45) X0 hx (hb hby d2_42) (by decide) (by decide) rfl (fun _ => ?_) (fun q => absurd q (by decide))
 refine og_iloadN X0 hx rfl (hb hby d2_70) rfl ?_
 refine og_iconst (v := (3 : Int32)) X0 hx rfl (hb hby d2_71) rfl ?_
 refine og_icmp_ne (pc1 := 105) (pc2 := 75) X0 hx (hb hby d2_72) (by decide) (by decide) rfl (fun _ => ?_) (fun q => absurd q (by decide))
 refine og_iconst (v := (4 : Int32)) X0 hx rfl (hb hby d2_105) rfl ?_
 refine og_newarray (pc' := 108) (cells' := 1) (slots' := 4) (cap := 4) (ty := .char) X0 hx hZ rfl (ow1 hw) e0 (by decide) (by decide) (by decide) (hb hby d2_106) rfl rfl rfl (by decide) (by decide) (fun T11 h11 nb11 kA11 X11 e11 E11 q11 V_nb11 => ?_)
 have s_nb11 : h0.size ≤ nb11 := Nat.le_of_eq q11.symm; have g_nb11 : n0 ≤ nb11 := Nat.le_trans (own_n0 O) s_nb11; have sz_nb11 : h0.size ≤ nb11 := Nat.le_trans K.1 s_nb11; have Q_nb11 : Safe Z own_EL _ _ nb11 := Safe.new (Z := Z) (EL := own_EL) (vm := s.vm) s_nb11
 have Q_nb11 := Safe.ext E11 CR.1 Q_nb11; have O := O.ext E11; have K := K.ext E11; have hk := Nat.le_trans hk E11.1; have CR := CR.trans (CHr.ext E11 CR.1)
 have V_nb11 : Arv Z h11 nb11 kA11 .char (4 : Int32) [(.int 0), (.int 0), (.int 0), (.int 0)] (.int 0) := V_nb11.pad (pad_rep [] (.int 0) 4)
 refine og_astore (L' := #[.val (.int 4), .val (.int c0), .val (.int c1), .val (.int c2), .val (.int c3), .val (.ref nb11)]) X11 hx rfl rfl (hb hby d2_108) rfl ?_
 refine og_aload X11 hx rfl rfl (hb hby d2_110) rfl ?_
 refine og_iconst (v := (0 : Int32)) X11 hx rfl (hb hby d2_112) rfl ?_
 refine og_iloadN X11 hx rfl (hb hby d2_113) rfl ?_
 refine og_castore X11 hx hZ e11 V_nb11 ⟨by decide, by decide⟩ 0 (by decide) (Nat.le_of_ble_eq_true rfl) (hb hby d2_114) rfl (fun T12 h12 X12 e12 W12 V12 => ?_)
 have sf12 : Safe Z own_EL s.vm h11 nb11 := Q_nb11; have Q_nb11 := Safe.wr W12 sf12 CR.1 Q_nb11; have O := O.wr W12 g_nb11; have K := K.wr W12 (Or.inr sz_nb11); have hk := Nat.le_trans hk (Keep.of_wr W12).1; have CR := CR.trans (CHr.wr W12 sf12 CR.1)
 have N := Fr.snoc X12 N g_nb11
 have V_nb11 : Arv Z h12 nb11 kA11 .char (4 : Int32) [(.int (nar .char c0)), (.int 0), (.int 0), (.int 0)] (.int 0) := V12
 rw [own_nc hc0] at V_nb11
 refine og_aload X12 hx rfl rfl (hb hby d2_115) rfl ?_
 refine og_iconst (v := (1 : Int32)) X12 hx rfl (hb hby d2_117) rfl ?_
 refine og_iloadN X12 hx rfl (hb hby d2_118) rfl ?_
 refine og_castore X12 hx hZ e12 V_nb11 ⟨by decide, by decide⟩ 1 (by decide) (Nat.le_of_ble_eq_true rfl) (hb hby d2_119) rfl (fun T13 h13 X13 e13 W13 V13 => ?_)
 have sf13 : Safe Z own_EL s.vm h12 nb11 := Q_nb11; have Q_nb11 := Safe.wr W13 sf13 CR.1 Q_nb11; have O := O.wr W13 g_nb11; have K := K.wr W13 (Or.inr sz_nb11); have hk := Nat.le_trans hk (Keep.of_wr W13).1; have CR := CR.trans (CHr.wr W13 sf13 CR.1)
 have N := Fr.snoc X13 N g_nb11
 have V_nb11 : Arv Z h13 nb11 kA11 .char (4 : Int32) [(.int c0), (.int (nar .char c1)), (.int 0), (.int 0)] (.int 0) := V13
 rw [own_nc hc1] at V_nb11
 refine og_aload X13 hx rfl rfl (hb hby d2_120) rfl ?_
 refine og_iconst (v := (2 : Int32)) X13 hx rfl (hb hby d2_122) rfl ?_
 refine og_iloadN X13 hx rfl (hb hby d2_123) rfl ?_
 refine og_castore X13 hx hZ e13 V_nb11 ⟨by decide, by decide⟩ 2 (by decide) (Nat.le_of_ble_eq_true rfl) (hb hby d2_124) rfl (fun T14 h14 X14 e14 W14 V14 => ?_)
 have sf14 : Safe Z own_EL s.vm h13 nb11 := Q_nb11; have Q_nb11 := Safe.wr W14 sf14 CR.1 Q_nb11; have O := O.wr W14 g_nb11; have K := K.wr W14 (Or.inr sz_nb11); have hk := Nat.le_trans hk (Keep.of_wr W14).1; have CR := CR.trans (CHr.wr W14 sf14 CR.1)
 have N := Fr.snoc X14 N g_nb11
 have V_nb11 : Arv Z h14 nb11 kA11 .char (4 : Int32) [(.int c0), (.int c1), (.int (nar .char c2)), (.int 0)] (.int 0) := V14
 rw [own_nc hc2] at V_nb11
 refine og_aload X14 hx rfl rfl (hb hby d2_125) rfl ?_
 refine og_iconst (v := (3 : Int32)) X14 hx rfl (hb hby d2_127) rfl ?_
 refine og_iload X14 hx rfl (hb hby d2_128) rfl ?_
 refine og_castore X14 hx hZ e14 V_nb11 ⟨by decide, by decide⟩ 3 (by decide) (Nat.le_of_ble_eq_true rfl) (hb hby d2_130) rfl (fun T15 h15 X15 e15 W15 V15 => ?_)
 have sf15 : Safe Z own_EL s.vm h14 nb11 := Q_nb11; have Q_nb11 := Safe.wr W15 sf15 CR.1 Q_nb11; have O := O.wr W15 g_nb11; have K := K.wr W15 (Or.inr sz_nb11); have hk := Nat.le_trans hk (Keep.of_wr W15).1; have CR := CR.trans (CHr.wr W15 sf15 CR.1)
 have N := Fr.snoc X15 N g_nb11
 have V_nb11 : Arv Z h15 nb11 kA11 .char (4 : Int32) [(.int c0), (.int c1), (.int c2), (.int (nar .char c3))] (.int 0) := V15
 rw [own_nc hc3] at V_nb11
 refine og_new (pc' := 134) (cells' := 2) (slots' := 8) X15 hx hZ hown (ow9 hw) (ow10 hw) (ow11 hw) e15 (hb hby d2_131) rfl rfl rfl (by decide) (by decide) (fun T16 h16 nb16 X16 e16 E16 q16 E_nb16 D16 B16 => ?_)
 have s_nb16 : h15.size ≤ nb16 := Nat.le_of_eq q16.symm; have g_nb16 : n0 ≤ nb16 := Nat.le_trans (own_n0 O) s_nb16; have sz_nb16 : h0.size ≤ nb16 := Nat.le_trans K.1 s_nb16; have ne_nb11_nb16 : nb11 ≠ nb16 := Nat.ne_of_lt (Nat.lt_of_lt_of_le V_nb11.lt s_nb16); have Q_nb16 : Safe Z own_EL _ _ nb16 := Safe.new (Z := Z) (EL := own_EL) (vm := s.vm) s_nb16
 have Q_nb11 := Safe.ext E16 CR.1 Q_nb11; have Q_nb16 := Safe.ext E16 CR.1 Q_nb16; have V_nb11 := V_nb11.ext E16; have O := O.ext E16; have K := K.ext E16; have hk := Nat.le_trans hk E16.1
 have CR := CR.trans (CHr.ext E16 CR.1)
 have F_value_nb16 : Fld Z h16 nb16 "java/lang/String" "value" "[B" .null := D16 (Or.inr (ow24 hw)) (ty := (.array .byte)) (by decide)
 have F_coder_nb16 : Fld Z h16 nb16 "java/lang/String" "coder" "B" (.int 0) := D16 (Or.inr (ow25 hw)) (ty := .byte) (by decide)
 refine og_dup X16 hx rfl (hb hby d2_134) rfl ?_
 refine og_aload X16 hx rfl rfl (hb hby d2_135) rfl ?_
 refine og_special (pc' := 140) (cells' := 3) (slots' := 12) (W := 1) X16 hx hZ (rm_sn_4 l Z a0 hw nb16 nb11 kA11 c0 c1 c2 c3 (own_le255 hc0) (own_le255 hc1) (own_le255 hc2) (own_le255 hc3) cs hcs h16 n0 O E_nb16 F_value_nb16 F_coder_nb16 V_nb11 S_CS g_nb16 ne_nb11_nb16) rfl hown (ow12 hw) (ow13 hw) (ow11 hw) (ow14 hw) (by decide) (by rw [hml]; rfl) e16 opd_6 [(.ref nb11)] [(.ref nb16)] rfl rfl rfl rfl (by decide) (by decide) rfl rfl (by decide) (by decide) (hb hby d2_137) rfl (fun v17 T17 h17 L17 X17 e17 z17 => ?_)
 obtain ⟨nb17, k17, rfl, Nq17, K17, sb17, E_nb16', F_value_nb16', F_coder_nb16', V_nb17⟩ := z17; have N := Fr.app N Nq17
 have s_nb17 : h16.size ≤ nb17 := sb17; have g_nb17 : n0 ≤ nb17 := Nat.le_trans (own_n0 O) s_nb17; have sz_nb17 : h0.size ≤ nb17 := Nat.le_trans K.1 s_nb17; have ne_nb11_nb17 : nb11 ≠ nb17 := Nat.ne_of_lt (Nat.lt_of_lt_of_le V_nb11.lt s_nb17); have ne_nb16_nb17 : nb16 ≠ nb17 := Nat.ne_of_lt (Nat.lt_of_lt_of_le E_nb16.lt s_nb17); have Q_nb17 : Safe Z own_EL _ _ nb17 := Safe.new (Z := Z) (EL := own_EL) (vm := s.vm) s_nb17
 have sf17 : ∀ x ∈ ([nb16] : List Addr), Safe Z own_EL s.vm h16 x := (sfS Q_nb16 sf0); have Q_nb11 := Safe.keep K17 sf17 CR.1 Q_nb11; have Q_nb16 := Safe.keep K17 sf17 CR.1 Q_nb16; have Q_nb17 := Safe.keep K17 sf17 CR.1 Q_nb17; have V_nb11 := V_nb11.keep K17 (ninS ne_nb11_nb16 nin0); have E_nb16 := E_nb16.keep K17
 have O := O.keep K17 (allS g_nb16 all0); have K := K.trans K17 (allS (Or.inr sz_nb16) all0); have hk := Nat.le_trans hk K17.1; have CR := CR.trans (CHr.keep K17 sf17 CR.1)
 have E_nb16 := E_nb16'; have F_value_nb16 := F_value_nb16'; have F_coder_nb16 := F_coder_nb16'
 refine og_retRW X17 hx hZ hlk hEL hS e17 es hk CR hret rfl rfl rfl (hb hby d2_140) (by decide) (by decide) ?_
 rw [e17]; exact ⟨_, _, _, rfl, N, K, sz_nb16, E_nb16, F_value_nb16, F_coder_nb16, V_nb17⟩
theorem rm_ce (l : Launch) (Z : State) (a0 : Array Value) (hw : HW a0 Z)  (h0 : Heap) (n0 : Nat) (O : Old Z n0 h0) :
  Con l Z (⟨"java/lang/StringLatin1", "canEncode", "(I)Z"⟩ : MethodName) jdk_43_method_4_code 1 (some .boolean) ({ frames := 0, cells := 0, slots := 0, locals := 0 } : Room) #[(.int 46)] h0 (fun v h L => v = some (.int 1) ∧ Fr n0 L ∧ h = h0) := by
 refine own_startC opn_17 ?_
 intro p e s m below meth c T0 X0 hx hby hml hZ hown hnm hret hlk e0
 have N := Fr.nil n0; have K := Keep.refl h0 []
 refine OG.cast (oef7 m (46 : Int32)) ?_
 refine og_iloadN X0 hx rfl (hb hby d17_0) rfl ?_
 refine og_if_lt (pc1 := 15) (pc2 := 4) X0 hx (hb hby d17_1) (by decide) (by decide) rfl (fun q => absurd q (by decide)) (fun _ => ?_)
 refine og_iloadN X0 hx rfl (hb hby d17_4) rfl ?_
 refine og_sipush (v := (255 : Int32)) X0 hx rfl (hb hby d17_5) rfl ?_
 refine og_icmp_gt (pc1 := 15) (pc2 := 11) X0 hx (hb hby d17_8) (by decide) (by decide) rfl (fun q => absurd q (by decide)) (fun _ => ?_)
 refine og_iconst (v := (1 : Int32)) X0 hx rfl (hb hby d17_11) rfl ?_
 refine og_goto (pc' := 16) X0 hx (hb hby d17_12) (by decide) (by decide) ?_
 refine og_retN X0 hx hlk hret (by simp) (hb hby d17_16) (by decide) (by decide) ?_
 rw [e0]; exact ⟨rfl, N, rfl⟩
theorem rm_il (l : Launch) (Z : State) (a0 : Array Value) (hw : HW a0 Z) (a1 : Addr) (cs : Int32) (hcs : ¬ cs = 0) (h0 : Heap) (n0 : Nat) (O : Old Z n0 h0) (F_coder_a1 : Fld Z h0 a1 "java/lang/String" "coder" "B" (.int 0)) (S_CS : Sta Z Z.heap "java/lang/String" "COMPACT_STRINGS" "Z" (.int cs)) :
  Con l Z (⟨"java/lang/String", "isLatin1", "()Z"⟩ : MethodName) jdk_42_method_154_code 1 (some .boolean) ({ frames := 0, cells := 0, slots := 0, locals := 0 } : Room) #[(.ref a1)] h0 (fun v h L => v = some (.int 1) ∧ Fr n0 L ∧ h = h0) := by
 refine own_startC opn_13 ?_
 intro p e s m below meth c T0 X0 hx hby hml hZ hown hnm hret hlk e0
 have N := Fr.nil n0; have K := Keep.refl h0 []
 refine OG.cast (oef5 m a1) ?_
 refine og_getstatic X0 hx hZ (host := "") hown (Or.inl (ow30 hw)) Via.refl e0 (S_CS.ext O.2) (hb hby d13_0) rfl (fun T11 X11 e11 => ?_)
 refine og_if_eq (pc1 := 17) (pc2 := 6) X11 hx (hb hby d13_3) (by decide) (by decide) rfl (fun q => absurd q hcs) (fun _ => ?_)
 refine og_aloadN X11 hx rfl rfl (hb hby d13_6) rfl ?_
 refine og_getfield X11 hx hZ (host := "") hown (Or.inl (ow29 hw)) Via.refl e11 F_coder_a1 (hb hby d13_7) rfl (fun T12 X12 e12 => ?_)
 refine og_if_ne (pc1 := 17) (pc2 := 13) X12 hx (hb hby d13_10) (by decide) (by decide) rfl (fun q => absurd q (by decide)) (fun _ => ?_)
 refine og_iconst (v := (1 : Int32)) X12 hx rfl (hb hby d13_13) rfl ?_
 refine og_goto (pc' := 18) X12 hx (hb hby d13_14) (by decide) (by decide) ?_
 refine og_retN X12 hx hlk hret (by simp) (hb hby d13_18) (by decide) (by decide) ?_
 rw [e12]; exact ⟨rfl, N, rfl⟩
theorem rm_si (l : Launch) (Z : State) (a0 : Array Value) (hw : HW a0 Z) (a1 b1 : Addr) (h0 : Heap) (n0 : Nat) (O : Old Z n0 h0) (E_a1 : Exa Z h0 a1 "java/lang/String") (F_value_a1 : Fld Z h0 a1 "java/lang/String" "value" "[B" .null) (F_coder_a1 : Fld Z h0 a1 "java/lang/String" "coder" "B" (.int 0)) (g_a1 : n0 ≤ a1) :
  Con l Z (⟨"java/lang/String", "<init>", "([BB)V"⟩ : MethodName) jdk_42_method_151_code 3 none ({ frames := 1, cells := 0, slots := 0, locals := 12 } : Room) #[(.ref a1), (.ref b1), (.int 0)] h0 (fun v h L => v = none ∧ Fr n0 L ∧ Keep h0 h [a1] ∧ Exa Z h a1 "java/lang/String" ∧ Fld Z h a1 "java/lang/String" "value" "[B" (.ref b1) ∧ Fld Z h a1 "java/lang/String" "coder" "B" (.int 0)) := by
 refine own_startC opn_34 ?_
 intro p e s m below meth c T0 X0 hx hby hml hZ hown hnm hret hlk e0
 have N := Fr.nil n0; have K := Keep.refl h0 [a1]
 refine OG.cast (oef9 m a1 b1 (0 : Int32)) ?_
 refine og_aloadN X0 hx rfl rfl (hb hby d34_0) rfl ?_
 refine og_initO (pc' := 4) X0 hx hZ (W := 0) (by rw [hml]; rfl) hown (ow19 hw) (ow20 hw) (ow21 hw) e0 rfl (by decide) (by decide) (hb hby d34_1) rfl (fun T11 X11 e11 => ?_)
 refine og_aloadN X11 hx rfl rfl (hb hby d34_4) rfl ?_
 refine og_aloadN X11 hx rfl rfl (hb hby d34_5) rfl ?_
 refine og_putfield X11 hx hZ (ty := (.array .byte)) (host := "") hown (Or.inl (ow28 hw)) Via.refl e11 F_value_a1 E_a1 (Or.inr ⟨(ow24 hw), rfl, hnm⟩) (ow10 hw) (by decide) rfl rfl (hb hby d34_6) rfl (fun T12 h12 X12 e12 W12 => ?_)
 have F_value_a1_ := F_value_a1.same W12
 have E_a1 := E_a1.wr W12; have F_coder_a1 := F_coder_a1.other W12 (Or.inr (slot_ne (Or.inr (ow25 hw)) (Or.inr (ow24 hw)) (by decide) (t := .byte) (t' := (.array .byte)) (by decide) (by decide))); have O := O.wr W12 g_a1; have K := K.wr W12 (Or.inl (List.mem_of_getElem? (i := 0) rfl))
 have N := Fr.snoc X12 N g_a1; have F_value_a1 := F_value_a1_
 refine og_aloadN X12 hx rfl rfl (hb hby d34_9) rfl ?_
 refine og_iloadN X12 hx rfl (hb hby d34_10) rfl ?_
 refine og_putfield X12 hx hZ (ty := .byte) (host := "") hown (Or.inl (ow29 hw)) Via.refl e12 F_coder_a1 E_a1 (Or.inr ⟨(ow25 hw), rfl, hnm⟩) (ow10 hw) (by decide) rfl rfl (hb hby d34_11) rfl (fun T13 h13 X13 e13 W13 => ?_)
 have F_coder_a1_ := F_coder_a1.same W13
 have E_a1 := E_a1.wr W13; have F_value_a1 := F_value_a1.other W13 (Or.inr (slot_ne (Or.inr (ow24 hw)) (Or.inr (ow25 hw)) (by decide) (t := (.array .byte)) (t' := .byte) (by decide) (by decide))); have O := O.wr W13 g_a1; have K := K.wr W13 (Or.inl (List.mem_of_getElem? (i := 0) rfl))
 have N := Fr.snoc X13 N g_a1; have F_coder_a1 := F_coder_a1_
 refine og_retV X13 hx hlk hret (hb hby d34_14) (by decide) (by decide) ?_
 rw [e13]; exact ⟨rfl, N, K, E_a1, F_value_a1, F_coder_a1⟩
theorem rm_rec (l : Launch) (Z : State) (a0 : Array Value) (hw : HW a0 Z) (a1 : Addr) (h0 : Heap) (n0 : Nat) (O : Old Z n0 h0) :
  Con l Z (⟨"java/lang/Record", "<init>", "()V"⟩ : MethodName) jdk_30_method_1_code 1 none ({ frames := 1, cells := 0, slots := 0, locals := 12 } : Room) #[(.ref a1)] h0 (fun v h L => v = none ∧ Fr n0 L ∧ h = h0) := by
 refine own_startC opn_23 ?_
 intro p e s m below meth c T0 X0 hx hby hml hZ hown hnm hret hlk e0
 have N := Fr.nil n0; have K := Keep.refl h0 []
 refine OG.cast (oef5 m a1) ?_
 refine og_aloadN X0 hx rfl rfl (hb hby d23_0) rfl ?_
 refine og_initO (pc' := 4) X0 hx hZ (W := 0) (by rw [hml]; rfl) hown (ow109 hw) (ow20 hw) (ow21 hw) e0 rfl (by decide) (by decide) (hb hby d23_1) rfl (fun T11 X11 e11 => ?_)
 refine og_retV X11 hx hlk hret (hb hby d23_4) (by decide) (by decide) ?_
 rw [e11]; exact ⟨rfl, N, rfl⟩
theorem rm_rnn (l : Launch) (Z : State) (a0 : Array Value) (hw : HW a0 Z) (a1 a2 : Addr) (h0 : Heap) (n0 : Nat) (O : Old Z n0 h0) :
  Con l Z (⟨"java/util/Objects", "requireNonNull", "(Ljava/lang/Object;Ljava/lang/String;)Ljava/lang/Object;"⟩ : MethodName) jdk_31_method_11_code 2 (some (.object "java/lang/Object")) ({ frames := 0, cells := 0, slots := 0, locals := 0 } : Room) #[(.ref a1), (.ref a2)] h0 (fun v h L => v = some (.ref a1) ∧ Fr n0 L ∧ h = h0) := by
 refine own_startC opn_10 ?_
 intro p e s m below meth c T0 X0 hx hby hml hZ hown hnm hret hlk e0
 have N := Fr.nil n0; have K := Keep.refl h0 []
 refine OG.cast (oef1 m a1 a2) ?_
 refine og_aloadN X0 hx rfl rfl (hb hby d10_0) rfl ?_
 refine og_ifnonnull (pc1 := 13) (pc2 := 4) X0 hx rfl (hb hby d10_1) (by decide) (by decide) rfl (fun _ => ?_) (fun q => absurd q nofun)
 refine og_aloadN X0 hx rfl rfl (hb hby d10_13) rfl ?_
 refine og_retR X0 hx hlk hret rfl rfl rfl (hb hby d10_14) (by decide) (by decide) ?_
 rw [e0]; exact ⟨rfl, N, rfl⟩
theorem rm_emp (l : Launch) (Z : State) (a0 : Array Value) (hw : HW a0 Z) (a1 ba : Addr) (kb : ClassId) (nn : Int32) (vs : List Value) (hn : ¬ nn = 0) (h0 : Heap) (n0 : Nat) (O : Old Z n0 h0) (E_a1 : Exa Z h0 a1 "java/lang/String") (F_value_a1 : Fld Z h0 a1 "java/lang/String" "value" "[B" (.ref ba)) (F_coder_a1 : Fld Z h0 a1 "java/lang/String" "coder" "B" (.int 0)) (V_ba : Arv Z h0 ba kb .byte nn vs (.int 0)) :
  Con l Z (⟨"java/lang/String", "isEmpty", "()Z"⟩ : MethodName) jdk_42_method_55_code 1 (some .boolean) ({ frames := 0, cells := 0, slots := 0, locals := 0 } : Room) #[(.ref a1)] h0 (fun v h L => v = some (.int 0) ∧ Fr n0 L ∧ h = h0) := by
 refine own_startC opn_21 ?_
 intro p e s m below meth c T0 X0 hx hby hml hZ hown hnm hret hlk e0
 have N := Fr.nil n0; have K := Keep.refl h0 []
 refine OG.cast (oef5 m a1) ?_
 refine og_aloadN X0 hx rfl rfl (hb hby d21_0) rfl ?_
 refine og_getfield X0 hx hZ (host := "") hown (Or.inl (ow28 hw)) Via.refl e0 F_value_a1 (hb hby d21_1) rfl (fun T11 X11 e11 => ?_)
 refine og_arraylength X11 hx hZ e11 V_ba (hb hby d21_4) rfl ?_
 refine og_if_ne (pc1 := 12) (pc2 := 8) X11 hx (hb hby d21_5) (by decide) (by decide) rfl (fun _ => ?_) (fun q => absurd q hn)
 refine og_iconst (v := (0 : Int32)) X11 hx rfl (hb hby d21_12) rfl ?_
 refine og_retN X11 hx hlk hret (by simp) (hb hby d21_13) (by decide) (by decide) ?_
 rw [e11]; exact ⟨rfl, N, rfl⟩
theorem rm_tn (l : Launch) (Z : State) (a0 : Array Value) (hw : HW a0 Z) (t1 s1 s2 b1 b2 : Addr) (k1 k2 : ClassId) (m1 m2 : Int32) (vs1 vs2 : List Value) (hn1 : ¬ m1 = 0) (hn2 : ¬ m2 = 0) (h0 : Heap) (n0 : Nat) (O : Old Z n0 h0) (hEL : EW Z a0 own_EL) (E_t1 : Exa Z h0 t1 "com/example/tombstone/tombstone/config/TableName") (F_schema_t1 : Fld Z h0 t1 "com/example/tombstone/tombstone/config/TableName" "schema" "Ljava/lang/String;" .null) (F_name_t1 : Fld Z h0 t1 "com/example/tombstone/tombstone/config/TableName" "name" "Ljava/lang/String;" .null) (E_s1 : Exa Z h0 s1 "java/lang/String") (F_value_s1 : Fld Z h0 s1 "java/lang/String" "value" "[B" (.ref b1)) (F_coder_s1 : Fld Z h0 s1 "java/lang/String" "coder" "B" (.int 0)) (V_b1 : Arv Z h0 b1 k1 .byte m1 vs1 (.int 0)) (E_s2 : Exa Z h0 s2 "java/lang/String") (F_value_s2 : Fld Z h0 s2 "java/lang/String" "value" "[B" (.ref b2)) (F_coder_s2 : Fld Z h0 s2 "java/lang/String" "coder" "B" (.int 0)) (V_b2 : Arv Z h0 b2 k2 .byte m2 vs2 (.int 0)) (g_t1 : n0 ≤ t1) (ne_s1_t1 : s1 ≠ t1) (ne_s2_t1 : s2 ≠ t1) (ne_b1_t1 : b1 ≠ t1) (ne_b2_t1 : b2 ≠ t1) :
  ConW l Z own_EL [] (⟨"com/example/tombstone/tombstone/config/TableName", "<init>", "(Ljava/lang/String;Ljava/lang/String;)V"⟩ : MethodName) prog_8_method_1_code 3 none ({ frames := 2, cells := 4, slots := 48, locals := 24 } : Room) #[(.ref t1), (.ref s1), (.ref s2)] h0 (fun v h L => v = none ∧ Fr n0 L ∧ Keep h0 h [t1] ∧ Fld Z h t1 "com/example/tombstone/tombstone/config/TableName" "schema" "Ljava/lang/String;" (.ref s1) ∧ Fld Z h t1 "com/example/tombstone/tombstone/config/TableName" "name" "Ljava/lang/String;" (.ref s2)) := by
 refine own_startWC opn_22 ?_
 intro p e s m below meth c T0 X0 hx hby hml hZ hown hnm hret hlk e0 es hS CR hsf
 have N := Fr.nil n0; have K := Keep.refl h0 [t1]; have hk := Nat.le_refl h0.size
 refine OG.cast (oef10 m t1 s1 s2) ?_
 refine og_aloadN X0 hx rfl rfl (hb hby d22_0) rfl ?_
 refine og_special (pc' := 4) (cells' := 0) (slots' := 0) (W := 0) X0 hx hZ (rm_rec l Z a0 hw t1 h0 n0 O) rfl hown (ow104 hw) (ow105 hw) (ow107 hw) (ow108 hw) (by decide) (by rw [hml]; rfl) e0 opd_7 [] [] rfl rfl rfl rfl (by decide) (by decide) rfl rfl (by decide) (by decide) (hb hby d22_1) rfl (fun v11 T11 h11 L11 X11 e11 z11 => ?_)
 obtain ⟨rfl, Nq11, hq11⟩ := z11; replace e11 := e11.trans hq11; have N := Fr.app N Nq11
 refine og_aloadN X11 hx rfl rfl (hb hby d22_4) rfl ?_
 refine og_ldcO (pc' := 7) (cells' := 2) (slots' := 28) (n := 24) X11 hx hZ hown (hw _ (List.mem_of_getElem? (i := 110) rfl)) (own_wS hw) e11 hS hk hEL CR.1 (by decide) (by decide) (hb hby d22_5) rfl rfl rfl (by decide) (by decide) (fun na12 T12 h12 kk12 X12 e12 E12 hS hk hZ hown cr12 => ?_)
 have E_t1 := E_t1.ext E12; have F_schema_t1 := F_schema_t1.ext E12; have F_name_t1 := F_name_t1.ext E12; have E_s1 := E_s1.ext E12; have F_value_s1 := F_value_s1.ext E12; have F_coder_s1 := F_coder_s1.ext E12
 have V_b1 := V_b1.ext E12; have E_s2 := E_s2.ext E12; have F_value_s2 := F_value_s2.ext E12; have F_coder_s2 := F_coder_s2.ext E12; have V_b2 := V_b2.ext E12; have O := O.ext E12
 have K := K.ext E12; have CR := CR.trans cr12
 refine og_static (pc' := 10) (cells' := 2) (slots' := 28) (W := 0) X12 hx hZ (rm_rnn l Z a0 hw s1 na12 h12 n0 O) hown (ow46 hw) (ow47 hw) (ow48 hw) (ow49 hw) (by decide) (by rw [hml]; rfl) e12 opd_8 [(.ref s1), (.ref na12)] [] rfl rfl rfl rfl (by decide) (by decide) rfl rfl (by decide) (by decide) (hb hby d22_7) rfl (fun v13 T13 h13 L13 X13 e13 z13 => ?_)
 obtain ⟨rfl, Nq13, hq13⟩ := z13; replace e13 := e13.trans hq13; have N := Fr.app N Nq13
 refine og_pop X13 hx rfl (hb hby d22_10) rfl ?_
 refine og_aloadN X13 hx rfl rfl (hb hby d22_11) rfl ?_
 refine og_ldcO (pc' := 14) (cells' := 4) (slots' := 48) (n := 16) X13 hx hZ hown (hw _ (List.mem_of_getElem? (i := 111) rfl)) (own_wS hw) e13 hS hk hEL CR.1 (by decide) (by decide) (hb hby d22_12) rfl rfl rfl (by decide) (by decide) (fun na14 T14 h14 kk14 X14 e14 E14 hS hk hZ hown cr14 => ?_)
 have E_t1 := E_t1.ext E14; have F_schema_t1 := F_schema_t1.ext E14; have F_name_t1 := F_name_t1.ext E14; have E_s1 := E_s1.ext E14; have F_value_s1 := F_value_s1.ext E14; have F_coder_s1 := F_coder_s1.ext E14
 have V_b1 := V_b1.ext E14; have E_s2 := E_s2.ext E14; have F_value_s2 := F_value_s2.ext E14; have F_coder_s2 := F_coder_s2.ext E14; have V_b2 := V_b2.ext E14; have O := O.ext E14
 have K := K.ext E14; have CR := CR.trans cr14
 refine og_static (pc' := 17) (cells' := 4) (slots' := 48) (W := 0) X14 hx hZ (rm_rnn l Z a0 hw s2 na14 h14 n0 O) hown (ow46 hw) (ow47 hw) (ow48 hw) (ow49 hw) (by decide) (by rw [hml]; rfl) e14 opd_8 [(.ref s2), (.ref na14)] [] rfl rfl rfl rfl (by decide) (by decide) rfl rfl (by decide) (by decide) (hb hby d22_14) rfl (fun v15 T15 h15 L15 X15 e15 z15 => ?_)
 obtain ⟨rfl, Nq15, hq15⟩ := z15; replace e15 := e15.trans hq15; have N := Fr.app N Nq15
 refine og_pop X15 hx rfl (hb hby d22_17) rfl ?_
 refine og_aloadN X15 hx rfl rfl (hb hby d22_18) rfl ?_
 refine og_virtual (pc' := 22) (cells' := 4) (slots' := 48) (W := 0) X15 hx hZ (rm_emp l Z a0 hw s1 b1 k1 m1 _ hn1 h14 n0 O E_s1 F_value_s1 F_coder_s1 V_b1) hown (ow92 hw) (ow93 hw) (own_nf hZ (ow95 hw)) (ow95 hw) (ow94 hw) (ow11 hw) (ow96 hw) (by decide) (by rw [hml]; rfl) e15 opd_9 [] [] rfl rfl rfl rfl (by decide) (by decide) rfl rfl (by decide) (by decide) E_s1 (hb hby d22_19) rfl (fun v16 T16 h16 L16 X16 e16 z16 => ?_)
 obtain ⟨rfl, Nq16, hq16⟩ := z16; replace e16 := e16.trans hq16; have N := Fr.app N Nq16
 refine og_if_ne (pc1 := 32) (pc2 := 25) X16 hx (hb hby d22_22) (by decide) (by decide) rfl (fun q => absurd q (by decide)) (fun _ => ?_)
 refine og_aloadN X16 hx rfl rfl (hb hby d22_25) rfl ?_
 refine og_virtual (pc' := 29) (cells' := 4) (slots' := 48) (W := 0) X16 hx hZ (rm_emp l Z a0 hw s2 b2 k2 m2 _ hn2 h14 n0 O E_s2 F_value_s2 F_coder_s2 V_b2) hown (ow92 hw) (ow93 hw) (own_nf hZ (ow95 hw)) (ow95 hw) (ow94 hw) (ow11 hw) (ow96 hw) (by decide) (by rw [hml]; rfl) e16 opd_9 [] [] rfl rfl rfl rfl (by decide) (by decide) rfl rfl (by decide) (by decide) E_s2 (hb hby d22_26) rfl (fun v17 T17 h17 L17 X17 e17 z17 => ?_)
 obtain ⟨rfl, Nq17, hq17⟩ := z17; replace e17 := e17.trans hq17; have N := Fr.app N Nq17
 refine og_if_eq (pc1 := 42) (pc2 := 32) X17 hx (hb hby d22_29) (by decide) (by decide) rfl (fun _ => ?_) (fun q => absurd q (by decide))
 refine og_aloadN X17 hx rfl rfl (hb hby d22_42) rfl ?_
 refine og_aloadN X17 hx rfl rfl (hb hby d22_43) rfl ?_
 refine og_putfield X17 hx hZ (ty := (.object "java/lang/String")) (host := "") hown (Or.inl (ow112 hw)) Via.refl e17 F_schema_t1 E_t1 (Or.inr ⟨(ow113 hw), rfl, hnm⟩) (ow99 hw) (by decide) rfl rfl (hb hby d22_44) rfl (fun T18 h18 X18 e18 W18 => ?_)
 have F_schema_t1_ := F_schema_t1.same W18
 have sf18 : Safe Z own_EL T14.vm h14 t1 := (Safe.exa hZ.alike E_t1 (by decide) (by decide)); have E_t1 := E_t1.wr W18; have F_name_t1 := F_name_t1.other W18 (Or.inr (slot_ne (Or.inr (ow115 hw)) (Or.inr (ow113 hw)) (by decide) (t := (.object "java/lang/String")) (t' := (.object "java/lang/String")) (by decide) (by decide))); have E_s1 := E_s1.wr W18; have F_value_s1 := F_value_s1.other W18 (Or.inl ne_s1_t1); have F_coder_s1 := F_coder_s1.other W18 (Or.inl ne_s1_t1)
 have V_b1 := V_b1.other W18 ne_b1_t1; have E_s2 := E_s2.wr W18; have F_value_s2 := F_value_s2.other W18 (Or.inl ne_s2_t1); have F_coder_s2 := F_coder_s2.other W18 (Or.inl ne_s2_t1); have V_b2 := V_b2.other W18 ne_b2_t1; have O := O.wr W18 g_t1
 have K := K.wr W18 (Or.inl (List.mem_of_getElem? (i := 0) rfl)); have hk := Nat.le_trans hk (Keep.of_wr W18).1; have CR := CR.trans (CHr.wr W18 sf18 CR.1)
 have N := Fr.snoc X18 N g_t1; have F_schema_t1 := F_schema_t1_
 refine og_aloadN X18 hx rfl rfl (hb hby d22_47) rfl ?_
 refine og_aloadN X18 hx rfl rfl (hb hby d22_48) rfl ?_
 refine og_putfield X18 hx hZ (ty := (.object "java/lang/String")) (host := "") hown (Or.inl (ow114 hw)) Via.refl e18 F_name_t1 E_t1 (Or.inr ⟨(ow115 hw), rfl, hnm⟩) (ow99 hw) (by decide) rfl rfl (hb hby d22_49) rfl (fun T19 h19 X19 e19 W19 => ?_)
 have F_name_t1_ := F_name_t1.same W19
 have sf19 : Safe Z own_EL T14.vm h18 t1 := (Safe.exa hZ.alike E_t1 (by decide) (by decide)); have E_t1 := E_t1.wr W19; have E_s1 := E_s1.wr W19; have F_value_s1 := F_value_s1.other W19 (Or.inl ne_s1_t1); have F_coder_s1 := F_coder_s1.other W19 (Or.inl ne_s1_t1); have V_b1 := V_b1.other W19 ne_b1_t1
 have E_s2 := E_s2.wr W19; have F_value_s2 := F_value_s2.other W19 (Or.inl ne_s2_t1); have F_coder_s2 := F_coder_s2.other W19 (Or.inl ne_s2_t1); have V_b2 := V_b2.other W19 ne_b2_t1; have F_schema_t1 := F_schema_t1.other W19 (Or.inr (slot_ne (Or.inr (ow113 hw)) (Or.inr (ow115 hw)) (by decide) (t := (.object "java/lang/String")) (t' := (.object "java/lang/String")) (by decide) (by decide))); have O := O.wr W19 g_t1
 have K := K.wr W19 (Or.inl (List.mem_of_getElem? (i := 0) rfl)); have hk := Nat.le_trans hk (Keep.of_wr W19).1; have CR := CR.trans (CHr.wr W19 sf19 CR.1)
 have N := Fr.snoc X19 N g_t1; have F_name_t1 := F_name_t1_
 refine og_retVW X19 hx hZ hlk hEL hS e19 es hk CR hret (hb hby d22_52) (by decide) (by decide) ?_
 rw [e19]; exact ⟨rfl, N, K, F_schema_t1, F_name_t1⟩
theorem rm_max_0_0 (l : Launch) (Z : State) (a0 : Array Value) (hw : HW a0 Z)  (h0 : Heap) (n0 : Nat) (O : Old Z n0 h0) :
  Con l Z (⟨"java/lang/Math", "max", "(II)I"⟩ : MethodName) jdk_29_method_65_code 2 (some .int) ({ frames := 0, cells := 0, slots := 0, locals := 0 } : Room) #[(.int 0), (.int 0)] h0 (fun v h L => v = some (.int 0) ∧ Fr n0 L ∧ h = h0) := by
 refine own_startC opn_18 ?_
 intro p e s m below meth c T0 X0 hx hby hml hZ hown hnm hret hlk e0
 have N := Fr.nil n0; have K := Keep.refl h0 []
 refine OG.cast (oef11 m (0 : Int32) (0 : Int32)) ?_
 refine og_iloadN X0 hx rfl (hb hby d18_0) rfl ?_
 refine og_iloadN X0 hx rfl (hb hby d18_1) rfl ?_
 refine og_icmp_lt (pc1 := 9) (pc2 := 5) X0 hx (hb hby d18_2) (by decide) (by decide) rfl (fun q => absurd q (by decide)) (fun _ => ?_)
 refine og_iloadN X0 hx rfl (hb hby d18_5) rfl ?_
 refine og_goto (pc' := 10) X0 hx (hb hby d18_6) (by decide) (by decide) ?_
 refine og_retI X0 hx hlk hret (hb hby d18_10) (by decide) (by decide) ?_
 rw [e0]; exact ⟨rfl, N, rfl⟩
theorem rm_min_1_1 (l : Launch) (Z : State) (a0 : Array Value) (hw : HW a0 Z)  (h0 : Heap) (n0 : Nat) (O : Old Z n0 h0) :
  Con l Z (⟨"java/lang/Math", "min", "(II)I"⟩ : MethodName) jdk_29_method_69_code 2 (some .int) ({ frames := 0, cells := 0, slots := 0, locals := 0 } : Room) #[(.int 1), (.int 1)] h0 (fun v h L => v = some (.int 1) ∧ Fr n0 L ∧ h = h0) := by
 refine own_startC opn_19 ?_
 intro p e s m below meth c T0 X0 hx hby hml hZ hown hnm hret hlk e0
 have N := Fr.nil n0; have K := Keep.refl h0 []
 refine OG.cast (oef11 m (1 : Int32) (1 : Int32)) ?_
 refine og_iloadN X0 hx rfl (hb hby d19_0) rfl ?_
 refine og_iloadN X0 hx rfl (hb hby d19_1) rfl ?_
 refine og_icmp_gt (pc1 := 9) (pc2 := 5) X0 hx (hb hby d19_2) (by decide) (by decide) rfl (fun q => absurd q (by decide)) (fun _ => ?_)
 refine og_iloadN X0 hx rfl (hb hby d19_5) rfl ?_
 refine og_goto (pc' := 10) X0 hx (hb hby d19_6) (by decide) (by decide) ?_
 refine og_retI X0 hx hlk hret (hb hby d19_10) (by decide) (by decide) ?_
 rw [e0]; exact ⟨rfl, N, rfl⟩
theorem rm_ic_1_n_0 (l : Launch) (Z : State) (a0 : Array Value) (hw : HW a0 Z) (ba : Addr) (kb : ClassId) (u0 : Int32) (hu0 : ¬ u0 = 46) (h0 : Heap) (n0 : Nat) (O : Old Z n0 h0) (V_ba : Arv Z h0 ba kb .byte (1 : Int32) [(.int u0)] (.int 0)) :
  Con l Z (⟨"java/lang/StringLatin1", "indexOfChar", "([BIII)I"⟩ : MethodName) jdk_43_method_23_code 6 (some .int) ({ frames := 0, cells := 0, slots := 0, locals := 0 } : Room) #[(.ref ba), (.int 46), (.int 0), (.int 1)] h0 (fun v h L => v = some (.int (-1)) ∧ Fr n0 L ∧ h = h0) := by
 refine own_startC opn_20 ?_
 intro p e s m below meth c T0 X0 hx hby hml hZ hown hnm hret hlk e0
 have N := Fr.nil n0; have K := Keep.refl h0 []
 refine OG.cast (oef12 m ba (46 : Int32) (0 : Int32) (1 : Int32)) ?_
 refine og_iloadN X0 hx rfl (hb hby d20_0) rfl ?_
 refine og_i2b X0 hx (hb hby d20_1) rfl ?_
 show OG p e below _ (T0.setTop (mkF m 2 #[.val (.ref ba), .val (.int 46), .val (.int 0), .val (.int 1), .unset, .unset] [(.int 46)]))
 refine og_istore (L' := #[.val (.ref ba), .val (.int 46), .val (.int 0), .val (.int 1), .val (.int 46), .unset]) X0 hx rfl (hb hby d20_2) rfl ?_
 refine og_iloadN X0 hx rfl (hb hby d20_4) rfl ?_
 refine og_istore (L' := #[.val (.ref ba), .val (.int 46), .val (.int 0), .val (.int 1), .val (.int 46), .val (.int 0)]) X0 hx rfl (hb hby d20_5) rfl ?_
 refine og_iload X0 hx rfl (hb hby d20_7) rfl ?_
 refine og_iloadN X0 hx rfl (hb hby d20_9) rfl ?_
 refine og_icmp_ge (pc1 := 31) (pc2 := 13) X0 hx (hb hby d20_10) (by decide) (by decide) rfl (fun q => absurd q (by decide)) (fun _ => ?_)
 refine og_aloadN X0 hx rfl rfl (hb hby d20_13) rfl ?_
 refine og_iload X0 hx rfl (hb hby d20_14) rfl ?_
 refine og_baload (v := (.int u0)) X0 hx hZ e0 V_ba ⟨by decide, by decide⟩ rfl (hb hby d20_16) rfl ?_
 refine og_iload X0 hx rfl (hb hby d20_17) rfl ?_
 refine og_icmp_ne (pc1 := 25) (pc2 := 22) X0 hx (hb hby d20_19) (by decide) (by decide) rfl (fun _ => ?_) (fun q => absurd q hu0)
 refine og_iinc (L' := #[.val (.ref ba), .val (.int 46), .val (.int 0), .val (.int 1), .val (.int 46), .val (.int 1)]) (w := (1 : Int32)) X0 hx rfl rfl rfl (hb hby d20_25) rfl ?_
 refine og_goto (pc' := 7) X0 hx (hb hby d20_28) (by decide) (by decide) ?_
 refine og_iload X0 hx rfl (hb hby d20_7) rfl ?_
 refine og_iloadN X0 hx rfl (hb hby d20_9) rfl ?_
 refine og_icmp_ge (pc1 := 31) (pc2 := 13) X0 hx (hb hby d20_10) (by decide) (by decide) rfl (fun _ => ?_) (fun q => absurd q (by decide))
 refine og_iconst (v := (-1 : Int32)) X0 hx rfl (hb hby d20_31) rfl ?_
 refine og_retI X0 hx hlk hret (hb hby d20_32) (by decide) (by decide) ?_
 rw [e0]; exact ⟨rfl, N, rfl⟩
theorem rm_li_1_n_0 (l : Launch) (Z : State) (a0 : Array Value) (hw : HW a0 Z) (ba : Addr) (kb : ClassId) (u0 : Int32) (hu0 : ¬ u0 = 46) (h0 : Heap) (n0 : Nat) (O : Old Z n0 h0) (V_ba : Arv Z h0 ba kb .byte (1 : Int32) [(.int u0)] (.int 0)) :
  Con l Z (⟨"java/lang/StringLatin1", "indexOf", "([BIII)I"⟩ : MethodName) jdk_43_method_22_code 4 (some .int) ({ frames := 1, cells := 0, slots := 0, locals := 17 } : Room) #[(.ref ba), (.int 46), (.int 0), (.int 1)] h0 (fun v h L => v = some (.int (-1)) ∧ Fr n0 L ∧ h = h0) := by
 refine own_startC opn_16 ?_
 intro p e s m below meth c T0 X0 hx hby hml hZ hown hnm hret hlk e0
 have N := Fr.nil n0; have K := Keep.refl h0 []
 refine OG.cast (oef13 m ba (46 : Int32) (0 : Int32) (1 : Int32)) ?_
 refine og_iloadN X0 hx rfl (hb hby d16_0) rfl ?_
 refine og_static (pc' := 4) (cells' := 0) (slots' := 0) (W := 0) X0 hx hZ (rm_ce l Z a0 hw h0 n0 O) hown (ow79 hw) (ow80 hw) (ow77 hw) (ow81 hw) (by decide) (by rw [hml]; rfl) e0 opd_10 [(.int 46)] [] rfl rfl rfl rfl (by decide) (by decide) rfl rfl (by decide) (by decide) (hb hby d16_1) rfl (fun v11 T11 h11 L11 X11 e11 z11 => ?_)
 obtain ⟨rfl, Nq11, hq11⟩ := z11; replace e11 := e11.trans hq11; have N := Fr.app N Nq11
 refine og_if_ne (pc1 := 9) (pc2 := 7) X11 hx (hb hby d16_4) (by decide) (by decide) rfl (fun _ => ?_) (fun q => absurd q (by decide))
 refine og_iloadN X11 hx rfl (hb hby d16_9) rfl ?_
 refine og_iconst (v := (0 : Int32)) X11 hx rfl (hb hby d16_10) rfl ?_
 refine og_static (pc' := 14) (cells' := 0) (slots' := 0) (W := 0) X11 hx hZ (rm_max_0_0 l Z a0 hw h0 n0 O) hown (ow82 hw) (ow83 hw) (ow84 hw) (ow85 hw) (by decide) (by rw [hml]; rfl) e11 opd_11 [(.int 0), (.int 0)] [] rfl rfl rfl rfl (by decide) (by decide) rfl rfl (by decide) (by decide) (hb hby d16_11) rfl (fun v12 T12 h12 L12 X12 e12 z12 => ?_)
 obtain ⟨rfl, Nq12, hq12⟩ := z12; replace e12 := e12.trans hq12; have N := Fr.app N Nq12
 refine og_istoreN (L' := #[.val (.ref ba), .val (.int 46), .val (.int 0), .val (.int 1)]) X12 hx rfl (hb hby d16_14) rfl ?_
 refine og_iloadN X12 hx rfl (hb hby d16_15) rfl ?_
 refine og_aloadN X12 hx rfl rfl (hb hby d16_16) rfl ?_
 refine og_arraylength X12 hx hZ e12 V_ba (hb hby d16_17) rfl ?_
 refine og_static (pc' := 21) (cells' := 0) (slots' := 0) (W := 0) X12 hx hZ (rm_min_1_1 l Z a0 hw h0 n0 O) hown (ow86 hw) (ow87 hw) (ow84 hw) (ow88 hw) (by decide) (by rw [hml]; rfl) e12 opd_11 [(.int 1), (.int 1)] [] rfl rfl rfl rfl (by decide) (by decide) rfl rfl (by decide) (by decide) (hb hby d16_18) rfl (fun v13 T13 h13 L13 X13 e13 z13 => ?_)
 obtain ⟨rfl, Nq13, hq13⟩ := z13; replace e13 := e13.trans hq13; have N := Fr.app N Nq13
 refine og_istoreN (L' := #[.val (.ref ba), .val (.int 46), .val (.int 0), .val (.int 1)]) X13 hx rfl (hb hby d16_21) rfl ?_
 refine og_iloadN X13 hx rfl (hb hby d16_22) rfl ?_
 refine og_iloadN X13 hx rfl (hb hby d16_23) rfl ?_
 refine og_icmp_lt (pc1 := 29) (pc2 := 27) X13 hx (hb hby d16_24) (by decide) (by decide) rfl (fun _ => ?_) (fun q => absurd q (by decide))
 refine og_aloadN X13 hx rfl rfl (hb hby d16_29) rfl ?_
 refine og_iloadN X13 hx rfl (hb hby d16_30) rfl ?_
 refine og_iloadN X13 hx rfl (hb hby d16_31) rfl ?_
 refine og_iloadN X13 hx rfl (hb hby d16_32) rfl ?_
 refine og_static (pc' := 36) (cells' := 0) (slots' := 0) (W := 0) X13 hx hZ (rm_ic_1_n_0 l Z a0 hw ba kb u0 hu0 h0 n0 O V_ba) hown (ow89 hw) (ow90 hw) (ow77 hw) (ow91 hw) (by decide) (by rw [hml]; rfl) e13 opd_12 [(.ref ba), (.int 46), (.int 0), (.int 1)] [] rfl rfl rfl rfl (by decide) (by decide) rfl rfl (by decide) (by decide) (hb hby d16_33) rfl (fun v14 T14 h14 L14 X14 e14 z14 => ?_)
 obtain ⟨rfl, Nq14, hq14⟩ := z14; replace e14 := e14.trans hq14; have N := Fr.app N Nq14
 refine og_retI X14 hx hlk hret (hb hby d16_36) (by decide) (by decide) ?_
 rw [e14]; exact ⟨rfl, N, rfl⟩
theorem rm_i2_1_n_0 (l : Launch) (Z : State) (a0 : Array Value) (hw : HW a0 Z) (a1 ba : Addr) (kb : ClassId) (u0 : Int32) (hu0 : ¬ u0 = 46) (cs : Int32) (hcs : ¬ cs = 0) (h0 : Heap) (n0 : Nat) (O : Old Z n0 h0) (E_a1 : Exa Z h0 a1 "java/lang/String") (F_value_a1 : Fld Z h0 a1 "java/lang/String" "value" "[B" (.ref ba)) (F_coder_a1 : Fld Z h0 a1 "java/lang/String" "coder" "B" (.int 0)) (V_ba : Arv Z h0 ba kb .byte (1 : Int32) [(.int u0)] (.int 0)) (S_CS : Sta Z Z.heap "java/lang/String" "COMPACT_STRINGS" "Z" (.int cs)) :
  Con l Z (⟨"java/lang/String", "indexOf", "(II)I"⟩ : MethodName) jdk_42_method_80_code 3 (some .int) ({ frames := 2, cells := 0, slots := 0, locals := 32 } : Room) #[(.ref a1), (.int 46), (.int 0)] h0 (fun v h L => v = some (.int (-1)) ∧ Fr n0 L ∧ h = h0) := by
 refine own_startC opn_12 ?_
 intro p e s m below meth c T0 X0 hx hby hml hZ hown hnm hret hlk e0
 have N := Fr.nil n0; have K := Keep.refl h0 []
 refine OG.cast (oef14 m a1 (46 : Int32) (0 : Int32)) ?_
 refine og_aloadN X0 hx rfl rfl (hb hby d12_0) rfl ?_
 refine og_virtual (pc' := 4) (cells' := 0) (slots' := 0) (W := 0) X0 hx hZ (rm_il l Z a0 hw a1 cs hcs h0 n0 O F_coder_a1 S_CS) hown (ow60 hw) (ow61 hw) (own_nf hZ (ow63 hw)) (ow63 hw) (ow62 hw) (ow11 hw) (ow64 hw) (by decide) (by rw [hml]; rfl) e0 opd_9 [] [] rfl rfl rfl rfl (by decide) (by decide) rfl rfl (by decide) (by decide) E_a1 (hb hby d12_1) rfl (fun v11 T11 h11 L11 X11 e11 z11 => ?_)
 obtain ⟨rfl, Nq11, hq11⟩ := z11; replace e11 := e11.trans hq11; have N := Fr.app N Nq11
 refine og_if_eq (pc1 := 23) (pc2 := 7) X11 hx (hb hby d12_4) (by decide) (by decide) rfl (fun q => absurd q (by decide)) (fun _ => ?_)
 refine og_aloadN X11 hx rfl rfl (hb hby d12_7) rfl ?_
 refine og_getfield X11 hx hZ (host := "") hown (Or.inl (ow28 hw)) Via.refl e11 F_value_a1 (hb hby d12_8) rfl (fun T12 X12 e12 => ?_)
 refine og_iloadN X12 hx rfl (hb hby d12_11) rfl ?_
 refine og_iloadN X12 hx rfl (hb hby d12_12) rfl ?_
 refine og_aloadN X12 hx rfl rfl (hb hby d12_13) rfl ?_
 refine og_virtual (pc' := 17) (cells' := 0) (slots' := 0) (W := 3) X12 hx hZ (rm_len l Z a0 hw a1 ba kb (1 : Int32) _ cs hcs h0 n0 O E_a1 F_value_a1 F_coder_a1 V_ba S_CS) hown (ow65 hw) (ow66 hw) (own_nf hZ (ow68 hw)) (ow68 hw) (ow67 hw) (ow11 hw) (ow69 hw) (by decide) (by rw [hml]; rfl) e12 opd_13 [] [(.int 0), (.int 46), (.ref ba)] rfl rfl rfl rfl (by decide) (by decide) rfl rfl (by decide) (by decide) E_a1 (hb hby d12_14) rfl (fun v13 T13 h13 L13 X13 e13 z13 => ?_)
 obtain ⟨rfl, Nq13, hq13⟩ := z13; replace e13 := e13.trans hq13; have N := Fr.app N Nq13
 refine og_static (pc' := 20) (cells' := 0) (slots' := 0) (W := 0) X13 hx hZ (rm_li_1_n_0 l Z a0 hw ba kb u0 hu0 h0 n0 O V_ba) hown (ow75 hw) (ow76 hw) (ow77 hw) (ow78 hw) (by decide) (by rw [hml]; rfl) e13 opd_12 [(.ref ba), (.int 46), (.int 0), (.int 1)] [] rfl rfl rfl rfl (by decide) (by decide) rfl rfl (by decide) (by decide) (hb hby d12_17) rfl (fun v14 T14 h14 L14 X14 e14 z14 => ?_)
 obtain ⟨rfl, Nq14, hq14⟩ := z14; replace e14 := e14.trans hq14; have N := Fr.app N Nq14
 refine og_goto (pc' := 36) X14 hx (hb hby d12_20) (by decide) (by decide) ?_
 refine og_retI X14 hx hlk hret (hb hby d12_36) (by decide) (by decide) ?_
 rw [e14]; exact ⟨rfl, N, rfl⟩
theorem rm_ix_1_n_0 (l : Launch) (Z : State) (a0 : Array Value) (hw : HW a0 Z) (a1 ba : Addr) (kb : ClassId) (u0 : Int32) (hu0 : ¬ u0 = 46) (cs : Int32) (hcs : ¬ cs = 0) (h0 : Heap) (n0 : Nat) (O : Old Z n0 h0) (E_a1 : Exa Z h0 a1 "java/lang/String") (F_value_a1 : Fld Z h0 a1 "java/lang/String" "value" "[B" (.ref ba)) (F_coder_a1 : Fld Z h0 a1 "java/lang/String" "coder" "B" (.int 0)) (V_ba : Arv Z h0 ba kb .byte (1 : Int32) [(.int u0)] (.int 0)) (S_CS : Sta Z Z.heap "java/lang/String" "COMPACT_STRINGS" "Z" (.int cs)) :
  Con l Z (⟨"java/lang/String", "indexOf", "(I)I"⟩ : MethodName) jdk_42_method_79_code 2 (some .int) ({ frames := 3, cells := 0, slots := 0, locals := 46 } : Room) #[(.ref a1), (.int 46)] h0 (fun v h L => v = some (.int (-1)) ∧ Fr n0 L ∧ h = h0) := by
 refine own_startC opn_11 ?_
 intro p e s m below meth c T0 X0 hx hby hml hZ hown hnm hret hlk e0
 have N := Fr.nil n0; have K := Keep.refl h0 []
 refine OG.cast (oef4 m a1 (46 : Int32)) ?_
 refine og_aloadN X0 hx rfl rfl (hb hby d11_0) rfl ?_
 refine og_iloadN X0 hx rfl (hb hby d11_1) rfl ?_
 refine og_iconst (v := (0 : Int32)) X0 hx rfl (hb hby d11_2) rfl ?_
 refine og_virtual (pc' := 6) (cells' := 0) (slots' := 0) (W := 0) X0 hx hZ (rm_i2_1_n_0 l Z a0 hw a1 ba kb u0 hu0 cs hcs h0 n0 O E_a1 F_value_a1 F_coder_a1 V_ba S_CS) hown (ow55 hw) (ow56 hw) (own_nf hZ (ow58 hw)) (ow58 hw) (ow57 hw) (ow11 hw) (ow59 hw) (by decide) (by rw [hml]; rfl) e0 opd_11 [(.int 46), (.int 0)] [] rfl rfl rfl rfl (by decide) (by decide) rfl rfl (by decide) (by decide) E_a1 (hb hby d11_3) rfl (fun v11 T11 h11 L11 X11 e11 z11 => ?_)
 obtain ⟨rfl, Nq11, hq11⟩ := z11; replace e11 := e11.trans hq11; have N := Fr.app N Nq11
 refine og_retI X11 hx hlk hret (hb hby d11_6) (by decide) (by decide) ?_
 rw [e11]; exact ⟨rfl, N, rfl⟩
theorem rm_pa1_n (l : Launch) (Z : State) (a0 : Array Value) (hw : HW a0 Z) (a1 ba : Addr) (kb : ClassId) (u0 : Int32) (hu0 : ¬ u0 = 46) (cs : Int32) (hcs : ¬ cs = 0) (fm : Value) (hfm : fm.isRef = true) (h0 : Heap) (n0 : Nat) (O : Old Z n0 h0) (hEL : EW Z a0 own_EL) (E_a1 : Exa Z h0 a1 "java/lang/String") (F_value_a1 : Fld Z h0 a1 "java/lang/String" "value" "[B" (.ref ba)) (F_coder_a1 : Fld Z h0 a1 "java/lang/String" "coder" "B" (.int 0)) (V_ba : Arv Z h0 ba kb .byte (1 : Int32) [(.int u0)] (.int 0)) (S_CS : Sta Z Z.heap "java/lang/String" "COMPACT_STRINGS" "Z" (.int cs)) (S_FM : Sta Z Z.heap "jdk/internal/util/Preconditions" "SIOOBE_FORMATTER" "Ljava/util/function/BiFunction;" fm) :
  ConW l Z own_EL [] (⟨"com/example/tombstone/tombstone/config/TableName", "parse", "(Ljava/lang/String;)Lcom/example/tombstone/tombstone/config/TableName;"⟩ : MethodName) prog_8_method_2_code 4 (some (.object "com/example/tombstone/tombstone/config/TableName")) ({ frames := 4, cells := 9, slots := 110, locals := 59 } : Room) #[(.ref a1)] h0 (fun v h L => ∃ t x bx kx, v = some (.ref t) ∧ Fr n0 L ∧ Keep h0 h [] ∧ Exa Z h t "com/example/tombstone/tombstone/config/TableName" ∧ Fld Z h t "com/example/tombstone/tombstone/config/TableName" "schema" "Ljava/lang/String;" (.ref x) ∧ Fld Z h t "com/example/tombstone/tombstone/config/TableName" "name" "Ljava/lang/String;" (.ref a1) ∧ Exa Z h x "java/lang/String" ∧ Fld Z h x "java/lang/String" "value" "[B" (.ref bx) ∧ Fld Z h x "java/lang/String" "coder" "B" (.int 0) ∧ Arv Z h bx kx .byte (6 : Int32) [(.int 112), (.int 117), (.int 98), (.int 108), (.int 105), (.int 99)] (.int 0)) := by
 refine own_startWC opn_9 ?_
 intro p e s m below meth c T0 X0 hx hby hml hZ hown hnm hret hlk e0 es hS CR hsf
 have N := Fr.nil n0; have K := Keep.refl h0 []; have hk := Nat.le_refl h0.size
 refine OG.cast (oef15 m a1) ?_
 refine og_aloadN X0 hx rfl rfl (hb hby d9_0) rfl ?_
 refine og_ldcO (pc' := 3) (cells' := 2) (slots' := 32) (n := 28) X0 hx hZ hown (hw _ (List.mem_of_getElem? (i := 45) rfl)) (own_wS hw) e0 hS hk hEL CR.1 (by decide) (by decide) (hb hby d9_1) rfl rfl rfl (by decide) (by decide) (fun na11 T11 h11 kk11 X11 e11 E11 hS hk hZ hown cr11 => ?_)
 have E_a1 := E_a1.ext E11; have F_value_a1 := F_value_a1.ext E11; have F_coder_a1 := F_coder_a1.ext E11; have V_ba := V_ba.ext E11; have O := O.ext E11; have K := K.ext E11
 have CR := CR.trans cr11
 refine og_static (pc' := 6) (cells' := 2) (slots' := 32) (W := 0) X11 hx hZ (rm_rnn l Z a0 hw a1 na11 h11 n0 O) hown (ow46 hw) (ow47 hw) (ow48 hw) (ow49 hw) (by decide) (by rw [hml]; rfl) e11 opd_8 [(.ref a1), (.ref na11)] [] rfl rfl rfl rfl (by decide) (by decide) rfl rfl (by decide) (by decide) (hb hby d9_3) rfl (fun v12 T12 h12 L12 X12 e12 z12 => ?_)
 obtain ⟨rfl, Nq12, hq12⟩ := z12; replace e12 := e12.trans hq12; have N := Fr.app N Nq12
 refine og_pop X12 hx rfl (hb hby d9_6) rfl ?_
 refine og_aloadN X12 hx rfl rfl (hb hby d9_7) rfl ?_
 refine og_bipush (v := (46 : Int32)) X12 hx rfl (hb hby d9_8) rfl ?_
 refine og_virtual (pc' := 13) (cells' := 2) (slots' := 32) (W := 0) X12 hx hZ (rm_ix_1_n_0 l Z a0 hw a1 ba kb u0 hu0 cs hcs h11 n0 O E_a1 F_value_a1 F_coder_a1 V_ba S_CS) hown (ow50 hw) (ow51 hw) (own_nf hZ (ow53 hw)) (ow53 hw) (ow52 hw) (ow11 hw) (ow54 hw) (by decide) (by rw [hml]; rfl) e12 opd_14 [(.int 46)] [] rfl rfl rfl rfl (by decide) (by decide) rfl rfl (by decide) (by decide) E_a1 (hb hby d9_10) rfl (fun v13 T13 h13 L13 X13 e13 z13 => ?_)
 obtain ⟨rfl, Nq13, hq13⟩ := z13; replace e13 := e13.trans hq13; have N := Fr.app N Nq13
 refine og_istoreN (L' := #[.val (.ref a1), .val (.int (-1)), .unset, .unset]) X13 hx rfl (hb hby d9_13) rfl ?_
 refine og_iloadN X13 hx rfl (hb hby d9_14) rfl ?_
 refine og_if_lt (pc1 := 30) (pc2 := 18) X13 hx (hb hby d9_15) (by decide) (by decide) rfl (fun _ => ?_) (fun q => absurd q (by decide))
 refine og_iconst (v := (1 : Int32)) X13 hx rfl (hb hby d9_30) rfl ?_
 refine og_goto (pc' := 35) X13 hx (hb hby d9_31) (by decide) (by decide) ?_
 refine og_istoreN (L' := #[.val (.ref a1), .val (.int (-1)), .val (.int 1), .unset]) X13 hx rfl (hb hby d9_35) rfl ?_
 refine og_aloadN X13 hx rfl rfl (hb hby d9_36) rfl ?_
 refine og_virtual (pc' := 40) (cells' := 2) (slots' := 32) (W := 0) X13 hx hZ (rm_emp l Z a0 hw a1 ba kb (1 : Int32) _ (by decide) h11 n0 O E_a1 F_value_a1 F_coder_a1 V_ba) hown (ow92 hw) (ow93 hw) (own_nf hZ (ow95 hw)) (ow95 hw) (ow94 hw) (ow11 hw) (ow96 hw) (by decide) (by rw [hml]; rfl) e13 opd_9 [] [] rfl rfl rfl rfl (by decide) (by decide) rfl rfl (by decide) (by decide) E_a1 (hb hby d9_37) rfl (fun v14 T14 h14 L14 X14 e14 z14 => ?_)
 obtain ⟨rfl, Nq14, hq14⟩ := z14; replace e14 := e14.trans hq14; have N := Fr.app N Nq14
 refine og_if_ne (pc1 := 61) (pc2 := 43) X14 hx (hb hby d9_40) (by decide) (by decide) rfl (fun q => absurd q (by decide)) (fun _ => ?_)
 refine og_iloadN X14 hx rfl (hb hby d9_43) rfl ?_
 refine og_if_eq (pc1 := 61) (pc2 := 47) X14 hx (hb hby d9_44) (by decide) (by decide) rfl (fun q => absurd q (by decide)) (fun _ => ?_)
 refine og_iloadN X14 hx rfl (hb hby d9_47) rfl ?_
 refine og_aloadN X14 hx rfl rfl (hb hby d9_48) rfl ?_
 refine og_virtual (pc' := 52) (cells' := 2) (slots' := 32) (W := 1) X14 hx hZ (rm_len l Z a0 hw a1 ba kb (1 : Int32) _ cs hcs h11 n0 O E_a1 F_value_a1 F_coder_a1 V_ba S_CS) hown (ow97 hw) (ow66 hw) (own_nf hZ (ow68 hw)) (ow68 hw) (ow67 hw) (ow11 hw) (ow69 hw) (by decide) (by rw [hml]; rfl) e14 opd_13 [] [(.int (-1))] rfl rfl rfl rfl (by decide) (by decide) rfl rfl (by decide) (by decide) E_a1 (hb hby d9_49) rfl (fun v15 T15 h15 L15 X15 e15 z15 => ?_)
 obtain ⟨rfl, Nq15, hq15⟩ := z15; replace e15 := e15.trans hq15; have N := Fr.app N Nq15
 refine og_iconst (v := (1 : Int32)) X15 hx rfl (hb hby d9_52) rfl ?_
 refine og_isub X15 hx (hb hby d9_53) rfl ?_
 show OG p e below _ (T15.setTop (mkF m 54 #[.val (.ref a1), .val (.int (-1)), .val (.int 1), .unset] [(.int 0), (.int (-1))]))
 refine og_icmp_eq (pc1 := 61) (pc2 := 57) X15 hx (hb hby d9_54) (by decide) (by decide) rfl (fun q => absurd q (by decide)) (fun _ => ?_)
 refine og_iconst (v := (1 : Int32)) X15 hx rfl (hb hby d9_57) rfl ?_
 refine og_goto (pc' := 62) X15 hx (hb hby d9_58) (by decide) (by decide) ?_
 refine og_istoreN (L' := #[.val (.ref a1), .val (.int (-1)), .val (.int 1), .val (.int 1)]) X15 hx rfl (hb hby d9_62) rfl ?_
 refine og_iloadN X15 hx rfl (hb hby d9_63) rfl ?_
 refine og_if_eq (pc1 := 71) (pc2 := 67) X15 hx (hb hby d9_64) (by decide) (by decide) rfl (fun q => absurd q (by decide)) (fun _ => ?_)
 refine og_iloadN X15 hx rfl (hb hby d9_67) rfl ?_
 refine og_if_ne (pc1 := 85) (pc2 := 71) X15 hx (hb hby d9_68) (by decide) (by decide) rfl (fun _ => ?_) (fun q => absurd q (by decide))
 refine og_iloadN X15 hx rfl (hb hby d9_85) rfl ?_
 refine og_if_ge (pc1 := 102) (pc2 := 89) X15 hx (hb hby d9_86) (by decide) (by decide) rfl (fun q => absurd q (by decide)) (fun _ => ?_)
 refine og_new (pc' := 92) (cells' := 3) (slots' := 34) X15 hx hZ hown (ow98 hw) (ow99 hw) (ow43 hw) e15 (hb hby d9_89) rfl rfl rfl (by decide) (by decide) (fun T16 h16 nb16 X16 e16 E16 q16 E_nb16 D16 B16 => ?_)
 have s_nb16 : h11.size ≤ nb16 := Nat.le_of_eq q16.symm; have g_nb16 : n0 ≤ nb16 := Nat.le_trans (own_n0 O) s_nb16; have sz_nb16 : h0.size ≤ nb16 := Nat.le_trans K.1 s_nb16; have ne_a1_nb16 : a1 ≠ nb16 := Nat.ne_of_lt (Nat.lt_of_lt_of_le E_a1.lt s_nb16); have ne_ba_nb16 : ba ≠ nb16 := Nat.ne_of_lt (Nat.lt_of_lt_of_le V_ba.lt s_nb16); have Q_nb16 : Safe Z own_EL _ _ nb16 := Safe.new (Z := Z) (EL := own_EL) (vm := T11.vm) s_nb16
 have Q_nb16 := Safe.ext E16 CR.1 Q_nb16; have E_a1 := E_a1.ext E16; have F_value_a1 := F_value_a1.ext E16; have F_coder_a1 := F_coder_a1.ext E16; have V_ba := V_ba.ext E16; have O := O.ext E16
 have K := K.ext E16; have hk := Nat.le_trans hk E16.1; have CR := CR.trans (CHr.ext E16 CR.1)
 have F_schema_nb16 : Fld Z h16 nb16 "com/example/tombstone/tombstone/config/TableName" "schema" "Ljava/lang/String;" .null := D16 (Or.inr (ow113 hw)) (ty := (.object "java/lang/String")) (by decide)
 have F_name_nb16 : Fld Z h16 nb16 "com/example/tombstone/tombstone/config/TableName" "name" "Ljava/lang/String;" .null := D16 (Or.inr (ow115 hw)) (ty := (.object "java/lang/String")) (by decide)
 refine og_dup X16 hx rfl (hb hby d9_92) rfl ?_
 refine og_ldcS (pc' := 95) (cells' := 5) (slots' := 62) (n := 24) (z := (6 : Int32)) (vs := [(.int 112), (.int 117), (.int 98), (.int 108), (.int 105), (.int 99)]) X16 hx hZ hown (hw _ (List.mem_of_getElem? (i := 100) rfl)) (own_wS hw) e16 hS hk hEL (by decide) CR.1 ⟨by decide, by decide⟩ (by decide) (by decide) (by decide) (by decide) (hb hby d9_93) rfl rfl rfl (by decide) (by decide) (fun na17 T17 h17 kk17 nb17 k17 X17 e17 E17 hS hk hZ hown E_na17 F_coder_na17 F_value_na17 V_nb17 cr17 hne17 => ?_)
 have Q_nb16 := cr17.safe E_nb16.lt Q_nb16; have E_a1 := E_a1.ext E17; have F_value_a1 := F_value_a1.ext E17; have F_coder_a1 := F_coder_a1.ext E17; have V_ba := V_ba.ext E17; have E_nb16 := E_nb16.ext E17
 have F_schema_nb16 := F_schema_nb16.ext E17; have F_name_nb16 := F_name_nb16.ext E17; have O := O.ext E17; have K := K.ext E17; have CR := CR.trans cr17
 have ne_nb16_na17 := (hne17 _ Q_nb16).1; have ne_nb16_nb17 := (hne17 _ Q_nb16).2
 refine og_aloadN X17 hx rfl rfl (hb hby d9_95) rfl ?_
 refine og_specialW (pc' := 99) (cells' := 9) (slots' := 110) (W := 1) X17 hx hZ (rm_tn l Z a0 hw nb16 na17 a1 nb17 ba k17 kb (6 : Int32) (1 : Int32) _ _ (by decide) (by decide) h17 n0 O hEL E_nb16 F_schema_nb16 F_name_nb16 E_na17 F_value_na17 F_coder_na17 V_nb17 E_a1 F_value_a1 F_coder_a1 V_ba g_nb16 (Ne.symm ne_nb16_na17) ne_a1_nb16 (Ne.symm ne_nb16_nb17) ne_ba_nb16) hEL hS hk CR.1 all0 rfl hown (ow101 hw) (ow102 hw) (ow43 hw) (ow103 hw) (by decide) (by rw [hml]; rfl) e17 opd_15 [(.ref na17), (.ref a1)] [(.ref nb16)] rfl rfl rfl rfl (by decide) (by decide) rfl rfl (by decide) (by decide) (hb hby d9_96) rfl (fun v18 T18 h18 L18 kk18 X18 e18 hS hk hZ hown cr18 z18 => ?_)
 obtain ⟨rfl, Nq18, K18, F_schema_nb16', F_name_nb16'⟩ := z18; have N := Fr.app N Nq18
 have Q_nb16 := cr18.safe E_nb16.lt Q_nb16; have E_a1 := E_a1.keep K18; have F_value_a1 := F_value_a1.keep K18 (ninS ne_a1_nb16 nin0); have F_coder_a1 := F_coder_a1.keep K18 (ninS ne_a1_nb16 nin0); have V_ba := V_ba.keep K18 (ninS ne_ba_nb16 nin0); have E_nb16 := E_nb16.keep K18
 have E_na17 := E_na17.keep K18; have F_value_na17 := F_value_na17.keep K18 (ninS (Ne.symm ne_nb16_na17) nin0); have F_coder_na17 := F_coder_na17.keep K18 (ninS (Ne.symm ne_nb16_na17) nin0); have V_nb17 := V_nb17.keep K18 (ninS (Ne.symm ne_nb16_nb17) nin0); have O := O.keep K18 (allS g_nb16 all0); have K := K.trans K18 (allS (Or.inr sz_nb16) all0)
 have CR := CR.trans cr18
 have F_schema_nb16 := F_schema_nb16'; have F_name_nb16 := F_name_nb16'
 refine og_goto (pc' := 122) X18 hx (hb hby d9_99) (by decide) (by decide) ?_
 refine og_retRW X18 hx hZ hlk hEL hS e18 es hk CR hret rfl rfl rfl (hb hby d9_122) (by decide) (by decide) ?_
 rw [e18]; exact ⟨nb16, na17, _, _, rfl, N, K, E_nb16, F_schema_nb16, F_name_nb16, E_na17, F_value_na17, F_coder_na17, V_nb17⟩
theorem rm_min_2_2 (l : Launch) (Z : State) (a0 : Array Value) (hw : HW a0 Z)  (h0 : Heap) (n0 : Nat) (O : Old Z n0 h0) :
  Con l Z (⟨"java/lang/Math", "min", "(II)I"⟩ : MethodName) jdk_29_method_69_code 2 (some .int) ({ frames := 0, cells := 0, slots := 0, locals := 0 } : Room) #[(.int 2), (.int 2)] h0 (fun v h L => v = some (.int 2) ∧ Fr n0 L ∧ h = h0) := by
 refine own_startC opn_19 ?_
 intro p e s m below meth c T0 X0 hx hby hml hZ hown hnm hret hlk e0
 have N := Fr.nil n0; have K := Keep.refl h0 []
 refine OG.cast (oef11 m (2 : Int32) (2 : Int32)) ?_
 refine og_iloadN X0 hx rfl (hb hby d19_0) rfl ?_
 refine og_iloadN X0 hx rfl (hb hby d19_1) rfl ?_
 refine og_icmp_gt (pc1 := 9) (pc2 := 5) X0 hx (hb hby d19_2) (by decide) (by decide) rfl (fun q => absurd q (by decide)) (fun _ => ?_)
 refine og_iloadN X0 hx rfl (hb hby d19_5) rfl ?_
 refine og_goto (pc' := 10) X0 hx (hb hby d19_6) (by decide) (by decide) ?_
 refine og_retI X0 hx hlk hret (hb hby d19_10) (by decide) (by decide) ?_
 rw [e0]; exact ⟨rfl, N, rfl⟩
theorem rm_ic_2_n_0 (l : Launch) (Z : State) (a0 : Array Value) (hw : HW a0 Z) (ba : Addr) (kb : ClassId) (u0 u1 : Int32) (hu0 : ¬ u0 = 46) (hu1 : ¬ u1 = 46) (h0 : Heap) (n0 : Nat) (O : Old Z n0 h0) (V_ba : Arv Z h0 ba kb .byte (2 : Int32) [(.int u0), (.int u1)] (.int 0)) :
  Con l Z (⟨"java/lang/StringLatin1", "indexOfChar", "([BIII)I"⟩ : MethodName) jdk_43_method_23_code 6 (some .int) ({ frames := 0, cells := 0, slots := 0, locals := 0 } : Room) #[(.ref ba), (.int 46), (.int 0), (.int 2)] h0 (fun v h L => v = some (.int (-1)) ∧ Fr n0 L ∧ h = h0) := by
 refine own_startC opn_20 ?_
 intro p e s m below meth c T0 X0 hx hby hml hZ hown hnm hret hlk e0
 have N := Fr.nil n0; have K := Keep.refl h0 []
 refine OG.cast (oef12 m ba (46 : Int32) (0 : Int32) (2 : Int32)) ?_
 refine og_iloadN X0 hx rfl (hb hby d20_0) rfl ?_
 refine og_i2b X0 hx (hb hby d20_1) rfl ?_
 show OG p e below _ (T0.setTop (mkF m 2 #[.val (.ref ba), .val (.int 46), .val (.int 0), .val (.int 2), .unset, .unset] [(.int 46)]))
 refine og_istore (L' := #[.val (.ref ba), .val (.int 46), .val (.int 0), .val (.int 2), .val (.int 46), .unset]) X0 hx rfl (hb hby d20_2) rfl ?_
 refine og_iloadN X0 hx rfl (hb hby d20_4) rfl ?_
 refine og_istore (L' := #[.val (.ref ba), .val (.int 46), .val (.int 0), .val (.int 2), .val (.int 46), .val (.int 0)]) X0 hx rfl (hb hby d20_5) rfl ?_
 refine og_iload X0 hx rfl (hb hby d20_7) rfl ?_
 refine og_iloadN X0 hx rfl (hb hby d20_9) rfl ?_
 refine og_icmp_ge (pc1 := 31) (pc2 := 13) X0 hx (hb hby d20_10) (by decide) (by decide) rfl (fun q => absurd q (by decide)) (fun _ => ?_)
 refine og_aloadN X0 hx rfl rfl (hb hby d20_13) rfl ?_
 refine og_iload X0 hx rfl (hb hby d20_14) rfl ?_
 refine og_baload (v := (.int u0)) X0 hx hZ e0 V_ba ⟨by decide, by decide⟩ rfl (hb hby d20_16) rfl ?_
 refine og_iload X0 hx rfl (hb hby d20_17) rfl ?_
 refine og_icmp_ne (pc1 := 25) (pc2 := 22) X0 hx (hb hby d20_19) (by decide) (by decide) rfl (fun _ => ?_) (fun q => absurd q hu0)
 refine og_iinc (L' := #[.val (.ref ba), .val (.int 46), .val (.int 0), .val (.int 2), .val (.int 46), .val (.int 1)]) (w := (1 : Int32)) X0 hx rfl rfl rfl (hb hby d20_25) rfl ?_
 refine og_goto (pc' := 7) X0 hx (hb hby d20_28) (by decide) (by decide) ?_
 refine og_iload X0 hx rfl (hb hby d20_7) rfl ?_
 refine og_iloadN X0 hx rfl (hb hby d20_9) rfl ?_
 refine og_icmp_ge (pc1 := 31) (pc2 := 13) X0 hx (hb hby d20_10) (by decide) (by decide) rfl (fun q => absurd q (by decide)) (fun _ => ?_)
 refine og_aloadN X0 hx rfl rfl (hb hby d20_13) rfl ?_
 refine og_iload X0 hx rfl (hb hby d20_14) rfl ?_
 refine og_baload (v := (.int u1)) X0 hx hZ e0 V_ba ⟨by decide, by decide⟩ rfl (hb hby d20_16) rfl ?_
 refine og_iload X0 hx rfl (hb hby d20_17) rfl ?_
 refine og_icmp_ne (pc1 := 25) (pc2 := 22) X0 hx (hb hby d20_19) (by decide) (by decide) rfl (fun _ => ?_) (fun q => absurd q hu1)
 refine og_iinc (L' := #[.val (.ref ba), .val (.int 46), .val (.int 0), .val (.int 2), .val (.int 46), .val (.int 2)]) (w := (1 : Int32)) X0 hx rfl rfl rfl (hb hby d20_25) rfl ?_
 refine og_goto (pc' := 7) X0 hx (hb hby d20_28) (by decide) (by decide) ?_
 refine og_iload X0 hx rfl (hb hby d20_7) rfl ?_
 refine og_iloadN X0 hx rfl (hb hby d20_9) rfl ?_
 refine og_icmp_ge (pc1 := 31) (pc2 := 13) X0 hx (hb hby d20_10) (by decide) (by decide) rfl (fun _ => ?_) (fun q => absurd q (by decide))
 refine og_iconst (v := (-1 : Int32)) X0 hx rfl (hb hby d20_31) rfl ?_
 refine og_retI X0 hx hlk hret (hb hby d20_32) (by decide) (by decide) ?_
 rw [e0]; exact ⟨rfl, N, rfl⟩
theorem rm_li_2_n_0 (l : Launch) (Z : State) (a0 : Array Value) (hw : HW a0 Z) (ba : Addr) (kb : ClassId) (u0 u1 : Int32) (hu0 : ¬ u0 = 46) (hu1 : ¬ u1 = 46) (h0 : Heap) (n0 : Nat) (O : Old Z n0 h0) (V_ba : Arv Z h0 ba kb .byte (2 : Int32) [(.int u0), (.int u1)] (.int 0)) :
  Con l Z (⟨"java/lang/StringLatin1", "indexOf", "([BIII)I"⟩ : MethodName) jdk_43_method_22_code 4 (some .int) ({ frames := 1, cells := 0, slots := 0, locals := 17 } : Room) #[(.ref ba), (.int 46), (.int 0), (.int 2)] h0 (fun v h L => v = some (.int (-1)) ∧ Fr n0 L ∧ h = h0) := by
 refine own_startC opn_16 ?_
 intro p e s m below meth c T0 X0 hx hby hml hZ hown hnm hret hlk e0
 have N := Fr.nil n0; have K := Keep.refl h0 []
 refine OG.cast (oef13 m ba (46 : Int32) (0 : Int32) (2 : Int32)) ?_
 refine og_iloadN X0 hx rfl (hb hby d16_0) rfl ?_
 refine og_static (pc' := 4) (cells' := 0) (slots' := 0) (W := 0) X0 hx hZ (rm_ce l Z a0 hw h0 n0 O) hown (ow79 hw) (ow80 hw) (ow77 hw) (ow81 hw) (by decide) (by rw [hml]; rfl) e0 opd_10 [(.int 46)] [] rfl rfl rfl rfl (by decide) (by decide) rfl rfl (by decide) (by decide) (hb hby d16_1) rfl (fun v11 T11 h11 L11 X11 e11 z11 => ?_)
 obtain ⟨rfl, Nq11, hq11⟩ := z11; replace e11 := e11.trans hq11; have N := Fr.app N Nq11
 refine og_if_ne (pc1 := 9) (pc2 := 7) X11 hx (hb hby d16_4) (by decide) (by decide) rfl (fun _ => ?_) (fun q => absurd q (by decide))
 refine og_iloadN X11 hx rfl (hb hby d16_9) rfl ?_
 refine og_iconst (v := (0 : Int32)) X11 hx rfl (hb hby d16_10) rfl ?_
 refine og_static (pc' := 14) (cells' := 0) (slots' := 0) (W := 0) X11 hx hZ (rm_max_0_0 l Z a0 hw h0 n0 O) hown (ow82 hw) (ow83 hw) (ow84 hw) (ow85 hw) (by decide) (by rw [hml]; rfl) e11 opd_11 [(.int 0), (.int 0)] [] rfl rfl rfl rfl (by decide) (by decide) rfl rfl (by decide) (by decide) (hb hby d16_11) rfl (fun v12 T12 h12 L12 X12 e12 z12 => ?_)
 obtain ⟨rfl, Nq12, hq12⟩ := z12; replace e12 := e12.trans hq12; have N := Fr.app N Nq12
 refine og_istoreN (L' := #[.val (.ref ba), .val (.int 46), .val (.int 0), .val (.int 2)]) X12 hx rfl (hb hby d16_14) rfl ?_
 refine og_iloadN X12 hx rfl (hb hby d16_15) rfl ?_
 refine og_aloadN X12 hx rfl rfl (hb hby d16_16) rfl ?_
 refine og_arraylength X12 hx hZ e12 V_ba (hb hby d16_17) rfl ?_
 refine og_static (pc' := 21) (cells' := 0) (slots' := 0) (W := 0) X12 hx hZ (rm_min_2_2 l Z a0 hw h0 n0 O) hown (ow86 hw) (ow87 hw) (ow84 hw) (ow88 hw) (by decide) (by rw [hml]; rfl) e12 opd_11 [(.int 2), (.int 2)] [] rfl rfl rfl rfl (by decide) (by decide) rfl rfl (by decide) (by decide) (hb hby d16_18) rfl (fun v13 T13 h13 L13 X13 e13 z13 => ?_)
 obtain ⟨rfl, Nq13, hq13⟩ := z13; replace e13 := e13.trans hq13; have N := Fr.app N Nq13
 refine og_istoreN (L' := #[.val (.ref ba), .val (.int 46), .val (.int 0), .val (.int 2)]) X13 hx rfl (hb hby d16_21) rfl ?_
 refine og_iloadN X13 hx rfl (hb hby d16_22) rfl ?_
 refine og_iloadN X13 hx rfl (hb hby d16_23) rfl ?_
 refine og_icmp_lt (pc1 := 29) (pc2 := 27) X13 hx (hb hby d16_24) (by decide) (by decide) rfl (fun _ => ?_) (fun q => absurd q (by decide))
 refine og_aloadN X13 hx rfl rfl (hb hby d16_29) rfl ?_
 refine og_iloadN X13 hx rfl (hb hby d16_30) rfl ?_
 refine og_iloadN X13 hx rfl (hb hby d16_31) rfl ?_
 refine og_iloadN X13 hx rfl (hb hby d16_32) rfl ?_
 refine og_static (pc' := 36) (cells' := 0) (slots' := 0) (W := 0) X13 hx hZ (rm_ic_2_n_0 l Z a0 hw ba kb u0 u1 hu0 hu1 h0 n0 O V_ba) hown (ow89 hw) (ow90 hw) (ow77 hw) (ow91 hw) (by decide) (by rw [hml]; rfl) e13 opd_12 [(.ref ba), (.int 46), (.int 0), (.int 2)] [] rfl rfl rfl rfl (by decide) (by decide) rfl rfl (by decide) (by decide) (hb hby d16_33) rfl (fun v14 T14 h14 L14 X14 e14 z14 => ?_)
 obtain ⟨rfl, Nq14, hq14⟩ := z14; replace e14 := e14.trans hq14; have N := Fr.app N Nq14
 refine og_retI X14 hx hlk hret (hb hby d16_36) (by decide) (by decide) ?_
 rw [e14]; exact ⟨rfl, N, rfl⟩
theorem rm_i2_2_n_0 (l : Launch) (Z : State) (a0 : Array Value) (hw : HW a0 Z) (a1 ba : Addr) (kb : ClassId) (u0 u1 : Int32) (hu0 : ¬ u0 = 46) (hu1 : ¬ u1 = 46) (cs : Int32) (hcs : ¬ cs = 0) (h0 : Heap) (n0 : Nat) (O : Old Z n0 h0) (E_a1 : Exa Z h0 a1 "java/lang/String") (F_value_a1 : Fld Z h0 a1 "java/lang/String" "value" "[B" (.ref ba)) (F_coder_a1 : Fld Z h0 a1 "java/lang/String" "coder" "B" (.int 0)) (V_ba : Arv Z h0 ba kb .byte (2 : Int32) [(.int u0), (.int u1)] (.int 0)) (S_CS : Sta Z Z.heap "java/lang/String" "COMPACT_STRINGS" "Z" (.int cs)) :
  Con l Z (⟨"java/lang/String", "indexOf", "(II)I"⟩ : MethodName) jdk_42_method_80_code 3 (some .int) ({ frames := 2, cells := 0, slots := 0, locals := 32 } : Room) #[(.ref a1), (.int 46), (.int 0)] h0 (fun v h L => v = some (.int (-1)) ∧ Fr n0 L ∧ h = h0) := by
 refine own_startC opn_12 ?_
 intro p e s m below meth c T0 X0 hx hby hml hZ hown hnm hret hlk e0
 have N := Fr.nil n0; have K := Keep.refl h0 []
 refine OG.cast (oef14 m a1 (46 : Int32) (0 : Int32)) ?_
 refine og_aloadN X0 hx rfl rfl (hb hby d12_0) rfl ?_
 refine og_virtual (pc' := 4) (cells' := 0) (slots' := 0) (W := 0) X0 hx hZ (rm_il l Z a0 hw a1 cs hcs h0 n0 O F_coder_a1 S_CS) hown (ow60 hw) (ow61 hw) (own_nf hZ (ow63 hw)) (ow63 hw) (ow62 hw) (ow11 hw) (ow64 hw) (by decide) (by rw [hml]; rfl) e0 opd_9 [] [] rfl rfl rfl rfl (by decide) (by decide) rfl rfl (by decide) (by decide) E_a1 (hb hby d12_1) rfl (fun v11 T11 h11 L11 X11 e11 z11 => ?_)
 obtain ⟨rfl, Nq11, hq11⟩ := z11; replace e11 := e11.trans hq11; have N := Fr.app N Nq11
 refine og_if_eq (pc1 := 23) (pc2 := 7) X11 hx (hb hby d12_4) (by decide) (by decide) rfl (fun q => absurd q (by decide)) (fun _ => ?_)
 refine og_aloadN X11 hx rfl rfl (hb hby d12_7) rfl ?_
 refine og_getfield X11 hx hZ (host := "") hown (Or.inl (ow28 hw)) Via.refl e11 F_value_a1 (hb hby d12_8) rfl (fun T12 X12 e12 => ?_)
 refine og_iloadN X12 hx rfl (hb hby d12_11) rfl ?_
 refine og_iloadN X12 hx rfl (hb hby d12_12) rfl ?_
 refine og_aloadN X12 hx rfl rfl (hb hby d12_13) rfl ?_
 refine og_virtual (pc' := 17) (cells' := 0) (slots' := 0) (W := 3) X12 hx hZ (rm_len l Z a0 hw a1 ba kb (2 : Int32) _ cs hcs h0 n0 O E_a1 F_value_a1 F_coder_a1 V_ba S_CS) hown (ow65 hw) (ow66 hw) (own_nf hZ (ow68 hw)) (ow68 hw) (ow67 hw) (ow11 hw) (ow69 hw) (by decide) (by rw [hml]; rfl) e12 opd_13 [] [(.int 0), (.int 46), (.ref ba)] rfl rfl rfl rfl (by decide) (by decide) rfl rfl (by decide) (by decide) E_a1 (hb hby d12_14) rfl (fun v13 T13 h13 L13 X13 e13 z13 => ?_)
 obtain ⟨rfl, Nq13, hq13⟩ := z13; replace e13 := e13.trans hq13; have N := Fr.app N Nq13
 refine og_static (pc' := 20) (cells' := 0) (slots' := 0) (W := 0) X13 hx hZ (rm_li_2_n_0 l Z a0 hw ba kb u0 u1 hu0 hu1 h0 n0 O V_ba) hown (ow75 hw) (ow76 hw) (ow77 hw) (ow78 hw) (by decide) (by rw [hml]; rfl) e13 opd_12 [(.ref ba), (.int 46), (.int 0), (.int 2)] [] rfl rfl rfl rfl (by decide) (by decide) rfl rfl (by decide) (by decide) (hb hby d12_17) rfl (fun v14 T14 h14 L14 X14 e14 z14 => ?_)
 obtain ⟨rfl, Nq14, hq14⟩ := z14; replace e14 := e14.trans hq14; have N := Fr.app N Nq14
 refine og_goto (pc' := 36) X14 hx (hb hby d12_20) (by decide) (by decide) ?_
 refine og_retI X14 hx hlk hret (hb hby d12_36) (by decide) (by decide) ?_
 rw [e14]; exact ⟨rfl, N, rfl⟩
theorem rm_ix_2_n_0 (l : Launch) (Z : State) (a0 : Array Value) (hw : HW a0 Z) (a1 ba : Addr) (kb : ClassId) (u0 u1 : Int32) (hu0 : ¬ u0 = 46) (hu1 : ¬ u1 = 46) (cs : Int32) (hcs : ¬ cs = 0) (h0 : Heap) (n0 : Nat) (O : Old Z n0 h0) (E_a1 : Exa Z h0 a1 "java/lang/String") (F_value_a1 : Fld Z h0 a1 "java/lang/String" "value" "[B" (.ref ba)) (F_coder_a1 : Fld Z h0 a1 "java/lang/String" "coder" "B" (.int 0)) (V_ba : Arv Z h0 ba kb .byte (2 : Int32) [(.int u0), (.int u1)] (.int 0)) (S_CS : Sta Z Z.heap "java/lang/String" "COMPACT_STRINGS" "Z" (.int cs)) :
  Con l Z (⟨"java/lang/String", "indexOf", "(I)I"⟩ : MethodName) jdk_42_method_79_code 2 (some .int) ({ frames := 3, cells := 0, slots := 0, locals := 46 } : Room) #[(.ref a1), (.int 46)] h0 (fun v h L => v = some (.int (-1)) ∧ Fr n0 L ∧ h = h0) := by
 refine own_startC opn_11 ?_
 intro p e s m below meth c T0 X0 hx hby hml hZ hown hnm hret hlk e0
 have N := Fr.nil n0; have K := Keep.refl h0 []
 refine OG.cast (oef4 m a1 (46 : Int32)) ?_
 refine og_aloadN X0 hx rfl rfl (hb hby d11_0) rfl ?_
 refine og_iloadN X0 hx rfl (hb hby d11_1) rfl ?_
 refine og_iconst (v := (0 : Int32)) X0 hx rfl (hb hby d11_2) rfl ?_
 refine og_virtual (pc' := 6) (cells' := 0) (slots' := 0) (W := 0) X0 hx hZ (rm_i2_2_n_0 l Z a0 hw a1 ba kb u0 u1 hu0 hu1 cs hcs h0 n0 O E_a1 F_value_a1 F_coder_a1 V_ba S_CS) hown (ow55 hw) (ow56 hw) (own_nf hZ (ow58 hw)) (ow58 hw) (ow57 hw) (ow11 hw) (ow59 hw) (by decide) (by rw [hml]; rfl) e0 opd_11 [(.int 46), (.int 0)] [] rfl rfl rfl rfl (by decide) (by decide) rfl rfl (by decide) (by decide) E_a1 (hb hby d11_3) rfl (fun v11 T11 h11 L11 X11 e11 z11 => ?_)
 obtain ⟨rfl, Nq11, hq11⟩ := z11; replace e11 := e11.trans hq11; have N := Fr.app N Nq11
 refine og_retI X11 hx hlk hret (hb hby d11_6) (by decide) (by decide) ?_
 rw [e11]; exact ⟨rfl, N, rfl⟩
theorem rm_pa2_n (l : Launch) (Z : State) (a0 : Array Value) (hw : HW a0 Z) (a1 ba : Addr) (kb : ClassId) (u0 u1 : Int32) (hu0 : ¬ u0 = 46) (hu1 : ¬ u1 = 46) (cs : Int32) (hcs : ¬ cs = 0) (fm : Value) (hfm : fm.isRef = true) (h0 : Heap) (n0 : Nat) (O : Old Z n0 h0) (hEL : EW Z a0 own_EL) (E_a1 : Exa Z h0 a1 "java/lang/String") (F_value_a1 : Fld Z h0 a1 "java/lang/String" "value" "[B" (.ref ba)) (F_coder_a1 : Fld Z h0 a1 "java/lang/String" "coder" "B" (.int 0)) (V_ba : Arv Z h0 ba kb .byte (2 : Int32) [(.int u0), (.int u1)] (.int 0)) (S_CS : Sta Z Z.heap "java/lang/String" "COMPACT_STRINGS" "Z" (.int cs)) (S_FM : Sta Z Z.heap "jdk/internal/util/Preconditions" "SIOOBE_FORMATTER" "Ljava/util/function/BiFunction;" fm) :
  ConW l Z own_EL [] (⟨"com/example/tombstone/tombstone/config/TableName", "parse", "(Ljava/lang/String;)Lcom/example/tombstone/tombstone/config/TableName;"⟩ : MethodName) prog_8_method_2_code 4 (some (.object "com/example/tombstone/tombstone/config/TableName")) ({ frames := 4, cells := 9, slots := 110, locals := 59 } : Room) #[(.ref a1)] h0 (fun v h L => ∃ t x bx kx, v = some (.ref t) ∧ Fr n0 L ∧ Keep h0 h [] ∧ Exa Z h t "com/example/tombstone/tombstone/config/TableName" ∧ Fld Z h t "com/example/tombstone/tombstone/config/TableName" "schema" "Ljava/lang/String;" (.ref x) ∧ Fld Z h t "com/example/tombstone/tombstone/config/TableName" "name" "Ljava/lang/String;" (.ref a1) ∧ Exa Z h x "java/lang/String" ∧ Fld Z h x "java/lang/String" "value" "[B" (.ref bx) ∧ Fld Z h x "java/lang/String" "coder" "B" (.int 0) ∧ Arv Z h bx kx .byte (6 : Int32) [(.int 112), (.int 117), (.int 98), (.int 108), (.int 105), (.int 99)] (.int 0)) := by
 refine own_startWC opn_9 ?_
 intro p e s m below meth c T0 X0 hx hby hml hZ hown hnm hret hlk e0 es hS CR hsf
 have N := Fr.nil n0; have K := Keep.refl h0 []; have hk := Nat.le_refl h0.size
 refine OG.cast (oef15 m a1) ?_
 refine og_aloadN X0 hx rfl rfl (hb hby d9_0) rfl ?_
 refine og_ldcO (pc' := 3) (cells' := 2) (slots' := 32) (n := 28) X0 hx hZ hown (hw _ (List.mem_of_getElem? (i := 45) rfl)) (own_wS hw) e0 hS hk hEL CR.1 (by decide) (by decide) (hb hby d9_1) rfl rfl rfl (by decide) (by decide) (fun na11 T11 h11 kk11 X11 e11 E11 hS hk hZ hown cr11 => ?_)
 have E_a1 := E_a1.ext E11; have F_value_a1 := F_value_a1.ext E11; have F_coder_a1 := F_coder_a1.ext E11; have V_ba := V_ba.ext E11; have O := O.ext E11; have K := K.ext E11
 have CR := CR.trans cr11
 refine og_static (pc' := 6) (cells' := 2) (slots' := 32) (W := 0) X11 hx hZ (rm_rnn l Z a0 hw a1 na11 h11 n0 O) hown (ow46 hw) (ow47 hw) (ow48 hw) (ow49 hw) (by decide) (by rw [hml]; rfl) e11 opd_8 [(.ref a1), (.ref na11)] [] rfl rfl rfl rfl (by decide) (by decide) rfl rfl (by decide) (by decide) (hb hby d9_3) rfl (fun v12 T12 h12 L12 X12 e12 z12 => ?_)
 obtain ⟨rfl, Nq12, hq12⟩ := z12; replace e12 := e12.trans hq12; have N := Fr.app N Nq12
 refine og_pop X12 hx rfl (hb hby d9_6) rfl ?_
 refine og_aloadN X12 hx rfl rfl (hb hby d9_7) rfl ?_
 refine og_bipush (v := (46 : Int32)) X12 hx rfl (hb hby d9_8) rfl ?_
 refine og_virtual (pc' := 13) (cells' := 2) (slots' := 32) (W := 0) X12 hx hZ (rm_ix_2_n_0 l Z a0 hw a1 ba kb u0 u1 hu0 hu1 cs hcs h11 n0 O E_a1 F_value_a1 F_coder_a1 V_ba S_CS) hown (ow50 hw) (ow51 hw) (own_nf hZ (ow53 hw)) (ow53 hw) (ow52 hw) (ow11 hw) (ow54 hw) (by decide) (by rw [hml]; rfl) e12 opd_14 [(.int 46)] [] rfl rfl rfl rfl (by decide) (by decide) rfl rfl (by decide) (by decide) E_a1 (hb hby d9_10) rfl (fun v13 T13 h13 L13 X13 e13 z13 => ?_)
 obtain ⟨rfl, Nq13, hq13⟩ := z13; replace e13 := e13.trans hq13; have N := Fr.app N Nq13
 refine og_istoreN (L' := #[.val (.ref a1), .val (.int (-1)), .unset, .unset]) X13 hx rfl (hb hby d9_13) rfl ?_
 refine og_iloadN X13 hx rfl (hb hby d9_14) rfl ?_
 refine og_if_lt (pc1 := 30) (pc2 := 18) X13 hx (hb hby d9_15) (by decide) (by decide) rfl (fun _ => ?_) (fun q => absurd q (by decide))
 refine og_iconst (v := (1 : Int32)) X13 hx rfl (hb hby d9_30) rfl ?_
 refine og_goto (pc' := 35) X13 hx (hb hby d9_31) (by decide) (by decide) ?_
 refine og_istoreN (L' := #[.val (.ref a1), .val (.int (-1)), .val (.int 1), .unset]) X13 hx rfl (hb hby d9_35) rfl ?_
 refine og_aloadN X13 hx rfl rfl (hb hby d9_36) rfl ?_
 refine og_virtual (pc' := 40) (cells' := 2) (slots' := 32) (W := 0) X13 hx hZ (rm_emp l Z a0 hw a1 ba kb (2 : Int32) _ (by decide) h11 n0 O E_a1 F_value_a1 F_coder_a1 V_ba) hown (ow92 hw) (ow93 hw) (own_nf hZ (ow95 hw)) (ow95 hw) (ow94 hw) (ow11 hw) (ow96 hw) (by decide) (by rw [hml]; rfl) e13 opd_9 [] [] rfl rfl rfl rfl (by decide) (by decide) rfl rfl (by decide) (by decide) E_a1 (hb hby d9_37) rfl (fun v14 T14 h14 L14 X14 e14 z14 => ?_)
 obtain ⟨rfl, Nq14, hq14⟩ := z14; replace e14 := e14.trans hq14; have N := Fr.app N Nq14
 refine og_if_ne (pc1 := 61) (pc2 := 43) X14 hx (hb hby d9_40) (by decide) (by decide) rfl (fun q => absurd q (by decide)) (fun _ => ?_)
 refine og_iloadN X14 hx rfl (hb hby d9_43) rfl ?_
 refine og_if_eq (pc1 := 61) (pc2 := 47) X14 hx (hb hby d9_44) (by decide) (by decide) rfl (fun q => absurd q (by decide)) (fun _ => ?_)
 refine og_iloadN X14 hx rfl (hb hby d9_47) rfl ?_
 refine og_aloadN X14 hx rfl rfl (hb hby d9_48) rfl ?_
 refine og_virtual (pc' := 52) (cells' := 2) (slots' := 32) (W := 1) X14 hx hZ (rm_len l Z a0 hw a1 ba kb (2 : Int32) _ cs hcs h11 n0 O E_a1 F_value_a1 F_coder_a1 V_ba S_CS) hown (ow97 hw) (ow66 hw) (own_nf hZ (ow68 hw)) (ow68 hw) (ow67 hw) (ow11 hw) (ow69 hw) (by decide) (by rw [hml]; rfl) e14 opd_13 [] [(.int (-1))] rfl rfl rfl rfl (by decide) (by decide) rfl rfl (by decide) (by decide) E_a1 (hb hby d9_49) rfl (fun v15 T15 h15 L15 X15 e15 z15 => ?_)
 obtain ⟨rfl, Nq15, hq15⟩ := z15; replace e15 := e15.trans hq15; have N := Fr.app N Nq15
 refine og_iconst (v := (1 : Int32)) X15 hx rfl (hb hby d9_52) rfl ?_
 refine og_isub X15 hx (hb hby d9_53) rfl ?_
 show OG p e below _ (T15.setTop (mkF m 54 #[.val (.ref a1), .val (.int (-1)), .val (.int 1), .unset] [(.int 1), (.int (-1))]))
 refine og_icmp_eq (pc1 := 61) (pc2 := 57) X15 hx (hb hby d9_54) (by decide) (by decide) rfl (fun q => absurd q (by decide)) (fun _ => ?_)
 refine og_iconst (v := (1 : Int32)) X15 hx rfl (hb hby d9_57) rfl ?_
 refine og_goto (pc' := 62) X15 hx (hb hby d9_58) (by decide) (by decide) ?_
 refine og_istoreN (L' := #[.val (.ref a1), .val (.int (-1)), .val (.int 1), .val (.int 1)]) X15 hx rfl (hb hby d9_62) rfl ?_
 refine og_iloadN X15 hx rfl (hb hby d9_63) rfl ?_
 refine og_if_eq (pc1 := 71) (pc2 := 67) X15 hx (hb hby d9_64) (by decide) (by decide) rfl (fun q => absurd q (by decide)) (fun _ => ?_)
 refine og_iloadN X15 hx rfl (hb hby d9_67) rfl ?_
 refine og_if_ne (pc1 := 85) (pc2 := 71) X15 hx (hb hby d9_68) (by decide) (by decide) rfl (fun _ => ?_) (fun q => absurd q (by decide))
 refine og_iloadN X15 hx rfl (hb hby d9_85) rfl ?_
 refine og_if_ge (pc1 := 102) (pc2 := 89) X15 hx (hb hby d9_86) (by decide) (by decide) rfl (fun q => absurd q (by decide)) (fun _ => ?_)
 refine og_new (pc' := 92) (cells' := 3) (slots' := 34) X15 hx hZ hown (ow98 hw) (ow99 hw) (ow43 hw) e15 (hb hby d9_89) rfl rfl rfl (by decide) (by decide) (fun T16 h16 nb16 X16 e16 E16 q16 E_nb16 D16 B16 => ?_)
 have s_nb16 : h11.size ≤ nb16 := Nat.le_of_eq q16.symm; have g_nb16 : n0 ≤ nb16 := Nat.le_trans (own_n0 O) s_nb16; have sz_nb16 : h0.size ≤ nb16 := Nat.le_trans K.1 s_nb16; have ne_a1_nb16 : a1 ≠ nb16 := Nat.ne_of_lt (Nat.lt_of_lt_of_le E_a1.lt s_nb16); have ne_ba_nb16 : ba ≠ nb16 := Nat.ne_of_lt (Nat.lt_of_lt_of_le V_ba.lt s_nb16); have Q_nb16 : Safe Z own_EL _ _ nb16 := Safe.new (Z := Z) (EL := own_EL) (vm := T11.vm) s_nb16
 have Q_nb16 := Safe.ext E16 CR.1 Q_nb16; have E_a1 := E_a1.ext E16; have F_value_a1 := F_value_a1.ext E16; have F_coder_a1 := F_coder_a1.ext E16; have V_ba := V_ba.ext E16; have O := O.ext E16
 have K := K.ext E16; have hk := Nat.le_trans hk E16.1; have CR := CR.trans (CHr.ext E16 CR.1)
 have F_schema_nb16 : Fld Z h16 nb16 "com/example/tombstone/tombstone/config/TableName" "schema" "Ljava/lang/String;" .null := D16 (Or.inr (ow113 hw)) (ty := (.object "java/lang/String")) (by decide)
 have F_name_nb16 : Fld Z h16 nb16 "com/example/tombstone/tombstone/config/TableName" "name" "Ljava/lang/String;" .null := D16 (Or.inr (ow115 hw)) (ty := (.object "java/lang/String")) (by decide)
 refine og_dup X16 hx rfl (hb hby d9_92) rfl ?_
 refine og_ldcS (pc' := 95) (cells' := 5) (slots' := 62) (n := 24) (z := (6 : Int32)) (vs := [(.int 112), (.int 117), (.int 98), (.int 108), (.int 105), (.int 99)]) X16 hx hZ hown (hw _ (List.mem_of_getElem? (i := 100) rfl)) (own_wS hw) e16 hS hk hEL (by decide) CR.1 ⟨by decide, by decide⟩ (by decide) (by decide) (by decide) (by decide) (hb hby d9_93) rfl rfl rfl (by decide) (by decide) (fun na17 T17 h17 kk17 nb17 k17 X17 e17 E17 hS hk hZ hown E_na17 F_coder_na17 F_value_na17 V_nb17 cr17 hne17 => ?_)
 have Q_nb16 := cr17.safe E_nb16.lt Q_nb16; have E_a1 := E_a1.ext E17; have F_value_a1 := F_value_a1.ext E17; have F_coder_a1 := F_coder_a1.ext E17; have V_ba := V_ba.ext E17; have E_nb16 := E_nb16.ext E17
 have F_schema_nb16 := F_schema_nb16.ext E17; have F_name_nb16 := F_name_nb16.ext E17; have O := O.ext E17; have K := K.ext E17; have CR := CR.trans cr17
 have ne_nb16_na17 := (hne17 _ Q_nb16).1; have ne_nb16_nb17 := (hne17 _ Q_nb16).2
 refine og_aloadN X17 hx rfl rfl (hb hby d9_95) rfl ?_
 refine og_specialW (pc' := 99) (cells' := 9) (slots' := 110) (W := 1) X17 hx hZ (rm_tn l Z a0 hw nb16 na17 a1 nb17 ba k17 kb (6 : Int32) (2 : Int32) _ _ (by decide) (by decide) h17 n0 O hEL E_nb16 F_schema_nb16 F_name_nb16 E_na17 F_value_na17 F_coder_na17 V_nb17 E_a1 F_value_a1 F_coder_a1 V_ba g_nb16 (Ne.symm ne_nb16_na17) ne_a1_nb16 (Ne.symm ne_nb16_nb17) ne_ba_nb16) hEL hS hk CR.1 all0 rfl hown (ow101 hw) (ow102 hw) (ow43 hw) (ow103 hw) (by decide) (by rw [hml]; rfl) e17 opd_15 [(.ref na17), (.ref a1)] [(.ref nb16)] rfl rfl rfl rfl (by decide) (by decide) rfl rfl (by decide) (by decide) (hb hby d9_96) rfl (fun v18 T18 h18 L18 kk18 X18 e18 hS hk hZ hown cr18 z18 => ?_)
 obtain ⟨rfl, Nq18, K18, F_schema_nb16', F_name_nb16'⟩ := z18; have N := Fr.app N Nq18
 have Q_nb16 := cr18.safe E_nb16.lt Q_nb16; have E_a1 := E_a1.keep K18; have F_value_a1 := F_value_a1.keep K18 (ninS ne_a1_nb16 nin0); have F_coder_a1 := F_coder_a1.keep K18 (ninS ne_a1_nb16 nin0); have V_ba := V_ba.keep K18 (ninS ne_ba_nb16 nin0); have E_nb16 := E_nb16.keep K18
 have E_na17 := E_na17.keep K18; have F_value_na17 := F_value_na17.keep K18 (ninS (Ne.symm ne_nb16_na17) nin0); have F_coder_na17 := F_coder_na17.keep K18 (ninS (Ne.symm ne_nb16_na17) nin0); have V_nb17 := V_nb17.keep K18 (ninS (Ne.symm ne_nb16_nb17) nin0); have O := O.keep K18 (allS g_nb16 all0); have K := K.trans K18 (allS (Or.inr sz_nb16) all0)
 have CR := CR.trans cr18
 have F_schema_nb16 := F_schema_nb16'; have F_name_nb16 := F_name_nb16'
 refine og_goto (pc' := 122) X18 hx (hb hby d9_99) (by decide) (by decide) ?_
 refine og_retRW X18 hx hZ hlk hEL hS e18 es hk CR hret rfl rfl rfl (hb hby d9_122) (by decide) (by decide) ?_
 rw [e18]; exact ⟨nb16, na17, _, _, rfl, N, K, E_nb16, F_schema_nb16, F_name_nb16, E_na17, F_value_na17, F_coder_na17, V_nb17⟩
theorem rm_min_3_3 (l : Launch) (Z : State) (a0 : Array Value) (hw : HW a0 Z)  (h0 : Heap) (n0 : Nat) (O : Old Z n0 h0) :
  Con l Z (⟨"java/lang/Math", "min", "(II)I"⟩ : MethodName) jdk_29_method_69_code 2 (some .int) ({ frames := 0, cells := 0, slots := 0, locals := 0 } : Room) #[(.int 3), (.int 3)] h0 (fun v h L => v = some (.int 3) ∧ Fr n0 L ∧ h = h0) := by
 refine own_startC opn_19 ?_
 intro p e s m below meth c T0 X0 hx hby hml hZ hown hnm hret hlk e0
 have N := Fr.nil n0; have K := Keep.refl h0 []
 refine OG.cast (oef11 m (3 : Int32) (3 : Int32)) ?_
 refine og_iloadN X0 hx rfl (hb hby d19_0) rfl ?_
 refine og_iloadN X0 hx rfl (hb hby d19_1) rfl ?_
 refine og_icmp_gt (pc1 := 9) (pc2 := 5) X0 hx (hb hby d19_2) (by decide) (by decide) rfl (fun q => absurd q (by decide)) (fun _ => ?_)
 refine og_iloadN X0 hx rfl (hb hby d19_5) rfl ?_
 refine og_goto (pc' := 10) X0 hx (hb hby d19_6) (by decide) (by decide) ?_
 refine og_retI X0 hx hlk hret (hb hby d19_10) (by decide) (by decide) ?_
 rw [e0]; exact ⟨rfl, N, rfl⟩
theorem rm_ic_3_n_0 (l : Launch) (Z : State) (a0 : Array Value) (hw : HW a0 Z) (ba : Addr) (kb : ClassId) (u0 u1 u2 : Int32) (hu0 : ¬ u0 = 46) (hu1 : ¬ u1 = 46) (hu2 : ¬ u2 = 46) (h0 : Heap) (n0 : Nat) (O : Old Z n0 h0) (V_ba : Arv Z h0 ba kb .byte (3 : Int32) [(.int u0), (.int u1), (.int u2)] (.int 0)) :
  Con l Z (⟨"java/lang/StringLatin1", "indexOfChar", "([BIII)I"⟩ : MethodName) jdk_43_method_23_code 6 (some .int) ({ frames := 0, cells := 0, slots := 0, locals := 0 } : Room) #[(.ref ba), (.int 46), (.int 0), (.int 3)] h0 (fun v h L => v = some (.int (-1)) ∧ Fr n0 L ∧ h = h0) := by
 refine own_startC opn_20 ?_
 intro p e s m below meth c T0 X0 hx hby hml hZ hown hnm hret hlk e0
 have N := Fr.nil n0; have K := Keep.refl h0 []
 refine OG.cast (oef12 m ba (46 : Int32) (0 : Int32) (3 : Int32)) ?_
 refine og_iloadN X0 hx rfl (hb hby d20_0) rfl ?_
 refine og_i2b X0 hx (hb hby d20_1) rfl ?_
 show OG p e below _ (T0.setTop (mkF m 2 #[.val (.ref ba), .val (.int 46), .val (.int 0), .val (.int 3), .unset, .unset] [(.int 46)]))
 refine og_istore (L' := #[.val (.ref ba), .val (.int 46), .val (.int 0), .val (.int 3), .val (.int 46), .unset]) X0 hx rfl (hb hby d20_2) rfl ?_
 refine og_iloadN X0 hx rfl (hb hby d20_4) rfl ?_
 refine og_istore (L' := #[.val (.ref ba), .val (.int 46), .val (.int 0), .val (.int 3), .val (.int 46), .val (.int 0)]) X0 hx rfl (hb hby d20_5) rfl ?_
 refine og_iload X0 hx rfl (hb hby d20_7) rfl ?_
 refine og_iloadN X0 hx rfl (hb hby d20_9) rfl ?_
 refine og_icmp_ge (pc1 := 31) (pc2 := 13) X0 hx (hb hby d20_10) (by decide) (by decide) rfl (fun q => absurd q (by decide)) (fun _ => ?_)
 refine og_aloadN X0 hx rfl rfl (hb hby d20_13) rfl ?_
 refine og_iload X0 hx rfl (hb hby d20_14) rfl ?_
 refine og_baload (v := (.int u0)) X0 hx hZ e0 V_ba ⟨by decide, by decide⟩ rfl (hb hby d20_16) rfl ?_
 refine og_iload X0 hx rfl (hb hby d20_17) rfl ?_
 refine og_icmp_ne (pc1 := 25) (pc2 := 22) X0 hx (hb hby d20_19) (by decide) (by decide) rfl (fun _ => ?_) (fun q => absurd q hu0)
 refine og_iinc (L' := #[.val (.ref ba), .val (.int 46), .val (.int 0), .val (.int 3), .val (.int 46), .val (.int 1)]) (w := (1 : Int32)) X0 hx rfl rfl rfl (hb hby d20_25) rfl ?_
 refine og_goto (pc' := 7) X0 hx (hb hby d20_28) (by decide) (by decide) ?_
 refine og_iload X0 hx rfl (hb hby d20_7) rfl ?_
 refine og_iloadN X0 hx rfl (hb hby d20_9) rfl ?_
 refine og_icmp_ge (pc1 := 31) (pc2 := 13) X0 hx (hb hby d20_10) (by decide) (by decide) rfl (fun q => absurd q (by decide)) (fun _ => ?_)
 refine og_aloadN X0 hx rfl rfl (hb hby d20_13) rfl ?_
 refine og_iload X0 hx rfl (hb hby d20_14) rfl ?_
 refine og_baload (v := (.int u1)) X0 hx hZ e0 V_ba ⟨by decide, by decide⟩ rfl (hb hby d20_16) rfl ?_
 refine og_iload X0 hx rfl (hb hby d20_17) rfl ?_
 refine og_icmp_ne (pc1 := 25) (pc2 := 22) X0 hx (hb hby d20_19) (by decide) (by decide) rfl (fun _ => ?_) (fun q => absurd q hu1)
 refine og_iinc (L' := #[.val (.ref ba), .val (.int 46), .val (.int 0), .val (.int 3), .val (.int 46), .val (.int 2)]) (w := (1 : Int32)) X0 hx rfl rfl rfl (hb hby d20_25) rfl ?_
 refine og_goto (pc' := 7) X0 hx (hb hby d20_28) (by decide) (by decide) ?_
 refine og_iload X0 hx rfl (hb hby d20_7) rfl ?_
 refine og_iloadN X0 hx rfl (hb hby d20_9) rfl ?_
 refine og_icmp_ge (pc1 := 31) (pc2 := 13) X0 hx (hb hby d20_10) (by decide) (by decide) rfl (fun q => absurd q (by decide)) (fun _ => ?_)
 refine og_aloadN X0 hx rfl rfl (hb hby d20_13) rfl ?_
 refine og_iload X0 hx rfl (hb hby d20_14) rfl ?_
 refine og_baload (v := (.int u2)) X0 hx hZ e0 V_ba ⟨by decide, by decide⟩ rfl (hb hby d20_16) rfl ?_
 refine og_iload X0 hx rfl (hb hby d20_17) rfl ?_
 refine og_icmp_ne (pc1 := 25) (pc2 := 22) X0 hx (hb hby d20_19) (by decide) (by decide) rfl (fun _ => ?_) (fun q => absurd q hu2)
 refine og_iinc (L' := #[.val (.ref ba), .val (.int 46), .val (.int 0), .val (.int 3), .val (.int 46), .val (.int 3)]) (w := (1 : Int32)) X0 hx rfl rfl rfl (hb hby d20_25) rfl ?_
 refine og_goto (pc' := 7) X0 hx (hb hby d20_28) (by decide) (by decide) ?_
 refine og_iload X0 hx rfl (hb hby d20_7) rfl ?_
 refine og_iloadN X0 hx rfl (hb hby d20_9) rfl ?_
 refine og_icmp_ge (pc1 := 31) (pc2 := 13) X0 hx (hb hby d20_10) (by decide) (by decide) rfl (fun _ => ?_) (fun q => absurd q (by decide))
 refine og_iconst (v := (-1 : Int32)) X0 hx rfl (hb hby d20_31) rfl ?_
 refine og_retI X0 hx hlk hret (hb hby d20_32) (by decide) (by decide) ?_
 rw [e0]; exact ⟨rfl, N, rfl⟩
theorem rm_li_3_n_0 (l : Launch) (Z : State) (a0 : Array Value) (hw : HW a0 Z) (ba : Addr) (kb : ClassId) (u0 u1 u2 : Int32) (hu0 : ¬ u0 = 46) (hu1 : ¬ u1 = 46) (hu2 : ¬ u2 = 46) (h0 : Heap) (n0 : Nat) (O : Old Z n0 h0) (V_ba : Arv Z h0 ba kb .byte (3 : Int32) [(.int u0), (.int u1), (.int u2)] (.int 0)) :
  Con l Z (⟨"java/lang/StringLatin1", "indexOf", "([BIII)I"⟩ : MethodName) jdk_43_method_22_code 4 (some .int) ({ frames := 1, cells := 0, slots := 0, locals := 17 } : Room) #[(.ref ba), (.int 46), (.int 0), (.int 3)] h0 (fun v h L => v = some (.int (-1)) ∧ Fr n0 L ∧ h = h0) := by
 refine own_startC opn_16 ?_
 intro p e s m below meth c T0 X0 hx hby hml hZ hown hnm hret hlk e0
 have N := Fr.nil n0; have K := Keep.refl h0 []
 refine OG.cast (oef13 m ba (46 : Int32) (0 : Int32) (3 : Int32)) ?_
 refine og_iloadN X0 hx rfl (hb hby d16_0) rfl ?_
 refine og_static (pc' := 4) (cells' := 0) (slots' := 0) (W := 0) X0 hx hZ (rm_ce l Z a0 hw h0 n0 O) hown (ow79 hw) (ow80 hw) (ow77 hw) (ow81 hw) (by decide) (by rw [hml]; rfl) e0 opd_10 [(.int 46)] [] rfl rfl rfl rfl (by decide) (by decide) rfl rfl (by decide) (by decide) (hb hby d16_1) rfl (fun v11 T11 h11 L11 X11 e11 z11 => ?_)
 obtain ⟨rfl, Nq11, hq11⟩ := z11; replace e11 := e11.trans hq11; have N := Fr.app N Nq11
 refine og_if_ne (pc1 := 9) (pc2 := 7) X11 hx (hb hby d16_4) (by decide) (by decide) rfl (fun _ => ?_) (fun q => absurd q (by decide))
 refine og_iloadN X11 hx rfl (hb hby d16_9) rfl ?_
 refine og_iconst (v := (0 : Int32)) X11 hx rfl (hb hby d16_10) rfl ?_
 refine og_static (pc' := 14) (cells' := 0) (slots' := 0) (W := 0) X11 hx hZ (rm_max_0_0 l Z a0 hw h0 n0 O) hown (ow82 hw) (ow83 hw) (ow84 hw) (ow85 hw) (by decide) (by rw [hml]; rfl) e11 opd_11 [(.int 0), (.int 0)] [] rfl rfl rfl rfl (by decide) (by decide) rfl rfl (by decide) (by decide) (hb hby d16_11) rfl (fun v12 T12 h12 L12 X12 e12 z12 => ?_)
 obtain ⟨rfl, Nq12, hq12⟩ := z12; replace e12 := e12.trans hq12; have N := Fr.app N Nq12
 refine og_istoreN (L' := #[.val (.ref ba), .val (.int 46), .val (.int 0), .val (.int 3)]) X12 hx rfl (hb hby d16_14) rfl ?_
 refine og_iloadN X12 hx rfl (hb hby d16_15) rfl ?_
 refine og_aloadN X12 hx rfl rfl (hb hby d16_16) rfl ?_
 refine og_arraylength X12 hx hZ e12 V_ba (hb hby d16_17) rfl ?_
 refine og_static (pc' := 21) (cells' := 0) (slots' := 0) (W := 0) X12 hx hZ (rm_min_3_3 l Z a0 hw h0 n0 O) hown (ow86 hw) (ow87 hw) (ow84 hw) (ow88 hw) (by decide) (by rw [hml]; rfl) e12 opd_11 [(.int 3), (.int 3)] [] rfl rfl rfl rfl (by decide) (by decide) rfl rfl (by decide) (by decide) (hb hby d16_18) rfl (fun v13 T13 h13 L13 X13 e13 z13 => ?_)
 obtain ⟨rfl, Nq13, hq13⟩ := z13; replace e13 := e13.trans hq13; have N := Fr.app N Nq13
 refine og_istoreN (L' := #[.val (.ref ba), .val (.int 46), .val (.int 0), .val (.int 3)]) X13 hx rfl (hb hby d16_21) rfl ?_
 refine og_iloadN X13 hx rfl (hb hby d16_22) rfl ?_
 refine og_iloadN X13 hx rfl (hb hby d16_23) rfl ?_
 refine og_icmp_lt (pc1 := 29) (pc2 := 27) X13 hx (hb hby d16_24) (by decide) (by decide) rfl (fun _ => ?_) (fun q => absurd q (by decide))
 refine og_aloadN X13 hx rfl rfl (hb hby d16_29) rfl ?_
 refine og_iloadN X13 hx rfl (hb hby d16_30) rfl ?_
 refine og_iloadN X13 hx rfl (hb hby d16_31) rfl ?_
 refine og_iloadN X13 hx rfl (hb hby d16_32) rfl ?_
 refine og_static (pc' := 36) (cells' := 0) (slots' := 0) (W := 0) X13 hx hZ (rm_ic_3_n_0 l Z a0 hw ba kb u0 u1 u2 hu0 hu1 hu2 h0 n0 O V_ba) hown (ow89 hw) (ow90 hw) (ow77 hw) (ow91 hw) (by decide) (by rw [hml]; rfl) e13 opd_12 [(.ref ba), (.int 46), (.int 0), (.int 3)] [] rfl rfl rfl rfl (by decide) (by decide) rfl rfl (by decide) (by decide) (hb hby d16_33) rfl (fun v14 T14 h14 L14 X14 e14 z14 => ?_)
 obtain ⟨rfl, Nq14, hq14⟩ := z14; replace e14 := e14.trans hq14; have N := Fr.app N Nq14
 refine og_retI X14 hx hlk hret (hb hby d16_36) (by decide) (by decide) ?_
 rw [e14]; exact ⟨rfl, N, rfl⟩
theorem rm_i2_3_n_0 (l : Launch) (Z : State) (a0 : Array Value) (hw : HW a0 Z) (a1 ba : Addr) (kb : ClassId) (u0 u1 u2 : Int32) (hu0 : ¬ u0 = 46) (hu1 : ¬ u1 = 46) (hu2 : ¬ u2 = 46) (cs : Int32) (hcs : ¬ cs = 0) (h0 : Heap) (n0 : Nat) (O : Old Z n0 h0) (E_a1 : Exa Z h0 a1 "java/lang/String") (F_value_a1 : Fld Z h0 a1 "java/lang/String" "value" "[B" (.ref ba)) (F_coder_a1 : Fld Z h0 a1 "java/lang/String" "coder" "B" (.int 0)) (V_ba : Arv Z h0 ba kb .byte (3 : Int32) [(.int u0), (.int u1), (.int u2)] (.int 0)) (S_CS : Sta Z Z.heap "java/lang/String" "COMPACT_STRINGS" "Z" (.int cs)) :
  Con l Z (⟨"java/lang/String", "indexOf", "(II)I"⟩ : MethodName) jdk_42_method_80_code 3 (some .int) ({ frames := 2, cells := 0, slots := 0, locals := 32 } : Room) #[(.ref a1), (.int 46), (.int 0)] h0 (fun v h L => v = some (.int (-1)) ∧ Fr n0 L ∧ h = h0) := by
 refine own_startC opn_12 ?_
 intro p e s m below meth c T0 X0 hx hby hml hZ hown hnm hret hlk e0
 have N := Fr.nil n0; have K := Keep.refl h0 []
 refine OG.cast (oef14 m a1 (46 : Int32) (0 : Int32)) ?_
 refine og_aloadN X0 hx rfl rfl (hb hby d12_0) rfl ?_
 refine og_virtual (pc' := 4) (cells' := 0) (slots' := 0) (W := 0) X0 hx hZ (rm_il l Z a0 hw a1 cs hcs h0 n0 O F_coder_a1 S_CS) hown (ow60 hw) (ow61 hw) (own_nf hZ (ow63 hw)) (ow63 hw) (ow62 hw) (ow11 hw) (ow64 hw) (by decide) (by rw [hml]; rfl) e0 opd_9 [] [] rfl rfl rfl rfl (by decide) (by decide) rfl rfl (by decide) (by decide) E_a1 (hb hby d12_1) rfl (fun v11 T11 h11 L11 X11 e11 z11 => ?_)
 obtain ⟨rfl, Nq11, hq11⟩ := z11; replace e11 := e11.trans hq11; have N := Fr.app N Nq11
 refine og_if_eq (pc1 := 23) (pc2 := 7) X11 hx (hb hby d12_4) (by decide) (by decide) rfl (fun q => absurd q (by decide)) (fun _ => ?_)
 refine og_aloadN X11 hx rfl rfl (hb hby d12_7) rfl ?_
 refine og_getfield X11 hx hZ (host := "") hown (Or.inl (ow28 hw)) Via.refl e11 F_value_a1 (hb hby d12_8) rfl (fun T12 X12 e12 => ?_)
 refine og_iloadN X12 hx rfl (hb hby d12_11) rfl ?_
 refine og_iloadN X12 hx rfl (hb hby d12_12) rfl ?_
 refine og_aloadN X12 hx rfl rfl (hb hby d12_13) rfl ?_
 refine og_virtual (pc' := 17) (cells' := 0) (slots' := 0) (W := 3) X12 hx hZ (rm_len l Z a0 hw a1 ba kb (3 : Int32) _ cs hcs h0 n0 O E_a1 F_value_a1 F_coder_a1 V_ba S_CS) hown (ow65 hw) (ow66 hw) (own_nf hZ (ow68 hw)) (ow68 hw) (ow67 hw) (ow11 hw) (ow69 hw) (by decide) (by rw [hml]; rfl) e12 opd_13 [] [(.int 0), (.int 46), (.ref ba)] rfl rfl rfl rfl (by decide) (by decide) rfl rfl (by decide) (by decide) E_a1 (hb hby d12_14) rfl (fun v13 T13 h13 L13 X13 e13 z13 => ?_)
 obtain ⟨rfl, Nq13, hq13⟩ := z13; replace e13 := e13.trans hq13; have N := Fr.app N Nq13
 refine og_static (pc' := 20) (cells' := 0) (slots' := 0) (W := 0) X13 hx hZ (rm_li_3_n_0 l Z a0 hw ba kb u0 u1 u2 hu0 hu1 hu2 h0 n0 O V_ba) hown (ow75 hw) (ow76 hw) (ow77 hw) (ow78 hw) (by decide) (by rw [hml]; rfl) e13 opd_12 [(.ref ba), (.int 46), (.int 0), (.int 3)] [] rfl rfl rfl rfl (by decide) (by decide) rfl rfl (by decide) (by decide) (hb hby d12_17) rfl (fun v14 T14 h14 L14 X14 e14 z14 => ?_)
 obtain ⟨rfl, Nq14, hq14⟩ := z14; replace e14 := e14.trans hq14; have N := Fr.app N Nq14
 refine og_goto (pc' := 36) X14 hx (hb hby d12_20) (by decide) (by decide) ?_
 refine og_retI X14 hx hlk hret (hb hby d12_36) (by decide) (by decide) ?_
 rw [e14]; exact ⟨rfl, N, rfl⟩
theorem rm_ix_3_n_0 (l : Launch) (Z : State) (a0 : Array Value) (hw : HW a0 Z) (a1 ba : Addr) (kb : ClassId) (u0 u1 u2 : Int32) (hu0 : ¬ u0 = 46) (hu1 : ¬ u1 = 46) (hu2 : ¬ u2 = 46) (cs : Int32) (hcs : ¬ cs = 0) (h0 : Heap) (n0 : Nat) (O : Old Z n0 h0) (E_a1 : Exa Z h0 a1 "java/lang/String") (F_value_a1 : Fld Z h0 a1 "java/lang/String" "value" "[B" (.ref ba)) (F_coder_a1 : Fld Z h0 a1 "java/lang/String" "coder" "B" (.int 0)) (V_ba : Arv Z h0 ba kb .byte (3 : Int32) [(.int u0), (.int u1), (.int u2)] (.int 0)) (S_CS : Sta Z Z.heap "java/lang/String" "COMPACT_STRINGS" "Z" (.int cs)) :
  Con l Z (⟨"java/lang/String", "indexOf", "(I)I"⟩ : MethodName) jdk_42_method_79_code 2 (some .int) ({ frames := 3, cells := 0, slots := 0, locals := 46 } : Room) #[(.ref a1), (.int 46)] h0 (fun v h L => v = some (.int (-1)) ∧ Fr n0 L ∧ h = h0) := by
 refine own_startC opn_11 ?_
 intro p e s m below meth c T0 X0 hx hby hml hZ hown hnm hret hlk e0
 have N := Fr.nil n0; have K := Keep.refl h0 []
 refine OG.cast (oef4 m a1 (46 : Int32)) ?_
 refine og_aloadN X0 hx rfl rfl (hb hby d11_0) rfl ?_
 refine og_iloadN X0 hx rfl (hb hby d11_1) rfl ?_
 refine og_iconst (v := (0 : Int32)) X0 hx rfl (hb hby d11_2) rfl ?_
 refine og_virtual (pc' := 6) (cells' := 0) (slots' := 0) (W := 0) X0 hx hZ (rm_i2_3_n_0 l Z a0 hw a1 ba kb u0 u1 u2 hu0 hu1 hu2 cs hcs h0 n0 O E_a1 F_value_a1 F_coder_a1 V_ba S_CS) hown (ow55 hw) (ow56 hw) (own_nf hZ (ow58 hw)) (ow58 hw) (ow57 hw) (ow11 hw) (ow59 hw) (by decide) (by rw [hml]; rfl) e0 opd_11 [(.int 46), (.int 0)] [] rfl rfl rfl rfl (by decide) (by decide) rfl rfl (by decide) (by decide) E_a1 (hb hby d11_3) rfl (fun v11 T11 h11 L11 X11 e11 z11 => ?_)
 obtain ⟨rfl, Nq11, hq11⟩ := z11; replace e11 := e11.trans hq11; have N := Fr.app N Nq11
 refine og_retI X11 hx hlk hret (hb hby d11_6) (by decide) (by decide) ?_
 rw [e11]; exact ⟨rfl, N, rfl⟩
theorem rm_pa3_n (l : Launch) (Z : State) (a0 : Array Value) (hw : HW a0 Z) (a1 ba : Addr) (kb : ClassId) (u0 u1 u2 : Int32) (hu0 : ¬ u0 = 46) (hu1 : ¬ u1 = 46) (hu2 : ¬ u2 = 46) (cs : Int32) (hcs : ¬ cs = 0) (fm : Value) (hfm : fm.isRef = true) (h0 : Heap) (n0 : Nat) (O : Old Z n0 h0) (hEL : EW Z a0 own_EL) (E_a1 : Exa Z h0 a1 "java/lang/String") (F_value_a1 : Fld Z h0 a1 "java/lang/String" "value" "[B" (.ref ba)) (F_coder_a1 : Fld Z h0 a1 "java/lang/String" "coder" "B" (.int 0)) (V_ba : Arv Z h0 ba kb .byte (3 : Int32) [(.int u0), (.int u1), (.int u2)] (.int 0)) (S_CS : Sta Z Z.heap "java/lang/String" "COMPACT_STRINGS" "Z" (.int cs)) (S_FM : Sta Z Z.heap "jdk/internal/util/Preconditions" "SIOOBE_FORMATTER" "Ljava/util/function/BiFunction;" fm) :
  ConW l Z own_EL [] (⟨"com/example/tombstone/tombstone/config/TableName", "parse", "(Ljava/lang/String;)Lcom/example/tombstone/tombstone/config/TableName;"⟩ : MethodName) prog_8_method_2_code 4 (some (.object "com/example/tombstone/tombstone/config/TableName")) ({ frames := 4, cells := 9, slots := 110, locals := 59 } : Room) #[(.ref a1)] h0 (fun v h L => ∃ t x bx kx, v = some (.ref t) ∧ Fr n0 L ∧ Keep h0 h [] ∧ Exa Z h t "com/example/tombstone/tombstone/config/TableName" ∧ Fld Z h t "com/example/tombstone/tombstone/config/TableName" "schema" "Ljava/lang/String;" (.ref x) ∧ Fld Z h t "com/example/tombstone/tombstone/config/TableName" "name" "Ljava/lang/String;" (.ref a1) ∧ Exa Z h x "java/lang/String" ∧ Fld Z h x "java/lang/String" "value" "[B" (.ref bx) ∧ Fld Z h x "java/lang/String" "coder" "B" (.int 0) ∧ Arv Z h bx kx .byte (6 : Int32) [(.int 112), (.int 117), (.int 98), (.int 108), (.int 105), (.int 99)] (.int 0)) := by
 refine own_startWC opn_9 ?_
 intro p e s m below meth c T0 X0 hx hby hml hZ hown hnm hret hlk e0 es hS CR hsf
 have N := Fr.nil n0; have K := Keep.refl h0 []; have hk := Nat.le_refl h0.size
 refine OG.cast (oef15 m a1) ?_
 refine og_aloadN X0 hx rfl rfl (hb hby d9_0) rfl ?_
 refine og_ldcO (pc' := 3) (cells' := 2) (slots' := 32) (n := 28) X0 hx hZ hown (hw _ (List.mem_of_getElem? (i := 45) rfl)) (own_wS hw) e0 hS hk hEL CR.1 (by decide) (by decide) (hb hby d9_1) rfl rfl rfl (by decide) (by decide) (fun na11 T11 h11 kk11 X11 e11 E11 hS hk hZ hown cr11 => ?_)
 have E_a1 := E_a1.ext E11; have F_value_a1 := F_value_a1.ext E11; have F_coder_a1 := F_coder_a1.ext E11; have V_ba := V_ba.ext E11; have O := O.ext E11; have K := K.ext E11
 have CR := CR.trans cr11
 refine og_static (pc' := 6) (cells' := 2) (slots' := 32) (W := 0) X11 hx hZ (rm_rnn l Z a0 hw a1 na11 h11 n0 O) hown (ow46 hw) (ow47 hw) (ow48 hw) (ow49 hw) (by decide) (by rw [hml]; rfl) e11 opd_8 [(.ref a1), (.ref na11)] [] rfl rfl rfl rfl (by decide) (by decide) rfl rfl (by decide) (by decide) (hb hby d9_3) rfl (fun v12 T12 h12 L12 X12 e12 z12 => ?_)
 obtain ⟨rfl, Nq12, hq12⟩ := z12; replace e12 := e12.trans hq12; have N := Fr.app N Nq12
 refine og_pop X12 hx rfl (hb hby d9_6) rfl ?_
 refine og_aloadN X12 hx rfl rfl (hb hby d9_7) rfl ?_
 refine og_bipush (v := (46 : Int32)) X12 hx rfl (hb hby d9_8) rfl ?_
 refine og_virtual (pc' := 13) (cells' := 2) (slots' := 32) (W := 0) X12 hx hZ (rm_ix_3_n_0 l Z a0 hw a1 ba kb u0 u1 u2 hu0 hu1 hu2 cs hcs h11 n0 O E_a1 F_value_a1 F_coder_a1 V_ba S_CS) hown (ow50 hw) (ow51 hw) (own_nf hZ (ow53 hw)) (ow53 hw) (ow52 hw) (ow11 hw) (ow54 hw) (by decide) (by rw [hml]; rfl) e12 opd_14 [(.int 46)] [] rfl rfl rfl rfl (by decide) (by decide) rfl rfl (by decide) (by decide) E_a1 (hb hby d9_10) rfl (fun v13 T13 h13 L13 X13 e13 z13 => ?_)
 obtain ⟨rfl, Nq13, hq13⟩ := z13; replace e13 := e13.trans hq13; have N := Fr.app N Nq13
 refine og_istoreN (L' := #[.val (.ref a1), .val (.int (-1)), .unset, .unset]) X13 hx rfl (hb hby d9_13) rfl ?_
 refine og_iloadN X13 hx rfl (hb hby d9_14) rfl ?_
 refine og_if_lt (pc1 := 30) (pc2 := 18) X13 hx (hb hby d9_15) (by decide) (by decide) rfl (fun _ => ?_) (fun q => absurd q (by decide))
 refine og_iconst (v := (1 : Int32)) X13 hx rfl (hb hby d9_30) rfl ?_
 refine og_goto (pc' := 35) X13 hx (hb hby d9_31) (by decide) (by decide) ?_
 refine og_istoreN (L' := #[.val (.ref a1), .val (.int (-1)), .val (.int 1), .unset]) X13 hx rfl (hb hby d9_35) rfl ?_
 refine og_aloadN X13 hx rfl rfl (hb hby d9_36) rfl ?_
 refine og_virtual (pc' := 40) (cells' := 2) (slots' := 32) (W := 0) X13 hx hZ (rm_emp l Z a0 hw a1 ba kb (3 : Int32) _ (by decide) h11 n0 O E_a1 F_value_a1 F_coder_a1 V_ba) hown (ow92 hw) (ow93 hw) (own_nf hZ (ow95 hw)) (ow95 hw) (ow94 hw) (ow11 hw) (ow96 hw) (by decide) (by rw [hml]; rfl) e13 opd_9 [] [] rfl rfl rfl rfl (by decide) (by decide) rfl rfl (by decide) (by decide) E_a1 (hb hby d9_37) rfl (fun v14 T14 h14 L14 X14 e14 z14 => ?_)
 obtain ⟨rfl, Nq14, hq14⟩ := z14; replace e14 := e14.trans hq14; have N := Fr.app N Nq14
 refine og_if_ne (pc1 := 61) (pc2 := 43) X14 hx (hb hby d9_40) (by decide) (by decide) rfl (fun q => absurd q (by decide)) (fun _ => ?_)
 refine og_iloadN X14 hx rfl (hb hby d9_43) rfl ?_
 refine og_if_eq (pc1 := 61) (pc2 := 47) X14 hx (hb hby d9_44) (by decide) (by decide) rfl (fun q => absurd q (by decide)) (fun _ => ?_)
 refine og_iloadN X14 hx rfl (hb hby d9_47) rfl ?_
 refine og_aloadN X14 hx rfl rfl (hb hby d9_48) rfl ?_
 refine og_virtual (pc' := 52) (cells' := 2) (slots' := 32) (W := 1) X14 hx hZ (rm_len l Z a0 hw a1 ba kb (3 : Int32) _ cs hcs h11 n0 O E_a1 F_value_a1 F_coder_a1 V_ba S_CS) hown (ow97 hw) (ow66 hw) (own_nf hZ (ow68 hw)) (ow68 hw) (ow67 hw) (ow11 hw) (ow69 hw) (by decide) (by rw [hml]; rfl) e14 opd_13 [] [(.int (-1))] rfl rfl rfl rfl (by decide) (by decide) rfl rfl (by decide) (by decide) E_a1 (hb hby d9_49) rfl (fun v15 T15 h15 L15 X15 e15 z15 => ?_)
 obtain ⟨rfl, Nq15, hq15⟩ := z15; replace e15 := e15.trans hq15; have N := Fr.app N Nq15
 refine og_iconst (v := (1 : Int32)) X15 hx rfl (hb hby d9_52) rfl ?_
 refine og_isub X15 hx (hb hby d9_53) rfl ?_
 show OG p e below _ (T15.setTop (mkF m 54 #[.val (.ref a1), .val (.int (-1)), .val (.int 1), .unset] [(.int 2), (.int (-1))]))
 refine og_icmp_eq (pc1 := 61) (pc2 := 57) X15 hx (hb hby d9_54) (by decide) (by decide) rfl (fun q => absurd q (by decide)) (fun _ => ?_)
 refine og_iconst (v := (1 : Int32)) X15 hx rfl (hb hby d9_57) rfl ?_
 refine og_goto (pc' := 62) X15 hx (hb hby d9_58) (by decide) (by decide) ?_
 refine og_istoreN (L' := #[.val (.ref a1), .val (.int (-1)), .val (.int 1), .val (.int 1)]) X15 hx rfl (hb hby d9_62) rfl ?_
 refine og_iloadN X15 hx rfl (hb hby d9_63) rfl ?_
 refine og_if_eq (pc1 := 71) (pc2 := 67) X15 hx (hb hby d9_64) (by decide) (by decide) rfl (fun q => absurd q (by decide)) (fun _ => ?_)
 refine og_iloadN X15 hx rfl (hb hby d9_67) rfl ?_
 refine og_if_ne (pc1 := 85) (pc2 := 71) X15 hx (hb hby d9_68) (by decide) (by decide) rfl (fun _ => ?_) (fun q => absurd q (by decide))
 refine og_iloadN X15 hx rfl (hb hby d9_85) rfl ?_
 refine og_if_ge (pc1 := 102) (pc2 := 89) X15 hx (hb hby d9_86) (by decide) (by decide) rfl (fun q => absurd q (by decide)) (fun _ => ?_)
 refine og_new (pc' := 92) (cells' := 3) (slots' := 34) X15 hx hZ hown (ow98 hw) (ow99 hw) (ow43 hw) e15 (hb hby d9_89) rfl rfl rfl (by decide) (by decide) (fun T16 h16 nb16 X16 e16 E16 q16 E_nb16 D16 B16 => ?_)
 have s_nb16 : h11.size ≤ nb16 := Nat.le_of_eq q16.symm; have g_nb16 : n0 ≤ nb16 := Nat.le_trans (own_n0 O) s_nb16; have sz_nb16 : h0.size ≤ nb16 := Nat.le_trans K.1 s_nb16; have ne_a1_nb16 : a1 ≠ nb16 := Nat.ne_of_lt (Nat.lt_of_lt_of_le E_a1.lt s_nb16); have ne_ba_nb16 : ba ≠ nb16 := Nat.ne_of_lt (Nat.lt_of_lt_of_le V_ba.lt s_nb16); have Q_nb16 : Safe Z own_EL _ _ nb16 := Safe.new (Z := Z) (EL := own_EL) (vm := T11.vm) s_nb16
 have Q_nb16 := Safe.ext E16 CR.1 Q_nb16; have E_a1 := E_a1.ext E16; have F_value_a1 := F_value_a1.ext E16; have F_coder_a1 := F_coder_a1.ext E16; have V_ba := V_ba.ext E16; have O := O.ext E16
 have K := K.ext E16; have hk := Nat.le_trans hk E16.1; have CR := CR.trans (CHr.ext E16 CR.1)
 have F_schema_nb16 : Fld Z h16 nb16 "com/example/tombstone/tombstone/config/TableName" "schema" "Ljava/lang/String;" .null := D16 (Or.inr (ow113 hw)) (ty := (.object "java/lang/String")) (by decide)
 have F_name_nb16 : Fld Z h16 nb16 "com/example/tombstone/tombstone/config/TableName" "name" "Ljava/lang/String;" .null := D16 (Or.inr (ow115 hw)) (ty := (.object "java/lang/String")) (by decide)
 refine og_dup X16 hx rfl (hb hby d9_92) rfl ?_
 refine og_ldcS (pc' := 95) (cells' := 5) (slots' := 62) (n := 24) (z := (6 : Int32)) (vs := [(.int 112), (.int 117), (.int 98), (.int 108), (.int 105), (.int 99)]) X16 hx hZ hown (hw _ (List.mem_of_getElem? (i := 100) rfl)) (own_wS hw) e16 hS hk hEL (by decide) CR.1 ⟨by decide, by decide⟩ (by decide) (by decide) (by decide) (by decide) (hb hby d9_93) rfl rfl rfl (by decide) (by decide) (fun na17 T17 h17 kk17 nb17 k17 X17 e17 E17 hS hk hZ hown E_na17 F_coder_na17 F_value_na17 V_nb17 cr17 hne17 => ?_)
 have Q_nb16 := cr17.safe E_nb16.lt Q_nb16; have E_a1 := E_a1.ext E17; have F_value_a1 := F_value_a1.ext E17; have F_coder_a1 := F_coder_a1.ext E17; have V_ba := V_ba.ext E17; have E_nb16 := E_nb16.ext E17
 have F_schema_nb16 := F_schema_nb16.ext E17; have F_name_nb16 := F_name_nb16.ext E17; have O := O.ext E17; have K := K.ext E17; have CR := CR.trans cr17
 have ne_nb16_na17 := (hne17 _ Q_nb16).1; have ne_nb16_nb17 := (hne17 _ Q_nb16).2
 refine og_aloadN X17 hx rfl rfl (hb hby d9_95) rfl ?_
 refine og_specialW (pc' := 99) (cells' := 9) (slots' := 110) (W := 1) X17 hx hZ (rm_tn l Z a0 hw nb16 na17 a1 nb17 ba k17 kb (6 : Int32) (3 : Int32) _ _ (by decide) (by decide) h17 n0 O hEL E_nb16 F_schema_nb16 F_name_nb16 E_na17 F_value_na17 F_coder_na17 V_nb17 E_a1 F_value_a1 F_coder_a1 V_ba g_nb16 (Ne.symm ne_nb16_na17) ne_a1_nb16 (Ne.symm ne_nb16_nb17) ne_ba_nb16) hEL hS hk CR.1 all0 rfl hown (ow101 hw) (ow102 hw) (ow43 hw) (ow103 hw) (by decide) (by rw [hml]; rfl) e17 opd_15 [(.ref na17), (.ref a1)] [(.ref nb16)] rfl rfl rfl rfl (by decide) (by decide) rfl rfl (by decide) (by decide) (hb hby d9_96) rfl (fun v18 T18 h18 L18 kk18 X18 e18 hS hk hZ hown cr18 z18 => ?_)
 obtain ⟨rfl, Nq18, K18, F_schema_nb16', F_name_nb16'⟩ := z18; have N := Fr.app N Nq18
 have Q_nb16 := cr18.safe E_nb16.lt Q_nb16; have E_a1 := E_a1.keep K18; have F_value_a1 := F_value_a1.keep K18 (ninS ne_a1_nb16 nin0); have F_coder_a1 := F_coder_a1.keep K18 (ninS ne_a1_nb16 nin0); have V_ba := V_ba.keep K18 (ninS ne_ba_nb16 nin0); have E_nb16 := E_nb16.keep K18
 have E_na17 := E_na17.keep K18; have F_value_na17 := F_value_na17.keep K18 (ninS (Ne.symm ne_nb16_na17) nin0); have F_coder_na17 := F_coder_na17.keep K18 (ninS (Ne.symm ne_nb16_na17) nin0); have V_nb17 := V_nb17.keep K18 (ninS (Ne.symm ne_nb16_nb17) nin0); have O := O.keep K18 (allS g_nb16 all0); have K := K.trans K18 (allS (Or.inr sz_nb16) all0)
 have CR := CR.trans cr18
 have F_schema_nb16 := F_schema_nb16'; have F_name_nb16 := F_name_nb16'
 refine og_goto (pc' := 122) X18 hx (hb hby d9_99) (by decide) (by decide) ?_
 refine og_retRW X18 hx hZ hlk hEL hS e18 es hk CR hret rfl rfl rfl (hb hby d9_122) (by decide) (by decide) ?_
 rw [e18]; exact ⟨nb16, na17, _, _, rfl, N, K, E_nb16, F_schema_nb16, F_name_nb16, E_na17, F_value_na17, F_coder_na17, V_nb17⟩
theorem rm_min_4_4 (l : Launch) (Z : State) (a0 : Array Value) (hw : HW a0 Z)  (h0 : Heap) (n0 : Nat) (O : Old Z n0 h0) :
  Con l Z (⟨"java/lang/Math", "min", "(II)I"⟩ : MethodName) jdk_29_method_69_code 2 (some .int) ({ frames := 0, cells := 0, slots := 0, locals := 0 } : Room) #[(.int 4), (.int 4)] h0 (fun v h L => v = some (.int 4) ∧ Fr n0 L ∧ h = h0) := by
 refine own_startC opn_19 ?_
 intro p e s m below meth c T0 X0 hx hby hml hZ hown hnm hret hlk e0
 have N := Fr.nil n0; have K := Keep.refl h0 []
 refine OG.cast (oef11 m (4 : Int32) (4 : Int32)) ?_
 refine og_iloadN X0 hx rfl (hb hby d19_0) rfl ?_
 refine og_iloadN X0 hx rfl (hb hby d19_1) rfl ?_
 refine og_icmp_gt (pc1 := 9) (pc2 := 5) X0 hx (hb hby d19_2) (by decide) (by decide) rfl (fun q => absurd q (by decide)) (fun _ => ?_)
 refine og_iloadN X0 hx rfl (hb hby d19_5) rfl ?_
 refine og_goto (pc' := 10) X0 hx (hb hby d19_6) (by decide) (by decide) ?_
 refine og_retI X0 hx hlk hret (hb hby d19_10) (by decide) (by decide) ?_
 rw [e0]; exact ⟨rfl, N, rfl⟩
theorem rm_ic_4_n_0 (l : Launch) (Z : State) (a0 : Array Value) (hw : HW a0 Z) (ba : Addr) (kb : ClassId) (u0 u1 u2 u3 : Int32) (hu0 : ¬ u0 = 46) (hu1 : ¬ u1 = 46) (hu2 : ¬ u2 = 46) (hu3 : ¬ u3 = 46) (h0 : Heap) (n0 : Nat) (O : Old Z n0 h0) (V_ba : Arv Z h0 ba kb .byte (4 : Int32) [(.int u0), (.int u1), (.int u2), (.int u3)] (.int 0)) :
  Con l Z (⟨"java/lang/StringLatin1", "indexOfChar", "([BIII)I"⟩ : MethodName) jdk_43_method_23_code 6 (some .int) ({ frames := 0, cells := 0, slots := 0, locals := 0 } : Room) #[(.ref ba), (.int 46), (.int 0), (.int 4)] h0 (fun v h L => v = some (.int (-1)) ∧ Fr n0 L ∧ h = h0) := by
 refine own_startC opn_20 ?_
 intro p e s m below meth c T0 X0 hx hby hml hZ hown hnm hret hlk e0
 have N := Fr.nil n0; have K := Keep.refl h0 []
 refine OG.cast (oef12 m ba (46 : Int32) (0 : Int32) (4 : Int32)) ?_
 refine og_iloadN X0 hx rfl (hb hby d20_0) rfl ?_
 refine og_i2b X0 hx (hb hby d20_1) rfl ?_
 show OG p e below _ (T0.setTop (mkF m 2 #[.val (.ref ba), .val (.int 46), .val (.int 0), .val (.int 4), .unset, .unset] [(.int 46)]))
 refine og_istore (L' := #[.val (.ref ba), .val (.int 46), .val (.int 0), .val (.int 4), .val (.int 46), .unset]) X0 hx rfl (hb hby d20_2) rfl ?_
 refine og_iloadN X0 hx rfl (hb hby d20_4) rfl ?_
 refine og_istore (L' := #[.val (.ref ba), .val (.int 46), .val (.int 0), .val (.int 4), .val (.int 46), .val (.int 0)]) X0 hx rfl (hb hby d20_5) rfl ?_
 refine og_iload X0 hx rfl (hb hby d20_7) rfl ?_
 refine og_iloadN X0 hx rfl (hb hby d20_9) rfl ?_
 refine og_icmp_ge (pc1 := 31) (pc2 := 13) X0 hx (hb hby d20_10) (by decide) (by decide) rfl (fun q => absurd q (by decide)) (fun _ => ?_)
 refine og_aloadN X0 hx rfl rfl (hb hby d20_13) rfl ?_
 refine og_iload X0 hx rfl (hb hby d20_14) rfl ?_
 refine og_baload (v := (.int u0)) X0 hx hZ e0 V_ba ⟨by decide, by decide⟩ rfl (hb hby d20_16) rfl ?_
 refine og_iload X0 hx rfl (hb hby d20_17) rfl ?_
 refine og_icmp_ne (pc1 := 25) (pc2 := 22) X0 hx (hb hby d20_19) (by decide) (by decide) rfl (fun _ => ?_) (fun q => absurd q hu0)
 refine og_iinc (L' := #[.val (.ref ba), .val (.int 46), .val (.int 0), .val (.int 4), .val (.int 46), .val (.int 1)]) (w := (1 : Int32)) X0 hx rfl rfl rfl (hb hby d20_25) rfl ?_
 refine og_goto (pc' := 7) X0 hx (hb hby d20_28) (by decide) (by decide) ?_
 refine og_iload X0 hx rfl (hb hby d20_7) rfl ?_
 refine og_iloadN X0 hx rfl (hb hby d20_9) rfl ?_
 refine og_icmp_ge (pc1 := 31) (pc2 := 13) X0 hx (hb hby d20_10) (by decide) (by decide) rfl (fun q => absurd q (by decide)) (fun _ => ?_)
 refine og_aloadN X0 hx rfl rfl (hb hby d20_13) rfl ?_
 refine og_iload X0 hx rfl (hb hby d20_14) rfl ?_
 refine og_baload (v := (.int u1)) X0 hx hZ e0 V_ba ⟨by decide, by decide⟩ rfl (hb hby d20_16) rfl ?_
 refine og_iload X0 hx rfl (hb hby d20_17) rfl ?_
 refine og_icmp_ne (pc1 := 25) (pc2 := 22) X0 hx (hb hby d20_19) (by decide) (by decide) rfl (fun _ => ?_) (fun q => absurd q hu1)
 refine og_iinc (L' := #[.val (.ref ba), .val (.int 46), .val (.int 0), .val (.int 4), .val (.int 46), .val (.int 2)]) (w := (1 : Int32)) X0 hx rfl rfl rfl (hb hby d20_25) rfl ?_
 refine og_goto (pc' := 7) X0 hx (hb hby d20_28) (by decide) (by decide) ?_
 refine og_iload X0 hx rfl (hb hby d20_7) rfl ?_
 refine og_iloadN X0 hx rfl (hb hby d20_9) rfl ?_
 refine og_icmp_ge (pc1 := 31) (pc2 := 13) X0 hx (hb hby d20_10) (by decide) (by decide) rfl (fun q => absurd q (by decide)) (fun _ => ?_)
 refine og_aloadN X0 hx rfl rfl (hb hby d20_13) rfl ?_
 refine og_iload X0 hx rfl (hb hby d20_14) rfl ?_
 refine og_baload (v := (.int u2)) X0 hx hZ e0 V_ba ⟨by decide, by decide⟩ rfl (hb hby d20_16) rfl ?_
 refine og_iload X0 hx rfl (hb hby d20_17) rfl ?_
 refine og_icmp_ne (pc1 := 25) (pc2 := 22) X0 hx (hb hby d20_19) (by decide) (by decide) rfl (fun _ => ?_) (fun q => absurd q hu2)
 refine og_iinc (L' := #[.val (.ref ba), .val (.int 46), .val (.int 0), .val (.int 4), .val (.int 46), .val (.int 3)]) (w := (1 : Int32)) X0 hx rfl rfl rfl (hb hby d20_25) rfl ?_
 refine og_goto (pc' := 7) X0 hx (hb hby d20_28) (by decide) (by decide) ?_
 refine og_iload X0 hx rfl (hb hby d20_7) rfl ?_
 refine og_iloadN X0 hx rfl (hb hby d20_9) rfl ?_
 refine og_icmp_ge (pc1 := 31) (pc2 := 13) X0 hx (hb hby d20_10) (by decide) (by decide) rfl (fun q => absurd q (by decide)) (fun _ => ?_)
 refine og_aloadN X0 hx rfl rfl (hb hby d20_13) rfl ?_
 refine og_iload X0 hx rfl (hb hby d20_14) rfl ?_
 refine og_baload (v := (.int u3)) X0 hx hZ e0 V_ba ⟨by decide, by decide⟩ rfl (hb hby d20_16) rfl ?_
 refine og_iload X0 hx rfl (hb hby d20_17) rfl ?_
 refine og_icmp_ne (pc1 := 25) (pc2 := 22) X0 hx (hb hby d20_19) (by decide) (by decide) rfl (fun _ => ?_) (fun q => absurd q hu3)
 refine og_iinc (L' := #[.val (.ref ba), .val (.int 46), .val (.int 0), .val (.int 4), .val (.int 46), .val (.int 4)]) (w := (1 : Int32)) X0 hx rfl rfl rfl (hb hby d20_25) rfl ?_
 refine og_goto (pc' := 7) X0 hx (hb hby d20_28) (by decide) (by decide) ?_
 refine og_iload X0 hx rfl (hb hby d20_7) rfl ?_
 refine og_iloadN X0 hx rfl (hb hby d20_9) rfl ?_
 refine og_icmp_ge (pc1 := 31) (pc2 := 13) X0 hx (hb hby d20_10) (by decide) (by decide) rfl (fun _ => ?_) (fun q => absurd q (by decide))
 refine og_iconst (v := (-1 : Int32)) X0 hx rfl (hb hby d20_31) rfl ?_
 refine og_retI X0 hx hlk hret (hb hby d20_32) (by decide) (by decide) ?_
 rw [e0]; exact ⟨rfl, N, rfl⟩
theorem rm_li_4_n_0 (l : Launch) (Z : State) (a0 : Array Value) (hw : HW a0 Z) (ba : Addr) (kb : ClassId) (u0 u1 u2 u3 : Int32) (hu0 : ¬ u0 = 46) (hu1 : ¬ u1 = 46) (hu2 : ¬ u2 = 46) (hu3 : ¬ u3 = 46) (h0 : Heap) (n0 : Nat) (O : Old Z n0 h0) (V_ba : Arv Z h0 ba kb .byte (4 : Int32) [(.int u0), (.int u1), (.int u2), (.int u3)] (.int 0)) :
  Con l Z (⟨"java/lang/StringLatin1", "indexOf", "([BIII)I"⟩ : MethodName) jdk_43_method_22_code 4 (some .int) ({ frames := 1, cells := 0, slots := 0, locals := 17 } : Room) #[(.ref ba), (.int 46), (.int 0), (.int 4)] h0 (fun v h L => v = some (.int (-1)) ∧ Fr n0 L ∧ h = h0) := by
 refine own_startC opn_16 ?_
 intro p e s m below meth c T0 X0 hx hby hml hZ hown hnm hret hlk e0
 have N := Fr.nil n0; have K := Keep.refl h0 []
 refine OG.cast (oef13 m ba (46 : Int32) (0 : Int32) (4 : Int32)) ?_
 refine og_iloadN X0 hx rfl (hb hby d16_0) rfl ?_
 refine og_static (pc' := 4) (cells' := 0) (slots' := 0) (W := 0) X0 hx hZ (rm_ce l Z a0 hw h0 n0 O) hown (ow79 hw) (ow80 hw) (ow77 hw) (ow81 hw) (by decide) (by rw [hml]; rfl) e0 opd_10 [(.int 46)] [] rfl rfl rfl rfl (by decide) (by decide) rfl rfl (by decide) (by decide) (hb hby d16_1) rfl (fun v11 T11 h11 L11 X11 e11 z11 => ?_)
 obtain ⟨rfl, Nq11, hq11⟩ := z11; replace e11 := e11.trans hq11; have N := Fr.app N Nq11
 refine og_if_ne (pc1 := 9) (pc2 := 7) X11 hx (hb hby d16_4) (by decide) (by decide) rfl (fun _ => ?_) (fun q => absurd q (by decide))
 refine og_iloadN X11 hx rfl (hb hby d16_9) rfl ?_
 refine og_iconst (v := (0 : Int32)) X11 hx rfl (hb hby d16_10) rfl ?_
 refine og_static (pc' := 14) (cells' := 0) (slots' := 0) (W := 0) X11 hx hZ (rm_max_0_0 l Z a0 hw h0 n0 O) hown (ow82 hw) (ow83 hw) (ow84 hw) (ow85 hw) (by decide) (by rw [hml]; rfl) e11 opd_11 [(.int 0), (.int 0)] [] rfl rfl rfl rfl (by decide) (by decide) rfl rfl (by decide) (by decide) (hb hby d16_11) rfl (fun v12 T12 h12 L12 X12 e12 z12 => ?_)
 obtain ⟨rfl, Nq12, hq12⟩ := z12; replace e12 := e12.trans hq12; have N := Fr.app N Nq12
 refine og_istoreN (L' := #[.val (.ref ba), .val (.int 46), .val (.int 0), .val (.int 4)]) X12 hx rfl (hb hby d16_14) rfl ?_
 refine og_iloadN X12 hx rfl (hb hby d16_15) rfl ?_
 refine og_aloadN X12 hx rfl rfl (hb hby d16_16) rfl ?_
 refine og_arraylength X12 hx hZ e12 V_ba (hb hby d16_17) rfl ?_
 refine og_static (pc' := 21) (cells' := 0) (slots' := 0) (W := 0) X12 hx hZ (rm_min_4_4 l Z a0 hw h0 n0 O) hown (ow86 hw) (ow87 hw) (ow84 hw) (ow88 hw) (by decide) (by rw [hml]; rfl) e12 opd_11 [(.int 4), (.int 4)] [] rfl rfl rfl rfl (by decide) (by decide) rfl rfl (by decide) (by decide) (hb hby d16_18) rfl (fun v13 T13 h13 L13 X13 e13 z13 => ?_)
 obtain ⟨rfl, Nq13, hq13⟩ := z13; replace e13 := e13.trans hq13; have N := Fr.app N Nq13
 refine og_istoreN (L' := #[.val (.ref ba), .val (.int 46), .val (.int 0), .val (.int 4)]) X13 hx rfl (hb hby d16_21) rfl ?_
 refine og_iloadN X13 hx rfl (hb hby d16_22) rfl ?_
 refine og_iloadN X13 hx rfl (hb hby d16_23) rfl ?_
 refine og_icmp_lt (pc1 := 29) (pc2 := 27) X13 hx (hb hby d16_24) (by decide) (by decide) rfl (fun _ => ?_) (fun q => absurd q (by decide))
 refine og_aloadN X13 hx rfl rfl (hb hby d16_29) rfl ?_
 refine og_iloadN X13 hx rfl (hb hby d16_30) rfl ?_
 refine og_iloadN X13 hx rfl (hb hby d16_31) rfl ?_
 refine og_iloadN X13 hx rfl (hb hby d16_32) rfl ?_
 refine og_static (pc' := 36) (cells' := 0) (slots' := 0) (W := 0) X13 hx hZ (rm_ic_4_n_0 l Z a0 hw ba kb u0 u1 u2 u3 hu0 hu1 hu2 hu3 h0 n0 O V_ba) hown (ow89 hw) (ow90 hw) (ow77 hw) (ow91 hw) (by decide) (by rw [hml]; rfl) e13 opd_12 [(.ref ba), (.int 46), (.int 0), (.int 4)] [] rfl rfl rfl rfl (by decide) (by decide) rfl rfl (by decide) (by decide) (hb hby d16_33) rfl (fun v14 T14 h14 L14 X14 e14 z14 => ?_)
 obtain ⟨rfl, Nq14, hq14⟩ := z14; replace e14 := e14.trans hq14; have N := Fr.app N Nq14
 refine og_retI X14 hx hlk hret (hb hby d16_36) (by decide) (by decide) ?_
 rw [e14]; exact ⟨rfl, N, rfl⟩
theorem rm_i2_4_n_0 (l : Launch) (Z : State) (a0 : Array Value) (hw : HW a0 Z) (a1 ba : Addr) (kb : ClassId) (u0 u1 u2 u3 : Int32) (hu0 : ¬ u0 = 46) (hu1 : ¬ u1 = 46) (hu2 : ¬ u2 = 46) (hu3 : ¬ u3 = 46) (cs : Int32) (hcs : ¬ cs = 0) (h0 : Heap) (n0 : Nat) (O : Old Z n0 h0) (E_a1 : Exa Z h0 a1 "java/lang/String") (F_value_a1 : Fld Z h0 a1 "java/lang/String" "value" "[B" (.ref ba)) (F_coder_a1 : Fld Z h0 a1 "java/lang/String" "coder" "B" (.int 0)) (V_ba : Arv Z h0 ba kb .byte (4 : Int32) [(.int u0), (.int u1), (.int u2), (.int u3)] (.int 0)) (S_CS : Sta Z Z.heap "java/lang/String" "COMPACT_STRINGS" "Z" (.int cs)) :
  Con l Z (⟨"java/lang/String", "indexOf", "(II)I"⟩ : MethodName) jdk_42_method_80_code 3 (some .int) ({ frames := 2, cells := 0, slots := 0, locals := 32 } : Room) #[(.ref a1), (.int 46), (.int 0)] h0 (fun v h L => v = some (.int (-1)) ∧ Fr n0 L ∧ h = h0) := by
 refine own_startC opn_12 ?_
 intro p e s m below meth c T0 X0 hx hby hml hZ hown hnm hret hlk e0
 have N := Fr.nil n0; have K := Keep.refl h0 []
 refine OG.cast (oef14 m a1 (46 : Int32) (0 : Int32)) ?_
 refine og_aloadN X0 hx rfl rfl (hb hby d12_0) rfl ?_
 refine og_virtual (pc' := 4) (cells' := 0) (slots' := 0) (W := 0) X0 hx hZ (rm_il l Z a0 hw a1 cs hcs h0 n0 O F_coder_a1 S_CS) hown (ow60 hw) (ow61 hw) (own_nf hZ (ow63 hw)) (ow63 hw) (ow62 hw) (ow11 hw) (ow64 hw) (by decide) (by rw [hml]; rfl) e0 opd_9 [] [] rfl rfl rfl rfl (by decide) (by decide) rfl rfl (by decide) (by decide) E_a1 (hb hby d12_1) rfl (fun v11 T11 h11 L11 X11 e11 z11 => ?_)
 obtain ⟨rfl, Nq11, hq11⟩ := z11; replace e11 := e11.trans hq11; have N := Fr.app N Nq11
 refine og_if_eq (pc1 := 23) (pc2 := 7) X11 hx (hb hby d12_4) (by decide) (by decide) rfl (fun q => absurd q (by decide)) (fun _ => ?_)
 refine og_aloadN X11 hx rfl rfl (hb hby d12_7) rfl ?_
 refine og_getfield X11 hx hZ (host := "") hown (Or.inl (ow28 hw)) Via.refl e11 F_value_a1 (hb hby d12_8) rfl (fun T12 X12 e12 => ?_)
 refine og_iloadN X12 hx rfl (hb hby d12_11) rfl ?_
 refine og_iloadN X12 hx rfl (hb hby d12_12) rfl ?_
 refine og_aloadN X12 hx rfl rfl (hb hby d12_13) rfl ?_
 refine og_virtual (pc' := 17) (cells' := 0) (slots' := 0) (W := 3) X12 hx hZ (rm_len l Z a0 hw a1 ba kb (4 : Int32) _ cs hcs h0 n0 O E_a1 F_value_a1 F_coder_a1 V_ba S_CS) hown (ow65 hw) (ow66 hw) (own_nf hZ (ow68 hw)) (ow68 hw) (ow67 hw) (ow11 hw) (ow69 hw) (by decide) (by rw [hml]; rfl) e12 opd_13 [] [(.int 0), (.int 46), (.ref ba)] rfl rfl rfl rfl (by decide) (by decide) rfl rfl (by decide) (by decide) E_a1 (hb hby d12_14) rfl (fun v13 T13 h13 L13 X13 e13 z13 => ?_)
 obtain ⟨rfl, Nq13, hq13⟩ := z13; replace e13 := e13.trans hq13; have N := Fr.app N Nq13
 refine og_static (pc' := 20) (cells' := 0) (slots' := 0) (W := 0) X13 hx hZ (rm_li_4_n_0 l Z a0 hw ba kb u0 u1 u2 u3 hu0 hu1 hu2 hu3 h0 n0 O V_ba) hown (ow75 hw) (ow76 hw) (ow77 hw) (ow78 hw) (by decide) (by rw [hml]; rfl) e13 opd_12 [(.ref ba), (.int 46), (.int 0), (.int 4)] [] rfl rfl rfl rfl (by decide) (by decide) rfl rfl (by decide) (by decide) (hb hby d12_17) rfl (fun v14 T14 h14 L14 X14 e14 z14 => ?_)
 obtain ⟨rfl, Nq14, hq14⟩ := z14; replace e14 := e14.trans hq14; have N := Fr.app N Nq14
 refine og_goto (pc' := 36) X14 hx (hb hby d12_20) (by decide) (by decide) ?_
 refine og_retI X14 hx hlk hret (hb hby d12_36) (by decide) (by decide) ?_
 rw [e14]; exact ⟨rfl, N, rfl⟩
theorem rm_ix_4_n_0 (l : Launch) (Z : State) (a0 : Array Value) (hw : HW a0 Z) (a1 ba : Addr) (kb : ClassId) (u0 u1 u2 u3 : Int32) (hu0 : ¬ u0 = 46) (hu1 : ¬ u1 = 46) (hu2 : ¬ u2 = 46) (hu3 : ¬ u3 = 46) (cs : Int32) (hcs : ¬ cs = 0) (h0 : Heap) (n0 : Nat) (O : Old Z n0 h0) (E_a1 : Exa Z h0 a1 "java/lang/String") (F_value_a1 : Fld Z h0 a1 "java/lang/String" "value" "[B" (.ref ba)) (F_coder_a1 : Fld Z h0 a1 "java/lang/String" "coder" "B" (.int 0)) (V_ba : Arv Z h0 ba kb .byte (4 : Int32) [(.int u0), (.int u1), (.int u2), (.int u3)] (.int 0)) (S_CS : Sta Z Z.heap "java/lang/String" "COMPACT_STRINGS" "Z" (.int cs)) :
  Con l Z (⟨"java/lang/String", "indexOf", "(I)I"⟩ : MethodName) jdk_42_method_79_code 2 (some .int) ({ frames := 3, cells := 0, slots := 0, locals := 46 } : Room) #[(.ref a1), (.int 46)] h0 (fun v h L => v = some (.int (-1)) ∧ Fr n0 L ∧ h = h0) := by
 refine own_startC opn_11 ?_
 intro p e s m below meth c T0 X0 hx hby hml hZ hown hnm hret hlk e0
 have N := Fr.nil n0; have K := Keep.refl h0 []
 refine OG.cast (oef4 m a1 (46 : Int32)) ?_
 refine og_aloadN X0 hx rfl rfl (hb hby d11_0) rfl ?_
 refine og_iloadN X0 hx rfl (hb hby d11_1) rfl ?_
 refine og_iconst (v := (0 : Int32)) X0 hx rfl (hb hby d11_2) rfl ?_
 refine og_virtual (pc' := 6) (cells' := 0) (slots' := 0) (W := 0) X0 hx hZ (rm_i2_4_n_0 l Z a0 hw a1 ba kb u0 u1 u2 u3 hu0 hu1 hu2 hu3 cs hcs h0 n0 O E_a1 F_value_a1 F_coder_a1 V_ba S_CS) hown (ow55 hw) (ow56 hw) (own_nf hZ (ow58 hw)) (ow58 hw) (ow57 hw) (ow11 hw) (ow59 hw) (by decide) (by rw [hml]; rfl) e0 opd_11 [(.int 46), (.int 0)] [] rfl rfl rfl rfl (by decide) (by decide) rfl rfl (by decide) (by decide) E_a1 (hb hby d11_3) rfl (fun v11 T11 h11 L11 X11 e11 z11 => ?_)
 obtain ⟨rfl, Nq11, hq11⟩ := z11; replace e11 := e11.trans hq11; have N := Fr.app N Nq11
 refine og_retI X11 hx hlk hret (hb hby d11_6) (by decide) (by decide) ?_
 rw [e11]; exact ⟨rfl, N, rfl⟩
theorem rm_pa4_n (l : Launch) (Z : State) (a0 : Array Value) (hw : HW a0 Z) (a1 ba : Addr) (kb : ClassId) (u0 u1 u2 u3 : Int32) (hu0 : ¬ u0 = 46) (hu1 : ¬ u1 = 46) (hu2 : ¬ u2 = 46) (hu3 : ¬ u3 = 46) (cs : Int32) (hcs : ¬ cs = 0) (fm : Value) (hfm : fm.isRef = true) (h0 : Heap) (n0 : Nat) (O : Old Z n0 h0) (hEL : EW Z a0 own_EL) (E_a1 : Exa Z h0 a1 "java/lang/String") (F_value_a1 : Fld Z h0 a1 "java/lang/String" "value" "[B" (.ref ba)) (F_coder_a1 : Fld Z h0 a1 "java/lang/String" "coder" "B" (.int 0)) (V_ba : Arv Z h0 ba kb .byte (4 : Int32) [(.int u0), (.int u1), (.int u2), (.int u3)] (.int 0)) (S_CS : Sta Z Z.heap "java/lang/String" "COMPACT_STRINGS" "Z" (.int cs)) (S_FM : Sta Z Z.heap "jdk/internal/util/Preconditions" "SIOOBE_FORMATTER" "Ljava/util/function/BiFunction;" fm) :
  ConW l Z own_EL [] (⟨"com/example/tombstone/tombstone/config/TableName", "parse", "(Ljava/lang/String;)Lcom/example/tombstone/tombstone/config/TableName;"⟩ : MethodName) prog_8_method_2_code 4 (some (.object "com/example/tombstone/tombstone/config/TableName")) ({ frames := 4, cells := 9, slots := 110, locals := 59 } : Room) #[(.ref a1)] h0 (fun v h L => ∃ t x bx kx, v = some (.ref t) ∧ Fr n0 L ∧ Keep h0 h [] ∧ Exa Z h t "com/example/tombstone/tombstone/config/TableName" ∧ Fld Z h t "com/example/tombstone/tombstone/config/TableName" "schema" "Ljava/lang/String;" (.ref x) ∧ Fld Z h t "com/example/tombstone/tombstone/config/TableName" "name" "Ljava/lang/String;" (.ref a1) ∧ Exa Z h x "java/lang/String" ∧ Fld Z h x "java/lang/String" "value" "[B" (.ref bx) ∧ Fld Z h x "java/lang/String" "coder" "B" (.int 0) ∧ Arv Z h bx kx .byte (6 : Int32) [(.int 112), (.int 117), (.int 98), (.int 108), (.int 105), (.int 99)] (.int 0)) := by
 refine own_startWC opn_9 ?_
 intro p e s m below meth c T0 X0 hx hby hml hZ hown hnm hret hlk e0 es hS CR hsf
 have N := Fr.nil n0; have K := Keep.refl h0 []; have hk := Nat.le_refl h0.size
 refine OG.cast (oef15 m a1) ?_
 refine og_aloadN X0 hx rfl rfl (hb hby d9_0) rfl ?_
 refine og_ldcO (pc' := 3) (cells' := 2) (slots' := 32) (n := 28) X0 hx hZ hown (hw _ (List.mem_of_getElem? (i := 45) rfl)) (own_wS hw) e0 hS hk hEL CR.1 (by decide) (by decide) (hb hby d9_1) rfl rfl rfl (by decide) (by decide) (fun na11 T11 h11 kk11 X11 e11 E11 hS hk hZ hown cr11 => ?_)
 have E_a1 := E_a1.ext E11; have F_value_a1 := F_value_a1.ext E11; have F_coder_a1 := F_coder_a1.ext E11; have V_ba := V_ba.ext E11; have O := O.ext E11; have K := K.ext E11
 have CR := CR.trans cr11
 refine og_static (pc' := 6) (cells' := 2) (slots' := 32) (W := 0) X11 hx hZ (rm_rnn l Z a0 hw a1 na11 h11 n0 O) hown (ow46 hw) (ow47 hw) (ow48 hw) (ow49 hw) (by decide) (by rw [hml]; rfl) e11 opd_8 [(.ref a1), (.ref na11)] [] rfl rfl rfl rfl (by decide) (by decide) rfl rfl (by decide) (by decide) (hb hby d9_3) rfl (fun v12 T12 h12 L12 X12 e12 z12 => ?_)
 obtain ⟨rfl, Nq12, hq12⟩ := z12; replace e12 := e12.trans hq12; have N := Fr.app N Nq12
 refine og_pop X12 hx rfl (hb hby d9_6) rfl ?_
 refine og_aloadN X12 hx rfl rfl (hb hby d9_7) rfl ?_
 refine og_bipush (v := (46 : Int32)) X12 hx rfl (hb hby d9_8) rfl ?_
 refine og_virtual (pc' := 13) (cells' := 2) (slots' := 32) (W := 0) X12 hx hZ (rm_ix_4_n_0 l Z a0 hw a1 ba kb u0 u1 u2 u3 hu0 hu1 hu2 hu3 cs hcs h11 n0 O E_a1 F_value_a1 F_coder_a1 V_ba S_CS) hown (ow50 hw) (ow51 hw) (own_nf hZ (ow53 hw)) (ow53 hw) (ow52 hw) (ow11 hw) (ow54 hw) (by decide) (by rw [hml]; rfl) e12 opd_14 [(.int 46)] [] rfl rfl rfl rfl (by decide) (by decide) rfl rfl (by decide) (by decide) E_a1 (hb hby d9_10) rfl (fun v13 T13 h13 L13 X13 e13 z13 => ?_)
 obtain ⟨rfl, Nq13, hq13⟩ := z13; replace e13 := e13.trans hq13; have N := Fr.app N Nq13
 refine og_istoreN (L' := #[.val (.ref a1), .val (.int (-1)), .unset, .unset]) X13 hx rfl (hb hby d9_13) rfl ?_
 refine og_iloadN X13 hx rfl (hb hby d9_14) rfl ?_
 refine og_if_lt (pc1 := 30) (pc2 := 18) X13 hx (hb hby d9_15) (by decide) (by decide) rfl (fun _ => ?_) (fun q => absurd q (by decide))
 refine og_iconst (v := (1 : Int32)) X13 hx rfl (hb hby d9_30) rfl ?_
 refine og_goto (pc' := 35) X13 hx (hb hby d9_31) (by decide) (by decide) ?_
 refine og_istoreN (L' := #[.val (.ref a1), .val (.int (-1)), .val (.int 1), .unset]) X13 hx rfl (hb hby d9_35) rfl ?_
 refine og_aloadN X13 hx rfl rfl (hb hby d9_36) rfl ?_
 refine og_virtual (pc' := 40) (cells' := 2) (slots' := 32) (W := 0) X13 hx hZ (rm_emp l Z a0 hw a1 ba kb (4 : Int32) _ (by decide) h11 n0 O E_a1 F_value_a1 F_coder_a1 V_ba) hown (ow92 hw) (ow93 hw) (own_nf hZ (ow95 hw)) (ow95 hw) (ow94 hw) (ow11 hw) (ow96 hw) (by decide) (by rw [hml]; rfl) e13 opd_9 [] [] rfl rfl rfl rfl (by decide) (by decide) rfl rfl (by decide) (by decide) E_a1 (hb hby d9_37) rfl (fun v14 T14 h14 L14 X14 e14 z14 => ?_)
 obtain ⟨rfl, Nq14, hq14⟩ := z14; replace e14 := e14.trans hq14; have N := Fr.app N Nq14
 refine og_if_ne (pc1 := 61) (pc2 := 43) X14 hx (hb hby d9_40) (by decide) (by decide) rfl (fun q => absurd q (by decide)) (fun _ => ?_)
 refine og_iloadN X14 hx rfl (hb hby d9_43) rfl ?_
 refine og_if_eq (pc1 := 61) (pc2 := 47) X14 hx (hb hby d9_44) (by decide) (by decide) rfl (fun q => absurd q (by decide)) (fun _ => ?_)
 refine og_iloadN X14 hx rfl (hb hby d9_47) rfl ?_
 refine og_aloadN X14 hx rfl rfl (hb hby d9_48) rfl ?_
 refine og_virtual (pc' := 52) (cells' := 2) (slots' := 32) (W := 1) X14 hx hZ (rm_len l Z a0 hw a1 ba kb (4 : Int32) _ cs hcs h11 n0 O E_a1 F_value_a1 F_coder_a1 V_ba S_CS) hown (ow97 hw) (ow66 hw) (own_nf hZ (ow68 hw)) (ow68 hw) (ow67 hw) (ow11 hw) (ow69 hw) (by decide) (by rw [hml]; rfl) e14 opd_13 [] [(.int (-1))] rfl rfl rfl rfl (by decide) (by decide) rfl rfl (by decide) (by decide) E_a1 (hb hby d9_49) rfl (fun v15 T15 h15 L15 X15 e15 z15 => ?_)
 obtain ⟨rfl, Nq15, hq15⟩ := z15; replace e15 := e15.trans hq15; have N := Fr.app N Nq15
 refine og_iconst (v := (1 : Int32)) X15 hx rfl (hb hby d9_52) rfl ?_
 refine og_isub X15 hx (hb hby d9_53) rfl ?_
 show OG p e below _ (T15.setTop (mkF m 54 #[.val (.ref a1), .val (.int (-1)), .val (.int 1), .unset] [(.int 3), (.int (-1))]))
 refine og_icmp_eq (pc1 := 61) (pc2 := 57) X15 hx (hb hby d9_54) (by decide) (by decide) rfl (fun q => absurd q (by decide)) (fun _ => ?_)
 refine og_iconst (v := (1 : Int32)) X15 hx rfl (hb hby d9_57) rfl ?_
 refine og_goto (pc' := 62) X15 hx (hb hby d9_58) (by decide) (by decide) ?_
 refine og_istoreN (L' := #[.val (.ref a1), .val (.int (-1)), .val (.int 1), .val (.int 1)]) X15 hx rfl (hb hby d9_62) rfl ?_
 refine og_iloadN X15 hx rfl (hb hby d9_63) rfl ?_
 refine og_if_eq (pc1 := 71) (pc2 := 67) X15 hx (hb hby d9_64) (by decide) (by decide) rfl (fun q => absurd q (by decide)) (fun _ => ?_)
 refine og_iloadN X15 hx rfl (hb hby d9_67) rfl ?_
 refine og_if_ne (pc1 := 85) (pc2 := 71) X15 hx (hb hby d9_68) (by decide) (by decide) rfl (fun _ => ?_) (fun q => absurd q (by decide))
 refine og_iloadN X15 hx rfl (hb hby d9_85) rfl ?_
 refine og_if_ge (pc1 := 102) (pc2 := 89) X15 hx (hb hby d9_86) (by decide) (by decide) rfl (fun q => absurd q (by decide)) (fun _ => ?_)
 refine og_new (pc' := 92) (cells' := 3) (slots' := 34) X15 hx hZ hown (ow98 hw) (ow99 hw) (ow43 hw) e15 (hb hby d9_89) rfl rfl rfl (by decide) (by decide) (fun T16 h16 nb16 X16 e16 E16 q16 E_nb16 D16 B16 => ?_)
 have s_nb16 : h11.size ≤ nb16 := Nat.le_of_eq q16.symm; have g_nb16 : n0 ≤ nb16 := Nat.le_trans (own_n0 O) s_nb16; have sz_nb16 : h0.size ≤ nb16 := Nat.le_trans K.1 s_nb16; have ne_a1_nb16 : a1 ≠ nb16 := Nat.ne_of_lt (Nat.lt_of_lt_of_le E_a1.lt s_nb16); have ne_ba_nb16 : ba ≠ nb16 := Nat.ne_of_lt (Nat.lt_of_lt_of_le V_ba.lt s_nb16); have Q_nb16 : Safe Z own_EL _ _ nb16 := Safe.new (Z := Z) (EL := own_EL) (vm := T11.vm) s_nb16
 have Q_nb16 := Safe.ext E16 CR.1 Q_nb16; have E_a1 := E_a1.ext E16; have F_value_a1 := F_value_a1.ext E16; have F_coder_a1 := F_coder_a1.ext E16; have V_ba := V_ba.ext E16; have O := O.ext E16
 have K := K.ext E16; have hk := Nat.le_trans hk E16.1; have CR := CR.trans (CHr.ext E16 CR.1)
 have F_schema_nb16 : Fld Z h16 nb16 "com/example/tombstone/tombstone/config/TableName" "schema" "Ljava/lang/String;" .null := D16 (Or.inr (ow113 hw)) (ty := (.object "java/lang/String")) (by decide)
 have F_name_nb16 : Fld Z h16 nb16 "com/example/tombstone/tombstone/config/TableName" "name" "Ljava/lang/String;" .null := D16 (Or.inr (ow115 hw)) (ty := (.object "java/lang/String")) (by decide)
 refine og_dup X16 hx rfl (hb hby d9_92) rfl ?_
 refine og_ldcS (pc' := 95) (cells' := 5) (slots' := 62) (n := 24) (z := (6 : Int32)) (vs := [(.int 112), (.int 117), (.int 98), (.int 108), (.int 105), (.int 99)]) X16 hx hZ hown (hw _ (List.mem_of_getElem? (i := 100) rfl)) (own_wS hw) e16 hS hk hEL (by decide) CR.1 ⟨by decide, by decide⟩ (by decide) (by decide) (by decide) (by decide) (hb hby d9_93) rfl rfl rfl (by decide) (by decide) (fun na17 T17 h17 kk17 nb17 k17 X17 e17 E17 hS hk hZ hown E_na17 F_coder_na17 F_value_na17 V_nb17 cr17 hne17 => ?_)
 have Q_nb16 := cr17.safe E_nb16.lt Q_nb16; have E_a1 := E_a1.ext E17; have F_value_a1 := F_value_a1.ext E17; have F_coder_a1 := F_coder_a1.ext E17; have V_ba := V_ba.ext E17; have E_nb16 := E_nb16.ext E17
 have F_schema_nb16 := F_schema_nb16.ext E17; have F_name_nb16 := F_name_nb16.ext E17; have O := O.ext E17; have K := K.ext E17; have CR := CR.trans cr17
 have ne_nb16_na17 := (hne17 _ Q_nb16).1; have ne_nb16_nb17 := (hne17 _ Q_nb16).2
 refine og_aloadN X17 hx rfl rfl (hb hby d9_95) rfl ?_
 refine og_specialW (pc' := 99) (cells' := 9) (slots' := 110) (W := 1) X17 hx hZ (rm_tn l Z a0 hw nb16 na17 a1 nb17 ba k17 kb (6 : Int32) (4 : Int32) _ _ (by decide) (by decide) h17 n0 O hEL E_nb16 F_schema_nb16 F_name_nb16 E_na17 F_value_na17 F_coder_na17 V_nb17 E_a1 F_value_a1 F_coder_a1 V_ba g_nb16 (Ne.symm ne_nb16_na17) ne_a1_nb16 (Ne.symm ne_nb16_nb17) ne_ba_nb16) hEL hS hk CR.1 all0 rfl hown (ow101 hw) (ow102 hw) (ow43 hw) (ow103 hw) (by decide) (by rw [hml]; rfl) e17 opd_15 [(.ref na17), (.ref a1)] [(.ref nb16)] rfl rfl rfl rfl (by decide) (by decide) rfl rfl (by decide) (by decide) (hb hby d9_96) rfl (fun v18 T18 h18 L18 kk18 X18 e18 hS hk hZ hown cr18 z18 => ?_)
 obtain ⟨rfl, Nq18, K18, F_schema_nb16', F_name_nb16'⟩ := z18; have N := Fr.app N Nq18
 have Q_nb16 := cr18.safe E_nb16.lt Q_nb16; have E_a1 := E_a1.keep K18; have F_value_a1 := F_value_a1.keep K18 (ninS ne_a1_nb16 nin0); have F_coder_a1 := F_coder_a1.keep K18 (ninS ne_a1_nb16 nin0); have V_ba := V_ba.keep K18 (ninS ne_ba_nb16 nin0); have E_nb16 := E_nb16.keep K18
 have E_na17 := E_na17.keep K18; have F_value_na17 := F_value_na17.keep K18 (ninS (Ne.symm ne_nb16_na17) nin0); have F_coder_na17 := F_coder_na17.keep K18 (ninS (Ne.symm ne_nb16_na17) nin0); have V_nb17 := V_nb17.keep K18 (ninS (Ne.symm ne_nb16_nb17) nin0); have O := O.keep K18 (allS g_nb16 all0); have K := K.trans K18 (allS (Or.inr sz_nb16) all0)
 have CR := CR.trans cr18
 have F_schema_nb16 := F_schema_nb16'; have F_name_nb16 := F_name_nb16'
 refine og_goto (pc' := 122) X18 hx (hb hby d9_99) (by decide) (by decide) ?_
 refine og_retRW X18 hx hZ hlk hEL hS e18 es hk CR hret rfl rfl rfl (hb hby d9_122) (by decide) (by decide) ?_
 rw [e18]; exact ⟨nb16, na17, _, _, rfl, N, K, E_nb16, F_schema_nb16, F_name_nb16, E_na17, F_value_na17, F_coder_na17, V_nb17⟩
theorem rm_ic_3_1_0 (l : Launch) (Z : State) (a0 : Array Value) (hw : HW a0 Z) (ba : Addr) (kb : ClassId) (u0 u2 : Int32) (hu0 : ¬ u0 = 46) (hu2 : ¬ u2 = 46) (h0 : Heap) (n0 : Nat) (O : Old Z n0 h0) (V_ba : Arv Z h0 ba kb .byte (3 : Int32) [(.int u0), (.int 46), (.int u2)] (.int 0)) :
  Con l Z (⟨"java/lang/StringLatin1", "indexOfChar", "([BIII)I"⟩ : MethodName) jdk_43_method_23_code 6 (some .int) ({ frames := 0, cells := 0, slots := 0, locals := 0 } : Room) #[(.ref ba), (.int 46), (.int 0), (.int 3)] h0 (fun v h L => v = some (.int 1) ∧ Fr n0 L ∧ h = h0) := by
 refine own_startC opn_20 ?_
 intro p e s m below meth c T0 X0 hx hby hml hZ hown hnm hret hlk e0
 have N := Fr.nil n0; have K := Keep.refl h0 []
 refine OG.cast (oef12 m ba (46 : Int32) (0 : Int32) (3 : Int32)) ?_
 refine og_iloadN X0 hx rfl (hb hby d20_0) rfl ?_
 refine og_i2b X0 hx (hb hby d20_1) rfl ?_
 show OG p e below _ (T0.setTop (mkF m 2 #[.val (.ref ba), .val (.int 46), .val (.int 0), .val (.int 3), .unset, .unset] [(.int 46)]))
 refine og_istore (L' := #[.val (.ref ba), .val (.int 46), .val (.int 0), .val (.int 3), .val (.int 46), .unset]) X0 hx rfl (hb hby d20_2) rfl ?_
 refine og_iloadN X0 hx rfl (hb hby d20_4) rfl ?_
 refine og_istore (L' := #[.val (.ref ba), .val (.int 46), .val (.int 0), .val (.int 3), .val (.int 46), .val (.int 0)]) X0 hx rfl (hb hby d20_5) rfl ?_
 refine og_iload X0 hx rfl (hb hby d20_7) rfl ?_
 refine og_iloadN X0 hx rfl (hb hby d20_9) rfl ?_
 refine og_icmp_ge (pc1 := 31) (pc2 := 13) X0 hx (hb hby d20_10) (by decide) (by decide) rfl (fun q => absurd q (by decide)) (fun _ => ?_)
 refine og_aloadN X0 hx rfl rfl (hb hby d20_13) rfl ?_
 refine og_iload X0 hx rfl (hb hby d20_14) rfl ?_
 refine og_baload (v := (.int u0)) X0 hx hZ e0 V_ba ⟨by decide, by decide⟩ rfl (hb hby d20_16) rfl ?_
 refine og_iload X0 hx rfl (hb hby d20_17) rfl ?_
 refine og_icmp_ne (pc1 := 25) (pc2 := 22) X0 hx (hb hby d20_19) (by decide) (by decide) rfl (fun _ => ?_) (fun q => absurd q hu0)
 refine og_iinc (L' := #[.val (.ref ba), .val (.int 46), .val (.int 0), .val (.int 3), .val (.int 46), .val (.int 1)]) (w := (1 : Int32)) X0 hx rfl rfl rfl (hb hby d20_25) rfl ?_
 refine og_goto (pc' := 7) X0 hx (hb hby d20_28) (by decide) (by decide) ?_
 refine og_iload X0 hx rfl (hb hby d20_7) rfl ?_
 refine og_iloadN X0 hx rfl (hb hby d20_9) rfl ?_
 refine og_icmp_ge (pc1 := 31) (pc2 := 13) X0 hx (hb hby d20_10) (by decide) (by decide) rfl (fun q => absurd q (by decide)) (fun _ => ?_)
 refine og_aloadN X0 hx rfl rfl (hb hby d20_13) rfl ?_
 refine og_iload X0 hx rfl (hb hby d20_14) rfl ?_
 refine og_baload (v := (.int 46)) X0 hx hZ e0 V_ba ⟨by decide, by decide⟩ rfl (hb hby d20_16) rfl ?_
 refine og_iload X0 hx rfl (hb hby d20_17) rfl ?_
 refine og_icmp_ne (pc1 := 25) (pc2 := 22) X0 hx (hb hby d20_19) (by decide) (by decide) rfl (fun q => absurd q (by decide)) (fun _ => ?_)
 refine og_iload X0 hx rfl (hb hby d20_22) rfl ?_
 refine og_retI X0 hx hlk hret (hb hby d20_24) (by decide) (by decide) ?_
 rw [e0]; exact ⟨rfl, N, rfl⟩
theorem rm_li_3_1_0 (l : Launch) (Z : State) (a0 : Array Value) (hw : HW a0 Z) (ba : Addr) (kb : ClassId) (u0 u2 : Int32) (hu0 : ¬ u0 = 46) (hu2 : ¬ u2 = 46) (h0 : Heap) (n0 : Nat) (O : Old Z n0 h0) (V_ba : Arv Z h0 ba kb .byte (3 : Int32) [(.int u0), (.int 46), (.int u2)] (.int 0)) :
  Con l Z (⟨"java/lang/StringLatin1", "indexOf", "([BIII)I"⟩ : MethodName) jdk_43_method_22_code 4 (some .int) ({ frames := 1, cells := 0, slots := 0, locals := 17 } : Room) #[(.ref ba), (.int 46), (.int 0), (.int 3)] h0 (fun v h L => v = some (.int 1) ∧ Fr n0 L ∧ h = h0) := by
 refine own_startC opn_16 ?_
 intro p e s m below meth c T0 X0 hx hby hml hZ hown hnm hret hlk e0
 have N := Fr.nil n0; have K := Keep.refl h0 []
 refine OG.cast (oef13 m ba (46 : Int32) (0 : Int32) (3 : Int32)) ?_
 refine og_iloadN X0 hx rfl (hb hby d16_0) rfl ?_
 refine og_static (pc' := 4) (cells' := 0) (slots' := 0) (W := 0) X0 hx hZ (rm_ce l Z a0 hw h0 n0 O) hown (ow79 hw) (ow80 hw) (ow77 hw) (ow81 hw) (by decide) (by rw [hml]; rfl) e0 opd_10 [(.int 46)] [] rfl rfl rfl rfl (by decide) (by decide) rfl rfl (by decide) (by decide) (hb hby d16_1) rfl (fun v11 T11 h11 L11 X11 e11 z11 => ?_)
 obtain ⟨rfl, Nq11, hq11⟩ := z11; replace e11 := e11.trans hq11; have N := Fr.app N Nq11
 refine og_if_ne (pc1 := 9) (pc2 := 7) X11 hx (hb hby d16_4) (by decide) (by decide) rfl (fun _ => ?_) (fun q => absurd q (by decide))
 refine og_iloadN X11 hx rfl (hb hby d16_9) rfl ?_
 refine og_iconst (v := (0 : Int32)) X11 hx rfl (hb hby d16_10) rfl ?_
 refine og_static (pc' := 14) (cells' := 0) (slots' := 0) (W := 0) X11 hx hZ (rm_max_0_0 l Z a0 hw h0 n0 O) hown (ow82 hw) (ow83 hw) (ow84 hw) (ow85 hw) (by decide) (by rw [hml]; rfl) e11 opd_11 [(.int 0), (.int 0)] [] rfl rfl rfl rfl (by decide) (by decide) rfl rfl (by decide) (by decide) (hb hby d16_11) rfl (fun v12 T12 h12 L12 X12 e12 z12 => ?_)
 obtain ⟨rfl, Nq12, hq12⟩ := z12; replace e12 := e12.trans hq12; have N := Fr.app N Nq12
 refine og_istoreN (L' := #[.val (.ref ba), .val (.int 46), .val (.int 0), .val (.int 3)]) X12 hx rfl (hb hby d16_14) rfl ?_
 refine og_iloadN X12 hx rfl (hb hby d16_15) rfl ?_
 refine og_aloadN X12 hx rfl rfl (hb hby d16_16) rfl ?_
 refine og_arraylength X12 hx hZ e12 V_ba (hb hby d16_17) rfl ?_
 refine og_static (pc' := 21) (cells' := 0) (slots' := 0) (W := 0) X12 hx hZ (rm_min_3_3 l Z a0 hw h0 n0 O) hown (ow86 hw) (ow87 hw) (ow84 hw) (ow88 hw) (by decide) (by rw [hml]; rfl) e12 opd_11 [(.int 3), (.int 3)] [] rfl rfl rfl rfl (by decide) (by decide) rfl rfl (by decide) (by decide) (hb hby d16_18) rfl (fun v13 T13 h13 L13 X13 e13 z13 => ?_)
 obtain ⟨rfl, Nq13, hq13⟩ := z13; replace e13 := e13.trans hq13; have N := Fr.app N Nq13
 refine og_istoreN (L' := #[.val (.ref ba), .val (.int 46), .val (.int 0), .val (.int 3)]) X13 hx rfl (hb hby d16_21) rfl ?_
 refine og_iloadN X13 hx rfl (hb hby d16_22) rfl ?_
 refine og_iloadN X13 hx rfl (hb hby d16_23) rfl ?_
 refine og_icmp_lt (pc1 := 29) (pc2 := 27) X13 hx (hb hby d16_24) (by decide) (by decide) rfl (fun _ => ?_) (fun q => absurd q (by decide))
 refine og_aloadN X13 hx rfl rfl (hb hby d16_29) rfl ?_
 refine og_iloadN X13 hx rfl (hb hby d16_30) rfl ?_
 refine og_iloadN X13 hx rfl (hb hby d16_31) rfl ?_
 refine og_iloadN X13 hx rfl (hb hby d16_32) rfl ?_
 refine og_static (pc' := 36) (cells' := 0) (slots' := 0) (W := 0) X13 hx hZ (rm_ic_3_1_0 l Z a0 hw ba kb u0 u2 hu0 hu2 h0 n0 O V_ba) hown (ow89 hw) (ow90 hw) (ow77 hw) (ow91 hw) (by decide) (by rw [hml]; rfl) e13 opd_12 [(.ref ba), (.int 46), (.int 0), (.int 3)] [] rfl rfl rfl rfl (by decide) (by decide) rfl rfl (by decide) (by decide) (hb hby d16_33) rfl (fun v14 T14 h14 L14 X14 e14 z14 => ?_)
 obtain ⟨rfl, Nq14, hq14⟩ := z14; replace e14 := e14.trans hq14; have N := Fr.app N Nq14
 refine og_retI X14 hx hlk hret (hb hby d16_36) (by decide) (by decide) ?_
 rw [e14]; exact ⟨rfl, N, rfl⟩
theorem rm_i2_3_1_0 (l : Launch) (Z : State) (a0 : Array Value) (hw : HW a0 Z) (a1 ba : Addr) (kb : ClassId) (u0 u2 : Int32) (hu0 : ¬ u0 = 46) (hu2 : ¬ u2 = 46) (cs : Int32) (hcs : ¬ cs = 0) (h0 : Heap) (n0 : Nat) (O : Old Z n0 h0) (E_a1 : Exa Z h0 a1 "java/lang/String") (F_value_a1 : Fld Z h0 a1 "java/lang/String" "value" "[B" (.ref ba)) (F_coder_a1 : Fld Z h0 a1 "java/lang/String" "coder" "B" (.int 0)) (V_ba : Arv Z h0 ba kb .byte (3 : Int32) [(.int u0), (.int 46), (.int u2)] (.int 0)) (S_CS : Sta Z Z.heap "java/lang/String" "COMPACT_STRINGS" "Z" (.int cs)) :
  Con l Z (⟨"java/lang/String", "indexOf", "(II)I"⟩ : MethodName) jdk_42_method_80_code 3 (some .int) ({ frames := 2, cells := 0, slots := 0, locals := 32 } : Room) #[(.ref a1), (.int 46), (.int 0)] h0 (fun v h L => v = some (.int 1) ∧ Fr n0 L ∧ h = h0) := by
 refine own_startC opn_12 ?_
 intro p e s m below meth c T0 X0 hx hby hml hZ hown hnm hret hlk e0
 have N := Fr.nil n0; have K := Keep.refl h0 []
 refine OG.cast (oef14 m a1 (46 : Int32) (0 : Int32)) ?_
 refine og_aloadN X0 hx rfl rfl (hb hby d12_0) rfl ?_
 refine og_virtual (pc' := 4) (cells' := 0) (slots' := 0) (W := 0) X0 hx hZ (rm_il l Z a0 hw a1 cs hcs h0 n0 O F_coder_a1 S_CS) hown (ow60 hw) (ow61 hw) (own_nf hZ (ow63 hw)) (ow63 hw) (ow62 hw) (ow11 hw) (ow64 hw) (by decide) (by rw [hml]; rfl) e0 opd_9 [] [] rfl rfl rfl rfl (by decide) (by decide) rfl rfl (by decide) (by decide) E_a1 (hb hby d12_1) rfl (fun v11 T11 h11 L11 X11 e11 z11 => ?_)
 obtain ⟨rfl, Nq11, hq11⟩ := z11; replace e11 := e11.trans hq11; have N := Fr.app N Nq11
 refine og_if_eq (pc1 := 23) (pc2 := 7) X11 hx (hb hby d12_4) (by decide) (by decide) rfl (fun q => absurd q (by decide)) (fun _ => ?_)
 refine og_aloadN X11 hx rfl rfl (hb hby d12_7) rfl ?_
 refine og_getfield X11 hx hZ (host := "") hown (Or.inl (ow28 hw)) Via.refl e11 F_value_a1 (hb hby d12_8) rfl (fun T12 X12 e12 => ?_)
 refine og_iloadN X12 hx rfl (hb hby d12_11) rfl ?_
 refine og_iloadN X12 hx rfl (hb hby d12_12) rfl ?_
 refine og_aloadN X12 hx rfl rfl (hb hby d12_13) rfl ?_
 refine og_virtual (pc' := 17) (cells' := 0) (slots' := 0) (W := 3) X12 hx hZ (rm_len l Z a0 hw a1 ba kb (3 : Int32) _ cs hcs h0 n0 O E_a1 F_value_a1 F_coder_a1 V_ba S_CS) hown (ow65 hw) (ow66 hw) (own_nf hZ (ow68 hw)) (ow68 hw) (ow67 hw) (ow11 hw) (ow69 hw) (by decide) (by rw [hml]; rfl) e12 opd_13 [] [(.int 0), (.int 46), (.ref ba)] rfl rfl rfl rfl (by decide) (by decide) rfl rfl (by decide) (by decide) E_a1 (hb hby d12_14) rfl (fun v13 T13 h13 L13 X13 e13 z13 => ?_)
 obtain ⟨rfl, Nq13, hq13⟩ := z13; replace e13 := e13.trans hq13; have N := Fr.app N Nq13
 refine og_static (pc' := 20) (cells' := 0) (slots' := 0) (W := 0) X13 hx hZ (rm_li_3_1_0 l Z a0 hw ba kb u0 u2 hu0 hu2 h0 n0 O V_ba) hown (ow75 hw) (ow76 hw) (ow77 hw) (ow78 hw) (by decide) (by rw [hml]; rfl) e13 opd_12 [(.ref ba), (.int 46), (.int 0), (.int 3)] [] rfl rfl rfl rfl (by decide) (by decide) rfl rfl (by decide) (by decide) (hb hby d12_17) rfl (fun v14 T14 h14 L14 X14 e14 z14 => ?_)
 obtain ⟨rfl, Nq14, hq14⟩ := z14; replace e14 := e14.trans hq14; have N := Fr.app N Nq14
 refine og_goto (pc' := 36) X14 hx (hb hby d12_20) (by decide) (by decide) ?_
 refine og_retI X14 hx hlk hret (hb hby d12_36) (by decide) (by decide) ?_
 rw [e14]; exact ⟨rfl, N, rfl⟩
theorem rm_ix_3_1_0 (l : Launch) (Z : State) (a0 : Array Value) (hw : HW a0 Z) (a1 ba : Addr) (kb : ClassId) (u0 u2 : Int32) (hu0 : ¬ u0 = 46) (hu2 : ¬ u2 = 46) (cs : Int32) (hcs : ¬ cs = 0) (h0 : Heap) (n0 : Nat) (O : Old Z n0 h0) (E_a1 : Exa Z h0 a1 "java/lang/String") (F_value_a1 : Fld Z h0 a1 "java/lang/String" "value" "[B" (.ref ba)) (F_coder_a1 : Fld Z h0 a1 "java/lang/String" "coder" "B" (.int 0)) (V_ba : Arv Z h0 ba kb .byte (3 : Int32) [(.int u0), (.int 46), (.int u2)] (.int 0)) (S_CS : Sta Z Z.heap "java/lang/String" "COMPACT_STRINGS" "Z" (.int cs)) :
  Con l Z (⟨"java/lang/String", "indexOf", "(I)I"⟩ : MethodName) jdk_42_method_79_code 2 (some .int) ({ frames := 3, cells := 0, slots := 0, locals := 46 } : Room) #[(.ref a1), (.int 46)] h0 (fun v h L => v = some (.int 1) ∧ Fr n0 L ∧ h = h0) := by
 refine own_startC opn_11 ?_
 intro p e s m below meth c T0 X0 hx hby hml hZ hown hnm hret hlk e0
 have N := Fr.nil n0; have K := Keep.refl h0 []
 refine OG.cast (oef4 m a1 (46 : Int32)) ?_
 refine og_aloadN X0 hx rfl rfl (hb hby d11_0) rfl ?_
 refine og_iloadN X0 hx rfl (hb hby d11_1) rfl ?_
 refine og_iconst (v := (0 : Int32)) X0 hx rfl (hb hby d11_2) rfl ?_
 refine og_virtual (pc' := 6) (cells' := 0) (slots' := 0) (W := 0) X0 hx hZ (rm_i2_3_1_0 l Z a0 hw a1 ba kb u0 u2 hu0 hu2 cs hcs h0 n0 O E_a1 F_value_a1 F_coder_a1 V_ba S_CS) hown (ow55 hw) (ow56 hw) (own_nf hZ (ow58 hw)) (ow58 hw) (ow57 hw) (ow11 hw) (ow59 hw) (by decide) (by rw [hml]; rfl) e0 opd_11 [(.int 46), (.int 0)] [] rfl rfl rfl rfl (by decide) (by decide) rfl rfl (by decide) (by decide) E_a1 (hb hby d11_3) rfl (fun v11 T11 h11 L11 X11 e11 z11 => ?_)
 obtain ⟨rfl, Nq11, hq11⟩ := z11; replace e11 := e11.trans hq11; have N := Fr.app N Nq11
 refine og_retI X11 hx hlk hret (hb hby d11_6) (by decide) (by decide) ?_
 rw [e11]; exact ⟨rfl, N, rfl⟩
theorem rm_max_2_0 (l : Launch) (Z : State) (a0 : Array Value) (hw : HW a0 Z)  (h0 : Heap) (n0 : Nat) (O : Old Z n0 h0) :
  Con l Z (⟨"java/lang/Math", "max", "(II)I"⟩ : MethodName) jdk_29_method_65_code 2 (some .int) ({ frames := 0, cells := 0, slots := 0, locals := 0 } : Room) #[(.int 2), (.int 0)] h0 (fun v h L => v = some (.int 2) ∧ Fr n0 L ∧ h = h0) := by
 refine own_startC opn_18 ?_
 intro p e s m below meth c T0 X0 hx hby hml hZ hown hnm hret hlk e0
 have N := Fr.nil n0; have K := Keep.refl h0 []
 refine OG.cast (oef11 m (2 : Int32) (0 : Int32)) ?_
 refine og_iloadN X0 hx rfl (hb hby d18_0) rfl ?_
 refine og_iloadN X0 hx rfl (hb hby d18_1) rfl ?_
 refine og_icmp_lt (pc1 := 9) (pc2 := 5) X0 hx (hb hby d18_2) (by decide) (by decide) rfl (fun q => absurd q (by decide)) (fun _ => ?_)
 refine og_iloadN X0 hx rfl (hb hby d18_5) rfl ?_
 refine og_goto (pc' := 10) X0 hx (hb hby d18_6) (by decide) (by decide) ?_
 refine og_retI X0 hx hlk hret (hb hby d18_10) (by decide) (by decide) ?_
 rw [e0]; exact ⟨rfl, N, rfl⟩
theorem rm_ic_3_1_2 (l : Launch) (Z : State) (a0 : Array Value) (hw : HW a0 Z) (ba : Addr) (kb : ClassId) (u0 u2 : Int32) (hu0 : ¬ u0 = 46) (hu2 : ¬ u2 = 46) (h0 : Heap) (n0 : Nat) (O : Old Z n0 h0) (V_ba : Arv Z h0 ba kb .byte (3 : Int32) [(.int u0), (.int 46), (.int u2)] (.int 0)) :
  Con l Z (⟨"java/lang/StringLatin1", "indexOfChar", "([BIII)I"⟩ : MethodName) jdk_43_method_23_code 6 (some .int) ({ frames := 0, cells := 0, slots := 0, locals := 0 } : Room) #[(.ref ba), (.int 46), (.int 2), (.int 3)] h0 (fun v h L => v = some (.int (-1)) ∧ Fr n0 L ∧ h = h0) := by
 refine own_startC opn_20 ?_
 intro p e s m below meth c T0 X0 hx hby hml hZ hown hnm hret hlk e0
 have N := Fr.nil n0; have K := Keep.refl h0 []
 refine OG.cast (oef12 m ba (46 : Int32) (2 : Int32) (3 : Int32)) ?_
 refine og_iloadN X0 hx rfl (hb hby d20_0) rfl ?_
 refine og_i2b X0 hx (hb hby d20_1) rfl ?_
 show OG p e below _ (T0.setTop (mkF m 2 #[.val (.ref ba), .val (.int 46), .val (.int 2), .val (.int 3), .unset, .unset] [(.int 46)]))
 refine og_istore (L' := #[.val (.ref ba), .val (.int 46), .val (.int 2), .val (.int 3), .val (.int 46), .unset]) X0 hx rfl (hb hby d20_2) rfl ?_
 refine og_iloadN X0 hx rfl (hb hby d20_4) rfl ?_
 refine og_istore (L' := #[.val (.ref ba), .val (.int 46), .val (.int 2), .val (.int 3), .val (.int 46), .val (.int 2)]) X0 hx rfl (hb hby d20_5) rfl ?_
 refine og_iload X0 hx rfl (hb hby d20_7) rfl ?_
 refine og_iloadN X0 hx rfl (hb hby d20_9) rfl ?_
 refine og_icmp_ge (pc1 := 31) (pc2 := 13) X0 hx (hb hby d20_10) (by decide) (by decide) rfl (fun q => absurd q (by decide)) (fun _ => ?_)
 refine og_aloadN X0 hx rfl rfl (hb hby d20_13) rfl ?_
 refine og_iload X0 hx rfl (hb hby d20_14) rfl ?_
 refine og_baload (v := (.int u2)) X0 hx hZ e0 V_ba ⟨by decide, by decide⟩ rfl (hb hby d20_16) rfl ?_
 refine og_iload X0 hx rfl (hb hby d20_17) rfl ?_
 refine og_icmp_ne (pc1 := 25) (pc2 := 22) X0 hx (hb hby d20_19) (by decide) (by decide) rfl (fun _ => ?_) (fun q => absurd q hu2)
 refine og_iinc (L' := #[.val (.ref ba), .val (.int 46), .val (.int 2), .val (.int 3), .val (.int 46), .val (.int 3)]) (w := (1 : Int32)) X0 hx rfl rfl rfl (hb hby d20_25) rfl ?_
 refine og_goto (pc' := 7) X0 hx (hb hby d20_28) (by decide) (by decide) ?_
 refine og_iload X0 hx rfl (hb hby d20_7) rfl ?_
 refine og_iloadN X0 hx rfl (hb hby d20_9) rfl ?_
 refine og_icmp_ge (pc1 := 31) (pc2 := 13) X0 hx (hb hby d20_10) (by decide) (by decide) rfl (fun _ => ?_) (fun q => absurd q (by decide))
 refine og_iconst (v := (-1 : Int32)) X0 hx rfl (hb hby d20_31) rfl ?_
 refine og_retI X0 hx hlk hret (hb hby d20_32) (by decide) (by decide) ?_
 rw [e0]; exact ⟨rfl, N, rfl⟩
theorem rm_li_3_1_2 (l : Launch) (Z : State) (a0 : Array Value) (hw : HW a0 Z) (ba : Addr) (kb : ClassId) (u0 u2 : Int32) (hu0 : ¬ u0 = 46) (hu2 : ¬ u2 = 46) (h0 : Heap) (n0 : Nat) (O : Old Z n0 h0) (V_ba : Arv Z h0 ba kb .byte (3 : Int32) [(.int u0), (.int 46), (.int u2)] (.int 0)) :
  Con l Z (⟨"java/lang/StringLatin1", "indexOf", "([BIII)I"⟩ : MethodName) jdk_43_method_22_code 4 (some .int) ({ frames := 1, cells := 0, slots := 0, locals := 17 } : Room) #[(.ref ba), (.int 46), (.int 2), (.int 3)] h0 (fun v h L => v = some (.int (-1)) ∧ Fr n0 L ∧ h = h0) := by
 refine own_startC opn_16 ?_
 intro p e s m below meth c T0 X0 hx hby hml hZ hown hnm hret hlk e0
 have N := Fr.nil n0; have K := Keep.refl h0 []
 refine OG.cast (oef13 m ba (46 : Int32) (2 : Int32) (3 : Int32)) ?_
 refine og_iloadN X0 hx rfl (hb hby d16_0) rfl ?_
 refine og_static (pc' := 4) (cells' := 0) (slots' := 0) (W := 0) X0 hx hZ (rm_ce l Z a0 hw h0 n0 O) hown (ow79 hw) (ow80 hw) (ow77 hw) (ow81 hw) (by decide) (by rw [hml]; rfl) e0 opd_10 [(.int 46)] [] rfl rfl rfl rfl (by decide) (by decide) rfl rfl (by decide) (by decide) (hb hby d16_1) rfl (fun v11 T11 h11 L11 X11 e11 z11 => ?_)
 obtain ⟨rfl, Nq11, hq11⟩ := z11; replace e11 := e11.trans hq11; have N := Fr.app N Nq11
 refine og_if_ne (pc1 := 9) (pc2 := 7) X11 hx (hb hby d16_4) (by decide) (by decide) rfl (fun _ => ?_) (fun q => absurd q (by decide))
 refine og_iloadN X11 hx rfl (hb hby d16_9) rfl ?_
 refine og_iconst (v := (0 : Int32)) X11 hx rfl (hb hby d16_10) rfl ?_
 refine og_static (pc' := 14) (cells' := 0) (slots' := 0) (W := 0) X11 hx hZ (rm_max_2_0 l Z a0 hw h0 n0 O) hown (ow82 hw) (ow83 hw) (ow84 hw) (ow85 hw) (by decide) (by rw [hml]; rfl) e11 opd_11 [(.int 2), (.int 0)] [] rfl rfl rfl rfl (by decide) (by decide) rfl rfl (by decide) (by decide) (hb hby d16_11) rfl (fun v12 T12 h12 L12 X12 e12 z12 => ?_)
 obtain ⟨rfl, Nq12, hq12⟩ := z12; replace e12 := e12.trans hq12; have N := Fr.app N Nq12
 refine og_istoreN (L' := #[.val (.ref ba), .val (.int 46), .val (.int 2), .val (.int 3)]) X12 hx rfl (hb hby d16_14) rfl ?_
 refine og_iloadN X12 hx rfl (hb hby d16_15) rfl ?_
 refine og_aloadN X12 hx rfl rfl (hb hby d16_16) rfl ?_
 refine og_arraylength X12 hx hZ e12 V_ba (hb hby d16_17) rfl ?_
 refine og_static (pc' := 21) (cells' := 0) (slots' := 0) (W := 0) X12 hx hZ (rm_min_3_3 l Z a0 hw h0 n0 O) hown (ow86 hw) (ow87 hw) (ow84 hw) (ow88 hw) (by decide) (by rw [hml]; rfl) e12 opd_11 [(.int 3), (.int 3)] [] rfl rfl rfl rfl (by decide) (by decide) rfl rfl (by decide) (by decide) (hb hby d16_18) rfl (fun v13 T13 h13 L13 X13 e13 z13 => ?_)
 obtain ⟨rfl, Nq13, hq13⟩ := z13; replace e13 := e13.trans hq13; have N := Fr.app N Nq13
 refine og_istoreN (L' := #[.val (.ref ba), .val (.int 46), .val (.int 2), .val (.int 3)]) X13 hx rfl (hb hby d16_21) rfl ?_
 refine og_iloadN X13 hx rfl (hb hby d16_22) rfl ?_
 refine og_iloadN X13 hx rfl (hb hby d16_23) rfl ?_
 refine og_icmp_lt (pc1 := 29) (pc2 := 27) X13 hx (hb hby d16_24) (by decide) (by decide) rfl (fun _ => ?_) (fun q => absurd q (by decide))
 refine og_aloadN X13 hx rfl rfl (hb hby d16_29) rfl ?_
 refine og_iloadN X13 hx rfl (hb hby d16_30) rfl ?_
 refine og_iloadN X13 hx rfl (hb hby d16_31) rfl ?_
 refine og_iloadN X13 hx rfl (hb hby d16_32) rfl ?_
 refine og_static (pc' := 36) (cells' := 0) (slots' := 0) (W := 0) X13 hx hZ (rm_ic_3_1_2 l Z a0 hw ba kb u0 u2 hu0 hu2 h0 n0 O V_ba) hown (ow89 hw) (ow90 hw) (ow77 hw) (ow91 hw) (by decide) (by rw [hml]; rfl) e13 opd_12 [(.ref ba), (.int 46), (.int 2), (.int 3)] [] rfl rfl rfl rfl (by decide) (by decide) rfl rfl (by decide) (by decide) (hb hby d16_33) rfl (fun v14 T14 h14 L14 X14 e14 z14 => ?_)
 obtain ⟨rfl, Nq14, hq14⟩ := z14; replace e14 := e14.trans hq14; have N := Fr.app N Nq14
 refine og_retI X14 hx hlk hret (hb hby d16_36) (by decide) (by decide) ?_
 rw [e14]; exact ⟨rfl, N, rfl⟩
theorem rm_i2_3_1_2 (l : Launch) (Z : State) (a0 : Array Value) (hw : HW a0 Z) (a1 ba : Addr) (kb : ClassId) (u0 u2 : Int32) (hu0 : ¬ u0 = 46) (hu2 : ¬ u2 = 46) (cs : Int32) (hcs : ¬ cs = 0) (h0 : Heap) (n0 : Nat) (O : Old Z n0 h0) (E_a1 : Exa Z h0 a1 "java/lang/String") (F_value_a1 : Fld Z h0 a1 "java/lang/String" "value" "[B" (.ref ba)) (F_coder_a1 : Fld Z h0 a1 "java/lang/String" "coder" "B" (.int 0)) (V_ba : Arv Z h0 ba kb .byte (3 : Int32) [(.int u0), (.int 46), (.int u2)] (.int 0)) (S_CS : Sta Z Z.heap "java/lang/String" "COMPACT_STRINGS" "Z" (.int cs)) :
  Con l Z (⟨"java/lang/String", "indexOf", "(II)I"⟩ : MethodName) jdk_42_method_80_code 3 (some .int) ({ frames := 2, cells := 0, slots := 0, locals := 32 } : Room) #[(.ref a1), (.int 46), (.int 2)] h0 (fun v h L => v = some (.int (-1)) ∧ Fr n0 L ∧ h = h0) := by
 refine own_startC opn_12 ?_
 intro p e s m below meth c T0 X0 hx hby hml hZ hown hnm hret hlk e0
 have N := Fr.nil n0; have K := Keep.refl h0 []
 refine OG.cast (oef14 m a1 (46 : Int32) (2 : Int32)) ?_
 refine og_aloadN X0 hx rfl rfl (hb hby d12_0) rfl ?_
 refine og_virtual (pc' := 4) (cells' := 0) (slots' := 0) (W := 0) X0 hx hZ (rm_il l Z a0 hw a1 cs hcs h0 n0 O F_coder_a1 S_CS) hown (ow60 hw) (ow61 hw) (own_nf hZ (ow63 hw)) (ow63 hw) (ow62 hw) (ow11 hw) (ow64 hw) (by decide) (by rw [hml]; rfl) e0 opd_9 [] [] rfl rfl rfl rfl (by decide) (by decide) rfl rfl (by decide) (by decide) E_a1 (hb hby d12_1) rfl (fun v11 T11 h11 L11 X11 e11 z11 => ?_)
 obtain ⟨rfl, Nq11, hq11⟩ := z11; replace e11 := e11.trans hq11; have N := Fr.app N Nq11
 refine og_if_eq (pc1 := 23) (pc2 := 7) X11 hx (hb hby d12_4) (by decide) (by decide) rfl (fun q => absurd q (by decide)) (fun _ => ?_)
 refine og_aloadN X11 hx rfl rfl (hb hby d12_7) rfl ?_
 refine og_getfield X11 hx hZ (host := "") hown (Or.inl (ow28 hw)) Via.refl e11 F_value_a1 (hb hby d12_8) rfl (fun T12 X12 e12 => ?_)
 refine og_iloadN X12 hx rfl (hb hby d12_11) rfl ?_
 refine og_iloadN X12 hx rfl (hb hby d12_12) rfl ?_
 refine og_aloadN X12 hx rfl rfl (hb hby d12_13) rfl ?_
 refine og_virtual (pc' := 17) (cells' := 0) (slots' := 0) (W := 3) X12 hx hZ (rm_len l Z a0 hw a1 ba kb (3 : Int32) _ cs hcs h0 n0 O E_a1 F_value_a1 F_coder_a1 V_ba S_CS) hown (ow65 hw) (ow66 hw) (own_nf hZ (ow68 hw)) (ow68 hw) (ow67 hw) (ow11 hw) (ow69 hw) (by decide) (by rw [hml]; rfl) e12 opd_13 [] [(.int 2), (.int 46), (.ref ba)] rfl rfl rfl rfl (by decide) (by decide) rfl rfl (by decide) (by decide) E_a1 (hb hby d12_14) rfl (fun v13 T13 h13 L13 X13 e13 z13 => ?_)
 obtain ⟨rfl, Nq13, hq13⟩ := z13; replace e13 := e13.trans hq13; have N := Fr.app N Nq13
 refine og_static (pc' := 20) (cells' := 0) (slots' := 0) (W := 0) X13 hx hZ (rm_li_3_1_2 l Z a0 hw ba kb u0 u2 hu0 hu2 h0 n0 O V_ba) hown (ow75 hw) (ow76 hw) (ow77 hw) (ow78 hw) (by decide) (by rw [hml]; rfl) e13 opd_12 [(.ref ba), (.int 46), (.int 2), (.int 3)] [] rfl rfl rfl rfl (by decide) (by decide) rfl rfl (by decide) (by decide) (hb hby d12_17) rfl (fun v14 T14 h14 L14 X14 e14 z14 => ?_)
 obtain ⟨rfl, Nq14, hq14⟩ := z14; replace e14 := e14.trans hq14; have N := Fr.app N Nq14
 refine og_goto (pc' := 36) X14 hx (hb hby d12_20) (by decide) (by decide) ?_
 refine og_retI X14 hx hlk hret (hb hby d12_36) (by decide) (by decide) ?_
 rw [e14]; exact ⟨rfl, N, rfl⟩
theorem rm_cl_0_1 (l : Launch) (Z : State) (a0 : Array Value) (hw : HW a0 Z)  (h0 : Heap) (n0 : Nat) (O : Old Z n0 h0) :
  Con l Z (⟨"java/util/Arrays", "checkLength", "(II)V"⟩ : MethodName) jdk_65_method_131_code 2 none ({ frames := 0, cells := 0, slots := 0, locals := 0 } : Room) #[(.int 0), (.int 1)] h0 (fun v h L => v = none ∧ Fr n0 L ∧ h = h0) := by
 refine own_startC opn_33 ?_
 intro p e s m below meth c T0 X0 hx hby hml hZ hown hnm hret hlk e0
 have N := Fr.nil n0; have K := Keep.refl h0 []
 refine OG.cast (oef11 m (0 : Int32) (1 : Int32)) ?_
 refine og_iloadN X0 hx rfl (hb hby d33_0) rfl ?_
 refine og_iloadN X0 hx rfl (hb hby d33_1) rfl ?_
 refine og_icmp_ge (pc1 := 37) (pc2 := 5) X0 hx (hb hby d33_2) (by decide) (by decide) rfl (fun _ => ?_) (fun q => absurd q (by decide))
 refine og_retV X0 hx hlk hret (hb hby d33_37) (by decide) (by decide) ?_
 rw [e0]; exact ⟨rfl, N, rfl⟩
theorem rm_min_3_1 (l : Launch) (Z : State) (a0 : Array Value) (hw : HW a0 Z)  (h0 : Heap) (n0 : Nat) (O : Old Z n0 h0) :
  Con l Z (⟨"java/lang/Math", "min", "(II)I"⟩ : MethodName) jdk_29_method_69_code 2 (some .int) ({ frames := 0, cells := 0, slots := 0, locals := 0 } : Room) #[(.int 3), (.int 1)] h0 (fun v h L => v = some (.int 1) ∧ Fr n0 L ∧ h = h0) := by
 refine own_startC opn_19 ?_
 intro p e s m below meth c T0 X0 hx hby hml hZ hown hnm hret hlk e0
 have N := Fr.nil n0; have K := Keep.refl h0 []
 refine OG.cast (oef11 m (3 : Int32) (1 : Int32)) ?_
 refine og_iloadN X0 hx rfl (hb hby d19_0) rfl ?_
 refine og_iloadN X0 hx rfl (hb hby d19_1) rfl ?_
 refine og_icmp_gt (pc1 := 9) (pc2 := 5) X0 hx (hb hby d19_2) (by decide) (by decide) rfl (fun _ => ?_) (fun q => absurd q (by decide))
 refine og_iloadN X0 hx rfl (hb hby d19_9) rfl ?_
 refine og_retI X0 hx hlk hret (hb hby d19_10) (by decide) (by decide) ?_
 rw [e0]; exact ⟨rfl, N, rfl⟩
theorem rm_crb_3_1_0_1 (l : Launch) (Z : State) (a0 : Array Value) (hw : HW a0 Z) (ba : Addr) (kb : ClassId) (u0 u2 : Int32) (h0 : Heap) (n0 : Nat) (O : Old Z n0 h0) (V_ba : Arv Z h0 ba kb .byte (3 : Int32) [(.int u0), (.int 46), (.int u2)] (.int 0)) :
  Con l Z (⟨"java/util/Arrays", "copyOfRangeByte", "([BII)[B"⟩ : MethodName) jdk_65_method_133_code 5 (some (.array .byte)) ({ frames := 1, cells := 1, slots := 1, locals := 18 } : Room) #[(.ref ba), (.int 0), (.int 1)] h0 (fun v h L => ∃ b k, v = some (.ref b) ∧ Fr n0 L ∧ Keep h0 h [] ∧ h0.size ≤ b ∧ Arv Z h b k .byte (1 : Int32) [(.int u0)] (.int 0)) := by
 refine own_startC opn_32 ?_
 intro p e s m below meth c T0 X0 hx hby hml hZ hown hnm hret hlk e0
 have N := Fr.nil n0; have K := Keep.refl h0 []
 refine OG.cast (oef16 m ba (0 : Int32) (1 : Int32)) ?_
 refine og_iloadN X0 hx rfl (hb hby d32_0) rfl ?_
 refine og_iloadN X0 hx rfl (hb hby d32_1) rfl ?_
 refine og_static (pc' := 5) (cells' := 0) (slots' := 0) (W := 0) X0 hx hZ (rm_cl_0_1 l Z a0 hw h0 n0 O) hown (ow157 hw) (ow158 hw) (ow152 hw) (ow159 hw) (by decide) (by rw [hml]; rfl) e0 opd_16 [(.int 0), (.int 1)] [] rfl rfl rfl rfl (by decide) (by decide) rfl rfl (by decide) (by decide) (hb hby d32_2) rfl (fun v11 T11 h11 L11 X11 e11 z11 => ?_)
 obtain ⟨rfl, Nq11, hq11⟩ := z11; replace e11 := e11.trans hq11; have N := Fr.app N Nq11
 refine og_iloadN X11 hx rfl (hb hby d32_5) rfl ?_
 refine og_iloadN X11 hx rfl (hb hby d32_6) rfl ?_
 refine og_isub X11 hx (hb hby d32_7) rfl ?_
 show OG p e below _ (T11.setTop (mkF m 8 #[.val (.ref ba), .val (.int 0), .val (.int 1), .unset, .unset] [(.int 1)]))
 refine og_istoreN (L' := #[.val (.ref ba), .val (.int 0), .val (.int 1), .val (.int 1), .unset]) X11 hx rfl (hb hby d32_8) rfl ?_
 refine og_iloadN X11 hx rfl (hb hby d32_9) rfl ?_
 refine og_newarray (pc' := 12) (cells' := 1) (slots' := 1) (cap := 1) (ty := .byte) X11 hx hZ rfl (ow23 hw) e11 (by decide) (by decide) (by decide) (hb hby d32_10) rfl rfl rfl (by decide) (by decide) (fun T12 h12 nb12 kA12 X12 e12 E12 q12 V_nb12 => ?_)
 have s_nb12 : h0.size ≤ nb12 := Nat.le_of_eq q12.symm; have g_nb12 : n0 ≤ nb12 := Nat.le_trans (own_n0 O) s_nb12; have sz_nb12 : h0.size ≤ nb12 := Nat.le_trans K.1 s_nb12; have ne_ba_nb12 : ba ≠ nb12 := Nat.ne_of_lt (Nat.lt_of_lt_of_le V_ba.lt s_nb12)
 have V_ba := V_ba.ext E12; have O := O.ext E12; have K := K.ext E12
 have V_nb12 : Arv Z h12 nb12 kA12 .byte (1 : Int32) [(.int 0)] (.int 0) := V_nb12.pad (pad_rep [] (.int 0) 1)
 refine og_astore (L' := #[.val (.ref ba), .val (.int 0), .val (.int 1), .val (.int 1), .val (.ref nb12)]) X12 hx rfl rfl (hb hby d32_12) rfl ?_
 refine og_aloadN X12 hx rfl rfl (hb hby d32_14) rfl ?_
 refine og_iloadN X12 hx rfl (hb hby d32_15) rfl ?_
 refine og_aload X12 hx rfl rfl (hb hby d32_16) rfl ?_
 refine og_iconst (v := (0 : Int32)) X12 hx rfl (hb hby d32_18) rfl ?_
 refine og_aloadN X12 hx rfl rfl (hb hby d32_19) rfl ?_
 refine og_arraylength X12 hx hZ e12 V_ba (hb hby d32_20) rfl ?_
 refine og_iloadN X12 hx rfl (hb hby d32_21) rfl ?_
 refine og_isub X12 hx (hb hby d32_22) rfl ?_
 show OG p e below _ (T12.setTop (mkF m 23 #[.val (.ref ba), .val (.int 0), .val (.int 1), .val (.int 1), .val (.ref nb12)] [(.int 3), (.int 0), (.ref nb12), (.int 0), (.ref ba)]))
 refine og_iloadN X12 hx rfl (hb hby d32_23) rfl ?_
 refine og_static (pc' := 27) (cells' := 1) (slots' := 1) (W := 4) X12 hx hZ (rm_min_3_1 l Z a0 hw h12 n0 O) hown (ow160 hw) (ow87 hw) (ow84 hw) (ow88 hw) (by decide) (by rw [hml]; rfl) e12 opd_11 [(.int 3), (.int 1)] [(.int 0), (.ref nb12), (.int 0), (.ref ba)] rfl rfl rfl rfl (by decide) (by decide) rfl rfl (by decide) (by decide) (hb hby d32_24) rfl (fun v13 T13 h13 L13 X13 e13 z13 => ?_)
 obtain ⟨rfl, Nq13, hq13⟩ := z13; replace e13 := e13.trans hq13; have N := Fr.app N Nq13
 refine og_arraycopy (pc' := 30) (W := 0) (us := [(.int u0)]) X13 hx hZ (by rw [hml]; rfl) hown (ow161 hw) (ow164 hw) (ow162 hw) (ow163 hw) e13 V_ba V_nb12 rfl (by decide) (by decide) (by decide) (by decide) (by decide) rfl (Nat.le_of_ble_eq_true rfl) N g_nb12 rfl (by decide) (by decide) (hb hby d32_27) rfl (fun T14 h14 l14 X14 e14 N K14 V14 => ?_)
 have V_ba := V_ba.keep K14 (ninS ne_ba_nb12 nin0); have O := O.keep K14 (allS g_nb12 all0); have K := K.trans K14 (allS (Or.inr sz_nb12) all0)
 have V_nb12 : Arv Z h14 nb12 kA12 .byte (1 : Int32) [(.int u0)] (.int 0) := V14
 refine og_aload X14 hx rfl rfl (hb hby d32_30) rfl ?_
 refine og_retR X14 hx hlk hret rfl rfl rfl (hb hby d32_32) (by decide) (by decide) ?_
 rw [e14]; exact ⟨_, _, rfl, N, K, sz_nb12, V_nb12⟩
theorem rm_cr_3_1_0_1 (l : Launch) (Z : State) (a0 : Array Value) (hw : HW a0 Z) (ba : Addr) (kb : ClassId) (u0 u2 : Int32) (h0 : Heap) (n0 : Nat) (O : Old Z n0 h0) (V_ba : Arv Z h0 ba kb .byte (3 : Int32) [(.int u0), (.int 46), (.int u2)] (.int 0)) :
  Con l Z (⟨"java/util/Arrays", "copyOfRange", "([BII)[B"⟩ : MethodName) jdk_65_method_132_code 3 (some (.array .byte)) ({ frames := 2, cells := 1, slots := 1, locals := 34 } : Room) #[(.ref ba), (.int 0), (.int 1)] h0 (fun v h L => ∃ b k, v = some (.ref b) ∧ Fr n0 L ∧ Keep h0 h [] ∧ h0.size ≤ b ∧ Arv Z h b k .byte (1 : Int32) [(.int u0)] (.int 0)) := by
 refine own_startC opn_31 ?_
 intro p e s m below meth c T0 X0 hx hby hml hZ hown hnm hret hlk e0
 have N := Fr.nil n0; have K := Keep.refl h0 []
 refine OG.cast (oef14 m ba (0 : Int32) (1 : Int32)) ?_
 refine og_iloadN X0 hx rfl (hb hby d31_0) rfl ?_
 refine og_if_ne (pc1 := 10) (pc2 := 4) X0 hx (hb hby d31_1) (by decide) (by decide) rfl (fun q => absurd q (by decide)) (fun _ => ?_)
 refine og_iloadN X0 hx rfl (hb hby d31_4) rfl ?_
 refine og_aloadN X0 hx rfl rfl (hb hby d31_5) rfl ?_
 refine og_arraylength X0 hx hZ e0 V_ba (hb hby d31_6) rfl ?_
 refine og_icmp_eq (pc1 := 17) (pc2 := 10) X0 hx (hb hby d31_7) (by decide) (by decide) rfl (fun q => absurd q (by decide)) (fun _ => ?_)
 refine og_aloadN X0 hx rfl rfl (hb hby d31_10) rfl ?_
 refine og_iloadN X0 hx rfl (hb hby d31_11) rfl ?_
 refine og_iloadN X0 hx rfl (hb hby d31_12) rfl ?_
 refine og_static (pc' := 16) (cells' := 1) (slots' := 1) (W := 0) X0 hx hZ (rm_crb_3_1_0_1 l Z a0 hw ba kb u0 u2 h0 n0 O V_ba) hown (ow154 hw) (ow155 hw) (ow152 hw) (ow156 hw) (by decide) (by rw [hml]; rfl) e0 opd_17 [(.ref ba), (.int 0), (.int 1)] [] rfl rfl rfl rfl (by decide) (by decide) rfl rfl (by decide) (by decide) (hb hby d31_13) rfl (fun v11 T11 h11 L11 X11 e11 z11 => ?_)
 obtain ⟨nb11, k11, rfl, Nq11, K11, sb11, V_nb11⟩ := z11; have N := Fr.app N Nq11
 have s_nb11 : h0.size ≤ nb11 := sb11; have g_nb11 : n0 ≤ nb11 := Nat.le_trans (own_n0 O) s_nb11; have sz_nb11 : h0.size ≤ nb11 := Nat.le_trans K.1 s_nb11; have ne_ba_nb11 : ba ≠ nb11 := Nat.ne_of_lt (Nat.lt_of_lt_of_le V_ba.lt s_nb11)
 have V_ba := V_ba.keep K11 nin0; have O := O.keep K11 all0; have K := K.trans K11 all0
 refine og_retR X11 hx hlk hret rfl rfl rfl (hb hby d31_16) (by decide) (by decide) ?_
 rw [e11]; exact ⟨_, _, rfl, N, K, sz_nb11, V_nb11⟩
theorem rm_ns_3_1_0_1 (l : Launch) (Z : State) (a0 : Array Value) (hw : HW a0 Z) (ba : Addr) (kb : ClassId) (u0 u2 : Int32) (h0 : Heap) (n0 : Nat) (O : Old Z n0 h0) (V_ba : Arv Z h0 ba kb .byte (3 : Int32) [(.int u0), (.int 46), (.int u2)] (.int 0)) :
  Con l Z (⟨"java/lang/StringLatin1", "newString", "([BII)Ljava/lang/String;"⟩ : MethodName) jdk_43_method_47_code 3 (some (.object "java/lang/String")) ({ frames := 3, cells := 2, slots := 5, locals := 50 } : Room) #[(.ref ba), (.int 0), (.int 1)] h0 (fun v h L => ∃ a b k, v = some (.ref a) ∧ Fr n0 L ∧ Keep h0 h [] ∧ h0.size ≤ a ∧ h0.size ≤ b ∧ Exa Z h a "java/lang/String" ∧ Fld Z h a "java/lang/String" "value" "[B" (.ref b) ∧ Fld Z h a "java/lang/String" "coder" "B" (.int 0) ∧ Arv Z h b k .byte (1 : Int32) [(.int u0)] (.int 0)) := by
 refine own_startC opn_30 ?_
 intro p e s m below meth c T0 X0 hx hby hml hZ hown hnm hret hlk e0
 have N := Fr.nil n0; have K := Keep.refl h0 []
 refine OG.cast (oef14 m ba (0 : Int32) (1 : Int32)) ?_
 refine og_iloadN X0 hx rfl (hb hby d30_0) rfl ?_
 refine og_if_ne (pc1 := 7) (pc2 := 4) X0 hx (hb hby d30_1) (by decide) (by decide) rfl (fun _ => ?_) (fun q => absurd q (by decide))
 refine og_new (pc' := 10) (cells' := 1) (slots' := 4) X0 hx hZ hown (ow149 hw) (ow10 hw) (ow11 hw) e0 (hb hby d30_7) rfl rfl rfl (by decide) (by decide) (fun T11 h11 nb11 X11 e11 E11 q11 E_nb11 D11 B11 => ?_)
 have s_nb11 : h0.size ≤ nb11 := Nat.le_of_eq q11.symm; have g_nb11 : n0 ≤ nb11 := Nat.le_trans (own_n0 O) s_nb11; have sz_nb11 : h0.size ≤ nb11 := Nat.le_trans K.1 s_nb11; have ne_ba_nb11 : ba ≠ nb11 := Nat.ne_of_lt (Nat.lt_of_lt_of_le V_ba.lt s_nb11)
 have V_ba := V_ba.ext E11; have O := O.ext E11; have K := K.ext E11
 have F_value_nb11 : Fld Z h11 nb11 "java/lang/String" "value" "[B" .null := D11 (Or.inr (ow24 hw)) (ty := (.array .byte)) (by decide)
 have F_coder_nb11 : Fld Z h11 nb11 "java/lang/String" "coder" "B" (.int 0) := D11 (Or.inr (ow25 hw)) (ty := .byte) (by decide)
 refine og_dup X11 hx rfl (hb hby d30_10) rfl ?_
 refine og_aloadN X11 hx rfl rfl (hb hby d30_11) rfl ?_
 refine og_iloadN X11 hx rfl (hb hby d30_12) rfl ?_
 refine og_iloadN X11 hx rfl (hb hby d30_13) rfl ?_
 refine og_iloadN X11 hx rfl (hb hby d30_14) rfl ?_
 refine og_iadd X11 hx (hb hby d30_15) rfl ?_
 show OG p e below _ (T11.setTop (mkF m 16 #[.val (.ref ba), .val (.int 0), .val (.int 1)] [(.int 1), (.int 0), (.ref ba), (.ref nb11), (.ref nb11)]))
 refine og_static (pc' := 19) (cells' := 2) (slots' := 5) (W := 2) X11 hx hZ (rm_cr_3_1_0_1 l Z a0 hw ba kb u0 u2 h11 n0 O V_ba) hown (ow150 hw) (ow151 hw) (ow152 hw) (ow153 hw) (by decide) (by rw [hml]; rfl) e11 opd_17 [(.ref ba), (.int 0), (.int 1)] [(.ref nb11), (.ref nb11)] rfl rfl rfl rfl (by decide) (by decide) rfl rfl (by decide) (by decide) (hb hby d30_16) rfl (fun v12 T12 h12 L12 X12 e12 z12 => ?_)
 obtain ⟨nb12, k12, rfl, Nq12, K12, sb12, V_nb12⟩ := z12; have N := Fr.app N Nq12
 have s_nb12 : h11.size ≤ nb12 := sb12; have g_nb12 : n0 ≤ nb12 := Nat.le_trans (own_n0 O) s_nb12; have sz_nb12 : h0.size ≤ nb12 := Nat.le_trans K.1 s_nb12; have ne_ba_nb12 : ba ≠ nb12 := Nat.ne_of_lt (Nat.lt_of_lt_of_le V_ba.lt s_nb12); have ne_nb11_nb12 : nb11 ≠ nb12 := Nat.ne_of_lt (Nat.lt_of_lt_of_le E_nb11.lt s_nb12)
 have V_ba := V_ba.keep K12 nin0; have E_nb11 := E_nb11.keep K12; have F_value_nb11 := F_value_nb11.keep K12 nin0; have F_coder_nb11 := F_coder_nb11.keep K12 nin0; have O := O.keep K12 all0; have K := K.trans K12 all0
 refine og_iconst (v := (0 : Int32)) X12 hx rfl (hb hby d30_19) rfl ?_
 refine og_special (pc' := 23) (cells' := 2) (slots' := 5) (W := 1) X12 hx hZ (rm_si l Z a0 hw nb11 nb12 h12 n0 O E_nb11 F_value_nb11 F_coder_nb11 g_nb11) rfl hown (ow165 hw) (ow166 hw) (ow11 hw) (ow167 hw) (by decide) (by rw [hml]; rfl) e12 opd_18 [(.ref nb12), (.int 0)] [(.ref nb11)] rfl rfl rfl rfl (by decide) (by decide) rfl rfl (by decide) (by decide) (hb hby d30_20) rfl (fun v13 T13 h13 L13 X13 e13 z13 => ?_)
 obtain ⟨rfl, Nq13, K13, E_nb11', F_value_nb11', F_coder_nb11'⟩ := z13; have N := Fr.app N Nq13
 have V_ba := V_ba.keep K13 (ninS ne_ba_nb11 nin0); have E_nb11 := E_nb11.keep K13; have V_nb12 := V_nb12.keep K13 (ninS (Ne.symm ne_nb11_nb12) nin0); have O := O.keep K13 (allS g_nb11 all0); have K := K.trans K13 (allS (Or.inr sz_nb11) all0)
 have E_nb11 := E_nb11'; have F_value_nb11 := F_value_nb11'; have F_coder_nb11 := F_coder_nb11'
 refine og_retR X13 hx hlk hret rfl rfl rfl (hb hby d30_23) (by decide) (by decide) ?_
 rw [e13]; exact ⟨_, _, _, rfl, N, K, sz_nb11, sz_nb12, E_nb11, F_value_nb11, F_coder_nb11, V_nb12⟩
theorem rm_ft_0_1_3 (l : Launch) (Z : State) (a0 : Array Value) (hw : HW a0 Z) (fm : Value) (hfm : fm.isRef = true) (h0 : Heap) (n0 : Nat) (O : Old Z n0 h0) :
  Con l Z (⟨"jdk/internal/util/Preconditions", "checkFromToIndex", "(IIILjava/util/function/BiFunction;)I"⟩ : MethodName) jdk_41_method_12_code 4 (some .int) ({ frames := 0, cells := 0, slots := 0, locals := 0 } : Room) #[(.int 0), (.int 1), (.int 3), fm] h0 (fun v h L => v = some (.int 0) ∧ Fr n0 L ∧ h = h0) := by
 refine own_startC opn_29 ?_
 intro p e s m below meth c T0 X0 hx hby hml hZ hown hnm hret hlk e0
 have N := Fr.nil n0; have K := Keep.refl h0 []
 refine OG.cast (oef17 m (0 : Int32) (1 : Int32) (3 : Int32) fm hfm) ?_
 refine og_iloadN X0 hx rfl (hb hby d29_0) rfl ?_
 refine og_if_lt (pc1 := 14) (pc2 := 4) X0 hx (hb hby d29_1) (by decide) (by decide) rfl (fun q => absurd q (by decide)) (fun _ => ?_)
 refine og_iloadN X0 hx rfl (hb hby d29_4) rfl ?_
 refine og_iloadN X0 hx rfl (hb hby d29_5) rfl ?_
 refine og_icmp_gt (pc1 := 14) (pc2 := 9) X0 hx (hb hby d29_6) (by decide) (by decide) rfl (fun q => absurd q (by decide)) (fun _ => ?_)
 refine og_iloadN X0 hx rfl (hb hby d29_9) rfl ?_
 refine og_iloadN X0 hx rfl (hb hby d29_10) rfl ?_
 refine og_icmp_le (pc1 := 22) (pc2 := 14) X0 hx (hb hby d29_11) (by decide) (by decide) rfl (fun _ => ?_) (fun q => absurd q (by decide))
 refine og_iloadN X0 hx rfl (hb hby d29_22) rfl ?_
 refine og_retI X0 hx hlk hret (hb hby d29_23) (by decide) (by decide) ?_
 rw [e0]; exact ⟨rfl, N, rfl⟩
theorem rm_cb_0_1_3 (l : Launch) (Z : State) (a0 : Array Value) (hw : HW a0 Z) (fm : Value) (hfm : fm.isRef = true) (h0 : Heap) (n0 : Nat) (O : Old Z n0 h0) (S_FM : Sta Z Z.heap "jdk/internal/util/Preconditions" "SIOOBE_FORMATTER" "Ljava/util/function/BiFunction;" fm) :
  Con l Z (⟨"java/lang/String", "checkBoundsBeginEnd", "(III)V"⟩ : MethodName) jdk_42_method_158_code 3 none ({ frames := 1, cells := 0, slots := 0, locals := 15 } : Room) #[(.int 0), (.int 1), (.int 3)] h0 (fun v h L => v = none ∧ Fr n0 L ∧ h = h0) := by
 refine own_startC opn_28 ?_
 intro p e s m below meth c T0 X0 hx hby hml hZ hown hnm hret hlk e0
 have N := Fr.nil n0; have K := Keep.refl h0 []
 refine OG.cast (oef18 m (0 : Int32) (1 : Int32) (3 : Int32)) ?_
 refine og_iloadN X0 hx rfl (hb hby d28_0) rfl ?_
 refine og_iloadN X0 hx rfl (hb hby d28_1) rfl ?_
 refine og_iloadN X0 hx rfl (hb hby d28_2) rfl ?_
 refine og_getstatic X0 hx hZ (host := "") hown (Or.inl (ow141 hw)) Via.refl e0 (S_FM.ext O.2) (hb hby d28_3) rfl (fun T11 X11 e11 => ?_)
 refine og_static (pc' := 9) (cells' := 0) (slots' := 0) (W := 0) X11 hx hZ (rm_ft_0_1_3 l Z a0 hw fm hfm h0 n0 O) hown (ow143 hw) (ow144 hw) (ow142 hw) (ow145 hw) (by decide) (by rw [hml]; rfl) e11 opd_19 [(.int 0), (.int 1), (.int 3), fm] [] rfl rfl rfl rfl (by decide) (by decide) rfl rfl (by decide) (by decide) (hb hby d28_6) rfl (fun v12 T12 h12 L12 X12 e12 z12 => ?_)
 obtain ⟨rfl, Nq12, hq12⟩ := z12; replace e12 := e12.trans hq12; have N := Fr.app N Nq12
 refine og_pop X12 hx rfl (hb hby d28_9) rfl ?_
 refine og_retV X12 hx hlk hret (hb hby d28_10) (by decide) (by decide) ?_
 rw [e12]; exact ⟨rfl, N, rfl⟩
theorem rm_ss_3_1_0_1 (l : Launch) (Z : State) (a0 : Array Value) (hw : HW a0 Z) (a1 ba : Addr) (kb : ClassId) (u0 u2 : Int32) (cs : Int32) (hcs : ¬ cs = 0) (fm : Value) (hfm : fm.isRef = true) (h0 : Heap) (n0 : Nat) (O : Old Z n0 h0) (E_a1 : Exa Z h0 a1 "java/lang/String") (F_value_a1 : Fld Z h0 a1 "java/lang/String" "value" "[B" (.ref ba)) (F_coder_a1 : Fld Z h0 a1 "java/lang/String" "coder" "B" (.int 0)) (V_ba : Arv Z h0 ba kb .byte (3 : Int32) [(.int u0), (.int 46), (.int u2)] (.int 0)) (S_CS : Sta Z Z.heap "java/lang/String" "COMPACT_STRINGS" "Z" (.int cs)) (S_FM : Sta Z Z.heap "jdk/internal/util/Preconditions" "SIOOBE_FORMATTER" "Ljava/util/function/BiFunction;" fm) :
  Con l Z (⟨"java/lang/String", "substring", "(II)Ljava/lang/String;"⟩ : MethodName) jdk_42_method_92_code 5 (some (.object "java/lang/String")) ({ frames := 4, cells := 2, slots := 5, locals := 64 } : Room) #[(.ref a1), (.int 0), (.int 1)] h0 (fun v h L => ∃ a b k, v = some (.ref a) ∧ Fr n0 L ∧ Keep h0 h [] ∧ h0.size ≤ a ∧ h0.size ≤ b ∧ Exa Z h a "java/lang/String" ∧ Fld Z h a "java/lang/String" "value" "[B" (.ref b) ∧ Fld Z h a "java/lang/String" "coder" "B" (.int 0) ∧ Arv Z h b k .byte (1 : Int32) [(.int u0)] (.int 0)) := by
 refine own_startC opn_27 ?_
 intro p e s m below meth c T0 X0 hx hby hml hZ hown hnm hret hlk e0
 have N := Fr.nil n0; have K := Keep.refl h0 []
 refine OG.cast (oef16 m a1 (0 : Int32) (1 : Int32)) ?_
 refine og_aloadN X0 hx rfl rfl (hb hby d27_0) rfl ?_
 refine og_virtual (pc' := 4) (cells' := 0) (slots' := 0) (W := 0) X0 hx hZ (rm_len l Z a0 hw a1 ba kb (3 : Int32) _ cs hcs h0 n0 O E_a1 F_value_a1 F_coder_a1 V_ba S_CS) hown (ow65 hw) (ow66 hw) (own_nf hZ (ow68 hw)) (ow68 hw) (ow67 hw) (ow11 hw) (ow69 hw) (by decide) (by rw [hml]; rfl) e0 opd_13 [] [] rfl rfl rfl rfl (by decide) (by decide) rfl rfl (by decide) (by decide) E_a1 (hb hby d27_1) rfl (fun v11 T11 h11 L11 X11 e11 z11 => ?_)
 obtain ⟨rfl, Nq11, hq11⟩ := z11; replace e11 := e11.trans hq11; have N := Fr.app N Nq11
 refine og_istoreN (L' := #[.val (.ref a1), .val (.int 0), .val (.int 1), .val (.int 3), .unset]) X11 hx rfl (hb hby d27_4) rfl ?_
 refine og_iloadN X11 hx rfl (hb hby d27_5) rfl ?_
 refine og_iloadN X11 hx rfl (hb hby d27_6) rfl ?_
 refine og_iloadN X11 hx rfl (hb hby d27_7) rfl ?_
 refine og_static (pc' := 11) (cells' := 0) (slots' := 0) (W := 0) X11 hx hZ (rm_cb_0_1_3 l Z a0 hw fm hfm h0 n0 O S_FM) hown (ow138 hw) (ow139 hw) (ow11 hw) (ow140 hw) (by decide) (by rw [hml]; rfl) e11 opd_20 [(.int 0), (.int 1), (.int 3)] [] rfl rfl rfl rfl (by decide) (by decide) rfl rfl (by decide) (by decide) (hb hby d27_8) rfl (fun v12 T12 h12 L12 X12 e12 z12 => ?_)
 obtain ⟨rfl, Nq12, hq12⟩ := z12; replace e12 := e12.trans hq12; have N := Fr.app N Nq12
 refine og_iloadN X12 hx rfl (hb hby d27_11) rfl ?_
 refine og_if_ne (pc1 := 22) (pc2 := 15) X12 hx (hb hby d27_12) (by decide) (by decide) rfl (fun q => absurd q (by decide)) (fun _ => ?_)
 refine og_iloadN X12 hx rfl (hb hby d27_15) rfl ?_
 refine og_iloadN X12 hx rfl (hb hby d27_16) rfl ?_
 refine og_icmp_ne (pc1 := 22) (pc2 := 20) X12 hx (hb hby d27_17) (by decide) (by decide) rfl (fun _ => ?_) (fun q => absurd q (by decide))
 refine og_iloadN X12 hx rfl (hb hby d27_22) rfl ?_
 refine og_iloadN X12 hx rfl (hb hby d27_23) rfl ?_
 refine og_isub X12 hx (hb hby d27_24) rfl ?_
 show OG p e below _ (T12.setTop (mkF m 25 #[.val (.ref a1), .val (.int 0), .val (.int 1), .val (.int 3), .unset] [(.int 1)]))
 refine og_istore (L' := #[.val (.ref a1), .val (.int 0), .val (.int 1), .val (.int 3), .val (.int 1)]) X12 hx rfl (hb hby d27_25) rfl ?_
 refine og_aloadN X12 hx rfl rfl (hb hby d27_27) rfl ?_
 refine og_virtual (pc' := 31) (cells' := 0) (slots' := 0) (W := 0) X12 hx hZ (rm_il l Z a0 hw a1 cs hcs h0 n0 O F_coder_a1 S_CS) hown (ow60 hw) (ow61 hw) (own_nf hZ (ow63 hw)) (ow63 hw) (ow62 hw) (ow11 hw) (ow64 hw) (by decide) (by rw [hml]; rfl) e12 opd_9 [] [] rfl rfl rfl rfl (by decide) (by decide) rfl rfl (by decide) (by decide) E_a1 (hb hby d27_28) rfl (fun v13 T13 h13 L13 X13 e13 z13 => ?_)
 obtain ⟨rfl, Nq13, hq13⟩ := z13; replace e13 := e13.trans hq13; have N := Fr.app N Nq13
 refine og_if_eq (pc1 := 47) (pc2 := 34) X13 hx (hb hby d27_31) (by decide) (by decide) rfl (fun q => absurd q (by decide)) (fun _ => ?_)
 refine og_aloadN X13 hx rfl rfl (hb hby d27_34) rfl ?_
 refine og_getfield X13 hx hZ (host := "") hown (Or.inl (ow28 hw)) Via.refl e13 F_value_a1 (hb hby d27_35) rfl (fun T14 X14 e14 => ?_)
 refine og_iloadN X14 hx rfl (hb hby d27_38) rfl ?_
 refine og_iload X14 hx rfl (hb hby d27_39) rfl ?_
 refine og_static (pc' := 44) (cells' := 2) (slots' := 5) (W := 0) X14 hx hZ (rm_ns_3_1_0_1 l Z a0 hw ba kb u0 u2 h0 n0 O V_ba) hown (ow146 hw) (ow147 hw) (ow77 hw) (ow148 hw) (by decide) (by rw [hml]; rfl) e14 opd_21 [(.ref ba), (.int 0), (.int 1)] [] rfl rfl rfl rfl (by decide) (by decide) rfl rfl (by decide) (by decide) (hb hby d27_41) rfl (fun v15 T15 h15 L15 X15 e15 z15 => ?_)
 obtain ⟨na15, nb15, k15, rfl, Nq15, K15, sa15, sb15, E_na15, F_value_na15, F_coder_na15, V_nb15⟩ := z15; have N := Fr.app N Nq15
 have s_na15 : h0.size ≤ na15 := sa15; have g_na15 : n0 ≤ na15 := Nat.le_trans (own_n0 O) s_na15; have sz_na15 : h0.size ≤ na15 := Nat.le_trans K.1 s_na15; have ne_a1_na15 : a1 ≠ na15 := Nat.ne_of_lt (Nat.lt_of_lt_of_le E_a1.lt s_na15); have ne_ba_na15 : ba ≠ na15 := Nat.ne_of_lt (Nat.lt_of_lt_of_le V_ba.lt s_na15)
 have s_nb15 : h0.size ≤ nb15 := sb15; have g_nb15 : n0 ≤ nb15 := Nat.le_trans (own_n0 O) s_nb15; have sz_nb15 : h0.size ≤ nb15 := Nat.le_trans K.1 s_nb15; have ne_a1_nb15 : a1 ≠ nb15 := Nat.ne_of_lt (Nat.lt_of_lt_of_le E_a1.lt s_nb15); have ne_ba_nb15 : ba ≠ nb15 := Nat.ne_of_lt (Nat.lt_of_lt_of_le V_ba.lt s_nb15)
 have E_a1 := E_a1.keep K15; have F_value_a1 := F_value_a1.keep K15 nin0; have F_coder_a1 := F_coder_a1.keep K15 nin0; have V_ba := V_ba.keep K15 nin0; have O := O.keep K15 all0; have K := K.trans K15 all0
 refine og_goto (pc' := 57) X15 hx (hb hby d27_44) (by decide) (by decide) ?_
 refine og_retR X15 hx hlk hret rfl rfl rfl (hb hby d27_57) (by decide) (by decide) ?_
 rw [e15]; exact ⟨_, _, _, rfl, N, K, sz_na15, sz_nb15, E_na15, F_value_na15, F_coder_na15, V_nb15⟩
theorem rm_cl_2_3 (l : Launch) (Z : State) (a0 : Array Value) (hw : HW a0 Z)  (h0 : Heap) (n0 : Nat) (O : Old Z n0 h0) :
  Con l Z (⟨"java/util/Arrays", "checkLength", "(II)V"⟩ : MethodName) jdk_65_method_131_code 2 none ({ frames := 0, cells := 0, slots := 0, locals := 0 } : Room) #[(.int 2), (.int 3)] h0 (fun v h L => v = none ∧ Fr n0 L ∧ h = h0) := by
 refine own_startC opn_33 ?_
 intro p e s m below meth c T0 X0 hx hby hml hZ hown hnm hret hlk e0
 have N := Fr.nil n0; have K := Keep.refl h0 []
 refine OG.cast (oef11 m (2 : Int32) (3 : Int32)) ?_
 refine og_iloadN X0 hx rfl (hb hby d33_0) rfl ?_
 refine og_iloadN X0 hx rfl (hb hby d33_1) rfl ?_
 refine og_icmp_ge (pc1 := 37) (pc2 := 5) X0 hx (hb hby d33_2) (by decide) (by decide) rfl (fun _ => ?_) (fun q => absurd q (by decide))
 refine og_retV X0 hx hlk hret (hb hby d33_37) (by decide) (by decide) ?_
 rw [e0]; exact ⟨rfl, N, rfl⟩
theorem rm_crb_3_1_2_3 (l : Launch) (Z : State) (a0 : Array Value) (hw : HW a0 Z) (ba : Addr) (kb : ClassId) (u0 u2 : Int32) (h0 : Heap) (n0 : Nat) (O : Old Z n0 h0) (V_ba : Arv Z h0 ba kb .byte (3 : Int32) [(.int u0), (.int 46), (.int u2)] (.int 0)) :
  Con l Z (⟨"java/util/Arrays", "copyOfRangeByte", "([BII)[B"⟩ : MethodName) jdk_65_method_133_code 5 (some (.array .byte)) ({ frames := 1, cells := 1, slots := 1, locals := 18 } : Room) #[(.ref ba), (.int 2), (.int 3)] h0 (fun v h L => ∃ b k, v = some (.ref b) ∧ Fr n0 L ∧ Keep h0 h [] ∧ h0.size ≤ b ∧ Arv Z h b k .byte (1 : Int32) [(.int u2)] (.int 0)) := by
 refine own_startC opn_32 ?_
 intro p e s m below meth c T0 X0 hx hby hml hZ hown hnm hret hlk e0
 have N := Fr.nil n0; have K := Keep.refl h0 []
 refine OG.cast (oef16 m ba (2 : Int32) (3 : Int32)) ?_
 refine og_iloadN X0 hx rfl (hb hby d32_0) rfl ?_
 refine og_iloadN X0 hx rfl (hb hby d32_1) rfl ?_
 refine og_static (pc' := 5) (cells' := 0) (slots' := 0) (W := 0) X0 hx hZ (rm_cl_2_3 l Z a0 hw h0 n0 O) hown (ow157 hw) (ow158 hw) (ow152 hw) (ow159 hw) (by decide) (by rw [hml]; rfl) e0 opd_16 [(.int 2), (.int 3)] [] rfl rfl rfl rfl (by decide) (by decide) rfl rfl (by decide) (by decide) (hb hby d32_2) rfl (fun v11 T11 h11 L11 X11 e11 z11 => ?_)
 obtain ⟨rfl, Nq11, hq11⟩ := z11; replace e11 := e11.trans hq11; have N := Fr.app N Nq11
 refine og_iloadN X11 hx rfl (hb hby d32_5) rfl ?_
 refine og_iloadN X11 hx rfl (hb hby d32_6) rfl ?_
 refine og_isub X11 hx (hb hby d32_7) rfl ?_
 show OG p e below _ (T11.setTop (mkF m 8 #[.val (.ref ba), .val (.int 2), .val (.int 3), .unset, .unset] [(.int 1)]))
 refine og_istoreN (L' := #[.val (.ref ba), .val (.int 2), .val (.int 3), .val (.int 1), .unset]) X11 hx rfl (hb hby d32_8) rfl ?_
 refine og_iloadN X11 hx rfl (hb hby d32_9) rfl ?_
 refine og_newarray (pc' := 12) (cells' := 1) (slots' := 1) (cap := 1) (ty := .byte) X11 hx hZ rfl (ow23 hw) e11 (by decide) (by decide) (by decide) (hb hby d32_10) rfl rfl rfl (by decide) (by decide) (fun T12 h12 nb12 kA12 X12 e12 E12 q12 V_nb12 => ?_)
 have s_nb12 : h0.size ≤ nb12 := Nat.le_of_eq q12.symm; have g_nb12 : n0 ≤ nb12 := Nat.le_trans (own_n0 O) s_nb12; have sz_nb12 : h0.size ≤ nb12 := Nat.le_trans K.1 s_nb12; have ne_ba_nb12 : ba ≠ nb12 := Nat.ne_of_lt (Nat.lt_of_lt_of_le V_ba.lt s_nb12)
 have V_ba := V_ba.ext E12; have O := O.ext E12; have K := K.ext E12
 have V_nb12 : Arv Z h12 nb12 kA12 .byte (1 : Int32) [(.int 0)] (.int 0) := V_nb12.pad (pad_rep [] (.int 0) 1)
 refine og_astore (L' := #[.val (.ref ba), .val (.int 2), .val (.int 3), .val (.int 1), .val (.ref nb12)]) X12 hx rfl rfl (hb hby d32_12) rfl ?_
 refine og_aloadN X12 hx rfl rfl (hb hby d32_14) rfl ?_
 refine og_iloadN X12 hx rfl (hb hby d32_15) rfl ?_
 refine og_aload X12 hx rfl rfl (hb hby d32_16) rfl ?_
 refine og_iconst (v := (0 : Int32)) X12 hx rfl (hb hby d32_18) rfl ?_
 refine og_aloadN X12 hx rfl rfl (hb hby d32_19) rfl ?_
 refine og_arraylength X12 hx hZ e12 V_ba (hb hby d32_20) rfl ?_
 refine og_iloadN X12 hx rfl (hb hby d32_21) rfl ?_
 refine og_isub X12 hx (hb hby d32_22) rfl ?_
 show OG p e below _ (T12.setTop (mkF m 23 #[.val (.ref ba), .val (.int 2), .val (.int 3), .val (.int 1), .val (.ref nb12)] [(.int 1), (.int 0), (.ref nb12), (.int 2), (.ref ba)]))
 refine og_iloadN X12 hx rfl (hb hby d32_23) rfl ?_
 refine og_static (pc' := 27) (cells' := 1) (slots' := 1) (W := 4) X12 hx hZ (rm_min_1_1 l Z a0 hw h12 n0 O) hown (ow160 hw) (ow87 hw) (ow84 hw) (ow88 hw) (by decide) (by rw [hml]; rfl) e12 opd_11 [(.int 1), (.int 1)] [(.int 0), (.ref nb12), (.int 2), (.ref ba)] rfl rfl rfl rfl (by decide) (by decide) rfl rfl (by decide) (by decide) (hb hby d32_24) rfl (fun v13 T13 h13 L13 X13 e13 z13 => ?_)
 obtain ⟨rfl, Nq13, hq13⟩ := z13; replace e13 := e13.trans hq13; have N := Fr.app N Nq13
 refine og_arraycopy (pc' := 30) (W := 0) (us := [(.int u2)]) X13 hx hZ (by rw [hml]; rfl) hown (ow161 hw) (ow164 hw) (ow162 hw) (ow163 hw) e13 V_ba V_nb12 rfl (by decide) (by decide) (by decide) (by decide) (by decide) rfl (Nat.le_of_ble_eq_true rfl) N g_nb12 rfl (by decide) (by decide) (hb hby d32_27) rfl (fun T14 h14 l14 X14 e14 N K14 V14 => ?_)
 have V_ba := V_ba.keep K14 (ninS ne_ba_nb12 nin0); have O := O.keep K14 (allS g_nb12 all0); have K := K.trans K14 (allS (Or.inr sz_nb12) all0)
 have V_nb12 : Arv Z h14 nb12 kA12 .byte (1 : Int32) [(.int u2)] (.int 0) := V14
 refine og_aload X14 hx rfl rfl (hb hby d32_30) rfl ?_
 refine og_retR X14 hx hlk hret rfl rfl rfl (hb hby d32_32) (by decide) (by decide) ?_
 rw [e14]; exact ⟨_, _, rfl, N, K, sz_nb12, V_nb12⟩
theorem rm_cr_3_1_2_3 (l : Launch) (Z : State) (a0 : Array Value) (hw : HW a0 Z) (ba : Addr) (kb : ClassId) (u0 u2 : Int32) (h0 : Heap) (n0 : Nat) (O : Old Z n0 h0) (V_ba : Arv Z h0 ba kb .byte (3 : Int32) [(.int u0), (.int 46), (.int u2)] (.int 0)) :
  Con l Z (⟨"java/util/Arrays", "copyOfRange", "([BII)[B"⟩ : MethodName) jdk_65_method_132_code 3 (some (.array .byte)) ({ frames := 2, cells := 1, slots := 1, locals := 34 } : Room) #[(.ref ba), (.int 2), (.int 3)] h0 (fun v h L => ∃ b k, v = some (.ref b) ∧ Fr n0 L ∧ Keep h0 h [] ∧ h0.size ≤ b ∧ Arv Z h b k .byte (1 : Int32) [(.int u2)] (.int 0)) := by
 refine own_startC opn_31 ?_
 intro p e s m below meth c T0 X0 hx hby hml hZ hown hnm hret hlk e0
 have N := Fr.nil n0; have K := Keep.refl h0 []
 refine OG.cast (oef14 m ba (2 : Int32) (3 : Int32)) ?_
 refine og_iloadN X0 hx rfl (hb hby d31_0) rfl ?_
 refine og_if_ne (pc1 := 10) (pc2 := 4) X0 hx (hb hby d31_1) (by decide) (by decide) rfl (fun _ => ?_) (fun q => absurd q (by decide))
 refine og_aloadN X0 hx rfl rfl (hb hby d31_10) rfl ?_
 refine og_iloadN X0 hx rfl (hb hby d31_11) rfl ?_
 refine og_iloadN X0 hx rfl (hb hby d31_12) rfl ?_
 refine og_static (pc' := 16) (cells' := 1) (slots' := 1) (W := 0) X0 hx hZ (rm_crb_3_1_2_3 l Z a0 hw ba kb u0 u2 h0 n0 O V_ba) hown (ow154 hw) (ow155 hw) (ow152 hw) (ow156 hw) (by decide) (by rw [hml]; rfl) e0 opd_17 [(.ref ba), (.int 2), (.int 3)] [] rfl rfl rfl rfl (by decide) (by decide) rfl rfl (by decide) (by decide) (hb hby d31_13) rfl (fun v11 T11 h11 L11 X11 e11 z11 => ?_)
 obtain ⟨nb11, k11, rfl, Nq11, K11, sb11, V_nb11⟩ := z11; have N := Fr.app N Nq11
 have s_nb11 : h0.size ≤ nb11 := sb11; have g_nb11 : n0 ≤ nb11 := Nat.le_trans (own_n0 O) s_nb11; have sz_nb11 : h0.size ≤ nb11 := Nat.le_trans K.1 s_nb11; have ne_ba_nb11 : ba ≠ nb11 := Nat.ne_of_lt (Nat.lt_of_lt_of_le V_ba.lt s_nb11)
 have V_ba := V_ba.keep K11 nin0; have O := O.keep K11 all0; have K := K.trans K11 all0
 refine og_retR X11 hx hlk hret rfl rfl rfl (hb hby d31_16) (by decide) (by decide) ?_
 rw [e11]; exact ⟨_, _, rfl, N, K, sz_nb11, V_nb11⟩
theorem rm_ns_3_1_2_3 (l : Launch) (Z : State) (a0 : Array Value) (hw : HW a0 Z) (ba : Addr) (kb : ClassId) (u0 u2 : Int32) (h0 : Heap) (n0 : Nat) (O : Old Z n0 h0) (V_ba : Arv Z h0 ba kb .byte (3 : Int32) [(.int u0), (.int 46), (.int u2)] (.int 0)) :
  Con l Z (⟨"java/lang/StringLatin1", "newString", "([BII)Ljava/lang/String;"⟩ : MethodName) jdk_43_method_47_code 3 (some (.object "java/lang/String")) ({ frames := 3, cells := 2, slots := 5, locals := 50 } : Room) #[(.ref ba), (.int 2), (.int 1)] h0 (fun v h L => ∃ a b k, v = some (.ref a) ∧ Fr n0 L ∧ Keep h0 h [] ∧ h0.size ≤ a ∧ h0.size ≤ b ∧ Exa Z h a "java/lang/String" ∧ Fld Z h a "java/lang/String" "value" "[B" (.ref b) ∧ Fld Z h a "java/lang/String" "coder" "B" (.int 0) ∧ Arv Z h b k .byte (1 : Int32) [(.int u2)] (.int 0)) := by
 refine own_startC opn_30 ?_
 intro p e s m below meth c T0 X0 hx hby hml hZ hown hnm hret hlk e0
 have N := Fr.nil n0; have K := Keep.refl h0 []
 refine OG.cast (oef14 m ba (2 : Int32) (1 : Int32)) ?_
 refine og_iloadN X0 hx rfl (hb hby d30_0) rfl ?_
 refine og_if_ne (pc1 := 7) (pc2 := 4) X0 hx (hb hby d30_1) (by decide) (by decide) rfl (fun _ => ?_) (fun q => absurd q (by decide))
 refine og_new (pc' := 10) (cells' := 1) (slots' := 4) X0 hx hZ hown (ow149 hw) (ow10 hw) (ow11 hw) e0 (hb hby d30_7) rfl rfl rfl (by decide) (by decide) (fun T11 h11 nb11 X11 e11 E11 q11 E_nb11 D11 B11 => ?_)
 have s_nb11 : h0.size ≤ nb11 := Nat.le_of_eq q11.symm; have g_nb11 : n0 ≤ nb11 := Nat.le_trans (own_n0 O) s_nb11; have sz_nb11 : h0.size ≤ nb11 := Nat.le_trans K.1 s_nb11; have ne_ba_nb11 : ba ≠ nb11 := Nat.ne_of_lt (Nat.lt_of_lt_of_le V_ba.lt s_nb11)
 have V_ba := V_ba.ext E11; have O := O.ext E11; have K := K.ext E11
 have F_value_nb11 : Fld Z h11 nb11 "java/lang/String" "value" "[B" .null := D11 (Or.inr (ow24 hw)) (ty := (.array .byte)) (by decide)
 have F_coder_nb11 : Fld Z h11 nb11 "java/lang/String" "coder" "B" (.int 0) := D11 (Or.inr (ow25 hw)) (ty := .byte) (by decide)
 refine og_dup X11 hx rfl (hb hby d30_10) rfl ?_
 refine og_aloadN X11 hx rfl rfl (hb hby d30_11) rfl ?_
 refine og_iloadN X11 hx rfl (hb hby d30_12) rfl ?_
 refine og_iloadN X11 hx rfl (hb hby d30_13) rfl ?_
 refine og_iloadN X11 hx rfl (hb hby d30_14) rfl ?_
 refine og_iadd X11 hx (hb hby d30_15) rfl ?_
 show OG p e below _ (T11.setTop (mkF m 16 #[.val (.ref ba), .val (.int 2), .val (.int 1)] [(.int 3), (.int 2), (.ref ba), (.ref nb11), (.ref nb11)]))
 refine og_static (pc' := 19) (cells' := 2) (slots' := 5) (W := 2) X11 hx hZ (rm_cr_3_1_2_3 l Z a0 hw ba kb u0 u2 h11 n0 O V_ba) hown (ow150 hw) (ow151 hw) (ow152 hw) (ow153 hw) (by decide) (by rw [hml]; rfl) e11 opd_17 [(.ref ba), (.int 2), (.int 3)] [(.ref nb11), (.ref nb11)] rfl rfl rfl rfl (by decide) (by decide) rfl rfl (by decide) (by decide) (hb hby d30_16) rfl (fun v12 T12 h12 L12 X12 e12 z12 => ?_)
 obtain ⟨nb12, k12, rfl, Nq12, K12, sb12, V_nb12⟩ := z12; have N := Fr.app N Nq12
 have s_nb12 : h11.size ≤ nb12 := sb12; have g_nb12 : n0 ≤ nb12 := Nat.le_trans (own_n0 O) s_nb12; have sz_nb12 : h0.size ≤ nb12 := Nat.le_trans K.1 s_nb12; have ne_ba_nb12 : ba ≠ nb12 := Nat.ne_of_lt (Nat.lt_of_lt_of_le V_ba.lt s_nb12); have ne_nb11_nb12 : nb11 ≠ nb12 := Nat.ne_of_lt (Nat.lt_of_lt_of_le E_nb11.lt s_nb12)
 have V_ba := V_ba.keep K12 nin0; have E_nb11 := E_nb11.keep K12; have F_value_nb11 := F_value_nb11.keep K12 nin0; have F_coder_nb11 := F_coder_nb11.keep K12 nin0; have O := O.keep K12 all0; have K := K.trans K12 all0
 refine og_iconst (v := (0 : Int32)) X12 hx rfl (hb hby d30_19) rfl ?_
 refine og_special (pc' := 23) (cells' := 2) (slots' := 5) (W := 1) X12 hx hZ (rm_si l Z a0 hw nb11 nb12 h12 n0 O E_nb11 F_value_nb11 F_coder_nb11 g_nb11) rfl hown (ow165 hw) (ow166 hw) (ow11 hw) (ow167 hw) (by decide) (by rw [hml]; rfl) e12 opd_18 [(.ref nb12), (.int 0)] [(.ref nb11)] rfl rfl rfl rfl (by decide) (by decide) rfl rfl (by decide) (by decide) (hb hby d30_20) rfl (fun v13 T13 h13 L13 X13 e13 z13 => ?_)
 obtain ⟨rfl, Nq13, K13, E_nb11', F_value_nb11', F_coder_nb11'⟩ := z13; have N := Fr.app N Nq13
 have V_ba := V_ba.keep K13 (ninS ne_ba_nb11 nin0); have E_nb11 := E_nb11.keep K13; have V_nb12 := V_nb12.keep K13 (ninS (Ne.symm ne_nb11_nb12) nin0); have O := O.keep K13 (allS g_nb11 all0); have K := K.trans K13 (allS (Or.inr sz_nb11) all0)
 have E_nb11 := E_nb11'; have F_value_nb11 := F_value_nb11'; have F_coder_nb11 := F_coder_nb11'
 refine og_retR X13 hx hlk hret rfl rfl rfl (hb hby d30_23) (by decide) (by decide) ?_
 rw [e13]; exact ⟨_, _, _, rfl, N, K, sz_nb11, sz_nb12, E_nb11, F_value_nb11, F_coder_nb11, V_nb12⟩
theorem rm_ft_2_3_3 (l : Launch) (Z : State) (a0 : Array Value) (hw : HW a0 Z) (fm : Value) (hfm : fm.isRef = true) (h0 : Heap) (n0 : Nat) (O : Old Z n0 h0) :
  Con l Z (⟨"jdk/internal/util/Preconditions", "checkFromToIndex", "(IIILjava/util/function/BiFunction;)I"⟩ : MethodName) jdk_41_method_12_code 4 (some .int) ({ frames := 0, cells := 0, slots := 0, locals := 0 } : Room) #[(.int 2), (.int 3), (.int 3), fm] h0 (fun v h L => v = some (.int 2) ∧ Fr n0 L ∧ h = h0) := by
 refine own_startC opn_29 ?_
 intro p e s m below meth c T0 X0 hx hby hml hZ hown hnm hret hlk e0
 have N := Fr.nil n0; have K := Keep.refl h0 []
 refine OG.cast (oef17 m (2 : Int32) (3 : Int32) (3 : Int32) fm hfm) ?_
 refine og_iloadN X0 hx rfl (hb hby d29_0) rfl ?_
 refine og_if_lt (pc1 := 14) (pc2 := 4) X0 hx (hb hby d29_1) (by decide) (by decide) rfl (fun q => absurd q (by decide)) (fun _ => ?_)
 refine og_iloadN X0 hx rfl (hb hby d29_4) rfl ?_
 refine og_iloadN X0 hx rfl (hb hby d29_5) rfl ?_
 refine og_icmp_gt (pc1 := 14) (pc2 := 9) X0 hx (hb hby d29_6) (by decide) (by decide) rfl (fun q => absurd q (by decide)) (fun _ => ?_)
 refine og_iloadN X0 hx rfl (hb hby d29_9) rfl ?_
 refine og_iloadN X0 hx rfl (hb hby d29_10) rfl ?_
 refine og_icmp_le (pc1 := 22) (pc2 := 14) X0 hx (hb hby d29_11) (by decide) (by decide) rfl (fun _ => ?_) (fun q => absurd q (by decide))
 refine og_iloadN X0 hx rfl (hb hby d29_22) rfl ?_
 refine og_retI X0 hx hlk hret (hb hby d29_23) (by decide) (by decide) ?_
 rw [e0]; exact ⟨rfl, N, rfl⟩
theorem rm_cb_2_3_3 (l : Launch) (Z : State) (a0 : Array Value) (hw : HW a0 Z) (fm : Value) (hfm : fm.isRef = true) (h0 : Heap) (n0 : Nat) (O : Old Z n0 h0) (S_FM : Sta Z Z.heap "jdk/internal/util/Preconditions" "SIOOBE_FORMATTER" "Ljava/util/function/BiFunction;" fm) :
  Con l Z (⟨"java/lang/String", "checkBoundsBeginEnd", "(III)V"⟩ : MethodName) jdk_42_method_158_code 3 none ({ frames := 1, cells := 0, slots := 0, locals := 15 } : Room) #[(.int 2), (.int 3), (.int 3)] h0 (fun v h L => v = none ∧ Fr n0 L ∧ h = h0) := by
 refine own_startC opn_28 ?_
 intro p e s m below meth c T0 X0 hx hby hml hZ hown hnm hret hlk e0
 have N := Fr.nil n0; have K := Keep.refl h0 []
 refine OG.cast (oef18 m (2 : Int32) (3 : Int32) (3 : Int32)) ?_
 refine og_iloadN X0 hx rfl (hb hby d28_0) rfl ?_
 refine og_iloadN X0 hx rfl (hb hby d28_1) rfl ?_
 refine og_iloadN X0 hx rfl (hb hby d28_2) rfl ?_
 refine og_getstatic X0 hx hZ (host := "") hown (Or.inl (ow141 hw)) Via.refl e0 (S_FM.ext O.2) (hb hby d28_3) rfl (fun T11 X11 e11 => ?_)
 refine og_static (pc' := 9) (cells' := 0) (slots' := 0) (W := 0) X11 hx hZ (rm_ft_2_3_3 l Z a0 hw fm hfm h0 n0 O) hown (ow143 hw) (ow144 hw) (ow142 hw) (ow145 hw) (by decide) (by rw [hml]; rfl) e11 opd_19 [(.int 2), (.int 3), (.int 3), fm] [] rfl rfl rfl rfl (by decide) (by decide) rfl rfl (by decide) (by decide) (hb hby d28_6) rfl (fun v12 T12 h12 L12 X12 e12 z12 => ?_)
 obtain ⟨rfl, Nq12, hq12⟩ := z12; replace e12 := e12.trans hq12; have N := Fr.app N Nq12
 refine og_pop X12 hx rfl (hb hby d28_9) rfl ?_
 refine og_retV X12 hx hlk hret (hb hby d28_10) (by decide) (by decide) ?_
 rw [e12]; exact ⟨rfl, N, rfl⟩
theorem rm_ss_3_1_2_3 (l : Launch) (Z : State) (a0 : Array Value) (hw : HW a0 Z) (a1 ba : Addr) (kb : ClassId) (u0 u2 : Int32) (cs : Int32) (hcs : ¬ cs = 0) (fm : Value) (hfm : fm.isRef = true) (h0 : Heap) (n0 : Nat) (O : Old Z n0 h0) (E_a1 : Exa Z h0 a1 "java/lang/String") (F_value_a1 : Fld Z h0 a1 "java/lang/String" "value" "[B" (.ref ba)) (F_coder_a1 : Fld Z h0 a1 "java/lang/String" "coder" "B" (.int 0)) (V_ba : Arv Z h0 ba kb .byte (3 : Int32) [(.int u0), (.int 46), (.int u2)] (.int 0)) (S_CS : Sta Z Z.heap "java/lang/String" "COMPACT_STRINGS" "Z" (.int cs)) (S_FM : Sta Z Z.heap "jdk/internal/util/Preconditions" "SIOOBE_FORMATTER" "Ljava/util/function/BiFunction;" fm) :
  Con l Z (⟨"java/lang/String", "substring", "(II)Ljava/lang/String;"⟩ : MethodName) jdk_42_method_92_code 5 (some (.object "java/lang/String")) ({ frames := 4, cells := 2, slots := 5, locals := 64 } : Room) #[(.ref a1), (.int 2), (.int 3)] h0 (fun v h L => ∃ a b k, v = some (.ref a) ∧ Fr n0 L ∧ Keep h0 h [] ∧ h0.size ≤ a ∧ h0.size ≤ b ∧ Exa Z h a "java/lang/String" ∧ Fld Z h a "java/lang/String" "value" "[B" (.ref b) ∧ Fld Z h a "java/lang/String" "coder" "B" (.int 0) ∧ Arv Z h b k .byte (1 : Int32) [(.int u2)] (.int 0)) := by
 refine own_startC opn_27 ?_
 intro p e s m below meth c T0 X0 hx hby hml hZ hown hnm hret hlk e0
 have N := Fr.nil n0; have K := Keep.refl h0 []
 refine OG.cast (oef16 m a1 (2 : Int32) (3 : Int32)) ?_
 refine og_aloadN X0 hx rfl rfl (hb hby d27_0) rfl ?_
 refine og_virtual (pc' := 4) (cells' := 0) (slots' := 0) (W := 0) X0 hx hZ (rm_len l Z a0 hw a1 ba kb (3 : Int32) _ cs hcs h0 n0 O E_a1 F_value_a1 F_coder_a1 V_ba S_CS) hown (ow65 hw) (ow66 hw) (own_nf hZ (ow68 hw)) (ow68 hw) (ow67 hw) (ow11 hw) (ow69 hw) (by decide) (by rw [hml]; rfl) e0 opd_13 [] [] rfl rfl rfl rfl (by decide) (by decide) rfl rfl (by decide) (by decide) E_a1 (hb hby d27_1) rfl (fun v11 T11 h11 L11 X11 e11 z11 => ?_)
 obtain ⟨rfl, Nq11, hq11⟩ := z11; replace e11 := e11.trans hq11; have N := Fr.app N Nq11
 refine og_istoreN (L' := #[.val (.ref a1), .val (.int 2), .val (.int 3), .val (.int 3), .unset]) X11 hx rfl (hb hby d27_4) rfl ?_
 refine og_iloadN X11 hx rfl (hb hby d27_5) rfl ?_
 refine og_iloadN X11 hx rfl (hb hby d27_6) rfl ?_
 refine og_iloadN X11 hx rfl (hb hby d27_7) rfl ?_
 refine og_static (pc' := 11) (cells' := 0) (slots' := 0) (W := 0) X11 hx hZ (rm_cb_2_3_3 l Z a0 hw fm hfm h0 n0 O S_FM) hown (ow138 hw) (ow139 hw) (ow11 hw) (ow140 hw) (by decide) (by rw [hml]; rfl) e11 opd_20 [(.int 2), (.int 3), (.int 3)] [] rfl rfl rfl rfl (by decide) (by decide) rfl rfl (by decide) (by decide) (hb hby d27_8) rfl (fun v12 T12 h12 L12 X12 e12 z12 => ?_)
 obtain ⟨rfl, Nq12, hq12⟩ := z12; replace e12 := e12.trans hq12; have N := Fr.app N Nq12
 refine og_iloadN X12 hx rfl (hb hby d27_11) rfl ?_
 refine og_if_ne (pc1 := 22) (pc2 := 15) X12 hx (hb hby d27_12) (by decide) (by decide) rfl (fun _ => ?_) (fun q => absurd q (by decide))
 refine og_iloadN X12 hx rfl (hb hby d27_22) rfl ?_
 refine og_iloadN X12 hx rfl (hb hby d27_23) rfl ?_
 refine og_isub X12 hx (hb hby d27_24) rfl ?_
 show OG p e below _ (T12.setTop (mkF m 25 #[.val (.ref a1), .val (.int 2), .val (.int 3), .val (.int 3), .unset] [(.int 1)]))
 refine og_istore (L' := #[.val (.ref a1), .val (.int 2), .val (.int 3), .val (.int 3), .val (.int 1)]) X12 hx rfl (hb hby d27_25) rfl ?_
 refine og_aloadN X12 hx rfl rfl (hb hby d27_27) rfl ?_
 refine og_virtual (pc' := 31) (cells' := 0) (slots' := 0) (W := 0) X12 hx hZ (rm_il l Z a0 hw a1 cs hcs h0 n0 O F_coder_a1 S_CS) hown (ow60 hw) (ow61 hw) (own_nf hZ (ow63 hw)) (ow63 hw) (ow62 hw) (ow11 hw) (ow64 hw) (by decide) (by rw [hml]; rfl) e12 opd_9 [] [] rfl rfl rfl rfl (by decide) (by decide) rfl rfl (by decide) (by decide) E_a1 (hb hby d27_28) rfl (fun v13 T13 h13 L13 X13 e13 z13 => ?_)
 obtain ⟨rfl, Nq13, hq13⟩ := z13; replace e13 := e13.trans hq13; have N := Fr.app N Nq13
 refine og_if_eq (pc1 := 47) (pc2 := 34) X13 hx (hb hby d27_31) (by decide) (by decide) rfl (fun q => absurd q (by decide)) (fun _ => ?_)
 refine og_aloadN X13 hx rfl rfl (hb hby d27_34) rfl ?_
 refine og_getfield X13 hx hZ (host := "") hown (Or.inl (ow28 hw)) Via.refl e13 F_value_a1 (hb hby d27_35) rfl (fun T14 X14 e14 => ?_)
 refine og_iloadN X14 hx rfl (hb hby d27_38) rfl ?_
 refine og_iload X14 hx rfl (hb hby d27_39) rfl ?_
 refine og_static (pc' := 44) (cells' := 2) (slots' := 5) (W := 0) X14 hx hZ (rm_ns_3_1_2_3 l Z a0 hw ba kb u0 u2 h0 n0 O V_ba) hown (ow146 hw) (ow147 hw) (ow77 hw) (ow148 hw) (by decide) (by rw [hml]; rfl) e14 opd_21 [(.ref ba), (.int 2), (.int 1)] [] rfl rfl rfl rfl (by decide) (by decide) rfl rfl (by decide) (by decide) (hb hby d27_41) rfl (fun v15 T15 h15 L15 X15 e15 z15 => ?_)
 obtain ⟨na15, nb15, k15, rfl, Nq15, K15, sa15, sb15, E_na15, F_value_na15, F_coder_na15, V_nb15⟩ := z15; have N := Fr.app N Nq15
 have s_na15 : h0.size ≤ na15 := sa15; have g_na15 : n0 ≤ na15 := Nat.le_trans (own_n0 O) s_na15; have sz_na15 : h0.size ≤ na15 := Nat.le_trans K.1 s_na15; have ne_a1_na15 : a1 ≠ na15 := Nat.ne_of_lt (Nat.lt_of_lt_of_le E_a1.lt s_na15); have ne_ba_na15 : ba ≠ na15 := Nat.ne_of_lt (Nat.lt_of_lt_of_le V_ba.lt s_na15)
 have s_nb15 : h0.size ≤ nb15 := sb15; have g_nb15 : n0 ≤ nb15 := Nat.le_trans (own_n0 O) s_nb15; have sz_nb15 : h0.size ≤ nb15 := Nat.le_trans K.1 s_nb15; have ne_a1_nb15 : a1 ≠ nb15 := Nat.ne_of_lt (Nat.lt_of_lt_of_le E_a1.lt s_nb15); have ne_ba_nb15 : ba ≠ nb15 := Nat.ne_of_lt (Nat.lt_of_lt_of_le V_ba.lt s_nb15)
 have E_a1 := E_a1.keep K15; have F_value_a1 := F_value_a1.keep K15 nin0; have F_coder_a1 := F_coder_a1.keep K15 nin0; have V_ba := V_ba.keep K15 nin0; have O := O.keep K15 all0; have K := K.trans K15 all0
 refine og_goto (pc' := 57) X15 hx (hb hby d27_44) (by decide) (by decide) ?_
 refine og_retR X15 hx hlk hret rfl rfl rfl (hb hby d27_57) (by decide) (by decide) ?_
 rw [e15]; exact ⟨_, _, _, rfl, N, K, sz_na15, sz_nb15, E_na15, F_value_na15, F_coder_na15, V_nb15⟩
theorem rm_s1_3_1_2_3 (l : Launch) (Z : State) (a0 : Array Value) (hw : HW a0 Z) (a1 ba : Addr) (kb : ClassId) (u0 u2 : Int32) (cs : Int32) (hcs : ¬ cs = 0) (fm : Value) (hfm : fm.isRef = true) (h0 : Heap) (n0 : Nat) (O : Old Z n0 h0) (E_a1 : Exa Z h0 a1 "java/lang/String") (F_value_a1 : Fld Z h0 a1 "java/lang/String" "value" "[B" (.ref ba)) (F_coder_a1 : Fld Z h0 a1 "java/lang/String" "coder" "B" (.int 0)) (V_ba : Arv Z h0 ba kb .byte (3 : Int32) [(.int u0), (.int 46), (.int u2)] (.int 0)) (S_CS : Sta Z Z.heap "java/lang/String" "COMPACT_STRINGS" "Z" (.int cs)) (S_FM : Sta Z Z.heap "jdk/internal/util/Preconditions" "SIOOBE_FORMATTER" "Ljava/util/function/BiFunction;" fm) :
  Con l Z (⟨"java/lang/String", "substring", "(I)Ljava/lang/String;"⟩ : MethodName) jdk_42_method_91_code 2 (some (.object "java/lang/String")) ({ frames := 5, cells := 2, slots := 5, locals := 80 } : Room) #[(.ref a1), (.int 2)] h0 (fun v h L => ∃ a b k, v = some (.ref a) ∧ Fr n0 L ∧ Keep h0 h [] ∧ h0.size ≤ a ∧ h0.size ≤ b ∧ Exa Z h a "java/lang/String" ∧ Fld Z h a "java/lang/String" "value" "[B" (.ref b) ∧ Fld Z h a "java/lang/String" "coder" "B" (.int 0) ∧ Arv Z h b k .byte (1 : Int32) [(.int u2)] (.int 0)) := by
 refine own_startC opn_35 ?_
 intro p e s m below meth c T0 X0 hx hby hml hZ hown hnm hret hlk e0
 have N := Fr.nil n0; have K := Keep.refl h0 []
 refine OG.cast (oef4 m a1 (2 : Int32)) ?_
 refine og_aloadN X0 hx rfl rfl (hb hby d35_0) rfl ?_
 refine og_iloadN X0 hx rfl (hb hby d35_1) rfl ?_
 refine og_aloadN X0 hx rfl rfl (hb hby d35_2) rfl ?_
 refine og_virtual (pc' := 6) (cells' := 0) (slots' := 0) (W := 2) X0 hx hZ (rm_len l Z a0 hw a1 ba kb (3 : Int32) _ cs hcs h0 n0 O E_a1 F_value_a1 F_coder_a1 V_ba S_CS) hown (ow65 hw) (ow66 hw) (own_nf hZ (ow68 hw)) (ow68 hw) (ow67 hw) (ow11 hw) (ow69 hw) (by decide) (by rw [hml]; rfl) e0 opd_13 [] [(.int 2), (.ref a1)] rfl rfl rfl rfl (by decide) (by decide) rfl rfl (by decide) (by decide) E_a1 (hb hby d35_3) rfl (fun v11 T11 h11 L11 X11 e11 z11 => ?_)
 obtain ⟨rfl, Nq11, hq11⟩ := z11; replace e11 := e11.trans hq11; have N := Fr.app N Nq11
 refine og_virtual (pc' := 9) (cells' := 2) (slots' := 5) (W := 0) X11 hx hZ (rm_ss_3_1_2_3 l Z a0 hw a1 ba kb u0 u2 cs hcs fm hfm h0 n0 O E_a1 F_value_a1 F_coder_a1 V_ba S_CS S_FM) hown (ow173 hw) (ow134 hw) (own_nf hZ (ow136 hw)) (ow136 hw) (ow135 hw) (ow11 hw) (ow137 hw) (by decide) (by rw [hml]; rfl) e11 opd_22 [(.int 2), (.int 3)] [] rfl rfl rfl rfl (by decide) (by decide) rfl rfl (by decide) (by decide) E_a1 (hb hby d35_6) rfl (fun v12 T12 h12 L12 X12 e12 z12 => ?_)
 obtain ⟨na12, nb12, k12, rfl, Nq12, K12, sa12, sb12, E_na12, F_value_na12, F_coder_na12, V_nb12⟩ := z12; have N := Fr.app N Nq12
 have s_na12 : h0.size ≤ na12 := sa12; have g_na12 : n0 ≤ na12 := Nat.le_trans (own_n0 O) s_na12; have sz_na12 : h0.size ≤ na12 := Nat.le_trans K.1 s_na12; have ne_a1_na12 : a1 ≠ na12 := Nat.ne_of_lt (Nat.lt_of_lt_of_le E_a1.lt s_na12); have ne_ba_na12 : ba ≠ na12 := Nat.ne_of_lt (Nat.lt_of_lt_of_le V_ba.lt s_na12)
 have s_nb12 : h0.size ≤ nb12 := sb12; have g_nb12 : n0 ≤ nb12 := Nat.le_trans (own_n0 O) s_nb12; have sz_nb12 : h0.size ≤ nb12 := Nat.le_trans K.1 s_nb12; have ne_a1_nb12 : a1 ≠ nb12 := Nat.ne_of_lt (Nat.lt_of_lt_of_le E_a1.lt s_nb12); have ne_ba_nb12 : ba ≠ nb12 := Nat.ne_of_lt (Nat.lt_of_lt_of_le V_ba.lt s_nb12)
 have E_a1 := E_a1.keep K12; have F_value_a1 := F_value_a1.keep K12 nin0; have F_coder_a1 := F_coder_a1.keep K12 nin0; have V_ba := V_ba.keep K12 nin0; have O := O.keep K12 all0; have K := K.trans K12 all0
 refine og_retR X12 hx hlk hret rfl rfl rfl (hb hby d35_9) (by decide) (by decide) ?_
 rw [e12]; exact ⟨_, _, _, rfl, N, K, sz_na12, sz_nb12, E_na12, F_value_na12, F_coder_na12, V_nb12⟩
theorem rm_pa3_1 (l : Launch) (Z : State) (a0 : Array Value) (hw : HW a0 Z) (a1 ba : Addr) (kb : ClassId) (u0 u2 : Int32) (hu0 : ¬ u0 = 46) (hu2 : ¬ u2 = 46) (cs : Int32) (hcs : ¬ cs = 0) (fm : Value) (hfm : fm.isRef = true) (h0 : Heap) (n0 : Nat) (O : Old Z n0 h0) (hEL : EW Z a0 own_EL) (E_a1 : Exa Z h0 a1 "java/lang/String") (F_value_a1 : Fld Z h0 a1 "java/lang/String" "value" "[B" (.ref ba)) (F_coder_a1 : Fld Z h0 a1 "java/lang/String" "coder" "B" (.int 0)) (V_ba : Arv Z h0 ba kb .byte (3 : Int32) [(.int u0), (.int 46), (.int u2)] (.int 0)) (S_CS : Sta Z Z.heap "java/lang/String" "COMPACT_STRINGS" "Z" (.int cs)) (S_FM : Sta Z Z.heap "jdk/internal/util/Preconditions" "SIOOBE_FORMATTER" "Ljava/util/function/BiFunction;" fm) :
  ConW l Z own_EL [] (⟨"com/example/tombstone/tombstone/config/TableName", "parse", "(Ljava/lang/String;)Lcom/example/tombstone/tombstone/config/TableName;"⟩ : MethodName) prog_8_method_2_code 4 (some (.object "com/example/tombstone/tombstone/config/TableName")) ({ frames := 6, cells := 11, slots := 92, locals := 96 } : Room) #[(.ref a1)] h0 (fun v h L => ∃ t x y bx by_ kx ky, v = some (.ref t) ∧ Fr n0 L ∧ Keep h0 h [] ∧ Exa Z h t "com/example/tombstone/tombstone/config/TableName" ∧ Fld Z h t "com/example/tombstone/tombstone/config/TableName" "schema" "Ljava/lang/String;" (.ref x) ∧ Fld Z h t "com/example/tombstone/tombstone/config/TableName" "name" "Ljava/lang/String;" (.ref y) ∧ Exa Z h x "java/lang/String" ∧ Fld Z h x "java/lang/String" "value" "[B" (.ref bx) ∧ Fld Z h x "java/lang/String" "coder" "B" (.int 0) ∧ Arv Z h bx kx .byte (1 : Int32) [(.int u0)] (.int 0) ∧ Exa Z h y "java/lang/String" ∧ Fld Z h y "java/lang/String" "value" "[B" (.ref by_) ∧ Fld Z h y "java/lang/String" "coder" "B" (.int 0) ∧ Arv Z h by_ ky .byte (1 : Int32) [(.int u2)] (.int 0)) := by
 refine own_startWC opn_9 ?_
 intro p e s m below meth c T0 X0 hx hby hml hZ hown hnm hret hlk e0 es hS CR hsf
 have N := Fr.nil n0; have K := Keep.refl h0 []; have hk := Nat.le_refl h0.size
 refine OG.cast (oef15 m a1) ?_
 refine og_aloadN X0 hx rfl rfl (hb hby d9_0) rfl ?_
 refine og_ldcO (pc' := 3) (cells' := 2) (slots' := 32) (n := 28) X0 hx hZ hown (hw _ (List.mem_of_getElem? (i := 45) rfl)) (own_wS hw) e0 hS hk hEL CR.1 (by decide) (by decide) (hb hby d9_1) rfl rfl rfl (by decide) (by decide) (fun na11 T11 h11 kk11 X11 e11 E11 hS hk hZ hown cr11 => ?_)
 have E_a1 := E_a1.ext E11; have F_value_a1 := F_value_a1.ext E11; have F_coder_a1 := F_coder_a1.ext E11; have V_ba := V_ba.ext E11; have O := O.ext E11; have K := K.ext E11
 have CR := CR.trans cr11
 refine og_static (pc' := 6) (cells' := 2) (slots' := 32) (W := 0) X11 hx hZ (rm_rnn l Z a0 hw a1 na11 h11 n0 O) hown (ow46 hw) (ow47 hw) (ow48 hw) (ow49 hw) (by decide) (by rw [hml]; rfl) e11 opd_8 [(.ref a1), (.ref na11)] [] rfl rfl rfl rfl (by decide) (by decide) rfl rfl (by decide) (by decide) (hb hby d9_3) rfl (fun v12 T12 h12 L12 X12 e12 z12 => ?_)
 obtain ⟨rfl, Nq12, hq12⟩ := z12; replace e12 := e12.trans hq12; have N := Fr.app N Nq12
 refine og_pop X12 hx rfl (hb hby d9_6) rfl ?_
 refine og_aloadN X12 hx rfl rfl (hb hby d9_7) rfl ?_
 refine og_bipush (v := (46 : Int32)) X12 hx rfl (hb hby d9_8) rfl ?_
 refine og_virtual (pc' := 13) (cells' := 2) (slots' := 32) (W := 0) X12 hx hZ (rm_ix_3_1_0 l Z a0 hw a1 ba kb u0 u2 hu0 hu2 cs hcs h11 n0 O E_a1 F_value_a1 F_coder_a1 V_ba S_CS) hown (ow50 hw) (ow51 hw) (own_nf hZ (ow53 hw)) (ow53 hw) (ow52 hw) (ow11 hw) (ow54 hw) (by decide) (by rw [hml]; rfl) e12 opd_14 [(.int 46)] [] rfl rfl rfl rfl (by decide) (by decide) rfl rfl (by decide) (by decide) E_a1 (hb hby d9_10) rfl (fun v13 T13 h13 L13 X13 e13 z13 => ?_)
 obtain ⟨rfl, Nq13, hq13⟩ := z13; replace e13 := e13.trans hq13; have N := Fr.app N Nq13
 refine og_istoreN (L' := #[.val (.ref a1), .val (.int 1), .unset, .unset]) X13 hx rfl (hb hby d9_13) rfl ?_
 refine og_iloadN X13 hx rfl (hb hby d9_14) rfl ?_
 refine og_if_lt (pc1 := 30) (pc2 := 18) X13 hx (hb hby d9_15) (by decide) (by decide) rfl (fun q => absurd q (by decide)) (fun _ => ?_)
 refine og_aloadN X13 hx rfl rfl (hb hby d9_18) rfl ?_
 refine og_bipush (v := (46 : Int32)) X13 hx rfl (hb hby d9_19) rfl ?_
 refine og_iloadN X13 hx rfl (hb hby d9_21) rfl ?_
 refine og_iconst (v := (1 : Int32)) X13 hx rfl (hb hby d9_22) rfl ?_
 refine og_iadd X13 hx (hb hby d9_23) rfl ?_
 show OG p e below _ (T13.setTop (mkF m 24 #[.val (.ref a1), .val (.int 1), .unset, .unset] [(.int 2), (.int 46), (.ref a1)]))
 refine og_virtual (pc' := 27) (cells' := 2) (slots' := 32) (W := 0) X13 hx hZ (rm_i2_3_1_2 l Z a0 hw a1 ba kb u0 u2 hu0 hu2 cs hcs h11 n0 O E_a1 F_value_a1 F_coder_a1 V_ba S_CS) hown (ow132 hw) (ow56 hw) (own_nf hZ (ow58 hw)) (ow58 hw) (ow57 hw) (ow11 hw) (ow59 hw) (by decide) (by rw [hml]; rfl) e13 opd_11 [(.int 46), (.int 2)] [] rfl rfl rfl rfl (by decide) (by decide) rfl rfl (by decide) (by decide) E_a1 (hb hby d9_24) rfl (fun v14 T14 h14 L14 X14 e14 z14 => ?_)
 obtain ⟨rfl, Nq14, hq14⟩ := z14; replace e14 := e14.trans hq14; have N := Fr.app N Nq14
 refine og_if_ge (pc1 := 34) (pc2 := 30) X14 hx (hb hby d9_27) (by decide) (by decide) rfl (fun q => absurd q (by decide)) (fun _ => ?_)
 refine og_iconst (v := (1 : Int32)) X14 hx rfl (hb hby d9_30) rfl ?_
 refine og_goto (pc' := 35) X14 hx (hb hby d9_31) (by decide) (by decide) ?_
 refine og_istoreN (L' := #[.val (.ref a1), .val (.int 1), .val (.int 1), .unset]) X14 hx rfl (hb hby d9_35) rfl ?_
 refine og_aloadN X14 hx rfl rfl (hb hby d9_36) rfl ?_
 refine og_virtual (pc' := 40) (cells' := 2) (slots' := 32) (W := 0) X14 hx hZ (rm_emp l Z a0 hw a1 ba kb (3 : Int32) _ (by decide) h11 n0 O E_a1 F_value_a1 F_coder_a1 V_ba) hown (ow92 hw) (ow93 hw) (own_nf hZ (ow95 hw)) (ow95 hw) (ow94 hw) (ow11 hw) (ow96 hw) (by decide) (by rw [hml]; rfl) e14 opd_9 [] [] rfl rfl rfl rfl (by decide) (by decide) rfl rfl (by decide) (by decide) E_a1 (hb hby d9_37) rfl (fun v15 T15 h15 L15 X15 e15 z15 => ?_)
 obtain ⟨rfl, Nq15, hq15⟩ := z15; replace e15 := e15.trans hq15; have N := Fr.app N Nq15
 refine og_if_ne (pc1 := 61) (pc2 := 43) X15 hx (hb hby d9_40) (by decide) (by decide) rfl (fun q => absurd q (by decide)) (fun _ => ?_)
 refine og_iloadN X15 hx rfl (hb hby d9_43) rfl ?_
 refine og_if_eq (pc1 := 61) (pc2 := 47) X15 hx (hb hby d9_44) (by decide) (by decide) rfl (fun q => absurd q (by decide)) (fun _ => ?_)
 refine og_iloadN X15 hx rfl (hb hby d9_47) rfl ?_
 refine og_aloadN X15 hx rfl rfl (hb hby d9_48) rfl ?_
 refine og_virtual (pc' := 52) (cells' := 2) (slots' := 32) (W := 1) X15 hx hZ (rm_len l Z a0 hw a1 ba kb (3 : Int32) _ cs hcs h11 n0 O E_a1 F_value_a1 F_coder_a1 V_ba S_CS) hown (ow97 hw) (ow66 hw) (own_nf hZ (ow68 hw)) (ow68 hw) (ow67 hw) (ow11 hw) (ow69 hw) (by decide) (by rw [hml]; rfl) e15 opd_13 [] [(.int 1)] rfl rfl rfl rfl (by decide) (by decide) rfl rfl (by decide) (by decide) E_a1 (hb hby d9_49) rfl (fun v16 T16 h16 L16 X16 e16 z16 => ?_)
 obtain ⟨rfl, Nq16, hq16⟩ := z16; replace e16 := e16.trans hq16; have N := Fr.app N Nq16
 refine og_iconst (v := (1 : Int32)) X16 hx rfl (hb hby d9_52) rfl ?_
 refine og_isub X16 hx (hb hby d9_53) rfl ?_
 show OG p e below _ (T16.setTop (mkF m 54 #[.val (.ref a1), .val (.int 1), .val (.int 1), .unset] [(.int 2), (.int 1)]))
 refine og_icmp_eq (pc1 := 61) (pc2 := 57) X16 hx (hb hby d9_54) (by decide) (by decide) rfl (fun q => absurd q (by decide)) (fun _ => ?_)
 refine og_iconst (v := (1 : Int32)) X16 hx rfl (hb hby d9_57) rfl ?_
 refine og_goto (pc' := 62) X16 hx (hb hby d9_58) (by decide) (by decide) ?_
 refine og_istoreN (L' := #[.val (.ref a1), .val (.int 1), .val (.int 1), .val (.int 1)]) X16 hx rfl (hb hby d9_62) rfl ?_
 refine og_iloadN X16 hx rfl (hb hby d9_63) rfl ?_
 refine og_if_eq (pc1 := 71) (pc2 := 67) X16 hx (hb hby d9_64) (by decide) (by decide) rfl (fun q => absurd q (by decide)) (fun _ => ?_)
 refine og_iloadN X16 hx rfl (hb hby d9_67) rfl ?_
 refine og_if_ne (pc1 := 85) (pc2 := 71) X16 hx (hb hby d9_68) (by decide) (by decide) rfl (fun _ => ?_) (fun q => absurd q (by decide))
 refine og_iloadN X16 hx rfl (hb hby d9_85) rfl ?_
 refine og_if_ge (pc1 := 102) (pc2 := 89) X16 hx (hb hby d9_86) (by decide) (by decide) rfl (fun _ => ?_) (fun q => absurd q (by decide))
 refine og_new (pc' := 105) (cells' := 3) (slots' := 34) X16 hx hZ hown (ow98 hw) (ow99 hw) (ow43 hw) e16 (hb hby d9_102) rfl rfl rfl (by decide) (by decide) (fun T17 h17 nb17 X17 e17 E17 q17 E_nb17 D17 B17 => ?_)
 have s_nb17 : h11.size ≤ nb17 := Nat.le_of_eq q17.symm; have g_nb17 : n0 ≤ nb17 := Nat.le_trans (own_n0 O) s_nb17; have sz_nb17 : h0.size ≤ nb17 := Nat.le_trans K.1 s_nb17; have ne_a1_nb17 : a1 ≠ nb17 := Nat.ne_of_lt (Nat.lt_of_lt_of_le E_a1.lt s_nb17); have ne_ba_nb17 : ba ≠ nb17 := Nat.ne_of_lt (Nat.lt_of_lt_of_le V_ba.lt s_nb17); have Q_nb17 : Safe Z own_EL _ _ nb17 := Safe.new (Z := Z) (EL := own_EL) (vm := T11.vm) s_nb17
 have Q_nb17 := Safe.ext E17 CR.1 Q_nb17; have E_a1 := E_a1.ext E17; have F_value_a1 := F_value_a1.ext E17; have F_coder_a1 := F_coder_a1.ext E17; have V_ba := V_ba.ext E17; have O := O.ext E17
 have K := K.ext E17; have hk := Nat.le_trans hk E17.1; have CR := CR.trans (CHr.ext E17 CR.1)
 have F_schema_nb17 : Fld Z h17 nb17 "com/example/tombstone/tombstone/config/TableName" "schema" "Ljava/lang/String;" .null := D17 (Or.inr (ow113 hw)) (ty := (.object "java/lang/String")) (by decide)
 have F_name_nb17 : Fld Z h17 nb17 "com/example/tombstone/tombstone/config/TableName" "name" "Ljava/lang/String;" .null := D17 (Or.inr (ow115 hw)) (ty := (.object "java/lang/String")) (by decide)
 refine og_dup X17 hx rfl (hb hby d9_105) rfl ?_
 refine og_aloadN X17 hx rfl rfl (hb hby d9_106) rfl ?_
 refine og_iconst (v := (0 : Int32)) X17 hx rfl (hb hby d9_107) rfl ?_
 refine og_iloadN X17 hx rfl (hb hby d9_108) rfl ?_
 refine og_virtual (pc' := 112) (cells' := 5) (slots' := 39) (W := 2) X17 hx hZ (rm_ss_3_1_0_1 l Z a0 hw a1 ba kb u0 u2 cs hcs fm hfm h17 n0 O E_a1 F_value_a1 F_coder_a1 V_ba S_CS S_FM) hown (ow133 hw) (ow134 hw) (own_nf hZ (ow136 hw)) (ow136 hw) (ow135 hw) (ow11 hw) (ow137 hw) (by decide) (by rw [hml]; rfl) e17 opd_22 [(.int 0), (.int 1)] [(.ref nb17), (.ref nb17)] rfl rfl rfl rfl (by decide) (by decide) rfl rfl (by decide) (by decide) E_a1 (hb hby d9_109) rfl (fun v18 T18 h18 L18 X18 e18 z18 => ?_)
 obtain ⟨na18, nb18, k18, rfl, Nq18, K18, sa18, sb18, E_na18, F_value_na18, F_coder_na18, V_nb18⟩ := z18; have N := Fr.app N Nq18
 have s_na18 : h17.size ≤ na18 := sa18; have g_na18 : n0 ≤ na18 := Nat.le_trans (own_n0 O) s_na18; have sz_na18 : h0.size ≤ na18 := Nat.le_trans K.1 s_na18; have ne_a1_na18 : a1 ≠ na18 := Nat.ne_of_lt (Nat.lt_of_lt_of_le E_a1.lt s_na18); have ne_ba_na18 : ba ≠ na18 := Nat.ne_of_lt (Nat.lt_of_lt_of_le V_ba.lt s_na18); have ne_nb17_na18 : nb17 ≠ na18 := Nat.ne_of_lt (Nat.lt_of_lt_of_le E_nb17.lt s_na18)
 have Q_na18 : Safe Z own_EL _ _ na18 := Safe.new (Z := Z) (EL := own_EL) (vm := T11.vm) s_na18
 have s_nb18 : h17.size ≤ nb18 := sb18; have g_nb18 : n0 ≤ nb18 := Nat.le_trans (own_n0 O) s_nb18; have sz_nb18 : h0.size ≤ nb18 := Nat.le_trans K.1 s_nb18; have ne_a1_nb18 : a1 ≠ nb18 := Nat.ne_of_lt (Nat.lt_of_lt_of_le E_a1.lt s_nb18); have ne_ba_nb18 : ba ≠ nb18 := Nat.ne_of_lt (Nat.lt_of_lt_of_le V_ba.lt s_nb18); have ne_nb17_nb18 : nb17 ≠ nb18 := Nat.ne_of_lt (Nat.lt_of_lt_of_le E_nb17.lt s_nb18)
 have Q_nb18 : Safe Z own_EL _ _ nb18 := Safe.new (Z := Z) (EL := own_EL) (vm := T11.vm) s_nb18
 have Q_nb17 := Safe.keep K18 sf0 CR.1 Q_nb17; have Q_na18 := Safe.keep K18 sf0 CR.1 Q_na18; have Q_nb18 := Safe.keep K18 sf0 CR.1 Q_nb18; have E_a1 := E_a1.keep K18; have F_value_a1 := F_value_a1.keep K18 nin0; have F_coder_a1 := F_coder_a1.keep K18 nin0
 have V_ba := V_ba.keep K18 nin0; have E_nb17 := E_nb17.keep K18; have F_schema_nb17 := F_schema_nb17.keep K18 nin0; have F_name_nb17 := F_name_nb17.keep K18 nin0; have O := O.keep K18 all0; have K := K.trans K18 all0
 have hk := Nat.le_trans hk K18.1; have CR := CR.trans (CHr.keep K18 sf0 CR.1)
 refine og_aloadN X18 hx rfl rfl (hb hby d9_112) rfl ?_
 refine og_iloadN X18 hx rfl (hb hby d9_113) rfl ?_
 refine og_iconst (v := (1 : Int32)) X18 hx rfl (hb hby d9_114) rfl ?_
 refine og_iadd X18 hx (hb hby d9_115) rfl ?_
 show OG p e below _ (T18.setTop (mkF m 116 #[.val (.ref a1), .val (.int 1), .val (.int 1), .val (.int 1)] [(.int 2), (.ref a1), (.ref na18), (.ref nb17), (.ref nb17)]))
 refine og_virtual (pc' := 119) (cells' := 7) (slots' := 44) (W := 3) X18 hx hZ (rm_s1_3_1_2_3 l Z a0 hw a1 ba kb u0 u2 cs hcs fm hfm h18 n0 O E_a1 F_value_a1 F_coder_a1 V_ba S_CS S_FM) hown (ow168 hw) (ow169 hw) (own_nf hZ (ow171 hw)) (ow171 hw) (ow170 hw) (ow11 hw) (ow172 hw) (by decide) (by rw [hml]; rfl) e18 opd_23 [(.int 2)] [(.ref na18), (.ref nb17), (.ref nb17)] rfl rfl rfl rfl (by decide) (by decide) rfl rfl (by decide) (by decide) E_a1 (hb hby d9_116) rfl (fun v19 T19 h19 L19 X19 e19 z19 => ?_)
 obtain ⟨na19, nb19, k19, rfl, Nq19, K19, sa19, sb19, E_na19, F_value_na19, F_coder_na19, V_nb19⟩ := z19; have N := Fr.app N Nq19
 have s_na19 : h18.size ≤ na19 := sa19; have g_na19 : n0 ≤ na19 := Nat.le_trans (own_n0 O) s_na19; have sz_na19 : h0.size ≤ na19 := Nat.le_trans K.1 s_na19; have ne_a1_na19 : a1 ≠ na19 := Nat.ne_of_lt (Nat.lt_of_lt_of_le E_a1.lt s_na19); have ne_ba_na19 : ba ≠ na19 := Nat.ne_of_lt (Nat.lt_of_lt_of_le V_ba.lt s_na19); have ne_nb17_na19 : nb17 ≠ na19 := Nat.ne_of_lt (Nat.lt_of_lt_of_le E_nb17.lt s_na19)
 have ne_na18_na19 : na18 ≠ na19 := Nat.ne_of_lt (Nat.lt_of_lt_of_le E_na18.lt s_na19); have ne_nb18_na19 : nb18 ≠ na19 := Nat.ne_of_lt (Nat.lt_of_lt_of_le V_nb18.lt s_na19); have Q_na19 : Safe Z own_EL _ _ na19 := Safe.new (Z := Z) (EL := own_EL) (vm := T11.vm) s_na19
 have s_nb19 : h18.size ≤ nb19 := sb19; have g_nb19 : n0 ≤ nb19 := Nat.le_trans (own_n0 O) s_nb19; have sz_nb19 : h0.size ≤ nb19 := Nat.le_trans K.1 s_nb19; have ne_a1_nb19 : a1 ≠ nb19 := Nat.ne_of_lt (Nat.lt_of_lt_of_le E_a1.lt s_nb19); have ne_ba_nb19 : ba ≠ nb19 := Nat.ne_of_lt (Nat.lt_of_lt_of_le V_ba.lt s_nb19); have ne_nb17_nb19 : nb17 ≠ nb19 := Nat.ne_of_lt (Nat.lt_of_lt_of_le E_nb17.lt s_nb19)
 have ne_na18_nb19 : na18 ≠ nb19 := Nat.ne_of_lt (Nat.lt_of_lt_of_le E_na18.lt s_nb19); have ne_nb18_nb19 : nb18 ≠ nb19 := Nat.ne_of_lt (Nat.lt_of_lt_of_le V_nb18.lt s_nb19); have Q_nb19 : Safe Z own_EL _ _ nb19 := Safe.new (Z := Z) (EL := own_EL) (vm := T11.vm) s_nb19
 have Q_nb17 := Safe.keep K19 sf0 CR.1 Q_nb17; have Q_na19 := Safe.keep K19 sf0 CR.1 Q_na19; have Q_nb19 := Safe.keep K19 sf0 CR.1 Q_nb19; have E_a1 := E_a1.keep K19; have F_value_a1 := F_value_a1.keep K19 nin0; have F_coder_a1 := F_coder_a1.keep K19 nin0
 have V_ba := V_ba.keep K19 nin0; have E_nb17 := E_nb17.keep K19; have F_schema_nb17 := F_schema_nb17.keep K19 nin0; have F_name_nb17 := F_name_nb17.keep K19 nin0; have E_na18 := E_na18.keep K19; have F_value_na18 := F_value_na18.keep K19 nin0
 have F_coder_na18 := F_coder_na18.keep K19 nin0; have V_nb18 := V_nb18.keep K19 nin0; have O := O.keep K19 all0; have K := K.trans K19 all0; have hk := Nat.le_trans hk K19.1; have CR := CR.trans (CHr.keep K19 sf0 CR.1)
 refine og_specialW (pc' := 122) (cells' := 11) (slots' := 92) (W := 1) X19 hx hZ (rm_tn l Z a0 hw nb17 na18 na19 nb18 nb19 k18 k19 (1 : Int32) (1 : Int32) _ _ (by decide) (by decide) h19 n0 O hEL E_nb17 F_schema_nb17 F_name_nb17 E_na18 F_value_na18 F_coder_na18 V_nb18 E_na19 F_value_na19 F_coder_na19 V_nb19 g_nb17 (Ne.symm ne_nb17_na18) (Ne.symm ne_nb17_na19) (Ne.symm ne_nb17_nb18) (Ne.symm ne_nb17_nb19)) hEL hS hk CR.1 all0 rfl hown (ow101 hw) (ow102 hw) (ow43 hw) (ow103 hw) (by decide) (by rw [hml]; rfl) e19 opd_15 [(.ref na18), (.ref na19)] [(.ref nb17)] rfl rfl rfl rfl (by decide) (by decide) rfl rfl (by decide) (by decide) (hb hby d9_119) rfl (fun v20 T20 h20 L20 kk20 X20 e20 hS hk hZ hown cr20 z20 => ?_)
 obtain ⟨rfl, Nq20, K20, F_schema_nb17', F_name_nb17'⟩ := z20; have N := Fr.app N Nq20
 have Q_nb17 := cr20.safe E_nb17.lt Q_nb17; have E_a1 := E_a1.keep K20; have F_value_a1 := F_value_a1.keep K20 (ninS ne_a1_nb17 nin0); have F_coder_a1 := F_coder_a1.keep K20 (ninS ne_a1_nb17 nin0); have V_ba := V_ba.keep K20 (ninS ne_ba_nb17 nin0); have E_nb17 := E_nb17.keep K20
 have E_na18 := E_na18.keep K20; have F_value_na18 := F_value_na18.keep K20 (ninS (Ne.symm ne_nb17_na18) nin0); have F_coder_na18 := F_coder_na18.keep K20 (ninS (Ne.symm ne_nb17_na18) nin0); have V_nb18 := V_nb18.keep K20 (ninS (Ne.symm ne_nb17_nb18) nin0); have E_na19 := E_na19.keep K20; have F_value_na19 := F_value_na19.keep K20 (ninS (Ne.symm ne_nb17_na19) nin0)
 have F_coder_na19 := F_coder_na19.keep K20 (ninS (Ne.symm ne_nb17_na19) nin0); have V_nb19 := V_nb19.keep K20 (ninS (Ne.symm ne_nb17_nb19) nin0); have O := O.keep K20 (allS g_nb17 all0); have K := K.trans K20 (allS (Or.inr sz_nb17) all0); have CR := CR.trans cr20
 have F_schema_nb17 := F_schema_nb17'; have F_name_nb17 := F_name_nb17'
 refine og_retRW X20 hx hZ hlk hEL hS e20 es hk CR hret rfl rfl rfl (hb hby d9_122) (by decide) (by decide) ?_
 rw [e20]; exact ⟨nb17, na18, na19, _, _, _, _, rfl, N, K, E_nb17, F_schema_nb17, F_name_nb17, E_na18, F_value_na18, F_coder_na18, V_nb18, E_na19, F_value_na19, F_coder_na19, V_nb19⟩
theorem rm_ic_4_1_0 (l : Launch) (Z : State) (a0 : Array Value) (hw : HW a0 Z) (ba : Addr) (kb : ClassId) (u0 u2 u3 : Int32) (hu0 : ¬ u0 = 46) (hu2 : ¬ u2 = 46) (hu3 : ¬ u3 = 46) (h0 : Heap) (n0 : Nat) (O : Old Z n0 h0) (V_ba : Arv Z h0 ba kb .byte (4 : Int32) [(.int u0), (.int 46), (.int u2), (.int u3)] (.int 0)) :
  Con l Z (⟨"java/lang/StringLatin1", "indexOfChar", "([BIII)I"⟩ : MethodName) jdk_43_method_23_code 6 (some .int) ({ frames := 0, cells := 0, slots := 0, locals := 0 } : Room) #[(.ref ba), (.int 46), (.int 0), (.int 4)] h0 (fun v h L => v = some (.int 1) ∧ Fr n0 L ∧ h = h0) := by
 refine own_startC opn_20 ?_
 intro p e s m below meth c T0 X0 hx hby hml hZ hown hnm hret hlk e0
 have N := Fr.nil n0; have K := Keep.refl h0 []
 refine OG.cast (oef12 m ba (46 : Int32) (0 : Int32) (4 : Int32)) ?_
 refine og_iloadN X0 hx rfl (hb hby d20_0) rfl ?_
 refine og_i2b X0 hx (hb hby d20_1) rfl ?_
 show OG p e below _ (T0.setTop (mkF m 2 #[.val (.ref ba), .val (.int 46), .val (.int 0), .val (.int 4), .unset, .unset] [(.int 46)]))
 refine og_istore (L' := #[.val (.ref ba), .val (.int 46), .val (.int 0), .val (.int 4), .val (.int 46), .unset]) X0 hx rfl (hb hby d20_2) rfl ?_
 refine og_iloadN X0 hx rfl (hb hby d20_4) rfl ?_
 refine og_istore (L' := #[.val (.ref ba), .val (.int 46), .val (.int 0), .val (.int 4), .val (.int 46), .val (.int 0)]) X0 hx rfl (hb hby d20_5) rfl ?_
 refine og_iload X0 hx rfl (hb hby d20_7) rfl ?_
 refine og_iloadN X0 hx rfl (hb hby d20_9) rfl ?_
 refine og_icmp_ge (pc1 := 31) (pc2 := 13) X0 hx (hb hby d20_10) (by decide) (by decide) rfl (fun q => absurd q (by decide)) (fun _ => ?_)
 refine og_aloadN X0 hx rfl rfl (hb hby d20_13) rfl ?_
 refine og_iload X0 hx rfl (hb hby d20_14) rfl ?_
 refine og_baload (v := (.int u0)) X0 hx hZ e0 V_ba ⟨by decide, by decide⟩ rfl (hb hby d20_16) rfl ?_
 refine og_iload X0 hx rfl (hb hby d20_17) rfl ?_
 refine og_icmp_ne (pc1 := 25) (pc2 := 22) X0 hx (hb hby d20_19) (by decide) (by decide) rfl (fun _ => ?_) (fun q => absurd q hu0)
 refine og_iinc (L' := #[.val (.ref ba), .val (.int 46), .val (.int 0), .val (.int 4), .val (.int 46), .val (.int 1)]) (w := (1 : Int32)) X0 hx rfl rfl rfl (hb hby d20_25) rfl ?_
 refine og_goto (pc' := 7) X0 hx (hb hby d20_28) (by decide) (by decide) ?_
 refine og_iload X0 hx rfl (hb hby d20_7) rfl ?_
 refine og_iloadN X0 hx rfl (hb hby d20_9) rfl ?_
 refine og_icmp_ge (pc1 := 31) (pc2 := 13) X0 hx (hb hby d20_10) (by decide) (by decide) rfl (fun q => absurd q (by decide)) (fun _ => ?_)
 refine og_aloadN X0 hx rfl rfl (hb hby d20_13) rfl ?_
 refine og_iload X0 hx rfl (hb hby d20_14) rfl ?_
 refine og_baload (v := (.int 46)) X0 hx hZ e0 V_ba ⟨by decide, by decide⟩ rfl (hb hby d20_16) rfl ?_
 refine og_iload X0 hx rfl (hb hby d20_17) rfl ?_
 refine og_icmp_ne (pc1 := 25) (pc2 := 22) X0 hx (hb hby d20_19) (by decide) (by decide) rfl (fun q => absurd q (by decide)) (fun _ => ?_)
 refine og_iload X0 hx rfl (hb hby d20_22) rfl ?_
 refine og_retI X0 hx hlk hret (hb hby d20_24) (by decide) (by decide) ?_
 rw [e0]; exact ⟨rfl, N, rfl⟩
theorem rm_li_4_1_0 (l : Launch) (Z : State) (a0 : Array Value) (hw : HW a0 Z) (ba : Addr) (kb : ClassId) (u0 u2 u3 : Int32) (hu0 : ¬ u0 = 46) (hu2 : ¬ u2 = 46) (hu3 : ¬ u3 = 46) (h0 : Heap) (n0 : Nat) (O : Old Z n0 h0) (V_ba : Arv Z h0 ba kb .byte (4 : Int32) [(.int u0), (.int 46), (.int u2), (.int u3)] (.int 0)) :
  Con l Z (⟨"java/lang/StringLatin1", "indexOf", "([BIII)I"⟩ : MethodName) jdk_43_method_22_code 4 (some .int) ({ frames := 1, cells := 0, slots := 0, locals := 17 } : Room) #[(.ref ba), (.int 46), (.int 0), (.int 4)] h0 (fun v h L => v = some (.int 1) ∧ Fr n0 L ∧ h = h0) := by
 refine own_startC opn_16 ?_
 intro p e s m below meth c T0 X0 hx hby hml hZ hown hnm hret hlk e0
 have N := Fr.nil n0; have K := Keep.refl h0 []
 refine OG.cast (oef13 m ba (46 : Int32) (0 : Int32) (4 : Int32)) ?_
 refine og_iloadN X0 hx rfl (hb hby d16_0) rfl ?_
 refine og_static (pc' := 4) (cells' := 0) (slots' := 0) (W := 0) X0 hx hZ (rm_ce l Z a0 hw h0 n0 O) hown (ow79 hw) (ow80 hw) (ow77 hw) (ow81 hw) (by decide) (by rw [hml]; rfl) e0 opd_10 [(.int 46)] [] rfl rfl rfl rfl (by decide) (by decide) rfl rfl (by decide) (by decide) (hb hby d16_1) rfl (fun v11 T11 h11 L11 X11 e11 z11 => ?_)
 obtain ⟨rfl, Nq11, hq11⟩ := z11; replace e11 := e11.trans hq11; have N := Fr.app N Nq11
 refine og_if_ne (pc1 := 9) (pc2 := 7) X11 hx (hb hby d16_4) (by decide) (by decide) rfl (fun _ => ?_) (fun q => absurd q (by decide))
 refine og_iloadN X11 hx rfl (hb hby d16_9) rfl ?_
 refine og_iconst (v := (0 : Int32)) X11 hx rfl (hb hby d16_10) rfl ?_
 refine og_static (pc' := 14) (cells' := 0) (slots' := 0) (W := 0) X11 hx hZ (rm_max_0_0 l Z a0 hw h0 n0 O) hown (ow82 hw) (ow83 hw) (ow84 hw) (ow85 hw) (by decide) (by rw [hml]; rfl) e11 opd_11 [(.int 0), (.int 0)] [] rfl rfl rfl rfl (by decide) (by decide) rfl rfl (by decide) (by decide) (hb hby d16_11) rfl (fun v12 T12 h12 L12 X12 e12 z12 => ?_)
 obtain ⟨rfl, Nq12, hq12⟩ := z12; replace e12 := e12.trans hq12; have N := Fr.app N Nq12
 refine og_istoreN (L' := #[.val (.ref ba), .val (.int 46), .val (.int 0), .val (.int 4)]) X12 hx rfl (hb hby d16_14) rfl ?_
 refine og_iloadN X12 hx rfl (hb hby d16_15) rfl ?_
 refine og_aloadN X12 hx rfl rfl (hb hby d16_16) rfl ?_
 refine og_arraylength X12 hx hZ e12 V_ba (hb hby d16_17) rfl ?_
 refine og_static (pc' := 21) (cells' := 0) (slots' := 0) (W := 0) X12 hx hZ (rm_min_4_4 l Z a0 hw h0 n0 O) hown (ow86 hw) (ow87 hw) (ow84 hw) (ow88 hw) (by decide) (by rw [hml]; rfl) e12 opd_11 [(.int 4), (.int 4)] [] rfl rfl rfl rfl (by decide) (by decide) rfl rfl (by decide) (by decide) (hb hby d16_18) rfl (fun v13 T13 h13 L13 X13 e13 z13 => ?_)
 obtain ⟨rfl, Nq13, hq13⟩ := z13; replace e13 := e13.trans hq13; have N := Fr.app N Nq13
 refine og_istoreN (L' := #[.val (.ref ba), .val (.int 46), .val (.int 0), .val (.int 4)]) X13 hx rfl (hb hby d16_21) rfl ?_
 refine og_iloadN X13 hx rfl (hb hby d16_22) rfl ?_
 refine og_iloadN X13 hx rfl (hb hby d16_23) rfl ?_
 refine og_icmp_lt (pc1 := 29) (pc2 := 27) X13 hx (hb hby d16_24) (by decide) (by decide) rfl (fun _ => ?_) (fun q => absurd q (by decide))
 refine og_aloadN X13 hx rfl rfl (hb hby d16_29) rfl ?_
 refine og_iloadN X13 hx rfl (hb hby d16_30) rfl ?_
 refine og_iloadN X13 hx rfl (hb hby d16_31) rfl ?_
 refine og_iloadN X13 hx rfl (hb hby d16_32) rfl ?_
 refine og_static (pc' := 36) (cells' := 0) (slots' := 0) (W := 0) X13 hx hZ (rm_ic_4_1_0 l Z a0 hw ba kb u0 u2 u3 hu0 hu2 hu3 h0 n0 O V_ba) hown (ow89 hw) (ow90 hw) (ow77 hw) (ow91 hw) (by decide) (by rw [hml]; rfl) e13 opd_12 [(.ref ba), (.int 46), (.int 0), (.int 4)] [] rfl rfl rfl rfl (by decide) (by decide) rfl rfl (by decide) (by decide) (hb hby d16_33) rfl (fun v14 T14 h14 L14 X14 e14 z14 => ?_)
 obtain ⟨rfl, Nq14, hq14⟩ := z14; replace e14 := e14.trans hq14; have N := Fr.app N Nq14
 refine og_retI X14 hx hlk hret (hb hby d16_36) (by decide) (by decide) ?_
 rw [e14]; exact ⟨rfl, N, rfl⟩
theorem rm_i2_4_1_0 (l : Launch) (Z : State) (a0 : Array Value) (hw : HW a0 Z) (a1 ba : Addr) (kb : ClassId) (u0 u2 u3 : Int32) (hu0 : ¬ u0 = 46) (hu2 : ¬ u2 = 46) (hu3 : ¬ u3 = 46) (cs : Int32) (hcs : ¬ cs = 0) (h0 : Heap) (n0 : Nat) (O : Old Z n0 h0) (E_a1 : Exa Z h0 a1 "java/lang/String") (F_value_a1 : Fld Z h0 a1 "java/lang/String" "value" "[B" (.ref ba)) (F_coder_a1 : Fld Z h0 a1 "java/lang/String" "coder" "B" (.int 0)) (V_ba : Arv Z h0 ba kb .byte (4 : Int32) [(.int u0), (.int 46), (.int u2), (.int u3)] (.int 0)) (S_CS : Sta Z Z.heap "java/lang/String" "COMPACT_STRINGS" "Z" (.int cs)) :
  Con l Z (⟨"java/lang/String", "indexOf", "(II)I"⟩ : MethodName) jdk_42_method_80_code 3 (some .int) ({ frames := 2, cells := 0, slots := 0, locals := 32 } : Room) #[(.ref a1), (.int 46), (.int 0)] h0 (fun v h L => v = some (.int 1) ∧ Fr n0 L ∧ h = h0) := by
 refine own_startC opn_12 ?_
 intro p e s m below meth c T0 X0 hx hby hml hZ hown hnm hret hlk e0
 have N := Fr.nil n0; have K := Keep.refl h0 []
 refine OG.cast (oef14 m a1 (46 : Int32) (0 : Int32)) ?_
 refine og_aloadN X0 hx rfl rfl (hb hby d12_0) rfl ?_
 refine og_virtual (pc' := 4) (cells' := 0) (slots' := 0) (W := 0) X0 hx hZ (rm_il l Z a0 hw a1 cs hcs h0 n0 O F_coder_a1 S_CS) hown (ow60 hw) (ow61 hw) (own_nf hZ (ow63 hw)) (ow63 hw) (ow62 hw) (ow11 hw) (ow64 hw) (by decide) (by rw [hml]; rfl) e0 opd_9 [] [] rfl rfl rfl rfl (by decide) (by decide) rfl rfl (by decide) (by decide) E_a1 (hb hby d12_1) rfl (fun v11 T11 h11 L11 X11 e11 z11 => ?_)
 obtain ⟨rfl, Nq11, hq11⟩ := z11; replace e11 := e11.trans hq11; have N := Fr.app N Nq11
 refine og_if_eq (pc1 := 23) (pc2 := 7) X11 hx (hb hby d12_4) (by decide) (by decide) rfl (fun q => absurd q (by decide)) (fun _ => ?_)
 refine og_aloadN X11 hx rfl rfl (hb hby d12_7) rfl ?_
 refine og_getfield X11 hx hZ (host := "") hown (Or.inl (ow28 hw)) Via.refl e11 F_value_a1 (hb hby d12_8) rfl (fun T12 X12 e12 => ?_)
 refine og_iloadN X12 hx rfl (hb hby d12_11) rfl ?_
 refine og_iloadN X12 hx rfl (hb hby d12_12) rfl ?_
 refine og_aloadN X12 hx rfl rfl (hb hby d12_13) rfl ?_
 refine og_virtual (pc' := 17) (cells' := 0) (slots' := 0) (W := 3) X12 hx hZ (rm_len l Z a0 hw a1 ba kb (4 : Int32) _ cs hcs h0 n0 O E_a1 F_value_a1 F_coder_a1 V_ba S_CS) hown (ow65 hw) (ow66 hw) (own_nf hZ (ow68 hw)) (ow68 hw) (ow67 hw) (ow11 hw) (ow69 hw) (by decide) (by rw [hml]; rfl) e12 opd_13 [] [(.int 0), (.int 46), (.ref ba)] rfl rfl rfl rfl (by decide) (by decide) rfl rfl (by decide) (by decide) E_a1 (hb hby d12_14) rfl (fun v13 T13 h13 L13 X13 e13 z13 => ?_)
 obtain ⟨rfl, Nq13, hq13⟩ := z13; replace e13 := e13.trans hq13; have N := Fr.app N Nq13
 refine og_static (pc' := 20) (cells' := 0) (slots' := 0) (W := 0) X13 hx hZ (rm_li_4_1_0 l Z a0 hw ba kb u0 u2 u3 hu0 hu2 hu3 h0 n0 O V_ba) hown (ow75 hw) (ow76 hw) (ow77 hw) (ow78 hw) (by decide) (by rw [hml]; rfl) e13 opd_12 [(.ref ba), (.int 46), (.int 0), (.int 4)] [] rfl rfl rfl rfl (by decide) (by decide) rfl rfl (by decide) (by decide) (hb hby d12_17) rfl (fun v14 T14 h14 L14 X14 e14 z14 => ?_)
 obtain ⟨rfl, Nq14, hq14⟩ := z14; replace e14 := e14.trans hq14; have N := Fr.app N Nq14
 refine og_goto (pc' := 36) X14 hx (hb hby d12_20) (by decide) (by decide) ?_
 refine og_retI X14 hx hlk hret (hb hby d12_36) (by decide) (by decide) ?_
 rw [e14]; exact ⟨rfl, N, rfl⟩
theorem rm_ix_4_1_0 (l : Launch) (Z : State) (a0 : Array Value) (hw : HW a0 Z) (a1 ba : Addr) (kb : ClassId) (u0 u2 u3 : Int32) (hu0 : ¬ u0 = 46) (hu2 : ¬ u2 = 46) (hu3 : ¬ u3 = 46) (cs : Int32) (hcs : ¬ cs = 0) (h0 : Heap) (n0 : Nat) (O : Old Z n0 h0) (E_a1 : Exa Z h0 a1 "java/lang/String") (F_value_a1 : Fld Z h0 a1 "java/lang/String" "value" "[B" (.ref ba)) (F_coder_a1 : Fld Z h0 a1 "java/lang/String" "coder" "B" (.int 0)) (V_ba : Arv Z h0 ba kb .byte (4 : Int32) [(.int u0), (.int 46), (.int u2), (.int u3)] (.int 0)) (S_CS : Sta Z Z.heap "java/lang/String" "COMPACT_STRINGS" "Z" (.int cs)) :
  Con l Z (⟨"java/lang/String", "indexOf", "(I)I"⟩ : MethodName) jdk_42_method_79_code 2 (some .int) ({ frames := 3, cells := 0, slots := 0, locals := 46 } : Room) #[(.ref a1), (.int 46)] h0 (fun v h L => v = some (.int 1) ∧ Fr n0 L ∧ h = h0) := by
 refine own_startC opn_11 ?_
 intro p e s m below meth c T0 X0 hx hby hml hZ hown hnm hret hlk e0
 have N := Fr.nil n0; have K := Keep.refl h0 []
 refine OG.cast (oef4 m a1 (46 : Int32)) ?_
 refine og_aloadN X0 hx rfl rfl (hb hby d11_0) rfl ?_
 refine og_iloadN X0 hx rfl (hb hby d11_1) rfl ?_
 refine og_iconst (v := (0 : Int32)) X0 hx rfl (hb hby d11_2) rfl ?_
 refine og_virtual (pc' := 6) (cells' := 0) (slots' := 0) (W := 0) X0 hx hZ (rm_i2_4_1_0 l Z a0 hw a1 ba kb u0 u2 u3 hu0 hu2 hu3 cs hcs h0 n0 O E_a1 F_value_a1 F_coder_a1 V_ba S_CS) hown (ow55 hw) (ow56 hw) (own_nf hZ (ow58 hw)) (ow58 hw) (ow57 hw) (ow11 hw) (ow59 hw) (by decide) (by rw [hml]; rfl) e0 opd_11 [(.int 46), (.int 0)] [] rfl rfl rfl rfl (by decide) (by decide) rfl rfl (by decide) (by decide) E_a1 (hb hby d11_3) rfl (fun v11 T11 h11 L11 X11 e11 z11 => ?_)
 obtain ⟨rfl, Nq11, hq11⟩ := z11; replace e11 := e11.trans hq11; have N := Fr.app N Nq11
 refine og_retI X11 hx hlk hret (hb hby d11_6) (by decide) (by decide) ?_
 rw [e11]; exact ⟨rfl, N, rfl⟩
theorem rm_ic_4_1_2 (l : Launch) (Z : State) (a0 : Array Value) (hw : HW a0 Z) (ba : Addr) (kb : ClassId) (u0 u2 u3 : Int32) (hu0 : ¬ u0 = 46) (hu2 : ¬ u2 = 46) (hu3 : ¬ u3 = 46) (h0 : Heap) (n0 : Nat) (O : Old Z n0 h0) (V_ba : Arv Z h0 ba kb .byte (4 : Int32) [(.int u0), (.int 46), (.int u2), (.int u3)] (.int 0)) :
  Con l Z (⟨"java/lang/StringLatin1", "indexOfChar", "([BIII)I"⟩ : MethodName) jdk_43_method_23_code 6 (some .int) ({ frames := 0, cells := 0, slots := 0, locals := 0 } : Room) #[(.ref ba), (.int 46), (.int 2), (.int 4)] h0 (fun v h L => v = some (.int (-1)) ∧ Fr n0 L ∧ h = h0) := by
 refine own_startC opn_20 ?_
 intro p e s m below meth c T0 X0 hx hby hml hZ hown hnm hret hlk e0
 have N := Fr.nil n0; have K := Keep.refl h0 []
 refine OG.cast (oef12 m ba (46 : Int32) (2 : Int32) (4 : Int32)) ?_
 refine og_iloadN X0 hx rfl (hb hby d20_0) rfl ?_
 refine og_i2b X0 hx (hb hby d20_1) rfl ?_
 show OG p e below _ (T0.setTop (mkF m 2 #[.val (.ref ba), .val (.int 46), .val (.int 2), .val (.int 4), .unset, .unset] [(.int 46)]))
 refine og_istore (L' := #[.val (.ref ba), .val (.int 46), .val (.int 2), .val (.int 4), .val (.int 46), .unset]) X0 hx rfl (hb hby d20_2) rfl ?_
 refine og_iloadN X0 hx rfl (hb hby d20_4) rfl ?_
 refine og_istore (L' := #[.val (.ref ba), .val (.int 46), .val (.int 2), .val (.int 4), .val (.int 46), .val (.int 2)]) X0 hx rfl (hb hby d20_5) rfl ?_
 refine og_iload X0 hx rfl (hb hby d20_7) rfl ?_
 refine og_iloadN X0 hx rfl (hb hby d20_9) rfl ?_
 refine og_icmp_ge (pc1 := 31) (pc2 := 13) X0 hx (hb hby d20_10) (by decide) (by decide) rfl (fun q => absurd q (by decide)) (fun _ => ?_)
 refine og_aloadN X0 hx rfl rfl (hb hby d20_13) rfl ?_
 refine og_iload X0 hx rfl (hb hby d20_14) rfl ?_
 refine og_baload (v := (.int u2)) X0 hx hZ e0 V_ba ⟨by decide, by decide⟩ rfl (hb hby d20_16) rfl ?_
 refine og_iload X0 hx rfl (hb hby d20_17) rfl ?_
 refine og_icmp_ne (pc1 := 25) (pc2 := 22) X0 hx (hb hby d20_19) (by decide) (by decide) rfl (fun _ => ?_) (fun q => absurd q hu2)
 refine og_iinc (L' := #[.val (.ref ba), .val (.int 46), .val (.int 2), .val (.int 4), .val (.int 46), .val (.int 3)]) (w := (1 : Int32)) X0 hx rfl rfl rfl (hb hby d20_25) rfl ?_
 refine og_goto (pc' := 7) X0 hx (hb hby d20_28) (by decide) (by decide) ?_
 refine og_iload X0 hx rfl (hb hby d20_7) rfl ?_
 refine og_iloadN X0 hx rfl (hb hby d20_9) rfl ?_
 refine og_icmp_ge (pc1 := 31) (pc2 := 13) X0 hx (hb hby d20_10) (by decide) (by decide) rfl (fun q => absurd q (by decide)) (fun _ => ?_)
 refine og_aloadN X0 hx rfl rfl (hb hby d20_13) rfl ?_
 refine og_iload X0 hx rfl (hb hby d20_14) rfl ?_
 refine og_baload (v := (.int u3)) X0 hx hZ e0 V_ba ⟨by decide, by decide⟩ rfl (hb hby d20_16) rfl ?_
 refine og_iload X0 hx rfl (hb hby d20_17) rfl ?_
 refine og_icmp_ne (pc1 := 25) (pc2 := 22) X0 hx (hb hby d20_19) (by decide) (by decide) rfl (fun _ => ?_) (fun q => absurd q hu3)
 refine og_iinc (L' := #[.val (.ref ba), .val (.int 46), .val (.int 2), .val (.int 4), .val (.int 46), .val (.int 4)]) (w := (1 : Int32)) X0 hx rfl rfl rfl (hb hby d20_25) rfl ?_
 refine og_goto (pc' := 7) X0 hx (hb hby d20_28) (by decide) (by decide) ?_
 refine og_iload X0 hx rfl (hb hby d20_7) rfl ?_
 refine og_iloadN X0 hx rfl (hb hby d20_9) rfl ?_
 refine og_icmp_ge (pc1 := 31) (pc2 := 13) X0 hx (hb hby d20_10) (by decide) (by decide) rfl (fun _ => ?_) (fun q => absurd q (by decide))
 refine og_iconst (v := (-1 : Int32)) X0 hx rfl (hb hby d20_31) rfl ?_
 refine og_retI X0 hx hlk hret (hb hby d20_32) (by decide) (by decide) ?_
 rw [e0]; exact ⟨rfl, N, rfl⟩
theorem rm_li_4_1_2 (l : Launch) (Z : State) (a0 : Array Value) (hw : HW a0 Z) (ba : Addr) (kb : ClassId) (u0 u2 u3 : Int32) (hu0 : ¬ u0 = 46) (hu2 : ¬ u2 = 46) (hu3 : ¬ u3 = 46) (h0 : Heap) (n0 : Nat) (O : Old Z n0 h0) (V_ba : Arv Z h0 ba kb .byte (4 : Int32) [(.int u0), (.int 46), (.int u2), (.int u3)] (.int 0)) :
  Con l Z (⟨"java/lang/StringLatin1", "indexOf", "([BIII)I"⟩ : MethodName) jdk_43_method_22_code 4 (some .int) ({ frames := 1, cells := 0, slots := 0, locals := 17 } : Room) #[(.ref ba), (.int 46), (.int 2), (.int 4)] h0 (fun v h L => v = some (.int (-1)) ∧ Fr n0 L ∧ h = h0) := by
 refine own_startC opn_16 ?_
 intro p e s m below meth c T0 X0 hx hby hml hZ hown hnm hret hlk e0
 have N := Fr.nil n0; have K := Keep.refl h0 []
 refine OG.cast (oef13 m ba (46 : Int32) (2 : Int32) (4 : Int32)) ?_
 refine og_iloadN X0 hx rfl (hb hby d16_0) rfl ?_
 refine og_static (pc' := 4) (cells' := 0) (slots' := 0) (W := 0) X0 hx hZ (rm_ce l Z a0 hw h0 n0 O) hown (ow79 hw) (ow80 hw) (ow77 hw) (ow81 hw) (by decide) (by rw [hml]; rfl) e0 opd_10 [(.int 46)] [] rfl rfl rfl rfl (by decide) (by decide) rfl rfl (by decide) (by decide) (hb hby d16_1) rfl (fun v11 T11 h11 L11 X11 e11 z11 => ?_)
 obtain ⟨rfl, Nq11, hq11⟩ := z11; replace e11 := e11.trans hq11; have N := Fr.app N Nq11
 refine og_if_ne (pc1 := 9) (pc2 := 7) X11 hx (hb hby d16_4) (by decide) (by decide) rfl (fun _ => ?_) (fun q => absurd q (by decide))
 refine og_iloadN X11 hx rfl (hb hby d16_9) rfl ?_
 refine og_iconst (v := (0 : Int32)) X11 hx rfl (hb hby d16_10) rfl ?_
 refine og_static (pc' := 14) (cells' := 0) (slots' := 0) (W := 0) X11 hx hZ (rm_max_2_0 l Z a0 hw h0 n0 O) hown (ow82 hw) (ow83 hw) (ow84 hw) (ow85 hw) (by decide) (by rw [hml]; rfl) e11 opd_11 [(.int 2), (.int 0)] [] rfl rfl rfl rfl (by decide) (by decide) rfl rfl (by decide) (by decide) (hb hby d16_11) rfl (fun v12 T12 h12 L12 X12 e12 z12 => ?_)
 obtain ⟨rfl, Nq12, hq12⟩ := z12; replace e12 := e12.trans hq12; have N := Fr.app N Nq12
 refine og_istoreN (L' := #[.val (.ref ba), .val (.int 46), .val (.int 2), .val (.int 4)]) X12 hx rfl (hb hby d16_14) rfl ?_
 refine og_iloadN X12 hx rfl (hb hby d16_15) rfl ?_
 refine og_aloadN X12 hx rfl rfl (hb hby d16_16) rfl ?_
 refine og_arraylength X12 hx hZ e12 V_ba (hb hby d16_17) rfl ?_
 refine og_static (pc' := 21) (cells' := 0) (slots' := 0) (W := 0) X12 hx hZ (rm_min_4_4 l Z a0 hw h0 n0 O) hown (ow86 hw) (ow87 hw) (ow84 hw) (ow88 hw) (by decide) (by rw [hml]; rfl) e12 opd_11 [(.int 4), (.int 4)] [] rfl rfl rfl rfl (by decide) (by decide) rfl rfl (by decide) (by decide) (hb hby d16_18) rfl (fun v13 T13 h13 L13 X13 e13 z13 => ?_)
 obtain ⟨rfl, Nq13, hq13⟩ := z13; replace e13 := e13.trans hq13; have N := Fr.app N Nq13
 refine og_istoreN (L' := #[.val (.ref ba), .val (.int 46), .val (.int 2), .val (.int 4)]) X13 hx rfl (hb hby d16_21) rfl ?_
 refine og_iloadN X13 hx rfl (hb hby d16_22) rfl ?_
 refine og_iloadN X13 hx rfl (hb hby d16_23) rfl ?_
 refine og_icmp_lt (pc1 := 29) (pc2 := 27) X13 hx (hb hby d16_24) (by decide) (by decide) rfl (fun _ => ?_) (fun q => absurd q (by decide))
 refine og_aloadN X13 hx rfl rfl (hb hby d16_29) rfl ?_
 refine og_iloadN X13 hx rfl (hb hby d16_30) rfl ?_
 refine og_iloadN X13 hx rfl (hb hby d16_31) rfl ?_
 refine og_iloadN X13 hx rfl (hb hby d16_32) rfl ?_
 refine og_static (pc' := 36) (cells' := 0) (slots' := 0) (W := 0) X13 hx hZ (rm_ic_4_1_2 l Z a0 hw ba kb u0 u2 u3 hu0 hu2 hu3 h0 n0 O V_ba) hown (ow89 hw) (ow90 hw) (ow77 hw) (ow91 hw) (by decide) (by rw [hml]; rfl) e13 opd_12 [(.ref ba), (.int 46), (.int 2), (.int 4)] [] rfl rfl rfl rfl (by decide) (by decide) rfl rfl (by decide) (by decide) (hb hby d16_33) rfl (fun v14 T14 h14 L14 X14 e14 z14 => ?_)
 obtain ⟨rfl, Nq14, hq14⟩ := z14; replace e14 := e14.trans hq14; have N := Fr.app N Nq14
 refine og_retI X14 hx hlk hret (hb hby d16_36) (by decide) (by decide) ?_
 rw [e14]; exact ⟨rfl, N, rfl⟩
theorem rm_i2_4_1_2 (l : Launch) (Z : State) (a0 : Array Value) (hw : HW a0 Z) (a1 ba : Addr) (kb : ClassId) (u0 u2 u3 : Int32) (hu0 : ¬ u0 = 46) (hu2 : ¬ u2 = 46) (hu3 : ¬ u3 = 46) (cs : Int32) (hcs : ¬ cs = 0) (h0 : Heap) (n0 : Nat) (O : Old Z n0 h0) (E_a1 : Exa Z h0 a1 "java/lang/String") (F_value_a1 : Fld Z h0 a1 "java/lang/String" "value" "[B" (.ref ba)) (F_coder_a1 : Fld Z h0 a1 "java/lang/String" "coder" "B" (.int 0)) (V_ba : Arv Z h0 ba kb .byte (4 : Int32) [(.int u0), (.int 46), (.int u2), (.int u3)] (.int 0)) (S_CS : Sta Z Z.heap "java/lang/String" "COMPACT_STRINGS" "Z" (.int cs)) :
  Con l Z (⟨"java/lang/String", "indexOf", "(II)I"⟩ : MethodName) jdk_42_method_80_code 3 (some .int) ({ frames := 2, cells := 0, slots := 0, locals := 32 } : Room) #[(.ref a1), (.int 46), (.int 2)] h0 (fun v h L => v = some (.int (-1)) ∧ Fr n0 L ∧ h = h0) := by
 refine own_startC opn_12 ?_
 intro p e s m below meth c T0 X0 hx hby hml hZ hown hnm hret hlk e0
 have N := Fr.nil n0; have K := Keep.refl h0 []
 refine OG.cast (oef14 m a1 (46 : Int32) (2 : Int32)) ?_
 refine og_aloadN X0 hx rfl rfl (hb hby d12_0) rfl ?_
 refine og_virtual (pc' := 4) (cells' := 0) (slots' := 0) (W := 0) X0 hx hZ (rm_il l Z a0 hw a1 cs hcs h0 n0 O F_coder_a1 S_CS) hown (ow60 hw) (ow61 hw) (own_nf hZ (ow63 hw)) (ow63 hw) (ow62 hw) (ow11 hw) (ow64 hw) (by decide) (by rw [hml]; rfl) e0 opd_9 [] [] rfl rfl rfl rfl (by decide) (by decide) rfl rfl (by decide) (by decide) E_a1 (hb hby d12_1) rfl (fun v11 T11 h11 L11 X11 e11 z11 => ?_)
 obtain ⟨rfl, Nq11, hq11⟩ := z11; replace e11 := e11.trans hq11; have N := Fr.app N Nq11
 refine og_if_eq (pc1 := 23) (pc2 := 7) X11 hx (hb hby d12_4) (by decide) (by decide) rfl (fun q => absurd q (by decide)) (fun _ => ?_)
 refine og_aloadN X11 hx rfl rfl (hb hby d12_7) rfl ?_
 refine og_getfield X11 hx hZ (host := "") hown (Or.inl (ow28 hw)) Via.refl e11 F_value_a1 (hb hby d12_8) rfl (fun T12 X12 e12 => ?_)
 refine og_iloadN X12 hx rfl (hb hby d12_11) rfl ?_
 refine og_iloadN X12 hx rfl (hb hby d12_12) rfl ?_
 refine og_aloadN X12 hx rfl rfl (hb hby d12_13) rfl ?_
 refine og_virtual (pc' := 17) (cells' := 0) (slots' := 0) (W := 3) X12 hx hZ (rm_len l Z a0 hw a1 ba kb (4 : Int32) _ cs hcs h0 n0 O E_a1 F_value_a1 F_coder_a1 V_ba S_CS) hown (ow65 hw) (ow66 hw) (own_nf hZ (ow68 hw)) (ow68 hw) (ow67 hw) (ow11 hw) (ow69 hw) (by decide) (by rw [hml]; rfl) e12 opd_13 [] [(.int 2), (.int 46), (.ref ba)] rfl rfl rfl rfl (by decide) (by decide) rfl rfl (by decide) (by decide) E_a1 (hb hby d12_14) rfl (fun v13 T13 h13 L13 X13 e13 z13 => ?_)
 obtain ⟨rfl, Nq13, hq13⟩ := z13; replace e13 := e13.trans hq13; have N := Fr.app N Nq13
 refine og_static (pc' := 20) (cells' := 0) (slots' := 0) (W := 0) X13 hx hZ (rm_li_4_1_2 l Z a0 hw ba kb u0 u2 u3 hu0 hu2 hu3 h0 n0 O V_ba) hown (ow75 hw) (ow76 hw) (ow77 hw) (ow78 hw) (by decide) (by rw [hml]; rfl) e13 opd_12 [(.ref ba), (.int 46), (.int 2), (.int 4)] [] rfl rfl rfl rfl (by decide) (by decide) rfl rfl (by decide) (by decide) (hb hby d12_17) rfl (fun v14 T14 h14 L14 X14 e14 z14 => ?_)
 obtain ⟨rfl, Nq14, hq14⟩ := z14; replace e14 := e14.trans hq14; have N := Fr.app N Nq14
 refine og_goto (pc' := 36) X14 hx (hb hby d12_20) (by decide) (by decide) ?_
 refine og_retI X14 hx hlk hret (hb hby d12_36) (by decide) (by decide) ?_
 rw [e14]; exact ⟨rfl, N, rfl⟩
theorem rm_min_4_1 (l : Launch) (Z : State) (a0 : Array Value) (hw : HW a0 Z)  (h0 : Heap) (n0 : Nat) (O : Old Z n0 h0) :
  Con l Z (⟨"java/lang/Math", "min", "(II)I"⟩ : MethodName) jdk_29_method_69_code 2 (some .int) ({ frames := 0, cells := 0, slots := 0, locals := 0 } : Room) #[(.int 4), (.int 1)] h0 (fun v h L => v = some (.int 1) ∧ Fr n0 L ∧ h = h0) := by
 refine own_startC opn_19 ?_
 intro p e s m below meth c T0 X0 hx hby hml hZ hown hnm hret hlk e0
 have N := Fr.nil n0; have K := Keep.refl h0 []
 refine OG.cast (oef11 m (4 : Int32) (1 : Int32)) ?_
 refine og_iloadN X0 hx rfl (hb hby d19_0) rfl ?_
 refine og_iloadN X0 hx rfl (hb hby d19_1) rfl ?_
 refine og_icmp_gt (pc1 := 9) (pc2 := 5) X0 hx (hb hby d19_2) (by decide) (by decide) rfl (fun _ => ?_) (fun q => absurd q (by decide))
 refine og_iloadN X0 hx rfl (hb hby d19_9) rfl ?_
 refine og_retI X0 hx hlk hret (hb hby d19_10) (by decide) (by decide) ?_
 rw [e0]; exact ⟨rfl, N, rfl⟩
theorem rm_crb_4_1_0_1 (l : Launch) (Z : State) (a0 : Array Value) (hw : HW a0 Z) (ba : Addr) (kb : ClassId) (u0 u2 u3 : Int32) (h0 : Heap) (n0 : Nat) (O : Old Z n0 h0) (V_ba : Arv Z h0 ba kb .byte (4 : Int32) [(.int u0), (.int 46), (.int u2), (.int u3)] (.int 0)) :
  Con l Z (⟨"java/util/Arrays", "copyOfRangeByte", "([BII)[B"⟩ : MethodName) jdk_65_method_133_code 5 (some (.array .byte)) ({ frames := 1, cells := 1, slots := 1, locals := 18 } : Room) #[(.ref ba), (.int 0), (.int 1)] h0 (fun v h L => ∃ b k, v = some (.ref b) ∧ Fr n0 L ∧ Keep h0 h [] ∧ h0.size ≤ b ∧ Arv Z h b k .byte (1 : Int32) [(.int u0)] (.int 0)) := by
 refine own_startC opn_32 ?_
 intro p e s m below meth c T0 X0 hx hby hml hZ hown hnm hret hlk e0
 have N := Fr.nil n0; have K := Keep.refl h0 []
 refine OG.cast (oef16 m ba (0 : Int32) (1 : Int32)) ?_
 refine og_iloadN X0 hx rfl (hb hby d32_0) rfl ?_
 refine og_iloadN X0 hx rfl (hb hby d32_1) rfl ?_
 refine og_static (pc' := 5) (cells' := 0) (slots' := 0) (W := 0) X0 hx hZ (rm_cl_0_1 l Z a0 hw h0 n0 O) hown (ow157 hw) (ow158 hw) (ow152 hw) (ow159 hw) (by decide) (by rw [hml]; rfl) e0 opd_16 [(.int 0), (.int 1)] [] rfl rfl rfl rfl (by decide) (by decide) rfl rfl (by decide) (by decide) (hb hby d32_2) rfl (fun v11 T11 h11 L11 X11 e11 z11 => ?_)
 obtain ⟨rfl, Nq11, hq11⟩ := z11; replace e11 := e11.trans hq11; have N := Fr.app N Nq11
 refine og_iloadN X11 hx rfl (hb hby d32_5) rfl ?_
 refine og_iloadN X11 hx rfl (hb hby d32_6) rfl ?_
 refine og_isub X11 hx (hb hby d32_7) rfl ?_
 show OG p e below _ (T11.setTop (mkF m 8 #[.val (.ref ba), .val (.int 0), .val (.int 1), .unset, .unset] [(.int 1)]))
 refine og_istoreN (L' := #[.val (.ref ba), .val (.int 0), .val (.int 1), .val (.int 1), .unset]) X11 hx rfl (hb hby d32_8) rfl ?_
 refine og_iloadN X11 hx rfl (hb hby d32_9) rfl ?_
 refine og_newarray (pc' := 12) (cells' := 1) (slots' := 1) (cap := 1) (ty := .byte) X11 hx hZ rfl (ow23 hw) e11 (by decide) (by decide) (by decide) (hb hby d32_10) rfl rfl rfl (by decide) (by decide) (fun T12 h12 nb12 kA12 X12 e12 E12 q12 V_nb12 => ?_)
 have s_nb12 : h0.size ≤ nb12 := Nat.le_of_eq q12.symm; have g_nb12 : n0 ≤ nb12 := Nat.le_trans (own_n0 O) s_nb12; have sz_nb12 : h0.size ≤ nb12 := Nat.le_trans K.1 s_nb12; have ne_ba_nb12 : ba ≠ nb12 := Nat.ne_of_lt (Nat.lt_of_lt_of_le V_ba.lt s_nb12)
 have V_ba := V_ba.ext E12; have O := O.ext E12; have K := K.ext E12
 have V_nb12 : Arv Z h12 nb12 kA12 .byte (1 : Int32) [(.int 0)] (.int 0) := V_nb12.pad (pad_rep [] (.int 0) 1)
 refine og_astore (L' := #[.val (.ref ba), .val (.int 0), .val (.int 1), .val (.int 1), .val (.ref nb12)]) X12 hx rfl rfl (hb hby d32_12) rfl ?_
 refine og_aloadN X12 hx rfl rfl (hb hby d32_14) rfl ?_
 refine og_iloadN X12 hx rfl (hb hby d32_15) rfl ?_
 refine og_aload X12 hx rfl rfl (hb hby d32_16) rfl ?_
 refine og_iconst (v := (0 : Int32)) X12 hx rfl (hb hby d32_18) rfl ?_
 refine og_aloadN X12 hx rfl rfl (hb hby d32_19) rfl ?_
 refine og_arraylength X12 hx hZ e12 V_ba (hb hby d32_20) rfl ?_
 refine og_iloadN X12 hx rfl (hb hby d32_21) rfl ?_
 refine og_isub X12 hx (hb hby d32_22) rfl ?_
 show OG p e below _ (T12.setTop (mkF m 23 #[.val (.ref ba), .val (.int 0), .val (.int 1), .val (.int 1), .val (.ref nb12)] [(.int 4), (.int 0), (.ref nb12), (.int 0), (.ref ba)]))
 refine og_iloadN X12 hx rfl (hb hby d32_23) rfl ?_
 refine og_static (pc' := 27) (cells' := 1) (slots' := 1) (W := 4) X12 hx hZ (rm_min_4_1 l Z a0 hw h12 n0 O) hown (ow160 hw) (ow87 hw) (ow84 hw) (ow88 hw) (by decide) (by rw [hml]; rfl) e12 opd_11 [(.int 4), (.int 1)] [(.int 0), (.ref nb12), (.int 0), (.ref ba)] rfl rfl rfl rfl (by decide) (by decide) rfl rfl (by decide) (by decide) (hb hby d32_24) rfl (fun v13 T13 h13 L13 X13 e13 z13 => ?_)
 obtain ⟨rfl, Nq13, hq13⟩ := z13; replace e13 := e13.trans hq13; have N := Fr.app N Nq13
 refine og_arraycopy (pc' := 30) (W := 0) (us := [(.int u0)]) X13 hx hZ (by rw [hml]; rfl) hown (ow161 hw) (ow164 hw) (ow162 hw) (ow163 hw) e13 V_ba V_nb12 rfl (by decide) (by decide) (by decide) (by decide) (by decide) rfl (Nat.le_of_ble_eq_true rfl) N g_nb12 rfl (by decide) (by decide) (hb hby d32_27) rfl (fun T14 h14 l14 X14 e14 N K14 V14 => ?_)
 have V_ba := V_ba.keep K14 (ninS ne_ba_nb12 nin0); have O := O.keep K14 (allS g_nb12 all0); have K := K.trans K14 (allS (Or.inr sz_nb12) all0)
 have V_nb12 : Arv Z h14 nb12 kA12 .byte (1 : Int32) [(.int u0)] (.int 0) := V14
 refine og_aload X14 hx rfl rfl (hb hby d32_30) rfl ?_
 refine og_retR X14 hx hlk hret rfl rfl rfl (hb hby d32_32) (by decide) (by decide) ?_
 rw [e14]; exact ⟨_, _, rfl, N, K, sz_nb12, V_nb12⟩
theorem rm_cr_4_1_0_1 (l : Launch) (Z : State) (a0 : Array Value) (hw : HW a0 Z) (ba : Addr) (kb : ClassId) (u0 u2 u3 : Int32) (h0 : Heap) (n0 : Nat) (O : Old Z n0 h0) (V_ba : Arv Z h0 ba kb .byte (4 : Int32) [(.int u0), (.int 46), (.int u2), (.int u3)] (.int 0)) :
  Con l Z (⟨"java/util/Arrays", "copyOfRange", "([BII)[B"⟩ : MethodName) jdk_65_method_132_code 3 (some (.array .byte)) ({ frames := 2, cells := 1, slots := 1, locals := 34 } : Room) #[(.ref ba), (.int 0), (.int 1)] h0 (fun v h L => ∃ b k, v = some (.ref b) ∧ Fr n0 L ∧ Keep h0 h [] ∧ h0.size ≤ b ∧ Arv Z h b k .byte (1 : Int32) [(.int u0)] (.int 0)) := by
 refine own_startC opn_31 ?_
 intro p e s m below meth c T0 X0 hx hby hml hZ hown hnm hret hlk e0
 have N := Fr.nil n0; have K := Keep.refl h0 []
 refine OG.cast (oef14 m ba (0 : Int32) (1 : Int32)) ?_
 refine og_iloadN X0 hx rfl (hb hby d31_0) rfl ?_
 refine og_if_ne (pc1 := 10) (pc2 := 4) X0 hx (hb hby d31_1) (by decide) (by decide) rfl (fun q => absurd q (by decide)) (fun _ => ?_)
 refine og_iloadN X0 hx rfl (hb hby d31_4) rfl ?_
 refine og_aloadN X0 hx rfl rfl (hb hby d31_5) rfl ?_
 refine og_arraylength X0 hx hZ e0 V_ba (hb hby d31_6) rfl ?_
 refine og_icmp_eq (pc1 := 17) (pc2 := 10) X0 hx (hb hby d31_7) (by decide) (by decide) rfl (fun q => absurd q (by decide)) (fun _ => ?_)
 refine og_aloadN X0 hx rfl rfl (hb hby d31_10) rfl ?_
 refine og_iloadN X0 hx rfl (hb hby d31_11) rfl ?_
 refine og_iloadN X0 hx rfl (hb hby d31_12) rfl ?_
 refine og_static (pc' := 16) (cells' := 1) (slots' := 1) (W := 0) X0 hx hZ (rm_crb_4_1_0_1 l Z a0 hw ba kb u0 u2 u3 h0 n0 O V_ba) hown (ow154 hw) (ow155 hw) (ow152 hw) (ow156 hw) (by decide) (by rw [hml]; rfl) e0 opd_17 [(.ref ba), (.int 0), (.int 1)] [] rfl rfl rfl rfl (by decide) (by decide) rfl rfl (by decide) (by decide) (hb hby d31_13) rfl (fun v11 T11 h11 L11 X11 e11 z11 => ?_)
 obtain ⟨nb11, k11, rfl, Nq11, K11, sb11, V_nb11⟩ := z11; have N := Fr.app N Nq11
 have s_nb11 : h0.size ≤ nb11 := sb11; have g_nb11 : n0 ≤ nb11 := Nat.le_trans (own_n0 O) s_nb11; have sz_nb11 : h0.size ≤ nb11 := Nat.le_trans K.1 s_nb11; have ne_ba_nb11 : ba ≠ nb11 := Nat.ne_of_lt (Nat.lt_of_lt_of_le V_ba.lt s_nb11)
 have V_ba := V_ba.keep K11 nin0; have O := O.keep K11 all0; have K := K.trans K11 all0
 refine og_retR X11 hx hlk hret rfl rfl rfl (hb hby d31_16) (by decide) (by decide) ?_
 rw [e11]; exact ⟨_, _, rfl, N, K, sz_nb11, V_nb11⟩
theorem rm_ns_4_1_0_1 (l : Launch) (Z : State) (a0 : Array Value) (hw : HW a0 Z) (ba : Addr) (kb : ClassId) (u0 u2 u3 : Int32) (h0 : Heap) (n0 : Nat) (O : Old Z n0 h0) (V_ba : Arv Z h0 ba kb .byte (4 : Int32) [(.int u0), (.int 46), (.int u2), (.int u3)] (.int 0)) :
  Con l Z (⟨"java/lang/StringLatin1", "newString", "([BII)Ljava/lang/String;"⟩ : MethodName) jdk_43_method_47_code 3 (some (.object "java/lang/String")) ({ frames := 3, cells := 2, slots := 5, locals := 50 } : Room) #[(.ref ba), (.int 0), (.int 1)] h0 (fun v h L => ∃ a b k, v = some (.ref a) ∧ Fr n0 L ∧ Keep h0 h [] ∧ h0.size ≤ a ∧ h0.size ≤ b ∧ Exa Z h a "java/lang/String" ∧ Fld Z h a "java/lang/String" "value" "[B" (.ref b) ∧ Fld Z h a "java/lang/String" "coder" "B" (.int 0) ∧ Arv Z h b k .byte (1 : Int32) [(.int u0)] (.int 0)) := by
 refine own_startC opn_30 ?_
 intro p e s m below meth c T0 X0 hx hby hml hZ hown hnm hret hlk e0
 have N := Fr.nil n0; have K := Keep.refl h0 []
 refine OG.cast (oef14 m ba (0 : Int32) (1 : Int32)) ?_
 refine og_iloadN X0 hx rfl (hb hby d30_0) rfl ?_
 refine og_if_ne (pc1 := 7) (pc2 := 4) X0 hx (hb hby d30_1) (by decide) (by decide) rfl (fun _ => ?_) (fun q => absurd q (by decide))
 refine og_new (pc' := 10) (cells' := 1) (slots' := 4) X0 hx hZ hown (ow149 hw) (ow10 hw) (ow11 hw) e0 (hb hby d30_7) rfl rfl rfl (by decide) (by decide) (fun T11 h11 nb11 X11 e11 E11 q11 E_nb11 D11 B11 => ?_)
 have s_nb11 : h0.size ≤ nb11 := Nat.le_of_eq q11.symm; have g_nb11 : n0 ≤ nb11 := Nat.le_trans (own_n0 O) s_nb11; have sz_nb11 : h0.size ≤ nb11 := Nat.le_trans K.1 s_nb11; have ne_ba_nb11 : ba ≠ nb11 := Nat.ne_of_lt (Nat.lt_of_lt_of_le V_ba.lt s_nb11)
 have V_ba := V_ba.ext E11; have O := O.ext E11; have K := K.ext E11
 have F_value_nb11 : Fld Z h11 nb11 "java/lang/String" "value" "[B" .null := D11 (Or.inr (ow24 hw)) (ty := (.array .byte)) (by decide)
 have F_coder_nb11 : Fld Z h11 nb11 "java/lang/String" "coder" "B" (.int 0) := D11 (Or.inr (ow25 hw)) (ty := .byte) (by decide)
 refine og_dup X11 hx rfl (hb hby d30_10) rfl ?_
 refine og_aloadN X11 hx rfl rfl (hb hby d30_11) rfl ?_
 refine og_iloadN X11 hx rfl (hb hby d30_12) rfl ?_
 refine og_iloadN X11 hx rfl (hb hby d30_13) rfl ?_
 refine og_iloadN X11 hx rfl (hb hby d30_14) rfl ?_
 refine og_iadd X11 hx (hb hby d30_15) rfl ?_
 show OG p e below _ (T11.setTop (mkF m 16 #[.val (.ref ba), .val (.int 0), .val (.int 1)] [(.int 1), (.int 0), (.ref ba), (.ref nb11), (.ref nb11)]))
 refine og_static (pc' := 19) (cells' := 2) (slots' := 5) (W := 2) X11 hx hZ (rm_cr_4_1_0_1 l Z a0 hw ba kb u0 u2 u3 h11 n0 O V_ba) hown (ow150 hw) (ow151 hw) (ow152 hw) (ow153 hw) (by decide) (by rw [hml]; rfl) e11 opd_17 [(.ref ba), (.int 0), (.int 1)] [(.ref nb11), (.ref nb11)] rfl rfl rfl rfl (by decide) (by decide) rfl rfl (by decide) (by decide) (hb hby d30_16) rfl (fun v12 T12 h12 L12 X12 e12 z12 => ?_)
 obtain ⟨nb12, k12, rfl, Nq12, K12, sb12, V_nb12⟩ := z12; have N := Fr.app N Nq12
 have s_nb12 : h11.size ≤ nb12 := sb12; have g_nb12 : n0 ≤ nb12 := Nat.le_trans (own_n0 O) s_nb12; have sz_nb12 : h0.size ≤ nb12 := Nat.le_trans K.1 s_nb12; have ne_ba_nb12 : ba ≠ nb12 := Nat.ne_of_lt (Nat.lt_of_lt_of_le V_ba.lt s_nb12); have ne_nb11_nb12 : nb11 ≠ nb12 := Nat.ne_of_lt (Nat.lt_of_lt_of_le E_nb11.lt s_nb12)
 have V_ba := V_ba.keep K12 nin0; have E_nb11 := E_nb11.keep K12; have F_value_nb11 := F_value_nb11.keep K12 nin0; have F_coder_nb11 := F_coder_nb11.keep K12 nin0; have O := O.keep K12 all0; have K := K.trans K12 all0
 refine og_iconst (v := (0 : Int32)) X12 hx rfl (hb hby d30_19) rfl ?_
 refine og_special (pc' := 23) (cells' := 2) (slots' := 5) (W := 1) X12 hx hZ (rm_si l Z a0 hw nb11 nb12 h12 n0 O E_nb11 F_value_nb11 F_coder_nb11 g_nb11) rfl hown (ow165 hw) (ow166 hw) (ow11 hw) (ow167 hw) (by decide) (by rw [hml]; rfl) e12 opd_18 [(.ref nb12), (.int 0)] [(.ref nb11)] rfl rfl rfl rfl (by decide) (by decide) rfl rfl (by decide) (by decide) (hb hby d30_20) rfl (fun v13 T13 h13 L13 X13 e13 z13 => ?_)
 obtain ⟨rfl, Nq13, K13, E_nb11', F_value_nb11', F_coder_nb11'⟩ := z13; have N := Fr.app N Nq13
 have V_ba := V_ba.keep K13 (ninS ne_ba_nb11 nin0); have E_nb11 := E_nb11.keep K13; have V_nb12 := V_nb12.keep K13 (ninS (Ne.symm ne_nb11_nb12) nin0); have O := O.keep K13 (allS g_nb11 all0); have K := K.trans K13 (allS (Or.inr sz_nb11) all0)
 have E_nb11 := E_nb11'; have F_value_nb11 := F_value_nb11'; have F_coder_nb11 := F_coder_nb11'
 refine og_retR X13 hx hlk hret rfl rfl rfl (hb hby d30_23) (by decide) (by decide) ?_
 rw [e13]; exact ⟨_, _, _, rfl, N, K, sz_nb11, sz_nb12, E_nb11, F_value_nb11, F_coder_nb11, V_nb12⟩
theorem rm_ft_0_1_4 (l : Launch) (Z : State) (a0 : Array Value) (hw : HW a0 Z) (fm : Value) (hfm : fm.isRef = true) (h0 : Heap) (n0 : Nat) (O : Old Z n0 h0) :
  Con l Z (⟨"jdk/internal/util/Preconditions", "checkFromToIndex", "(IIILjava/util/function/BiFunction;)I"⟩ : MethodName) jdk_41_method_12_code 4 (some .int) ({ frames := 0, cells := 0, slots := 0, locals := 0 } : Room) #[(.int 0), (.int 1), (.int 4), fm] h0 (fun v h L => v = some (.int 0) ∧ Fr n0 L ∧ h = h0) := by
 refine own_startC opn_29 ?_
 intro p e s m below meth c T0 X0 hx hby hml hZ hown hnm hret hlk e0
 have N := Fr.nil n0; have K := Keep.refl h0 []
 refine OG.cast (oef17 m (0 : Int32) (1 : Int32) (4 : Int32) fm hfm) ?_
 refine og_iloadN X0 hx rfl (hb hby d29_0) rfl ?_
 refine og_if_lt (pc1 := 14) (pc2 := 4) X0 hx (hb hby d29_1) (by decide) (by decide) rfl (fun q => absurd q (by decide)) (fun _ => ?_)
 refine og_iloadN X0 hx rfl (hb hby d29_4) rfl ?_
 refine og_iloadN X0 hx rfl (hb hby d29_5) rfl ?_
 refine og_icmp_gt (pc1 := 14) (pc2 := 9) X0 hx (hb hby d29_6) (by decide) (by decide) rfl (fun q => absurd q (by decide)) (fun _ => ?_)
 refine og_iloadN X0 hx rfl (hb hby d29_9) rfl ?_
 refine og_iloadN X0 hx rfl (hb hby d29_10) rfl ?_
 refine og_icmp_le (pc1 := 22) (pc2 := 14) X0 hx (hb hby d29_11) (by decide) (by decide) rfl (fun _ => ?_) (fun q => absurd q (by decide))
 refine og_iloadN X0 hx rfl (hb hby d29_22) rfl ?_
 refine og_retI X0 hx hlk hret (hb hby d29_23) (by decide) (by decide) ?_
 rw [e0]; exact ⟨rfl, N, rfl⟩
theorem rm_cb_0_1_4 (l : Launch) (Z : State) (a0 : Array Value) (hw : HW a0 Z) (fm : Value) (hfm : fm.isRef = true) (h0 : Heap) (n0 : Nat) (O : Old Z n0 h0) (S_FM : Sta Z Z.heap "jdk/internal/util/Preconditions" "SIOOBE_FORMATTER" "Ljava/util/function/BiFunction;" fm) :
  Con l Z (⟨"java/lang/String", "checkBoundsBeginEnd", "(III)V"⟩ : MethodName) jdk_42_method_158_code 3 none ({ frames := 1, cells := 0, slots := 0, locals := 15 } : Room) #[(.int 0), (.int 1), (.int 4)] h0 (fun v h L => v = none ∧ Fr n0 L ∧ h = h0) := by
 refine own_startC opn_28 ?_
 intro p e s m below meth c T0 X0 hx hby hml hZ hown hnm hret hlk e0
 have N := Fr.nil n0; have K := Keep.refl h0 []
 refine OG.cast (oef18 m (0 : Int32) (1 : Int32) (4 : Int32)) ?_
 refine og_iloadN X0 hx rfl (hb hby d28_0) rfl ?_
 refine og_iloadN X0 hx rfl (hb hby d28_1) rfl ?_
 refine og_iloadN X0 hx rfl (hb hby d28_2) rfl ?_
 refine og_getstatic X0 hx hZ (host := "") hown (Or.inl (ow141 hw)) Via.refl e0 (S_FM.ext O.2) (hb hby d28_3) rfl (fun T11 X11 e11 => ?_)
 refine og_static (pc' := 9) (cells' := 0) (slots' := 0) (W := 0) X11 hx hZ (rm_ft_0_1_4 l Z a0 hw fm hfm h0 n0 O) hown (ow143 hw) (ow144 hw) (ow142 hw) (ow145 hw) (by decide) (by rw [hml]; rfl) e11 opd_19 [(.int 0), (.int 1), (.int 4), fm] [] rfl rfl rfl rfl (by decide) (by decide) rfl rfl (by decide) (by decide) (hb hby d28_6) rfl (fun v12 T12 h12 L12 X12 e12 z12 => ?_)
 obtain ⟨rfl, Nq12, hq12⟩ := z12; replace e12 := e12.trans hq12; have N := Fr.app N Nq12
 refine og_pop X12 hx rfl (hb hby d28_9) rfl ?_
 refine og_retV X12 hx hlk hret (hb hby d28_10) (by decide) (by decide) ?_
 rw [e12]; exact ⟨rfl, N, rfl⟩
theorem rm_ss_4_1_0_1 (l : Launch) (Z : State) (a0 : Array Value) (hw : HW a0 Z) (a1 ba : Addr) (kb : ClassId) (u0 u2 u3 : Int32) (cs : Int32) (hcs : ¬ cs = 0) (fm : Value) (hfm : fm.isRef = true) (h0 : Heap) (n0 : Nat) (O : Old Z n0 h0) (E_a1 : Exa Z h0 a1 "java/lang/String") (F_value_a1 : Fld Z h0 a1 "java/lang/String" "value" "[B" (.ref ba)) (F_coder_a1 : Fld Z h0 a1 "java/lang/String" "coder" "B" (.int 0)) (V_ba : Arv Z h0 ba kb .byte (4 : Int32) [(.int u0), (.int 46), (.int u2), (.int u3)] (.int 0)) (S_CS : Sta Z Z.heap "java/lang/String" "COMPACT_STRINGS" "Z" (.int cs)) (S_FM : Sta Z Z.heap "jdk/internal/util/Preconditions" "SIOOBE_FORMATTER" "Ljava/util/function/BiFunction;" fm) :
  Con l Z (⟨"java/lang/String", "substring", "(II)Ljava/lang/String;"⟩ : MethodName) jdk_42_method_92_code 5 (some (.object "java/lang/String")) ({ frames := 4, cells := 2, slots := 5, locals := 64 } : Room) #[(.ref a1), (.int 0), (.int 1)] h0 (fun v h L => ∃ a b k, v = some (.ref a) ∧ Fr n0 L ∧ Keep h0 h [] ∧ h0.size ≤ a ∧ h0.size ≤ b ∧ Exa Z h a "java/lang/String" ∧ Fld Z h a "java/lang/String" "value" "[B" (.ref b) ∧ Fld Z h a "java/lang/String" "coder" "B" (.int 0) ∧ Arv Z h b k .byte (1 : Int32) [(.int u0)] (.int 0)) := by
 refine own_startC opn_27 ?_
 intro p e s m below meth c T0 X0 hx hby hml hZ hown hnm hret hlk e0
 have N := Fr.nil n0; have K := Keep.refl h0 []
 refine OG.cast (oef16 m a1 (0 : Int32) (1 : Int32)) ?_
 refine og_aloadN X0 hx rfl rfl (hb hby d27_0) rfl ?_
 refine og_virtual (pc' := 4) (cells' := 0) (slots' := 0) (W := 0) X0 hx hZ (rm_len l Z a0 hw a1 ba kb (4 : Int32) _ cs hcs h0 n0 O E_a1 F_value_a1 F_coder_a1 V_ba S_CS) hown (ow65 hw) (ow66 hw) (own_nf hZ (ow68 hw)) (ow68 hw) (ow67 hw) (ow11 hw) (ow69 hw) (by decide) (by rw [hml]; rfl) e0 opd_13 [] [] rfl rfl rfl rfl (by decide) (by decide) rfl rfl (by decide) (by decide) E_a1 (hb hby d27_1) rfl (fun v11 T11 h11 L11 X11 e11 z11 => ?_)
 obtain ⟨rfl, Nq11, hq11⟩ := z11; replace e11 := e11.trans hq11; have N := Fr.app N Nq11
 refine og_istoreN (L' := #[.val (.ref a1), .val (.int 0), .val (.int 1), .val (.int 4), .unset]) X11 hx rfl (hb hby d27_4) rfl ?_
 refine og_iloadN X11 hx rfl (hb hby d27_5) rfl ?_
 refine og_iloadN X11 hx rfl (hb hby d27_6) rfl ?_
 refine og_iloadN X11 hx rfl (hb hby d27_7) rfl ?_
 refine og_static (pc' := 11) (cells' := 0) (slots' := 0) (W := 0) X11 hx hZ (rm_cb_0_1_4 l Z a0 hw fm hfm h0 n0 O S_FM) hown (ow138 hw) (ow139 hw) (ow11 hw) (ow140 hw) (by decide) (by rw [hml]; rfl) e11 opd_20 [(.int 0), (.int 1), (.int 4)] [] rfl rfl rfl rfl (by decide) (by decide) rfl rfl (by decide) (by decide) (hb hby d27_8) rfl (fun v12 T12 h12 L12 X12 e12 z12 => ?_)
 obtain ⟨rfl, Nq12, hq12⟩ := z12; replace e12 := e12.trans hq12; have N := Fr.app N Nq12
 refine og_iloadN X12 hx rfl (hb hby d27_11) rfl ?_
 refine og_if_ne (pc1 := 22) (pc2 := 15) X12 hx (hb hby d27_12) (by decide) (by decide) rfl (fun q => absurd q (by decide)) (fun _ => ?_)
 refine og_iloadN X12 hx rfl (hb hby d27_15) rfl ?_
 refine og_iloadN X12 hx rfl (hb hby d27_16) rfl ?_
 refine og_icmp_ne (pc1 := 22) (pc2 := 20) X12 hx (hb hby d27_17) (by decide) (by decide) rfl (fun _ => ?_) (fun q => absurd q (by decide))
 refine og_iloadN X12 hx rfl (hb hby d27_22) rfl ?_
 refine og_iloadN X12 hx rfl (hb hby d27_23) rfl ?_
 refine og_isub X12 hx (hb hby d27_24) rfl ?_
 show OG p e below _ (T12.setTop (mkF m 25 #[.val (.ref a1), .val (.int 0), .val (.int 1), .val (.int 4), .unset] [(.int 1)]))
 refine og_istore (L' := #[.val (.ref a1), .val (.int 0), .val (.int 1), .val (.int 4), .val (.int 1)]) X12 hx rfl (hb hby d27_25) rfl ?_
 refine og_aloadN X12 hx rfl rfl (hb hby d27_27) rfl ?_
 refine og_virtual (pc' := 31) (cells' := 0) (slots' := 0) (W := 0) X12 hx hZ (rm_il l Z a0 hw a1 cs hcs h0 n0 O F_coder_a1 S_CS) hown (ow60 hw) (ow61 hw) (own_nf hZ (ow63 hw)) (ow63 hw) (ow62 hw) (ow11 hw) (ow64 hw) (by decide) (by rw [hml]; rfl) e12 opd_9 [] [] rfl rfl rfl rfl (by decide) (by decide) rfl rfl (by decide) (by decide) E_a1 (hb hby d27_28) rfl (fun v13 T13 h13 L13 X13 e13 z13 => ?_)
 obtain ⟨rfl, Nq13, hq13⟩ := z13; replace e13 := e13.trans hq13; have N := Fr.app N Nq13
 refine og_if_eq (pc1 := 47) (pc2 := 34) X13 hx (hb hby d27_31) (by decide) (by decide) rfl (fun q => absurd q (by decide)) (fun _ => ?_)
 refine og_aloadN X13 hx rfl rfl (hb hby d27_34) rfl ?_
 refine og_getfield X13 hx hZ (host := "") hown (Or.inl (ow28 hw)) Via.refl e13 F_value_a1 (hb hby d27_35) rfl (fun T14 X14 e14 => ?_)
 refine og_iloadN X14 hx rfl (hb hby d27_38) rfl ?_
 refine og_iload X14 hx rfl (hb hby d27_39) rfl ?_
 refine og_static (pc' := 44) (cells' := 2) (slots' := 5) (W := 0) X14 hx hZ (rm_ns_4_1_0_1 l Z a0 hw ba kb u0 u2 u3 h0 n0 O V_ba) hown (ow146 hw) (ow147 hw) (ow77 hw) (ow148 hw) (by decide) (by rw [hml]; rfl) e14 opd_21 [(.ref ba), (.int 0), (.int 1)] [] rfl rfl rfl rfl (by decide) (by decide) rfl rfl (by decide) (by decide) (hb hby d27_41) rfl (fun v15 T15 h15 L15 X15 e15 z15 => ?_)
 obtain ⟨na15, nb15, k15, rfl, Nq15, K15, sa15, sb15, E_na15, F_value_na15, F_coder_na15, V_nb15⟩ := z15; have N := Fr.app N Nq15
 have s_na15 : h0.size ≤ na15 := sa15; have g_na15 : n0 ≤ na15 := Nat.le_trans (own_n0 O) s_na15; have sz_na15 : h0.size ≤ na15 := Nat.le_trans K.1 s_na15; have ne_a1_na15 : a1 ≠ na15 := Nat.ne_of_lt (Nat.lt_of_lt_of_le E_a1.lt s_na15); have ne_ba_na15 : ba ≠ na15 := Nat.ne_of_lt (Nat.lt_of_lt_of_le V_ba.lt s_na15)
 have s_nb15 : h0.size ≤ nb15 := sb15; have g_nb15 : n0 ≤ nb15 := Nat.le_trans (own_n0 O) s_nb15; have sz_nb15 : h0.size ≤ nb15 := Nat.le_trans K.1 s_nb15; have ne_a1_nb15 : a1 ≠ nb15 := Nat.ne_of_lt (Nat.lt_of_lt_of_le E_a1.lt s_nb15); have ne_ba_nb15 : ba ≠ nb15 := Nat.ne_of_lt (Nat.lt_of_lt_of_le V_ba.lt s_nb15)
 have E_a1 := E_a1.keep K15; have F_value_a1 := F_value_a1.keep K15 nin0; have F_coder_a1 := F_coder_a1.keep K15 nin0; have V_ba := V_ba.keep K15 nin0; have O := O.keep K15 all0; have K := K.trans K15 all0
 refine og_goto (pc' := 57) X15 hx (hb hby d27_44) (by decide) (by decide) ?_
 refine og_retR X15 hx hlk hret rfl rfl rfl (hb hby d27_57) (by decide) (by decide) ?_
 rw [e15]; exact ⟨_, _, _, rfl, N, K, sz_na15, sz_nb15, E_na15, F_value_na15, F_coder_na15, V_nb15⟩
theorem rm_cl_2_4 (l : Launch) (Z : State) (a0 : Array Value) (hw : HW a0 Z)  (h0 : Heap) (n0 : Nat) (O : Old Z n0 h0) :
  Con l Z (⟨"java/util/Arrays", "checkLength", "(II)V"⟩ : MethodName) jdk_65_method_131_code 2 none ({ frames := 0, cells := 0, slots := 0, locals := 0 } : Room) #[(.int 2), (.int 4)] h0 (fun v h L => v = none ∧ Fr n0 L ∧ h = h0) := by
 refine own_startC opn_33 ?_
 intro p e s m below meth c T0 X0 hx hby hml hZ hown hnm hret hlk e0
 have N := Fr.nil n0; have K := Keep.refl h0 []
 refine OG.cast (oef11 m (2 : Int32) (4 : Int32)) ?_
 refine og_iloadN X0 hx rfl (hb hby d33_0) rfl ?_
 refine og_iloadN X0 hx rfl (hb hby d33_1) rfl ?_
 refine og_icmp_ge (pc1 := 37) (pc2 := 5) X0 hx (hb hby d33_2) (by decide) (by decide) rfl (fun _ => ?_) (fun q => absurd q (by decide))
 refine og_retV X0 hx hlk hret (hb hby d33_37) (by decide) (by decide) ?_
 rw [e0]; exact ⟨rfl, N, rfl⟩
theorem rm_crb_4_1_2_4 (l : Launch) (Z : State) (a0 : Array Value) (hw : HW a0 Z) (ba : Addr) (kb : ClassId) (u0 u2 u3 : Int32) (h0 : Heap) (n0 : Nat) (O : Old Z n0 h0) (V_ba : Arv Z h0 ba kb .byte (4 : Int32) [(.int u0), (.int 46), (.int u2), (.int u3)] (.int 0)) :
  Con l Z (⟨"java/util/Arrays", "copyOfRangeByte", "([BII)[B"⟩ : MethodName) jdk_65_method_133_code 5 (some (.array .byte)) ({ frames := 1, cells := 1, slots := 2, locals := 18 } : Room) #[(.ref ba), (.int 2), (.int 4)] h0 (fun v h L => ∃ b k, v = some (.ref b) ∧ Fr n0 L ∧ Keep h0 h [] ∧ h0.size ≤ b ∧ Arv Z h b k .byte (2 : Int32) [(.int u2), (.int u3)] (.int 0)) := by
 refine own_startC opn_32 ?_
 intro p e s m below meth c T0 X0 hx hby hml hZ hown hnm hret hlk e0
 have N := Fr.nil n0; have K := Keep.refl h0 []
 refine OG.cast (oef16 m ba (2 : Int32) (4 : Int32)) ?_
 refine og_iloadN X0 hx rfl (hb hby d32_0) rfl ?_
 refine og_iloadN X0 hx rfl (hb hby d32_1) rfl ?_
 refine og_static (pc' := 5) (cells' := 0) (slots' := 0) (W := 0) X0 hx hZ (rm_cl_2_4 l Z a0 hw h0 n0 O) hown (ow157 hw) (ow158 hw) (ow152 hw) (ow159 hw) (by decide) (by rw [hml]; rfl) e0 opd_16 [(.int 2), (.int 4)] [] rfl rfl rfl rfl (by decide) (by decide) rfl rfl (by decide) (by decide) (hb hby d32_2) rfl (fun v11 T11 h11 L11 X11 e11 z11 => ?_)
 obtain ⟨rfl, Nq11, hq11⟩ := z11; replace e11 := e11.trans hq11; have N := Fr.app N Nq11
 refine og_iloadN X11 hx rfl (hb hby d32_5) rfl ?_
 refine og_iloadN X11 hx rfl (hb hby d32_6) rfl ?_
 refine og_isub X11 hx (hb hby d32_7) rfl ?_
 show OG p e below _ (T11.setTop (mkF m 8 #[.val (.ref ba), .val (.int 2), .val (.int 4), .unset, .unset] [(.int 2)]))
 refine og_istoreN (L' := #[.val (.ref ba), .val (.int 2), .val (.int 4), .val (.int 2), .unset]) X11 hx rfl (hb hby d32_8) rfl ?_
 refine og_iloadN X11 hx rfl (hb hby d32_9) rfl ?_
 refine og_newarray (pc' := 12) (cells' := 1) (slots' := 2) (cap := 2) (ty := .byte) X11 hx hZ rfl (ow23 hw) e11 (by decide) (by decide) (by decide) (hb hby d32_10) rfl rfl rfl (by decide) (by decide) (fun T12 h12 nb12 kA12 X12 e12 E12 q12 V_nb12 => ?_)
 have s_nb12 : h0.size ≤ nb12 := Nat.le_of_eq q12.symm; have g_nb12 : n0 ≤ nb12 := Nat.le_trans (own_n0 O) s_nb12; have sz_nb12 : h0.size ≤ nb12 := Nat.le_trans K.1 s_nb12; have ne_ba_nb12 : ba ≠ nb12 := Nat.ne_of_lt (Nat.lt_of_lt_of_le V_ba.lt s_nb12)
 have V_ba := V_ba.ext E12; have O := O.ext E12; have K := K.ext E12
 have V_nb12 : Arv Z h12 nb12 kA12 .byte (2 : Int32) [(.int 0), (.int 0)] (.int 0) := V_nb12.pad (pad_rep [] (.int 0) 2)
 refine og_astore (L' := #[.val (.ref ba), .val (.int 2), .val (.int 4), .val (.int 2), .val (.ref nb12)]) X12 hx rfl rfl (hb hby d32_12) rfl ?_
 refine og_aloadN X12 hx rfl rfl (hb hby d32_14) rfl ?_
 refine og_iloadN X12 hx rfl (hb hby d32_15) rfl ?_
 refine og_aload X12 hx rfl rfl (hb hby d32_16) rfl ?_
 refine og_iconst (v := (0 : Int32)) X12 hx rfl (hb hby d32_18) rfl ?_
 refine og_aloadN X12 hx rfl rfl (hb hby d32_19) rfl ?_
 refine og_arraylength X12 hx hZ e12 V_ba (hb hby d32_20) rfl ?_
 refine og_iloadN X12 hx rfl (hb hby d32_21) rfl ?_
 refine og_isub X12 hx (hb hby d32_22) rfl ?_
 show OG p e below _ (T12.setTop (mkF m 23 #[.val (.ref ba), .val (.int 2), .val (.int 4), .val (.int 2), .val (.ref nb12)] [(.int 2), (.int 0), (.ref nb12), (.int 2), (.ref ba)]))
 refine og_iloadN X12 hx rfl (hb hby d32_23) rfl ?_
 refine og_static (pc' := 27) (cells' := 1) (slots' := 2) (W := 4) X12 hx hZ (rm_min_2_2 l Z a0 hw h12 n0 O) hown (ow160 hw) (ow87 hw) (ow84 hw) (ow88 hw) (by decide) (by rw [hml]; rfl) e12 opd_11 [(.int 2), (.int 2)] [(.int 0), (.ref nb12), (.int 2), (.ref ba)] rfl rfl rfl rfl (by decide) (by decide) rfl rfl (by decide) (by decide) (hb hby d32_24) rfl (fun v13 T13 h13 L13 X13 e13 z13 => ?_)
 obtain ⟨rfl, Nq13, hq13⟩ := z13; replace e13 := e13.trans hq13; have N := Fr.app N Nq13
 refine og_arraycopy (pc' := 30) (W := 0) (us := [(.int u2), (.int u3)]) X13 hx hZ (by rw [hml]; rfl) hown (ow161 hw) (ow164 hw) (ow162 hw) (ow163 hw) e13 V_ba V_nb12 rfl (by decide) (by decide) (by decide) (by decide) (by decide) rfl (Nat.le_of_ble_eq_true rfl) N g_nb12 rfl (by decide) (by decide) (hb hby d32_27) rfl (fun T14 h14 l14 X14 e14 N K14 V14 => ?_)
 have V_ba := V_ba.keep K14 (ninS ne_ba_nb12 nin0); have O := O.keep K14 (allS g_nb12 all0); have K := K.trans K14 (allS (Or.inr sz_nb12) all0)
 have V_nb12 : Arv Z h14 nb12 kA12 .byte (2 : Int32) [(.int u2), (.int u3)] (.int 0) := V14
 refine og_aload X14 hx rfl rfl (hb hby d32_30) rfl ?_
 refine og_retR X14 hx hlk hret rfl rfl rfl (hb hby d32_32) (by decide) (by decide) ?_
 rw [e14]; exact ⟨_, _, rfl, N, K, sz_nb12, V_nb12⟩
theorem rm_cr_4_1_2_4 (l : Launch) (Z : State) (a0 : Array Value) (hw : HW a0 Z) (ba : Addr) (kb : ClassId) (u0 u2 u3 : Int32) (h0 : Heap) (n0 : Nat) (O : Old Z n0 h0) (V_ba : Arv Z h0 ba kb .byte (4 : Int32) [(.int u0), (.int 46), (.int u2), (.int u3)] (.int 0)) :
  Con l Z (⟨"java/util/Arrays", "copyOfRange", "([BII)[B"⟩ : MethodName) jdk_65_method_132_code 3 (some (.array .byte)) ({ frames := 2, cells := 1, slots := 2, locals := 34 } : Room) #[(.ref ba), (.int 2), (.int 4)] h0 (fun v h L => ∃ b k, v = some (.ref b) ∧ Fr n0 L ∧ Keep h0 h [] ∧ h0.size ≤ b ∧ Arv Z h b k .byte (2 : Int32) [(.int u2), (.int u3)] (.int 0)) := by
 refine own_startC opn_31 ?_
 intro p e s m below meth c T0 X0 hx hby hml hZ hown hnm hret hlk e0
 have N := Fr.nil n0; have K := Keep.refl h0 []
 refine OG.cast (oef14 m ba (2 : Int32) (4 : Int32)) ?_
 refine og_iloadN X0 hx rfl (hb hby d31_0) rfl ?_
 refine og_if_ne (pc1 := 10) (pc2 := 4) X0 hx (hb hby d31_1) (by decide) (by decide) rfl (fun _ => ?_) (fun q => absurd q (by decide))
 refine og_aloadN X0 hx rfl rfl (hb hby d31_10) rfl ?_
 refine og_iloadN X0 hx rfl (hb hby d31_11) rfl ?_
 refine og_iloadN X0 hx rfl (hb hby d31_12) rfl ?_
 refine og_static (pc' := 16) (cells' := 1) (slots' := 2) (W := 0) X0 hx hZ (rm_crb_4_1_2_4 l Z a0 hw ba kb u0 u2 u3 h0 n0 O V_ba) hown (ow154 hw) (ow155 hw) (ow152 hw) (ow156 hw) (by decide) (by rw [hml]; rfl) e0 opd_17 [(.ref ba), (.int 2), (.int 4)] [] rfl rfl rfl rfl (by decide) (by decide) rfl rfl (by decide) (by decide) (hb hby d31_13) rfl (fun v11 T11 h11 L11 X11 e11 z11 => ?_)
 obtain ⟨nb11, k11, rfl, Nq11, K11, sb11, V_nb11⟩ := z11; have N := Fr.app N Nq11
 have s_nb11 : h0.size ≤ nb11 := sb11; have g_nb11 : n0 ≤ nb11 := Nat.le_trans (own_n0 O) s_nb11; have sz_nb11 : h0.size ≤ nb11 := Nat.le_trans K.1 s_nb11; have ne_ba_nb11 : ba ≠ nb11 := Nat.ne_of_lt (Nat.lt_of_lt_of_le V_ba.lt s_nb11)
 have V_ba := V_ba.keep K11 nin0; have O := O.keep K11 all0; have K := K.trans K11 all0
 refine og_retR X11 hx hlk hret rfl rfl rfl (hb hby d31_16) (by decide) (by decide) ?_
 rw [e11]; exact ⟨_, _, rfl, N, K, sz_nb11, V_nb11⟩
theorem rm_ns_4_1_2_4 (l : Launch) (Z : State) (a0 : Array Value) (hw : HW a0 Z) (ba : Addr) (kb : ClassId) (u0 u2 u3 : Int32) (h0 : Heap) (n0 : Nat) (O : Old Z n0 h0) (V_ba : Arv Z h0 ba kb .byte (4 : Int32) [(.int u0), (.int 46), (.int u2), (.int u3)] (.int 0)) :
  Con l Z (⟨"java/lang/StringLatin1", "newString", "([BII)Ljava/lang/String;"⟩ : MethodName) jdk_43_method_47_code 3 (some (.object "java/lang/String")) ({ frames := 3, cells := 2, slots := 6, locals := 50 } : Room) #[(.ref ba), (.int 2), (.int 2)] h0 (fun v h L => ∃ a b k, v = some (.ref a) ∧ Fr n0 L ∧ Keep h0 h [] ∧ h0.size ≤ a ∧ h0.size ≤ b ∧ Exa Z h a "java/lang/String" ∧ Fld Z h a "java/lang/String" "value" "[B" (.ref b) ∧ Fld Z h a "java/lang/String" "coder" "B" (.int 0) ∧ Arv Z h b k .byte (2 : Int32) [(.int u2), (.int u3)] (.int 0)) := by
 refine own_startC opn_30 ?_
 intro p e s m below meth c T0 X0 hx hby hml hZ hown hnm hret hlk e0
 have N := Fr.nil n0; have K := Keep.refl h0 []
 refine OG.cast (oef14 m ba (2 : Int32) (2 : Int32)) ?_
 refine og_iloadN X0 hx rfl (hb hby d30_0) rfl ?_
 refine og_if_ne (pc1 := 7) (pc2 := 4) X0 hx (hb hby d30_1) (by decide) (by decide) rfl (fun _ => ?_) (fun q => absurd q (by decide))
 refine og_new (pc' := 10) (cells' := 1) (slots' := 4) X0 hx hZ hown (ow149 hw) (ow10 hw) (ow11 hw) e0 (hb hby d30_7) rfl rfl rfl (by decide) (by decide) (fun T11 h11 nb11 X11 e11 E11 q11 E_nb11 D11 B11 => ?_)
 have s_nb11 : h0.size ≤ nb11 := Nat.le_of_eq q11.symm; have g_nb11 : n0 ≤ nb11 := Nat.le_trans (own_n0 O) s_nb11; have sz_nb11 : h0.size ≤ nb11 := Nat.le_trans K.1 s_nb11; have ne_ba_nb11 : ba ≠ nb11 := Nat.ne_of_lt (Nat.lt_of_lt_of_le V_ba.lt s_nb11)
 have V_ba := V_ba.ext E11; have O := O.ext E11; have K := K.ext E11
 have F_value_nb11 : Fld Z h11 nb11 "java/lang/String" "value" "[B" .null := D11 (Or.inr (ow24 hw)) (ty := (.array .byte)) (by decide)
 have F_coder_nb11 : Fld Z h11 nb11 "java/lang/String" "coder" "B" (.int 0) := D11 (Or.inr (ow25 hw)) (ty := .byte) (by decide)
 refine og_dup X11 hx rfl (hb hby d30_10) rfl ?_
 refine og_aloadN X11 hx rfl rfl (hb hby d30_11) rfl ?_
 refine og_iloadN X11 hx rfl (hb hby d30_12) rfl ?_
 refine og_iloadN X11 hx rfl (hb hby d30_13) rfl ?_
 refine og_iloadN X11 hx rfl (hb hby d30_14) rfl ?_
 refine og_iadd X11 hx (hb hby d30_15) rfl ?_
 show OG p e below _ (T11.setTop (mkF m 16 #[.val (.ref ba), .val (.int 2), .val (.int 2)] [(.int 4), (.int 2), (.ref ba), (.ref nb11), (.ref nb11)]))
 refine og_static (pc' := 19) (cells' := 2) (slots' := 6) (W := 2) X11 hx hZ (rm_cr_4_1_2_4 l Z a0 hw ba kb u0 u2 u3 h11 n0 O V_ba) hown (ow150 hw) (ow151 hw) (ow152 hw) (ow153 hw) (by decide) (by rw [hml]; rfl) e11 opd_17 [(.ref ba), (.int 2), (.int 4)] [(.ref nb11), (.ref nb11)] rfl rfl rfl rfl (by decide) (by decide) rfl rfl (by decide) (by decide) (hb hby d30_16) rfl (fun v12 T12 h12 L12 X12 e12 z12 => ?_)
 obtain ⟨nb12, k12, rfl, Nq12, K12, sb12, V_nb12⟩ := z12; have N := Fr.app N Nq12
 have s_nb12 : h11.size ≤ nb12 := sb12; have g_nb12 : n0 ≤ nb12 := Nat.le_trans (own_n0 O) s_nb12; have sz_nb12 : h0.size ≤ nb12 := Nat.le_trans K.1 s_nb12; have ne_ba_nb12 : ba ≠ nb12 := Nat.ne_of_lt (Nat.lt_of_lt_of_le V_ba.lt s_nb12); have ne_nb11_nb12 : nb11 ≠ nb12 := Nat.ne_of_lt (Nat.lt_of_lt_of_le E_nb11.lt s_nb12)
 have V_ba := V_ba.keep K12 nin0; have E_nb11 := E_nb11.keep K12; have F_value_nb11 := F_value_nb11.keep K12 nin0; have F_coder_nb11 := F_coder_nb11.keep K12 nin0; have O := O.keep K12 all0; have K := K.trans K12 all0
 refine og_iconst (v := (0 : Int32)) X12 hx rfl (hb hby d30_19) rfl ?_
 refine og_special (pc' := 23) (cells' := 2) (slots' := 6) (W := 1) X12 hx hZ (rm_si l Z a0 hw nb11 nb12 h12 n0 O E_nb11 F_value_nb11 F_coder_nb11 g_nb11) rfl hown (ow165 hw) (ow166 hw) (ow11 hw) (ow167 hw) (by decide) (by rw [hml]; rfl) e12 opd_18 [(.ref nb12), (.int 0)] [(.ref nb11)] rfl rfl rfl rfl (by decide) (by decide) rfl rfl (by decide) (by decide) (hb hby d30_20) rfl (fun v13 T13 h13 L13 X13 e13 z13 => ?_)
 obtain ⟨rfl, Nq13, K13, E_nb11', F_value_nb11', F_coder_nb11'⟩ := z13; have N := Fr.app N Nq13
 have V_ba := V_ba.keep K13 (ninS ne_ba_nb11 nin0); have E_nb11 := E_nb11.keep K13; have V_nb12 := V_nb12.keep K13 (ninS (Ne.symm ne_nb11_nb12) nin0); have O := O.keep K13 (allS g_nb11 all0); have K := K.trans K13 (allS (Or.inr sz_nb11) all0)
 have E_nb11 := E_nb11'; have F_value_nb11 := F_value_nb11'; have F_coder_nb11 := F_coder_nb11'
 refine og_retR X13 hx hlk hret rfl rfl rfl (hb hby d30_23) (by decide) (by decide) ?_
 rw [e13]; exact ⟨_, _, _, rfl, N, K, sz_nb11, sz_nb12, E_nb11, F_value_nb11, F_coder_nb11, V_nb12⟩
theorem rm_ft_2_4_4 (l : Launch) (Z : State) (a0 : Array Value) (hw : HW a0 Z) (fm : Value) (hfm : fm.isRef = true) (h0 : Heap) (n0 : Nat) (O : Old Z n0 h0) :
  Con l Z (⟨"jdk/internal/util/Preconditions", "checkFromToIndex", "(IIILjava/util/function/BiFunction;)I"⟩ : MethodName) jdk_41_method_12_code 4 (some .int) ({ frames := 0, cells := 0, slots := 0, locals := 0 } : Room) #[(.int 2), (.int 4), (.int 4), fm] h0 (fun v h L => v = some (.int 2) ∧ Fr n0 L ∧ h = h0) := by
 refine own_startC opn_29 ?_
 intro p e s m below meth c T0 X0 hx hby hml hZ hown hnm hret hlk e0
 have N := Fr.nil n0; have K := Keep.refl h0 []
 refine OG.cast (oef17 m (2 : Int32) (4 : Int32) (4 : Int32) fm hfm) ?_
 refine og_iloadN X0 hx rfl (hb hby d29_0) rfl ?_
 refine og_if_lt (pc1 := 14) (pc2 := 4) X0 hx (hb hby d29_1) (by decide) (by decide) rfl (fun q => absurd q (by decide)) (fun _ => ?_)
 refine og_iloadN X0 hx rfl (hb hby d29_4) rfl ?_
 refine og_iloadN X0 hx rfl (hb hby d29_5) rfl ?_
 refine og_icmp_gt (pc1 := 14) (pc2 := 9) X0 hx (hb hby d29_6) (by decide) (by decide) rfl (fun q => absurd q (by decide)) (fun _ => ?_)
 refine og_iloadN X0 hx rfl (hb hby d29_9) rfl ?_
 refine og_iloadN X0 hx rfl (hb hby d29_10) rfl ?_
 refine og_icmp_le (pc1 := 22) (pc2 := 14) X0 hx (hb hby d29_11) (by decide) (by decide) rfl (fun _ => ?_) (fun q => absurd q (by decide))
 refine og_iloadN X0 hx rfl (hb hby d29_22) rfl ?_
 refine og_retI X0 hx hlk hret (hb hby d29_23) (by decide) (by decide) ?_
 rw [e0]; exact ⟨rfl, N, rfl⟩
theorem rm_cb_2_4_4 (l : Launch) (Z : State) (a0 : Array Value) (hw : HW a0 Z) (fm : Value) (hfm : fm.isRef = true) (h0 : Heap) (n0 : Nat) (O : Old Z n0 h0) (S_FM : Sta Z Z.heap "jdk/internal/util/Preconditions" "SIOOBE_FORMATTER" "Ljava/util/function/BiFunction;" fm) :
  Con l Z (⟨"java/lang/String", "checkBoundsBeginEnd", "(III)V"⟩ : MethodName) jdk_42_method_158_code 3 none ({ frames := 1, cells := 0, slots := 0, locals := 15 } : Room) #[(.int 2), (.int 4), (.int 4)] h0 (fun v h L => v = none ∧ Fr n0 L ∧ h = h0) := by
 refine own_startC opn_28 ?_
 intro p e s m below meth c T0 X0 hx hby hml hZ hown hnm hret hlk e0
 have N := Fr.nil n0; have K := Keep.refl h0 []
 refine OG.cast (oef18 m (2 : Int32) (4 : Int32) (4 : Int32)) ?_
 refine og_iloadN X0 hx rfl (hb hby d28_0) rfl ?_
 refine og_iloadN X0 hx rfl (hb hby d28_1) rfl ?_
 refine og_iloadN X0 hx rfl (hb hby d28_2) rfl ?_
 refine og_getstatic X0 hx hZ (host := "") hown (Or.inl (ow141 hw)) Via.refl e0 (S_FM.ext O.2) (hb hby d28_3) rfl (fun T11 X11 e11 => ?_)
 refine og_static (pc' := 9) (cells' := 0) (slots' := 0) (W := 0) X11 hx hZ (rm_ft_2_4_4 l Z a0 hw fm hfm h0 n0 O) hown (ow143 hw) (ow144 hw) (ow142 hw) (ow145 hw) (by decide) (by rw [hml]; rfl) e11 opd_19 [(.int 2), (.int 4), (.int 4), fm] [] rfl rfl rfl rfl (by decide) (by decide) rfl rfl (by decide) (by decide) (hb hby d28_6) rfl (fun v12 T12 h12 L12 X12 e12 z12 => ?_)
 obtain ⟨rfl, Nq12, hq12⟩ := z12; replace e12 := e12.trans hq12; have N := Fr.app N Nq12
 refine og_pop X12 hx rfl (hb hby d28_9) rfl ?_
 refine og_retV X12 hx hlk hret (hb hby d28_10) (by decide) (by decide) ?_
 rw [e12]; exact ⟨rfl, N, rfl⟩
theorem rm_ss_4_1_2_4 (l : Launch) (Z : State) (a0 : Array Value) (hw : HW a0 Z) (a1 ba : Addr) (kb : ClassId) (u0 u2 u3 : Int32) (cs : Int32) (hcs : ¬ cs = 0) (fm : Value) (hfm : fm.isRef = true) (h0 : Heap) (n0 : Nat) (O : Old Z n0 h0) (E_a1 : Exa Z h0 a1 "java/lang/String") (F_value_a1 : Fld Z h0 a1 "java/lang/String" "value" "[B" (.ref ba)) (F_coder_a1 : Fld Z h0 a1 "java/lang/String" "coder" "B" (.int 0)) (V_ba : Arv Z h0 ba kb .byte (4 : Int32) [(.int u0), (.int 46), (.int u2), (.int u3)] (.int 0)) (S_CS : Sta Z Z.heap "java/lang/String" "COMPACT_STRINGS" "Z" (.int cs)) (S_FM : Sta Z Z.heap "jdk/internal/util/Preconditions" "SIOOBE_FORMATTER" "Ljava/util/function/BiFunction;" fm) :
  Con l Z (⟨"java/lang/String", "substring", "(II)Ljava/lang/String;"⟩ : MethodName) jdk_42_method_92_code 5 (some (.object "java/lang/String")) ({ frames := 4, cells := 2, slots := 6, locals := 64 } : Room) #[(.ref a1), (.int 2), (.int 4)] h0 (fun v h L => ∃ a b k, v = some (.ref a) ∧ Fr n0 L ∧ Keep h0 h [] ∧ h0.size ≤ a ∧ h0.size ≤ b ∧ Exa Z h a "java/lang/String" ∧ Fld Z h a "java/lang/String" "value" "[B" (.ref b) ∧ Fld Z h a "java/lang/String" "coder" "B" (.int 0) ∧ Arv Z h b k .byte (2 : Int32) [(.int u2), (.int u3)] (.int 0)) := by
 refine own_startC opn_27 ?_
 intro p e s m below meth c T0 X0 hx hby hml hZ hown hnm hret hlk e0
 have N := Fr.nil n0; have K := Keep.refl h0 []
 refine OG.cast (oef16 m a1 (2 : Int32) (4 : Int32)) ?_
 refine og_aloadN X0 hx rfl rfl (hb hby d27_0) rfl ?_
 refine og_virtual (pc' := 4) (cells' := 0) (slots' := 0) (W := 0) X0 hx hZ (rm_len l Z a0 hw a1 ba kb (4 : Int32) _ cs hcs h0 n0 O E_a1 F_value_a1 F_coder_a1 V_ba S_CS) hown (ow65 hw) (ow66 hw) (own_nf hZ (ow68 hw)) (ow68 hw) (ow67 hw) (ow11 hw) (ow69 hw) (by decide) (by rw [hml]; rfl) e0 opd_13 [] [] rfl rfl rfl rfl (by decide) (by decide) rfl rfl (by decide) (by decide) E_a1 (hb hby d27_1) rfl (fun v11 T11 h11 L11 X11 e11 z11 => ?_)
 obtain ⟨rfl, Nq11, hq11⟩ := z11; replace e11 := e11.trans hq11; have N := Fr.app N Nq11
 refine og_istoreN (L' := #[.val (.ref a1), .val (.int 2), .val (.int 4), .val (.int 4), .unset]) X11 hx rfl (hb hby d27_4) rfl ?_
 refine og_iloadN X11 hx rfl (hb hby d27_5) rfl ?_
 refine og_iloadN X11 hx rfl (hb hby d27_6) rfl ?_
 refine og_iloadN X11 hx rfl (hb hby d27_7) rfl ?_
 refine og_static (pc' := 11) (cells' := 0) (slots' := 0) (W := 0) X11 hx hZ (rm_cb_2_4_4 l Z a0 hw fm hfm h0 n0 O S_FM) hown (ow138 hw) (ow139 hw) (ow11 hw) (ow140 hw) (by decide) (by rw [hml]; rfl) e11 opd_20 [(.int 2), (.int 4), (.int 4)] [] rfl rfl rfl rfl (by decide) (by decide) rfl rfl (by decide) (by decide) (hb hby d27_8) rfl (fun v12 T12 h12 L12 X12 e12 z12 => ?_)
 obtain ⟨rfl, Nq12, hq12⟩ := z12; replace e12 := e12.trans hq12; have N := Fr.app N Nq12
 refine og_iloadN X12 hx rfl (hb hby d27_11) rfl ?_
 refine og_if_ne (pc1 := 22) (pc2 := 15) X12 hx (hb hby d27_12) (by decide) (by decide) rfl (fun _ => ?_) (fun q => absurd q (by decide))
 refine og_iloadN X12 hx rfl (hb hby d27_22) rfl ?_
 refine og_iloadN X12 hx rfl (hb hby d27_23) rfl ?_
 refine og_isub X12 hx (hb hby d27_24) rfl ?_
 show OG p e below _ (T12.setTop (mkF m 25 #[.val (.ref a1), .val (.int 2), .val (.int 4), .val (.int 4), .unset] [(.int 2)]))
 refine og_istore (L' := #[.val (.ref a1), .val (.int 2), .val (.int 4), .val (.int 4), .val (.int 2)]) X12 hx rfl (hb hby d27_25) rfl ?_
 refine og_aloadN X12 hx rfl rfl (hb hby d27_27) rfl ?_
 refine og_virtual (pc' := 31) (cells' := 0) (slots' := 0) (W := 0) X12 hx hZ (rm_il l Z a0 hw a1 cs hcs h0 n0 O F_coder_a1 S_CS) hown (ow60 hw) (ow61 hw) (own_nf hZ (ow63 hw)) (ow63 hw) (ow62 hw) (ow11 hw) (ow64 hw) (by decide) (by rw [hml]; rfl) e12 opd_9 [] [] rfl rfl rfl rfl (by decide) (by decide) rfl rfl (by decide) (by decide) E_a1 (hb hby d27_28) rfl (fun v13 T13 h13 L13 X13 e13 z13 => ?_)
 obtain ⟨rfl, Nq13, hq13⟩ := z13; replace e13 := e13.trans hq13; have N := Fr.app N Nq13
 refine og_if_eq (pc1 := 47) (pc2 := 34) X13 hx (hb hby d27_31) (by decide) (by decide) rfl (fun q => absurd q (by decide)) (fun _ => ?_)
 refine og_aloadN X13 hx rfl rfl (hb hby d27_34) rfl ?_
 refine og_getfield X13 hx hZ (host := "") hown (Or.inl (ow28 hw)) Via.refl e13 F_value_a1 (hb hby d27_35) rfl (fun T14 X14 e14 => ?_)
 refine og_iloadN X14 hx rfl (hb hby d27_38) rfl ?_
 refine og_iload X14 hx rfl (hb hby d27_39) rfl ?_
 refine og_static (pc' := 44) (cells' := 2) (slots' := 6) (W := 0) X14 hx hZ (rm_ns_4_1_2_4 l Z a0 hw ba kb u0 u2 u3 h0 n0 O V_ba) hown (ow146 hw) (ow147 hw) (ow77 hw) (ow148 hw) (by decide) (by rw [hml]; rfl) e14 opd_21 [(.ref ba), (.int 2), (.int 2)] [] rfl rfl rfl rfl (by decide) (by decide) rfl rfl (by decide) (by decide) (hb hby d27_41) rfl (fun v15 T15 h15 L15 X15 e15 z15 => ?_)
 obtain ⟨na15, nb15, k15, rfl, Nq15, K15, sa15, sb15, E_na15, F_value_na15, F_coder_na15, V_nb15⟩ := z15; have N := Fr.app N Nq15
 have s_na15 : h0.size ≤ na15 := sa15; have g_na15 : n0 ≤ na15 := Nat.le_trans (own_n0 O) s_na15; have sz_na15 : h0.size ≤ na15 := Nat.le_trans K.1 s_na15; have ne_a1_na15 : a1 ≠ na15 := Nat.ne_of_lt (Nat.lt_of_lt_of_le E_a1.lt s_na15); have ne_ba_na15 : ba ≠ na15 := Nat.ne_of_lt (Nat.lt_of_lt_of_le V_ba.lt s_na15)
 have s_nb15 : h0.size ≤ nb15 := sb15; have g_nb15 : n0 ≤ nb15 := Nat.le_trans (own_n0 O) s_nb15; have sz_nb15 : h0.size ≤ nb15 := Nat.le_trans K.1 s_nb15; have ne_a1_nb15 : a1 ≠ nb15 := Nat.ne_of_lt (Nat.lt_of_lt_of_le E_a1.lt s_nb15); have ne_ba_nb15 : ba ≠ nb15 := Nat.ne_of_lt (Nat.lt_of_lt_of_le V_ba.lt s_nb15)
 have E_a1 := E_a1.keep K15; have F_value_a1 := F_value_a1.keep K15 nin0; have F_coder_a1 := F_coder_a1.keep K15 nin0; have V_ba := V_ba.keep K15 nin0; have O := O.keep K15 all0; have K := K.trans K15 all0
 refine og_goto (pc' := 57) X15 hx (hb hby d27_44) (by decide) (by decide) ?_
 refine og_retR X15 hx hlk hret rfl rfl rfl (hb hby d27_57) (by decide) (by decide) ?_
 rw [e15]; exact ⟨_, _, _, rfl, N, K, sz_na15, sz_nb15, E_na15, F_value_na15, F_coder_na15, V_nb15⟩
theorem rm_s1_4_1_2_4 (l : Launch) (Z : State) (a0 : Array Value) (hw : HW a0 Z) (a1 ba : Addr) (kb : ClassId) (u0 u2 u3 : Int32) (cs : Int32) (hcs : ¬ cs = 0) (fm : Value) (hfm : fm.isRef = true) (h0 : Heap) (n0 : Nat) (O : Old Z n0 h0) (E_a1 : Exa Z h0 a1 "java/lang/String") (F_value_a1 : Fld Z h0 a1 "java/lang/String" "value" "[B" (.ref ba)) (F_coder_a1 : Fld Z h0 a1 "java/lang/String" "coder" "B" (.int 0)) (V_ba : Arv Z h0 ba kb .byte (4 : Int32) [(.int u0), (.int 46), (.int u2), (.int u3)] (.int 0)) (S_CS : Sta Z Z.heap "java/lang/String" "COMPACT_STRINGS" "Z" (.int cs)) (S_FM : Sta Z Z.heap "jdk/internal/util/Preconditions" "SIOOBE_FORMATTER" "Ljava/util/function/BiFunction;" fm) :
  Con l Z (⟨"java/lang/String", "substring", "(I)Ljava/lang/String;"⟩ : MethodName) jdk_42_method_91_code 2 (some (.object "java/lang/String")) ({ frames := 5, cells := 2, slots := 6, locals := 80 } : Room) #[(.ref a1), (.int 2)] h0 (fun v h L => ∃ a b k, v = some (.ref a) ∧ Fr n0 L ∧ Keep h0 h [] ∧ h0.size ≤ a ∧ h0.size ≤ b ∧ Exa Z h a "java/lang/String" ∧ Fld Z h a "java/lang/String" "value" "[B" (.ref b) ∧ Fld Z h a "java/lang/String" "coder" "B" (.int 0) ∧ Arv Z h b k .byte (2 : Int32) [(.int u2), (.int u3)] (.int 0)) := by
 refine own_startC opn_35 ?_
 intro p e s m below meth c T0 X0 hx hby hml hZ hown hnm hret hlk e0
 have N := Fr.nil n0; have K := Keep.refl h0 []
 refine OG.cast (oef4 m a1 (2 : Int32)) ?_
 refine og_aloadN X0 hx rfl rfl (hb hby d35_0) rfl ?_
 refine og_iloadN X0 hx rfl (hb hby d35_1) rfl ?_
 refine og_aloadN X0 hx rfl rfl (hb hby d35_2) rfl ?_
 refine og_virtual (pc' := 6) (cells' := 0) (slots' := 0) (W := 2) X0 hx hZ (rm_len l Z a0 hw a1 ba kb (4 : Int32) _ cs hcs h0 n0 O E_a1 F_value_a1 F_coder_a1 V_ba S_CS) hown (ow65 hw) (ow66 hw) (own_nf hZ (ow68 hw)) (ow68 hw) (ow67 hw) (ow11 hw) (ow69 hw) (by decide) (by rw [hml]; rfl) e0 opd_13 [] [(.int 2), (.ref a1)] rfl rfl rfl rfl (by decide) (by decide) rfl rfl (by decide) (by decide) E_a1 (hb hby d35_3) rfl (fun v11 T11 h11 L11 X11 e11 z11 => ?_)
 obtain ⟨rfl, Nq11, hq11⟩ := z11; replace e11 := e11.trans hq11; have N := Fr.app N Nq11
 refine og_virtual (pc' := 9) (cells' := 2) (slots' := 6) (W := 0) X11 hx hZ (rm_ss_4_1_2_4 l Z a0 hw a1 ba kb u0 u2 u3 cs hcs fm hfm h0 n0 O E_a1 F_value_a1 F_coder_a1 V_ba S_CS S_FM) hown (ow173 hw) (ow134 hw) (own_nf hZ (ow136 hw)) (ow136 hw) (ow135 hw) (ow11 hw) (ow137 hw) (by decide) (by rw [hml]; rfl) e11 opd_22 [(.int 2), (.int 4)] [] rfl rfl rfl rfl (by decide) (by decide) rfl rfl (by decide) (by decide) E_a1 (hb hby d35_6) rfl (fun v12 T12 h12 L12 X12 e12 z12 => ?_)
 obtain ⟨na12, nb12, k12, rfl, Nq12, K12, sa12, sb12, E_na12, F_value_na12, F_coder_na12, V_nb12⟩ := z12; have N := Fr.app N Nq12
 have s_na12 : h0.size ≤ na12 := sa12; have g_na12 : n0 ≤ na12 := Nat.le_trans (own_n0 O) s_na12; have sz_na12 : h0.size ≤ na12 := Nat.le_trans K.1 s_na12; have ne_a1_na12 : a1 ≠ na12 := Nat.ne_of_lt (Nat.lt_of_lt_of_le E_a1.lt s_na12); have ne_ba_na12 : ba ≠ na12 := Nat.ne_of_lt (Nat.lt_of_lt_of_le V_ba.lt s_na12)
 have s_nb12 : h0.size ≤ nb12 := sb12; have g_nb12 : n0 ≤ nb12 := Nat.le_trans (own_n0 O) s_nb12; have sz_nb12 : h0.size ≤ nb12 := Nat.le_trans K.1 s_nb12; have ne_a1_nb12 : a1 ≠ nb12 := Nat.ne_of_lt (Nat.lt_of_lt_of_le E_a1.lt s_nb12); have ne_ba_nb12 : ba ≠ nb12 := Nat.ne_of_lt (Nat.lt_of_lt_of_le V_ba.lt s_nb12)
 have E_a1 := E_a1.keep K12; have F_value_a1 := F_value_a1.keep K12 nin0; have F_coder_a1 := F_coder_a1.keep K12 nin0; have V_ba := V_ba.keep K12 nin0; have O := O.keep K12 all0; have K := K.trans K12 all0
 refine og_retR X12 hx hlk hret rfl rfl rfl (hb hby d35_9) (by decide) (by decide) ?_
 rw [e12]; exact ⟨_, _, _, rfl, N, K, sz_na12, sz_nb12, E_na12, F_value_na12, F_coder_na12, V_nb12⟩
theorem rm_pa4_1 (l : Launch) (Z : State) (a0 : Array Value) (hw : HW a0 Z) (a1 ba : Addr) (kb : ClassId) (u0 u2 u3 : Int32) (hu0 : ¬ u0 = 46) (hu2 : ¬ u2 = 46) (hu3 : ¬ u3 = 46) (cs : Int32) (hcs : ¬ cs = 0) (fm : Value) (hfm : fm.isRef = true) (h0 : Heap) (n0 : Nat) (O : Old Z n0 h0) (hEL : EW Z a0 own_EL) (E_a1 : Exa Z h0 a1 "java/lang/String") (F_value_a1 : Fld Z h0 a1 "java/lang/String" "value" "[B" (.ref ba)) (F_coder_a1 : Fld Z h0 a1 "java/lang/String" "coder" "B" (.int 0)) (V_ba : Arv Z h0 ba kb .byte (4 : Int32) [(.int u0), (.int 46), (.int u2), (.int u3)] (.int 0)) (S_CS : Sta Z Z.heap "java/lang/String" "COMPACT_STRINGS" "Z" (.int cs)) (S_FM : Sta Z Z.heap "jdk/internal/util/Preconditions" "SIOOBE_FORMATTER" "Ljava/util/function/BiFunction;" fm) :
  ConW l Z own_EL [] (⟨"com/example/tombstone/tombstone/config/TableName", "parse", "(Ljava/lang/String;)Lcom/example/tombstone/tombstone/config/TableName;"⟩ : MethodName) prog_8_method_2_code 4 (some (.object "com/example/tombstone/tombstone/config/TableName")) ({ frames := 6, cells := 11, slots := 93, locals := 96 } : Room) #[(.ref a1)] h0 (fun v h L => ∃ t x y bx by_ kx ky, v = some (.ref t) ∧ Fr n0 L ∧ Keep h0 h [] ∧ Exa Z h t "com/example/tombstone/tombstone/config/TableName" ∧ Fld Z h t "com/example/tombstone/tombstone/config/TableName" "schema" "Ljava/lang/String;" (.ref x) ∧ Fld Z h t "com/example/tombstone/tombstone/config/TableName" "name" "Ljava/lang/String;" (.ref y) ∧ Exa Z h x "java/lang/String" ∧ Fld Z h x "java/lang/String" "value" "[B" (.ref bx) ∧ Fld Z h x "java/lang/String" "coder" "B" (.int 0) ∧ Arv Z h bx kx .byte (1 : Int32) [(.int u0)] (.int 0) ∧ Exa Z h y "java/lang/String" ∧ Fld Z h y "java/lang/String" "value" "[B" (.ref by_) ∧ Fld Z h y "java/lang/String" "coder" "B" (.int 0) ∧ Arv Z h by_ ky .byte (2 : Int32) [(.int u2), (.int u3)] (.int 0)) := by
 refine own_startWC opn_9 ?_
 intro p e s m below meth c T0 X0 hx hby hml hZ hown hnm hret hlk e0 es hS CR hsf
 have N := Fr.nil n0; have K := Keep.refl h0 []; have hk := Nat.le_refl h0.size
 refine OG.cast (oef15 m a1) ?_
 refine og_aloadN X0 hx rfl rfl (hb hby d9_0) rfl ?_
 refine og_ldcO (pc' := 3) (cells' := 2) (slots' := 32) (n := 28) X0 hx hZ hown (hw _ (List.mem_of_getElem? (i := 45) rfl)) (own_wS hw) e0 hS hk hEL CR.1 (by decide) (by decide) (hb hby d9_1) rfl rfl rfl (by decide) (by decide) (fun na11 T11 h11 kk11 X11 e11 E11 hS hk hZ hown cr11 => ?_)
 have E_a1 := E_a1.ext E11; have F_value_a1 := F_value_a1.ext E11; have F_coder_a1 := F_coder_a1.ext E11; have V_ba := V_ba.ext E11; have O := O.ext E11; have K := K.ext E11
 have CR := CR.trans cr11
 refine og_static (pc' := 6) (cells' := 2) (slots' := 32) (W := 0) X11 hx hZ (rm_rnn l Z a0 hw a1 na11 h11 n0 O) hown (ow46 hw) (ow47 hw) (ow48 hw) (ow49 hw) (by decide) (by rw [hml]; rfl) e11 opd_8 [(.ref a1), (.ref na11)] [] rfl rfl rfl rfl (by decide) (by decide) rfl rfl (by decide) (by decide) (hb hby d9_3) rfl (fun v12 T12 h12 L12 X12 e12 z12 => ?_)
 obtain ⟨rfl, Nq12, hq12⟩ := z12; replace e12 := e12.trans hq12; have N := Fr.app N Nq12
 refine og_pop X12 hx rfl (hb hby d9_6) rfl ?_
 refine og_aloadN X12 hx rfl rfl (hb hby d9_7) rfl ?_
 refine og_bipush (v := (46 : Int32)) X12 hx rfl (hb hby d9_8) rfl ?_
 refine og_virtual (pc' := 13) (cells' := 2) (slots' := 32) (W := 0) X12 hx hZ (rm_ix_4_1_0 l Z a0 hw a1 ba kb u0 u2 u3 hu0 hu2 hu3 cs hcs h11 n0 O E_a1 F_value_a1 F_coder_a1 V_ba S_CS) hown (ow50 hw) (ow51 hw) (own_nf hZ (ow53 hw)) (ow53 hw) (ow52 hw) (ow11 hw) (ow54 hw) (by decide) (by rw [hml]; rfl) e12 opd_14 [(.int 46)] [] rfl rfl rfl rfl (by decide) (by decide) rfl rfl (by decide) (by decide) E_a1 (hb hby d9_10) rfl (fun v13 T13 h13 L13 X13 e13 z13 => ?_)
 obtain ⟨rfl, Nq13, hq13⟩ := z13; replace e13 := e13.trans hq13; have N := Fr.app N Nq13
 refine og_istoreN (L' := #[.val (.ref a1), .val (.int 1), .unset, .unset]) X13 hx rfl (hb hby d9_13) rfl ?_
 refine og_iloadN X13 hx rfl (hb hby d9_14) rfl ?_
 refine og_if_lt (pc1 := 30) (pc2 := 18) X13 hx (hb hby d9_15) (by decide) (by decide) rfl (fun q => absurd q (by decide)) (fun _ => ?_)
 refine og_aloadN X13 hx rfl rfl (hb hby d9_18) rfl ?_
 refine og_bipush (v := (46 : Int32)) X13 hx rfl (hb hby d9_19) rfl ?_
 refine og_iloadN X13 hx rfl (hb hby d9_21) rfl ?_
 refine og_iconst (v := (1 : Int32)) X13 hx rfl (hb hby d9_22) rfl ?_
 refine og_iadd X13 hx (hb hby d9_23) rfl ?_
 show OG p e below _ (T13.setTop (mkF m 24 #[.val (.ref a1), .val (.int 1), .unset, .unset] [(.int 2), (.int 46), (.ref a1)]))
 refine og_virtual (pc' := 27) (cells' := 2) (slots' := 32) (W := 0) X13 hx hZ (rm_i2_4_1_2 l Z a0 hw a1 ba kb u0 u2 u3 hu0 hu2 hu3 cs hcs h11 n0 O E_a1 F_value_a1 F_coder_a1 V_ba S_CS) hown (ow132 hw) (ow56 hw) (own_nf hZ (ow58 hw)) (ow58 hw) (ow57 hw) (ow11 hw) (ow59 hw) (by decide) (by rw [hml]; rfl) e13 opd_11 [(.int 46), (.int 2)] [] rfl rfl rfl rfl (by decide) (by decide) rfl rfl (by decide) (by decide) E_a1 (hb hby d9_24) rfl (fun v14 T14 h14 L14 X14 e14 z14 => ?_)
 obtain ⟨rfl, Nq14, hq14⟩ := z14; replace e14 := e14.trans hq14; have N := Fr.app N Nq14
 refine og_if_ge (pc1 := 34) (pc2 := 30) X14 hx (hb hby d9_27) (by decide) (by decide) rfl (fun q => absurd q (by decide)) (fun _ => ?_)
 refine og_iconst (v := (1 : Int32)) X14 hx rfl (hb hby d9_30) rfl ?_
 refine og_goto (pc' := 35) X14 hx (hb hby d9_31) (by decide) (by decide) ?_
 refine og_istoreN (L' := #[.val (.ref a1), .val (.int 1), .val (.int 1), .unset]) X14 hx rfl (hb hby d9_35) rfl ?_
 refine og_aloadN X14 hx rfl rfl (hb hby d9_36) rfl ?_
 refine og_virtual (pc' := 40) (cells' := 2) (slots' := 32) (W := 0) X14 hx hZ (rm_emp l Z a0 hw a1 ba kb (4 : Int32) _ (by decide) h11 n0 O E_a1 F_value_a1 F_coder_a1 V_ba) hown (ow92 hw) (ow93 hw) (own_nf hZ (ow95 hw)) (ow95 hw) (ow94 hw) (ow11 hw) (ow96 hw) (by decide) (by rw [hml]; rfl) e14 opd_9 [] [] rfl rfl rfl rfl (by decide) (by decide) rfl rfl (by decide) (by decide) E_a1 (hb hby d9_37) rfl (fun v15 T15 h15 L15 X15 e15 z15 => ?_)
 obtain ⟨rfl, Nq15, hq15⟩ := z15; replace e15 := e15.trans hq15; have N := Fr.app N Nq15
 refine og_if_ne (pc1 := 61) (pc2 := 43) X15 hx (hb hby d9_40) (by decide) (by decide) rfl (fun q => absurd q (by decide)) (fun _ => ?_)
 refine og_iloadN X15 hx rfl (hb hby d9_43) rfl ?_
 refine og_if_eq (pc1 := 61) (pc2 := 47) X15 hx (hb hby d9_44) (by decide) (by decide) rfl (fun q => absurd q (by decide)) (fun _ => ?_)
 refine og_iloadN X15 hx rfl (hb hby d9_47) rfl ?_
 refine og_aloadN X15 hx rfl rfl (hb hby d9_48) rfl ?_
 refine og_virtual (pc' := 52) (cells' := 2) (slots' := 32) (W := 1) X15 hx hZ (rm_len l Z a0 hw a1 ba kb (4 : Int32) _ cs hcs h11 n0 O E_a1 F_value_a1 F_coder_a1 V_ba S_CS) hown (ow97 hw) (ow66 hw) (own_nf hZ (ow68 hw)) (ow68 hw) (ow67 hw) (ow11 hw) (ow69 hw) (by decide) (by rw [hml]; rfl) e15 opd_13 [] [(.int 1)] rfl rfl rfl rfl (by decide) (by decide) rfl rfl (by decide) (by decide) E_a1 (hb hby d9_49) rfl (fun v16 T16 h16 L16 X16 e16 z16 => ?_)
 obtain ⟨rfl, Nq16, hq16⟩ := z16; replace e16 := e16.trans hq16; have N := Fr.app N Nq16
 refine og_iconst (v := (1 : Int32)) X16 hx rfl (hb hby d9_52) rfl ?_
 refine og_isub X16 hx (hb hby d9_53) rfl ?_
 show OG p e below _ (T16.setTop (mkF m 54 #[.val (.ref a1), .val (.int 1), .val (.int 1), .unset] [(.int 3), (.int 1)]))
 refine og_icmp_eq (pc1 := 61) (pc2 := 57) X16 hx (hb hby d9_54) (by decide) (by decide) rfl (fun q => absurd q (by decide)) (fun _ => ?_)
 refine og_iconst (v := (1 : Int32)) X16 hx rfl (hb hby d9_57) rfl ?_
 refine og_goto (pc' := 62) X16 hx (hb hby d9_58) (by decide) (by decide) ?_
 refine og_istoreN (L' := #[.val (.ref a1), .val (.int 1), .val (.int 1), .val (.int 1)]) X16 hx rfl (hb hby d9_62) rfl ?_
 refine og_iloadN X16 hx rfl (hb hby d9_63) rfl ?_
 refine og_if_eq (pc1 := 71) (pc2 := 67) X16 hx (hb hby d9_64) (by decide) (by decide) rfl (fun q => absurd q (by decide)) (fun _ => ?_)
 refine og_iloadN X16 hx rfl (hb hby d9_67) rfl ?_
 refine og_if_ne (pc1 := 85) (pc2 := 71) X16 hx (hb hby d9_68) (by decide) (by decide) rfl (fun _ => ?_) (fun q => absurd q (by decide))
 refine og_iloadN X16 hx rfl (hb hby d9_85) rfl ?_
 refine og_if_ge (pc1 := 102) (pc2 := 89) X16 hx (hb hby d9_86) (by decide) (by decide) rfl (fun _ => ?_) (fun q => absurd q (by decide))
 refine og_new (pc' := 105) (cells' := 3) (slots' := 34) X16 hx hZ hown (ow98 hw) (ow99 hw) (ow43 hw) e16 (hb hby d9_102) rfl rfl rfl (by decide) (by decide) (fun T17 h17 nb17 X17 e17 E17 q17 E_nb17 D17 B17 => ?_)
 have s_nb17 : h11.size ≤ nb17 := Nat.le_of_eq q17.symm; have g_nb17 : n0 ≤ nb17 := Nat.le_trans (own_n0 O) s_nb17; have sz_nb17 : h0.size ≤ nb17 := Nat.le_trans K.1 s_nb17; have ne_a1_nb17 : a1 ≠ nb17 := Nat.ne_of_lt (Nat.lt_of_lt_of_le E_a1.lt s_nb17); have ne_ba_nb17 : ba ≠ nb17 := Nat.ne_of_lt (Nat.lt_of_lt_of_le V_ba.lt s_nb17); have Q_nb17 : Safe Z own_EL _ _ nb17 := Safe.new (Z := Z) (EL := own_EL) (vm := T11.vm) s_nb17
 have Q_nb17 := Safe.ext E17 CR.1 Q_nb17; have E_a1 := E_a1.ext E17; have F_value_a1 := F_value_a1.ext E17; have F_coder_a1 := F_coder_a1.ext E17; have V_ba := V_ba.ext E17; have O := O.ext E17
 have K := K.ext E17; have hk := Nat.le_trans hk E17.1; have CR := CR.trans (CHr.ext E17 CR.1)
 have F_schema_nb17 : Fld Z h17 nb17 "com/example/tombstone/tombstone/config/TableName" "schema" "Ljava/lang/String;" .null := D17 (Or.inr (ow113 hw)) (ty := (.object "java/lang/String")) (by decide)
 have F_name_nb17 : Fld Z h17 nb17 "com/example/tombstone/tombstone/config/TableName" "name" "Ljava/lang/String;" .null := D17 (Or.inr (ow115 hw)) (ty := (.object "java/lang/String")) (by decide)
 refine og_dup X17 hx rfl (hb hby d9_105) rfl ?_
 refine og_aloadN X17 hx rfl rfl (hb hby d9_106) rfl ?_
 refine og_iconst (v := (0 : Int32)) X17 hx rfl (hb hby d9_107) rfl ?_
 refine og_iloadN X17 hx rfl (hb hby d9_108) rfl ?_
 refine og_virtual (pc' := 112) (cells' := 5) (slots' := 39) (W := 2) X17 hx hZ (rm_ss_4_1_0_1 l Z a0 hw a1 ba kb u0 u2 u3 cs hcs fm hfm h17 n0 O E_a1 F_value_a1 F_coder_a1 V_ba S_CS S_FM) hown (ow133 hw) (ow134 hw) (own_nf hZ (ow136 hw)) (ow136 hw) (ow135 hw) (ow11 hw) (ow137 hw) (by decide) (by rw [hml]; rfl) e17 opd_22 [(.int 0), (.int 1)] [(.ref nb17), (.ref nb17)] rfl rfl rfl rfl (by decide) (by decide) rfl rfl (by decide) (by decide) E_a1 (hb hby d9_109) rfl (fun v18 T18 h18 L18 X18 e18 z18 => ?_)
 obtain ⟨na18, nb18, k18, rfl, Nq18, K18, sa18, sb18, E_na18, F_value_na18, F_coder_na18, V_nb18⟩ := z18; have N := Fr.app N Nq18
 have s_na18 : h17.size ≤ na18 := sa18; have g_na18 : n0 ≤ na18 := Nat.le_trans (own_n0 O) s_na18; have sz_na18 : h0.size ≤ na18 := Nat.le_trans K.1 s_na18; have ne_a1_na18 : a1 ≠ na18 := Nat.ne_of_lt (Nat.lt_of_lt_of_le E_a1.lt s_na18); have ne_ba_na18 : ba ≠ na18 := Nat.ne_of_lt (Nat.lt_of_lt_of_le V_ba.lt s_na18); have ne_nb17_na18 : nb17 ≠ na18 := Nat.ne_of_lt (Nat.lt_of_lt_of_le E_nb17.lt s_na18)
 have Q_na18 : Safe Z own_EL _ _ na18 := Safe.new (Z := Z) (EL := own_EL) (vm := T11.vm) s_na18
 have s_nb18 : h17.size ≤ nb18 := sb18; have g_nb18 : n0 ≤ nb18 := Nat.le_trans (own_n0 O) s_nb18; have sz_nb18 : h0.size ≤ nb18 := Nat.le_trans K.1 s_nb18; have ne_a1_nb18 : a1 ≠ nb18 := Nat.ne_of_lt (Nat.lt_of_lt_of_le E_a1.lt s_nb18); have ne_ba_nb18 : ba ≠ nb18 := Nat.ne_of_lt (Nat.lt_of_lt_of_le V_ba.lt s_nb18); have ne_nb17_nb18 : nb17 ≠ nb18 := Nat.ne_of_lt (Nat.lt_of_lt_of_le E_nb17.lt s_nb18)
 have Q_nb18 : Safe Z own_EL _ _ nb18 := Safe.new (Z := Z) (EL := own_EL) (vm := T11.vm) s_nb18
 have Q_nb17 := Safe.keep K18 sf0 CR.1 Q_nb17; have Q_na18 := Safe.keep K18 sf0 CR.1 Q_na18; have Q_nb18 := Safe.keep K18 sf0 CR.1 Q_nb18; have E_a1 := E_a1.keep K18; have F_value_a1 := F_value_a1.keep K18 nin0; have F_coder_a1 := F_coder_a1.keep K18 nin0
 have V_ba := V_ba.keep K18 nin0; have E_nb17 := E_nb17.keep K18; have F_schema_nb17 := F_schema_nb17.keep K18 nin0; have F_name_nb17 := F_name_nb17.keep K18 nin0; have O := O.keep K18 all0; have K := K.trans K18 all0
 have hk := Nat.le_trans hk K18.1; have CR := CR.trans (CHr.keep K18 sf0 CR.1)
 refine og_aloadN X18 hx rfl rfl (hb hby d9_112) rfl ?_
 refine og_iloadN X18 hx rfl (hb hby d9_113) rfl ?_
 refine og_iconst (v := (1 : Int32)) X18 hx rfl (hb hby d9_114) rfl ?_
 refine og_iadd X18 hx (hb hby d9_115) rfl ?_
 show OG p e below _ (T18.setTop (mkF m 116 #[.val (.ref a1), .val (.int 1), .val (.int 1), .val (.int 1)] [(.int 2), (.ref a1), (.ref na18), (.ref nb17), (.ref nb17)]))
 refine og_virtual (pc' := 119) (cells' := 7) (slots' := 45) (W := 3) X18 hx hZ (rm_s1_4_1_2_4 l Z a0 hw a1 ba kb u0 u2 u3 cs hcs fm hfm h18 n0 O E_a1 F_value_a1 F_coder_a1 V_ba S_CS S_FM) hown (ow168 hw) (ow169 hw) (own_nf hZ (ow171 hw)) (ow171 hw) (ow170 hw) (ow11 hw) (ow172 hw) (by decide) (by rw [hml]; rfl) e18 opd_23 [(.int 2)] [(.ref na18), (.ref nb17), (.ref nb17)] rfl rfl rfl rfl (by decide) (by decide) rfl rfl (by decide) (by decide) E_a1 (hb hby d9_116) rfl (fun v19 T19 h19 L19 X19 e19 z19 => ?_)
 obtain ⟨na19, nb19, k19, rfl, Nq19, K19, sa19, sb19, E_na19, F_value_na19, F_coder_na19, V_nb19⟩ := z19; have N := Fr.app N Nq19
 have s_na19 : h18.size ≤ na19 := sa19; have g_na19 : n0 ≤ na19 := Nat.le_trans (own_n0 O) s_na19; have sz_na19 : h0.size ≤ na19 := Nat.le_trans K.1 s_na19; have ne_a1_na19 : a1 ≠ na19 := Nat.ne_of_lt (Nat.lt_of_lt_of_le E_a1.lt s_na19); have ne_ba_na19 : ba ≠ na19 := Nat.ne_of_lt (Nat.lt_of_lt_of_le V_ba.lt s_na19); have ne_nb17_na19 : nb17 ≠ na19 := Nat.ne_of_lt (Nat.lt_of_lt_of_le E_nb17.lt s_na19)
 have ne_na18_na19 : na18 ≠ na19 := Nat.ne_of_lt (Nat.lt_of_lt_of_le E_na18.lt s_na19); have ne_nb18_na19 : nb18 ≠ na19 := Nat.ne_of_lt (Nat.lt_of_lt_of_le V_nb18.lt s_na19); have Q_na19 : Safe Z own_EL _ _ na19 := Safe.new (Z := Z) (EL := own_EL) (vm := T11.vm) s_na19
 have s_nb19 : h18.size ≤ nb19 := sb19; have g_nb19 : n0 ≤ nb19 := Nat.le_trans (own_n0 O) s_nb19; have sz_nb19 : h0.size ≤ nb19 := Nat.le_trans K.1 s_nb19; have ne_a1_nb19 : a1 ≠ nb19 := Nat.ne_of_lt (Nat.lt_of_lt_of_le E_a1.lt s_nb19); have ne_ba_nb19 : ba ≠ nb19 := Nat.ne_of_lt (Nat.lt_of_lt_of_le V_ba.lt s_nb19); have ne_nb17_nb19 : nb17 ≠ nb19 := Nat.ne_of_lt (Nat.lt_of_lt_of_le E_nb17.lt s_nb19)
 have ne_na18_nb19 : na18 ≠ nb19 := Nat.ne_of_lt (Nat.lt_of_lt_of_le E_na18.lt s_nb19); have ne_nb18_nb19 : nb18 ≠ nb19 := Nat.ne_of_lt (Nat.lt_of_lt_of_le V_nb18.lt s_nb19); have Q_nb19 : Safe Z own_EL _ _ nb19 := Safe.new (Z := Z) (EL := own_EL) (vm := T11.vm) s_nb19
 have Q_nb17 := Safe.keep K19 sf0 CR.1 Q_nb17; have Q_na19 := Safe.keep K19 sf0 CR.1 Q_na19; have Q_nb19 := Safe.keep K19 sf0 CR.1 Q_nb19; have E_a1 := E_a1.keep K19; have F_value_a1 := F_value_a1.keep K19 nin0; have F_coder_a1 := F_coder_a1.keep K19 nin0
 have V_ba := V_ba.keep K19 nin0; have E_nb17 := E_nb17.keep K19; have F_schema_nb17 := F_schema_nb17.keep K19 nin0; have F_name_nb17 := F_name_nb17.keep K19 nin0; have E_na18 := E_na18.keep K19; have F_value_na18 := F_value_na18.keep K19 nin0
 have F_coder_na18 := F_coder_na18.keep K19 nin0; have V_nb18 := V_nb18.keep K19 nin0; have O := O.keep K19 all0; have K := K.trans K19 all0; have hk := Nat.le_trans hk K19.1; have CR := CR.trans (CHr.keep K19 sf0 CR.1)
 refine og_specialW (pc' := 122) (cells' := 11) (slots' := 93) (W := 1) X19 hx hZ (rm_tn l Z a0 hw nb17 na18 na19 nb18 nb19 k18 k19 (1 : Int32) (2 : Int32) _ _ (by decide) (by decide) h19 n0 O hEL E_nb17 F_schema_nb17 F_name_nb17 E_na18 F_value_na18 F_coder_na18 V_nb18 E_na19 F_value_na19 F_coder_na19 V_nb19 g_nb17 (Ne.symm ne_nb17_na18) (Ne.symm ne_nb17_na19) (Ne.symm ne_nb17_nb18) (Ne.symm ne_nb17_nb19)) hEL hS hk CR.1 all0 rfl hown (ow101 hw) (ow102 hw) (ow43 hw) (ow103 hw) (by decide) (by rw [hml]; rfl) e19 opd_15 [(.ref na18), (.ref na19)] [(.ref nb17)] rfl rfl rfl rfl (by decide) (by decide) rfl rfl (by decide) (by decide) (hb hby d9_119) rfl (fun v20 T20 h20 L20 kk20 X20 e20 hS hk hZ hown cr20 z20 => ?_)
 obtain ⟨rfl, Nq20, K20, F_schema_nb17', F_name_nb17'⟩ := z20; have N := Fr.app N Nq20
 have Q_nb17 := cr20.safe E_nb17.lt Q_nb17; have E_a1 := E_a1.keep K20; have F_value_a1 := F_value_a1.keep K20 (ninS ne_a1_nb17 nin0); have F_coder_a1 := F_coder_a1.keep K20 (ninS ne_a1_nb17 nin0); have V_ba := V_ba.keep K20 (ninS ne_ba_nb17 nin0); have E_nb17 := E_nb17.keep K20
 have E_na18 := E_na18.keep K20; have F_value_na18 := F_value_na18.keep K20 (ninS (Ne.symm ne_nb17_na18) nin0); have F_coder_na18 := F_coder_na18.keep K20 (ninS (Ne.symm ne_nb17_na18) nin0); have V_nb18 := V_nb18.keep K20 (ninS (Ne.symm ne_nb17_nb18) nin0); have E_na19 := E_na19.keep K20; have F_value_na19 := F_value_na19.keep K20 (ninS (Ne.symm ne_nb17_na19) nin0)
 have F_coder_na19 := F_coder_na19.keep K20 (ninS (Ne.symm ne_nb17_na19) nin0); have V_nb19 := V_nb19.keep K20 (ninS (Ne.symm ne_nb17_nb19) nin0); have O := O.keep K20 (allS g_nb17 all0); have K := K.trans K20 (allS (Or.inr sz_nb17) all0); have CR := CR.trans cr20
 have F_schema_nb17 := F_schema_nb17'; have F_name_nb17 := F_name_nb17'
 refine og_retRW X20 hx hZ hlk hEL hS e20 es hk CR hret rfl rfl rfl (hb hby d9_122) (by decide) (by decide) ?_
 rw [e20]; exact ⟨nb17, na18, na19, _, _, _, _, rfl, N, K, E_nb17, F_schema_nb17, F_name_nb17, E_na18, F_value_na18, F_coder_na18, V_nb18, E_na19, F_value_na19, F_coder_na19, V_nb19⟩
theorem rm_ic_4_2_0 (l : Launch) (Z : State) (a0 : Array Value) (hw : HW a0 Z) (ba : Addr) (kb : ClassId) (u0 u1 u3 : Int32) (hu0 : ¬ u0 = 46) (hu1 : ¬ u1 = 46) (hu3 : ¬ u3 = 46) (h0 : Heap) (n0 : Nat) (O : Old Z n0 h0) (V_ba : Arv Z h0 ba kb .byte (4 : Int32) [(.int u0), (.int u1), (.int 46), (.int u3)] (.int 0)) :
  Con l Z (⟨"java/lang/StringLatin1", "indexOfChar", "([BIII)I"⟩ : MethodName) jdk_43_method_23_code 6 (some .int) ({ frames := 0, cells := 0, slots := 0, locals := 0 } : Room) #[(.ref ba), (.int 46), (.int 0), (.int 4)] h0 (fun v h L => v = some (.int 2) ∧ Fr n0 L ∧ h = h0) := by
 refine own_startC opn_20 ?_
 intro p e s m below meth c T0 X0 hx hby hml hZ hown hnm hret hlk e0
 have N := Fr.nil n0; have K := Keep.refl h0 []
 refine OG.cast (oef12 m ba (46 : Int32) (0 : Int32) (4 : Int32)) ?_
 refine og_iloadN X0 hx rfl (hb hby d20_0) rfl ?_
 refine og_i2b X0 hx (hb hby d20_1) rfl ?_
 show OG p e below _ (T0.setTop (mkF m 2 #[.val (.ref ba), .val (.int 46), .val (.int 0), .val (.int 4), .unset, .unset] [(.int 46)]))
 refine og_istore (L' := #[.val (.ref ba), .val (.int 46), .val (.int 0), .val (.int 4), .val (.int 46), .unset]) X0 hx rfl (hb hby d20_2) rfl ?_
 refine og_iloadN X0 hx rfl (hb hby d20_4) rfl ?_
 refine og_istore (L' := #[.val (.ref ba), .val (.int 46), .val (.int 0), .val (.int 4), .val (.int 46), .val (.int 0)]) X0 hx rfl (hb hby d20_5) rfl ?_
 refine og_iload X0 hx rfl (hb hby d20_7) rfl ?_
 refine og_iloadN X0 hx rfl (hb hby d20_9) rfl ?_
 refine og_icmp_ge (pc1 := 31) (pc2 := 13) X0 hx (hb hby d20_10) (by decide) (by decide) rfl (fun q => absurd q (by decide)) (fun _ => ?_)
 refine og_aloadN X0 hx rfl rfl (hb hby d20_13) rfl ?_
 refine og_iload X0 hx rfl (hb hby d20_14) rfl ?_
 refine og_baload (v := (.int u0)) X0 hx hZ e0 V_ba ⟨by decide, by decide⟩ rfl (hb hby d20_16) rfl ?_
 refine og_iload X0 hx rfl (hb hby d20_17) rfl ?_
 refine og_icmp_ne (pc1 := 25) (pc2 := 22) X0 hx (hb hby d20_19) (by decide) (by decide) rfl (fun _ => ?_) (fun q => absurd q hu0)
 refine og_iinc (L' := #[.val (.ref ba), .val (.int 46), .val (.int 0), .val (.int 4), .val (.int 46), .val (.int 1)]) (w := (1 : Int32)) X0 hx rfl rfl rfl (hb hby d20_25) rfl ?_
 refine og_goto (pc' := 7) X0 hx (hb hby d20_28) (by decide) (by decide) ?_
 refine og_iload X0 hx rfl (hb hby d20_7) rfl ?_
 refine og_iloadN X0 hx rfl (hb hby d20_9) rfl ?_
 refine og_icmp_ge (pc1 := 31) (pc2 := 13) X0 hx (hb hby d20_10) (by decide) (by decide) rfl (fun q => absurd q (by decide)) (fun _ => ?_)
 refine og_aloadN X0 hx rfl rfl (hb hby d20_13) rfl ?_
 refine og_iload X0 hx rfl (hb hby d20_14) rfl ?_
 refine og_baload (v := (.int u1)) X0 hx hZ e0 V_ba ⟨by decide, by decide⟩ rfl (hb hby d20_16) rfl ?_
 refine og_iload X0 hx rfl (hb hby d20_17) rfl ?_
 refine og_icmp_ne (pc1 := 25) (pc2 := 22) X0 hx (hb hby d20_19) (by decide) (by decide) rfl (fun _ => ?_) (fun q => absurd q hu1)
 refine og_iinc (L' := #[.val (.ref ba), .val (.int 46), .val (.int 0), .val (.int 4), .val (.int 46), .val (.int 2)]) (w := (1 : Int32)) X0 hx rfl rfl rfl (hb hby d20_25) rfl ?_
 refine og_goto (pc' := 7) X0 hx (hb hby d20_28) (by decide) (by decide) ?_
 refine og_iload X0 hx rfl (hb hby d20_7) rfl ?_
 refine og_iloadN X0 hx rfl (hb hby d20_9) rfl ?_
 refine og_icmp_ge (pc1 := 31) (pc2 := 13) X0 hx (hb hby d20_10) (by decide) (by decide) rfl (fun q => absurd q (by decide)) (fun _ => ?_)
 refine og_aloadN X0 hx rfl rfl (hb hby d20_13) rfl ?_
 refine og_iload X0 hx rfl (hb hby d20_14) rfl ?_
 refine og_baload (v := (.int 46)) X0 hx hZ e0 V_ba ⟨by decide, by decide⟩ rfl (hb hby d20_16) rfl ?_
 refine og_iload X0 hx rfl (hb hby d20_17) rfl ?_
 refine og_icmp_ne (pc1 := 25) (pc2 := 22) X0 hx (hb hby d20_19) (by decide) (by decide) rfl (fun q => absurd q (by decide)) (fun _ => ?_)
 refine og_iload X0 hx rfl (hb hby d20_22) rfl ?_
 refine og_retI X0 hx hlk hret (hb hby d20_24) (by decide) (by decide) ?_
 rw [e0]; exact ⟨rfl, N, rfl⟩
theorem rm_li_4_2_0 (l : Launch) (Z : State) (a0 : Array Value) (hw : HW a0 Z) (ba : Addr) (kb : ClassId) (u0 u1 u3 : Int32) (hu0 : ¬ u0 = 46) (hu1 : ¬ u1 = 46) (hu3 : ¬ u3 = 46) (h0 : Heap) (n0 : Nat) (O : Old Z n0 h0) (V_ba : Arv Z h0 ba kb .byte (4 : Int32) [(.int u0), (.int u1), (.int 46), (.int u3)] (.int 0)) :
  Con l Z (⟨"java/lang/StringLatin1", "indexOf", "([BIII)I"⟩ : MethodName) jdk_43_method_22_code 4 (some .int) ({ frames := 1, cells := 0, slots := 0, locals := 17 } : Room) #[(.ref ba), (.int 46), (.int 0), (.int 4)] h0 (fun v h L => v = some (.int 2) ∧ Fr n0 L ∧ h = h0) := by
 refine own_startC opn_16 ?_
 intro p e s m below meth c T0 X0 hx hby hml hZ hown hnm hret hlk e0
 have N := Fr.nil n0; have K := Keep.refl h0 []
 refine OG.cast (oef13 m ba (46 : Int32) (0 : Int32) (4 : Int32)) ?_
 refine og_iloadN X0 hx rfl (hb hby d16_0) rfl ?_
 refine og_static (pc' := 4) (cells' := 0) (slots' := 0) (W := 0) X0 hx hZ (rm_ce l Z a0 hw h0 n0 O) hown (ow79 hw) (ow80 hw) (ow77 hw) (ow81 hw) (by decide) (by rw [hml]; rfl) e0 opd_10 [(.int 46)] [] rfl rfl rfl rfl (by decide) (by decide) rfl rfl (by decide) (by decide) (hb hby d16_1) rfl (fun v11 T11 h11 L11 X11 e11 z11 => ?_)
 obtain ⟨rfl, Nq11, hq11⟩ := z11; replace e11 := e11.trans hq11; have N := Fr.app N Nq11
 refine og_if_ne (pc1 := 9) (pc2 := 7) X11 hx (hb hby d16_4) (by decide) (by decide) rfl (fun _ => ?_) (fun q => absurd q (by decide))
 refine og_iloadN X11 hx rfl (hb hby d16_9) rfl ?_
 refine og_iconst (v := (0 : Int32)) X11 hx rfl (hb hby d16_10) rfl ?_
 refine og_static (pc' := 14) (cells' := 0) (slots' := 0) (W := 0) X11 hx hZ (rm_max_0_0 l Z a0 hw h0 n0 O) hown (ow82 hw) (ow83 hw) (ow84 hw) (ow85 hw) (by decide) (by rw [hml]; rfl) e11 opd_11 [(.int 0), (.int 0)] [] rfl rfl rfl rfl (by decide) (by decide) rfl rfl (by decide) (by decide) (hb hby d16_11) rfl (fun v12 T12 h12 L12 X12 e12 z12 => ?_)
 obtain ⟨rfl, Nq12, hq12⟩ := z12; replace e12 := e12.trans hq12; have N := Fr.app N Nq12
 refine og_istoreN (L' := #[.val (.ref ba), .val (.int 46), .val (.int 0), .val (.int 4)]) X12 hx rfl (hb hby d16_14) rfl ?_
 refine og_iloadN X12 hx rfl (hb hby d16_15) rfl ?_
 refine og_aloadN X12 hx rfl rfl (hb hby d16_16) rfl ?_
 refine og_arraylength X12 hx hZ e12 V_ba (hb hby d16_17) rfl ?_
 refine og_static (pc' := 21) (cells' := 0) (slots' := 0) (W := 0) X12 hx hZ (rm_min_4_4 l Z a0 hw h0 n0 O) hown (ow86 hw) (ow87 hw) (ow84 hw) (ow88 hw) (by decide) (by rw [hml]; rfl) e12 opd_11 [(.int 4), (.int 4)] [] rfl rfl rfl rfl (by decide) (by decide) rfl rfl (by decide) (by decide) (hb hby d16_18) rfl (fun v13 T13 h13 L13 X13 e13 z13 => ?_)
 obtain ⟨rfl, Nq13, hq13⟩ := z13; replace e13 := e13.trans hq13; have N := Fr.app N Nq13
 refine og_istoreN (L' := #[.val (.ref ba), .val (.int 46), .val (.int 0), .val (.int 4)]) X13 hx rfl (hb hby d16_21) rfl ?_
 refine og_iloadN X13 hx rfl (hb hby d16_22) rfl ?_
 refine og_iloadN X13 hx rfl (hb hby d16_23) rfl ?_
 refine og_icmp_lt (pc1 := 29) (pc2 := 27) X13 hx (hb hby d16_24) (by decide) (by decide) rfl (fun _ => ?_) (fun q => absurd q (by decide))
 refine og_aloadN X13 hx rfl rfl (hb hby d16_29) rfl ?_
 refine og_iloadN X13 hx rfl (hb hby d16_30) rfl ?_
 refine og_iloadN X13 hx rfl (hb hby d16_31) rfl ?_
 refine og_iloadN X13 hx rfl (hb hby d16_32) rfl ?_
 refine og_static (pc' := 36) (cells' := 0) (slots' := 0) (W := 0) X13 hx hZ (rm_ic_4_2_0 l Z a0 hw ba kb u0 u1 u3 hu0 hu1 hu3 h0 n0 O V_ba) hown (ow89 hw) (ow90 hw) (ow77 hw) (ow91 hw) (by decide) (by rw [hml]; rfl) e13 opd_12 [(.ref ba), (.int 46), (.int 0), (.int 4)] [] rfl rfl rfl rfl (by decide) (by decide) rfl rfl (by decide) (by decide) (hb hby d16_33) rfl (fun v14 T14 h14 L14 X14 e14 z14 => ?_)
 obtain ⟨rfl, Nq14, hq14⟩ := z14; replace e14 := e14.trans hq14; have N := Fr.app N Nq14
 refine og_retI X14 hx hlk hret (hb hby d16_36) (by decide) (by decide) ?_
 rw [e14]; exact ⟨rfl, N, rfl⟩
theorem rm_i2_4_2_0 (l : Launch) (Z : State) (a0 : Array Value) (hw : HW a0 Z) (a1 ba : Addr) (kb : ClassId) (u0 u1 u3 : Int32) (hu0 : ¬ u0 = 46) (hu1 : ¬ u1 = 46) (hu3 : ¬ u3 = 46) (cs : Int32) (hcs : ¬ cs = 0) (h0 : Heap) (n0 : Nat) (O : Old Z n0 h0) (E_a1 : Exa Z h0 a1 "java/lang/String") (F_value_a1 : Fld Z h0 a1 "java/lang/String" "value" "[B" (.ref ba)) (F_coder_a1 : Fld Z h0 a1 "java/lang/String" "coder" "B" (.int 0)) (V_ba : Arv Z h0 ba kb .byte (4 : Int32) [(.int u0), (.int u1), (.int 46), (.int u3)] (.int 0)) (S_CS : Sta Z Z.heap "java/lang/String" "COMPACT_STRINGS" "Z" (.int cs)) :
  Con l Z (⟨"java/lang/String", "indexOf", "(II)I"⟩ : MethodName) jdk_42_method_80_code 3 (some .int) ({ frames := 2, cells := 0, slots := 0, locals := 32 } : Room) #[(.ref a1), (.int 46), (.int 0)] h0 (fun v h L => v = some (.int 2) ∧ Fr n0 L ∧ h = h0) := by
 refine own_startC opn_12 ?_
 intro p e s m below meth c T0 X0 hx hby hml hZ hown hnm hret hlk e0
 have N := Fr.nil n0; have K := Keep.refl h0 []
 refine OG.cast (oef14 m a1 (46 : Int32) (0 : Int32)) ?_
 refine og_aloadN X0 hx rfl rfl (hb hby d12_0) rfl ?_
 refine og_virtual (pc' := 4) (cells' := 0) (slots' := 0) (W := 0) X0 hx hZ (rm_il l Z a0 hw a1 cs hcs h0 n0 O F_coder_a1 S_CS) hown (ow60 hw) (ow61 hw) (own_nf hZ (ow63 hw)) (ow63 hw) (ow62 hw) (ow11 hw) (ow64 hw) (by decide) (by rw [hml]; rfl) e0 opd_9 [] [] rfl rfl rfl rfl (by decide) (by decide) rfl rfl (by decide) (by decide) E_a1 (hb hby d12_1) rfl (fun v11 T11 h11 L11 X11 e11 z11 => ?_)
 obtain ⟨rfl, Nq11, hq11⟩ := z11; replace e11 := e11.trans hq11; have N := Fr.app N Nq11
 refine og_if_eq (pc1 := 23) (pc2 := 7) X11 hx (hb hby d12_4) (by decide) (by decide) rfl (fun q => absurd q (by decide)) (fun _ => ?_)
 refine og_aloadN X11 hx rfl rfl (hb hby d12_7) rfl ?_
 refine og_getfield X11 hx hZ (host := "") hown (Or.inl (ow28 hw)) Via.refl e11 F_value_a1 (hb hby d12_8) rfl (fun T12 X12 e12 => ?_)
 refine og_iloadN X12 hx rfl (hb hby d12_11) rfl ?_
 refine og_iloadN X12 hx rfl (hb hby d12_12) rfl ?_
 refine og_aloadN X12 hx rfl rfl (hb hby d12_13) rfl ?_
 refine og_virtual (pc' := 17) (cells' := 0) (slots' := 0) (W := 3) X12 hx hZ (rm_len l Z a0 hw a1 ba kb (4 : Int32) _ cs hcs h0 n0 O E_a1 F_value_a1 F_coder_a1 V_ba S_CS) hown (ow65 hw) (ow66 hw) (own_nf hZ (ow68 hw)) (ow68 hw) (ow67 hw) (ow11 hw) (ow69 hw) (by decide) (by rw [hml]; rfl) e12 opd_13 [] [(.int 0), (.int 46), (.ref ba)] rfl rfl rfl rfl (by decide) (by decide) rfl rfl (by decide) (by decide) E_a1 (hb hby d12_14) rfl (fun v13 T13 h13 L13 X13 e13 z13 => ?_)
 obtain ⟨rfl, Nq13, hq13⟩ := z13; replace e13 := e13.trans hq13; have N := Fr.app N Nq13
 refine og_static (pc' := 20) (cells' := 0) (slots' := 0) (W := 0) X13 hx hZ (rm_li_4_2_0 l Z a0 hw ba kb u0 u1 u3 hu0 hu1 hu3 h0 n0 O V_ba) hown (ow75 hw) (ow76 hw) (ow77 hw) (ow78 hw) (by decide) (by rw [hml]; rfl) e13 opd_12 [(.ref ba), (.int 46), (.int 0), (.int 4)] [] rfl rfl rfl rfl (by decide) (by decide) rfl rfl (by decide) (by decide) (hb hby d12_17) rfl (fun v14 T14 h14 L14 X14 e14 z14 => ?_)
 obtain ⟨rfl, Nq14, hq14⟩ := z14; replace e14 := e14.trans hq14; have N := Fr.app N Nq14
 refine og_goto (pc' := 36) X14 hx (hb hby d12_20) (by decide) (by decide) ?_
 refine og_retI X14 hx hlk hret (hb hby d12_36) (by decide) (by decide) ?_
 rw [e14]; exact ⟨rfl, N, rfl⟩
theorem rm_ix_4_2_0 (l : Launch) (Z : State) (a0 : Array Value) (hw : HW a0 Z) (a1 ba : Addr) (kb : ClassId) (u0 u1 u3 : Int32) (hu0 : ¬ u0 = 46) (hu1 : ¬ u1 = 46) (hu3 : ¬ u3 = 46) (cs : Int32) (hcs : ¬ cs = 0) (h0 : Heap) (n0 : Nat) (O : Old Z n0 h0) (E_a1 : Exa Z h0 a1 "java/lang/String") (F_value_a1 : Fld Z h0 a1 "java/lang/String" "value" "[B" (.ref ba)) (F_coder_a1 : Fld Z h0 a1 "java/lang/String" "coder" "B" (.int 0)) (V_ba : Arv Z h0 ba kb .byte (4 : Int32) [(.int u0), (.int u1), (.int 46), (.int u3)] (.int 0)) (S_CS : Sta Z Z.heap "java/lang/String" "COMPACT_STRINGS" "Z" (.int cs)) :
  Con l Z (⟨"java/lang/String", "indexOf", "(I)I"⟩ : MethodName) jdk_42_method_79_code 2 (some .int) ({ frames := 3, cells := 0, slots := 0, locals := 46 } : Room) #[(.ref a1), (.int 46)] h0 (fun v h L => v = some (.int 2) ∧ Fr n0 L ∧ h = h0) := by
 refine own_startC opn_11 ?_
 intro p e s m below meth c T0 X0 hx hby hml hZ hown hnm hret hlk e0
 have N := Fr.nil n0; have K := Keep.refl h0 []
 refine OG.cast (oef4 m a1 (46 : Int32)) ?_
 refine og_aloadN X0 hx rfl rfl (hb hby d11_0) rfl ?_
 refine og_iloadN X0 hx rfl (hb hby d11_1) rfl ?_
 refine og_iconst (v := (0 : Int32)) X0 hx rfl (hb hby d11_2) rfl ?_
 refine og_virtual (pc' := 6) (cells' := 0) (slots' := 0) (W := 0) X0 hx hZ (rm_i2_4_2_0 l Z a0 hw a1 ba kb u0 u1 u3 hu0 hu1 hu3 cs hcs h0 n0 O E_a1 F_value_a1 F_coder_a1 V_ba S_CS) hown (ow55 hw) (ow56 hw) (own_nf hZ (ow58 hw)) (ow58 hw) (ow57 hw) (ow11 hw) (ow59 hw) (by decide) (by rw [hml]; rfl) e0 opd_11 [(.int 46), (.int 0)] [] rfl rfl rfl rfl (by decide) (by decide) rfl rfl (by decide) (by decide) E_a1 (hb hby d11_3) rfl (fun v11 T11 h11 L11 X11 e11 z11 => ?_)
 obtain ⟨rfl, Nq11, hq11⟩ := z11; replace e11 := e11.trans hq11; have N := Fr.app N Nq11
 refine og_retI X11 hx hlk hret (hb hby d11_6) (by decide) (by decide) ?_
 rw [e11]; exact ⟨rfl, N, rfl⟩
theorem rm_max_3_0 (l : Launch) (Z : State) (a0 : Array Value) (hw : HW a0 Z)  (h0 : Heap) (n0 : Nat) (O : Old Z n0 h0) :
  Con l Z (⟨"java/lang/Math", "max", "(II)I"⟩ : MethodName) jdk_29_method_65_code 2 (some .int) ({ frames := 0, cells := 0, slots := 0, locals := 0 } : Room) #[(.int 3), (.int 0)] h0 (fun v h L => v = some (.int 3) ∧ Fr n0 L ∧ h = h0) := by
 refine own_startC opn_18 ?_
 intro p e s m below meth c T0 X0 hx hby hml hZ hown hnm hret hlk e0
 have N := Fr.nil n0; have K := Keep.refl h0 []
 refine OG.cast (oef11 m (3 : Int32) (0 : Int32)) ?_
 refine og_iloadN X0 hx rfl (hb hby d18_0) rfl ?_
 refine og_iloadN X0 hx rfl (hb hby d18_1) rfl ?_
 refine og_icmp_lt (pc1 := 9) (pc2 := 5) X0 hx (hb hby d18_2) (by decide) (by decide) rfl (fun q => absurd q (by decide)) (fun _ => ?_)
 refine og_iloadN X0 hx rfl (hb hby d18_5) rfl ?_
 refine og_goto (pc' := 10) X0 hx (hb hby d18_6) (by decide) (by decide) ?_
 refine og_retI X0 hx hlk hret (hb hby d18_10) (by decide) (by decide) ?_
 rw [e0]; exact ⟨rfl, N, rfl⟩
theorem rm_ic_4_2_3 (l : Launch) (Z : State) (a0 : Array Value) (hw : HW a0 Z) (ba : Addr) (kb : ClassId) (u0 u1 u3 : Int32) (hu0 : ¬ u0 = 46) (hu1 : ¬ u1 = 46) (hu3 : ¬ u3 = 46) (h0 : Heap) (n0 : Nat) (O : Old Z n0 h0) (V_ba : Arv Z h0 ba kb .byte (4 : Int32) [(.int u0), (.int u1), (.int 46), (.int u3)] (.int 0)) :
  Con l Z (⟨"java/lang/StringLatin1", "indexOfChar", "([BIII)I"⟩ : MethodName) jdk_43_method_23_code 6 (some .int) ({ frames := 0, cells := 0, slots := 0, locals := 0 } : Room) #[(.ref ba), (.int 46), (.int 3), (.int 4)] h0 (fun v h L => v = some (.int (-1)) ∧ Fr n0 L ∧ h = h0) := by
 refine own_startC opn_20 ?_
 intro p e s m below meth c T0 X0 hx hby hml hZ hown hnm hret hlk e0
 have N := Fr.nil n0; have K := Keep.refl h0 []
 refine OG.cast (oef12 m ba (46 : Int32) (3 : Int32) (4 : Int32)) ?_
 refine og_iloadN X0 hx rfl (hb hby d20_0) rfl ?_
 refine og_i2b X0 hx (hb hby d20_1) rfl ?_
 show OG p e below _ (T0.setTop (mkF m 2 #[.val (.ref ba), .val (.int 46), .val (.int 3), .val (.int 4), .unset, .unset] [(.int 46)]))
 refine og_istore (L' := #[.val (.ref ba), .val (.int 46), .val (.int 3), .val (.int 4), .val (.int 46), .unset]) X0 hx rfl (hb hby d20_2) rfl ?_
 refine og_iloadN X0 hx rfl (hb hby d20_4) rfl ?_
 refine og_istore (L' := #[.val (.ref ba), .val (.int 46), .val (.int 3), .val (.int 4), .val (.int 46), .val (.int 3)]) X0 hx rfl (hb hby d20_5) rfl ?_
 refine og_iload X0 hx rfl (hb hby d20_7) rfl ?_
 refine og_iloadN X0 hx rfl (hb hby d20_9) rfl ?_
 refine og_icmp_ge (pc1 := 31) (pc2 := 13) X0 hx (hb hby d20_10) (by decide) (by decide) rfl (fun q => absurd q (by decide)) (fun _ => ?_)
 refine og_aloadN X0 hx rfl rfl (hb hby d20_13) rfl ?_
 refine og_iload X0 hx rfl (hb hby d20_14) rfl ?_
 refine og_baload (v := (.int u3)) X0 hx hZ e0 V_ba ⟨by decide, by decide⟩ rfl (hb hby d20_16) rfl ?_
 refine og_iload X0 hx rfl (hb hby d20_17) rfl ?_
 refine og_icmp_ne (pc1 := 25) (pc2 := 22) X0 hx (hb hby d20_19) (by decide) (by decide) rfl (fun _ => ?_) (fun q => absurd q hu3)
 refine og_iinc (L' := #[.val (.ref ba), .val (.int 46), .val (.int 3), .val (.int 4), .val (.int 46), .val (.int 4)]) (w := (1 : Int32)) X0 hx rfl rfl rfl (hb hby d20_25) rfl ?_
 refine og_goto (pc' := 7) X0 hx (hb hby d20_28) (by decide) (by decide) ?_
 refine og_iload X0 hx rfl (hb hby d20_7) rfl ?_
 refine og_iloadN X0 hx rfl (hb hby d20_9) rfl ?_
 refine og_icmp_ge (pc1 := 31) (pc2 := 13) X0 hx (hb hby d20_10) (by decide) (by decide) rfl (fun _ => ?_) (fun q => absurd q (by decide))
 refine og_iconst (v := (-1 : Int32)) X0 hx rfl (hb hby d20_31) rfl ?_
 refine og_retI X0 hx hlk hret (hb hby d20_32) (by decide) (by decide) ?_
 rw [e0]; exact ⟨rfl, N, rfl⟩
theorem rm_li_4_2_3 (l : Launch) (Z : State) (a0 : Array Value) (hw : HW a0 Z) (ba : Addr) (kb : ClassId) (u0 u1 u3 : Int32) (hu0 : ¬ u0 = 46) (hu1 : ¬ u1 = 46) (hu3 : ¬ u3 = 46) (h0 : Heap) (n0 : Nat) (O : Old Z n0 h0) (V_ba : Arv Z h0 ba kb .byte (4 : Int32) [(.int u0), (.int u1), (.int 46), (.int u3)] (.int 0)) :
  Con l Z (⟨"java/lang/StringLatin1", "indexOf", "([BIII)I"⟩ : MethodName) jdk_43_method_22_code 4 (some .int) ({ frames := 1, cells := 0, slots := 0, locals := 17 } : Room) #[(.ref ba), (.int 46), (.int 3), (.int 4)] h0 (fun v h L => v = some (.int (-1)) ∧ Fr n0 L ∧ h = h0) := by
 refine own_startC opn_16 ?_
 intro p e s m below meth c T0 X0 hx hby hml hZ hown hnm hret hlk e0
 have N := Fr.nil n0; have K := Keep.refl h0 []
 refine OG.cast (oef13 m ba (46 : Int32) (3 : Int32) (4 : Int32)) ?_
 refine og_iloadN X0 hx rfl (hb hby d16_0) rfl ?_
 refine og_static (pc' := 4) (cells' := 0) (slots' := 0) (W := 0) X0 hx hZ (rm_ce l Z a0 hw h0 n0 O) hown (ow79 hw) (ow80 hw) (ow77 hw) (ow81 hw) (by decide) (by rw [hml]; rfl) e0 opd_10 [(.int 46)] [] rfl rfl rfl rfl (by decide) (by decide) rfl rfl (by decide) (by decide) (hb hby d16_1) rfl (fun v11 T11 h11 L11 X11 e11 z11 => ?_)
 obtain ⟨rfl, Nq11, hq11⟩ := z11; replace e11 := e11.trans hq11; have N := Fr.app N Nq11
 refine og_if_ne (pc1 := 9) (pc2 := 7) X11 hx (hb hby d16_4) (by decide) (by decide) rfl (fun _ => ?_) (fun q => absurd q (by decide))
 refine og_iloadN X11 hx rfl (hb hby d16_9) rfl ?_
 refine og_iconst (v := (0 : Int32)) X11 hx rfl (hb hby d16_10) rfl ?_
 refine og_static (pc' := 14) (cells' := 0) (slots' := 0) (W := 0) X11 hx hZ (rm_max_3_0 l Z a0 hw h0 n0 O) hown (ow82 hw) (ow83 hw) (ow84 hw) (ow85 hw) (by decide) (by rw [hml]; rfl) e11 opd_11 [(.int 3), (.int 0)] [] rfl rfl rfl rfl (by decide) (by decide) rfl rfl (by decide) (by decide) (hb hby d16_11) rfl (fun v12 T12 h12 L12 X12 e12 z12 => ?_)
 obtain ⟨rfl, Nq12, hq12⟩ := z12; replace e12 := e12.trans hq12; have N := Fr.app N Nq12
 refine og_istoreN (L' := #[.val (.ref ba), .val (.int 46), .val (.int 3), .val (.int 4)]) X12 hx rfl (hb hby d16_14) rfl ?_
 refine og_iloadN X12 hx rfl (hb hby d16_15) rfl ?_
 refine og_aloadN X12 hx rfl rfl (hb hby d16_16) rfl ?_
 refine og_arraylength X12 hx hZ e12 V_ba (hb hby d16_17) rfl ?_
 refine og_static (pc' := 21) (cells' := 0) (slots' := 0) (W := 0) X12 hx hZ (rm_min_4_4 l Z a0 hw h0 n0 O) hown (ow86 hw) (ow87 hw) (ow84 hw) (ow88 hw) (by decide) (by rw [hml]; rfl) e12 opd_11 [(.int 4), (.int 4)] [] rfl rfl rfl rfl (by decide) (by decide) rfl rfl (by decide) (by decide) (hb hby d16_18) rfl (fun v13 T13 h13 L13 X13 e13 z13 => ?_)
 obtain ⟨rfl, Nq13, hq13⟩ := z13; replace e13 := e13.trans hq13; have N := Fr.app N Nq13
 refine og_istoreN (L' := #[.val (.ref ba), .val (.int 46), .val (.int 3), .val (.int 4)]) X13 hx rfl (hb hby d16_21) rfl ?_
 refine og_iloadN X13 hx rfl (hb hby d16_22) rfl ?_
 refine og_iloadN X13 hx rfl (hb hby d16_23) rfl ?_
 refine og_icmp_lt (pc1 := 29) (pc2 := 27) X13 hx (hb hby d16_24) (by decide) (by decide) rfl (fun _ => ?_) (fun q => absurd q (by decide))
 refine og_aloadN X13 hx rfl rfl (hb hby d16_29) rfl ?_
 refine og_iloadN X13 hx rfl (hb hby d16_30) rfl ?_
 refine og_iloadN X13 hx rfl (hb hby d16_31) rfl ?_
 refine og_iloadN X13 hx rfl (hb hby d16_32) rfl ?_
 refine og_static (pc' := 36) (cells' := 0) (slots' := 0) (W := 0) X13 hx hZ (rm_ic_4_2_3 l Z a0 hw ba kb u0 u1 u3 hu0 hu1 hu3 h0 n0 O V_ba) hown (ow89 hw) (ow90 hw) (ow77 hw) (ow91 hw) (by decide) (by rw [hml]; rfl) e13 opd_12 [(.ref ba), (.int 46), (.int 3), (.int 4)] [] rfl rfl rfl rfl (by decide) (by decide) rfl rfl (by decide) (by decide) (hb hby d16_33) rfl (fun v14 T14 h14 L14 X14 e14 z14 => ?_)
 obtain ⟨rfl, Nq14, hq14⟩ := z14; replace e14 := e14.trans hq14; have N := Fr.app N Nq14
 refine og_retI X14 hx hlk hret (hb hby d16_36) (by decide) (by decide) ?_
 rw [e14]; exact ⟨rfl, N, rfl⟩
theorem rm_i2_4_2_3 (l : Launch) (Z : State) (a0 : Array Value) (hw : HW a0 Z) (a1 ba : Addr) (kb : ClassId) (u0 u1 u3 : Int32) (hu0 : ¬ u0 = 46) (hu1 : ¬ u1 = 46) (hu3 : ¬ u3 = 46) (cs : Int32) (hcs : ¬ cs = 0) (h0 : Heap) (n0 : Nat) (O : Old Z n0 h0) (E_a1 : Exa Z h0 a1 "java/lang/String") (F_value_a1 : Fld Z h0 a1 "java/lang/String" "value" "[B" (.ref ba)) (F_coder_a1 : Fld Z h0 a1 "java/lang/String" "coder" "B" (.int 0)) (V_ba : Arv Z h0 ba kb .byte (4 : Int32) [(.int u0), (.int u1), (.int 46), (.int u3)] (.int 0)) (S_CS : Sta Z Z.heap "java/lang/String" "COMPACT_STRINGS" "Z" (.int cs)) :
  Con l Z (⟨"java/lang/String", "indexOf", "(II)I"⟩ : MethodName) jdk_42_method_80_code 3 (some .int) ({ frames := 2, cells := 0, slots := 0, locals := 32 } : Room) #[(.ref a1), (.int 46), (.int 3)] h0 (fun v h L => v = some (.int (-1)) ∧ Fr n0 L ∧ h = h0) := by
 refine own_startC opn_12 ?_
 intro p e s m below meth c T0 X0 hx hby hml hZ hown hnm hret hlk e0
 have N := Fr.nil n0; have K := Keep.refl h0 []
 refine OG.cast (oef14 m a1 (46 : Int32) (3 : Int32)) ?_
 refine og_aloadN X0 hx rfl rfl (hb hby d12_0) rfl ?_
 refine og_virtual (pc' := 4) (cells' := 0) (slots' := 0) (W := 0) X0 hx hZ (rm_il l Z a0 hw a1 cs hcs h0 n0 O F_coder_a1 S_CS) hown (ow60 hw) (ow61 hw) (own_nf hZ (ow63 hw)) (ow63 hw) (ow62 hw) (ow11 hw) (ow64 hw) (by decide) (by rw [hml]; rfl) e0 opd_9 [] [] rfl rfl rfl rfl (by decide) (by decide) rfl rfl (by decide) (by decide) E_a1 (hb hby d12_1) rfl (fun v11 T11 h11 L11 X11 e11 z11 => ?_)
 obtain ⟨rfl, Nq11, hq11⟩ := z11; replace e11 := e11.trans hq11; have N := Fr.app N Nq11
 refine og_if_eq (pc1 := 23) (pc2 := 7) X11 hx (hb hby d12_4) (by decide) (by decide) rfl (fun q => absurd q (by decide)) (fun _ => ?_)
 refine og_aloadN X11 hx rfl rfl (hb hby d12_7) rfl ?_
 refine og_getfield X11 hx hZ (host := "") hown (Or.inl (ow28 hw)) Via.refl e11 F_value_a1 (hb hby d12_8) rfl (fun T12 X12 e12 => ?_)
 refine og_iloadN X12 hx rfl (hb hby d12_11) rfl ?_
 refine og_iloadN X12 hx rfl (hb hby d12_12) rfl ?_
 refine og_aloadN X12 hx rfl rfl (hb hby d12_13) rfl ?_
 refine og_virtual (pc' := 17) (cells' := 0) (slots' := 0) (W := 3) X12 hx hZ (rm_len l Z a0 hw a1 ba kb (4 : Int32) _ cs hcs h0 n0 O E_a1 F_value_a1 F_coder_a1 V_ba S_CS) hown (ow65 hw) (ow66 hw) (own_nf hZ (ow68 hw)) (ow68 hw) (ow67 hw) (ow11 hw) (ow69 hw) (by decide) (by rw [hml]; rfl) e12 opd_13 [] [(.int 3), (.int 46), (.ref ba)] rfl rfl rfl rfl (by decide) (by decide) rfl rfl (by decide) (by decide) E_a1 (hb hby d12_14) rfl (fun v13 T13 h13 L13 X13 e13 z13 => ?_)
 obtain ⟨rfl, Nq13, hq13⟩ := z13; replace e13 := e13.trans hq13; have N := Fr.app N Nq13
 refine og_static (pc' := 20) (cells' := 0) (slots' := 0) (W := 0) X13 hx hZ (rm_li_4_2_3 l Z a0 hw ba kb u0 u1 u3 hu0 hu1 hu3 h0 n0 O V_ba) hown (ow75 hw) (ow76 hw) (ow77 hw) (ow78 hw) (by decide) (by rw [hml]; rfl) e13 opd_12 [(.ref ba), (.int 46), (.int 3), (.int 4)] [] rfl rfl rfl rfl (by decide) (by decide) rfl rfl (by decide) (by decide) (hb hby d12_17) rfl (fun v14 T14 h14 L14 X14 e14 z14 => ?_)
 obtain ⟨rfl, Nq14, hq14⟩ := z14; replace e14 := e14.trans hq14; have N := Fr.app N Nq14
 refine og_goto (pc' := 36) X14 hx (hb hby d12_20) (by decide) (by decide) ?_
 refine og_retI X14 hx hlk hret (hb hby d12_36) (by decide) (by decide) ?_
 rw [e14]; exact ⟨rfl, N, rfl⟩
theorem rm_cl_0_2 (l : Launch) (Z : State) (a0 : Array Value) (hw : HW a0 Z)  (h0 : Heap) (n0 : Nat) (O : Old Z n0 h0) :
  Con l Z (⟨"java/util/Arrays", "checkLength", "(II)V"⟩ : MethodName) jdk_65_method_131_code 2 none ({ frames := 0, cells := 0, slots := 0, locals := 0 } : Room) #[(.int 0), (.int 2)] h0 (fun v h L => v = none ∧ Fr n0 L ∧ h = h0) := by
 refine own_startC opn_33 ?_
 intro p e s m below meth c T0 X0 hx hby hml hZ hown hnm hret hlk e0
 have N := Fr.nil n0; have K := Keep.refl h0 []
 refine OG.cast (oef11 m (0 : Int32) (2 : Int32)) ?_
 refine og_iloadN X0 hx rfl (hb hby d33_0) rfl ?_
 refine og_iloadN X0 hx rfl (hb hby d33_1) rfl ?_
 refine og_icmp_ge (pc1 := 37) (pc2 := 5) X0 hx (hb hby d33_2) (by decide) (by decide) rfl (fun _ => ?_) (fun q => absurd q (by decide))
 refine og_retV X0 hx hlk hret (hb hby d33_37) (by decide) (by decide) ?_
 rw [e0]; exact ⟨rfl, N, rfl⟩
theorem rm_min_4_2 (l : Launch) (Z : State) (a0 : Array Value) (hw : HW a0 Z)  (h0 : Heap) (n0 : Nat) (O : Old Z n0 h0) :
  Con l Z (⟨"java/lang/Math", "min", "(II)I"⟩ : MethodName) jdk_29_method_69_code 2 (some .int) ({ frames := 0, cells := 0, slots := 0, locals := 0 } : Room) #[(.int 4), (.int 2)] h0 (fun v h L => v = some (.int 2) ∧ Fr n0 L ∧ h = h0) := by
 refine own_startC opn_19 ?_
 intro p e s m below meth c T0 X0 hx hby hml hZ hown hnm hret hlk e0
 have N := Fr.nil n0; have K := Keep.refl h0 []
 refine OG.cast (oef11 m (4 : Int32) (2 : Int32)) ?_
 refine og_iloadN X0 hx rfl (hb hby d19_0) rfl ?_
 refine og_iloadN X0 hx rfl (hb hby d19_1) rfl ?_
 refine og_icmp_gt (pc1 := 9) (pc2 := 5) X0 hx (hb hby d19_2) (by decide) (by decide) rfl (fun _ => ?_) (fun q => absurd q (by decide))
 refine og_iloadN X0 hx rfl (hb hby d19_9) rfl ?_
 refine og_retI X0 hx hlk hret (hb hby d19_10) (by decide) (by decide) ?_
 rw [e0]; exact ⟨rfl, N, rfl⟩
theorem rm_crb_4_2_0_2 (l : Launch) (Z : State) (a0 : Array Value) (hw : HW a0 Z) (ba : Addr) (kb : ClassId) (u0 u1 u3 : Int32) (h0 : Heap) (n0 : Nat) (O : Old Z n0 h0) (V_ba : Arv Z h0 ba kb .byte (4 : Int32) [(.int u0), (.int u1), (.int 46), (.int u3)] (.int 0)) :
  Con l Z (⟨"java/util/Arrays", "copyOfRangeByte", "([BII)[B"⟩ : MethodName) jdk_65_method_133_code 5 (some (.array .byte)) ({ frames := 1, cells := 1, slots := 2, locals := 18 } : Room) #[(.ref ba), (.int 0), (.int 2)] h0 (fun v h L => ∃ b k, v = some (.ref b) ∧ Fr n0 L ∧ Keep h0 h [] ∧ h0.size ≤ b ∧ Arv Z h b k .byte (2 : Int32) [(.int u0), (.int u1)] (.int 0)) := by
 refine own_startC opn_32 ?_
 intro p e s m below meth c T0 X0 hx hby hml hZ hown hnm hret hlk e0
 have N := Fr.nil n0; have K := Keep.refl h0 []
 refine OG.cast (oef16 m ba (0 : Int32) (2 : Int32)) ?_
 refine og_iloadN X0 hx rfl (hb hby d32_0) rfl ?_
 refine og_iloadN X0 hx rfl (hb hby d32_1) rfl ?_
 refine og_static (pc' := 5) (cells' := 0) (slots' := 0) (W := 0) X0 hx hZ (rm_cl_0_2 l Z a0 hw h0 n0 O) hown (ow157 hw) (ow158 hw) (ow152 hw) (ow159 hw) (by decide) (by rw [hml]; rfl) e0 opd_16 [(.int 0), (.int 2)] [] rfl rfl rfl rfl (by decide) (by decide) rfl rfl (by decide) (by decide) (hb hby d32_2) rfl (fun v11 T11 h11 L11 X11 e11 z11 => ?_)
 obtain ⟨rfl, Nq11, hq11⟩ := z11; replace e11 := e11.trans hq11; have N := Fr.app N Nq11
 refine og_iloadN X11 hx rfl (hb hby d32_5) rfl ?_
 refine og_iloadN X11 hx rfl (hb hby d32_6) rfl ?_
 refine og_isub X11 hx (hb hby d32_7) rfl ?_
 show OG p e below _ (T11.setTop (mkF m 8 #[.val (.ref ba), .val (.int 0), .val (.int 2), .unset, .unset] [(.int 2)]))
 refine og_istoreN (L' := #[.val (.ref ba), .val (.int 0), .val (.int 2), .val (.int 2), .unset]) X11 hx rfl (hb hby d32_8) rfl ?_
 refine og_iloadN X11 hx rfl (hb hby d32_9) rfl ?_
 refine og_newarray (pc' := 12) (cells' := 1) (slots' := 2) (cap := 2) (ty := .byte) X11 hx hZ rfl (ow23 hw) e11 (by decide) (by decide) (by decide) (hb hby d32_10) rfl rfl rfl (by decide) (by decide) (fun T12 h12 nb12 kA12 X12 e12 E12 q12 V_nb12 => ?_)
 have s_nb12 : h0.size ≤ nb12 := Nat.le_of_eq q12.symm; have g_nb12 : n0 ≤ nb12 := Nat.le_trans (own_n0 O) s_nb12; have sz_nb12 : h0.size ≤ nb12 := Nat.le_trans K.1 s_nb12; have ne_ba_nb12 : ba ≠ nb12 := Nat.ne_of_lt (Nat.lt_of_lt_of_le V_ba.lt s_nb12)
 have V_ba := V_ba.ext E12; have O := O.ext E12; have K := K.ext E12
 have V_nb12 : Arv Z h12 nb12 kA12 .byte (2 : Int32) [(.int 0), (.int 0)] (.int 0) := V_nb12.pad (pad_rep [] (.int 0) 2)
 refine og_astore (L' := #[.val (.ref ba), .val (.int 0), .val (.int 2), .val (.int 2), .val (.ref nb12)]) X12 hx rfl rfl (hb hby d32_12) rfl ?_
 refine og_aloadN X12 hx rfl rfl (hb hby d32_14) rfl ?_
 refine og_iloadN X12 hx rfl (hb hby d32_15) rfl ?_
 refine og_aload X12 hx rfl rfl (hb hby d32_16) rfl ?_
 refine og_iconst (v := (0 : Int32)) X12 hx rfl (hb hby d32_18) rfl ?_
 refine og_aloadN X12 hx rfl rfl (hb hby d32_19) rfl ?_
 refine og_arraylength X12 hx hZ e12 V_ba (hb hby d32_20) rfl ?_
 refine og_iloadN X12 hx rfl (hb hby d32_21) rfl ?_
 refine og_isub X12 hx (hb hby d32_22) rfl ?_
 show OG p e below _ (T12.setTop (mkF m 23 #[.val (.ref ba), .val (.int 0), .val (.int 2), .val (.int 2), .val (.ref nb12)] [(.int 4), (.int 0), (.ref nb12), (.int 0), (.ref ba)]))
 refine og_iloadN X12 hx rfl (hb hby d32_23) rfl ?_
 refine og_static (pc' := 27) (cells' := 1) (slots' := 2) (W := 4) X12 hx hZ (rm_min_4_2 l Z a0 hw h12 n0 O) hown (ow160 hw) (ow87 hw) (ow84 hw) (ow88 hw) (by decide) (by rw [hml]; rfl) e12 opd_11 [(.int 4), (.int 2)] [(.int 0), (.ref nb12), (.int 0), (.ref ba)] rfl rfl rfl rfl (by decide) (by decide) rfl rfl (by decide) (by decide) (hb hby d32_24) rfl (fun v13 T13 h13 L13 X13 e13 z13 => ?_)
 obtain ⟨rfl, Nq13, hq13⟩ := z13; replace e13 := e13.trans hq13; have N := Fr.app N Nq13
 refine og_arraycopy (pc' := 30) (W := 0) (us := [(.int u0), (.int u1)]) X13 hx hZ (by rw [hml]; rfl) hown (ow161 hw) (ow164 hw) (ow162 hw) (ow163 hw) e13 V_ba V_nb12 rfl (by decide) (by decide) (by decide) (by decide) (by decide) rfl (Nat.le_of_ble_eq_true rfl) N g_nb12 rfl (by decide) (by decide) (hb hby d32_27) rfl (fun T14 h14 l14 X14 e14 N K14 V14 => ?_)
 have V_ba := V_ba.keep K14 (ninS ne_ba_nb12 nin0); have O := O.keep K14 (allS g_nb12 all0); have K := K.trans K14 (allS (Or.inr sz_nb12) all0)
 have V_nb12 : Arv Z h14 nb12 kA12 .byte (2 : Int32) [(.int u0), (.int u1)] (.int 0) := V14
 refine og_aload X14 hx rfl rfl (hb hby d32_30) rfl ?_
 refine og_retR X14 hx hlk hret rfl rfl rfl (hb hby d32_32) (by decide) (by decide) ?_
 rw [e14]; exact ⟨_, _, rfl, N, K, sz_nb12, V_nb12⟩
theorem rm_cr_4_2_0_2 (l : Launch) (Z : State) (a0 : Array Value) (hw : HW a0 Z) (ba : Addr) (kb : ClassId) (u0 u1 u3 : Int32) (h0 : Heap) (n0 : Nat) (O : Old Z n0 h0) (V_ba : Arv Z h0 ba kb .byte (4 : Int32) [(.int u0), (.int u1), (.int 46), (.int u3)] (.int 0)) :
  Con l Z (⟨"java/util/Arrays", "copyOfRange", "([BII)[B"⟩ : MethodName) jdk_65_method_132_code 3 (some (.array .byte)) ({ frames := 2, cells := 1, slots := 2, locals := 34 } : Room) #[(.ref ba), (.int 0), (.int 2)] h0 (fun v h L => ∃ b k, v = some (.ref b) ∧ Fr n0 L ∧ Keep h0 h [] ∧ h0.size ≤ b ∧ Arv Z h b k .byte (2 : Int32) [(.int u0), (.int u1)] (.int 0)) := by
 refine own_startC opn_31 ?_
 intro p e s m below meth c T0 X0 hx hby hml hZ hown hnm hret hlk e0
 have N := Fr.nil n0; have K := Keep.refl h0 []
 refine OG.cast (oef14 m ba (0 : Int32) (2 : Int32)) ?_
 refine og_iloadN X0 hx rfl (hb hby d31_0) rfl ?_
 refine og_if_ne (pc1 := 10) (pc2 := 4) X0 hx (hb hby d31_1) (by decide) (by decide) rfl (fun q => absurd q (by decide)) (fun _ => ?_)
 refine og_iloadN X0 hx rfl (hb hby d31_4) rfl ?_
 refine og_aloadN X0 hx rfl rfl (hb hby d31_5) rfl ?_
 refine og_arraylength X0 hx hZ e0 V_ba (hb hby d31_6) rfl ?_
 refine og_icmp_eq (pc1 := 17) (pc2 := 10) X0 hx (hb hby d31_7) (by decide) (by decide) rfl (fun q => absurd q (by decide)) (fun _ => ?_)
 refine og_aloadN X0 hx rfl rfl (hb hby d31_10) rfl ?_
 refine og_iloadN X0 hx rfl (hb hby d31_11) rfl ?_
 refine og_iloadN X0 hx rfl (hb hby d31_12) rfl ?_
 refine og_static (pc' := 16) (cells' := 1) (slots' := 2) (W := 0) X0 hx hZ (rm_crb_4_2_0_2 l Z a0 hw ba kb u0 u1 u3 h0 n0 O V_ba) hown (ow154 hw) (ow155 hw) (ow152 hw) (ow156 hw) (by decide) (by rw [hml]; rfl) e0 opd_17 [(.ref ba), (.int 0), (.int 2)] [] rfl rfl rfl rfl (by decide) (by decide) rfl rfl (by decide) (by decide) (hb hby d31_13) rfl (fun v11 T11 h11 L11 X11 e11 z11 => ?_)
 obtain ⟨nb11, k11, rfl, Nq11, K11, sb11, V_nb11⟩ := z11; have N := Fr.app N Nq11
 have s_nb11 : h0.size ≤ nb11 := sb11; have g_nb11 : n0 ≤ nb11 := Nat.le_trans (own_n0 O) s_nb11; have sz_nb11 : h0.size ≤ nb11 := Nat.le_trans K.1 s_nb11; have ne_ba_nb11 : ba ≠ nb11 := Nat.ne_of_lt (Nat.lt_of_lt_of_le V_ba.lt s_nb11)
 have V_ba := V_ba.keep K11 nin0; have O := O.keep K11 all0; have K := K.trans K11 all0
 refine og_retR X11 hx hlk hret rfl rfl rfl (hb hby d31_16) (by decide) (by decide) ?_
 rw [e11]; exact ⟨_, _, rfl, N, K, sz_nb11, V_nb11⟩
theorem rm_ns_4_2_0_2 (l : Launch) (Z : State) (a0 : Array Value) (hw : HW a0 Z) (ba : Addr) (kb : ClassId) (u0 u1 u3 : Int32) (h0 : Heap) (n0 : Nat) (O : Old Z n0 h0) (V_ba : Arv Z h0 ba kb .byte (4 : Int32) [(.int u0), (.int u1), (.int 46), (.int u3)] (.int 0)) :
  Con l Z (⟨"java/lang/StringLatin1", "newString", "([BII)Ljava/lang/String;"⟩ : MethodName) jdk_43_method_47_code 3 (some (.object "java/lang/String")) ({ frames := 3, cells := 2, slots := 6, locals := 50 } : Room) #[(.ref ba), (.int 0), (.int 2)] h0 (fun v h L => ∃ a b k, v = some (.ref a) ∧ Fr n0 L ∧ Keep h0 h [] ∧ h0.size ≤ a ∧ h0.size ≤ b ∧ Exa Z h a "java/lang/String" ∧ Fld Z h a "java/lang/String" "value" "[B" (.ref b) ∧ Fld Z h a "java/lang/String" "coder" "B" (.int 0) ∧ Arv Z h b k .byte (2 : Int32) [(.int u0), (.int u1)] (.int 0)) := by
 refine own_startC opn_30 ?_
 intro p e s m below meth c T0 X0 hx hby hml hZ hown hnm hret hlk e0
 have N := Fr.nil n0; have K := Keep.refl h0 []
 refine OG.cast (oef14 m ba (0 : Int32) (2 : Int32)) ?_
 refine og_iloadN X0 hx rfl (hb hby d30_0) rfl ?_
 refine og_if_ne (pc1 := 7) (pc2 := 4) X0 hx (hb hby d30_1) (by decide) (by decide) rfl (fun _ => ?_) (fun q => absurd q (by decide))
 refine og_new (pc' := 10) (cells' := 1) (slots' := 4) X0 hx hZ hown (ow149 hw) (ow10 hw) (ow11 hw) e0 (hb hby d30_7) rfl rfl rfl (by decide) (by decide) (fun T11 h11 nb11 X11 e11 E11 q11 E_nb11 D11 B11 => ?_)
 have s_nb11 : h0.size ≤ nb11 := Nat.le_of_eq q11.symm; have g_nb11 : n0 ≤ nb11 := Nat.le_trans (own_n0 O) s_nb11; have sz_nb11 : h0.size ≤ nb11 := Nat.le_trans K.1 s_nb11; have ne_ba_nb11 : ba ≠ nb11 := Nat.ne_of_lt (Nat.lt_of_lt_of_le V_ba.lt s_nb11)
 have V_ba := V_ba.ext E11; have O := O.ext E11; have K := K.ext E11
 have F_value_nb11 : Fld Z h11 nb11 "java/lang/String" "value" "[B" .null := D11 (Or.inr (ow24 hw)) (ty := (.array .byte)) (by decide)
 have F_coder_nb11 : Fld Z h11 nb11 "java/lang/String" "coder" "B" (.int 0) := D11 (Or.inr (ow25 hw)) (ty := .byte) (by decide)
 refine og_dup X11 hx rfl (hb hby d30_10) rfl ?_
 refine og_aloadN X11 hx rfl rfl (hb hby d30_11) rfl ?_
 refine og_iloadN X11 hx rfl (hb hby d30_12) rfl ?_
 refine og_iloadN X11 hx rfl (hb hby d30_13) rfl ?_
 refine og_iloadN X11 hx rfl (hb hby d30_14) rfl ?_
 refine og_iadd X11 hx (hb hby d30_15) rfl ?_
 show OG p e below _ (T11.setTop (mkF m 16 #[.val (.ref ba), .val (.int 0), .val (.int 2)] [(.int 2), (.int 0), (.ref ba), (.ref nb11), (.ref nb11)]))
 refine og_static (pc' := 19) (cells' := 2) (slots' := 6) (W := 2) X11 hx hZ (rm_cr_4_2_0_2 l Z a0 hw ba kb u0 u1 u3 h11 n0 O V_ba) hown (ow150 hw) (ow151 hw) (ow152 hw) (ow153 hw) (by decide) (by rw [hml]; rfl) e11 opd_17 [(.ref ba), (.int 0), (.int 2)] [(.ref nb11), (.ref nb11)] rfl rfl rfl rfl (by decide) (by decide) rfl rfl (by decide) (by decide) (hb hby d30_16) rfl (fun v12 T12 h12 L12 X12 e12 z12 => ?_)
 obtain ⟨nb12, k12, rfl, Nq12, K12, sb12, V_nb12⟩ := z12; have N := Fr.app N Nq12
 have s_nb12 : h11.size ≤ nb12 := sb12; have g_nb12 : n0 ≤ nb12 := Nat.le_trans (own_n0 O) s_nb12; have sz_nb12 : h0.size ≤ nb12 := Nat.le_trans K.1 s_nb12; have ne_ba_nb12 : ba ≠ nb12 := Nat.ne_of_lt (Nat.lt_of_lt_of_le V_ba.lt s_nb12); have ne_nb11_nb12 : nb11 ≠ nb12 := Nat.ne_of_lt (Nat.lt_of_lt_of_le E_nb11.lt s_nb12)
 have V_ba := V_ba.keep K12 nin0; have E_nb11 := E_nb11.keep K12; have F_value_nb11 := F_value_nb11.keep K12 nin0; have F_coder_nb11 := F_coder_nb11.keep K12 nin0; have O := O.keep K12 all0; have K := K.trans K12 all0
 refine og_iconst (v := (0 : Int32)) X12 hx rfl (hb hby d30_19) rfl ?_
 refine og_special (pc' := 23) (cells' := 2) (slots' := 6) (W := 1) X12 hx hZ (rm_si l Z a0 hw nb11 nb12 h12 n0 O E_nb11 F_value_nb11 F_coder_nb11 g_nb11) rfl hown (ow165 hw) (ow166 hw) (ow11 hw) (ow167 hw) (by decide) (by rw [hml]; rfl) e12 opd_18 [(.ref nb12), (.int 0)] [(.ref nb11)] rfl rfl rfl rfl (by decide) (by decide) rfl rfl (by decide) (by decide) (hb hby d30_20) rfl (fun v13 T13 h13 L13 X13 e13 z13 => ?_)
 obtain ⟨rfl, Nq13, K13, E_nb11', F_value_nb11', F_coder_nb11'⟩ := z13; have N := Fr.app N Nq13
 have V_ba := V_ba.keep K13 (ninS ne_ba_nb11 nin0); have E_nb11 := E_nb11.keep K13; have V_nb12 := V_nb12.keep K13 (ninS (Ne.symm ne_nb11_nb12) nin0); have O := O.keep K13 (allS g_nb11 all0); have K := K.trans K13 (allS (Or.inr sz_nb11) all0)
 have E_nb11 := E_nb11'; have F_value_nb11 := F_value_nb11'; have F_coder_nb11 := F_coder_nb11'
 refine og_retR X13 hx hlk hret rfl rfl rfl (hb hby d30_23) (by decide) (by decide) ?_
 rw [e13]; exact ⟨_, _, _, rfl, N, K, sz_nb11, sz_nb12, E_nb11, F_value_nb11, F_coder_nb11, V_nb12⟩
theorem rm_ft_0_2_4 (l : Launch) (Z : State) (a0 : Array Value) (hw : HW a0 Z) (fm : Value) (hfm : fm.isRef = true) (h0 : Heap) (n0 : Nat) (O : Old Z n0 h0) :
  Con l Z (⟨"jdk/internal/util/Preconditions", "checkFromToIndex", "(IIILjava/util/function/BiFunction;)I"⟩ : MethodName) jdk_41_method_12_code 4 (some .int) ({ frames := 0, cells := 0, slots := 0, locals := 0 } : Room) #[(.int 0), (.int 2), (.int 4), fm] h0 (fun v h L => v = some (.int 0) ∧ Fr n0 L ∧ h = h0) := by
 refine own_startC opn_29 ?_
 intro p e s m below meth c T0 X0 hx hby hml hZ hown hnm hret hlk e0
 have N := Fr.nil n0; have K := Keep.refl h0 []
 refine OG.cast (oef17 m (0 : Int32) (2 : Int32) (4 : Int32) fm hfm) ?_
 refine og_iloadN X0 hx rfl (hb hby d29_0) rfl ?_
 refine og_if_lt (pc1 := 14) (pc2 := 4) X0 hx (hb hby d29_1) (by decide) (by decide) rfl (fun q => absurd q (by decide)) (fun _ => ?_)
 refine og_iloadN X0 hx rfl (hb hby d29_4) rfl ?_
 refine og_iloadN X0 hx rfl (hb hby d29_5) rfl ?_
 refine og_icmp_gt (pc1 := 14) (pc2 := 9) X0 hx (hb hby d29_6) (by decide) (by decide) rfl (fun q => absurd q (by decide)) (fun _ => ?_)
 refine og_iloadN X0 hx rfl (hb hby d29_9) rfl ?_
 refine og_iloadN X0 hx rfl (hb hby d29_10) rfl ?_
 refine og_icmp_le (pc1 := 22) (pc2 := 14) X0 hx (hb hby d29_11) (by decide) (by decide) rfl (fun _ => ?_) (fun q => absurd q (by decide))
 refine og_iloadN X0 hx rfl (hb hby d29_22) rfl ?_
 refine og_retI X0 hx hlk hret (hb hby d29_23) (by decide) (by decide) ?_
 rw [e0]; exact ⟨rfl, N, rfl⟩
theorem rm_cb_0_2_4 (l : Launch) (Z : State) (a0 : Array Value) (hw : HW a0 Z) (fm : Value) (hfm : fm.isRef = true) (h0 : Heap) (n0 : Nat) (O : Old Z n0 h0) (S_FM : Sta Z Z.heap "jdk/internal/util/Preconditions" "SIOOBE_FORMATTER" "Ljava/util/function/BiFunction;" fm) :
  Con l Z (⟨"java/lang/String", "checkBoundsBeginEnd", "(III)V"⟩ : MethodName) jdk_42_method_158_code 3 none ({ frames := 1, cells := 0, slots := 0, locals := 15 } : Room) #[(.int 0), (.int 2), (.int 4)] h0 (fun v h L => v = none ∧ Fr n0 L ∧ h = h0) := by
 refine own_startC opn_28 ?_
 intro p e s m below meth c T0 X0 hx hby hml hZ hown hnm hret hlk e0
 have N := Fr.nil n0; have K := Keep.refl h0 []
 refine OG.cast (oef18 m (0 : Int32) (2 : Int32) (4 : Int32)) ?_
 refine og_iloadN X0 hx rfl (hb hby d28_0) rfl ?_
 refine og_iloadN X0 hx rfl (hb hby d28_1) rfl ?_
 refine og_iloadN X0 hx rfl (hb hby d28_2) rfl ?_
 refine og_getstatic X0 hx hZ (host := "") hown (Or.inl (ow141 hw)) Via.refl e0 (S_FM.ext O.2) (hb hby d28_3) rfl (fun T11 X11 e11 => ?_)
 refine og_static (pc' := 9) (cells' := 0) (slots' := 0) (W := 0) X11 hx hZ (rm_ft_0_2_4 l Z a0 hw fm hfm h0 n0 O) hown (ow143 hw) (ow144 hw) (ow142 hw) (ow145 hw) (by decide) (by rw [hml]; rfl) e11 opd_19 [(.int 0), (.int 2), (.int 4), fm] [] rfl rfl rfl rfl (by decide) (by decide) rfl rfl (by decide) (by decide) (hb hby d28_6) rfl (fun v12 T12 h12 L12 X12 e12 z12 => ?_)
 obtain ⟨rfl, Nq12, hq12⟩ := z12; replace e12 := e12.trans hq12; have N := Fr.app N Nq12
 refine og_pop X12 hx rfl (hb hby d28_9) rfl ?_
 refine og_retV X12 hx hlk hret (hb hby d28_10) (by decide) (by decide) ?_
 rw [e12]; exact ⟨rfl, N, rfl⟩
theorem rm_ss_4_2_0_2 (l : Launch) (Z : State) (a0 : Array Value) (hw : HW a0 Z) (a1 ba : Addr) (kb : ClassId) (u0 u1 u3 : Int32) (cs : Int32) (hcs : ¬ cs = 0) (fm : Value) (hfm : fm.isRef = true) (h0 : Heap) (n0 : Nat) (O : Old Z n0 h0) (E_a1 : Exa Z h0 a1 "java/lang/String") (F_value_a1 : Fld Z h0 a1 "java/lang/String" "value" "[B" (.ref ba)) (F_coder_a1 : Fld Z h0 a1 "java/lang/String" "coder" "B" (.int 0)) (V_ba : Arv Z h0 ba kb .byte (4 : Int32) [(.int u0), (.int u1), (.int 46), (.int u3)] (.int 0)) (S_CS : Sta Z Z.heap "java/lang/String" "COMPACT_STRINGS" "Z" (.int cs)) (S_FM : Sta Z Z.heap "jdk/internal/util/Preconditions" "SIOOBE_FORMATTER" "Ljava/util/function/BiFunction;" fm) :
  Con l Z (⟨"java/lang/String", "substring", "(II)Ljava/lang/String;"⟩ : MethodName) jdk_42_method_92_code 5 (some (.object "java/lang/String")) ({ frames := 4, cells := 2, slots := 6, locals := 64 } : Room) #[(.ref a1), (.int 0), (.int 2)] h0 (fun v h L => ∃ a b k, v = some (.ref a) ∧ Fr n0 L ∧ Keep h0 h [] ∧ h0.size ≤ a ∧ h0.size ≤ b ∧ Exa Z h a "java/lang/String" ∧ Fld Z h a "java/lang/String" "value" "[B" (.ref b) ∧ Fld Z h a "java/lang/String" "coder" "B" (.int 0) ∧ Arv Z h b k .byte (2 : Int32) [(.int u0), (.int u1)] (.int 0)) := by
 refine own_startC opn_27 ?_
 intro p e s m below meth c T0 X0 hx hby hml hZ hown hnm hret hlk e0
 have N := Fr.nil n0; have K := Keep.refl h0 []
 refine OG.cast (oef16 m a1 (0 : Int32) (2 : Int32)) ?_
 refine og_aloadN X0 hx rfl rfl (hb hby d27_0) rfl ?_
 refine og_virtual (pc' := 4) (cells' := 0) (slots' := 0) (W := 0) X0 hx hZ (rm_len l Z a0 hw a1 ba kb (4 : Int32) _ cs hcs h0 n0 O E_a1 F_value_a1 F_coder_a1 V_ba S_CS) hown (ow65 hw) (ow66 hw) (own_nf hZ (ow68 hw)) (ow68 hw) (ow67 hw) (ow11 hw) (ow69 hw) (by decide) (by rw [hml]; rfl) e0 opd_13 [] [] rfl rfl rfl rfl (by decide) (by decide) rfl rfl (by decide) (by decide) E_a1 (hb hby d27_1) rfl (fun v11 T11 h11 L11 X11 e11 z11 => ?_)
 obtain ⟨rfl, Nq11, hq11⟩ := z11; replace e11 := e11.trans hq11; have N := Fr.app N Nq11
 refine og_istoreN (L' := #[.val (.ref a1), .val (.int 0), .val (.int 2), .val (.int 4), .unset]) X11 hx rfl (hb hby d27_4) rfl ?_
 refine og_iloadN X11 hx rfl (hb hby d27_5) rfl ?_
 refine og_iloadN X11 hx rfl (hb hby d27_6) rfl ?_
 refine og_iloadN X11 hx rfl (hb hby d27_7) rfl ?_
 refine og_static (pc' := 11) (cells' := 0) (slots' := 0) (W := 0) X11 hx hZ (rm_cb_0_2_4 l Z a0 hw fm hfm h0 n0 O S_FM) hown (ow138 hw) (ow139 hw) (ow11 hw) (ow140 hw) (by decide) (by rw [hml]; rfl) e11 opd_20 [(.int 0), (.int 2), (.int 4)] [] rfl rfl rfl rfl (by decide) (by decide) rfl rfl (by decide) (by decide) (hb hby d27_8) rfl (fun v12 T12 h12 L12 X12 e12 z12 => ?_)
 obtain ⟨rfl, Nq12, hq12⟩ := z12; replace e12 := e12.trans hq12; have N := Fr.app N Nq12
 refine og_iloadN X12 hx rfl (hb hby d27_11) rfl ?_
 refine og_if_ne (pc1 := 22) (pc2 := 15) X12 hx (hb hby d27_12) (by decide) (by decide) rfl (fun q => absurd q (by decide)) (fun _ => ?_)
 refine og_iloadN X12 hx rfl (hb hby d27_15) rfl ?_
 refine og_iloadN X12 hx rfl (hb hby d27_16) rfl ?_
 refine og_icmp_ne (pc1 := 22) (pc2 := 20) X12 hx (hb hby d27_17) (by decide) (by decide) rfl (fun _ => ?_) (fun q => absurd q (by decide))
 refine og_iloadN X12 hx rfl (hb hby d27_22) rfl ?_
 refine og_iloadN X12 hx rfl (hb hby d27_23) rfl ?_
 refine og_isub X12 hx (hb hby d27_24) rfl ?_
 show OG p e below _ (T12.setTop (mkF m 25 #[.val (.ref a1), .val (.int 0), .val (.int 2), .val (.int 4), .unset] [(.int 2)]))
 refine og_istore (L' := #[.val (.ref a1), .val (.int 0), .val (.int 2), .val (.int 4), .val (.int 2)]) X12 hx rfl (hb hby d27_25) rfl ?_
 refine og_aloadN X12 hx rfl rfl (hb hby d27_27) rfl ?_
 refine og_virtual (pc' := 31) (cells' := 0) (slots' := 0) (W := 0) X12 hx hZ (rm_il l Z a0 hw a1 cs hcs h0 n0 O F_coder_a1 S_CS) hown (ow60 hw) (ow61 hw) (own_nf hZ (ow63 hw)) (ow63 hw) (ow62 hw) (ow11 hw) (ow64 hw) (by decide) (by rw [hml]; rfl) e12 opd_9 [] [] rfl rfl rfl rfl (by decide) (by decide) rfl rfl (by decide) (by decide) E_a1 (hb hby d27_28) rfl (fun v13 T13 h13 L13 X13 e13 z13 => ?_)
 obtain ⟨rfl, Nq13, hq13⟩ := z13; replace e13 := e13.trans hq13; have N := Fr.app N Nq13
 refine og_if_eq (pc1 := 47) (pc2 := 34) X13 hx (hb hby d27_31) (by decide) (by decide) rfl (fun q => absurd q (by decide)) (fun _ => ?_)
 refine og_aloadN X13 hx rfl rfl (hb hby d27_34) rfl ?_
 refine og_getfield X13 hx hZ (host := "") hown (Or.inl (ow28 hw)) Via.refl e13 F_value_a1 (hb hby d27_35) rfl (fun T14 X14 e14 => ?_)
 refine og_iloadN X14 hx rfl (hb hby d27_38) rfl ?_
 refine og_iload X14 hx rfl (hb hby d27_39) rfl ?_
 refine og_static (pc' := 44) (cells' := 2) (slots' := 6) (W := 0) X14 hx hZ (rm_ns_4_2_0_2 l Z a0 hw ba kb u0 u1 u3 h0 n0 O V_ba) hown (ow146 hw) (ow147 hw) (ow77 hw) (ow148 hw) (by decide) (by rw [hml]; rfl) e14 opd_21 [(.ref ba), (.int 0), (.int 2)] [] rfl rfl rfl rfl (by decide) (by decide) rfl rfl (by decide) (by decide) (hb hby d27_41) rfl (fun v15 T15 h15 L15 X15 e15 z15 => ?_)
 obtain ⟨na15, nb15, k15, rfl, Nq15, K15, sa15, sb15, E_na15, F_value_na15, F_coder_na15, V_nb15⟩ := z15; have N := Fr.app N Nq15
 have s_na15 : h0.size ≤ na15 := sa15; have g_na15 : n0 ≤ na15 := Nat.le_trans (own_n0 O) s_na15; have sz_na15 : h0.size ≤ na15 := Nat.le_trans K.1 s_na15; have ne_a1_na15 : a1 ≠ na15 := Nat.ne_of_lt (Nat.lt_of_lt_of_le E_a1.lt s_na15); have ne_ba_na15 : ba ≠ na15 := Nat.ne_of_lt (Nat.lt_of_lt_of_le V_ba.lt s_na15)
 have s_nb15 : h0.size ≤ nb15 := sb15; have g_nb15 : n0 ≤ nb15 := Nat.le_trans (own_n0 O) s_nb15; have sz_nb15 : h0.size ≤ nb15 := Nat.le_trans K.1 s_nb15; have ne_a1_nb15 : a1 ≠ nb15 := Nat.ne_of_lt (Nat.lt_of_lt_of_le E_a1.lt s_nb15); have ne_ba_nb15 : ba ≠ nb15 := Nat.ne_of_lt (Nat.lt_of_lt_of_le V_ba.lt s_nb15)
 have E_a1 := E_a1.keep K15; have F_value_a1 := F_value_a1.keep K15 nin0; have F_coder_a1 := F_coder_a1.keep K15 nin0; have V_ba := V_ba.keep K15 nin0; have O := O.keep K15 all0; have K := K.trans K15 all0
 refine og_goto (pc' := 57) X15 hx (hb hby d27_44) (by decide) (by decide) ?_
 refine og_retR X15 hx hlk hret rfl rfl rfl (hb hby d27_57) (by decide) (by decide) ?_
 rw [e15]; exact ⟨_, _, _, rfl, N, K, sz_na15, sz_nb15, E_na15, F_value_na15, F_coder_na15, V_nb15⟩
theorem rm_cl_3_4 (l : Launch) (Z : State) (a0 : Array Value) (hw : HW a0 Z)  (h0 : Heap) (n0 : Nat) (O : Old Z n0 h0) :
  Con l Z (⟨"java/util/Arrays", "checkLength", "(II)V"⟩ : MethodName) jdk_65_method_131_code 2 none ({ frames := 0, cells := 0, slots := 0, locals := 0 } : Room) #[(.int 3), (.int 4)] h0 (fun v h L => v = none ∧ Fr n0 L ∧ h = h0) := by
 refine own_startC opn_33 ?_
 intro p e s m below meth c T0 X0 hx hby hml hZ hown hnm hret hlk e0
 have N := Fr.nil n0; have K := Keep.refl h0 []
 refine OG.cast (oef11 m (3 : Int32) (4 : Int32)) ?_
 refine og_iloadN X0 hx rfl (hb hby d33_0) rfl ?_
 refine og_iloadN X0 hx rfl (hb hby d33_1) rfl ?_
 refine og_icmp_ge (pc1 := 37) (pc2 := 5) X0 hx (hb hby d33_2) (by decide) (by decide) rfl (fun _ => ?_) (fun q => absurd q (by decide))
 refine og_retV X0 hx hlk hret (hb hby d33_37) (by decide) (by decide) ?_
 rw [e0]; exact ⟨rfl, N, rfl⟩
theorem rm_crb_4_2_3_4 (l : Launch) (Z : State) (a0 : Array Value) (hw : HW a0 Z) (ba : Addr) (kb : ClassId) (u0 u1 u3 : Int32) (h0 : Heap) (n0 : Nat) (O : Old Z n0 h0) (V_ba : Arv Z h0 ba kb .byte (4 : Int32) [(.int u0), (.int u1), (.int 46), (.int u3)] (.int 0)) :
  Con l Z (⟨"java/util/Arrays", "copyOfRangeByte", "([BII)[B"⟩ : MethodName) jdk_65_method_133_code 5 (some (.array .byte)) ({ frames := 1, cells := 1, slots := 1, locals := 18 } : Room) #[(.ref ba), (.int 3), (.int 4)] h0 (fun v h L => ∃ b k, v = some (.ref b) ∧ Fr n0 L ∧ Keep h0 h [] ∧ h0.size ≤ b ∧ Arv Z h b k .byte (1 : Int32) [(.int u3)] (.int 0)) := by
 refine own_startC opn_32 ?_
 intro p e s m below meth c T0 X0 hx hby hml hZ hown hnm hret hlk e0
 have N := Fr.nil n0; have K := Keep.refl h0 []
 refine OG.cast (oef16 m ba (3 : Int32) (4 : Int32)) ?_
 refine og_iloadN X0 hx rfl (hb hby d32_0) rfl ?_
 refine og_iloadN X0 hx rfl (hb hby d32_1) rfl ?_
 refine og_static (pc' := 5) (cells' := 0) (slots' := 0) (W := 0) X0 hx hZ (rm_cl_3_4 l Z a0 hw h0 n0 O) hown (ow157 hw) (ow158 hw) (ow152 hw) (ow159 hw) (by decide) (by rw [hml]; rfl) e0 opd_16 [(.int 3), (.int 4)] [] rfl rfl rfl rfl (by decide) (by decide) rfl rfl (by decide) (by decide) (hb hby d32_2) rfl (fun v11 T11 h11 L11 X11 e11 z11 => ?_)
 obtain ⟨rfl, Nq11, hq11⟩ := z11; replace e11 := e11.trans hq11; have N := Fr.app N Nq11
 refine og_iloadN X11 hx rfl (hb hby d32_5) rfl ?_
 refine og_iloadN X11 hx rfl (hb hby d32_6) rfl ?_
 refine og_isub X11 hx (hb hby d32_7) rfl ?_
 show OG p e below _ (T11.setTop (mkF m 8 #[.val (.ref ba), .val (.int 3), .val (.int 4), .unset, .unset] [(.int 1)]))
 refine og_istoreN (L' := #[.val (.ref ba), .val (.int 3), .val (.int 4), .val (.int 1), .unset]) X11 hx rfl (hb hby d32_8) rfl ?_
 refine og_iloadN X11 hx rfl (hb hby d32_9) rfl ?_
 refine og_newarray (pc' := 12) (cells' := 1) (slots' := 1) (cap := 1) (ty := .byte) X11 hx hZ rfl (ow23 hw) e11 (by decide) (by decide) (by decide) (hb hby d32_10) rfl rfl rfl (by decide) (by decide) (fun T12 h12 nb12 kA12 X12 e12 E12 q12 V_nb12 => ?_)
 have s_nb12 : h0.size ≤ nb12 := Nat.le_of_eq q12.symm; have g_nb12 : n0 ≤ nb12 := Nat.le_trans (own_n0 O) s_nb12; have sz_nb12 : h0.size ≤ nb12 := Nat.le_trans K.1 s_nb12; have ne_ba_nb12 : ba ≠ nb12 := Nat.ne_of_lt (Nat.lt_of_lt_of_le V_ba.lt s_nb12)
 have V_ba := V_ba.ext E12; have O := O.ext E12; have K := K.ext E12
 have V_nb12 : Arv Z h12 nb12 kA12 .byte (1 : Int32) [(.int 0)] (.int 0) := V_nb12.pad (pad_rep [] (.int 0) 1)
 refine og_astore (L' := #[.val (.ref ba), .val (.int 3), .val (.int 4), .val (.int 1), .val (.ref nb12)]) X12 hx rfl rfl (hb hby d32_12) rfl ?_
 refine og_aloadN X12 hx rfl rfl (hb hby d32_14) rfl ?_
 refine og_iloadN X12 hx rfl (hb hby d32_15) rfl ?_
 refine og_aload X12 hx rfl rfl (hb hby d32_16) rfl ?_
 refine og_iconst (v := (0 : Int32)) X12 hx rfl (hb hby d32_18) rfl ?_
 refine og_aloadN X12 hx rfl rfl (hb hby d32_19) rfl ?_
 refine og_arraylength X12 hx hZ e12 V_ba (hb hby d32_20) rfl ?_
 refine og_iloadN X12 hx rfl (hb hby d32_21) rfl ?_
 refine og_isub X12 hx (hb hby d32_22) rfl ?_
 show OG p e below _ (T12.setTop (mkF m 23 #[.val (.ref ba), .val (.int 3), .val (.int 4), .val (.int 1), .val (.ref nb12)] [(.int 1), (.int 0), (.ref nb12), (.int 3), (.ref ba)]))
 refine og_iloadN X12 hx rfl (hb hby d32_23) rfl ?_
 refine og_static (pc' := 27) (cells' := 1) (slots' := 1) (W := 4) X12 hx hZ (rm_min_1_1 l Z a0 hw h12 n0 O) hown (ow160 hw) (ow87 hw) (ow84 hw) (ow88 hw) (by decide) (by rw [hml]; rfl) e12 opd_11 [(.int 1), (.int 1)] [(.int 0), (.ref nb12), (.int 3), (.ref ba)] rfl rfl rfl rfl (by decide) (by decide) rfl rfl (by decide) (by decide) (hb hby d32_24) rfl (fun v13 T13 h13 L13 X13 e13 z13 => ?_)
 obtain ⟨rfl, Nq13, hq13⟩ := z13; replace e13 := e13.trans hq13; have N := Fr.app N Nq13
 refine og_arraycopy (pc' := 30) (W := 0) (us := [(.int u3)]) X13 hx hZ (by rw [hml]; rfl) hown (ow161 hw) (ow164 hw) (ow162 hw) (ow163 hw) e13 V_ba V_nb12 rfl (by decide) (by decide) (by decide) (by decide) (by decide) rfl (Nat.le_of_ble_eq_true rfl) N g_nb12 rfl (by decide) (by decide) (hb hby d32_27) rfl (fun T14 h14 l14 X14 e14 N K14 V14 => ?_)
 have V_ba := V_ba.keep K14 (ninS ne_ba_nb12 nin0); have O := O.keep K14 (allS g_nb12 all0); have K := K.trans K14 (allS (Or.inr sz_nb12) all0)
 have V_nb12 : Arv Z h14 nb12 kA12 .byte (1 : Int32) [(.int u3)] (.int 0) := V14
 refine og_aload X14 hx rfl rfl (hb hby d32_30) rfl ?_
 refine og_retR X14 hx hlk hret rfl rfl rfl (hb hby d32_32) (by decide) (by decide) ?_
 rw [e14]; exact ⟨_, _, rfl, N, K, sz_nb12, V_nb12⟩
theorem rm_cr_4_2_3_4 (l : Launch) (Z : State) (a0 : Array Value) (hw : HW a0 Z) (ba : Addr) (kb : ClassId) (u0 u1 u3 : Int32) (h0 : Heap) (n0 : Nat) (O : Old Z n0 h0) (V_ba : Arv Z h0 ba kb .byte (4 : Int32) [(.int u0), (.int u1), (.int 46), (.int u3)] (.int 0)) :
  Con l Z (⟨"java/util/Arrays", "copyOfRange", "([BII)[B"⟩ : MethodName) jdk_65_method_132_code 3 (some (.array .byte)) ({ frames := 2, cells := 1, slots := 1, locals := 34 } : Room) #[(.ref ba), (.int 3), (.int 4)] h0 (fun v h L => ∃ b k, v = some (.ref b) ∧ Fr n0 L ∧ Keep h0 h [] ∧ h0.size ≤ b ∧ Arv Z h b k .byte (1 : Int32) [(.int u3)] (.int 0)) := by
 refine own_startC opn_31 ?_
 intro p e s m below meth c T0 X0 hx hby hml hZ hown hnm hret hlk e0
 have N := Fr.nil n0; have K := Keep.refl h0 []
 refine OG.cast (oef14 m ba (3 : Int32) (4 : Int32)) ?_
 refine og_iloadN X0 hx rfl (hb hby d31_0) rfl ?_
 refine og_if_ne (pc1 := 10) (pc2 := 4) X0 hx (hb hby d31_1) (by decide) (by decide) rfl (fun _ => ?_) (fun q => absurd q (by decide))
 refine og_aloadN X0 hx rfl rfl (hb hby d31_10) rfl ?_
 refine og_iloadN X0 hx rfl (hb hby d31_11) rfl ?_
 refine og_iloadN X0 hx rfl (hb hby d31_12) rfl ?_
 refine og_static (pc' := 16) (cells' := 1) (slots' := 1) (W := 0) X0 hx hZ (rm_crb_4_2_3_4 l Z a0 hw ba kb u0 u1 u3 h0 n0 O V_ba) hown (ow154 hw) (ow155 hw) (ow152 hw) (ow156 hw) (by decide) (by rw [hml]; rfl) e0 opd_17 [(.ref ba), (.int 3), (.int 4)] [] rfl rfl rfl rfl (by decide) (by decide) rfl rfl (by decide) (by decide) (hb hby d31_13) rfl (fun v11 T11 h11 L11 X11 e11 z11 => ?_)
 obtain ⟨nb11, k11, rfl, Nq11, K11, sb11, V_nb11⟩ := z11; have N := Fr.app N Nq11
 have s_nb11 : h0.size ≤ nb11 := sb11; have g_nb11 : n0 ≤ nb11 := Nat.le_trans (own_n0 O) s_nb11; have sz_nb11 : h0.size ≤ nb11 := Nat.le_trans K.1 s_nb11; have ne_ba_nb11 : ba ≠ nb11 := Nat.ne_of_lt (Nat.lt_of_lt_of_le V_ba.lt s_nb11)
 have V_ba := V_ba.keep K11 nin0; have O := O.keep K11 all0; have K := K.trans K11 all0
 refine og_retR X11 hx hlk hret rfl rfl rfl (hb hby d31_16) (by decide) (by decide) ?_
 rw [e11]; exact ⟨_, _, rfl, N, K, sz_nb11, V_nb11⟩
theorem rm_ns_4_2_3_4 (l : Launch) (Z : State) (a0 : Array Value) (hw : HW a0 Z) (ba : Addr) (kb : ClassId) (u0 u1 u3 : Int32) (h0 : Heap) (n0 : Nat) (O : Old Z n0 h0) (V_ba : Arv Z h0 ba kb .byte (4 : Int32) [(.int u0), (.int u1), (.int 46), (.int u3)] (.int 0)) :
  Con l Z (⟨"java/lang/StringLatin1", "newString", "([BII)Ljava/lang/String;"⟩ : MethodName) jdk_43_method_47_code 3 (some (.object "java/lang/String")) ({ frames := 3, cells := 2, slots := 5, locals := 50 } : Room) #[(.ref ba), (.int 3), (.int 1)] h0 (fun v h L => ∃ a b k, v = some (.ref a) ∧ Fr n0 L ∧ Keep h0 h [] ∧ h0.size ≤ a ∧ h0.size ≤ b ∧ Exa Z h a "java/lang/String" ∧ Fld Z h a "java/lang/String" "value" "[B" (.ref b) ∧ Fld Z h a "java/lang/String" "coder" "B" (.int 0) ∧ Arv Z h b k .byte (1 : Int32) [(.int u3)] (.int 0)) := by
 refine own_startC opn_30 ?_
 intro p e s m below meth c T0 X0 hx hby hml hZ hown hnm hret hlk e0
 have N := Fr.nil n0; have K := Keep.refl h0 []
 refine OG.cast (oef14 m ba (3 : Int32) (1 : Int32)) ?_
 refine og_iloadN X0 hx rfl (hb hby d30_0) rfl ?_
 refine og_if_ne (pc1 := 7) (pc2 := 4) X0 hx (hb hby d30_1) (by decide) (by decide) rfl (fun _ => ?_) (fun q => absurd q (by decide))
 refine og_new (pc' := 10) (cells' := 1) (slots' := 4) X0 hx hZ hown (ow149 hw) (ow10 hw) (ow11 hw) e0 (hb hby d30_7) rfl rfl rfl (by decide) (by decide) (fun T11 h11 nb11 X11 e11 E11 q11 E_nb11 D11 B11 => ?_)
 have s_nb11 : h0.size ≤ nb11 := Nat.le_of_eq q11.symm; have g_nb11 : n0 ≤ nb11 := Nat.le_trans (own_n0 O) s_nb11; have sz_nb11 : h0.size ≤ nb11 := Nat.le_trans K.1 s_nb11; have ne_ba_nb11 : ba ≠ nb11 := Nat.ne_of_lt (Nat.lt_of_lt_of_le V_ba.lt s_nb11)
 have V_ba := V_ba.ext E11; have O := O.ext E11; have K := K.ext E11
 have F_value_nb11 : Fld Z h11 nb11 "java/lang/String" "value" "[B" .null := D11 (Or.inr (ow24 hw)) (ty := (.array .byte)) (by decide)
 have F_coder_nb11 : Fld Z h11 nb11 "java/lang/String" "coder" "B" (.int 0) := D11 (Or.inr (ow25 hw)) (ty := .byte) (by decide)
 refine og_dup X11 hx rfl (hb hby d30_10) rfl ?_
 refine og_aloadN X11 hx rfl rfl (hb hby d30_11) rfl ?_
 refine og_iloadN X11 hx rfl (hb hby d30_12) rfl ?_
 refine og_iloadN X11 hx rfl (hb hby d30_13) rfl ?_
 refine og_iloadN X11 hx rfl (hb hby d30_14) rfl ?_
 refine og_iadd X11 hx (hb hby d30_15) rfl ?_
 show OG p e below _ (T11.setTop (mkF m 16 #[.val (.ref ba), .val (.int 3), .val (.int 1)] [(.int 4), (.int 3), (.ref ba), (.ref nb11), (.ref nb11)]))
 refine og_static (pc' := 19) (cells' := 2) (slots' := 5) (W := 2) X11 hx hZ (rm_cr_4_2_3_4 l Z a0 hw ba kb u0 u1 u3 h11 n0 O V_ba) hown (ow150 hw) (ow151 hw) (ow152 hw) (ow153 hw) (by decide) (by rw [hml]; rfl) e11 opd_17 [(.ref ba), (.int 3), (.int 4)] [(.ref nb11), (.ref nb11)] rfl rfl rfl rfl (by decide) (by decide) rfl rfl (by decide) (by decide) (hb hby d30_16) rfl (fun v12 T12 h12 L12 X12 e12 z12 => ?_)
 obtain ⟨nb12, k12, rfl, Nq12, K12, sb12, V_nb12⟩ := z12; have N := Fr.app N Nq12
 have s_nb12 : h11.size ≤ nb12 := sb12; have g_nb12 : n0 ≤ nb12 := Nat.le_trans (own_n0 O) s_nb12; have sz_nb12 : h0.size ≤ nb12 := Nat.le_trans K.1 s_nb12; have ne_ba_nb12 : ba ≠ nb12 := Nat.ne_of_lt (Nat.lt_of_lt_of_le V_ba.lt s_nb12); have ne_nb11_nb12 : nb11 ≠ nb12 := Nat.ne_of_lt (Nat.lt_of_lt_of_le E_nb11.lt s_nb12)
 have V_ba := V_ba.keep K12 nin0; have E_nb11 := E_nb11.keep K12; have F_value_nb11 := F_value_nb11.keep K12 nin0; have F_coder_nb11 := F_coder_nb11.keep K12 nin0; have O := O.keep K12 all0; have K := K.trans K12 all0
 refine og_iconst (v := (0 : Int32)) X12 hx rfl (hb hby d30_19) rfl ?_
 refine og_special (pc' := 23) (cells' := 2) (slots' := 5) (W := 1) X12 hx hZ (rm_si l Z a0 hw nb11 nb12 h12 n0 O E_nb11 F_value_nb11 F_coder_nb11 g_nb11) rfl hown (ow165 hw) (ow166 hw) (ow11 hw) (ow167 hw) (by decide) (by rw [hml]; rfl) e12 opd_18 [(.ref nb12), (.int 0)] [(.ref nb11)] rfl rfl rfl rfl (by decide) (by decide) rfl rfl (by decide) (by decide) (hb hby d30_20) rfl (fun v13 T13 h13 L13 X13 e13 z13 => ?_)
 obtain ⟨rfl, Nq13, K13, E_nb11', F_value_nb11', F_coder_nb11'⟩ := z13; have N := Fr.app N Nq13
 have V_ba := V_ba.keep K13 (ninS ne_ba_nb11 nin0); have E_nb11 := E_nb11.keep K13; have V_nb12 := V_nb12.keep K13 (ninS (Ne.symm ne_nb11_nb12) nin0); have O := O.keep K13 (allS g_nb11 all0); have K := K.trans K13 (allS (Or.inr sz_nb11) all0)
 have E_nb11 := E_nb11'; have F_value_nb11 := F_value_nb11'; have F_coder_nb11 := F_coder_nb11'
 refine og_retR X13 hx hlk hret rfl rfl rfl (hb hby d30_23) (by decide) (by decide) ?_
 rw [e13]; exact ⟨_, _, _, rfl, N, K, sz_nb11, sz_nb12, E_nb11, F_value_nb11, F_coder_nb11, V_nb12⟩
theorem rm_ft_3_4_4 (l : Launch) (Z : State) (a0 : Array Value) (hw : HW a0 Z) (fm : Value) (hfm : fm.isRef = true) (h0 : Heap) (n0 : Nat) (O : Old Z n0 h0) :
  Con l Z (⟨"jdk/internal/util/Preconditions", "checkFromToIndex", "(IIILjava/util/function/BiFunction;)I"⟩ : MethodName) jdk_41_method_12_code 4 (some .int) ({ frames := 0, cells := 0, slots := 0, locals := 0 } : Room) #[(.int 3), (.int 4), (.int 4), fm] h0 (fun v h L => v = some (.int 3) ∧ Fr n0 L ∧ h = h0) := by
 refine own_startC opn_29 ?_
 intro p e s m below meth c T0 X0 hx hby hml hZ hown hnm hret hlk e0
 have N := Fr.nil n0; have K := Keep.refl h0 []
 refine OG.cast (oef17 m (3 : Int32) (4 : Int32) (4 : Int32) fm hfm) ?_
 refine og_iloadN X0 hx rfl (hb hby d29_0) rfl ?_
 refine og_if_lt (pc1 := 14) (pc2 := 4) X0 hx (hb hby d29_1) (by decide) (by decide) rfl (fun q => absurd q (by decide)) (fun _ => ?_)
 refine og_iloadN X0 hx rfl (hb hby d29_4) rfl ?_
 refine og_iloadN X0 hx rfl (hb hby d29_5) rfl ?_
 refine og_icmp_gt (pc1 := 14) (pc2 := 9) X0 hx (hb hby d29_6) (by decide) (by decide) rfl (fun q => absurd q (by decide)) (fun _ => ?_)
 refine og_iloadN X0 hx rfl (hb hby d29_9) rfl ?_
 refine og_iloadN X0 hx rfl (hb hby d29_10) rfl ?_
 refine og_icmp_le (pc1 := 22) (pc2 := 14) X0 hx (hb hby d29_11) (by decide) (by decide) rfl (fun _ => ?_) (fun q => absurd q (by decide))
 refine og_iloadN X0 hx rfl (hb hby d29_22) rfl ?_
 refine og_retI X0 hx hlk hret (hb hby d29_23) (by decide) (by decide) ?_
 rw [e0]; exact ⟨rfl, N, rfl⟩
theorem rm_cb_3_4_4 (l : Launch) (Z : State) (a0 : Array Value) (hw : HW a0 Z) (fm : Value) (hfm : fm.isRef = true) (h0 : Heap) (n0 : Nat) (O : Old Z n0 h0) (S_FM : Sta Z Z.heap "jdk/internal/util/Preconditions" "SIOOBE_FORMATTER" "Ljava/util/function/BiFunction;" fm) :
  Con l Z (⟨"java/lang/String", "checkBoundsBeginEnd", "(III)V"⟩ : MethodName) jdk_42_method_158_code 3 none ({ frames := 1, cells := 0, slots := 0, locals := 15 } : Room) #[(.int 3), (.int 4), (.int 4)] h0 (fun v h L => v = none ∧ Fr n0 L ∧ h = h0) := by
 refine own_startC opn_28 ?_
 intro p e s m below meth c T0 X0 hx hby hml hZ hown hnm hret hlk e0
 have N := Fr.nil n0; have K := Keep.refl h0 []
 refine OG.cast (oef18 m (3 : Int32) (4 : Int32) (4 : Int32)) ?_
 refine og_iloadN X0 hx rfl (hb hby d28_0) rfl ?_
 refine og_iloadN X0 hx rfl (hb hby d28_1) rfl ?_
 refine og_iloadN X0 hx rfl (hb hby d28_2) rfl ?_
 refine og_getstatic X0 hx hZ (host := "") hown (Or.inl (ow141 hw)) Via.refl e0 (S_FM.ext O.2) (hb hby d28_3) rfl (fun T11 X11 e11 => ?_)
 refine og_static (pc' := 9) (cells' := 0) (slots' := 0) (W := 0) X11 hx hZ (rm_ft_3_4_4 l Z a0 hw fm hfm h0 n0 O) hown (ow143 hw) (ow144 hw) (ow142 hw) (ow145 hw) (by decide) (by rw [hml]; rfl) e11 opd_19 [(.int 3), (.int 4), (.int 4), fm] [] rfl rfl rfl rfl (by decide) (by decide) rfl rfl (by decide) (by decide) (hb hby d28_6) rfl (fun v12 T12 h12 L12 X12 e12 z12 => ?_)
 obtain ⟨rfl, Nq12, hq12⟩ := z12; replace e12 := e12.trans hq12; have N := Fr.app N Nq12
 refine og_pop X12 hx rfl (hb hby d28_9) rfl ?_
 refine og_retV X12 hx hlk hret (hb hby d28_10) (by decide) (by decide) ?_
 rw [e12]; exact ⟨rfl, N, rfl⟩
theorem rm_ss_4_2_3_4 (l : Launch) (Z : State) (a0 : Array Value) (hw : HW a0 Z) (a1 ba : Addr) (kb : ClassId) (u0 u1 u3 : Int32) (cs : Int32) (hcs : ¬ cs = 0) (fm : Value) (hfm : fm.isRef = true) (h0 : Heap) (n0 : Nat) (O : Old Z n0 h0) (E_a1 : Exa Z h0 a1 "java/lang/String") (F_value_a1 : Fld Z h0 a1 "java/lang/String" "value" "[B" (.ref ba)) (F_coder_a1 : Fld Z h0 a1 "java/lang/String" "coder" "B" (.int 0)) (V_ba : Arv Z h0 ba kb .byte (4 : Int32) [(.int u0), (.int u1), (.int 46), (.int u3)] (.int 0)) (S_CS : Sta Z Z.heap "java/lang/String" "COMPACT_STRINGS" "Z" (.int cs)) (S_FM : Sta Z Z.heap "jdk/internal/util/Preconditions" "SIOOBE_FORMATTER" "Ljava/util/function/BiFunction;" fm) :
  Con l Z (⟨"java/lang/String", "substring", "(II)Ljava/lang/String;"⟩ : MethodName) jdk_42_method_92_code 5 (some (.object "java/lang/String")) ({ frames := 4, cells := 2, slots := 5, locals := 64 } : Room) #[(.ref a1), (.int 3), (.int 4)] h0 (fun v h L => ∃ a b k, v = some (.ref a) ∧ Fr n0 L ∧ Keep h0 h [] ∧ h0.size ≤ a ∧ h0.size ≤ b ∧ Exa Z h a "java/lang/String" ∧ Fld Z h a "java/lang/String" "value" "[B" (.ref b) ∧ Fld Z h a "java/lang/String" "coder" "B" (.int 0) ∧ Arv Z h b k .byte (1 : Int32) [(.int u3)] (.int 0)) := by
 refine own_startC opn_27 ?_
 intro p e s m below meth c T0 X0 hx hby hml hZ hown hnm hret hlk e0
 have N := Fr.nil n0; have K := Keep.refl h0 []
 refine OG.cast (oef16 m a1 (3 : Int32) (4 : Int32)) ?_
 refine og_aloadN X0 hx rfl rfl (hb hby d27_0) rfl ?_
 refine og_virtual (pc' := 4) (cells' := 0) (slots' := 0) (W := 0) X0 hx hZ (rm_len l Z a0 hw a1 ba kb (4 : Int32) _ cs hcs h0 n0 O E_a1 F_value_a1 F_coder_a1 V_ba S_CS) hown (ow65 hw) (ow66 hw) (own_nf hZ (ow68 hw)) (ow68 hw) (ow67 hw) (ow11 hw) (ow69 hw) (by decide) (by rw [hml]; rfl) e0 opd_13 [] [] rfl rfl rfl rfl (by decide) (by decide) rfl rfl (by decide) (by decide) E_a1 (hb hby d27_1) rfl (fun v11 T11 h11 L11 X11 e11 z11 => ?_)
 obtain ⟨rfl, Nq11, hq11⟩ := z11; replace e11 := e11.trans hq11; have N := Fr.app N Nq11
 refine og_istoreN (L' := #[.val (.ref a1), .val (.int 3), .val (.int 4), .val (.int 4), .unset]) X11 hx rfl (hb hby d27_4) rfl ?_
 refine og_iloadN X11 hx rfl (hb hby d27_5) rfl ?_
 refine og_iloadN X11 hx rfl (hb hby d27_6) rfl ?_
 refine og_iloadN X11 hx rfl (hb hby d27_7) rfl ?_
 refine og_static (pc' := 11) (cells' := 0) (slots' := 0) (W := 0) X11 hx hZ (rm_cb_3_4_4 l Z a0 hw fm hfm h0 n0 O S_FM) hown (ow138 hw) (ow139 hw) (ow11 hw) (ow140 hw) (by decide) (by rw [hml]; rfl) e11 opd_20 [(.int 3), (.int 4), (.int 4)] [] rfl rfl rfl rfl (by decide) (by decide) rfl rfl (by decide) (by decide) (hb hby d27_8) rfl (fun v12 T12 h12 L12 X12 e12 z12 => ?_)
 obtain ⟨rfl, Nq12, hq12⟩ := z12; replace e12 := e12.trans hq12; have N := Fr.app N Nq12
 refine og_iloadN X12 hx rfl (hb hby d27_11) rfl ?_
 refine og_if_ne (pc1 := 22) (pc2 := 15) X12 hx (hb hby d27_12) (by decide) (by decide) rfl (fun _ => ?_) (fun q => absurd q (by decide))
 refine og_iloadN X12 hx rfl (hb hby d27_22) rfl ?_
 refine og_iloadN X12 hx rfl (hb hby d27_23) rfl ?_
 refine og_isub X12 hx (hb hby d27_24) rfl ?_
 show OG p e below _ (T12.setTop (mkF m 25 #[.val (.ref a1), .val (.int 3), .val (.int 4), .val (.int 4), .unset] [(.int 1)]))
 refine og_istore (L' := #[.val (.ref a1), .val (.int 3), .val (.int 4), .val (.int 4), .val (.int 1)]) X12 hx rfl (hb hby d27_25) rfl ?_
 refine og_aloadN X12 hx rfl rfl (hb hby d27_27) rfl ?_
 refine og_virtual (pc' := 31) (cells' := 0) (slots' := 0) (W := 0) X12 hx hZ (rm_il l Z a0 hw a1 cs hcs h0 n0 O F_coder_a1 S_CS) hown (ow60 hw) (ow61 hw) (own_nf hZ (ow63 hw)) (ow63 hw) (ow62 hw) (ow11 hw) (ow64 hw) (by decide) (by rw [hml]; rfl) e12 opd_9 [] [] rfl rfl rfl rfl (by decide) (by decide) rfl rfl (by decide) (by decide) E_a1 (hb hby d27_28) rfl (fun v13 T13 h13 L13 X13 e13 z13 => ?_)
 obtain ⟨rfl, Nq13, hq13⟩ := z13; replace e13 := e13.trans hq13; have N := Fr.app N Nq13
 refine og_if_eq (pc1 := 47) (pc2 := 34) X13 hx (hb hby d27_31) (by decide) (by decide) rfl (fun q => absurd q (by decide)) (fun _ => ?_)
 refine og_aloadN X13 hx rfl rfl (hb hby d27_34) rfl ?_
 refine og_getfield X13 hx hZ (host := "") hown (Or.inl (ow28 hw)) Via.refl e13 F_value_a1 (hb hby d27_35) rfl (fun T14 X14 e14 => ?_)
 refine og_iloadN X14 hx rfl (hb hby d27_38) rfl ?_
 refine og_iload X14 hx rfl (hb hby d27_39) rfl ?_
 refine og_static (pc' := 44) (cells' := 2) (slots' := 5) (W := 0) X14 hx hZ (rm_ns_4_2_3_4 l Z a0 hw ba kb u0 u1 u3 h0 n0 O V_ba) hown (ow146 hw) (ow147 hw) (ow77 hw) (ow148 hw) (by decide) (by rw [hml]; rfl) e14 opd_21 [(.ref ba), (.int 3), (.int 1)] [] rfl rfl rfl rfl (by decide) (by decide) rfl rfl (by decide) (by decide) (hb hby d27_41) rfl (fun v15 T15 h15 L15 X15 e15 z15 => ?_)
 obtain ⟨na15, nb15, k15, rfl, Nq15, K15, sa15, sb15, E_na15, F_value_na15, F_coder_na15, V_nb15⟩ := z15; have N := Fr.app N Nq15
 have s_na15 : h0.size ≤ na15 := sa15; have g_na15 : n0 ≤ na15 := Nat.le_trans (own_n0 O) s_na15; have sz_na15 : h0.size ≤ na15 := Nat.le_trans K.1 s_na15; have ne_a1_na15 : a1 ≠ na15 := Nat.ne_of_lt (Nat.lt_of_lt_of_le E_a1.lt s_na15); have ne_ba_na15 : ba ≠ na15 := Nat.ne_of_lt (Nat.lt_of_lt_of_le V_ba.lt s_na15)
 have s_nb15 : h0.size ≤ nb15 := sb15; have g_nb15 : n0 ≤ nb15 := Nat.le_trans (own_n0 O) s_nb15; have sz_nb15 : h0.size ≤ nb15 := Nat.le_trans K.1 s_nb15; have ne_a1_nb15 : a1 ≠ nb15 := Nat.ne_of_lt (Nat.lt_of_lt_of_le E_a1.lt s_nb15); have ne_ba_nb15 : ba ≠ nb15 := Nat.ne_of_lt (Nat.lt_of_lt_of_le V_ba.lt s_nb15)
 have E_a1 := E_a1.keep K15; have F_value_a1 := F_value_a1.keep K15 nin0; have F_coder_a1 := F_coder_a1.keep K15 nin0; have V_ba := V_ba.keep K15 nin0; have O := O.keep K15 all0; have K := K.trans K15 all0
 refine og_goto (pc' := 57) X15 hx (hb hby d27_44) (by decide) (by decide) ?_
 refine og_retR X15 hx hlk hret rfl rfl rfl (hb hby d27_57) (by decide) (by decide) ?_
 rw [e15]; exact ⟨_, _, _, rfl, N, K, sz_na15, sz_nb15, E_na15, F_value_na15, F_coder_na15, V_nb15⟩
theorem rm_s1_4_2_3_4 (l : Launch) (Z : State) (a0 : Array Value) (hw : HW a0 Z) (a1 ba : Addr) (kb : ClassId) (u0 u1 u3 : Int32) (cs : Int32) (hcs : ¬ cs = 0) (fm : Value) (hfm : fm.isRef = true) (h0 : Heap) (n0 : Nat) (O : Old Z n0 h0) (E_a1 : Exa Z h0 a1 "java/lang/String") (F_value_a1 : Fld Z h0 a1 "java/lang/String" "value" "[B" (.ref ba)) (F_coder_a1 : Fld Z h0 a1 "java/lang/String" "coder" "B" (.int 0)) (V_ba : Arv Z h0 ba kb .byte (4 : Int32) [(.int u0), (.int u1), (.int 46), (.int u3)] (.int 0)) (S_CS : Sta Z Z.heap "java/lang/String" "COMPACT_STRINGS" "Z" (.int cs)) (S_FM : Sta Z Z.heap "jdk/internal/util/Preconditions" "SIOOBE_FORMATTER" "Ljava/util/function/BiFunction;" fm) :
  Con l Z (⟨"java/lang/String", "substring", "(I)Ljava/lang/String;"⟩ : MethodName) jdk_42_method_91_code 2 (some (.object "java/lang/String")) ({ frames := 5, cells := 2, slots := 5, locals := 80 } : Room) #[(.ref a1), (.int 3)] h0 (fun v h L => ∃ a b k, v = some (.ref a) ∧ Fr n0 L ∧ Keep h0 h [] ∧ h0.size ≤ a ∧ h0.size ≤ b ∧ Exa Z h a "java/lang/String" ∧ Fld Z h a "java/lang/String" "value" "[B" (.ref b) ∧ Fld Z h a "java/lang/String" "coder" "B" (.int 0) ∧ Arv Z h b k .byte (1 : Int32) [(.int u3)] (.int 0)) := by
 refine own_startC opn_35 ?_
 intro p e s m below meth c T0 X0 hx hby hml hZ hown hnm hret hlk e0
 have N := Fr.nil n0; have K := Keep.refl h0 []
 refine OG.cast (oef4 m a1 (3 : Int32)) ?_
 refine og_aloadN X0 hx rfl rfl (hb hby d35_0) rfl ?_
 refine og_iloadN X0 hx rfl (hb hby d35_1) rfl ?_
 refine og_aloadN X0 hx rfl rfl (hb hby d35_2) rfl ?_
 refine og_virtual (pc' := 6) (cells' := 0) (slots' := 0) (W := 2) X0 hx hZ (rm_len l Z a0 hw a1 ba kb (4 : Int32) _ cs hcs h0 n0 O E_a1 F_value_a1 F_coder_a1 V_ba S_CS) hown (ow65 hw) (ow66 hw) (own_nf hZ (ow68 hw)) (ow68 hw) (ow67 hw) (ow11 hw) (ow69 hw) (by decide) (by rw [hml]; rfl) e0 opd_13 [] [(.int 3), (.ref a1)] rfl rfl rfl rfl (by decide) (by decide) rfl rfl (by decide) (by decide) E_a1 (hb hby d35_3) rfl (fun v11 T11 h11 L11 X11 e11 z11 => ?_)
 obtain ⟨rfl, Nq11, hq11⟩ := z11; replace e11 := e11.trans hq11; have N := Fr.app N Nq11
 refine og_virtual (pc' := 9) (cells' := 2) (slots' := 5) (W := 0) X11 hx hZ (rm_ss_4_2_3_4 l Z a0 hw a1 ba kb u0 u1 u3 cs hcs fm hfm h0 n0 O E_a1 F_value_a1 F_coder_a1 V_ba S_CS S_FM) hown (ow173 hw) (ow134 hw) (own_nf hZ (ow136 hw)) (ow136 hw) (ow135 hw) (ow11 hw) (ow137 hw) (by decide) (by rw [hml]; rfl) e11 opd_22 [(.int 3), (.int 4)] [] rfl rfl rfl rfl (by decide) (by decide) rfl rfl (by decide) (by decide) E_a1 (hb hby d35_6) rfl (fun v12 T12 h12 L12 X12 e12 z12 => ?_)
 obtain ⟨na12, nb12, k12, rfl, Nq12, K12, sa12, sb12, E_na12, F_value_na12, F_coder_na12, V_nb12⟩ := z12; have N := Fr.app N Nq12
 have s_na12 : h0.size ≤ na12 := sa12; have g_na12 : n0 ≤ na12 := Nat.le_trans (own_n0 O) s_na12; have sz_na12 : h0.size ≤ na12 := Nat.le_trans K.1 s_na12; have ne_a1_na12 : a1 ≠ na12 := Nat.ne_of_lt (Nat.lt_of_lt_of_le E_a1.lt s_na12); have ne_ba_na12 : ba ≠ na12 := Nat.ne_of_lt (Nat.lt_of_lt_of_le V_ba.lt s_na12)
 have s_nb12 : h0.size ≤ nb12 := sb12; have g_nb12 : n0 ≤ nb12 := Nat.le_trans (own_n0 O) s_nb12; have sz_nb12 : h0.size ≤ nb12 := Nat.le_trans K.1 s_nb12; have ne_a1_nb12 : a1 ≠ nb12 := Nat.ne_of_lt (Nat.lt_of_lt_of_le E_a1.lt s_nb12); have ne_ba_nb12 : ba ≠ nb12 := Nat.ne_of_lt (Nat.lt_of_lt_of_le V_ba.lt s_nb12)
 have E_a1 := E_a1.keep K12; have F_value_a1 := F_value_a1.keep K12 nin0; have F_coder_a1 := F_coder_a1.keep K12 nin0; have V_ba := V_ba.keep K12 nin0; have O := O.keep K12 all0; have K := K.trans K12 all0
 refine og_retR X12 hx hlk hret rfl rfl rfl (hb hby d35_9) (by decide) (by decide) ?_
 rw [e12]; exact ⟨_, _, _, rfl, N, K, sz_na12, sz_nb12, E_na12, F_value_na12, F_coder_na12, V_nb12⟩
theorem rm_pa4_2 (l : Launch) (Z : State) (a0 : Array Value) (hw : HW a0 Z) (a1 ba : Addr) (kb : ClassId) (u0 u1 u3 : Int32) (hu0 : ¬ u0 = 46) (hu1 : ¬ u1 = 46) (hu3 : ¬ u3 = 46) (cs : Int32) (hcs : ¬ cs = 0) (fm : Value) (hfm : fm.isRef = true) (h0 : Heap) (n0 : Nat) (O : Old Z n0 h0) (hEL : EW Z a0 own_EL) (E_a1 : Exa Z h0 a1 "java/lang/String") (F_value_a1 : Fld Z h0 a1 "java/lang/String" "value" "[B" (.ref ba)) (F_coder_a1 : Fld Z h0 a1 "java/lang/String" "coder" "B" (.int 0)) (V_ba : Arv Z h0 ba kb .byte (4 : Int32) [(.int u0), (.int u1), (.int 46), (.int u3)] (.int 0)) (S_CS : Sta Z Z.heap "java/lang/String" "COMPACT_STRINGS" "Z" (.int cs)) (S_FM : Sta Z Z.heap "jdk/internal/util/Preconditions" "SIOOBE_FORMATTER" "Ljava/util/function/BiFunction;" fm) :
  ConW l Z own_EL [] (⟨"com/example/tombstone/tombstone/config/TableName", "parse", "(Ljava/lang/String;)Lcom/example/tombstone/tombstone/config/TableName;"⟩ : MethodName) prog_8_method_2_code 4 (some (.object "com/example/tombstone/tombstone/config/TableName")) ({ frames := 6, cells := 11, slots := 93, locals := 96 } : Room) #[(.ref a1)] h0 (fun v h L => ∃ t x y bx by_ kx ky, v = some (.ref t) ∧ Fr n0 L ∧ Keep h0 h [] ∧ Exa Z h t "com/example/tombstone/tombstone/config/TableName" ∧ Fld Z h t "com/example/tombstone/tombstone/config/TableName" "schema" "Ljava/lang/String;" (.ref x) ∧ Fld Z h t "com/example/tombstone/tombstone/config/TableName" "name" "Ljava/lang/String;" (.ref y) ∧ Exa Z h x "java/lang/String" ∧ Fld Z h x "java/lang/String" "value" "[B" (.ref bx) ∧ Fld Z h x "java/lang/String" "coder" "B" (.int 0) ∧ Arv Z h bx kx .byte (2 : Int32) [(.int u0), (.int u1)] (.int 0) ∧ Exa Z h y "java/lang/String" ∧ Fld Z h y "java/lang/String" "value" "[B" (.ref by_) ∧ Fld Z h y "java/lang/String" "coder" "B" (.int 0) ∧ Arv Z h by_ ky .byte (1 : Int32) [(.int u3)] (.int 0)) := by
 refine own_startWC opn_9 ?_
 intro p e s m below meth c T0 X0 hx hby hml hZ hown hnm hret hlk e0 es hS CR hsf
 have N := Fr.nil n0; have K := Keep.refl h0 []; have hk := Nat.le_refl h0.size
 refine OG.cast (oef15 m a1) ?_
 refine og_aloadN X0 hx rfl rfl (hb hby d9_0) rfl ?_
 refine og_ldcO (pc' := 3) (cells' := 2) (slots' := 32) (n := 28) X0 hx hZ hown (hw _ (List.mem_of_getElem? (i := 45) rfl)) (own_wS hw) e0 hS hk hEL CR.1 (by decide) (by decide) (hb hby d9_1) rfl rfl rfl (by decide) (by decide) (fun na11 T11 h11 kk11 X11 e11 E11 hS hk hZ hown cr11 => ?_)
 have E_a1 := E_a1.ext E11; have F_value_a1 := F_value_a1.ext E11; have F_coder_a1 := F_coder_a1.ext E11; have V_ba := V_ba.ext E11; have O := O.ext E11; have K := K.ext E11
 have CR := CR.trans cr11
 refine og_static (pc' := 6) (cells' := 2) (slots' := 32) (W := 0) X11 hx hZ (rm_rnn l Z a0 hw a1 na11 h11 n0 O) hown (ow46 hw) (ow47 hw) (ow48 hw) (ow49 hw) (by decide) (by rw [hml]; rfl) e11 opd_8 [(.ref a1), (.ref na11)] [] rfl rfl rfl rfl (by decide) (by decide) rfl rfl (by decide) (by decide) (hb hby d9_3) rfl (fun v12 T12 h12 L12 X12 e12 z12 => ?_)
 obtain ⟨rfl, Nq12, hq12⟩ := z12; replace e12 := e12.trans hq12; have N := Fr.app N Nq12
 refine og_pop X12 hx rfl (hb hby d9_6) rfl ?_
 refine og_aloadN X12 hx rfl rfl (hb hby d9_7) rfl ?_
 refine og_bipush (v := (46 : Int32)) X12 hx rfl (hb hby d9_8) rfl ?_
 refine og_virtual (pc' := 13) (cells' := 2) (slots' := 32) (W := 0) X12 hx hZ (rm_ix_4_2_0 l Z a0 hw a1 ba kb u0 u1 u3 hu0 hu1 hu3 cs hcs h11 n0 O E_a1 F_value_a1 F_coder_a1 V_ba S_CS) hown (ow50 hw) (ow51 hw) (own_nf hZ (ow53 hw)) (ow53 hw) (ow52 hw) (ow11 hw) (ow54 hw) (by decide) (by rw [hml]; rfl) e12 opd_14 [(.int 46)] [] rfl rfl rfl rfl (by decide) (by decide) rfl rfl (by decide) (by decide) E_a1 (hb hby d9_10) rfl (fun v13 T13 h13 L13 X13 e13 z13 => ?_)
 obtain ⟨rfl, Nq13, hq13⟩ := z13; replace e13 := e13.trans hq13; have N := Fr.app N Nq13
 refine og_istoreN (L' := #[.val (.ref a1), .val (.int 2), .unset, .unset]) X13 hx rfl (hb hby d9_13) rfl ?_
 refine og_iloadN X13 hx rfl (hb hby d9_14) rfl ?_
 refine og_if_lt (pc1 := 30) (pc2 := 18) X13 hx (hb hby d9_15) (by decide) (by decide) rfl (fun q => absurd q (by decide)) (fun _ => ?_)
 refine og_aloadN X13 hx rfl rfl (hb hby d9_18) rfl ?_
 refine og_bipush (v := (46 : Int32)) X13 hx rfl (hb hby d9_19) rfl ?_
 refine og_iloadN X13 hx rfl (hb hby d9_21) rfl ?_
 refine og_iconst (v := (1 : Int32)) X13 hx rfl (hb hby d9_22) rfl ?_
 refine og_iadd X13 hx (hb hby d9_23) rfl ?_
 show OG p e below _ (T13.setTop (mkF m 24 #[.val (.ref a1), .val (.int 2), .unset, .unset] [(.int 3), (.int 46), (.ref a1)]))
 refine og_virtual (pc' := 27) (cells' := 2) (slots' := 32) (W := 0) X13 hx hZ (rm_i2_4_2_3 l Z a0 hw a1 ba kb u0 u1 u3 hu0 hu1 hu3 cs hcs h11 n0 O E_a1 F_value_a1 F_coder_a1 V_ba S_CS) hown (ow132 hw) (ow56 hw) (own_nf hZ (ow58 hw)) (ow58 hw) (ow57 hw) (ow11 hw) (ow59 hw) (by decide) (by rw [hml]; rfl) e13 opd_11 [(.int 46), (.int 3)] [] rfl rfl rfl rfl (by decide) (by decide) rfl rfl (by decide) (by decide) E_a1 (hb hby d9_24) rfl (fun v14 T14 h14 L14 X14 e14 z14 => ?_)
 obtain ⟨rfl, Nq14, hq14⟩ := z14; replace e14 := e14.trans hq14; have N := Fr.app N Nq14
 refine og_if_ge (pc1 := 34) (pc2 := 30) X14 hx (hb hby d9_27) (by decide) (by decide) rfl (fun q => absurd q (by decide)) (fun _ => ?_)
 refine og_iconst (v := (1 : Int32)) X14 hx rfl (hb hby d9_30) rfl ?_
 refine og_goto (pc' := 35) X14 hx (hb hby d9_31) (by decide) (by decide) ?_
 refine og_istoreN (L' := #[.val (.ref a1), .val (.int 2), .val (.int 1), .unset]) X14 hx rfl (hb hby d9_35) rfl ?_
 refine og_aloadN X14 hx rfl rfl (hb hby d9_36) rfl ?_
 refine og_virtual (pc' := 40) (cells' := 2) (slots' := 32) (W := 0) X14 hx hZ (rm_emp l Z a0 hw a1 ba kb (4 : Int32) _ (by decide) h11 n0 O E_a1 F_value_a1 F_coder_a1 V_ba) hown (ow92 hw) (ow93 hw) (own_nf hZ (ow95 hw)) (ow95 hw) (ow94 hw) (ow11 hw) (ow96 hw) (by decide) (by rw [hml]; rfl) e14 opd_9 [] [] rfl rfl rfl rfl (by decide) (by decide) rfl rfl (by decide) (by decide) E_a1 (hb hby d9_37) rfl (fun v15 T15 h15 L15 X15 e15 z15 => ?_)
 obtain ⟨rfl, Nq15, hq15⟩ := z15; replace e15 := e15.trans hq15; have N := Fr.app N Nq15
 refine og_if_ne (pc1 := 61) (pc2 := 43) X15 hx (hb hby d9_40) (by decide) (by decide) rfl (fun q => absurd q (by decide)) (fun _ => ?_)
 refine og_iloadN X15 hx rfl (hb hby d9_43) rfl ?_
 refine og_if_eq (pc1 := 61) (pc2 := 47) X15 hx (hb hby d9_44) (by decide) (by decide) rfl (fun q => absurd q (by decide)) (fun _ => ?_)
 refine og_iloadN X15 hx rfl (hb hby d9_47) rfl ?_
 refine og_aloadN X15 hx rfl rfl (hb hby d9_48) rfl ?_
 refine og_virtual (pc' := 52) (cells' := 2) (slots' := 32) (W := 1) X15 hx hZ (rm_len l Z a0 hw a1 ba kb (4 : Int32) _ cs hcs h11 n0 O E_a1 F_value_a1 F_coder_a1 V_ba S_CS) hown (ow97 hw) (ow66 hw) (own_nf hZ (ow68 hw)) (ow68 hw) (ow67 hw) (ow11 hw) (ow69 hw) (by decide) (by rw [hml]; rfl) e15 opd_13 [] [(.int 2)] rfl rfl rfl rfl (by decide) (by decide) rfl rfl (by decide) (by decide) E_a1 (hb hby d9_49) rfl (fun v16 T16 h16 L16 X16 e16 z16 => ?_)
 obtain ⟨rfl, Nq16, hq16⟩ := z16; replace e16 := e16.trans hq16; have N := Fr.app N Nq16
 refine og_iconst (v := (1 : Int32)) X16 hx rfl (hb hby d9_52) rfl ?_
 refine og_isub X16 hx (hb hby d9_53) rfl ?_
 show OG p e below _ (T16.setTop (mkF m 54 #[.val (.ref a1), .val (.int 2), .val (.int 1), .unset] [(.int 3), (.int 2)]))
 refine og_icmp_eq (pc1 := 61) (pc2 := 57) X16 hx (hb hby d9_54) (by decide) (by decide) rfl (fun q => absurd q (by decide)) (fun _ => ?_)
 refine og_iconst (v := (1 : Int32)) X16 hx rfl (hb hby d9_57) rfl ?_
 refine og_goto (pc' := 62) X16 hx (hb hby d9_58) (by decide) (by decide) ?_
 refine og_istoreN (L' := #[.val (.ref a1), .val (.int 2), .val (.int 1), .val (.int 1)]) X16 hx rfl (hb hby d9_62) rfl ?_
 refine og_iloadN X16 hx rfl (hb hby d9_63) rfl ?_
 refine og_if_eq (pc1 := 71) (pc2 := 67) X16 hx (hb hby d9_64) (by decide) (by decide) rfl (fun q => absurd q (by decide)) (fun _ => ?_)
 refine og_iloadN X16 hx rfl (hb hby d9_67) rfl ?_
 refine og_if_ne (pc1 := 85) (pc2 := 71) X16 hx (hb hby d9_68) (by decide) (by decide) rfl (fun _ => ?_) (fun q => absurd q (by decide))
 refine og_iloadN X16 hx rfl (hb hby d9_85) rfl ?_
 refine og_if_ge (pc1 := 102) (pc2 := 89) X16 hx (hb hby d9_86) (by decide) (by decide) rfl (fun _ => ?_) (fun q => absurd q (by decide))
 refine og_new (pc' := 105) (cells' := 3) (slots' := 34) X16 hx hZ hown (ow98 hw) (ow99 hw) (ow43 hw) e16 (hb hby d9_102) rfl rfl rfl (by decide) (by decide) (fun T17 h17 nb17 X17 e17 E17 q17 E_nb17 D17 B17 => ?_)
 have s_nb17 : h11.size ≤ nb17 := Nat.le_of_eq q17.symm; have g_nb17 : n0 ≤ nb17 := Nat.le_trans (own_n0 O) s_nb17; have sz_nb17 : h0.size ≤ nb17 := Nat.le_trans K.1 s_nb17; have ne_a1_nb17 : a1 ≠ nb17 := Nat.ne_of_lt (Nat.lt_of_lt_of_le E_a1.lt s_nb17); have ne_ba_nb17 : ba ≠ nb17 := Nat.ne_of_lt (Nat.lt_of_lt_of_le V_ba.lt s_nb17); have Q_nb17 : Safe Z own_EL _ _ nb17 := Safe.new (Z := Z) (EL := own_EL) (vm := T11.vm) s_nb17
 have Q_nb17 := Safe.ext E17 CR.1 Q_nb17; have E_a1 := E_a1.ext E17; have F_value_a1 := F_value_a1.ext E17; have F_coder_a1 := F_coder_a1.ext E17; have V_ba := V_ba.ext E17; have O := O.ext E17
 have K := K.ext E17; have hk := Nat.le_trans hk E17.1; have CR := CR.trans (CHr.ext E17 CR.1)
 have F_schema_nb17 : Fld Z h17 nb17 "com/example/tombstone/tombstone/config/TableName" "schema" "Ljava/lang/String;" .null := D17 (Or.inr (ow113 hw)) (ty := (.object "java/lang/String")) (by decide)
 have F_name_nb17 : Fld Z h17 nb17 "com/example/tombstone/tombstone/config/TableName" "name" "Ljava/lang/String;" .null := D17 (Or.inr (ow115 hw)) (ty := (.object "java/lang/String")) (by decide)
 refine og_dup X17 hx rfl (hb hby d9_105) rfl ?_
 refine og_aloadN X17 hx rfl rfl (hb hby d9_106) rfl ?_
 refine og_iconst (v := (0 : Int32)) X17 hx rfl (hb hby d9_107) rfl ?_
 refine og_iloadN X17 hx rfl (hb hby d9_108) rfl ?_
 refine og_virtual (pc' := 112) (cells' := 5) (slots' := 40) (W := 2) X17 hx hZ (rm_ss_4_2_0_2 l Z a0 hw a1 ba kb u0 u1 u3 cs hcs fm hfm h17 n0 O E_a1 F_value_a1 F_coder_a1 V_ba S_CS S_FM) hown (ow133 hw) (ow134 hw) (own_nf hZ (ow136 hw)) (ow136 hw) (ow135 hw) (ow11 hw) (ow137 hw) (by decide) (by rw [hml]; rfl) e17 opd_22 [(.int 0), (.int 2)] [(.ref nb17), (.ref nb17)] rfl rfl rfl rfl (by decide) (by decide) rfl rfl (by decide) (by decide) E_a1 (hb hby d9_109) rfl (fun v18 T18 h18 L18 X18 e18 z18 => ?_)
 obtain ⟨na18, nb18, k18, rfl, Nq18, K18, sa18, sb18, E_na18, F_value_na18, F_coder_na18, V_nb18⟩ := z18; have N := Fr.app N Nq18
 have s_na18 : h17.size ≤ na18 := sa18; have g_na18 : n0 ≤ na18 := Nat.le_trans (own_n0 O) s_na18; have sz_na18 : h0.size ≤ na18 := Nat.le_trans K.1 s_na18; have ne_a1_na18 : a1 ≠ na18 := Nat.ne_of_lt (Nat.lt_of_lt_of_le E_a1.lt s_na18); have ne_ba_na18 : ba ≠ na18 := Nat.ne_of_lt (Nat.lt_of_lt_of_le V_ba.lt s_na18); have ne_nb17_na18 : nb17 ≠ na18 := Nat.ne_of_lt (Nat.lt_of_lt_of_le E_nb17.lt s_na18)
 have Q_na18 : Safe Z own_EL _ _ na18 := Safe.new (Z := Z) (EL := own_EL) (vm := T11.vm) s_na18
 have s_nb18 : h17.size ≤ nb18 := sb18; have g_nb18 : n0 ≤ nb18 := Nat.le_trans (own_n0 O) s_nb18; have sz_nb18 : h0.size ≤ nb18 := Nat.le_trans K.1 s_nb18; have ne_a1_nb18 : a1 ≠ nb18 := Nat.ne_of_lt (Nat.lt_of_lt_of_le E_a1.lt s_nb18); have ne_ba_nb18 : ba ≠ nb18 := Nat.ne_of_lt (Nat.lt_of_lt_of_le V_ba.lt s_nb18); have ne_nb17_nb18 : nb17 ≠ nb18 := Nat.ne_of_lt (Nat.lt_of_lt_of_le E_nb17.lt s_nb18)
 have Q_nb18 : Safe Z own_EL _ _ nb18 := Safe.new (Z := Z) (EL := own_EL) (vm := T11.vm) s_nb18
 have Q_nb17 := Safe.keep K18 sf0 CR.1 Q_nb17; have Q_na18 := Safe.keep K18 sf0 CR.1 Q_na18; have Q_nb18 := Safe.keep K18 sf0 CR.1 Q_nb18; have E_a1 := E_a1.keep K18; have F_value_a1 := F_value_a1.keep K18 nin0; have F_coder_a1 := F_coder_a1.keep K18 nin0
 have V_ba := V_ba.keep K18 nin0; have E_nb17 := E_nb17.keep K18; have F_schema_nb17 := F_schema_nb17.keep K18 nin0; have F_name_nb17 := F_name_nb17.keep K18 nin0; have O := O.keep K18 all0; have K := K.trans K18 all0
 have hk := Nat.le_trans hk K18.1; have CR := CR.trans (CHr.keep K18 sf0 CR.1)
 refine og_aloadN X18 hx rfl rfl (hb hby d9_112) rfl ?_
 refine og_iloadN X18 hx rfl (hb hby d9_113) rfl ?_
 refine og_iconst (v := (1 : Int32)) X18 hx rfl (hb hby d9_114) rfl ?_
 refine og_iadd X18 hx (hb hby d9_115) rfl ?_
 show OG p e below _ (T18.setTop (mkF m 116 #[.val (.ref a1), .val (.int 2), .val (.int 1), .val (.int 1)] [(.int 3), (.ref a1), (.ref na18), (.ref nb17), (.ref nb17)]))
 refine og_virtual (pc' := 119) (cells' := 7) (slots' := 45) (W := 3) X18 hx hZ (rm_s1_4_2_3_4 l Z a0 hw a1 ba kb u0 u1 u3 cs hcs fm hfm h18 n0 O E_a1 F_value_a1 F_coder_a1 V_ba S_CS S_FM) hown (ow168 hw) (ow169 hw) (own_nf hZ (ow171 hw)) (ow171 hw) (ow170 hw) (ow11 hw) (ow172 hw) (by decide) (by rw [hml]; rfl) e18 opd_23 [(.int 3)] [(.ref na18), (.ref nb17), (.ref nb17)] rfl rfl rfl rfl (by decide) (by decide) rfl rfl (by decide) (by decide) E_a1 (hb hby d9_116) rfl (fun v19 T19 h19 L19 X19 e19 z19 => ?_)
 obtain ⟨na19, nb19, k19, rfl, Nq19, K19, sa19, sb19, E_na19, F_value_na19, F_coder_na19, V_nb19⟩ := z19; have N := Fr.app N Nq19
 have s_na19 : h18.size ≤ na19 := sa19; have g_na19 : n0 ≤ na19 := Nat.le_trans (own_n0 O) s_na19; have sz_na19 : h0.size ≤ na19 := Nat.le_trans K.1 s_na19; have ne_a1_na19 : a1 ≠ na19 := Nat.ne_of_lt (Nat.lt_of_lt_of_le E_a1.lt s_na19); have ne_ba_na19 : ba ≠ na19 := Nat.ne_of_lt (Nat.lt_of_lt_of_le V_ba.lt s_na19); have ne_nb17_na19 : nb17 ≠ na19 := Nat.ne_of_lt (Nat.lt_of_lt_of_le E_nb17.lt s_na19)
 have ne_na18_na19 : na18 ≠ na19 := Nat.ne_of_lt (Nat.lt_of_lt_of_le E_na18.lt s_na19); have ne_nb18_na19 : nb18 ≠ na19 := Nat.ne_of_lt (Nat.lt_of_lt_of_le V_nb18.lt s_na19); have Q_na19 : Safe Z own_EL _ _ na19 := Safe.new (Z := Z) (EL := own_EL) (vm := T11.vm) s_na19
 have s_nb19 : h18.size ≤ nb19 := sb19; have g_nb19 : n0 ≤ nb19 := Nat.le_trans (own_n0 O) s_nb19; have sz_nb19 : h0.size ≤ nb19 := Nat.le_trans K.1 s_nb19; have ne_a1_nb19 : a1 ≠ nb19 := Nat.ne_of_lt (Nat.lt_of_lt_of_le E_a1.lt s_nb19); have ne_ba_nb19 : ba ≠ nb19 := Nat.ne_of_lt (Nat.lt_of_lt_of_le V_ba.lt s_nb19); have ne_nb17_nb19 : nb17 ≠ nb19 := Nat.ne_of_lt (Nat.lt_of_lt_of_le E_nb17.lt s_nb19)
 have ne_na18_nb19 : na18 ≠ nb19 := Nat.ne_of_lt (Nat.lt_of_lt_of_le E_na18.lt s_nb19); have ne_nb18_nb19 : nb18 ≠ nb19 := Nat.ne_of_lt (Nat.lt_of_lt_of_le V_nb18.lt s_nb19); have Q_nb19 : Safe Z own_EL _ _ nb19 := Safe.new (Z := Z) (EL := own_EL) (vm := T11.vm) s_nb19
 have Q_nb17 := Safe.keep K19 sf0 CR.1 Q_nb17; have Q_na19 := Safe.keep K19 sf0 CR.1 Q_na19; have Q_nb19 := Safe.keep K19 sf0 CR.1 Q_nb19; have E_a1 := E_a1.keep K19; have F_value_a1 := F_value_a1.keep K19 nin0; have F_coder_a1 := F_coder_a1.keep K19 nin0
 have V_ba := V_ba.keep K19 nin0; have E_nb17 := E_nb17.keep K19; have F_schema_nb17 := F_schema_nb17.keep K19 nin0; have F_name_nb17 := F_name_nb17.keep K19 nin0; have E_na18 := E_na18.keep K19; have F_value_na18 := F_value_na18.keep K19 nin0
 have F_coder_na18 := F_coder_na18.keep K19 nin0; have V_nb18 := V_nb18.keep K19 nin0; have O := O.keep K19 all0; have K := K.trans K19 all0; have hk := Nat.le_trans hk K19.1; have CR := CR.trans (CHr.keep K19 sf0 CR.1)
 refine og_specialW (pc' := 122) (cells' := 11) (slots' := 93) (W := 1) X19 hx hZ (rm_tn l Z a0 hw nb17 na18 na19 nb18 nb19 k18 k19 (2 : Int32) (1 : Int32) _ _ (by decide) (by decide) h19 n0 O hEL E_nb17 F_schema_nb17 F_name_nb17 E_na18 F_value_na18 F_coder_na18 V_nb18 E_na19 F_value_na19 F_coder_na19 V_nb19 g_nb17 (Ne.symm ne_nb17_na18) (Ne.symm ne_nb17_na19) (Ne.symm ne_nb17_nb18) (Ne.symm ne_nb17_nb19)) hEL hS hk CR.1 all0 rfl hown (ow101 hw) (ow102 hw) (ow43 hw) (ow103 hw) (by decide) (by rw [hml]; rfl) e19 opd_15 [(.ref na18), (.ref na19)] [(.ref nb17)] rfl rfl rfl rfl (by decide) (by decide) rfl rfl (by decide) (by decide) (hb hby d9_119) rfl (fun v20 T20 h20 L20 kk20 X20 e20 hS hk hZ hown cr20 z20 => ?_)
 obtain ⟨rfl, Nq20, K20, F_schema_nb17', F_name_nb17'⟩ := z20; have N := Fr.app N Nq20
 have Q_nb17 := cr20.safe E_nb17.lt Q_nb17; have E_a1 := E_a1.keep K20; have F_value_a1 := F_value_a1.keep K20 (ninS ne_a1_nb17 nin0); have F_coder_a1 := F_coder_a1.keep K20 (ninS ne_a1_nb17 nin0); have V_ba := V_ba.keep K20 (ninS ne_ba_nb17 nin0); have E_nb17 := E_nb17.keep K20
 have E_na18 := E_na18.keep K20; have F_value_na18 := F_value_na18.keep K20 (ninS (Ne.symm ne_nb17_na18) nin0); have F_coder_na18 := F_coder_na18.keep K20 (ninS (Ne.symm ne_nb17_na18) nin0); have V_nb18 := V_nb18.keep K20 (ninS (Ne.symm ne_nb17_nb18) nin0); have E_na19 := E_na19.keep K20; have F_value_na19 := F_value_na19.keep K20 (ninS (Ne.symm ne_nb17_na19) nin0)
 have F_coder_na19 := F_coder_na19.keep K20 (ninS (Ne.symm ne_nb17_na19) nin0); have V_nb19 := V_nb19.keep K20 (ninS (Ne.symm ne_nb17_nb19) nin0); have O := O.keep K20 (allS g_nb17 all0); have K := K.trans K20 (allS (Or.inr sz_nb17) all0); have CR := CR.trans cr20
 have F_schema_nb17 := F_schema_nb17'; have F_name_nb17 := F_name_nb17'
 refine og_retRW X20 hx hZ hlk hEL hS e20 es hk CR hret rfl rfl rfl (hb hby d9_122) (by decide) (by decide) ?_
 rw [e20]; exact ⟨nb17, na18, na19, _, _, _, _, rfl, N, K, E_nb17, F_schema_nb17, F_name_nb17, E_na18, F_value_na18, F_coder_na18, V_nb18, E_na19, F_value_na19, F_coder_na19, V_nb19⟩
theorem rm_gschema (l : Launch) (Z : State) (a0 : Array Value) (hw : HW a0 Z) (t1 x : Addr) (h0 : Heap) (n0 : Nat) (O : Old Z n0 h0) (F1 : Fld Z h0 t1 "com/example/tombstone/tombstone/config/TableName" "schema" "Ljava/lang/String;" (.ref x)) :
  Con l Z (⟨"com/example/tombstone/tombstone/config/TableName", "schema", "()Ljava/lang/String;"⟩ : MethodName) prog_8_method_9_code 1 (some (.object "java/lang/String")) ({ frames := 0, cells := 0, slots := 0, locals := 0 } : Room) #[(.ref t1)] h0 (fun v h L => v = some (.ref x) ∧ Fr n0 L ∧ h = h0) := by
 refine own_startC opn_24 ?_
 intro p e s m below meth c T0 X0 hx hby hml hZ hown hnm hret hlk e0
 have N := Fr.nil n0; have K := Keep.refl h0 []
 refine OG.cast (oef5 m t1) ?_
 refine og_aloadN X0 hx rfl rfl (hb hby d24_0) rfl ?_
 refine og_getfield X0 hx hZ (host := "") hown (Or.inl (ow112 hw)) Via.refl e0 F1 (hb hby d24_1) rfl (fun T11 X11 e11 => ?_)
 refine og_retR X11 hx hlk hret rfl rfl rfl (hb hby d24_4) (by decide) (by decide) ?_
 rw [e11]; exact ⟨rfl, N, rfl⟩
theorem rm_gname (l : Launch) (Z : State) (a0 : Array Value) (hw : HW a0 Z) (t1 x : Addr) (h0 : Heap) (n0 : Nat) (O : Old Z n0 h0) (F1 : Fld Z h0 t1 "com/example/tombstone/tombstone/config/TableName" "name" "Ljava/lang/String;" (.ref x)) :
  Con l Z (⟨"com/example/tombstone/tombstone/config/TableName", "name", "()Ljava/lang/String;"⟩ : MethodName) prog_8_method_10_code 1 (some (.object "java/lang/String")) ({ frames := 0, cells := 0, slots := 0, locals := 0 } : Room) #[(.ref t1)] h0 (fun v h L => v = some (.ref x) ∧ Fr n0 L ∧ h = h0) := by
 refine own_startC opn_26 ?_
 intro p e s m below meth c T0 X0 hx hby hml hZ hown hnm hret hlk e0
 have N := Fr.nil n0; have K := Keep.refl h0 []
 refine OG.cast (oef5 m t1) ?_
 refine og_aloadN X0 hx rfl rfl (hb hby d26_0) rfl ?_
 refine og_getfield X0 hx hZ (host := "") hown (Or.inl (ow114 hw)) Via.refl e0 F1 (hb hby d26_1) rfl (fun T11 X11 e11 => ?_)
 refine og_retR X11 hx hlk hret rfl rfl rfl (hb hby d26_4) (by decide) (by decide) ?_
 rw [e11]; exact ⟨rfl, N, rfl⟩
theorem rm0 (l : Launch) (Z : State) (a0 : Array Value) (hw : HW a0 Z) (ws : List Jvm.Cond) (p0 p1 p2 p3 p4 : Int32) (cs : Int32) (hcs : ¬ cs = 0) (fm : Value) (hfm : fm.isRef = true) (h0 : Heap) (n0 : Nat) (O : Old Z n0 h0) (hEL : EW Z a0 own_EL) (S_CS : Sta Z Z.heap "java/lang/String" "COMPACT_STRINGS" "Z" (.int cs)) (S_FM : Sta Z Z.heap "jdk/internal/util/Preconditions" "SIOOBE_FORMATTER" "Ljava/util/function/BiFunction;" fm) :
  MetFree l x (head1 (Jvm.Cond.code x code maxLocals ret :: ws) room_1) (fun a U => a = #[(.int p0), (.int p1), (.int p2), (.int p3), (.int p4)] ∧ Z.Warmed39 U.vm ∧ U.heap = h0 ∧ CHv Z own_EL U.vm h0 ∧ ∀ x ∈ ([] : List Addr), Safe Z own_EL U.vm h0 x) (fun _ _ _ _ _ => True) (fun _ U o U' => ∃ v L, o = .returned v ∧ (fun v h L => v = some (.int 1) ∧ Fr n0 L) v U'.heap L ∧ CHr Z own_EL U.vm U.heap U'.vm U'.heap ∧ ReturnedEndW U o U' L 56 6336) := by
 refine own_startW (Q := fun v h L => v = some (.int 1) ∧ Fr n0 L) opn_0 ?_
 intro p e s m below meth c T0 X0 hx hby hml hZ hown hnm hret hlk e0 es hS CR hsf
 have N := Fr.nil n0; have K := Keep.refl h0 []; have hk := Nat.le_refl h0.size
 refine OG.cast (oef19 m p0 p1 p2 p3 p4) ?_
 refine og_iloadN X0 hx rfl (hb hby at_0) rfl ?_
 refine og_ldc X0 hx hZ hown (ow0 hw) (hb hby at_1) rfl ?_
 refine og_iand X0 hx (hb hby at_3) rfl ?_
 refine og_iconst (v := (5 : Int32)) X0 hx rfl (hb hby at_4) rfl ?_
 refine og_irem (pc' := 6) X0 hx (by decide) (hb hby at_5) rfl ?_
 refine og_istore (L' := #[.val (.int p0), .val (.int p1), .val (.int p2), .val (.int p3), .val (.int p4), .val (.int ((p0 &&& (2147483647 : Int32)) % (5 : Int32))), .unset, .unset, .unset, .unset, .unset, .unset, .unset, .unset]) X0 hx rfl (hb hby at_6) rfl ?_
 obtain ⟨ii, h_ii⟩ : ∃ z, z = ((p0 &&& (2147483647 : Int32)) % (5 : Int32)) := ⟨_, rfl⟩
 rw [← h_ii]
 rcases own_cases5 (h_ii ▸ own_rem p0 5 5 rfl (by decide)) with rfl | rfl | rfl | rfl | rfl
 ·
  refine og_bipush (v := (8 : Int32)) X0 hx rfl (hb hby at_8) rfl ?_
  refine og_newarray (pc' := 12) (cells' := 1) (slots' := 8) (cap := 8) (ty := .char) X0 hx hZ rfl (ow1 hw) e0 (by decide) (by decide) (by decide) (hb hby at_10) rfl rfl rfl (by decide) (by decide) (fun T11 h11 nb11 kA11 X11 e11 E11 q11 V_nb11 => ?_)
  have s_nb11 : h0.size ≤ nb11 := Nat.le_of_eq q11.symm; have g_nb11 : n0 ≤ nb11 := Nat.le_trans (own_n0 O) s_nb11; have sz_nb11 : h0.size ≤ nb11 := Nat.le_trans K.1 s_nb11; have Q_nb11 : Safe Z own_EL _ _ nb11 := Safe.new (Z := Z) (EL := own_EL) (vm := s.vm) s_nb11
  have Q_nb11 := Safe.ext E11 CR.1 Q_nb11; have O := O.ext E11; have K := K.ext E11; have hk := Nat.le_trans hk E11.1; have CR := CR.trans (CHr.ext E11 CR.1)
  have V_nb11 : Arv Z h11 nb11 kA11 .char (8 : Int32) [(.int 0), (.int 0), (.int 0), (.int 0), (.int 0), (.int 0), (.int 0), (.int 0)] (.int 0) := V_nb11.pad (pad_rep [] (.int 0) 8)
  refine og_astore (L' := #[.val (.int p0), .val (.int p1), .val (.int p2), .val (.int p3), .val (.int p4), .val (.int 0), .val (.ref nb11), .unset, .unset, .unset, .unset, .unset, .unset, .unset]) X11 hx rfl rfl (hb hby at_12) rfl ?_
  refine og_aload X11 hx rfl rfl (hb hby at_14) rfl ?_
  refine og_iconst (v := (0 : Int32)) X11 hx rfl (hb hby at_16) rfl ?_
  refine og_iloadN X11 hx rfl (hb hby at_17) rfl ?_
  refine og_static (pc' := 21) (cells' := 1) (slots' := 8) (W := 2) X11 hx hZ (rm_c l Z a0 hw p1 h11 n0 O) hown (ow2 hw) (ow3 hw) (ow4 hw) (ow5 hw) (by decide) (by rw [hml]; rfl) e11 opd_24 [(.int p1)] [(.int 0), (.ref nb11)] rfl rfl rfl rfl (by decide) (by decide) rfl rfl (by decide) (by decide) (hb hby at_18) rfl (fun v12 T12 h12 L12 X12 e12 z12 => ?_)
  obtain ⟨c0, rfl, Nq12, hq12, hc0⟩ := z12; replace e12 := e12.trans hq12; have N := Fr.app N Nq12
  refine og_castore X12 hx hZ e12 V_nb11 ⟨by decide, by decide⟩ 0 (by decide) (Nat.le_of_ble_eq_true rfl) (hb hby at_21) rfl (fun T13 h13 X13 e13 W13 V13 => ?_)
  have sf13 : Safe Z own_EL s.vm h11 nb11 := Q_nb11; have Q_nb11 := Safe.wr W13 sf13 CR.1 Q_nb11; have O := O.wr W13 g_nb11; have K := K.wr W13 (Or.inr sz_nb11); have hk := Nat.le_trans hk (Keep.of_wr W13).1; have CR := CR.trans (CHr.wr W13 sf13 CR.1)
  have N := Fr.snoc X13 N g_nb11
  have V_nb11 : Arv Z h13 nb11 kA11 .char (8 : Int32) [(.int (nar .char c0)), (.int 0), (.int 0), (.int 0), (.int 0), (.int 0), (.int 0), (.int 0)] (.int 0) := V13
  rw [own_nc hc0] at V_nb11
  refine og_aload X13 hx rfl rfl (hb hby at_22) rfl ?_
  refine og_iconst (v := (1 : Int32)) X13 hx rfl (hb hby at_24) rfl ?_
  refine og_iloadN X13 hx rfl (hb hby at_25) rfl ?_
  refine og_static (pc' := 29) (cells' := 1) (slots' := 8) (W := 2) X13 hx hZ (rm_c l Z a0 hw p2 h13 n0 O) hown (ow2 hw) (ow3 hw) (ow4 hw) (ow5 hw) (by decide) (by rw [hml]; rfl) e13 opd_24 [(.int p2)] [(.int 1), (.ref nb11)] rfl rfl rfl rfl (by decide) (by decide) rfl rfl (by decide) (by decide) (hb hby at_26) rfl (fun v14 T14 h14 L14 X14 e14 z14 => ?_)
  obtain ⟨c1, rfl, Nq14, hq14, hc1⟩ := z14; replace e14 := e14.trans hq14; have N := Fr.app N Nq14
  refine og_castore X14 hx hZ e14 V_nb11 ⟨by decide, by decide⟩ 1 (by decide) (Nat.le_of_ble_eq_true rfl) (hb hby at_29) rfl (fun T15 h15 X15 e15 W15 V15 => ?_)
  have sf15 : Safe Z own_EL s.vm h13 nb11 := Q_nb11; have Q_nb11 := Safe.wr W15 sf15 CR.1 Q_nb11; have O := O.wr W15 g_nb11; have K := K.wr W15 (Or.inr sz_nb11); have hk := Nat.le_trans hk (Keep.of_wr W15).1; have CR := CR.trans (CHr.wr W15 sf15 CR.1)
  have N := Fr.snoc X15 N g_nb11
  have V_nb11 : Arv Z h15 nb11 kA11 .char (8 : Int32) [(.int c0), (.int (nar .char c1)), (.int 0), (.int 0), (.int 0), (.int 0), (.int 0), (.int 0)] (.int 0) := V15
  rw [own_nc hc1] at V_nb11
  refine og_aload X15 hx rfl rfl (hb hby at_30) rfl ?_
  refine og_iconst (v := (2 : Int32)) X15 hx rfl (hb hby at_32) rfl ?_
  refine og_iloadN X15 hx rfl (hb hby at_33) rfl ?_
  refine og_static (pc' := 37) (cells' := 1) (slots' := 8) (W := 2) X15 hx hZ (rm_c l Z a0 hw p3 h15 n0 O) hown (ow2 hw) (ow3 hw) (ow4 hw) (ow5 hw) (by decide) (by rw [hml]; rfl) e15 opd_24 [(.int p3)] [(.int 2), (.ref nb11)] rfl rfl rfl rfl (by decide) (by decide) rfl rfl (by decide) (by decide) (hb hby at_34) rfl (fun v16 T16 h16 L16 X16 e16 z16 => ?_)
  obtain ⟨c2, rfl, Nq16, hq16, hc2⟩ := z16; replace e16 := e16.trans hq16; have N := Fr.app N Nq16
  refine og_castore X16 hx hZ e16 V_nb11 ⟨by decide, by decide⟩ 2 (by decide) (Nat.le_of_ble_eq_true rfl) (hb hby at_37) rfl (fun T17 h17 X17 e17 W17 V17 => ?_)
  have sf17 : Safe Z own_EL s.vm h15 nb11 := Q_nb11; have Q_nb11 := Safe.wr W17 sf17 CR.1 Q_nb11; have O := O.wr W17 g_nb11; have K := K.wr W17 (Or.inr sz_nb11); have hk := Nat.le_trans hk (Keep.of_wr W17).1; have CR := CR.trans (CHr.wr W17 sf17 CR.1)
  have N := Fr.snoc X17 N g_nb11
  have V_nb11 : Arv Z h17 nb11 kA11 .char (8 : Int32) [(.int c0), (.int c1), (.int (nar .char c2)), (.int 0), (.int 0), (.int 0), (.int 0), (.int 0)] (.int 0) := V17
  rw [own_nc hc2] at V_nb11
  refine og_aload X17 hx rfl rfl (hb hby at_38) rfl ?_
  refine og_iconst (v := (3 : Int32)) X17 hx rfl (hb hby at_40) rfl ?_
  refine og_iload X17 hx rfl (hb hby at_41) rfl ?_
  refine og_static (pc' := 46) (cells' := 1) (slots' := 8) (W := 2) X17 hx hZ (rm_c l Z a0 hw p4 h17 n0 O) hown (ow2 hw) (ow3 hw) (ow4 hw) (ow5 hw) (by decide) (by rw [hml]; rfl) e17 opd_24 [(.int p4)] [(.int 3), (.ref nb11)] rfl rfl rfl rfl (by decide) (by decide) rfl rfl (by decide) (by decide) (hb hby at_43) rfl (fun v18 T18 h18 L18 X18 e18 z18 => ?_)
  obtain ⟨c3, rfl, Nq18, hq18, hc3⟩ := z18; replace e18 := e18.trans hq18; have N := Fr.app N Nq18
  refine og_castore X18 hx hZ e18 V_nb11 ⟨by decide, by decide⟩ 3 (by decide) (Nat.le_of_ble_eq_true rfl) (hb hby at_46) rfl (fun T19 h19 X19 e19 W19 V19 => ?_)
  have sf19 : Safe Z own_EL s.vm h17 nb11 := Q_nb11; have Q_nb11 := Safe.wr W19 sf19 CR.1 Q_nb11; have O := O.wr W19 g_nb11; have K := K.wr W19 (Or.inr sz_nb11); have hk := Nat.le_trans hk (Keep.of_wr W19).1; have CR := CR.trans (CHr.wr W19 sf19 CR.1)
  have N := Fr.snoc X19 N g_nb11
  have V_nb11 : Arv Z h19 nb11 kA11 .char (8 : Int32) [(.int c0), (.int c1), (.int c2), (.int (nar .char c3)), (.int 0), (.int 0), (.int 0), (.int 0)] (.int 0) := V19
  rw [own_nc hc3] at V_nb11
  refine og_iload X19 hx rfl (hb hby at_47) rfl ?_
  refine og_aload X19 hx rfl rfl (hb hby at_49) rfl ?_
  refine og_iconst (v := (0 : Int32)) X19 hx rfl (hb hby at_51) rfl ?_
  refine og_caload (v := (.int c0)) X19 hx hZ e19 V_nb11 ⟨by decide, by decide⟩ rfl (hb hby at_52) rfl ?_
  refine og_aload X19 hx rfl rfl (hb hby at_53) rfl ?_
  refine og_iconst (v := (1 : Int32)) X19 hx rfl (hb hby at_55) rfl ?_
  refine og_caload (v := (.int c1)) X19 hx hZ e19 V_nb11 ⟨by decide, by decide⟩ rfl (hb hby at_56) rfl ?_
  refine og_aload X19 hx rfl rfl (hb hby at_57) rfl ?_
  refine og_iconst (v := (2 : Int32)) X19 hx rfl (hb hby at_59) rfl ?_
  refine og_caload (v := (.int c2)) X19 hx hZ e19 V_nb11 ⟨by decide, by decide⟩ rfl (hb hby at_60) rfl ?_
  refine og_aload X19 hx rfl rfl (hb hby at_61) rfl ?_
  refine og_iconst (v := (3 : Int32)) X19 hx rfl (hb hby at_63) rfl ?_
  refine og_caload (v := (.int c3)) X19 hx hZ e19 V_nb11 ⟨by decide, by decide⟩ rfl (hb hby at_64) rfl ?_
  refine og_staticW (pc' := 68) (cells' := 7) (slots' := 20) (W := 0) X19 hx hZ (rm_mk0 l Z a0 hw c0 c1 c2 c3 hc0 hc1 hc2 hc3 cs hcs h19 n0 O hEL S_CS) hEL hS hk CR.1 all0 hown (ow6 hw) (ow7 hw) (ow4 hw) (ow8 hw) (by decide) (by rw [hml]; rfl) e19 opd_25 [(.int 0), (.int c0), (.int c1), (.int c2), (.int c3)] [] rfl rfl rfl rfl (by decide) (by decide) rfl rfl (by decide) (by decide) (hb hby at_65) rfl (fun v20 T20 h20 L20 kk20 X20 e20 hS hk hZ hown cr20 z20 => ?_)
  obtain ⟨na20, nb20, k20, rfl, Nq20, K20, sa20, E_na20, F_value_na20, F_coder_na20, V_nb20⟩ := z20; have N := Fr.app N Nq20
  have s_na20 : h19.size ≤ na20 := sa20; have g_na20 : n0 ≤ na20 := Nat.le_trans (own_n0 O) s_na20; have sz_na20 : h0.size ≤ na20 := Nat.le_trans K.1 s_na20; have ne_nb11_na20 : nb11 ≠ na20 := Nat.ne_of_lt (Nat.lt_of_lt_of_le V_nb11.lt s_na20); have Q_na20 : Safe Z own_EL _ _ na20 := Safe.new (Z := Z) (EL := own_EL) (vm := T20.vm) s_na20
  have Q_nb11 := cr20.safe V_nb11.lt Q_nb11; have V_nb11 := V_nb11.keep K20 nin0; have O := O.keep K20 all0; have K := K.trans K20 all0; have CR := CR.trans cr20
  have V_nb20 : Arv Z h20 nb20 k20 .byte (0 : Int32) [] (.int 0) := V_nb20
  refine og_astore (L' := #[.val (.int p0), .val (.int p1), .val (.int p2), .val (.int p3), .val (.int p4), .val (.int 0), .val (.ref nb11), .val (.ref na20), .unset, .unset, .unset, .unset, .unset, .unset]) X20 hx rfl rfl (hb hby at_68) rfl ?_
  refine og_iconst (v := (-1 : Int32)) X20 hx rfl (hb hby at_70) rfl ?_
  refine og_istore (L' := #[.val (.int p0), .val (.int p1), .val (.int p2), .val (.int p3), .val (.int p4), .val (.int 0), .val (.ref nb11), .val (.ref na20), .val (.int (-1)), .unset, .unset, .unset, .unset, .unset]) X20 hx rfl (hb hby at_71) rfl ?_
  refine og_iconst (v := (0 : Int32)) X20 hx rfl (hb hby at_73) rfl ?_
  refine og_istore (L' := #[.val (.int p0), .val (.int p1), .val (.int p2), .val (.int p3), .val (.int p4), .val (.int 0), .val (.ref nb11), .val (.ref na20), .val (.int (-1)), .val (.int 0), .unset, .unset, .unset, .unset]) X20 hx rfl (hb hby at_74) rfl ?_
  refine og_iload X20 hx rfl (hb hby at_76) rfl ?_
  refine og_if_le (pc1 := 101) (pc2 := 81) X20 hx (hb hby at_78) (by decide) (by decide) rfl (fun _ => ?_) (fun q => absurd q (by decide))
  refine og_iload X20 hx rfl (hb hby at_101) rfl ?_
  refine og_iconst (v := (1 : Int32)) X20 hx rfl (hb hby at_103) rfl ?_
  refine og_icmp_le (pc1 := 127) (pc2 := 107) X20 hx (hb hby at_104) (by decide) (by decide) rfl (fun _ => ?_) (fun q => absurd q (by decide))
  refine og_iload X20 hx rfl (hb hby at_127) rfl ?_
  refine og_iconst (v := (2 : Int32)) X20 hx rfl (hb hby at_129) rfl ?_
  refine og_icmp_le (pc1 := 153) (pc2 := 133) X20 hx (hb hby at_130) (by decide) (by decide) rfl (fun _ => ?_) (fun q => absurd q (by decide))
  refine og_iload X20 hx rfl (hb hby at_153) rfl ?_
  refine og_iconst (v := (3 : Int32)) X20 hx rfl (hb hby at_155) rfl ?_
  refine og_icmp_le (pc1 := 179) (pc2 := 159) X20 hx (hb hby at_156) (by decide) (by decide) rfl (fun _ => ?_) (fun q => absurd q (by decide))
  refine og_iload X20 hx rfl (hb hby at_179) rfl ?_
  refine og_if_le (pc1 := 213) (pc2 := 184) X20 hx (hb hby at_181) (by decide) (by decide) rfl (fun _ => ?_) (fun q => absurd q (by decide))
  refine og_iconst (v := (0 : Int32)) X20 hx rfl (hb hby at_213) rfl ?_
  refine og_istore (L' := #[.val (.int p0), .val (.int p1), .val (.int p2), .val (.int p3), .val (.int p4), .val (.int 0), .val (.ref nb11), .val (.ref na20), .val (.int (-1)), .val (.int 0), .val (.int 0), .unset, .unset, .unset]) X20 hx rfl (hb hby at_214) rfl ?_
  refine og_iload X20 hx rfl (hb hby at_216) rfl ?_
  refine og_if_ne (pc1 := 223) (pc2 := 221) X20 hx (hb hby at_218) (by decide) (by decide) rfl (fun q => absurd q (by decide)) (fun _ => ?_)
  refine og_iconst (v := (1 : Int32)) X20 hx rfl (hb hby at_221) rfl ?_
  refine og_retNW X20 hx hZ hlk hEL hS e20 es hk CR hret (by simp) (hb hby at_222) (by decide) (by decide) ?_
  exact ⟨rfl, N⟩
 ·
  refine og_bipush (v := (8 : Int32)) X0 hx rfl (hb hby at_8) rfl ?_
  refine og_newarray (pc' := 12) (cells' := 1) (slots' := 8) (cap := 8) (ty := .char) X0 hx hZ rfl (ow1 hw) e0 (by decide) (by decide) (by decide) (hb hby at_10) rfl rfl rfl (by decide) (by decide) (fun T21 h21 nb21 kA21 X21 e21 E21 q21 V_nb21 => ?_)
  have s_nb21 : h0.size ≤ nb21 := Nat.le_of_eq q21.symm; have g_nb21 : n0 ≤ nb21 := Nat.le_trans (own_n0 O) s_nb21; have sz_nb21 : h0.size ≤ nb21 := Nat.le_trans K.1 s_nb21; have Q_nb21 : Safe Z own_EL _ _ nb21 := Safe.new (Z := Z) (EL := own_EL) (vm := s.vm) s_nb21
  have Q_nb21 := Safe.ext E21 CR.1 Q_nb21; have O := O.ext E21; have K := K.ext E21; have hk := Nat.le_trans hk E21.1; have CR := CR.trans (CHr.ext E21 CR.1)
  have V_nb21 : Arv Z h21 nb21 kA21 .char (8 : Int32) [(.int 0), (.int 0), (.int 0), (.int 0), (.int 0), (.int 0), (.int 0), (.int 0)] (.int 0) := V_nb21.pad (pad_rep [] (.int 0) 8)
  refine og_astore (L' := #[.val (.int p0), .val (.int p1), .val (.int p2), .val (.int p3), .val (.int p4), .val (.int 1), .val (.ref nb21), .unset, .unset, .unset, .unset, .unset, .unset, .unset]) X21 hx rfl rfl (hb hby at_12) rfl ?_
  refine og_aload X21 hx rfl rfl (hb hby at_14) rfl ?_
  refine og_iconst (v := (0 : Int32)) X21 hx rfl (hb hby at_16) rfl ?_
  refine og_iloadN X21 hx rfl (hb hby at_17) rfl ?_
  refine og_static (pc' := 21) (cells' := 1) (slots' := 8) (W := 2) X21 hx hZ (rm_c l Z a0 hw p1 h21 n0 O) hown (ow2 hw) (ow3 hw) (ow4 hw) (ow5 hw) (by decide) (by rw [hml]; rfl) e21 opd_24 [(.int p1)] [(.int 0), (.ref nb21)] rfl rfl rfl rfl (by decide) (by decide) rfl rfl (by decide) (by decide) (hb hby at_18) rfl (fun v22 T22 h22 L22 X22 e22 z22 => ?_)
  obtain ⟨c0, rfl, Nq22, hq22, hc0⟩ := z22; replace e22 := e22.trans hq22; have N := Fr.app N Nq22
  refine og_castore X22 hx hZ e22 V_nb21 ⟨by decide, by decide⟩ 0 (by decide) (Nat.le_of_ble_eq_true rfl) (hb hby at_21) rfl (fun T23 h23 X23 e23 W23 V23 => ?_)
  have sf23 : Safe Z own_EL s.vm h21 nb21 := Q_nb21; have Q_nb21 := Safe.wr W23 sf23 CR.1 Q_nb21; have O := O.wr W23 g_nb21; have K := K.wr W23 (Or.inr sz_nb21); have hk := Nat.le_trans hk (Keep.of_wr W23).1; have CR := CR.trans (CHr.wr W23 sf23 CR.1)
  have N := Fr.snoc X23 N g_nb21
  have V_nb21 : Arv Z h23 nb21 kA21 .char (8 : Int32) [(.int (nar .char c0)), (.int 0), (.int 0), (.int 0), (.int 0), (.int 0), (.int 0), (.int 0)] (.int 0) := V23
  rw [own_nc hc0] at V_nb21
  refine og_aload X23 hx rfl rfl (hb hby at_22) rfl ?_
  refine og_iconst (v := (1 : Int32)) X23 hx rfl (hb hby at_24) rfl ?_
  refine og_iloadN X23 hx rfl (hb hby at_25) rfl ?_
  refine og_static (pc' := 29) (cells' := 1) (slots' := 8) (W := 2) X23 hx hZ (rm_c l Z a0 hw p2 h23 n0 O) hown (ow2 hw) (ow3 hw) (ow4 hw) (ow5 hw) (by decide) (by rw [hml]; rfl) e23 opd_24 [(.int p2)] [(.int 1), (.ref nb21)] rfl rfl rfl rfl (by decide) (by decide) rfl rfl (by decide) (by decide) (hb hby at_26) rfl (fun v24 T24 h24 L24 X24 e24 z24 => ?_)
  obtain ⟨c1, rfl, Nq24, hq24, hc1⟩ := z24; replace e24 := e24.trans hq24; have N := Fr.app N Nq24
  refine og_castore X24 hx hZ e24 V_nb21 ⟨by decide, by decide⟩ 1 (by decide) (Nat.le_of_ble_eq_true rfl) (hb hby at_29) rfl (fun T25 h25 X25 e25 W25 V25 => ?_)
  have sf25 : Safe Z own_EL s.vm h23 nb21 := Q_nb21; have Q_nb21 := Safe.wr W25 sf25 CR.1 Q_nb21; have O := O.wr W25 g_nb21; have K := K.wr W25 (Or.inr sz_nb21); have hk := Nat.le_trans hk (Keep.of_wr W25).1; have CR := CR.trans (CHr.wr W25 sf25 CR.1)
  have N := Fr.snoc X25 N g_nb21
  have V_nb21 : Arv Z h25 nb21 kA21 .char (8 : Int32) [(.int c0), (.int (nar .char c1)), (.int 0), (.int 0), (.int 0), (.int 0), (.int 0), (.int 0)] (.int 0) := V25
  rw [own_nc hc1] at V_nb21
  refine og_aload X25 hx rfl rfl (hb hby at_30) rfl ?_
  refine og_iconst (v := (2 : Int32)) X25 hx rfl (hb hby at_32) rfl ?_
  refine og_iloadN X25 hx rfl (hb hby at_33) rfl ?_
  refine og_static (pc' := 37) (cells' := 1) (slots' := 8) (W := 2) X25 hx hZ (rm_c l Z a0 hw p3 h25 n0 O) hown (ow2 hw) (ow3 hw) (ow4 hw) (ow5 hw) (by decide) (by rw [hml]; rfl) e25 opd_24 [(.int p3)] [(.int 2), (.ref nb21)] rfl rfl rfl rfl (by decide) (by decide) rfl rfl (by decide) (by decide) (hb hby at_34) rfl (fun v26 T26 h26 L26 X26 e26 z26 => ?_)
  obtain ⟨c2, rfl, Nq26, hq26, hc2⟩ := z26; replace e26 := e26.trans hq26; have N := Fr.app N Nq26
  refine og_castore X26 hx hZ e26 V_nb21 ⟨by decide, by decide⟩ 2 (by decide) (Nat.le_of_ble_eq_true rfl) (hb hby at_37) rfl (fun T27 h27 X27 e27 W27 V27 => ?_)
  have sf27 : Safe Z own_EL s.vm h25 nb21 := Q_nb21; have Q_nb21 := Safe.wr W27 sf27 CR.1 Q_nb21; have O := O.wr W27 g_nb21; have K := K.wr W27 (Or.inr sz_nb21); have hk := Nat.le_trans hk (Keep.of_wr W27).1; have CR := CR.trans (CHr.wr W27 sf27 CR.1)
  have N := Fr.snoc X27 N g_nb21
  have V_nb21 : Arv Z h27 nb21 kA21 .char (8 : Int32) [(.int c0), (.int c1), (.int (nar .char c2)), (.int 0), (.int 0), (.int 0), (.int 0), (.int 0)] (.int 0) := V27
  rw [own_nc hc2] at V_nb21
  refine og_aload X27 hx rfl rfl (hb hby at_38) rfl ?_
  refine og_iconst (v := (3 : Int32)) X27 hx rfl (hb hby at_40) rfl ?_
  refine og_iload X27 hx rfl (hb hby at_41) rfl ?_
  refine og_static (pc' := 46) (cells' := 1) (slots' := 8) (W := 2) X27 hx hZ (rm_c l Z a0 hw p4 h27 n0 O) hown (ow2 hw) (ow3 hw) (ow4 hw) (ow5 hw) (by decide) (by rw [hml]; rfl) e27 opd_24 [(.int p4)] [(.int 3), (.ref nb21)] rfl rfl rfl rfl (by decide) (by decide) rfl rfl (by decide) (by decide) (hb hby at_43) rfl (fun v28 T28 h28 L28 X28 e28 z28 => ?_)
  obtain ⟨c3, rfl, Nq28, hq28, hc3⟩ := z28; replace e28 := e28.trans hq28; have N := Fr.app N Nq28
  refine og_castore X28 hx hZ e28 V_nb21 ⟨by decide, by decide⟩ 3 (by decide) (Nat.le_of_ble_eq_true rfl) (hb hby at_46) rfl (fun T29 h29 X29 e29 W29 V29 => ?_)
  have sf29 : Safe Z own_EL s.vm h27 nb21 := Q_nb21; have Q_nb21 := Safe.wr W29 sf29 CR.1 Q_nb21; have O := O.wr W29 g_nb21; have K := K.wr W29 (Or.inr sz_nb21); have hk := Nat.le_trans hk (Keep.of_wr W29).1; have CR := CR.trans (CHr.wr W29 sf29 CR.1)
  have N := Fr.snoc X29 N g_nb21
  have V_nb21 : Arv Z h29 nb21 kA21 .char (8 : Int32) [(.int c0), (.int c1), (.int c2), (.int (nar .char c3)), (.int 0), (.int 0), (.int 0), (.int 0)] (.int 0) := V29
  rw [own_nc hc3] at V_nb21
  refine og_iload X29 hx rfl (hb hby at_47) rfl ?_
  refine og_aload X29 hx rfl rfl (hb hby at_49) rfl ?_
  refine og_iconst (v := (0 : Int32)) X29 hx rfl (hb hby at_51) rfl ?_
  refine og_caload (v := (.int c0)) X29 hx hZ e29 V_nb21 ⟨by decide, by decide⟩ rfl (hb hby at_52) rfl ?_
  refine og_aload X29 hx rfl rfl (hb hby at_53) rfl ?_
  refine og_iconst (v := (1 : Int32)) X29 hx rfl (hb hby at_55) rfl ?_
  refine og_caload (v := (.int c1)) X29 hx hZ e29 V_nb21 ⟨by decide, by decide⟩ rfl (hb hby at_56) rfl ?_
  refine og_aload X29 hx rfl rfl (hb hby at_57) rfl ?_
  refine og_iconst (v := (2 : Int32)) X29 hx rfl (hb hby at_59) rfl ?_
  refine og_caload (v := (.int c2)) X29 hx hZ e29 V_nb21 ⟨by decide, by decide⟩ rfl (hb hby at_60) rfl ?_
  refine og_aload X29 hx rfl rfl (hb hby at_61) rfl ?_
  refine og_iconst (v := (3 : Int32)) X29 hx rfl (hb hby at_63) rfl ?_
  refine og_caload (v := (.int c3)) X29 hx hZ e29 V_nb21 ⟨by decide, by decide⟩ rfl (hb hby at_64) rfl ?_
  refine og_staticW (pc' := 68) (cells' := 4) (slots' := 14) (W := 0) X29 hx hZ (rm_mk1 l Z a0 hw c0 c1 c2 c3 hc0 hc1 hc2 hc3 cs hcs h29 n0 O hEL S_CS) hEL hS hk CR.1 all0 hown (ow6 hw) (ow7 hw) (ow4 hw) (ow8 hw) (by decide) (by rw [hml]; rfl) e29 opd_25 [(.int 1), (.int c0), (.int c1), (.int c2), (.int c3)] [] rfl rfl rfl rfl (by decide) (by decide) rfl rfl (by decide) (by decide) (hb hby at_65) rfl (fun v30 T30 h30 L30 kk30 X30 e30 hS hk hZ hown cr30 z30 => ?_)
  obtain ⟨na30, nb30, k30, rfl, Nq30, K30, sa30, E_na30, F_value_na30, F_coder_na30, V_nb30⟩ := z30; have N := Fr.app N Nq30
  have s_na30 : h29.size ≤ na30 := sa30; have g_na30 : n0 ≤ na30 := Nat.le_trans (own_n0 O) s_na30; have sz_na30 : h0.size ≤ na30 := Nat.le_trans K.1 s_na30; have ne_nb21_na30 : nb21 ≠ na30 := Nat.ne_of_lt (Nat.lt_of_lt_of_le V_nb21.lt s_na30); have Q_na30 : Safe Z own_EL _ _ na30 := Safe.new (Z := Z) (EL := own_EL) (vm := T30.vm) s_na30
  have Q_nb21 := cr30.safe V_nb21.lt Q_nb21; have V_nb21 := V_nb21.keep K30 nin0; have O := O.keep K30 all0; have K := K.trans K30 all0; have CR := CR.trans cr30
  have V_nb30 : Arv Z h30 nb30 k30 .byte (1 : Int32) [(.int c0.toInt8.toInt32)] (.int 0) := V_nb30
  refine og_astore (L' := #[.val (.int p0), .val (.int p1), .val (.int p2), .val (.int p3), .val (.int p4), .val (.int 1), .val (.ref nb21), .val (.ref na30), .unset, .unset, .unset, .unset, .unset, .unset]) X30 hx rfl rfl (hb hby at_68) rfl ?_
  refine og_iconst (v := (-1 : Int32)) X30 hx rfl (hb hby at_70) rfl ?_
  refine og_istore (L' := #[.val (.int p0), .val (.int p1), .val (.int p2), .val (.int p3), .val (.int p4), .val (.int 1), .val (.ref nb21), .val (.ref na30), .val (.int (-1)), .unset, .unset, .unset, .unset, .unset]) X30 hx rfl (hb hby at_71) rfl ?_
  refine og_iconst (v := (0 : Int32)) X30 hx rfl (hb hby at_73) rfl ?_
  refine og_istore (L' := #[.val (.int p0), .val (.int p1), .val (.int p2), .val (.int p3), .val (.int p4), .val (.int 1), .val (.ref nb21), .val (.ref na30), .val (.int (-1)), .val (.int 0), .unset, .unset, .unset, .unset]) X30 hx rfl (hb hby at_74) rfl ?_
  refine og_iload X30 hx rfl (hb hby at_76) rfl ?_
  refine og_if_le (pc1 := 101) (pc2 := 81) X30 hx (hb hby at_78) (by decide) (by decide) rfl (fun q => absurd q (by decide)) (fun _ => ?_)
  refine og_aload X30 hx rfl rfl (hb hby at_81) rfl ?_
  refine og_iconst (v := (0 : Int32)) X30 hx rfl (hb hby at_83) rfl ?_
  refine og_caload (v := (.int c0)) X30 hx hZ e30 V_nb21 ⟨by decide, by decide⟩ rfl (hb hby at_84) rfl ?_
  refine og_bipush (v := (46 : Int32)) X30 hx rfl (hb hby at_85) rfl ?_
  refine og_icmp_ne (pc1 := 101) (pc2 := 90) X30 hx (hb hby at_87) (by decide) (by decide) rfl (fun hc87 => ?_) (fun hc87 => ?_)
  ·
   refine og_iload X30 hx rfl (hb hby at_101) rfl ?_
   refine og_iconst (v := (1 : Int32)) X30 hx rfl (hb hby at_103) rfl ?_
   refine og_icmp_le (pc1 := 127) (pc2 := 107) X30 hx (hb hby at_104) (by decide) (by decide) rfl (fun _ => ?_) (fun q => absurd q (by decide))
   refine og_iload X30 hx rfl (hb hby at_127) rfl ?_
   refine og_iconst (v := (2 : Int32)) X30 hx rfl (hb hby at_129) rfl ?_
   refine og_icmp_le (pc1 := 153) (pc2 := 133) X30 hx (hb hby at_130) (by decide) (by decide) rfl (fun _ => ?_) (fun q => absurd q (by decide))
   refine og_iload X30 hx rfl (hb hby at_153) rfl ?_
   refine og_iconst (v := (3 : Int32)) X30 hx rfl (hb hby at_155) rfl ?_
   refine og_icmp_le (pc1 := 179) (pc2 := 159) X30 hx (hb hby at_156) (by decide) (by decide) rfl (fun _ => ?_) (fun q => absurd q (by decide))
   refine og_iload X30 hx rfl (hb hby at_179) rfl ?_
   refine og_if_le (pc1 := 213) (pc2 := 184) X30 hx (hb hby at_181) (by decide) (by decide) rfl (fun q => absurd q (by decide)) (fun _ => ?_)
   refine og_iload X30 hx rfl (hb hby at_184) rfl ?_
   refine og_if_eq (pc1 := 209) (pc2 := 189) X30 hx (hb hby at_186) (by decide) (by decide) rfl (fun _ => ?_) (fun q => absurd q (by decide))
   refine og_iconst (v := (1 : Int32)) X30 hx rfl (hb hby at_209) rfl ?_
   refine og_goto (pc' := 214) X30 hx (hb hby at_210) (by decide) (by decide) ?_
   refine og_istore (L' := #[.val (.int p0), .val (.int p1), .val (.int p2), .val (.int p3), .val (.int p4), .val (.int 1), .val (.ref nb21), .val (.ref na30), .val (.int (-1)), .val (.int 0), .val (.int 1), .unset, .unset, .unset]) X30 hx rfl (hb hby at_214) rfl ?_
   refine og_iload X30 hx rfl (hb hby at_216) rfl ?_
   refine og_if_ne (pc1 := 223) (pc2 := 221) X30 hx (hb hby at_218) (by decide) (by decide) rfl (fun _ => ?_) (fun q => absurd q (by decide))
   refine og_aload X30 hx rfl rfl (hb hby at_223) rfl ?_
   refine og_staticW (pc' := 228) (cells' := 13) (slots' := 124) (W := 0) X30 hx hZ (rm_pa1_n l Z a0 hw na30 nb30 k30 (c0.toInt8.toInt32) (own_n46 hc0 hc87) cs hcs fm hfm h30 n0 O hEL E_na30 F_value_na30 F_coder_na30 V_nb30 S_CS S_FM) hEL hS hk CR.1 all0 hown (ow41 hw) (ow42 hw) (ow43 hw) (ow44 hw) (by decide) (by rw [hml]; rfl) e30 opd_26 [(.ref na30)] [] rfl rfl rfl rfl (by decide) (by decide) rfl rfl (by decide) (by decide) (hb hby at_225) rfl (fun v31 T31 h31 L31 kk31 X31 e31 hS hk hZ hown cr31 z31 => ?_)
   obtain ⟨nt31, nx31, nbx31, kx31, rfl, Nq31, K31, E_nt31, F_schema_nt31, F_name_nt31, E_nx31, F_value_nx31, F_coder_nx31, V_nbx31⟩ := z31; have N := Fr.app N Nq31
   have Q_nb21 := cr31.safe V_nb21.lt Q_nb21; have V_nb21 := V_nb21.keep K31 nin0; have E_na30 := E_na30.keep K31; have F_value_na30 := F_value_na30.keep K31 nin0; have F_coder_na30 := F_coder_na30.keep K31 nin0; have V_nb30 := V_nb30.keep K31 nin0
   have O := O.keep K31 all0; have K := K.trans K31 all0; have CR := CR.trans cr31
   refine og_astore (L' := #[.val (.int p0), .val (.int p1), .val (.int p2), .val (.int p3), .val (.int p4), .val (.int 1), .val (.ref nb21), .val (.ref na30), .val (.int (-1)), .val (.int 0), .val (.int 1), .val (.ref nt31), .unset, .unset]) X31 hx rfl rfl (hb hby at_228) rfl ?_
   refine og_iload X31 hx rfl (hb hby at_230) rfl ?_
   refine og_if_ne (pc1 := 267) (pc2 := 235) X31 hx (hb hby at_232) (by decide) (by decide) rfl (fun q => absurd q (by decide)) (fun _ => ?_)
   refine og_aload X31 hx rfl rfl (hb hby at_235) rfl ?_
   refine og_virtual (pc' := 240) (cells' := 13) (slots' := 124) (W := 0) X31 hx hZ (rm_gschema l Z a0 hw nt31 nx31 h31 n0 O F_schema_nt31) hown (ow116 hw) (ow117 hw) (own_nf hZ (ow119 hw)) (ow119 hw) (ow118 hw) (ow43 hw) (ow120 hw) (by decide) (by rw [hml]; rfl) e31 opd_27 [] [] rfl rfl rfl rfl (by decide) (by decide) rfl rfl (by decide) (by decide) E_nt31 (hb hby at_237) rfl (fun v32 T32 h32 L32 X32 e32 z32 => ?_)
   obtain ⟨rfl, Nq32, hq32⟩ := z32; replace e32 := e32.trans hq32; have N := Fr.app N Nq32
   refine og_ldcS (pc' := 242) (cells' := 15) (slots' := 152) (n := 24) (z := (6 : Int32)) (vs := [(.int 112), (.int 117), (.int 98), (.int 108), (.int 105), (.int 99)]) X32 hx hZ hown (hw _ (List.mem_of_getElem? (i := 121) rfl)) (own_wS hw) e32 hS hk hEL (by decide) CR.1 ⟨by decide, by decide⟩ (by decide) (by decide) (by decide) (by decide) (hb hby at_240) rfl rfl rfl (by decide) (by decide) (fun na33 T33 h33 kk33 nb33 k33 X33 e33 E33 hS hk hZ hown E_na33 F_coder_na33 F_value_na33 V_nb33 cr33 hne33 => ?_)
   have Q_nb21 := cr33.safe V_nb21.lt Q_nb21; have V_nb21 := V_nb21.ext E33; have E_na30 := E_na30.ext E33; have F_value_na30 := F_value_na30.ext E33; have F_coder_na30 := F_coder_na30.ext E33; have V_nb30 := V_nb30.ext E33
   have E_nt31 := E_nt31.ext E33; have F_schema_nt31 := F_schema_nt31.ext E33; have F_name_nt31 := F_name_nt31.ext E33; have E_nx31 := E_nx31.ext E33; have F_value_nx31 := F_value_nx31.ext E33; have F_coder_nx31 := F_coder_nx31.ext E33
   have V_nbx31 := V_nbx31.ext E33; have O := O.ext E33; have K := K.ext E33; have CR := CR.trans cr33
   have ne_nb21_na33 := (hne33 _ Q_nb21).1; have ne_nb21_nb33 := (hne33 _ Q_nb21).2
   refine og_virtual (pc' := 245) (cells' := 15) (slots' := 152) (W := 0) X33 hx hZ (rm_eqG l Z a0 hw nx31 na33 nbx31 nb33 kx31 k33 [(112 : Int32), (117 : Int32), (98 : Int32), (108 : Int32), (105 : Int32), (99 : Int32)] [(112 : Int32), (117 : Int32), (98 : Int32), (108 : Int32), (105 : Int32), (99 : Int32)] (6 : Int32) (6 : Int32) (by rfl) (by rfl) (by decide) (by decide) 1 (if_pos rfl).symm cs hcs h33 n0 O E_nx31 F_value_nx31 F_coder_nx31 V_nbx31 E_na33 F_value_na33 F_coder_na33 V_nb33 S_CS) hown (ow122 hw) (ow123 hw) (own_nf hZ (ow125 hw)) (ow125 hw) (ow124 hw) (ow11 hw) (ow126 hw) (by decide) (by rw [hml]; rfl) e33 opd_28 [(.ref na33)] [] rfl rfl rfl rfl (by decide) (by decide) rfl rfl (by decide) (by decide) E_nx31 (hb hby at_242) rfl (fun v34 T34 h34 L34 X34 e34 z34 => ?_)
   obtain ⟨rfl, Nq34, hq34⟩ := z34; replace e34 := e34.trans hq34; have N := Fr.app N Nq34
   refine og_if_eq (pc1 := 265) (pc2 := 248) X34 hx (hb hby at_245) (by decide) (by decide) rfl (fun q => absurd q (by decide)) (fun _ => ?_)
   refine og_aload X34 hx rfl rfl (hb hby at_248) rfl ?_
   refine og_virtual (pc' := 253) (cells' := 15) (slots' := 152) (W := 0) X34 hx hZ (rm_gname l Z a0 hw nt31 na30 h33 n0 O F_name_nt31) hown (ow127 hw) (ow128 hw) (own_nf hZ (ow130 hw)) (ow130 hw) (ow129 hw) (ow43 hw) (ow131 hw) (by decide) (by rw [hml]; rfl) e34 opd_27 [] [] rfl rfl rfl rfl (by decide) (by decide) rfl rfl (by decide) (by decide) E_nt31 (hb hby at_250) rfl (fun v35 T35 h35 L35 X35 e35 z35 => ?_)
   obtain ⟨rfl, Nq35, hq35⟩ := z35; replace e35 := e35.trans hq35; have N := Fr.app N Nq35
   refine og_aload X35 hx rfl rfl (hb hby at_253) rfl ?_
   refine og_virtual (pc' := 258) (cells' := 15) (slots' := 152) (W := 0) X35 hx hZ (rm_eqG l Z a0 hw na30 na30 nb30 nb30 k30 k30 [c0.toInt8.toInt32] [c0.toInt8.toInt32] (1 : Int32) (1 : Int32) (by rfl) (by rfl) (by decide) (by decide) 1 (if_pos rfl).symm cs hcs h33 n0 O E_na30 F_value_na30 F_coder_na30 V_nb30 E_na30 F_value_na30 F_coder_na30 V_nb30 S_CS) hown (ow122 hw) (ow123 hw) (own_nf hZ (ow125 hw)) (ow125 hw) (ow124 hw) (ow11 hw) (ow126 hw) (by decide) (by rw [hml]; rfl) e35 opd_28 [(.ref na30)] [] rfl rfl rfl rfl (by decide) (by decide) rfl rfl (by decide) (by decide) E_na30 (hb hby at_255) rfl (fun v36 T36 h36 L36 X36 e36 z36 => ?_)
   obtain ⟨rfl, Nq36, hq36⟩ := z36; replace e36 := e36.trans hq36; have N := Fr.app N Nq36
   refine og_if_eq (pc1 := 265) (pc2 := 261) X36 hx (hb hby at_258) (by decide) (by decide) rfl (fun q => absurd q (by decide)) (fun _ => ?_)
   refine og_iconst (v := (1 : Int32)) X36 hx rfl (hb hby at_261) rfl ?_
   refine og_goto (pc' := 266) X36 hx (hb hby at_262) (by decide) (by decide) ?_
   refine og_retNW X36 hx hZ hlk hEL hS e36 es hk CR hret (by simp) (hb hby at_266) (by decide) (by decide) ?_
   exact ⟨rfl, N⟩
  ·
   subst hc87
   have V_nb30 : Arv Z h30 nb30 k30 .byte (1 : Int32) [(.int 46)] (.int 0) := V_nb30
   refine og_iinc (L' := #[.val (.int p0), .val (.int p1), .val (.int p2), .val (.int p3), .val (.int p4), .val (.int 1), .val (.ref nb21), .val (.ref na30), .val (.int (-1)), .val (.int 1), .unset, .unset, .unset, .unset]) (w := (1 : Int32)) X30 hx rfl rfl rfl (hb hby at_90) rfl ?_
   refine og_iload X30 hx rfl (hb hby at_93) rfl ?_
   refine og_if_ge (pc1 := 101) (pc2 := 98) X30 hx (hb hby at_95) (by decide) (by decide) rfl (fun q => absurd q (by decide)) (fun _ => ?_)
   refine og_iconst (v := (0 : Int32)) X30 hx rfl (hb hby at_98) rfl ?_
   refine og_istore (L' := #[.val (.int p0), .val (.int p1), .val (.int p2), .val (.int p3), .val (.int p4), .val (.int 1), .val (.ref nb21), .val (.ref na30), .val (.int 0), .val (.int 1), .unset, .unset, .unset, .unset]) X30 hx rfl (hb hby at_99) rfl ?_
   refine og_iload X30 hx rfl (hb hby at_101) rfl ?_
   refine og_iconst (v := (1 : Int32)) X30 hx rfl (hb hby at_103) rfl ?_
   refine og_icmp_le (pc1 := 127) (pc2 := 107) X30 hx (hb hby at_104) (by decide) (by decide) rfl (fun _ => ?_) (fun q => absurd q (by decide))
   refine og_iload X30 hx rfl (hb hby at_127) rfl ?_
   refine og_iconst (v := (2 : Int32)) X30 hx rfl (hb hby at_129) rfl ?_
   refine og_icmp_le (pc1 := 153) (pc2 := 133) X30 hx (hb hby at_130) (by decide) (by decide) rfl (fun _ => ?_) (fun q => absurd q (by decide))
   refine og_iload X30 hx rfl (hb hby at_153) rfl ?_
   refine og_iconst (v := (3 : Int32)) X30 hx rfl (hb hby at_155) rfl ?_
   refine og_icmp_le (pc1 := 179) (pc2 := 159) X30 hx (hb hby at_156) (by decide) (by decide) rfl (fun _ => ?_) (fun q => absurd q (by decide))
   refine og_iload X30 hx rfl (hb hby at_179) rfl ?_
   refine og_if_le (pc1 := 213) (pc2 := 184) X30 hx (hb hby at_181) (by decide) (by decide) rfl (fun q => absurd q (by decide)) (fun _ => ?_)
   refine og_iload X30 hx rfl (hb hby at_184) rfl ?_
   refine og_if_eq (pc1 := 209) (pc2 := 189) X30 hx (hb hby at_186) (by decide) (by decide) rfl (fun q => absurd q (by decide)) (fun _ => ?_)
   refine og_iload X30 hx rfl (hb hby at_189) rfl ?_
   refine og_iconst (v := (1 : Int32)) X30 hx rfl (hb hby at_191) rfl ?_
   refine og_icmp_ne (pc1 := 213) (pc2 := 195) X30 hx (hb hby at_192) (by decide) (by decide) rfl (fun q => absurd q (by decide)) (fun _ => ?_)
   refine og_iload X30 hx rfl (hb hby at_195) rfl ?_
   refine og_if_eq (pc1 := 213) (pc2 := 200) X30 hx (hb hby at_197) (by decide) (by decide) rfl (fun _ => ?_) (fun q => absurd q (by decide))
   refine og_iconst (v := (0 : Int32)) X30 hx rfl (hb hby at_213) rfl ?_
   refine og_istore (L' := #[.val (.int p0), .val (.int p1), .val (.int p2), .val (.int p3), .val (.int p4), .val (.int 1), .val (.ref nb21), .val (.ref na30), .val (.int 0), .val (.int 1), .val (.int 0), .unset, .unset, .unset]) X30 hx rfl (hb hby at_214) rfl ?_
   refine og_iload X30 hx rfl (hb hby at_216) rfl ?_
   refine og_if_ne (pc1 := 223) (pc2 := 221) X30 hx (hb hby at_218) (by decide) (by decide) rfl (fun q => absurd q (by decide)) (fun _ => ?_)
   refine og_iconst (v := (1 : Int32)) X30 hx rfl (hb hby at_221) rfl ?_
   refine og_retNW X30 hx hZ hlk hEL hS e30 es hk CR hret (by simp) (hb hby at_222) (by decide) (by decide) ?_
   exact ⟨rfl, N⟩
 ·
  refine og_bipush (v := (8 : Int32)) X0 hx rfl (hb hby at_8) rfl ?_
  refine og_newarray (pc' := 12) (cells' := 1) (slots' := 8) (cap := 8) (ty := .char) X0 hx hZ rfl (ow1 hw) e0 (by decide) (by decide) (by decide) (hb hby at_10) rfl rfl rfl (by decide) (by decide) (fun T37 h37 nb37 kA37 X37 e37 E37 q37 V_nb37 => ?_)
  have s_nb37 : h0.size ≤ nb37 := Nat.le_of_eq q37.symm; have g_nb37 : n0 ≤ nb37 := Nat.le_trans (own_n0 O) s_nb37; have sz_nb37 : h0.size ≤ nb37 := Nat.le_trans K.1 s_nb37; have Q_nb37 : Safe Z own_EL _ _ nb37 := Safe.new (Z := Z) (EL := own_EL) (vm := s.vm) s_nb37
  have Q_nb37 := Safe.ext E37 CR.1 Q_nb37; have O := O.ext E37; have K := K.ext E37; have hk := Nat.le_trans hk E37.1; have CR := CR.trans (CHr.ext E37 CR.1)
  have V_nb37 : Arv Z h37 nb37 kA37 .char (8 : Int32) [(.int 0), (.int 0), (.int 0), (.int 0), (.int 0), (.int 0), (.int 0), (.int 0)] (.int 0) := V_nb37.pad (pad_rep [] (.int 0) 8)
  refine og_astore (L' := #[.val (.int p0), .val (.int p1), .val (.int p2), .val (.int p3), .val (.int p4), .val (.int 2), .val (.ref nb37), .unset, .unset, .unset, .unset, .unset, .unset, .unset]) X37 hx rfl rfl (hb hby at_12) rfl ?_
  refine og_aload X37 hx rfl rfl (hb hby at_14) rfl ?_
  refine og_iconst (v := (0 : Int32)) X37 hx rfl (hb hby at_16) rfl ?_
  refine og_iloadN X37 hx rfl (hb hby at_17) rfl ?_
  refine og_static (pc' := 21) (cells' := 1) (slots' := 8) (W := 2) X37 hx hZ (rm_c l Z a0 hw p1 h37 n0 O) hown (ow2 hw) (ow3 hw) (ow4 hw) (ow5 hw) (by decide) (by rw [hml]; rfl) e37 opd_24 [(.int p1)] [(.int 0), (.ref nb37)] rfl rfl rfl rfl (by decide) (by decide) rfl rfl (by decide) (by decide) (hb hby at_18) rfl (fun v38 T38 h38 L38 X38 e38 z38 => ?_)
  obtain ⟨c0, rfl, Nq38, hq38, hc0⟩ := z38; replace e38 := e38.trans hq38; have N := Fr.app N Nq38
  refine og_castore X38 hx hZ e38 V_nb37 ⟨by decide, by decide⟩ 0 (by decide) (Nat.le_of_ble_eq_true rfl) (hb hby at_21) rfl (fun T39 h39 X39 e39 W39 V39 => ?_)
  have sf39 : Safe Z own_EL s.vm h37 nb37 := Q_nb37; have Q_nb37 := Safe.wr W39 sf39 CR.1 Q_nb37; have O := O.wr W39 g_nb37; have K := K.wr W39 (Or.inr sz_nb37); have hk := Nat.le_trans hk (Keep.of_wr W39).1; have CR := CR.trans (CHr.wr W39 sf39 CR.1)
  have N := Fr.snoc X39 N g_nb37
  have V_nb37 : Arv Z h39 nb37 kA37 .char (8 : Int32) [(.int (nar .char c0)), (.int 0), (.int 0), (.int 0), (.int 0), (.int 0), (.int 0), (.int 0)] (.int 0) := V39
  rw [own_nc hc0] at V_nb37
  refine og_aload X39 hx rfl rfl (hb hby at_22) rfl ?_
  refine og_iconst (v := (1 : Int32)) X39 hx rfl (hb hby at_24) rfl ?_
  refine og_iloadN X39 hx rfl (hb hby at_25) rfl ?_
  refine og_static (pc' := 29) (cells' := 1) (slots' := 8) (W := 2) X39 hx hZ (rm_c l Z a0 hw p2 h39 n0 O) hown (ow2 hw) (ow3 hw) (ow4 hw) (ow5 hw) (by decide) (by rw [hml]; rfl) e39 opd_24 [(.int p2)] [(.int 1), (.ref nb37)] rfl rfl rfl rfl (by decide) (by decide) rfl rfl (by decide) (by decide) (hb hby at_26) rfl (fun v40 T40 h40 L40 X40 e40 z40 => ?_)
  obtain ⟨c1, rfl, Nq40, hq40, hc1⟩ := z40; replace e40 := e40.trans hq40; have N := Fr.app N Nq40
  refine og_castore X40 hx hZ e40 V_nb37 ⟨by decide, by decide⟩ 1 (by decide) (Nat.le_of_ble_eq_true rfl) (hb hby at_29) rfl (fun T41 h41 X41 e41 W41 V41 => ?_)
  have sf41 : Safe Z own_EL s.vm h39 nb37 := Q_nb37; have Q_nb37 := Safe.wr W41 sf41 CR.1 Q_nb37; have O := O.wr W41 g_nb37; have K := K.wr W41 (Or.inr sz_nb37); have hk := Nat.le_trans hk (Keep.of_wr W41).1; have CR := CR.trans (CHr.wr W41 sf41 CR.1)
  have N := Fr.snoc X41 N g_nb37
  have V_nb37 : Arv Z h41 nb37 kA37 .char (8 : Int32) [(.int c0), (.int (nar .char c1)), (.int 0), (.int 0), (.int 0), (.int 0), (.int 0), (.int 0)] (.int 0) := V41
  rw [own_nc hc1] at V_nb37
  refine og_aload X41 hx rfl rfl (hb hby at_30) rfl ?_
  refine og_iconst (v := (2 : Int32)) X41 hx rfl (hb hby at_32) rfl ?_
  refine og_iloadN X41 hx rfl (hb hby at_33) rfl ?_
  refine og_static (pc' := 37) (cells' := 1) (slots' := 8) (W := 2) X41 hx hZ (rm_c l Z a0 hw p3 h41 n0 O) hown (ow2 hw) (ow3 hw) (ow4 hw) (ow5 hw) (by decide) (by rw [hml]; rfl) e41 opd_24 [(.int p3)] [(.int 2), (.ref nb37)] rfl rfl rfl rfl (by decide) (by decide) rfl rfl (by decide) (by decide) (hb hby at_34) rfl (fun v42 T42 h42 L42 X42 e42 z42 => ?_)
  obtain ⟨c2, rfl, Nq42, hq42, hc2⟩ := z42; replace e42 := e42.trans hq42; have N := Fr.app N Nq42
  refine og_castore X42 hx hZ e42 V_nb37 ⟨by decide, by decide⟩ 2 (by decide) (Nat.le_of_ble_eq_true rfl) (hb hby at_37) rfl (fun T43 h43 X43 e43 W43 V43 => ?_)
  have sf43 : Safe Z own_EL s.vm h41 nb37 := Q_nb37; have Q_nb37 := Safe.wr W43 sf43 CR.1 Q_nb37; have O := O.wr W43 g_nb37; have K := K.wr W43 (Or.inr sz_nb37); have hk := Nat.le_trans hk (Keep.of_wr W43).1; have CR := CR.trans (CHr.wr W43 sf43 CR.1)
  have N := Fr.snoc X43 N g_nb37
  have V_nb37 : Arv Z h43 nb37 kA37 .char (8 : Int32) [(.int c0), (.int c1), (.int (nar .char c2)), (.int 0), (.int 0), (.int 0), (.int 0), (.int 0)] (.int 0) := V43
  rw [own_nc hc2] at V_nb37
  refine og_aload X43 hx rfl rfl (hb hby at_38) rfl ?_
  refine og_iconst (v := (3 : Int32)) X43 hx rfl (hb hby at_40) rfl ?_
  refine og_iload X43 hx rfl (hb hby at_41) rfl ?_
  refine og_static (pc' := 46) (cells' := 1) (slots' := 8) (W := 2) X43 hx hZ (rm_c l Z a0 hw p4 h43 n0 O) hown (ow2 hw) (ow3 hw) (ow4 hw) (ow5 hw) (by decide) (by rw [hml]; rfl) e43 opd_24 [(.int p4)] [(.int 3), (.ref nb37)] rfl rfl rfl rfl (by decide) (by decide) rfl rfl (by decide) (by decide) (hb hby at_43) rfl (fun v44 T44 h44 L44 X44 e44 z44 => ?_)
  obtain ⟨c3, rfl, Nq44, hq44, hc3⟩ := z44; replace e44 := e44.trans hq44; have N := Fr.app N Nq44
  refine og_castore X44 hx hZ e44 V_nb37 ⟨by decide, by decide⟩ 3 (by decide) (Nat.le_of_ble_eq_true rfl) (hb hby at_46) rfl (fun T45 h45 X45 e45 W45 V45 => ?_)
  have sf45 : Safe Z own_EL s.vm h43 nb37 := Q_nb37; have Q_nb37 := Safe.wr W45 sf45 CR.1 Q_nb37; have O := O.wr W45 g_nb37; have K := K.wr W45 (Or.inr sz_nb37); have hk := Nat.le_trans hk (Keep.of_wr W45).1; have CR := CR.trans (CHr.wr W45 sf45 CR.1)
  have N := Fr.snoc X45 N g_nb37
  have V_nb37 : Arv Z h45 nb37 kA37 .char (8 : Int32) [(.int c0), (.int c1), (.int c2), (.int (nar .char c3)), (.int 0), (.int 0), (.int 0), (.int 0)] (.int 0) := V45
  rw [own_nc hc3] at V_nb37
  refine og_iload X45 hx rfl (hb hby at_47) rfl ?_
  refine og_aload X45 hx rfl rfl (hb hby at_49) rfl ?_
  refine og_iconst (v := (0 : Int32)) X45 hx rfl (hb hby at_51) rfl ?_
  refine og_caload (v := (.int c0)) X45 hx hZ e45 V_nb37 ⟨by decide, by decide⟩ rfl (hb hby at_52) rfl ?_
  refine og_aload X45 hx rfl rfl (hb hby at_53) rfl ?_
  refine og_iconst (v := (1 : Int32)) X45 hx rfl (hb hby at_55) rfl ?_
  refine og_caload (v := (.int c1)) X45 hx hZ e45 V_nb37 ⟨by decide, by decide⟩ rfl (hb hby at_56) rfl ?_
  refine og_aload X45 hx rfl rfl (hb hby at_57) rfl ?_
  refine og_iconst (v := (2 : Int32)) X45 hx rfl (hb hby at_59) rfl ?_
  refine og_caload (v := (.int c2)) X45 hx hZ e45 V_nb37 ⟨by decide, by decide⟩ rfl (hb hby at_60) rfl ?_
  refine og_aload X45 hx rfl rfl (hb hby at_61) rfl ?_
  refine og_iconst (v := (3 : Int32)) X45 hx rfl (hb hby at_63) rfl ?_
  refine og_caload (v := (.int c3)) X45 hx hZ e45 V_nb37 ⟨by decide, by decide⟩ rfl (hb hby at_64) rfl ?_
  refine og_staticW (pc' := 68) (cells' := 4) (slots' := 16) (W := 0) X45 hx hZ (rm_mk2 l Z a0 hw c0 c1 c2 c3 hc0 hc1 hc2 hc3 cs hcs h45 n0 O hEL S_CS) hEL hS hk CR.1 all0 hown (ow6 hw) (ow7 hw) (ow4 hw) (ow8 hw) (by decide) (by rw [hml]; rfl) e45 opd_25 [(.int 2), (.int c0), (.int c1), (.int c2), (.int c3)] [] rfl rfl rfl rfl (by decide) (by decide) rfl rfl (by decide) (by decide) (hb hby at_65) rfl (fun v46 T46 h46 L46 kk46 X46 e46 hS hk hZ hown cr46 z46 => ?_)
  obtain ⟨na46, nb46, k46, rfl, Nq46, K46, sa46, E_na46, F_value_na46, F_coder_na46, V_nb46⟩ := z46; have N := Fr.app N Nq46
  have s_na46 : h45.size ≤ na46 := sa46; have g_na46 : n0 ≤ na46 := Nat.le_trans (own_n0 O) s_na46; have sz_na46 : h0.size ≤ na46 := Nat.le_trans K.1 s_na46; have ne_nb37_na46 : nb37 ≠ na46 := Nat.ne_of_lt (Nat.lt_of_lt_of_le V_nb37.lt s_na46); have Q_na46 : Safe Z own_EL _ _ na46 := Safe.new (Z := Z) (EL := own_EL) (vm := T46.vm) s_na46
  have Q_nb37 := cr46.safe V_nb37.lt Q_nb37; have V_nb37 := V_nb37.keep K46 nin0; have O := O.keep K46 all0; have K := K.trans K46 all0; have CR := CR.trans cr46
  have V_nb46 : Arv Z h46 nb46 k46 .byte (2 : Int32) [(.int c0.toInt8.toInt32), (.int c1.toInt8.toInt32)] (.int 0) := V_nb46
  refine og_astore (L' := #[.val (.int p0), .val (.int p1), .val (.int p2), .val (.int p3), .val (.int p4), .val (.int 2), .val (.ref nb37), .val (.ref na46), .unset, .unset, .unset, .unset, .unset, .unset]) X46 hx rfl rfl (hb hby at_68) rfl ?_
  refine og_iconst (v := (-1 : Int32)) X46 hx rfl (hb hby at_70) rfl ?_
  refine og_istore (L' := #[.val (.int p0), .val (.int p1), .val (.int p2), .val (.int p3), .val (.int p4), .val (.int 2), .val (.ref nb37), .val (.ref na46), .val (.int (-1)), .unset, .unset, .unset, .unset, .unset]) X46 hx rfl (hb hby at_71) rfl ?_
  refine og_iconst (v := (0 : Int32)) X46 hx rfl (hb hby at_73) rfl ?_
  refine og_istore (L' := #[.val (.int p0), .val (.int p1), .val (.int p2), .val (.int p3), .val (.int p4), .val (.int 2), .val (.ref nb37), .val (.ref na46), .val (.int (-1)), .val (.int 0), .unset, .unset, .unset, .unset]) X46 hx rfl (hb hby at_74) rfl ?_
  refine og_iload X46 hx rfl (hb hby at_76) rfl ?_
  refine og_if_le (pc1 := 101) (pc2 := 81) X46 hx (hb hby at_78) (by decide) (by decide) rfl (fun q => absurd q (by decide)) (fun _ => ?_)
  refine og_aload X46 hx rfl rfl (hb hby at_81) rfl ?_
  refine og_iconst (v := (0 : Int32)) X46 hx rfl (hb hby at_83) rfl ?_
  refine og_caload (v := (.int c0)) X46 hx hZ e46 V_nb37 ⟨by decide, by decide⟩ rfl (hb hby at_84) rfl ?_
  refine og_bipush (v := (46 : Int32)) X46 hx rfl (hb hby at_85) rfl ?_
  refine og_icmp_ne (pc1 := 101) (pc2 := 90) X46 hx (hb hby at_87) (by decide) (by decide) rfl (fun hc87 => ?_) (fun hc87 => ?_)
  ·
   refine og_iload X46 hx rfl (hb hby at_101) rfl ?_
   refine og_iconst (v := (1 : Int32)) X46 hx rfl (hb hby at_103) rfl ?_
   refine og_icmp_le (pc1 := 127) (pc2 := 107) X46 hx (hb hby at_104) (by decide) (by decide) rfl (fun q => absurd q (by decide)) (fun _ => ?_)
   refine og_aload X46 hx rfl rfl (hb hby at_107) rfl ?_
   refine og_iconst (v := (1 : Int32)) X46 hx rfl (hb hby at_109) rfl ?_
   refine og_caload (v := (.int c1)) X46 hx hZ e46 V_nb37 ⟨by decide, by decide⟩ rfl (hb hby at_110) rfl ?_
   refine og_bipush (v := (46 : Int32)) X46 hx rfl (hb hby at_111) rfl ?_
   refine og_icmp_ne (pc1 := 127) (pc2 := 116) X46 hx (hb hby at_113) (by decide) (by decide) rfl (fun hc113 => ?_) (fun hc113 => ?_)
   ·
    refine og_iload X46 hx rfl (hb hby at_127) rfl ?_
    refine og_iconst (v := (2 : Int32)) X46 hx rfl (hb hby at_129) rfl ?_
    refine og_icmp_le (pc1 := 153) (pc2 := 133) X46 hx (hb hby at_130) (by decide) (by decide) rfl (fun _ => ?_) (fun q => absurd q (by decide))
    refine og_iload X46 hx rfl (hb hby at_153) rfl ?_
    refine og_iconst (v := (3 : Int32)) X46 hx rfl (hb hby at_155) rfl ?_
    refine og_icmp_le (pc1 := 179) (pc2 := 159) X46 hx (hb hby at_156) (by decide) (by decide) rfl (fun _ => ?_) (fun q => absurd q (by decide))
    refine og_iload X46 hx rfl (hb hby at_179) rfl ?_
    refine og_if_le (pc1 := 213) (pc2 := 184) X46 hx (hb hby at_181) (by decide) (by decide) rfl (fun q => absurd q (by decide)) (fun _ => ?_)
    refine og_iload X46 hx rfl (hb hby at_184) rfl ?_
    refine og_if_eq (pc1 := 209) (pc2 := 189) X46 hx (hb hby at_186) (by decide) (by decide) rfl (fun _ => ?_) (fun q => absurd q (by decide))
    refine og_iconst (v := (1 : Int32)) X46 hx rfl (hb hby at_209) rfl ?_
    refine og_goto (pc' := 214) X46 hx (hb hby at_210) (by decide) (by decide) ?_
    refine og_istore (L' := #[.val (.int p0), .val (.int p1), .val (.int p2), .val (.int p3), .val (.int p4), .val (.int 2), .val (.ref nb37), .val (.ref na46), .val (.int (-1)), .val (.int 0), .val (.int 1), .unset, .unset, .unset]) X46 hx rfl (hb hby at_214) rfl ?_
    refine og_iload X46 hx rfl (hb hby at_216) rfl ?_
    refine og_if_ne (pc1 := 223) (pc2 := 221) X46 hx (hb hby at_218) (by decide) (by decide) rfl (fun _ => ?_) (fun q => absurd q (by decide))
    refine og_aload X46 hx rfl rfl (hb hby at_223) rfl ?_
    refine og_staticW (pc' := 228) (cells' := 13) (slots' := 126) (W := 0) X46 hx hZ (rm_pa2_n l Z a0 hw na46 nb46 k46 (c0.toInt8.toInt32) (c1.toInt8.toInt32) (own_n46 hc0 hc87) (own_n46 hc1 hc113) cs hcs fm hfm h46 n0 O hEL E_na46 F_value_na46 F_coder_na46 V_nb46 S_CS S_FM) hEL hS hk CR.1 all0 hown (ow41 hw) (ow42 hw) (ow43 hw) (ow44 hw) (by decide) (by rw [hml]; rfl) e46 opd_26 [(.ref na46)] [] rfl rfl rfl rfl (by decide) (by decide) rfl rfl (by decide) (by decide) (hb hby at_225) rfl (fun v47 T47 h47 L47 kk47 X47 e47 hS hk hZ hown cr47 z47 => ?_)
    obtain ⟨nt47, nx47, nbx47, kx47, rfl, Nq47, K47, E_nt47, F_schema_nt47, F_name_nt47, E_nx47, F_value_nx47, F_coder_nx47, V_nbx47⟩ := z47; have N := Fr.app N Nq47
    have Q_nb37 := cr47.safe V_nb37.lt Q_nb37; have V_nb37 := V_nb37.keep K47 nin0; have E_na46 := E_na46.keep K47; have F_value_na46 := F_value_na46.keep K47 nin0; have F_coder_na46 := F_coder_na46.keep K47 nin0; have V_nb46 := V_nb46.keep K47 nin0
    have O := O.keep K47 all0; have K := K.trans K47 all0; have CR := CR.trans cr47
    refine og_astore (L' := #[.val (.int p0), .val (.int p1), .val (.int p2), .val (.int p3), .val (.int p4), .val (.int 2), .val (.ref nb37), .val (.ref na46), .val (.int (-1)), .val (.int 0), .val (.int 1), .val (.ref nt47), .unset, .unset]) X47 hx rfl rfl (hb hby at_228) rfl ?_
    refine og_iload X47 hx rfl (hb hby at_230) rfl ?_
    refine og_if_ne (pc1 := 267) (pc2 := 235) X47 hx (hb hby at_232) (by decide) (by decide) rfl (fun q => absurd q (by decide)) (fun _ => ?_)
    refine og_aload X47 hx rfl rfl (hb hby at_235) rfl ?_
    refine og_virtual (pc' := 240) (cells' := 13) (slots' := 126) (W := 0) X47 hx hZ (rm_gschema l Z a0 hw nt47 nx47 h47 n0 O F_schema_nt47) hown (ow116 hw) (ow117 hw) (own_nf hZ (ow119 hw)) (ow119 hw) (ow118 hw) (ow43 hw) (ow120 hw) (by decide) (by rw [hml]; rfl) e47 opd_27 [] [] rfl rfl rfl rfl (by decide) (by decide) rfl rfl (by decide) (by decide) E_nt47 (hb hby at_237) rfl (fun v48 T48 h48 L48 X48 e48 z48 => ?_)
    obtain ⟨rfl, Nq48, hq48⟩ := z48; replace e48 := e48.trans hq48; have N := Fr.app N Nq48
    refine og_ldcS (pc' := 242) (cells' := 15) (slots' := 154) (n := 24) (z := (6 : Int32)) (vs := [(.int 112), (.int 117), (.int 98), (.int 108), (.int 105), (.int 99)]) X48 hx hZ hown (hw _ (List.mem_of_getElem? (i := 121) rfl)) (own_wS hw) e48 hS hk hEL (by decide) CR.1 ⟨by decide, by decide⟩ (by decide) (by decide) (by decide) (by decide) (hb hby at_240) rfl rfl rfl (by decide) (by decide) (fun na49 T49 h49 kk49 nb49 k49 X49 e49 E49 hS hk hZ hown E_na49 F_coder_na49 F_value_na49 V_nb49 cr49 hne49 => ?_)
    have Q_nb37 := cr49.safe V_nb37.lt Q_nb37; have V_nb37 := V_nb37.ext E49; have E_na46 := E_na46.ext E49; have F_value_na46 := F_value_na46.ext E49; have F_coder_na46 := F_coder_na46.ext E49; have V_nb46 := V_nb46.ext E49
    have E_nt47 := E_nt47.ext E49; have F_schema_nt47 := F_schema_nt47.ext E49; have F_name_nt47 := F_name_nt47.ext E49; have E_nx47 := E_nx47.ext E49; have F_value_nx47 := F_value_nx47.ext E49; have F_coder_nx47 := F_coder_nx47.ext E49
    have V_nbx47 := V_nbx47.ext E49; have O := O.ext E49; have K := K.ext E49; have CR := CR.trans cr49
    have ne_nb37_na49 := (hne49 _ Q_nb37).1; have ne_nb37_nb49 := (hne49 _ Q_nb37).2
    refine og_virtual (pc' := 245) (cells' := 15) (slots' := 154) (W := 0) X49 hx hZ (rm_eqG l Z a0 hw nx47 na49 nbx47 nb49 kx47 k49 [(112 : Int32), (117 : Int32), (98 : Int32), (108 : Int32), (105 : Int32), (99 : Int32)] [(112 : Int32), (117 : Int32), (98 : Int32), (108 : Int32), (105 : Int32), (99 : Int32)] (6 : Int32) (6 : Int32) (by rfl) (by rfl) (by decide) (by decide) 1 (if_pos rfl).symm cs hcs h49 n0 O E_nx47 F_value_nx47 F_coder_nx47 V_nbx47 E_na49 F_value_na49 F_coder_na49 V_nb49 S_CS) hown (ow122 hw) (ow123 hw) (own_nf hZ (ow125 hw)) (ow125 hw) (ow124 hw) (ow11 hw) (ow126 hw) (by decide) (by rw [hml]; rfl) e49 opd_28 [(.ref na49)] [] rfl rfl rfl rfl (by decide) (by decide) rfl rfl (by decide) (by decide) E_nx47 (hb hby at_242) rfl (fun v50 T50 h50 L50 X50 e50 z50 => ?_)
    obtain ⟨rfl, Nq50, hq50⟩ := z50; replace e50 := e50.trans hq50; have N := Fr.app N Nq50
    refine og_if_eq (pc1 := 265) (pc2 := 248) X50 hx (hb hby at_245) (by decide) (by decide) rfl (fun q => absurd q (by decide)) (fun _ => ?_)
    refine og_aload X50 hx rfl rfl (hb hby at_248) rfl ?_
    refine og_virtual (pc' := 253) (cells' := 15) (slots' := 154) (W := 0) X50 hx hZ (rm_gname l Z a0 hw nt47 na46 h49 n0 O F_name_nt47) hown (ow127 hw) (ow128 hw) (own_nf hZ (ow130 hw)) (ow130 hw) (ow129 hw) (ow43 hw) (ow131 hw) (by decide) (by rw [hml]; rfl) e50 opd_27 [] [] rfl rfl rfl rfl (by decide) (by decide) rfl rfl (by decide) (by decide) E_nt47 (hb hby at_250) rfl (fun v51 T51 h51 L51 X51 e51 z51 => ?_)
    obtain ⟨rfl, Nq51, hq51⟩ := z51; replace e51 := e51.trans hq51; have N := Fr.app N Nq51
    refine og_aload X51 hx rfl rfl (hb hby at_253) rfl ?_
    refine og_virtual (pc' := 258) (cells' := 15) (slots' := 154) (W := 0) X51 hx hZ (rm_eqG l Z a0 hw na46 na46 nb46 nb46 k46 k46 [c0.toInt8.toInt32, c1.toInt8.toInt32] [c0.toInt8.toInt32, c1.toInt8.toInt32] (2 : Int32) (2 : Int32) (by rfl) (by rfl) (by decide) (by decide) 1 (if_pos rfl).symm cs hcs h49 n0 O E_na46 F_value_na46 F_coder_na46 V_nb46 E_na46 F_value_na46 F_coder_na46 V_nb46 S_CS) hown (ow122 hw) (ow123 hw) (own_nf hZ (ow125 hw)) (ow125 hw) (ow124 hw) (ow11 hw) (ow126 hw) (by decide) (by rw [hml]; rfl) e51 opd_28 [(.ref na46)] [] rfl rfl rfl rfl (by decide) (by decide) rfl rfl (by decide) (by decide) E_na46 (hb hby at_255) rfl (fun v52 T52 h52 L52 X52 e52 z52 => ?_)
    obtain ⟨rfl, Nq52, hq52⟩ := z52; replace e52 := e52.trans hq52; have N := Fr.app N Nq52
    refine og_if_eq (pc1 := 265) (pc2 := 261) X52 hx (hb hby at_258) (by decide) (by decide) rfl (fun q => absurd q (by decide)) (fun _ => ?_)
    refine og_iconst (v := (1 : Int32)) X52 hx rfl (hb hby at_261) rfl ?_
    refine og_goto (pc' := 266) X52 hx (hb hby at_262) (by decide) (by decide) ?_
    refine og_retNW X52 hx hZ hlk hEL hS e52 es hk CR hret (by simp) (hb hby at_266) (by decide) (by decide) ?_
    exact ⟨rfl, N⟩
   ·
    subst hc113
    have V_nb46 : Arv Z h46 nb46 k46 .byte (2 : Int32) [(.int c0.toInt8.toInt32), (.int 46)] (.int 0) := V_nb46
    refine og_iinc (L' := #[.val (.int p0), .val (.int p1), .val (.int p2), .val (.int p3), .val (.int p4), .val (.int 2), .val (.ref nb37), .val (.ref na46), .val (.int (-1)), .val (.int 1), .unset, .unset, .unset, .unset]) (w := (1 : Int32)) X46 hx rfl rfl rfl (hb hby at_116) rfl ?_
    refine og_iload X46 hx rfl (hb hby at_119) rfl ?_
    refine og_if_ge (pc1 := 127) (pc2 := 124) X46 hx (hb hby at_121) (by decide) (by decide) rfl (fun q => absurd q (by decide)) (fun _ => ?_)
    refine og_iconst (v := (1 : Int32)) X46 hx rfl (hb hby at_124) rfl ?_
    refine og_istore (L' := #[.val (.int p0), .val (.int p1), .val (.int p2), .val (.int p3), .val (.int p4), .val (.int 2), .val (.ref nb37), .val (.ref na46), .val (.int 1), .val (.int 1), .unset, .unset, .unset, .unset]) X46 hx rfl (hb hby at_125) rfl ?_
    refine og_iload X46 hx rfl (hb hby at_127) rfl ?_
    refine og_iconst (v := (2 : Int32)) X46 hx rfl (hb hby at_129) rfl ?_
    refine og_icmp_le (pc1 := 153) (pc2 := 133) X46 hx (hb hby at_130) (by decide) (by decide) rfl (fun _ => ?_) (fun q => absurd q (by decide))
    refine og_iload X46 hx rfl (hb hby at_153) rfl ?_
    refine og_iconst (v := (3 : Int32)) X46 hx rfl (hb hby at_155) rfl ?_
    refine og_icmp_le (pc1 := 179) (pc2 := 159) X46 hx (hb hby at_156) (by decide) (by decide) rfl (fun _ => ?_) (fun q => absurd q (by decide))
    refine og_iload X46 hx rfl (hb hby at_179) rfl ?_
    refine og_if_le (pc1 := 213) (pc2 := 184) X46 hx (hb hby at_181) (by decide) (by decide) rfl (fun q => absurd q (by decide)) (fun _ => ?_)
    refine og_iload X46 hx rfl (hb hby at_184) rfl ?_
    refine og_if_eq (pc1 := 209) (pc2 := 189) X46 hx (hb hby at_186) (by decide) (by decide) rfl (fun q => absurd q (by decide)) (fun _ => ?_)
    refine og_iload X46 hx rfl (hb hby at_189) rfl ?_
    refine og_iconst (v := (1 : Int32)) X46 hx rfl (hb hby at_191) rfl ?_
    refine og_icmp_ne (pc1 := 213) (pc2 := 195) X46 hx (hb hby at_192) (by decide) (by decide) rfl (fun q => absurd q (by decide)) (fun _ => ?_)
    refine og_iload X46 hx rfl (hb hby at_195) rfl ?_
    refine og_if_eq (pc1 := 213) (pc2 := 200) X46 hx (hb hby at_197) (by decide) (by decide) rfl (fun q => absurd q (by decide)) (fun _ => ?_)
    refine og_iload X46 hx rfl (hb hby at_200) rfl ?_
    refine og_iload X46 hx rfl (hb hby at_202) rfl ?_
    refine og_iconst (v := (1 : Int32)) X46 hx rfl (hb hby at_204) rfl ?_
    refine og_isub X46 hx (hb hby at_205) rfl ?_
    show OG p e below _ (T46.setTop (mkF m 206 #[.val (.int p0), .val (.int p1), .val (.int p2), .val (.int p3), .val (.int p4), .val (.int 2), .val (.ref nb37), .val (.ref na46), .val (.int 1), .val (.int 1), .unset, .unset, .unset, .unset] [(.int 1), (.int 1)]))
    refine og_icmp_eq (pc1 := 213) (pc2 := 209) X46 hx (hb hby at_206) (by decide) (by decide) rfl (fun _ => ?_) (fun q => absurd q (by decide))
    refine og_iconst (v := (0 : Int32)) X46 hx rfl (hb hby at_213) rfl ?_
    refine og_istore (L' := #[.val (.int p0), .val (.int p1), .val (.int p2), .val (.int p3), .val (.int p4), .val (.int 2), .val (.ref nb37), .val (.ref na46), .val (.int 1), .val (.int 1), .val (.int 0), .unset, .unset, .unset]) X46 hx rfl (hb hby at_214) rfl ?_
    refine og_iload X46 hx rfl (hb hby at_216) rfl ?_
    refine og_if_ne (pc1 := 223) (pc2 := 221) X46 hx (hb hby at_218) (by decide) (by decide) rfl (fun q => absurd q (by decide)) (fun _ => ?_)
    refine og_iconst (v := (1 : Int32)) X46 hx rfl (hb hby at_221) rfl ?_
    refine og_retNW X46 hx hZ hlk hEL hS e46 es hk CR hret (by simp) (hb hby at_222) (by decide) (by decide) ?_
    exact ⟨rfl, N⟩
  ·
   subst hc87
   have V_nb46 : Arv Z h46 nb46 k46 .byte (2 : Int32) [(.int 46), (.int c1.toInt8.toInt32)] (.int 0) := V_nb46
   refine og_iinc (L' := #[.val (.int p0), .val (.int p1), .val (.int p2), .val (.int p3), .val (.int p4), .val (.int 2), .val (.ref nb37), .val (.ref na46), .val (.int (-1)), .val (.int 1), .unset, .unset, .unset, .unset]) (w := (1 : Int32)) X46 hx rfl rfl rfl (hb hby at_90) rfl ?_
   refine og_iload X46 hx rfl (hb hby at_93) rfl ?_
   refine og_if_ge (pc1 := 101) (pc2 := 98) X46 hx (hb hby at_95) (by decide) (by decide) rfl (fun q => absurd q (by decide)) (fun _ => ?_)
   refine og_iconst (v := (0 : Int32)) X46 hx rfl (hb hby at_98) rfl ?_
   refine og_istore (L' := #[.val (.int p0), .val (.int p1), .val (.int p2), .val (.int p3), .val (.int p4), .val (.int 2), .val (.ref nb37), .val (.ref na46), .val (.int 0), .val (.int 1), .unset, .unset, .unset, .unset]) X46 hx rfl (hb hby at_99) rfl ?_
   refine og_iload X46 hx rfl (hb hby at_101) rfl ?_
   refine og_iconst (v := (1 : Int32)) X46 hx rfl (hb hby at_103) rfl ?_
   refine og_icmp_le (pc1 := 127) (pc2 := 107) X46 hx (hb hby at_104) (by decide) (by decide) rfl (fun q => absurd q (by decide)) (fun _ => ?_)
   refine og_aload X46 hx rfl rfl (hb hby at_107) rfl ?_
   refine og_iconst (v := (1 : Int32)) X46 hx rfl (hb hby at_109) rfl ?_
   refine og_caload (v := (.int c1)) X46 hx hZ e46 V_nb37 ⟨by decide, by decide⟩ rfl (hb hby at_110) rfl ?_
   refine og_bipush (v := (46 : Int32)) X46 hx rfl (hb hby at_111) rfl ?_
   refine og_icmp_ne (pc1 := 127) (pc2 := 116) X46 hx (hb hby at_113) (by decide) (by decide) rfl (fun hc113 => ?_) (fun hc113 => ?_)
   ·
    refine og_iload X46 hx rfl (hb hby at_127) rfl ?_
    refine og_iconst (v := (2 : Int32)) X46 hx rfl (hb hby at_129) rfl ?_
    refine og_icmp_le (pc1 := 153) (pc2 := 133) X46 hx (hb hby at_130) (by decide) (by decide) rfl (fun _ => ?_) (fun q => absurd q (by decide))
    refine og_iload X46 hx rfl (hb hby at_153) rfl ?_
    refine og_iconst (v := (3 : Int32)) X46 hx rfl (hb hby at_155) rfl ?_
    refine og_icmp_le (pc1 := 179) (pc2 := 159) X46 hx (hb hby at_156) (by decide) (by decide) rfl (fun _ => ?_) (fun q => absurd q (by decide))
    refine og_iload X46 hx rfl (hb hby at_179) rfl ?_
    refine og_if_le (pc1 := 213) (pc2 := 184) X46 hx (hb hby at_181) (by decide) (by decide) rfl (fun q => absurd q (by decide)) (fun _ => ?_)
    refine og_iload X46 hx rfl (hb hby at_184) rfl ?_
    refine og_if_eq (pc1 := 209) (pc2 := 189) X46 hx (hb hby at_186) (by decide) (by decide) rfl (fun q => absurd q (by decide)) (fun _ => ?_)
    refine og_iload X46 hx rfl (hb hby at_189) rfl ?_
    refine og_iconst (v := (1 : Int32)) X46 hx rfl (hb hby at_191) rfl ?_
    refine og_icmp_ne (pc1 := 213) (pc2 := 195) X46 hx (hb hby at_192) (by decide) (by decide) rfl (fun q => absurd q (by decide)) (fun _ => ?_)
    refine og_iload X46 hx rfl (hb hby at_195) rfl ?_
    refine og_if_eq (pc1 := 213) (pc2 := 200) X46 hx (hb hby at_197) (by decide) (by decide) rfl (fun _ => ?_) (fun q => absurd q (by decide))
    refine og_iconst (v := (0 : Int32)) X46 hx rfl (hb hby at_213) rfl ?_
    refine og_istore (L' := #[.val (.int p0), .val (.int p1), .val (.int p2), .val (.int p3), .val (.int p4), .val (.int 2), .val (.ref nb37), .val (.ref na46), .val (.int 0), .val (.int 1), .val (.int 0), .unset, .unset, .unset]) X46 hx rfl (hb hby at_214) rfl ?_
    refine og_iload X46 hx rfl (hb hby at_216) rfl ?_
    refine og_if_ne (pc1 := 223) (pc2 := 221) X46 hx (hb hby at_218) (by decide) (by decide) rfl (fun q => absurd q (by decide)) (fun _ => ?_)
    refine og_iconst (v := (1 : Int32)) X46 hx rfl (hb hby at_221) rfl ?_
    refine og_retNW X46 hx hZ hlk hEL hS e46 es hk CR hret (by simp) (hb hby at_222) (by decide) (by decide) ?_
    exact ⟨rfl, N⟩
   ·
    subst hc113
    have V_nb46 : Arv Z h46 nb46 k46 .byte (2 : Int32) [(.int 46), (.int 46)] (.int 0) := V_nb46
    refine og_iinc (L' := #[.val (.int p0), .val (.int p1), .val (.int p2), .val (.int p3), .val (.int p4), .val (.int 2), .val (.ref nb37), .val (.ref na46), .val (.int 0), .val (.int 2), .unset, .unset, .unset, .unset]) (w := (1 : Int32)) X46 hx rfl rfl rfl (hb hby at_116) rfl ?_
    refine og_iload X46 hx rfl (hb hby at_119) rfl ?_
    refine og_if_ge (pc1 := 127) (pc2 := 124) X46 hx (hb hby at_121) (by decide) (by decide) rfl (fun _ => ?_) (fun q => absurd q (by decide))
    refine og_iload X46 hx rfl (hb hby at_127) rfl ?_
    refine og_iconst (v := (2 : Int32)) X46 hx rfl (hb hby at_129) rfl ?_
    refine og_icmp_le (pc1 := 153) (pc2 := 133) X46 hx (hb hby at_130) (by decide) (by decide) rfl (fun _ => ?_) (fun q => absurd q (by decide))
    refine og_iload X46 hx rfl (hb hby at_153) rfl ?_
    refine og_iconst (v := (3 : Int32)) X46 hx rfl (hb hby at_155) rfl ?_
    refine og_icmp_le (pc1 := 179) (pc2 := 159) X46 hx (hb hby at_156) (by decide) (by decide) rfl (fun _ => ?_) (fun q => absurd q (by decide))
    refine og_iload X46 hx rfl (hb hby at_179) rfl ?_
    refine og_if_le (pc1 := 213) (pc2 := 184) X46 hx (hb hby at_181) (by decide) (by decide) rfl (fun q => absurd q (by decide)) (fun _ => ?_)
    refine og_iload X46 hx rfl (hb hby at_184) rfl ?_
    refine og_if_eq (pc1 := 209) (pc2 := 189) X46 hx (hb hby at_186) (by decide) (by decide) rfl (fun q => absurd q (by decide)) (fun _ => ?_)
    refine og_iload X46 hx rfl (hb hby at_189) rfl ?_
    refine og_iconst (v := (1 : Int32)) X46 hx rfl (hb hby at_191) rfl ?_
    refine og_icmp_ne (pc1 := 213) (pc2 := 195) X46 hx (hb hby at_192) (by decide) (by decide) rfl (fun _ => ?_) (fun q => absurd q (by decide))
    refine og_iconst (v := (0 : Int32)) X46 hx rfl (hb hby at_213) rfl ?_
    refine og_istore (L' := #[.val (.int p0), .val (.int p1), .val (.int p2), .val (.int p3), .val (.int p4), .val (.int 2), .val (.ref nb37), .val (.ref na46), .val (.int 0), .val (.int 2), .val (.int 0), .unset, .unset, .unset]) X46 hx rfl (hb hby at_214) rfl ?_
    refine og_iload X46 hx rfl (hb hby at_216) rfl ?_
    refine og_if_ne (pc1 := 223) (pc2 := 221) X46 hx (hb hby at_218) (by decide) (by decide) rfl (fun q => absurd q (by decide)) (fun _ => ?_)
    refine og_iconst (v := (1 : Int32)) X46 hx rfl (hb hby at_221) rfl ?_
    refine og_retNW X46 hx hZ hlk hEL hS e46 es hk CR hret (by simp) (hb hby at_222) (by decide) (by decide) ?_
    exact ⟨rfl, N⟩
 ·
  refine og_bipush (v := (8 : Int32)) X0 hx rfl (hb hby at_8) rfl ?_
  refine og_newarray (pc' := 12) (cells' := 1) (slots' := 8) (cap := 8) (ty := .char) X0 hx hZ rfl (ow1 hw) e0 (by decide) (by decide) (by decide) (hb hby at_10) rfl rfl rfl (by decide) (by decide) (fun T53 h53 nb53 kA53 X53 e53 E53 q53 V_nb53 => ?_)
  have s_nb53 : h0.size ≤ nb53 := Nat.le_of_eq q53.symm; have g_nb53 : n0 ≤ nb53 := Nat.le_trans (own_n0 O) s_nb53; have sz_nb53 : h0.size ≤ nb53 := Nat.le_trans K.1 s_nb53; have Q_nb53 : Safe Z own_EL _ _ nb53 := Safe.new (Z := Z) (EL := own_EL) (vm := s.vm) s_nb53
  have Q_nb53 := Safe.ext E53 CR.1 Q_nb53; have O := O.ext E53; have K := K.ext E53; have hk := Nat.le_trans hk E53.1; have CR := CR.trans (CHr.ext E53 CR.1)
  have V_nb53 : Arv Z h53 nb53 kA53 .char (8 : Int32) [(.int 0), (.int 0), (.int 0), (.int 0), (.int 0), (.int 0), (.int 0), (.int 0)] (.int 0) := V_nb53.pad (pad_rep [] (.int 0) 8)
  refine og_astore (L' := #[.val (.int p0), .val (.int p1), .val (.int p2), .val (.int p3), .val (.int p4), .val (.int 3), .val (.ref nb53), .unset, .unset, .unset, .unset, .unset, .unset, .unset]) X53 hx rfl rfl (hb hby at_12) rfl ?_
  refine og_aload X53 hx rfl rfl (hb hby at_14) rfl ?_
  refine og_iconst (v := (0 : Int32)) X53 hx rfl (hb hby at_16) rfl ?_
  refine og_iloadN X53 hx rfl (hb hby at_17) rfl ?_
  refine og_static (pc' := 21) (cells' := 1) (slots' := 8) (W := 2) X53 hx hZ (rm_c l Z a0 hw p1 h53 n0 O) hown (ow2 hw) (ow3 hw) (ow4 hw) (ow5 hw) (by decide) (by rw [hml]; rfl) e53 opd_24 [(.int p1)] [(.int 0), (.ref nb53)] rfl rfl rfl rfl (by decide) (by decide) rfl rfl (by decide) (by decide) (hb hby at_18) rfl (fun v54 T54 h54 L54 X54 e54 z54 => ?_)
  obtain ⟨c0, rfl, Nq54, hq54, hc0⟩ := z54; replace e54 := e54.trans hq54; have N := Fr.app N Nq54
  refine og_castore X54 hx hZ e54 V_nb53 ⟨by decide, by decide⟩ 0 (by decide) (Nat.le_of_ble_eq_true rfl) (hb hby at_21) rfl (fun T55 h55 X55 e55 W55 V55 => ?_)
  have sf55 : Safe Z own_EL s.vm h53 nb53 := Q_nb53; have Q_nb53 := Safe.wr W55 sf55 CR.1 Q_nb53; have O := O.wr W55 g_nb53; have K := K.wr W55 (Or.inr sz_nb53); have hk := Nat.le_trans hk (Keep.of_wr W55).1; have CR := CR.trans (CHr.wr W55 sf55 CR.1)
  have N := Fr.snoc X55 N g_nb53
  have V_nb53 : Arv Z h55 nb53 kA53 .char (8 : Int32) [(.int (nar .char c0)), (.int 0), (.int 0), (.int 0), (.int 0), (.int 0), (.int 0), (.int 0)] (.int 0) := V55
  rw [own_nc hc0] at V_nb53
  refine og_aload X55 hx rfl rfl (hb hby at_22) rfl ?_
  refine og_iconst (v := (1 : Int32)) X55 hx rfl (hb hby at_24) rfl ?_
  refine og_iloadN X55 hx rfl (hb hby at_25) rfl ?_
  refine og_static (pc' := 29) (cells' := 1) (slots' := 8) (W := 2) X55 hx hZ (rm_c l Z a0 hw p2 h55 n0 O) hown (ow2 hw) (ow3 hw) (ow4 hw) (ow5 hw) (by decide) (by rw [hml]; rfl) e55 opd_24 [(.int p2)] [(.int 1), (.ref nb53)] rfl rfl rfl rfl (by decide) (by decide) rfl rfl (by decide) (by decide) (hb hby at_26) rfl (fun v56 T56 h56 L56 X56 e56 z56 => ?_)
  obtain ⟨c1, rfl, Nq56, hq56, hc1⟩ := z56; replace e56 := e56.trans hq56; have N := Fr.app N Nq56
  refine og_castore X56 hx hZ e56 V_nb53 ⟨by decide, by decide⟩ 1 (by decide) (Nat.le_of_ble_eq_true rfl) (hb hby at_29) rfl (fun T57 h57 X57 e57 W57 V57 => ?_)
  have sf57 : Safe Z own_EL s.vm h55 nb53 := Q_nb53; have Q_nb53 := Safe.wr W57 sf57 CR.1 Q_nb53; have O := O.wr W57 g_nb53; have K := K.wr W57 (Or.inr sz_nb53); have hk := Nat.le_trans hk (Keep.of_wr W57).1; have CR := CR.trans (CHr.wr W57 sf57 CR.1)
  have N := Fr.snoc X57 N g_nb53
  have V_nb53 : Arv Z h57 nb53 kA53 .char (8 : Int32) [(.int c0), (.int (nar .char c1)), (.int 0), (.int 0), (.int 0), (.int 0), (.int 0), (.int 0)] (.int 0) := V57
  rw [own_nc hc1] at V_nb53
  refine og_aload X57 hx rfl rfl (hb hby at_30) rfl ?_
  refine og_iconst (v := (2 : Int32)) X57 hx rfl (hb hby at_32) rfl ?_
  refine og_iloadN X57 hx rfl (hb hby at_33) rfl ?_
  refine og_static (pc' := 37) (cells' := 1) (slots' := 8) (W := 2) X57 hx hZ (rm_c l Z a0 hw p3 h57 n0 O) hown (ow2 hw) (ow3 hw) (ow4 hw) (ow5 hw) (by decide) (by rw [hml]; rfl) e57 opd_24 [(.int p3)] [(.int 2), (.ref nb53)] rfl rfl rfl rfl (by decide) (by decide) rfl rfl (by decide) (by decide) (hb hby at_34) rfl (fun v58 T58 h58 L58 X58 e58 z58 => ?_)
  obtain ⟨c2, rfl, Nq58, hq58, hc2⟩ := z58; replace e58 := e58.trans hq58; have N := Fr.app N Nq58
  refine og_castore X58 hx hZ e58 V_nb53 ⟨by decide, by decide⟩ 2 (by decide) (Nat.le_of_ble_eq_true rfl) (hb hby at_37) rfl (fun T59 h59 X59 e59 W59 V59 => ?_)
  have sf59 : Safe Z own_EL s.vm h57 nb53 := Q_nb53; have Q_nb53 := Safe.wr W59 sf59 CR.1 Q_nb53; have O := O.wr W59 g_nb53; have K := K.wr W59 (Or.inr sz_nb53); have hk := Nat.le_trans hk (Keep.of_wr W59).1; have CR := CR.trans (CHr.wr W59 sf59 CR.1)
  have N := Fr.snoc X59 N g_nb53
  have V_nb53 : Arv Z h59 nb53 kA53 .char (8 : Int32) [(.int c0), (.int c1), (.int (nar .char c2)), (.int 0), (.int 0), (.int 0), (.int 0), (.int 0)] (.int 0) := V59
  rw [own_nc hc2] at V_nb53
  refine og_aload X59 hx rfl rfl (hb hby at_38) rfl ?_
  refine og_iconst (v := (3 : Int32)) X59 hx rfl (hb hby at_40) rfl ?_
  refine og_iload X59 hx rfl (hb hby at_41) rfl ?_
  refine og_static (pc' := 46) (cells' := 1) (slots' := 8) (W := 2) X59 hx hZ (rm_c l Z a0 hw p4 h59 n0 O) hown (ow2 hw) (ow3 hw) (ow4 hw) (ow5 hw) (by decide) (by rw [hml]; rfl) e59 opd_24 [(.int p4)] [(.int 3), (.ref nb53)] rfl rfl rfl rfl (by decide) (by decide) rfl rfl (by decide) (by decide) (hb hby at_43) rfl (fun v60 T60 h60 L60 X60 e60 z60 => ?_)
  obtain ⟨c3, rfl, Nq60, hq60, hc3⟩ := z60; replace e60 := e60.trans hq60; have N := Fr.app N Nq60
  refine og_castore X60 hx hZ e60 V_nb53 ⟨by decide, by decide⟩ 3 (by decide) (Nat.le_of_ble_eq_true rfl) (hb hby at_46) rfl (fun T61 h61 X61 e61 W61 V61 => ?_)
  have sf61 : Safe Z own_EL s.vm h59 nb53 := Q_nb53; have Q_nb53 := Safe.wr W61 sf61 CR.1 Q_nb53; have O := O.wr W61 g_nb53; have K := K.wr W61 (Or.inr sz_nb53); have hk := Nat.le_trans hk (Keep.of_wr W61).1; have CR := CR.trans (CHr.wr W61 sf61 CR.1)
  have N := Fr.snoc X61 N g_nb53
  have V_nb53 : Arv Z h61 nb53 kA53 .char (8 : Int32) [(.int c0), (.int c1), (.int c2), (.int (nar .char c3)), (.int 0), (.int 0), (.int 0), (.int 0)] (.int 0) := V61
  rw [own_nc hc3] at V_nb53
  refine og_iload X61 hx rfl (hb hby at_47) rfl ?_
  refine og_aload X61 hx rfl rfl (hb hby at_49) rfl ?_
  refine og_iconst (v := (0 : Int32)) X61 hx rfl (hb hby at_51) rfl ?_
  refine og_caload (v := (.int c0)) X61 hx hZ e61 V_nb53 ⟨by decide, by decide⟩ rfl (hb hby at_52) rfl ?_
  refine og_aload X61 hx rfl rfl (hb hby at_53) rfl ?_
  refine og_iconst (v := (1 : Int32)) X61 hx rfl (hb hby at_55) rfl ?_
  refine og_caload (v := (.int c1)) X61 hx hZ e61 V_nb53 ⟨by decide, by decide⟩ rfl (hb hby at_56) rfl ?_
  refine og_aload X61 hx rfl rfl (hb hby at_57) rfl ?_
  refine og_iconst (v := (2 : Int32)) X61 hx rfl (hb hby at_59) rfl ?_
  refine og_caload (v := (.int c2)) X61 hx hZ e61 V_nb53 ⟨by decide, by decide⟩ rfl (hb hby at_60) rfl ?_
  refine og_aload X61 hx rfl rfl (hb hby at_61) rfl ?_
  refine og_iconst (v := (3 : Int32)) X61 hx rfl (hb hby at_63) rfl ?_
  refine og_caload (v := (.int c3)) X61 hx hZ e61 V_nb53 ⟨by decide, by decide⟩ rfl (hb hby at_64) rfl ?_
  refine og_staticW (pc' := 68) (cells' := 4) (slots' := 18) (W := 0) X61 hx hZ (rm_mk3 l Z a0 hw c0 c1 c2 c3 hc0 hc1 hc2 hc3 cs hcs h61 n0 O hEL S_CS) hEL hS hk CR.1 all0 hown (ow6 hw) (ow7 hw) (ow4 hw) (ow8 hw) (by decide) (by rw [hml]; rfl) e61 opd_25 [(.int 3), (.int c0), (.int c1), (.int c2), (.int c3)] [] rfl rfl rfl rfl (by decide) (by decide) rfl rfl (by decide) (by decide) (hb hby at_65) rfl (fun v62 T62 h62 L62 kk62 X62 e62 hS hk hZ hown cr62 z62 => ?_)
  obtain ⟨na62, nb62, k62, rfl, Nq62, K62, sa62, E_na62, F_value_na62, F_coder_na62, V_nb62⟩ := z62; have N := Fr.app N Nq62
  have s_na62 : h61.size ≤ na62 := sa62; have g_na62 : n0 ≤ na62 := Nat.le_trans (own_n0 O) s_na62; have sz_na62 : h0.size ≤ na62 := Nat.le_trans K.1 s_na62; have ne_nb53_na62 : nb53 ≠ na62 := Nat.ne_of_lt (Nat.lt_of_lt_of_le V_nb53.lt s_na62); have Q_na62 : Safe Z own_EL _ _ na62 := Safe.new (Z := Z) (EL := own_EL) (vm := T62.vm) s_na62
  have Q_nb53 := cr62.safe V_nb53.lt Q_nb53; have V_nb53 := V_nb53.keep K62 nin0; have O := O.keep K62 all0; have K := K.trans K62 all0; have CR := CR.trans cr62
  have V_nb62 : Arv Z h62 nb62 k62 .byte (3 : Int32) [(.int c0.toInt8.toInt32), (.int c1.toInt8.toInt32), (.int c2.toInt8.toInt32)] (.int 0) := V_nb62
  refine og_astore (L' := #[.val (.int p0), .val (.int p1), .val (.int p2), .val (.int p3), .val (.int p4), .val (.int 3), .val (.ref nb53), .val (.ref na62), .unset, .unset, .unset, .unset, .unset, .unset]) X62 hx rfl rfl (hb hby at_68) rfl ?_
  refine og_iconst (v := (-1 : Int32)) X62 hx rfl (hb hby at_70) rfl ?_
  refine og_istore (L' := #[.val (.int p0), .val (.int p1), .val (.int p2), .val (.int p3), .val (.int p4), .val (.int 3), .val (.ref nb53), .val (.ref na62), .val (.int (-1)), .unset, .unset, .unset, .unset, .unset]) X62 hx rfl (hb hby at_71) rfl ?_
  refine og_iconst (v := (0 : Int32)) X62 hx rfl (hb hby at_73) rfl ?_
  refine og_istore (L' := #[.val (.int p0), .val (.int p1), .val (.int p2), .val (.int p3), .val (.int p4), .val (.int 3), .val (.ref nb53), .val (.ref na62), .val (.int (-1)), .val (.int 0), .unset, .unset, .unset, .unset]) X62 hx rfl (hb hby at_74) rfl ?_
  refine og_iload X62 hx rfl (hb hby at_76) rfl ?_
  refine og_if_le (pc1 := 101) (pc2 := 81) X62 hx (hb hby at_78) (by decide) (by decide) rfl (fun q => absurd q (by decide)) (fun _ => ?_)
  refine og_aload X62 hx rfl rfl (hb hby at_81) rfl ?_
  refine og_iconst (v := (0 : Int32)) X62 hx rfl (hb hby at_83) rfl ?_
  refine og_caload (v := (.int c0)) X62 hx hZ e62 V_nb53 ⟨by decide, by decide⟩ rfl (hb hby at_84) rfl ?_
  refine og_bipush (v := (46 : Int32)) X62 hx rfl (hb hby at_85) rfl ?_
  refine og_icmp_ne (pc1 := 101) (pc2 := 90) X62 hx (hb hby at_87) (by decide) (by decide) rfl (fun hc87 => ?_) (fun hc87 => ?_)
  ·
   refine og_iload X62 hx rfl (hb hby at_101) rfl ?_
   refine og_iconst (v := (1 : Int32)) X62 hx rfl (hb hby at_103) rfl ?_
   refine og_icmp_le (pc1 := 127) (pc2 := 107) X62 hx (hb hby at_104) (by decide) (by decide) rfl (fun q => absurd q (by decide)) (fun _ => ?_)
   refine og_aload X62 hx rfl rfl (hb hby at_107) rfl ?_
   refine og_iconst (v := (1 : Int32)) X62 hx rfl (hb hby at_109) rfl ?_
   refine og_caload (v := (.int c1)) X62 hx hZ e62 V_nb53 ⟨by decide, by decide⟩ rfl (hb hby at_110) rfl ?_
   refine og_bipush (v := (46 : Int32)) X62 hx rfl (hb hby at_111) rfl ?_
   refine og_icmp_ne (pc1 := 127) (pc2 := 116) X62 hx (hb hby at_113) (by decide) (by decide) rfl (fun hc113 => ?_) (fun hc113 => ?_)
   ·
    refine og_iload X62 hx rfl (hb hby at_127) rfl ?_
    refine og_iconst (v := (2 : Int32)) X62 hx rfl (hb hby at_129) rfl ?_
    refine og_icmp_le (pc1 := 153) (pc2 := 133) X62 hx (hb hby at_130) (by decide) (by decide) rfl (fun q => absurd q (by decide)) (fun _ => ?_)
    refine og_aload X62 hx rfl rfl (hb hby at_133) rfl ?_
    refine og_iconst (v := (2 : Int32)) X62 hx rfl (hb hby at_135) rfl ?_
    refine og_caload (v := (.int c2)) X62 hx hZ e62 V_nb53 ⟨by decide, by decide⟩ rfl (hb hby at_136) rfl ?_
    refine og_bipush (v := (46 : Int32)) X62 hx rfl (hb hby at_137) rfl ?_
    refine og_icmp_ne (pc1 := 153) (pc2 := 142) X62 hx (hb hby at_139) (by decide) (by decide) rfl (fun hc139 => ?_) (fun hc139 => ?_)
    ·
     refine og_iload X62 hx rfl (hb hby at_153) rfl ?_
     refine og_iconst (v := (3 : Int32)) X62 hx rfl (hb hby at_155) rfl ?_
     refine og_icmp_le (pc1 := 179) (pc2 := 159) X62 hx (hb hby at_156) (by decide) (by decide) rfl (fun _ => ?_) (fun q => absurd q (by decide))
     refine og_iload X62 hx rfl (hb hby at_179) rfl ?_
     refine og_if_le (pc1 := 213) (pc2 := 184) X62 hx (hb hby at_181) (by decide) (by decide) rfl (fun q => absurd q (by decide)) (fun _ => ?_)
     refine og_iload X62 hx rfl (hb hby at_184) rfl ?_
     refine og_if_eq (pc1 := 209) (pc2 := 189) X62 hx (hb hby at_186) (by decide) (by decide) rfl (fun _ => ?_) (fun q => absurd q (by decide))
     refine og_iconst (v := (1 : Int32)) X62 hx rfl (hb hby at_209) rfl ?_
     refine og_goto (pc' := 214) X62 hx (hb hby at_210) (by decide) (by decide) ?_
     refine og_istore (L' := #[.val (.int p0), .val (.int p1), .val (.int p2), .val (.int p3), .val (.int p4), .val (.int 3), .val (.ref nb53), .val (.ref na62), .val (.int (-1)), .val (.int 0), .val (.int 1), .unset, .unset, .unset]) X62 hx rfl (hb hby at_214) rfl ?_
     refine og_iload X62 hx rfl (hb hby at_216) rfl ?_
     refine og_if_ne (pc1 := 223) (pc2 := 221) X62 hx (hb hby at_218) (by decide) (by decide) rfl (fun _ => ?_) (fun q => absurd q (by decide))
     refine og_aload X62 hx rfl rfl (hb hby at_223) rfl ?_
     refine og_staticW (pc' := 228) (cells' := 13) (slots' := 128) (W := 0) X62 hx hZ (rm_pa3_n l Z a0 hw na62 nb62 k62 (c0.toInt8.toInt32) (c1.toInt8.toInt32) (c2.toInt8.toInt32) (own_n46 hc0 hc87) (own_n46 hc1 hc113) (own_n46 hc2 hc139) cs hcs fm hfm h62 n0 O hEL E_na62 F_value_na62 F_coder_na62 V_nb62 S_CS S_FM) hEL hS hk CR.1 all0 hown (ow41 hw) (ow42 hw) (ow43 hw) (ow44 hw) (by decide) (by rw [hml]; rfl) e62 opd_26 [(.ref na62)] [] rfl rfl rfl rfl (by decide) (by decide) rfl rfl (by decide) (by decide) (hb hby at_225) rfl (fun v63 T63 h63 L63 kk63 X63 e63 hS hk hZ hown cr63 z63 => ?_)
     obtain ⟨nt63, nx63, nbx63, kx63, rfl, Nq63, K63, E_nt63, F_schema_nt63, F_name_nt63, E_nx63, F_value_nx63, F_coder_nx63, V_nbx63⟩ := z63; have N := Fr.app N Nq63
     have Q_nb53 := cr63.safe V_nb53.lt Q_nb53; have V_nb53 := V_nb53.keep K63 nin0; have E_na62 := E_na62.keep K63; have F_value_na62 := F_value_na62.keep K63 nin0; have F_coder_na62 := F_coder_na62.keep K63 nin0; have V_nb62 := V_nb62.keep K63 nin0
     have O := O.keep K63 all0; have K := K.trans K63 all0; have CR := CR.trans cr63
     refine og_astore (L' := #[.val (.int p0), .val (.int p1), .val (.int p2), .val (.int p3), .val (.int p4), .val (.int 3), .val (.ref nb53), .val (.ref na62), .val (.int (-1)), .val (.int 0), .val (.int 1), .val (.ref nt63), .unset, .unset]) X63 hx rfl rfl (hb hby at_228) rfl ?_
     refine og_iload X63 hx rfl (hb hby at_230) rfl ?_
     refine og_if_ne (pc1 := 267) (pc2 := 235) X63 hx (hb hby at_232) (by decide) (by decide) rfl (fun q => absurd q (by decide)) (fun _ => ?_)
     refine og_aload X63 hx rfl rfl (hb hby at_235) rfl ?_
     refine og_virtual (pc' := 240) (cells' := 13) (slots' := 128) (W := 0) X63 hx hZ (rm_gschema l Z a0 hw nt63 nx63 h63 n0 O F_schema_nt63) hown (ow116 hw) (ow117 hw) (own_nf hZ (ow119 hw)) (ow119 hw) (ow118 hw) (ow43 hw) (ow120 hw) (by decide) (by rw [hml]; rfl) e63 opd_27 [] [] rfl rfl rfl rfl (by decide) (by decide) rfl rfl (by decide) (by decide) E_nt63 (hb hby at_237) rfl (fun v64 T64 h64 L64 X64 e64 z64 => ?_)
     obtain ⟨rfl, Nq64, hq64⟩ := z64; replace e64 := e64.trans hq64; have N := Fr.app N Nq64
     refine og_ldcS (pc' := 242) (cells' := 15) (slots' := 156) (n := 24) (z := (6 : Int32)) (vs := [(.int 112), (.int 117), (.int 98), (.int 108), (.int 105), (.int 99)]) X64 hx hZ hown (hw _ (List.mem_of_getElem? (i := 121) rfl)) (own_wS hw) e64 hS hk hEL (by decide) CR.1 ⟨by decide, by decide⟩ (by decide) (by decide) (by decide) (by decide) (hb hby at_240) rfl rfl rfl (by decide) (by decide) (fun na65 T65 h65 kk65 nb65 k65 X65 e65 E65 hS hk hZ hown E_na65 F_coder_na65 F_value_na65 V_nb65 cr65 hne65 => ?_)
     have Q_nb53 := cr65.safe V_nb53.lt Q_nb53; have V_nb53 := V_nb53.ext E65; have E_na62 := E_na62.ext E65; have F_value_na62 := F_value_na62.ext E65; have F_coder_na62 := F_coder_na62.ext E65; have V_nb62 := V_nb62.ext E65
     have E_nt63 := E_nt63.ext E65; have F_schema_nt63 := F_schema_nt63.ext E65; have F_name_nt63 := F_name_nt63.ext E65; have E_nx63 := E_nx63.ext E65; have F_value_nx63 := F_value_nx63.ext E65; have F_coder_nx63 := F_coder_nx63.ext E65
     have V_nbx63 := V_nbx63.ext E65; have O := O.ext E65; have K := K.ext E65; have CR := CR.trans cr65
     have ne_nb53_na65 := (hne65 _ Q_nb53).1; have ne_nb53_nb65 := (hne65 _ Q_nb53).2
     refine og_virtual (pc' := 245) (cells' := 15) (slots' := 156) (W := 0) X65 hx hZ (rm_eqG l Z a0 hw nx63 na65 nbx63 nb65 kx63 k65 [(112 : Int32), (117 : Int32), (98 : Int32), (108 : Int32), (105 : Int32), (99 : Int32)] [(112 : Int32), (117 : Int32), (98 : Int32), (108 : Int32), (105 : Int32), (99 : Int32)] (6 : Int32) (6 : Int32) (by rfl) (by rfl) (by decide) (by decide) 1 (if_pos rfl).symm cs hcs h65 n0 O E_nx63 F_value_nx63 F_coder_nx63 V_nbx63 E_na65 F_value_na65 F_coder_na65 V_nb65 S_CS) hown (ow122 hw) (ow123 hw) (own_nf hZ (ow125 hw)) (ow125 hw) (ow124 hw) (ow11 hw) (ow126 hw) (by decide) (by rw [hml]; rfl) e65 opd_28 [(.ref na65)] [] rfl rfl rfl rfl (by decide) (by decide) rfl rfl (by decide) (by decide) E_nx63 (hb hby at_242) rfl (fun v66 T66 h66 L66 X66 e66 z66 => ?_)
     obtain ⟨rfl, Nq66, hq66⟩ := z66; replace e66 := e66.trans hq66; have N := Fr.app N Nq66
     refine og_if_eq (pc1 := 265) (pc2 := 248) X66 hx (hb hby at_245) (by decide) (by decide) rfl (fun q => absurd q (by decide)) (fun _ => ?_)
     refine og_aload X66 hx rfl rfl (hb hby at_248) rfl ?_
     refine og_virtual (pc' := 253) (cells' := 15) (slots' := 156) (W := 0) X66 hx hZ (rm_gname l Z a0 hw nt63 na62 h65 n0 O F_name_nt63) hown (ow127 hw) (ow128 hw) (own_nf hZ (ow130 hw)) (ow130 hw) (ow129 hw) (ow43 hw) (ow131 hw) (by decide) (by rw [hml]; rfl) e66 opd_27 [] [] rfl rfl rfl rfl (by decide) (by decide) rfl rfl (by decide) (by decide) E_nt63 (hb hby at_250) rfl (fun v67 T67 h67 L67 X67 e67 z67 => ?_)
     obtain ⟨rfl, Nq67, hq67⟩ := z67; replace e67 := e67.trans hq67; have N := Fr.app N Nq67
     refine og_aload X67 hx rfl rfl (hb hby at_253) rfl ?_
     refine og_virtual (pc' := 258) (cells' := 15) (slots' := 156) (W := 0) X67 hx hZ (rm_eqG l Z a0 hw na62 na62 nb62 nb62 k62 k62 [c0.toInt8.toInt32, c1.toInt8.toInt32, c2.toInt8.toInt32] [c0.toInt8.toInt32, c1.toInt8.toInt32, c2.toInt8.toInt32] (3 : Int32) (3 : Int32) (by rfl) (by rfl) (by decide) (by decide) 1 (if_pos rfl).symm cs hcs h65 n0 O E_na62 F_value_na62 F_coder_na62 V_nb62 E_na62 F_value_na62 F_coder_na62 V_nb62 S_CS) hown (ow122 hw) (ow123 hw) (own_nf hZ (ow125 hw)) (ow125 hw) (ow124 hw) (ow11 hw) (ow126 hw) (by decide) (by rw [hml]; rfl) e67 opd_28 [(.ref na62)] [] rfl rfl rfl rfl (by decide) (by decide) rfl rfl (by decide) (by decide) E_na62 (hb hby at_255) rfl (fun v68 T68 h68 L68 X68 e68 z68 => ?_)
     obtain ⟨rfl, Nq68, hq68⟩ := z68; replace e68 := e68.trans hq68; have N := Fr.app N Nq68
     refine og_if_eq (pc1 := 265) (pc2 := 261) X68 hx (hb hby at_258) (by decide) (by decide) rfl (fun q => absurd q (by decide)) (fun _ => ?_)
     refine og_iconst (v := (1 : Int32)) X68 hx rfl (hb hby at_261) rfl ?_
     refine og_goto (pc' := 266) X68 hx (hb hby at_262) (by decide) (by decide) ?_
     refine og_retNW X68 hx hZ hlk hEL hS e68 es hk CR hret (by simp) (hb hby at_266) (by decide) (by decide) ?_
     exact ⟨rfl, N⟩
    ·
     subst hc139
     have V_nb62 : Arv Z h62 nb62 k62 .byte (3 : Int32) [(.int c0.toInt8.toInt32), (.int c1.toInt8.toInt32), (.int 46)] (.int 0) := V_nb62
     refine og_iinc (L' := #[.val (.int p0), .val (.int p1), .val (.int p2), .val (.int p3), .val (.int p4), .val (.int 3), .val (.ref nb53), .val (.ref na62), .val (.int (-1)), .val (.int 1), .unset, .unset, .unset, .unset]) (w := (1 : Int32)) X62 hx rfl rfl rfl (hb hby at_142) rfl ?_
     refine og_iload X62 hx rfl (hb hby at_145) rfl ?_
     refine og_if_ge (pc1 := 153) (pc2 := 150) X62 hx (hb hby at_147) (by decide) (by decide) rfl (fun q => absurd q (by decide)) (fun _ => ?_)
     refine og_iconst (v := (2 : Int32)) X62 hx rfl (hb hby at_150) rfl ?_
     refine og_istore (L' := #[.val (.int p0), .val (.int p1), .val (.int p2), .val (.int p3), .val (.int p4), .val (.int 3), .val (.ref nb53), .val (.ref na62), .val (.int 2), .val (.int 1), .unset, .unset, .unset, .unset]) X62 hx rfl (hb hby at_151) rfl ?_
     refine og_iload X62 hx rfl (hb hby at_153) rfl ?_
     refine og_iconst (v := (3 : Int32)) X62 hx rfl (hb hby at_155) rfl ?_
     refine og_icmp_le (pc1 := 179) (pc2 := 159) X62 hx (hb hby at_156) (by decide) (by decide) rfl (fun _ => ?_) (fun q => absurd q (by decide))
     refine og_iload X62 hx rfl (hb hby at_179) rfl ?_
     refine og_if_le (pc1 := 213) (pc2 := 184) X62 hx (hb hby at_181) (by decide) (by decide) rfl (fun q => absurd q (by decide)) (fun _ => ?_)
     refine og_iload X62 hx rfl (hb hby at_184) rfl ?_
     refine og_if_eq (pc1 := 209) (pc2 := 189) X62 hx (hb hby at_186) (by decide) (by decide) rfl (fun q => absurd q (by decide)) (fun _ => ?_)
     refine og_iload X62 hx rfl (hb hby at_189) rfl ?_
     refine og_iconst (v := (1 : Int32)) X62 hx rfl (hb hby at_191) rfl ?_
     refine og_icmp_ne (pc1 := 213) (pc2 := 195) X62 hx (hb hby at_192) (by decide) (by decide) rfl (fun q => absurd q (by decide)) (fun _ => ?_)
     refine og_iload X62 hx rfl (hb hby at_195) rfl ?_
     refine og_if_eq (pc1 := 213) (pc2 := 200) X62 hx (hb hby at_197) (by decide) (by decide) rfl (fun q => absurd q (by decide)) (fun _ => ?_)
     refine og_iload X62 hx rfl (hb hby at_200) rfl ?_
     refine og_iload X62 hx rfl (hb hby at_202) rfl ?_
     refine og_iconst (v := (1 : Int32)) X62 hx rfl (hb hby at_204) rfl ?_
     refine og_isub X62 hx (hb hby at_205) rfl ?_
     show OG p e below _ (T62.setTop (mkF m 206 #[.val (.int p0), .val (.int p1), .val (.int p2), .val (.int p3), .val (.int p4), .val (.int 3), .val (.ref nb53), .val (.ref na62), .val (.int 2), .val (.int 1), .unset, .unset, .unset, .unset] [(.int 2), (.int 2)]))
     refine og_icmp_eq (pc1 := 213) (pc2 := 209) X62 hx (hb hby at_206) (by decide) (by decide) rfl (fun _ => ?_) (fun q => absurd q (by decide))
     refine og_iconst (v := (0 : Int32)) X62 hx rfl (hb hby at_213) rfl ?_
     refine og_istore (L' := #[.val (.int p0), .val (.int p1), .val (.int p2), .val (.int p3), .val (.int p4), .val (.int 3), .val (.ref nb53), .val (.ref na62), .val (.int 2), .val (.int 1), .val (.int 0), .unset, .unset, .unset]) X62 hx rfl (hb hby at_214) rfl ?_
     refine og_iload X62 hx rfl (hb hby at_216) rfl ?_
     refine og_if_ne (pc1 := 223) (pc2 := 221) X62 hx (hb hby at_218) (by decide) (by decide) rfl (fun q => absurd q (by decide)) (fun _ => ?_)
     refine og_iconst (v := (1 : Int32)) X62 hx rfl (hb hby at_221) rfl ?_
     refine og_retNW X62 hx hZ hlk hEL hS e62 es hk CR hret (by simp) (hb hby at_222) (by decide) (by decide) ?_
     exact ⟨rfl, N⟩
   ·
    subst hc113
    have V_nb62 : Arv Z h62 nb62 k62 .byte (3 : Int32) [(.int c0.toInt8.toInt32), (.int 46), (.int c2.toInt8.toInt32)] (.int 0) := V_nb62
    refine og_iinc (L' := #[.val (.int p0), .val (.int p1), .val (.int p2), .val (.int p3), .val (.int p4), .val (.int 3), .val (.ref nb53), .val (.ref na62), .val (.int (-1)), .val (.int 1), .unset, .unset, .unset, .unset]) (w := (1 : Int32)) X62 hx rfl rfl rfl (hb hby at_116) rfl ?_
    refine og_iload X62 hx rfl (hb hby at_119) rfl ?_
    refine og_if_ge (pc1 := 127) (pc2 := 124) X62 hx (hb hby at_121) (by decide) (by decide) rfl (fun q => absurd q (by decide)) (fun _ => ?_)
    refine og_iconst (v := (1 : Int32)) X62 hx rfl (hb hby at_124) rfl ?_
    refine og_istore (L' := #[.val (.int p0), .val (.int p1), .val (.int p2), .val (.int p3), .val (.int p4), .val (.int 3), .val (.ref nb53), .val (.ref na62), .val (.int 1), .val (.int 1), .unset, .unset, .unset, .unset]) X62 hx rfl (hb hby at_125) rfl ?_
    refine og_iload X62 hx rfl (hb hby at_127) rfl ?_
    refine og_iconst (v := (2 : Int32)) X62 hx rfl (hb hby at_129) rfl ?_
    refine og_icmp_le (pc1 := 153) (pc2 := 133) X62 hx (hb hby at_130) (by decide) (by decide) rfl (fun q => absurd q (by decide)) (fun _ => ?_)
    refine og_aload X62 hx rfl rfl (hb hby at_133) rfl ?_
    refine og_iconst (v := (2 : Int32)) X62 hx rfl (hb hby at_135) rfl ?_
    refine og_caload (v := (.int c2)) X62 hx hZ e62 V_nb53 ⟨by decide, by decide⟩ rfl (hb hby at_136) rfl ?_
    refine og_bipush (v := (46 : Int32)) X62 hx rfl (hb hby at_137) rfl ?_
    refine og_icmp_ne (pc1 := 153) (pc2 := 142) X62 hx (hb hby at_139) (by decide) (by decide) rfl (fun hc139 => ?_) (fun hc139 => ?_)
    ·
     refine og_iload X62 hx rfl (hb hby at_153) rfl ?_
     refine og_iconst (v := (3 : Int32)) X62 hx rfl (hb hby at_155) rfl ?_
     refine og_icmp_le (pc1 := 179) (pc2 := 159) X62 hx (hb hby at_156) (by decide) (by decide) rfl (fun _ => ?_) (fun q => absurd q (by decide))
     refine og_iload X62 hx rfl (hb hby at_179) rfl ?_
     refine og_if_le (pc1 := 213) (pc2 := 184) X62 hx (hb hby at_181) (by decide) (by decide) rfl (fun q => absurd q (by decide)) (fun _ => ?_)
     refine og_iload X62 hx rfl (hb hby at_184) rfl ?_
     refine og_if_eq (pc1 := 209) (pc2 := 189) X62 hx (hb hby at_186) (by decide) (by decide) rfl (fun q => absurd q (by decide)) (fun _ => ?_)
     refine og_iload X62 hx rfl (hb hby at_189) rfl ?_
     refine og_iconst (v := (1 : Int32)) X62 hx rfl (hb hby at_191) rfl ?_
     refine og_icmp_ne (pc1 := 213) (pc2 := 195) X62 hx (hb hby at_192) (by decide) (by decide) rfl (fun q => absurd q (by decide)) (fun _ => ?_)
     refine og_iload X62 hx rfl (hb hby at_195) rfl ?_
     refine og_if_eq (pc1 := 213) (pc2 := 200) X62 hx (hb hby at_197) (by decide) (by decide) rfl (fun q => absurd q (by decide)) (fun _ => ?_)
     refine og_iload X62 hx rfl (hb hby at_200) rfl ?_
     refine og_iload X62 hx rfl (hb hby at_202) rfl ?_
     refine og_iconst (v := (1 : Int32)) X62 hx rfl (hb hby at_204) rfl ?_
     refine og_isub X62 hx (hb hby at_205) rfl ?_
     show OG p e below _ (T62.setTop (mkF m 206 #[.val (.int p0), .val (.int p1), .val (.int p2), .val (.int p3), .val (.int p4), .val (.int 3), .val (.ref nb53), .val (.ref na62), .val (.int 1), .val (.int 1), .unset, .unset, .unset, .unset] [(.int 2), (.int 1)]))
     refine og_icmp_eq (pc1 := 213) (pc2 := 209) X62 hx (hb hby at_206) (by decide) (by decide) rfl (fun q => absurd q (by decide)) (fun _ => ?_)
     refine og_iconst (v := (1 : Int32)) X62 hx rfl (hb hby at_209) rfl ?_
     refine og_goto (pc' := 214) X62 hx (hb hby at_210) (by decide) (by decide) ?_
     refine og_istore (L' := #[.val (.int p0), .val (.int p1), .val (.int p2), .val (.int p3), .val (.int p4), .val (.int 3), .val (.ref nb53), .val (.ref na62), .val (.int 1), .val (.int 1), .val (.int 1), .unset, .unset, .unset]) X62 hx rfl (hb hby at_214) rfl ?_
     refine og_iload X62 hx rfl (hb hby at_216) rfl ?_
     refine og_if_ne (pc1 := 223) (pc2 := 221) X62 hx (hb hby at_218) (by decide) (by decide) rfl (fun _ => ?_) (fun q => absurd q (by decide))
     refine og_aload X62 hx rfl rfl (hb hby at_223) rfl ?_
     refine og_staticW (pc' := 228) (cells' := 15) (slots' := 110) (W := 0) X62 hx hZ (rm_pa3_1 l Z a0 hw na62 nb62 k62 (c0.toInt8.toInt32) (c2.toInt8.toInt32) (own_n46 hc0 hc87) (own_n46 hc2 hc139) cs hcs fm hfm h62 n0 O hEL E_na62 F_value_na62 F_coder_na62 V_nb62 S_CS S_FM) hEL hS hk CR.1 all0 hown (ow41 hw) (ow42 hw) (ow43 hw) (ow44 hw) (by decide) (by rw [hml]; rfl) e62 opd_26 [(.ref na62)] [] rfl rfl rfl rfl (by decide) (by decide) rfl rfl (by decide) (by decide) (hb hby at_225) rfl (fun v69 T69 h69 L69 kk69 X69 e69 hS hk hZ hown cr69 z69 => ?_)
     obtain ⟨nt69, nx69, ny69, nbx69, nby69, kx69, ky69, rfl, Nq69, K69, E_nt69, F_schema_nt69, F_name_nt69, E_nx69, F_value_nx69, F_coder_nx69, V_nbx69, E_ny69, F_value_ny69, F_coder_ny69, V_nby69⟩ := z69; have N := Fr.app N Nq69
     have Q_nb53 := cr69.safe V_nb53.lt Q_nb53; have V_nb53 := V_nb53.keep K69 nin0; have E_na62 := E_na62.keep K69; have F_value_na62 := F_value_na62.keep K69 nin0; have F_coder_na62 := F_coder_na62.keep K69 nin0; have V_nb62 := V_nb62.keep K69 nin0
     have O := O.keep K69 all0; have K := K.trans K69 all0; have CR := CR.trans cr69
     refine og_astore (L' := #[.val (.int p0), .val (.int p1), .val (.int p2), .val (.int p3), .val (.int p4), .val (.int 3), .val (.ref nb53), .val (.ref na62), .val (.int 1), .val (.int 1), .val (.int 1), .val (.ref nt69), .unset, .unset]) X69 hx rfl rfl (hb hby at_228) rfl ?_
     refine og_iload X69 hx rfl (hb hby at_230) rfl ?_
     refine og_if_ne (pc1 := 267) (pc2 := 235) X69 hx (hb hby at_232) (by decide) (by decide) rfl (fun _ => ?_) (fun q => absurd q (by decide))
     refine og_iload X69 hx rfl (hb hby at_267) rfl ?_
     refine og_aload X69 hx rfl rfl (hb hby at_269) rfl ?_
     refine og_iconst (v := (0 : Int32)) X69 hx rfl (hb hby at_271) rfl ?_
     refine og_caload (v := (.int c0)) X69 hx hZ e69 V_nb53 ⟨by decide, by decide⟩ rfl (hb hby at_272) rfl ?_
     refine og_aload X69 hx rfl rfl (hb hby at_273) rfl ?_
     refine og_iconst (v := (1 : Int32)) X69 hx rfl (hb hby at_275) rfl ?_
     refine og_caload (v := (.int 46)) X69 hx hZ e69 V_nb53 ⟨by decide, by decide⟩ rfl (hb hby at_276) rfl ?_
     refine og_aload X69 hx rfl rfl (hb hby at_277) rfl ?_
     refine og_iconst (v := (2 : Int32)) X69 hx rfl (hb hby at_279) rfl ?_
     refine og_caload (v := (.int c2)) X69 hx hZ e69 V_nb53 ⟨by decide, by decide⟩ rfl (hb hby at_280) rfl ?_
     refine og_aload X69 hx rfl rfl (hb hby at_281) rfl ?_
     refine og_iconst (v := (3 : Int32)) X69 hx rfl (hb hby at_283) rfl ?_
     refine og_caload (v := (.int c3)) X69 hx hZ e69 V_nb53 ⟨by decide, by decide⟩ rfl (hb hby at_284) rfl ?_
     refine og_staticW (pc' := 288) (cells' := 18) (slots' := 116) (W := 0) X69 hx hZ (rm_mk1 l Z a0 hw c0 (46 : Int32) c2 c3 hc0 ⟨by decide, by decide⟩ hc2 hc3 cs hcs h69 n0 O hEL S_CS) hEL hS hk CR.1 all0 hown (ow6 hw) (ow7 hw) (ow4 hw) (ow8 hw) (by decide) (by rw [hml]; rfl) e69 opd_25 [(.int 1), (.int c0), (.int 46), (.int c2), (.int c3)] [] rfl rfl rfl rfl (by decide) (by decide) rfl rfl (by decide) (by decide) (hb hby at_285) rfl (fun v70 T70 h70 L70 kk70 X70 e70 hS hk hZ hown cr70 z70 => ?_)
     obtain ⟨na70, nb70, k70, rfl, Nq70, K70, sa70, E_na70, F_value_na70, F_coder_na70, V_nb70⟩ := z70; have N := Fr.app N Nq70
     have s_na70 : h69.size ≤ na70 := sa70; have g_na70 : n0 ≤ na70 := Nat.le_trans (own_n0 O) s_na70; have sz_na70 : h0.size ≤ na70 := Nat.le_trans K.1 s_na70; have ne_nb53_na70 : nb53 ≠ na70 := Nat.ne_of_lt (Nat.lt_of_lt_of_le V_nb53.lt s_na70); have ne_na62_na70 : na62 ≠ na70 := Nat.ne_of_lt (Nat.lt_of_lt_of_le E_na62.lt s_na70); have ne_nb62_na70 : nb62 ≠ na70 := Nat.ne_of_lt (Nat.lt_of_lt_of_le V_nb62.lt s_na70)
     have ne_nt69_na70 : nt69 ≠ na70 := Nat.ne_of_lt (Nat.lt_of_lt_of_le E_nt69.lt s_na70); have ne_nx69_na70 : nx69 ≠ na70 := Nat.ne_of_lt (Nat.lt_of_lt_of_le E_nx69.lt s_na70); have ne_nbx69_na70 : nbx69 ≠ na70 := Nat.ne_of_lt (Nat.lt_of_lt_of_le V_nbx69.lt s_na70); have ne_ny69_na70 : ny69 ≠ na70 := Nat.ne_of_lt (Nat.lt_of_lt_of_le E_ny69.lt s_na70); have ne_nby69_na70 : nby69 ≠ na70 := Nat.ne_of_lt (Nat.lt_of_lt_of_le V_nby69.lt s_na70); have Q_na70 : Safe Z own_EL _ _ na70 := Safe.new (Z := Z) (EL := own_EL) (vm := T70.vm) s_na70
     have Q_nb53 := cr70.safe V_nb53.lt Q_nb53; have V_nb53 := V_nb53.keep K70 nin0; have E_na62 := E_na62.keep K70; have F_value_na62 := F_value_na62.keep K70 nin0; have F_coder_na62 := F_coder_na62.keep K70 nin0; have V_nb62 := V_nb62.keep K70 nin0
     have E_nt69 := E_nt69.keep K70; have F_schema_nt69 := F_schema_nt69.keep K70 nin0; have F_name_nt69 := F_name_nt69.keep K70 nin0; have E_nx69 := E_nx69.keep K70; have F_value_nx69 := F_value_nx69.keep K70 nin0; have F_coder_nx69 := F_coder_nx69.keep K70 nin0
     have V_nbx69 := V_nbx69.keep K70 nin0; have E_ny69 := E_ny69.keep K70; have F_value_ny69 := F_value_ny69.keep K70 nin0; have F_coder_ny69 := F_coder_ny69.keep K70 nin0; have V_nby69 := V_nby69.keep K70 nin0; have O := O.keep K70 all0
     have K := K.trans K70 all0; have CR := CR.trans cr70
     have V_nb70 : Arv Z h70 nb70 k70 .byte (1 : Int32) [(.int c0.toInt8.toInt32)] (.int 0) := V_nb70
     refine og_astore (L' := #[.val (.int p0), .val (.int p1), .val (.int p2), .val (.int p3), .val (.int p4), .val (.int 3), .val (.ref nb53), .val (.ref na62), .val (.int 1), .val (.int 1), .val (.int 1), .val (.ref nt69), .val (.ref na70), .unset]) X70 hx rfl rfl (hb hby at_288) rfl ?_
     refine og_iload X70 hx rfl (hb hby at_290) rfl ?_
     refine og_iload X70 hx rfl (hb hby at_292) rfl ?_
     refine og_isub X70 hx (hb hby at_294) rfl ?_
     show OG p e below _ (T70.setTop (mkF m 295 #[.val (.int p0), .val (.int p1), .val (.int p2), .val (.int p3), .val (.int p4), .val (.int 3), .val (.ref nb53), .val (.ref na62), .val (.int 1), .val (.int 1), .val (.int 1), .val (.ref nt69), .val (.ref na70), .unset] [(.int 2)]))
     refine og_iconst (v := (1 : Int32)) X70 hx rfl (hb hby at_295) rfl ?_
     refine og_isub X70 hx (hb hby at_296) rfl ?_
     show OG p e below _ (T70.setTop (mkF m 297 #[.val (.int p0), .val (.int p1), .val (.int p2), .val (.int p3), .val (.int p4), .val (.int 3), .val (.ref nb53), .val (.ref na62), .val (.int 1), .val (.int 1), .val (.int 1), .val (.ref nt69), .val (.ref na70), .unset] [(.int 1)]))
     refine og_aload X70 hx rfl rfl (hb hby at_297) rfl ?_
     refine og_iload X70 hx rfl (hb hby at_299) rfl ?_
     refine og_iconst (v := (1 : Int32)) X70 hx rfl (hb hby at_301) rfl ?_
     refine og_iadd X70 hx (hb hby at_302) rfl ?_
     show OG p e below _ (T70.setTop (mkF m 303 #[.val (.int p0), .val (.int p1), .val (.int p2), .val (.int p3), .val (.int p4), .val (.int 3), .val (.ref nb53), .val (.ref na62), .val (.int 1), .val (.int 1), .val (.int 1), .val (.ref nt69), .val (.ref na70), .unset] [(.int 2), (.ref nb53), (.int 1)]))
     refine og_caload (v := (.int c2)) X70 hx hZ e70 V_nb53 ⟨by decide, by decide⟩ rfl (hb hby at_303) rfl ?_
     refine og_aload X70 hx rfl rfl (hb hby at_304) rfl ?_
     refine og_iload X70 hx rfl (hb hby at_306) rfl ?_
     refine og_iconst (v := (2 : Int32)) X70 hx rfl (hb hby at_308) rfl ?_
     refine og_iadd X70 hx (hb hby at_309) rfl ?_
     show OG p e below _ (T70.setTop (mkF m 310 #[.val (.int p0), .val (.int p1), .val (.int p2), .val (.int p3), .val (.int p4), .val (.int 3), .val (.ref nb53), .val (.ref na62), .val (.int 1), .val (.int 1), .val (.int 1), .val (.ref nt69), .val (.ref na70), .unset] [(.int 3), (.ref nb53), (.int c2), (.int 1)]))
     refine og_caload (v := (.int c3)) X70 hx hZ e70 V_nb53 ⟨by decide, by decide⟩ rfl (hb hby at_310) rfl ?_
     refine og_aload X70 hx rfl rfl (hb hby at_311) rfl ?_
     refine og_iload X70 hx rfl (hb hby at_313) rfl ?_
     refine og_iconst (v := (3 : Int32)) X70 hx rfl (hb hby at_315) rfl ?_
     refine og_iadd X70 hx (hb hby at_316) rfl ?_
     show OG p e below _ (T70.setTop (mkF m 317 #[.val (.int p0), .val (.int p1), .val (.int p2), .val (.int p3), .val (.int p4), .val (.int 3), .val (.ref nb53), .val (.ref na62), .val (.int 1), .val (.int 1), .val (.int 1), .val (.ref nt69), .val (.ref na70), .unset] [(.int 4), (.ref nb53), (.int c3), (.int c2), (.int 1)]))
     refine og_caload (v := (.int 0)) X70 hx hZ e70 V_nb53 ⟨by decide, by decide⟩ rfl (hb hby at_317) rfl ?_
     refine og_aload X70 hx rfl rfl (hb hby at_318) rfl ?_
     refine og_iload X70 hx rfl (hb hby at_320) rfl ?_
     refine og_iconst (v := (4 : Int32)) X70 hx rfl (hb hby at_322) rfl ?_
     refine og_iadd X70 hx (hb hby at_323) rfl ?_
     show OG p e below _ (T70.setTop (mkF m 324 #[.val (.int p0), .val (.int p1), .val (.int p2), .val (.int p3), .val (.int p4), .val (.int 3), .val (.ref nb53), .val (.ref na62), .val (.int 1), .val (.int 1), .val (.int 1), .val (.ref nt69), .val (.ref na70), .unset] [(.int 5), (.ref nb53), (.int 0), (.int c3), (.int c2), (.int 1)]))
     refine og_caload (v := (.int 0)) X70 hx hZ e70 V_nb53 ⟨by decide, by decide⟩ rfl (hb hby at_324) rfl ?_
     refine og_staticW (pc' := 328) (cells' := 21) (slots' := 122) (W := 0) X70 hx hZ (rm_mk1 l Z a0 hw c2 c3 (0 : Int32) (0 : Int32) hc2 hc3 ⟨by decide, by decide⟩ ⟨by decide, by decide⟩ cs hcs h70 n0 O hEL S_CS) hEL hS hk CR.1 all0 hown (ow6 hw) (ow7 hw) (ow4 hw) (ow8 hw) (by decide) (by rw [hml]; rfl) e70 opd_25 [(.int 1), (.int c2), (.int c3), (.int 0), (.int 0)] [] rfl rfl rfl rfl (by decide) (by decide) rfl rfl (by decide) (by decide) (hb hby at_325) rfl (fun v71 T71 h71 L71 kk71 X71 e71 hS hk hZ hown cr71 z71 => ?_)
     obtain ⟨na71, nb71, k71, rfl, Nq71, K71, sa71, E_na71, F_value_na71, F_coder_na71, V_nb71⟩ := z71; have N := Fr.app N Nq71
     have s_na71 : h70.size ≤ na71 := sa71; have g_na71 : n0 ≤ na71 := Nat.le_trans (own_n0 O) s_na71; have sz_na71 : h0.size ≤ na71 := Nat.le_trans K.1 s_na71; have ne_nb53_na71 : nb53 ≠ na71 := Nat.ne_of_lt (Nat.lt_of_lt_of_le V_nb53.lt s_na71); have ne_na62_na71 : na62 ≠ na71 := Nat.ne_of_lt (Nat.lt_of_lt_of_le E_na62.lt s_na71); have ne_nb62_na71 : nb62 ≠ na71 := Nat.ne_of_lt (Nat.lt_of_lt_of_le V_nb62.lt s_na71)
     have ne_nt69_na71 : nt69 ≠ na71 := Nat.ne_of_lt (Nat.lt_of_lt_of_le E_nt69.lt s_na71); have ne_nx69_na71 : nx69 ≠ na71 := Nat.ne_of_lt (Nat.lt_of_lt_of_le E_nx69.lt s_na71); have ne_nbx69_na71 : nbx69 ≠ na71 := Nat.ne_of_lt (Nat.lt_of_lt_of_le V_nbx69.lt s_na71); have ne_ny69_na71 : ny69 ≠ na71 := Nat.ne_of_lt (Nat.lt_of_lt_of_le E_ny69.lt s_na71); have ne_nby69_na71 : nby69 ≠ na71 := Nat.ne_of_lt (Nat.lt_of_lt_of_le V_nby69.lt s_na71); have ne_na70_na71 : na70 ≠ na71 := Nat.ne_of_lt (Nat.lt_of_lt_of_le E_na70.lt s_na71)
     have ne_nb70_na71 : nb70 ≠ na71 := Nat.ne_of_lt (Nat.lt_of_lt_of_le V_nb70.lt s_na71); have Q_na71 : Safe Z own_EL _ _ na71 := Safe.new (Z := Z) (EL := own_EL) (vm := T71.vm) s_na71
     have Q_nb53 := cr71.safe V_nb53.lt Q_nb53; have V_nb53 := V_nb53.keep K71 nin0; have E_na62 := E_na62.keep K71; have F_value_na62 := F_value_na62.keep K71 nin0; have F_coder_na62 := F_coder_na62.keep K71 nin0; have V_nb62 := V_nb62.keep K71 nin0
     have E_nt69 := E_nt69.keep K71; have F_schema_nt69 := F_schema_nt69.keep K71 nin0; have F_name_nt69 := F_name_nt69.keep K71 nin0; have E_nx69 := E_nx69.keep K71; have F_value_nx69 := F_value_nx69.keep K71 nin0; have F_coder_nx69 := F_coder_nx69.keep K71 nin0
     have V_nbx69 := V_nbx69.keep K71 nin0; have E_ny69 := E_ny69.keep K71; have F_value_ny69 := F_value_ny69.keep K71 nin0; have F_coder_ny69 := F_coder_ny69.keep K71 nin0; have V_nby69 := V_nby69.keep K71 nin0; have E_na70 := E_na70.keep K71
     have F_value_na70 := F_value_na70.keep K71 nin0; have F_coder_na70 := F_coder_na70.keep K71 nin0; have V_nb70 := V_nb70.keep K71 nin0; have O := O.keep K71 all0; have K := K.trans K71 all0; have CR := CR.trans cr71
     have V_nb71 : Arv Z h71 nb71 k71 .byte (1 : Int32) [(.int c2.toInt8.toInt32)] (.int 0) := V_nb71
     refine og_astore (L' := #[.val (.int p0), .val (.int p1), .val (.int p2), .val (.int p3), .val (.int p4), .val (.int 3), .val (.ref nb53), .val (.ref na62), .val (.int 1), .val (.int 1), .val (.int 1), .val (.ref nt69), .val (.ref na70), .val (.ref na71)]) X71 hx rfl rfl (hb hby at_328) rfl ?_
     refine og_aload X71 hx rfl rfl (hb hby at_330) rfl ?_
     refine og_virtual (pc' := 335) (cells' := 21) (slots' := 122) (W := 0) X71 hx hZ (rm_gschema l Z a0 hw nt69 nx69 h71 n0 O F_schema_nt69) hown (ow116 hw) (ow117 hw) (own_nf hZ (ow119 hw)) (ow119 hw) (ow118 hw) (ow43 hw) (ow120 hw) (by decide) (by rw [hml]; rfl) e71 opd_27 [] [] rfl rfl rfl rfl (by decide) (by decide) rfl rfl (by decide) (by decide) E_nt69 (hb hby at_332) rfl (fun v72 T72 h72 L72 X72 e72 z72 => ?_)
     obtain ⟨rfl, Nq72, hq72⟩ := z72; replace e72 := e72.trans hq72; have N := Fr.app N Nq72
     refine og_aload X72 hx rfl rfl (hb hby at_335) rfl ?_
     refine og_virtual (pc' := 340) (cells' := 21) (slots' := 122) (W := 0) X72 hx hZ (rm_eqG l Z a0 hw nx69 na70 nbx69 nb70 kx69 k70 [c0.toInt8.toInt32] [c0.toInt8.toInt32] (1 : Int32) (1 : Int32) (by rfl) (by rfl) (by decide) (by decide) 1 (if_pos rfl).symm cs hcs h71 n0 O E_nx69 F_value_nx69 F_coder_nx69 V_nbx69 E_na70 F_value_na70 F_coder_na70 V_nb70 S_CS) hown (ow122 hw) (ow123 hw) (own_nf hZ (ow125 hw)) (ow125 hw) (ow124 hw) (ow11 hw) (ow126 hw) (by decide) (by rw [hml]; rfl) e72 opd_28 [(.ref na70)] [] rfl rfl rfl rfl (by decide) (by decide) rfl rfl (by decide) (by decide) E_nx69 (hb hby at_337) rfl (fun v73 T73 h73 L73 X73 e73 z73 => ?_)
     obtain ⟨rfl, Nq73, hq73⟩ := z73; replace e73 := e73.trans hq73; have N := Fr.app N Nq73
     refine og_if_eq (pc1 := 360) (pc2 := 343) X73 hx (hb hby at_340) (by decide) (by decide) rfl (fun q => absurd q (by decide)) (fun _ => ?_)
     refine og_aload X73 hx rfl rfl (hb hby at_343) rfl ?_
     refine og_virtual (pc' := 348) (cells' := 21) (slots' := 122) (W := 0) X73 hx hZ (rm_gname l Z a0 hw nt69 ny69 h71 n0 O F_name_nt69) hown (ow127 hw) (ow128 hw) (own_nf hZ (ow130 hw)) (ow130 hw) (ow129 hw) (ow43 hw) (ow131 hw) (by decide) (by rw [hml]; rfl) e73 opd_27 [] [] rfl rfl rfl rfl (by decide) (by decide) rfl rfl (by decide) (by decide) E_nt69 (hb hby at_345) rfl (fun v74 T74 h74 L74 X74 e74 z74 => ?_)
     obtain ⟨rfl, Nq74, hq74⟩ := z74; replace e74 := e74.trans hq74; have N := Fr.app N Nq74
     refine og_aload X74 hx rfl rfl (hb hby at_348) rfl ?_
     refine og_virtual (pc' := 353) (cells' := 21) (slots' := 122) (W := 0) X74 hx hZ (rm_eqG l Z a0 hw ny69 na71 nby69 nb71 ky69 k71 [c2.toInt8.toInt32] [c2.toInt8.toInt32] (1 : Int32) (1 : Int32) (by rfl) (by rfl) (by decide) (by decide) 1 (if_pos rfl).symm cs hcs h71 n0 O E_ny69 F_value_ny69 F_coder_ny69 V_nby69 E_na71 F_value_na71 F_coder_na71 V_nb71 S_CS) hown (ow122 hw) (ow123 hw) (own_nf hZ (ow125 hw)) (ow125 hw) (ow124 hw) (ow11 hw) (ow126 hw) (by decide) (by rw [hml]; rfl) e74 opd_28 [(.ref na71)] [] rfl rfl rfl rfl (by decide) (by decide) rfl rfl (by decide) (by decide) E_ny69 (hb hby at_350) rfl (fun v75 T75 h75 L75 X75 e75 z75 => ?_)
     obtain ⟨rfl, Nq75, hq75⟩ := z75; replace e75 := e75.trans hq75; have N := Fr.app N Nq75
     refine og_if_eq (pc1 := 360) (pc2 := 356) X75 hx (hb hby at_353) (by decide) (by decide) rfl (fun q => absurd q (by decide)) (fun _ => ?_)
     refine og_iconst (v := (1 : Int32)) X75 hx rfl (hb hby at_356) rfl ?_
     refine og_goto (pc' := 361) X75 hx (hb hby at_357) (by decide) (by decide) ?_
     refine og_retNW X75 hx hZ hlk hEL hS e75 es hk CR hret (by simp) (hb hby at_361) (by decide) (by decide) ?_
     exact ⟨rfl, N⟩
    ·
     subst hc139
     have V_nb62 : Arv Z h62 nb62 k62 .byte (3 : Int32) [(.int c0.toInt8.toInt32), (.int 46), (.int 46)] (.int 0) := V_nb62
     refine og_iinc (L' := #[.val (.int p0), .val (.int p1), .val (.int p2), .val (.int p3), .val (.int p4), .val (.int 3), .val (.ref nb53), .val (.ref na62), .val (.int 1), .val (.int 2), .unset, .unset, .unset, .unset]) (w := (1 : Int32)) X62 hx rfl rfl rfl (hb hby at_142) rfl ?_
     refine og_iload X62 hx rfl (hb hby at_145) rfl ?_
     refine og_if_ge (pc1 := 153) (pc2 := 150) X62 hx (hb hby at_147) (by decide) (by decide) rfl (fun _ => ?_) (fun q => absurd q (by decide))
     refine og_iload X62 hx rfl (hb hby at_153) rfl ?_
     refine og_iconst (v := (3 : Int32)) X62 hx rfl (hb hby at_155) rfl ?_
     refine og_icmp_le (pc1 := 179) (pc2 := 159) X62 hx (hb hby at_156) (by decide) (by decide) rfl (fun _ => ?_) (fun q => absurd q (by decide))
     refine og_iload X62 hx rfl (hb hby at_179) rfl ?_
     refine og_if_le (pc1 := 213) (pc2 := 184) X62 hx (hb hby at_181) (by decide) (by decide) rfl (fun q => absurd q (by decide)) (fun _ => ?_)
     refine og_iload X62 hx rfl (hb hby at_184) rfl ?_
     refine og_if_eq (pc1 := 209) (pc2 := 189) X62 hx (hb hby at_186) (by decide) (by decide) rfl (fun q => absurd q (by decide)) (fun _ => ?_)
     refine og_iload X62 hx rfl (hb hby at_189) rfl ?_
     refine og_iconst (v := (1 : Int32)) X62 hx rfl (hb hby at_191) rfl ?_
     refine og_icmp_ne (pc1 := 213) (pc2 := 195) X62 hx (hb hby at_192) (by decide) (by decide) rfl (fun _ => ?_) (fun q => absurd q (by decide))
     refine og_iconst (v := (0 : Int32)) X62 hx rfl (hb hby at_213) rfl ?_
     refine og_istore (L' := #[.val (.int p0), .val (.int p1), .val (.int p2), .val (.int p3), .val (.int p4), .val (.int 3), .val (.ref nb53), .val (.ref na62), .val (.int 1), .val (.int 2), .val (.int 0), .unset, .unset, .unset]) X62 hx rfl (hb hby at_214) rfl ?_
     refine og_iload X62 hx rfl (hb hby at_216) rfl ?_
     refine og_if_ne (pc1 := 223) (pc2 := 221) X62 hx (hb hby at_218) (by decide) (by decide) rfl (fun q => absurd q (by decide)) (fun _ => ?_)
     refine og_iconst (v := (1 : Int32)) X62 hx rfl (hb hby at_221) rfl ?_
     refine og_retNW X62 hx hZ hlk hEL hS e62 es hk CR hret (by simp) (hb hby at_222) (by decide) (by decide) ?_
     exact ⟨rfl, N⟩
  ·
   subst hc87
   have V_nb62 : Arv Z h62 nb62 k62 .byte (3 : Int32) [(.int 46), (.int c1.toInt8.toInt32), (.int c2.toInt8.toInt32)] (.int 0) := V_nb62
   refine og_iinc (L' := #[.val (.int p0), .val (.int p1), .val (.int p2), .val (.int p3), .val (.int p4), .val (.int 3), .val (.ref nb53), .val (.ref na62), .val (.int (-1)), .val (.int 1), .unset, .unset, .unset, .unset]) (w := (1 : Int32)) X62 hx rfl rfl rfl (hb hby at_90) rfl ?_
   refine og_iload X62 hx rfl (hb hby at_93) rfl ?_
   refine og_if_ge (pc1 := 101) (pc2 := 98) X62 hx (hb hby at_95) (by decide) (by decide) rfl (fun q => absurd q (by decide)) (fun _ => ?_)
   refine og_iconst (v := (0 : Int32)) X62 hx rfl (hb hby at_98) rfl ?_
   refine og_istore (L' := #[.val (.int p0), .val (.int p1), .val (.int p2), .val (.int p3), .val (.int p4), .val (.int 3), .val (.ref nb53), .val (.ref na62), .val (.int 0), .val (.int 1), .unset, .unset, .unset, .unset]) X62 hx rfl (hb hby at_99) rfl ?_
   refine og_iload X62 hx rfl (hb hby at_101) rfl ?_
   refine og_iconst (v := (1 : Int32)) X62 hx rfl (hb hby at_103) rfl ?_
   refine og_icmp_le (pc1 := 127) (pc2 := 107) X62 hx (hb hby at_104) (by decide) (by decide) rfl (fun q => absurd q (by decide)) (fun _ => ?_)
   refine og_aload X62 hx rfl rfl (hb hby at_107) rfl ?_
   refine og_iconst (v := (1 : Int32)) X62 hx rfl (hb hby at_109) rfl ?_
   refine og_caload (v := (.int c1)) X62 hx hZ e62 V_nb53 ⟨by decide, by decide⟩ rfl (hb hby at_110) rfl ?_
   refine og_bipush (v := (46 : Int32)) X62 hx rfl (hb hby at_111) rfl ?_
   refine og_icmp_ne (pc1 := 127) (pc2 := 116) X62 hx (hb hby at_113) (by decide) (by decide) rfl (fun hc113 => ?_) (fun hc113 => ?_)
   ·
    refine og_iload X62 hx rfl (hb hby at_127) rfl ?_
    refine og_iconst (v := (2 : Int32)) X62 hx rfl (hb hby at_129) rfl ?_
    refine og_icmp_le (pc1 := 153) (pc2 := 133) X62 hx (hb hby at_130) (by decide) (by decide) rfl (fun q => absurd q (by decide)) (fun _ => ?_)
    refine og_aload X62 hx rfl rfl (hb hby at_133) rfl ?_
    refine og_iconst (v := (2 : Int32)) X62 hx rfl (hb hby at_135) rfl ?_
    refine og_caload (v := (.int c2)) X62 hx hZ e62 V_nb53 ⟨by decide, by decide⟩ rfl (hb hby at_136) rfl ?_
    refine og_bipush (v := (46 : Int32)) X62 hx rfl (hb hby at_137) rfl ?_
    refine og_icmp_ne (pc1 := 153) (pc2 := 142) X62 hx (hb hby at_139) (by decide) (by decide) rfl (fun hc139 => ?_) (fun hc139 => ?_)
    ·
     refine og_iload X62 hx rfl (hb hby at_153) rfl ?_
     refine og_iconst (v := (3 : Int32)) X62 hx rfl (hb hby at_155) rfl ?_
     refine og_icmp_le (pc1 := 179) (pc2 := 159) X62 hx (hb hby at_156) (by decide) (by decide) rfl (fun _ => ?_) (fun q => absurd q (by decide))
     refine og_iload X62 hx rfl (hb hby at_179) rfl ?_
     refine og_if_le (pc1 := 213) (pc2 := 184) X62 hx (hb hby at_181) (by decide) (by decide) rfl (fun q => absurd q (by decide)) (fun _ => ?_)
     refine og_iload X62 hx rfl (hb hby at_184) rfl ?_
     refine og_if_eq (pc1 := 209) (pc2 := 189) X62 hx (hb hby at_186) (by decide) (by decide) rfl (fun q => absurd q (by decide)) (fun _ => ?_)
     refine og_iload X62 hx rfl (hb hby at_189) rfl ?_
     refine og_iconst (v := (1 : Int32)) X62 hx rfl (hb hby at_191) rfl ?_
     refine og_icmp_ne (pc1 := 213) (pc2 := 195) X62 hx (hb hby at_192) (by decide) (by decide) rfl (fun q => absurd q (by decide)) (fun _ => ?_)
     refine og_iload X62 hx rfl (hb hby at_195) rfl ?_
     refine og_if_eq (pc1 := 213) (pc2 := 200) X62 hx (hb hby at_197) (by decide) (by decide) rfl (fun _ => ?_) (fun q => absurd q (by decide))
     refine og_iconst (v := (0 : Int32)) X62 hx rfl (hb hby at_213) rfl ?_
     refine og_istore (L' := #[.val (.int p0), .val (.int p1), .val (.int p2), .val (.int p3), .val (.int p4), .val (.int 3), .val (.ref nb53), .val (.ref na62), .val (.int 0), .val (.int 1), .val (.int 0), .unset, .unset, .unset]) X62 hx rfl (hb hby at_214) rfl ?_
     refine og_iload X62 hx rfl (hb hby at_216) rfl ?_
     refine og_if_ne (pc1 := 223) (pc2 := 221) X62 hx (hb hby at_218) (by decide) (by decide) rfl (fun q => absurd q (by decide)) (fun _ => ?_)
     refine og_iconst (v := (1 : Int32)) X62 hx rfl (hb hby at_221) rfl ?_
     refine og_retNW X62 hx hZ hlk hEL hS e62 es hk CR hret (by simp) (hb hby at_222) (by decide) (by decide) ?_
     exact ⟨rfl, N⟩
    ·
     subst hc139
     have V_nb62 : Arv Z h62 nb62 k62 .byte (3 : Int32) [(.int 46), (.int c1.toInt8.toInt32), (.int 46)] (.int 0) := V_nb62
     refine og_iinc (L' := #[.val (.int p0), .val (.int p1), .val (.int p2), .val (.int p3), .val (.int p4), .val (.int 3), .val (.ref nb53), .val (.ref na62), .val (.int 0), .val (.int 2), .unset, .unset, .unset, .unset]) (w := (1 : Int32)) X62 hx rfl rfl rfl (hb hby at_142) rfl ?_
     refine og_iload X62 hx rfl (hb hby at_145) rfl ?_
     refine og_if_ge (pc1 := 153) (pc2 := 150) X62 hx (hb hby at_147) (by decide) (by decide) rfl (fun _ => ?_) (fun q => absurd q (by decide))
     refine og_iload X62 hx rfl (hb hby at_153) rfl ?_
     refine og_iconst (v := (3 : Int32)) X62 hx rfl (hb hby at_155) rfl ?_
     refine og_icmp_le (pc1 := 179) (pc2 := 159) X62 hx (hb hby at_156) (by decide) (by decide) rfl (fun _ => ?_) (fun q => absurd q (by decide))
     refine og_iload X62 hx rfl (hb hby at_179) rfl ?_
     refine og_if_le (pc1 := 213) (pc2 := 184) X62 hx (hb hby at_181) (by decide) (by decide) rfl (fun q => absurd q (by decide)) (fun _ => ?_)
     refine og_iload X62 hx rfl (hb hby at_184) rfl ?_
     refine og_if_eq (pc1 := 209) (pc2 := 189) X62 hx (hb hby at_186) (by decide) (by decide) rfl (fun q => absurd q (by decide)) (fun _ => ?_)
     refine og_iload X62 hx rfl (hb hby at_189) rfl ?_
     refine og_iconst (v := (1 : Int32)) X62 hx rfl (hb hby at_191) rfl ?_
     refine og_icmp_ne (pc1 := 213) (pc2 := 195) X62 hx (hb hby at_192) (by decide) (by decide) rfl (fun _ => ?_) (fun q => absurd q (by decide))
     refine og_iconst (v := (0 : Int32)) X62 hx rfl (hb hby at_213) rfl ?_
     refine og_istore (L' := #[.val (.int p0), .val (.int p1), .val (.int p2), .val (.int p3), .val (.int p4), .val (.int 3), .val (.ref nb53), .val (.ref na62), .val (.int 0), .val (.int 2), .val (.int 0), .unset, .unset, .unset]) X62 hx rfl (hb hby at_214) rfl ?_
     refine og_iload X62 hx rfl (hb hby at_216) rfl ?_
     refine og_if_ne (pc1 := 223) (pc2 := 221) X62 hx (hb hby at_218) (by decide) (by decide) rfl (fun q => absurd q (by decide)) (fun _ => ?_)
     refine og_iconst (v := (1 : Int32)) X62 hx rfl (hb hby at_221) rfl ?_
     refine og_retNW X62 hx hZ hlk hEL hS e62 es hk CR hret (by simp) (hb hby at_222) (by decide) (by decide) ?_
     exact ⟨rfl, N⟩
   ·
    subst hc113
    have V_nb62 : Arv Z h62 nb62 k62 .byte (3 : Int32) [(.int 46), (.int 46), (.int c2.toInt8.toInt32)] (.int 0) := V_nb62
    refine og_iinc (L' := #[.val (.int p0), .val (.int p1), .val (.int p2), .val (.int p3), .val (.int p4), .val (.int 3), .val (.ref nb53), .val (.ref na62), .val (.int 0), .val (.int 2), .unset, .unset, .unset, .unset]) (w := (1 : Int32)) X62 hx rfl rfl rfl (hb hby at_116) rfl ?_
    refine og_iload X62 hx rfl (hb hby at_119) rfl ?_
    refine og_if_ge (pc1 := 127) (pc2 := 124) X62 hx (hb hby at_121) (by decide) (by decide) rfl (fun _ => ?_) (fun q => absurd q (by decide))
    refine og_iload X62 hx rfl (hb hby at_127) rfl ?_
    refine og_iconst (v := (2 : Int32)) X62 hx rfl (hb hby at_129) rfl ?_
    refine og_icmp_le (pc1 := 153) (pc2 := 133) X62 hx (hb hby at_130) (by decide) (by decide) rfl (fun q => absurd q (by decide)) (fun _ => ?_)
    refine og_aload X62 hx rfl rfl (hb hby at_133) rfl ?_
    refine og_iconst (v := (2 : Int32)) X62 hx rfl (hb hby at_135) rfl ?_
    refine og_caload (v := (.int c2)) X62 hx hZ e62 V_nb53 ⟨by decide, by decide⟩ rfl (hb hby at_136) rfl ?_
    refine og_bipush (v := (46 : Int32)) X62 hx rfl (hb hby at_137) rfl ?_
    refine og_icmp_ne (pc1 := 153) (pc2 := 142) X62 hx (hb hby at_139) (by decide) (by decide) rfl (fun hc139 => ?_) (fun hc139 => ?_)
    ·
     refine og_iload X62 hx rfl (hb hby at_153) rfl ?_
     refine og_iconst (v := (3 : Int32)) X62 hx rfl (hb hby at_155) rfl ?_
     refine og_icmp_le (pc1 := 179) (pc2 := 159) X62 hx (hb hby at_156) (by decide) (by decide) rfl (fun _ => ?_) (fun q => absurd q (by decide))
     refine og_iload X62 hx rfl (hb hby at_179) rfl ?_
     refine og_if_le (pc1 := 213) (pc2 := 184) X62 hx (hb hby at_181) (by decide) (by decide) rfl (fun q => absurd q (by decide)) (fun _ => ?_)
     refine og_iload X62 hx rfl (hb hby at_184) rfl ?_
     refine og_if_eq (pc1 := 209) (pc2 := 189) X62 hx (hb hby at_186) (by decide) (by decide) rfl (fun q => absurd q (by decide)) (fun _ => ?_)
     refine og_iload X62 hx rfl (hb hby at_189) rfl ?_
     refine og_iconst (v := (1 : Int32)) X62 hx rfl (hb hby at_191) rfl ?_
     refine og_icmp_ne (pc1 := 213) (pc2 := 195) X62 hx (hb hby at_192) (by decide) (by decide) rfl (fun _ => ?_) (fun q => absurd q (by decide))
     refine og_iconst (v := (0 : Int32)) X62 hx rfl (hb hby at_213) rfl ?_
     refine og_istore (L' := #[.val (.int p0), .val (.int p1), .val (.int p2), .val (.int p3), .val (.int p4), .val (.int 3), .val (.ref nb53), .val (.ref na62), .val (.int 0), .val (.int 2), .val (.int 0), .unset, .unset, .unset]) X62 hx rfl (hb hby at_214) rfl ?_
     refine og_iload X62 hx rfl (hb hby at_216) rfl ?_
     refine og_if_ne (pc1 := 223) (pc2 := 221) X62 hx (hb hby at_218) (by decide) (by decide) rfl (fun q => absurd q (by decide)) (fun _ => ?_)
     refine og_iconst (v := (1 : Int32)) X62 hx rfl (hb hby at_221) rfl ?_
     refine og_retNW X62 hx hZ hlk hEL hS e62 es hk CR hret (by simp) (hb hby at_222) (by decide) (by decide) ?_
     exact ⟨rfl, N⟩
    ·
     subst hc139
     have V_nb62 : Arv Z h62 nb62 k62 .byte (3 : Int32) [(.int 46), (.int 46), (.int 46)] (.int 0) := V_nb62
     refine og_iinc (L' := #[.val (.int p0), .val (.int p1), .val (.int p2), .val (.int p3), .val (.int p4), .val (.int 3), .val (.ref nb53), .val (.ref na62), .val (.int 0), .val (.int 3), .unset, .unset, .unset, .unset]) (w := (1 : Int32)) X62 hx rfl rfl rfl (hb hby at_142) rfl ?_
     refine og_iload X62 hx rfl (hb hby at_145) rfl ?_
     refine og_if_ge (pc1 := 153) (pc2 := 150) X62 hx (hb hby at_147) (by decide) (by decide) rfl (fun _ => ?_) (fun q => absurd q (by decide))
     refine og_iload X62 hx rfl (hb hby at_153) rfl ?_
     refine og_iconst (v := (3 : Int32)) X62 hx rfl (hb hby at_155) rfl ?_
     refine og_icmp_le (pc1 := 179) (pc2 := 159) X62 hx (hb hby at_156) (by decide) (by decide) rfl (fun _ => ?_) (fun q => absurd q (by decide))
     refine og_iload X62 hx rfl (hb hby at_179) rfl ?_
     refine og_if_le (pc1 := 213) (pc2 := 184) X62 hx (hb hby at_181) (by decide) (by decide) rfl (fun q => absurd q (by decide)) (fun _ => ?_)
     refine og_iload X62 hx rfl (hb hby at_184) rfl ?_
     refine og_if_eq (pc1 := 209) (pc2 := 189) X62 hx (hb hby at_186) (by decide) (by decide) rfl (fun q => absurd q (by decide)) (fun _ => ?_)
     refine og_iload X62 hx rfl (hb hby at_189) rfl ?_
     refine og_iconst (v := (1 : Int32)) X62 hx rfl (hb hby at_191) rfl ?_
     refine og_icmp_ne (pc1 := 213) (pc2 := 195) X62 hx (hb hby at_192) (by decide) (by decide) rfl (fun _ => ?_) (fun q => absurd q (by decide))
     refine og_iconst (v := (0 : Int32)) X62 hx rfl (hb hby at_213) rfl ?_
     refine og_istore (L' := #[.val (.int p0), .val (.int p1), .val (.int p2), .val (.int p3), .val (.int p4), .val (.int 3), .val (.ref nb53), .val (.ref na62), .val (.int 0), .val (.int 3), .val (.int 0), .unset, .unset, .unset]) X62 hx rfl (hb hby at_214) rfl ?_
     refine og_iload X62 hx rfl (hb hby at_216) rfl ?_
     refine og_if_ne (pc1 := 223) (pc2 := 221) X62 hx (hb hby at_218) (by decide) (by decide) rfl (fun q => absurd q (by decide)) (fun _ => ?_)
     refine og_iconst (v := (1 : Int32)) X62 hx rfl (hb hby at_221) rfl ?_
     refine og_retNW X62 hx hZ hlk hEL hS e62 es hk CR hret (by simp) (hb hby at_222) (by decide) (by decide) ?_
     exact ⟨rfl, N⟩
 ·
  refine og_bipush (v := (8 : Int32)) X0 hx rfl (hb hby at_8) rfl ?_
  refine og_newarray (pc' := 12) (cells' := 1) (slots' := 8) (cap := 8) (ty := .char) X0 hx hZ rfl (ow1 hw) e0 (by decide) (by decide) (by decide) (hb hby at_10) rfl rfl rfl (by decide) (by decide) (fun T76 h76 nb76 kA76 X76 e76 E76 q76 V_nb76 => ?_)
  have s_nb76 : h0.size ≤ nb76 := Nat.le_of_eq q76.symm; have g_nb76 : n0 ≤ nb76 := Nat.le_trans (own_n0 O) s_nb76; have sz_nb76 : h0.size ≤ nb76 := Nat.le_trans K.1 s_nb76; have Q_nb76 : Safe Z own_EL _ _ nb76 := Safe.new (Z := Z) (EL := own_EL) (vm := s.vm) s_nb76
  have Q_nb76 := Safe.ext E76 CR.1 Q_nb76; have O := O.ext E76; have K := K.ext E76; have hk := Nat.le_trans hk E76.1; have CR := CR.trans (CHr.ext E76 CR.1)
  have V_nb76 : Arv Z h76 nb76 kA76 .char (8 : Int32) [(.int 0), (.int 0), (.int 0), (.int 0), (.int 0), (.int 0), (.int 0), (.int 0)] (.int 0) := V_nb76.pad (pad_rep [] (.int 0) 8)
  refine og_astore (L' := #[.val (.int p0), .val (.int p1), .val (.int p2), .val (.int p3), .val (.int p4), .val (.int 4), .val (.ref nb76), .unset, .unset, .unset, .unset, .unset, .unset, .unset]) X76 hx rfl rfl (hb hby at_12) rfl ?_
  refine og_aload X76 hx rfl rfl (hb hby at_14) rfl ?_
  refine og_iconst (v := (0 : Int32)) X76 hx rfl (hb hby at_16) rfl ?_
  refine og_iloadN X76 hx rfl (hb hby at_17) rfl ?_
  refine og_static (pc' := 21) (cells' := 1) (slots' := 8) (W := 2) X76 hx hZ (rm_c l Z a0 hw p1 h76 n0 O) hown (ow2 hw) (ow3 hw) (ow4 hw) (ow5 hw) (by decide) (by rw [hml]; rfl) e76 opd_24 [(.int p1)] [(.int 0), (.ref nb76)] rfl rfl rfl rfl (by decide) (by decide) rfl rfl (by decide) (by decide) (hb hby at_18) rfl (fun v77 T77 h77 L77 X77 e77 z77 => ?_)
  obtain ⟨c0, rfl, Nq77, hq77, hc0⟩ := z77; replace e77 := e77.trans hq77; have N := Fr.app N Nq77
  refine og_castore X77 hx hZ e77 V_nb76 ⟨by decide, by decide⟩ 0 (by decide) (Nat.le_of_ble_eq_true rfl) (hb hby at_21) rfl (fun T78 h78 X78 e78 W78 V78 => ?_)
  have sf78 : Safe Z own_EL s.vm h76 nb76 := Q_nb76; have Q_nb76 := Safe.wr W78 sf78 CR.1 Q_nb76; have O := O.wr W78 g_nb76; have K := K.wr W78 (Or.inr sz_nb76); have hk := Nat.le_trans hk (Keep.of_wr W78).1; have CR := CR.trans (CHr.wr W78 sf78 CR.1)
  have N := Fr.snoc X78 N g_nb76
  have V_nb76 : Arv Z h78 nb76 kA76 .char (8 : Int32) [(.int (nar .char c0)), (.int 0), (.int 0), (.int 0), (.int 0), (.int 0), (.int 0), (.int 0)] (.int 0) := V78
  rw [own_nc hc0] at V_nb76
  refine og_aload X78 hx rfl rfl (hb hby at_22) rfl ?_
  refine og_iconst (v := (1 : Int32)) X78 hx rfl (hb hby at_24) rfl ?_
  refine og_iloadN X78 hx rfl (hb hby at_25) rfl ?_
  refine og_static (pc' := 29) (cells' := 1) (slots' := 8) (W := 2) X78 hx hZ (rm_c l Z a0 hw p2 h78 n0 O) hown (ow2 hw) (ow3 hw) (ow4 hw) (ow5 hw) (by decide) (by rw [hml]; rfl) e78 opd_24 [(.int p2)] [(.int 1), (.ref nb76)] rfl rfl rfl rfl (by decide) (by decide) rfl rfl (by decide) (by decide) (hb hby at_26) rfl (fun v79 T79 h79 L79 X79 e79 z79 => ?_)
  obtain ⟨c1, rfl, Nq79, hq79, hc1⟩ := z79; replace e79 := e79.trans hq79; have N := Fr.app N Nq79
  refine og_castore X79 hx hZ e79 V_nb76 ⟨by decide, by decide⟩ 1 (by decide) (Nat.le_of_ble_eq_true rfl) (hb hby at_29) rfl (fun T80 h80 X80 e80 W80 V80 => ?_)
  have sf80 : Safe Z own_EL s.vm h78 nb76 := Q_nb76; have Q_nb76 := Safe.wr W80 sf80 CR.1 Q_nb76; have O := O.wr W80 g_nb76; have K := K.wr W80 (Or.inr sz_nb76); have hk := Nat.le_trans hk (Keep.of_wr W80).1; have CR := CR.trans (CHr.wr W80 sf80 CR.1)
  have N := Fr.snoc X80 N g_nb76
  have V_nb76 : Arv Z h80 nb76 kA76 .char (8 : Int32) [(.int c0), (.int (nar .char c1)), (.int 0), (.int 0), (.int 0), (.int 0), (.int 0), (.int 0)] (.int 0) := V80
  rw [own_nc hc1] at V_nb76
  refine og_aload X80 hx rfl rfl (hb hby at_30) rfl ?_
  refine og_iconst (v := (2 : Int32)) X80 hx rfl (hb hby at_32) rfl ?_
  refine og_iloadN X80 hx rfl (hb hby at_33) rfl ?_
  refine og_static (pc' := 37) (cells' := 1) (slots' := 8) (W := 2) X80 hx hZ (rm_c l Z a0 hw p3 h80 n0 O) hown (ow2 hw) (ow3 hw) (ow4 hw) (ow5 hw) (by decide) (by rw [hml]; rfl) e80 opd_24 [(.int p3)] [(.int 2), (.ref nb76)] rfl rfl rfl rfl (by decide) (by decide) rfl rfl (by decide) (by decide) (hb hby at_34) rfl (fun v81 T81 h81 L81 X81 e81 z81 => ?_)
  obtain ⟨c2, rfl, Nq81, hq81, hc2⟩ := z81; replace e81 := e81.trans hq81; have N := Fr.app N Nq81
  refine og_castore X81 hx hZ e81 V_nb76 ⟨by decide, by decide⟩ 2 (by decide) (Nat.le_of_ble_eq_true rfl) (hb hby at_37) rfl (fun T82 h82 X82 e82 W82 V82 => ?_)
  have sf82 : Safe Z own_EL s.vm h80 nb76 := Q_nb76; have Q_nb76 := Safe.wr W82 sf82 CR.1 Q_nb76; have O := O.wr W82 g_nb76; have K := K.wr W82 (Or.inr sz_nb76); have hk := Nat.le_trans hk (Keep.of_wr W82).1; have CR := CR.trans (CHr.wr W82 sf82 CR.1)
  have N := Fr.snoc X82 N g_nb76
  have V_nb76 : Arv Z h82 nb76 kA76 .char (8 : Int32) [(.int c0), (.int c1), (.int (nar .char c2)), (.int 0), (.int 0), (.int 0), (.int 0), (.int 0)] (.int 0) := V82
  rw [own_nc hc2] at V_nb76
  refine og_aload X82 hx rfl rfl (hb hby at_38) rfl ?_
  refine og_iconst (v := (3 : Int32)) X82 hx rfl (hb hby at_40) rfl ?_
  refine og_iload X82 hx rfl (hb hby at_41) rfl ?_
  refine og_static (pc' := 46) (cells' := 1) (slots' := 8) (W := 2) X82 hx hZ (rm_c l Z a0 hw p4 h82 n0 O) hown (ow2 hw) (ow3 hw) (ow4 hw) (ow5 hw) (by decide) (by rw [hml]; rfl) e82 opd_24 [(.int p4)] [(.int 3), (.ref nb76)] rfl rfl rfl rfl (by decide) (by decide) rfl rfl (by decide) (by decide) (hb hby at_43) rfl (fun v83 T83 h83 L83 X83 e83 z83 => ?_)
  obtain ⟨c3, rfl, Nq83, hq83, hc3⟩ := z83; replace e83 := e83.trans hq83; have N := Fr.app N Nq83
  refine og_castore X83 hx hZ e83 V_nb76 ⟨by decide, by decide⟩ 3 (by decide) (Nat.le_of_ble_eq_true rfl) (hb hby at_46) rfl (fun T84 h84 X84 e84 W84 V84 => ?_)
  have sf84 : Safe Z own_EL s.vm h82 nb76 := Q_nb76; have Q_nb76 := Safe.wr W84 sf84 CR.1 Q_nb76; have O := O.wr W84 g_nb76; have K := K.wr W84 (Or.inr sz_nb76); have hk := Nat.le_trans hk (Keep.of_wr W84).1; have CR := CR.trans (CHr.wr W84 sf84 CR.1)
  have N := Fr.snoc X84 N g_nb76
  have V_nb76 : Arv Z h84 nb76 kA76 .char (8 : Int32) [(.int c0), (.int c1), (.int c2), (.int (nar .char c3)), (.int 0), (.int 0), (.int 0), (.int 0)] (.int 0) := V84
  rw [own_nc hc3] at V_nb76
  refine og_iload X84 hx rfl (hb hby at_47) rfl ?_
  refine og_aload X84 hx rfl rfl (hb hby at_49) rfl ?_
  refine og_iconst (v := (0 : Int32)) X84 hx rfl (hb hby at_51) rfl ?_
  refine og_caload (v := (.int c0)) X84 hx hZ e84 V_nb76 ⟨by decide, by decide⟩ rfl (hb hby at_52) rfl ?_
  refine og_aload X84 hx rfl rfl (hb hby at_53) rfl ?_
  refine og_iconst (v := (1 : Int32)) X84 hx rfl (hb hby at_55) rfl ?_
  refine og_caload (v := (.int c1)) X84 hx hZ e84 V_nb76 ⟨by decide, by decide⟩ rfl (hb hby at_56) rfl ?_
  refine og_aload X84 hx rfl rfl (hb hby at_57) rfl ?_
  refine og_iconst (v := (2 : Int32)) X84 hx rfl (hb hby at_59) rfl ?_
  refine og_caload (v := (.int c2)) X84 hx hZ e84 V_nb76 ⟨by decide, by decide⟩ rfl (hb hby at_60) rfl ?_
  refine og_aload X84 hx rfl rfl (hb hby at_61) rfl ?_
  refine og_iconst (v := (3 : Int32)) X84 hx rfl (hb hby at_63) rfl ?_
  refine og_caload (v := (.int c3)) X84 hx hZ e84 V_nb76 ⟨by decide, by decide⟩ rfl (hb hby at_64) rfl ?_
  refine og_staticW (pc' := 68) (cells' := 4) (slots' := 20) (W := 0) X84 hx hZ (rm_mk4 l Z a0 hw c0 c1 c2 c3 hc0 hc1 hc2 hc3 cs hcs h84 n0 O hEL S_CS) hEL hS hk CR.1 all0 hown (ow6 hw) (ow7 hw) (ow4 hw) (ow8 hw) (by decide) (by rw [hml]; rfl) e84 opd_25 [(.int 4), (.int c0), (.int c1), (.int c2), (.int c3)] [] rfl rfl rfl rfl (by decide) (by decide) rfl rfl (by decide) (by decide) (hb hby at_65) rfl (fun v85 T85 h85 L85 kk85 X85 e85 hS hk hZ hown cr85 z85 => ?_)
  obtain ⟨na85, nb85, k85, rfl, Nq85, K85, sa85, E_na85, F_value_na85, F_coder_na85, V_nb85⟩ := z85; have N := Fr.app N Nq85
  have s_na85 : h84.size ≤ na85 := sa85; have g_na85 : n0 ≤ na85 := Nat.le_trans (own_n0 O) s_na85; have sz_na85 : h0.size ≤ na85 := Nat.le_trans K.1 s_na85; have ne_nb76_na85 : nb76 ≠ na85 := Nat.ne_of_lt (Nat.lt_of_lt_of_le V_nb76.lt s_na85); have Q_na85 : Safe Z own_EL _ _ na85 := Safe.new (Z := Z) (EL := own_EL) (vm := T85.vm) s_na85
  have Q_nb76 := cr85.safe V_nb76.lt Q_nb76; have V_nb76 := V_nb76.keep K85 nin0; have O := O.keep K85 all0; have K := K.trans K85 all0; have CR := CR.trans cr85
  have V_nb85 : Arv Z h85 nb85 k85 .byte (4 : Int32) [(.int c0.toInt8.toInt32), (.int c1.toInt8.toInt32), (.int c2.toInt8.toInt32), (.int c3.toInt8.toInt32)] (.int 0) := V_nb85
  refine og_astore (L' := #[.val (.int p0), .val (.int p1), .val (.int p2), .val (.int p3), .val (.int p4), .val (.int 4), .val (.ref nb76), .val (.ref na85), .unset, .unset, .unset, .unset, .unset, .unset]) X85 hx rfl rfl (hb hby at_68) rfl ?_
  refine og_iconst (v := (-1 : Int32)) X85 hx rfl (hb hby at_70) rfl ?_
  refine og_istore (L' := #[.val (.int p0), .val (.int p1), .val (.int p2), .val (.int p3), .val (.int p4), .val (.int 4), .val (.ref nb76), .val (.ref na85), .val (.int (-1)), .unset, .unset, .unset, .unset, .unset]) X85 hx rfl (hb hby at_71) rfl ?_
  refine og_iconst (v := (0 : Int32)) X85 hx rfl (hb hby at_73) rfl ?_
  refine og_istore (L' := #[.val (.int p0), .val (.int p1), .val (.int p2), .val (.int p3), .val (.int p4), .val (.int 4), .val (.ref nb76), .val (.ref na85), .val (.int (-1)), .val (.int 0), .unset, .unset, .unset, .unset]) X85 hx rfl (hb hby at_74) rfl ?_
  refine og_iload X85 hx rfl (hb hby at_76) rfl ?_
  refine og_if_le (pc1 := 101) (pc2 := 81) X85 hx (hb hby at_78) (by decide) (by decide) rfl (fun q => absurd q (by decide)) (fun _ => ?_)
  refine og_aload X85 hx rfl rfl (hb hby at_81) rfl ?_
  refine og_iconst (v := (0 : Int32)) X85 hx rfl (hb hby at_83) rfl ?_
  refine og_caload (v := (.int c0)) X85 hx hZ e85 V_nb76 ⟨by decide, by decide⟩ rfl (hb hby at_84) rfl ?_
  refine og_bipush (v := (46 : Int32)) X85 hx rfl (hb hby at_85) rfl ?_
  refine og_icmp_ne (pc1 := 101) (pc2 := 90) X85 hx (hb hby at_87) (by decide) (by decide) rfl (fun hc87 => ?_) (fun hc87 => ?_)
  ·
   refine og_iload X85 hx rfl (hb hby at_101) rfl ?_
   refine og_iconst (v := (1 : Int32)) X85 hx rfl (hb hby at_103) rfl ?_
   refine og_icmp_le (pc1 := 127) (pc2 := 107) X85 hx (hb hby at_104) (by decide) (by decide) rfl (fun q => absurd q (by decide)) (fun _ => ?_)
   refine og_aload X85 hx rfl rfl (hb hby at_107) rfl ?_
   refine og_iconst (v := (1 : Int32)) X85 hx rfl (hb hby at_109) rfl ?_
   refine og_caload (v := (.int c1)) X85 hx hZ e85 V_nb76 ⟨by decide, by decide⟩ rfl (hb hby at_110) rfl ?_
   refine og_bipush (v := (46 : Int32)) X85 hx rfl (hb hby at_111) rfl ?_
   refine og_icmp_ne (pc1 := 127) (pc2 := 116) X85 hx (hb hby at_113) (by decide) (by decide) rfl (fun hc113 => ?_) (fun hc113 => ?_)
   ·
    refine og_iload X85 hx rfl (hb hby at_127) rfl ?_
    refine og_iconst (v := (2 : Int32)) X85 hx rfl (hb hby at_129) rfl ?_
    refine og_icmp_le (pc1 := 153) (pc2 := 133) X85 hx (hb hby at_130) (by decide) (by decide) rfl (fun q => absurd q (by decide)) (fun _ => ?_)
    refine og_aload X85 hx rfl rfl (hb hby at_133) rfl ?_
    refine og_iconst (v := (2 : Int32)) X85 hx rfl (hb hby at_135) rfl ?_
    refine og_caload (v := (.int c2)) X85 hx hZ e85 V_nb76 ⟨by decide, by decide⟩ rfl (hb hby at_136) rfl ?_
    refine og_bipush (v := (46 : Int32)) X85 hx rfl (hb hby at_137) rfl ?_
    refine og_icmp_ne (pc1 := 153) (pc2 := 142) X85 hx (hb hby at_139) (by decide) (by decide) rfl (fun hc139 => ?_) (fun hc139 => ?_)
    ·
     refine og_iload X85 hx rfl (hb hby at_153) rfl ?_
     refine og_iconst (v := (3 : Int32)) X85 hx rfl (hb hby at_155) rfl ?_
     refine og_icmp_le (pc1 := 179) (pc2 := 159) X85 hx (hb hby at_156) (by decide) (by decide) rfl (fun q => absurd q (by decide)) (fun _ => ?_)
     refine og_aload X85 hx rfl rfl (hb hby at_159) rfl ?_
     refine og_iconst (v := (3 : Int32)) X85 hx rfl (hb hby at_161) rfl ?_
     refine og_caload (v := (.int c3)) X85 hx hZ e85 V_nb76 ⟨by decide, by decide⟩ rfl (hb hby at_162) rfl ?_
     refine og_bipush (v := (46 : Int32)) X85 hx rfl (hb hby at_163) rfl ?_
     refine og_icmp_ne (pc1 := 179) (pc2 := 168) X85 hx (hb hby at_165) (by decide) (by decide) rfl (fun hc165 => ?_) (fun hc165 => ?_)
     ·
      refine og_iload X85 hx rfl (hb hby at_179) rfl ?_
      refine og_if_le (pc1 := 213) (pc2 := 184) X85 hx (hb hby at_181) (by decide) (by decide) rfl (fun q => absurd q (by decide)) (fun _ => ?_)
      refine og_iload X85 hx rfl (hb hby at_184) rfl ?_
      refine og_if_eq (pc1 := 209) (pc2 := 189) X85 hx (hb hby at_186) (by decide) (by decide) rfl (fun _ => ?_) (fun q => absurd q (by decide))
      refine og_iconst (v := (1 : Int32)) X85 hx rfl (hb hby at_209) rfl ?_
      refine og_goto (pc' := 214) X85 hx (hb hby at_210) (by decide) (by decide) ?_
      refine og_istore (L' := #[.val (.int p0), .val (.int p1), .val (.int p2), .val (.int p3), .val (.int p4), .val (.int 4), .val (.ref nb76), .val (.ref na85), .val (.int (-1)), .val (.int 0), .val (.int 1), .unset, .unset, .unset]) X85 hx rfl (hb hby at_214) rfl ?_
      refine og_iload X85 hx rfl (hb hby at_216) rfl ?_
      refine og_if_ne (pc1 := 223) (pc2 := 221) X85 hx (hb hby at_218) (by decide) (by decide) rfl (fun _ => ?_) (fun q => absurd q (by decide))
      refine og_aload X85 hx rfl rfl (hb hby at_223) rfl ?_
      refine og_staticW (pc' := 228) (cells' := 13) (slots' := 130) (W := 0) X85 hx hZ (rm_pa4_n l Z a0 hw na85 nb85 k85 (c0.toInt8.toInt32) (c1.toInt8.toInt32) (c2.toInt8.toInt32) (c3.toInt8.toInt32) (own_n46 hc0 hc87) (own_n46 hc1 hc113) (own_n46 hc2 hc139) (own_n46 hc3 hc165) cs hcs fm hfm h85 n0 O hEL E_na85 F_value_na85 F_coder_na85 V_nb85 S_CS S_FM) hEL hS hk CR.1 all0 hown (ow41 hw) (ow42 hw) (ow43 hw) (ow44 hw) (by decide) (by rw [hml]; rfl) e85 opd_26 [(.ref na85)] [] rfl rfl rfl rfl (by decide) (by decide) rfl rfl (by decide) (by decide) (hb hby at_225) rfl (fun v86 T86 h86 L86 kk86 X86 e86 hS hk hZ hown cr86 z86 => ?_)
      obtain ⟨nt86, nx86, nbx86, kx86, rfl, Nq86, K86, E_nt86, F_schema_nt86, F_name_nt86, E_nx86, F_value_nx86, F_coder_nx86, V_nbx86⟩ := z86; have N := Fr.app N Nq86
      have Q_nb76 := cr86.safe V_nb76.lt Q_nb76; have V_nb76 := V_nb76.keep K86 nin0; have E_na85 := E_na85.keep K86; have F_value_na85 := F_value_na85.keep K86 nin0; have F_coder_na85 := F_coder_na85.keep K86 nin0; have V_nb85 := V_nb85.keep K86 nin0
      have O := O.keep K86 all0; have K := K.trans K86 all0; have CR := CR.trans cr86
      refine og_astore (L' := #[.val (.int p0), .val (.int p1), .val (.int p2), .val (.int p3), .val (.int p4), .val (.int 4), .val (.ref nb76), .val (.ref na85), .val (.int (-1)), .val (.int 0), .val (.int 1), .val (.ref nt86), .unset, .unset]) X86 hx rfl rfl (hb hby at_228) rfl ?_
      refine og_iload X86 hx rfl (hb hby at_230) rfl ?_
      refine og_if_ne (pc1 := 267) (pc2 := 235) X86 hx (hb hby at_232) (by decide) (by decide) rfl (fun q => absurd q (by decide)) (fun _ => ?_)
      refine og_aload X86 hx rfl rfl (hb hby at_235) rfl ?_
      refine og_virtual (pc' := 240) (cells' := 13) (slots' := 130) (W := 0) X86 hx hZ (rm_gschema l Z a0 hw nt86 nx86 h86 n0 O F_schema_nt86) hown (ow116 hw) (ow117 hw) (own_nf hZ (ow119 hw)) (ow119 hw) (ow118 hw) (ow43 hw) (ow120 hw) (by decide) (by rw [hml]; rfl) e86 opd_27 [] [] rfl rfl rfl rfl (by decide) (by decide) rfl rfl (by decide) (by decide) E_nt86 (hb hby at_237) rfl (fun v87 T87 h87 L87 X87 e87 z87 => ?_)
      obtain ⟨rfl, Nq87, hq87⟩ := z87; replace e87 := e87.trans hq87; have N := Fr.app N Nq87
      refine og_ldcS (pc' := 242) (cells' := 15) (slots' := 158) (n := 24) (z := (6 : Int32)) (vs := [(.int 112), (.int 117), (.int 98), (.int 108), (.int 105), (.int 99)]) X87 hx hZ hown (hw _ (List.mem_of_getElem? (i := 121) rfl)) (own_wS hw) e87 hS hk hEL (by decide) CR.1 ⟨by decide, by decide⟩ (by decide) (by decide) (by decide) (by decide) (hb hby at_240) rfl rfl rfl (by decide) (by decide) (fun na88 T88 h88 kk88 nb88 k88 X88 e88 E88 hS hk hZ hown E_na88 F_coder_na88 F_value_na88 V_nb88 cr88 hne88 => ?_)
      have Q_nb76 := cr88.safe V_nb76.lt Q_nb76; have V_nb76 := V_nb76.ext E88; have E_na85 := E_na85.ext E88; have F_value_na85 := F_value_na85.ext E88; have F_coder_na85 := F_coder_na85.ext E88; have V_nb85 := V_nb85.ext E88
      have E_nt86 := E_nt86.ext E88; have F_schema_nt86 := F_schema_nt86.ext E88; have F_name_nt86 := F_name_nt86.ext E88; have E_nx86 := E_nx86.ext E88; have F_value_nx86 := F_value_nx86.ext E88; have F_coder_nx86 := F_coder_nx86.ext E88
      have V_nbx86 := V_nbx86.ext E88; have O := O.ext E88; have K := K.ext E88; have CR := CR.trans cr88
      have ne_nb76_na88 := (hne88 _ Q_nb76).1; have ne_nb76_nb88 := (hne88 _ Q_nb76).2
      refine og_virtual (pc' := 245) (cells' := 15) (slots' := 158) (W := 0) X88 hx hZ (rm_eqG l Z a0 hw nx86 na88 nbx86 nb88 kx86 k88 [(112 : Int32), (117 : Int32), (98 : Int32), (108 : Int32), (105 : Int32), (99 : Int32)] [(112 : Int32), (117 : Int32), (98 : Int32), (108 : Int32), (105 : Int32), (99 : Int32)] (6 : Int32) (6 : Int32) (by rfl) (by rfl) (by decide) (by decide) 1 (if_pos rfl).symm cs hcs h88 n0 O E_nx86 F_value_nx86 F_coder_nx86 V_nbx86 E_na88 F_value_na88 F_coder_na88 V_nb88 S_CS) hown (ow122 hw) (ow123 hw) (own_nf hZ (ow125 hw)) (ow125 hw) (ow124 hw) (ow11 hw) (ow126 hw) (by decide) (by rw [hml]; rfl) e88 opd_28 [(.ref na88)] [] rfl rfl rfl rfl (by decide) (by decide) rfl rfl (by decide) (by decide) E_nx86 (hb hby at_242) rfl (fun v89 T89 h89 L89 X89 e89 z89 => ?_)
      obtain ⟨rfl, Nq89, hq89⟩ := z89; replace e89 := e89.trans hq89; have N := Fr.app N Nq89
      refine og_if_eq (pc1 := 265) (pc2 := 248) X89 hx (hb hby at_245) (by decide) (by decide) rfl (fun q => absurd q (by decide)) (fun _ => ?_)
      refine og_aload X89 hx rfl rfl (hb hby at_248) rfl ?_
      refine og_virtual (pc' := 253) (cells' := 15) (slots' := 158) (W := 0) X89 hx hZ (rm_gname l Z a0 hw nt86 na85 h88 n0 O F_name_nt86) hown (ow127 hw) (ow128 hw) (own_nf hZ (ow130 hw)) (ow130 hw) (ow129 hw) (ow43 hw) (ow131 hw) (by decide) (by rw [hml]; rfl) e89 opd_27 [] [] rfl rfl rfl rfl (by decide) (by decide) rfl rfl (by decide) (by decide) E_nt86 (hb hby at_250) rfl (fun v90 T90 h90 L90 X90 e90 z90 => ?_)
      obtain ⟨rfl, Nq90, hq90⟩ := z90; replace e90 := e90.trans hq90; have N := Fr.app N Nq90
      refine og_aload X90 hx rfl rfl (hb hby at_253) rfl ?_
      refine og_virtual (pc' := 258) (cells' := 15) (slots' := 158) (W := 0) X90 hx hZ (rm_eqG l Z a0 hw na85 na85 nb85 nb85 k85 k85 [c0.toInt8.toInt32, c1.toInt8.toInt32, c2.toInt8.toInt32, c3.toInt8.toInt32] [c0.toInt8.toInt32, c1.toInt8.toInt32, c2.toInt8.toInt32, c3.toInt8.toInt32] (4 : Int32) (4 : Int32) (by rfl) (by rfl) (by decide) (by decide) 1 (if_pos rfl).symm cs hcs h88 n0 O E_na85 F_value_na85 F_coder_na85 V_nb85 E_na85 F_value_na85 F_coder_na85 V_nb85 S_CS) hown (ow122 hw) (ow123 hw) (own_nf hZ (ow125 hw)) (ow125 hw) (ow124 hw) (ow11 hw) (ow126 hw) (by decide) (by rw [hml]; rfl) e90 opd_28 [(.ref na85)] [] rfl rfl rfl rfl (by decide) (by decide) rfl rfl (by decide) (by decide) E_na85 (hb hby at_255) rfl (fun v91 T91 h91 L91 X91 e91 z91 => ?_)
      obtain ⟨rfl, Nq91, hq91⟩ := z91; replace e91 := e91.trans hq91; have N := Fr.app N Nq91
      refine og_if_eq (pc1 := 265) (pc2 := 261) X91 hx (hb hby at_258) (by decide) (by decide) rfl (fun q => absurd q (by decide)) (fun _ => ?_)
      refine og_iconst (v := (1 : Int32)) X91 hx rfl (hb hby at_261) rfl ?_
      refine og_goto (pc' := 266) X91 hx (hb hby at_262) (by decide) (by decide) ?_
      refine og_retNW X91 hx hZ hlk hEL hS e91 es hk CR hret (by simp) (hb hby at_266) (by decide) (by decide) ?_
      exact ⟨rfl, N⟩
     ·
      subst hc165
      have V_nb85 : Arv Z h85 nb85 k85 .byte (4 : Int32) [(.int c0.toInt8.toInt32), (.int c1.toInt8.toInt32), (.int c2.toInt8.toInt32), (.int 46)] (.int 0) := V_nb85
      refine og_iinc (L' := #[.val (.int p0), .val (.int p1), .val (.int p2), .val (.int p3), .val (.int p4), .val (.int 4), .val (.ref nb76), .val (.ref na85), .val (.int (-1)), .val (.int 1), .unset, .unset, .unset, .unset]) (w := (1 : Int32)) X85 hx rfl rfl rfl (hb hby at_168) rfl ?_
      refine og_iload X85 hx rfl (hb hby at_171) rfl ?_
      refine og_if_ge (pc1 := 179) (pc2 := 176) X85 hx (hb hby at_173) (by decide) (by decide) rfl (fun q => absurd q (by decide)) (fun _ => ?_)
      refine og_iconst (v := (3 : Int32)) X85 hx rfl (hb hby at_176) rfl ?_
      refine og_istore (L' := #[.val (.int p0), .val (.int p1), .val (.int p2), .val (.int p3), .val (.int p4), .val (.int 4), .val (.ref nb76), .val (.ref na85), .val (.int 3), .val (.int 1), .unset, .unset, .unset, .unset]) X85 hx rfl (hb hby at_177) rfl ?_
      refine og_iload X85 hx rfl (hb hby at_179) rfl ?_
      refine og_if_le (pc1 := 213) (pc2 := 184) X85 hx (hb hby at_181) (by decide) (by decide) rfl (fun q => absurd q (by decide)) (fun _ => ?_)
      refine og_iload X85 hx rfl (hb hby at_184) rfl ?_
      refine og_if_eq (pc1 := 209) (pc2 := 189) X85 hx (hb hby at_186) (by decide) (by decide) rfl (fun q => absurd q (by decide)) (fun _ => ?_)
      refine og_iload X85 hx rfl (hb hby at_189) rfl ?_
      refine og_iconst (v := (1 : Int32)) X85 hx rfl (hb hby at_191) rfl ?_
      refine og_icmp_ne (pc1 := 213) (pc2 := 195) X85 hx (hb hby at_192) (by decide) (by decide) rfl (fun q => absurd q (by decide)) (fun _ => ?_)
      refine og_iload X85 hx rfl (hb hby at_195) rfl ?_
      refine og_if_eq (pc1 := 213) (pc2 := 200) X85 hx (hb hby at_197) (by decide) (by decide) rfl (fun q => absurd q (by decide)) (fun _ => ?_)
      refine og_iload X85 hx rfl (hb hby at_200) rfl ?_
      refine og_iload X85 hx rfl (hb hby at_202) rfl ?_
      refine og_iconst (v := (1 : Int32)) X85 hx rfl (hb hby at_204) rfl ?_
      refine og_isub X85 hx (hb hby at_205) rfl ?_
      show OG p e below _ (T85.setTop (mkF m 206 #[.val (.int p0), .val (.int p1), .val (.int p2), .val (.int p3), .val (.int p4), .val (.int 4), .val (.ref nb76), .val (.ref na85), .val (.int 3), .val (.int 1), .unset, .unset, .unset, .unset] [(.int 3), (.int 3)]))
      refine og_icmp_eq (pc1 := 213) (pc2 := 209) X85 hx (hb hby at_206) (by decide) (by decide) rfl (fun _ => ?_) (fun q => absurd q (by decide))
      refine og_iconst (v := (0 : Int32)) X85 hx rfl (hb hby at_213) rfl ?_
      refine og_istore (L' := #[.val (.int p0), .val (.int p1), .val (.int p2), .val (.int p3), .val (.int p4), .val (.int 4), .val (.ref nb76), .val (.ref na85), .val (.int 3), .val (.int 1), .val (.int 0), .unset, .unset, .unset]) X85 hx rfl (hb hby at_214) rfl ?_
      refine og_iload X85 hx rfl (hb hby at_216) rfl ?_
      refine og_if_ne (pc1 := 223) (pc2 := 221) X85 hx (hb hby at_218) (by decide) (by decide) rfl (fun q => absurd q (by decide)) (fun _ => ?_)
      refine og_iconst (v := (1 : Int32)) X85 hx rfl (hb hby at_221) rfl ?_
      refine og_retNW X85 hx hZ hlk hEL hS e85 es hk CR hret (by simp) (hb hby at_222) (by decide) (by decide) ?_
      exact ⟨rfl, N⟩
    ·
     subst hc139
     have V_nb85 : Arv Z h85 nb85 k85 .byte (4 : Int32) [(.int c0.toInt8.toInt32), (.int c1.toInt8.toInt32), (.int 46), (.int c3.toInt8.toInt32)] (.int 0) := V_nb85
     refine og_iinc (L' := #[.val (.int p0), .val (.int p1), .val (.int p2), .val (.int p3), .val (.int p4), .val (.int 4), .val (.ref nb76), .val (.ref na85), .val (.int (-1)), .val (.int 1), .unset, .unset, .unset, .unset]) (w := (1 : Int32)) X85 hx rfl rfl rfl (hb hby at_142) rfl ?_
     refine og_iload X85 hx rfl (hb hby at_145) rfl ?_
     refine og_if_ge (pc1 := 153) (pc2 := 150) X85 hx (hb hby at_147) (by decide) (by decide) rfl (fun q => absurd q (by decide)) (fun _ => ?_)
     refine og_iconst (v := (2 : Int32)) X85 hx rfl (hb hby at_150) rfl ?_
     refine og_istore (L' := #[.val (.int p0), .val (.int p1), .val (.int p2), .val (.int p3), .val (.int p4), .val (.int 4), .val (.ref nb76), .val (.ref na85), .val (.int 2), .val (.int 1), .unset, .unset, .unset, .unset]) X85 hx rfl (hb hby at_151) rfl ?_
     refine og_iload X85 hx rfl (hb hby at_153) rfl ?_
     refine og_iconst (v := (3 : Int32)) X85 hx rfl (hb hby at_155) rfl ?_
     refine og_icmp_le (pc1 := 179) (pc2 := 159) X85 hx (hb hby at_156) (by decide) (by decide) rfl (fun q => absurd q (by decide)) (fun _ => ?_)
     refine og_aload X85 hx rfl rfl (hb hby at_159) rfl ?_
     refine og_iconst (v := (3 : Int32)) X85 hx rfl (hb hby at_161) rfl ?_
     refine og_caload (v := (.int c3)) X85 hx hZ e85 V_nb76 ⟨by decide, by decide⟩ rfl (hb hby at_162) rfl ?_
     refine og_bipush (v := (46 : Int32)) X85 hx rfl (hb hby at_163) rfl ?_
     refine og_icmp_ne (pc1 := 179) (pc2 := 168) X85 hx (hb hby at_165) (by decide) (by decide) rfl (fun hc165 => ?_) (fun hc165 => ?_)
     ·
      refine og_iload X85 hx rfl (hb hby at_179) rfl ?_
      refine og_if_le (pc1 := 213) (pc2 := 184) X85 hx (hb hby at_181) (by decide) (by decide) rfl (fun q => absurd q (by decide)) (fun _ => ?_)
      refine og_iload X85 hx rfl (hb hby at_184) rfl ?_
      refine og_if_eq (pc1 := 209) (pc2 := 189) X85 hx (hb hby at_186) (by decide) (by decide) rfl (fun q => absurd q (by decide)) (fun _ => ?_)
      refine og_iload X85 hx rfl (hb hby at_189) rfl ?_
      refine og_iconst (v := (1 : Int32)) X85 hx rfl (hb hby at_191) rfl ?_
      refine og_icmp_ne (pc1 := 213) (pc2 := 195) X85 hx (hb hby at_192) (by decide) (by decide) rfl (fun q => absurd q (by decide)) (fun _ => ?_)
      refine og_iload X85 hx rfl (hb hby at_195) rfl ?_
      refine og_if_eq (pc1 := 213) (pc2 := 200) X85 hx (hb hby at_197) (by decide) (by decide) rfl (fun q => absurd q (by decide)) (fun _ => ?_)
      refine og_iload X85 hx rfl (hb hby at_200) rfl ?_
      refine og_iload X85 hx rfl (hb hby at_202) rfl ?_
      refine og_iconst (v := (1 : Int32)) X85 hx rfl (hb hby at_204) rfl ?_
      refine og_isub X85 hx (hb hby at_205) rfl ?_
      show OG p e below _ (T85.setTop (mkF m 206 #[.val (.int p0), .val (.int p1), .val (.int p2), .val (.int p3), .val (.int p4), .val (.int 4), .val (.ref nb76), .val (.ref na85), .val (.int 2), .val (.int 1), .unset, .unset, .unset, .unset] [(.int 3), (.int 2)]))
      refine og_icmp_eq (pc1 := 213) (pc2 := 209) X85 hx (hb hby at_206) (by decide) (by decide) rfl (fun q => absurd q (by decide)) (fun _ => ?_)
      refine og_iconst (v := (1 : Int32)) X85 hx rfl (hb hby at_209) rfl ?_
      refine og_goto (pc' := 214) X85 hx (hb hby at_210) (by decide) (by decide) ?_
      refine og_istore (L' := #[.val (.int p0), .val (.int p1), .val (.int p2), .val (.int p3), .val (.int p4), .val (.int 4), .val (.ref nb76), .val (.ref na85), .val (.int 2), .val (.int 1), .val (.int 1), .unset, .unset, .unset]) X85 hx rfl (hb hby at_214) rfl ?_
      refine og_iload X85 hx rfl (hb hby at_216) rfl ?_
      refine og_if_ne (pc1 := 223) (pc2 := 221) X85 hx (hb hby at_218) (by decide) (by decide) rfl (fun _ => ?_) (fun q => absurd q (by decide))
      refine og_aload X85 hx rfl rfl (hb hby at_223) rfl ?_
      refine og_staticW (pc' := 228) (cells' := 15) (slots' := 113) (W := 0) X85 hx hZ (rm_pa4_2 l Z a0 hw na85 nb85 k85 (c0.toInt8.toInt32) (c1.toInt8.toInt32) (c3.toInt8.toInt32) (own_n46 hc0 hc87) (own_n46 hc1 hc113) (own_n46 hc3 hc165) cs hcs fm hfm h85 n0 O hEL E_na85 F_value_na85 F_coder_na85 V_nb85 S_CS S_FM) hEL hS hk CR.1 all0 hown (ow41 hw) (ow42 hw) (ow43 hw) (ow44 hw) (by decide) (by rw [hml]; rfl) e85 opd_26 [(.ref na85)] [] rfl rfl rfl rfl (by decide) (by decide) rfl rfl (by decide) (by decide) (hb hby at_225) rfl (fun v92 T92 h92 L92 kk92 X92 e92 hS hk hZ hown cr92 z92 => ?_)
      obtain ⟨nt92, nx92, ny92, nbx92, nby92, kx92, ky92, rfl, Nq92, K92, E_nt92, F_schema_nt92, F_name_nt92, E_nx92, F_value_nx92, F_coder_nx92, V_nbx92, E_ny92, F_value_ny92, F_coder_ny92, V_nby92⟩ := z92; have N := Fr.app N Nq92
      have Q_nb76 := cr92.safe V_nb76.lt Q_nb76; have V_nb76 := V_nb76.keep K92 nin0; have E_na85 := E_na85.keep K92; have F_value_na85 := F_value_na85.keep K92 nin0; have F_coder_na85 := F_coder_na85.keep K92 nin0; have V_nb85 := V_nb85.keep K92 nin0
      have O := O.keep K92 all0; have K := K.trans K92 all0; have CR := CR.trans cr92
      refine og_astore (L' := #[.val (.int p0), .val (.int p1), .val (.int p2), .val (.int p3), .val (.int p4), .val (.int 4), .val (.ref nb76), .val (.ref na85), .val (.int 2), .val (.int 1), .val (.int 1), .val (.ref nt92), .unset, .unset]) X92 hx rfl rfl (hb hby at_228) rfl ?_
      refine og_iload X92 hx rfl (hb hby at_230) rfl ?_
      refine og_if_ne (pc1 := 267) (pc2 := 235) X92 hx (hb hby at_232) (by decide) (by decide) rfl (fun _ => ?_) (fun q => absurd q (by decide))
      refine og_iload X92 hx rfl (hb hby at_267) rfl ?_
      refine og_aload X92 hx rfl rfl (hb hby at_269) rfl ?_
      refine og_iconst (v := (0 : Int32)) X92 hx rfl (hb hby at_271) rfl ?_
      refine og_caload (v := (.int c0)) X92 hx hZ e92 V_nb76 ⟨by decide, by decide⟩ rfl (hb hby at_272) rfl ?_
      refine og_aload X92 hx rfl rfl (hb hby at_273) rfl ?_
      refine og_iconst (v := (1 : Int32)) X92 hx rfl (hb hby at_275) rfl ?_
      refine og_caload (v := (.int c1)) X92 hx hZ e92 V_nb76 ⟨by decide, by decide⟩ rfl (hb hby at_276) rfl ?_
      refine og_aload X92 hx rfl rfl (hb hby at_277) rfl ?_
      refine og_iconst (v := (2 : Int32)) X92 hx rfl (hb hby at_279) rfl ?_
      refine og_caload (v := (.int 46)) X92 hx hZ e92 V_nb76 ⟨by decide, by decide⟩ rfl (hb hby at_280) rfl ?_
      refine og_aload X92 hx rfl rfl (hb hby at_281) rfl ?_
      refine og_iconst (v := (3 : Int32)) X92 hx rfl (hb hby at_283) rfl ?_
      refine og_caload (v := (.int c3)) X92 hx hZ e92 V_nb76 ⟨by decide, by decide⟩ rfl (hb hby at_284) rfl ?_
      refine og_staticW (pc' := 288) (cells' := 18) (slots' := 121) (W := 0) X92 hx hZ (rm_mk2 l Z a0 hw c0 c1 (46 : Int32) c3 hc0 hc1 ⟨by decide, by decide⟩ hc3 cs hcs h92 n0 O hEL S_CS) hEL hS hk CR.1 all0 hown (ow6 hw) (ow7 hw) (ow4 hw) (ow8 hw) (by decide) (by rw [hml]; rfl) e92 opd_25 [(.int 2), (.int c0), (.int c1), (.int 46), (.int c3)] [] rfl rfl rfl rfl (by decide) (by decide) rfl rfl (by decide) (by decide) (hb hby at_285) rfl (fun v93 T93 h93 L93 kk93 X93 e93 hS hk hZ hown cr93 z93 => ?_)
      obtain ⟨na93, nb93, k93, rfl, Nq93, K93, sa93, E_na93, F_value_na93, F_coder_na93, V_nb93⟩ := z93; have N := Fr.app N Nq93
      have s_na93 : h92.size ≤ na93 := sa93; have g_na93 : n0 ≤ na93 := Nat.le_trans (own_n0 O) s_na93; have sz_na93 : h0.size ≤ na93 := Nat.le_trans K.1 s_na93; have ne_nb76_na93 : nb76 ≠ na93 := Nat.ne_of_lt (Nat.lt_of_lt_of_le V_nb76.lt s_na93); have ne_na85_na93 : na85 ≠ na93 := Nat.ne_of_lt (Nat.lt_of_lt_of_le E_na85.lt s_na93); have ne_nb85_na93 : nb85 ≠ na93 := Nat.ne_of_lt (Nat.lt_of_lt_of_le V_nb85.lt s_na93)
      have ne_nt92_na93 : nt92 ≠ na93 := Nat.ne_of_lt (Nat.lt_of_lt_of_le E_nt92.lt s_na93); have ne_nx92_na93 : nx92 ≠ na93 := Nat.ne_of_lt (Nat.lt_of_lt_of_le E_nx92.lt s_na93); have ne_nbx92_na93 : nbx92 ≠ na93 := Nat.ne_of_lt (Nat.lt_of_lt_of_le V_nbx92.lt s_na93); have ne_ny92_na93 : ny92 ≠ na93 := Nat.ne_of_lt (Nat.lt_of_lt_of_le E_ny92.lt s_na93); have ne_nby92_na93 : nby92 ≠ na93 := Nat.ne_of_lt (Nat.lt_of_lt_of_le V_nby92.lt s_na93); have Q_na93 : Safe Z own_EL _ _ na93 := Safe.new (Z := Z) (EL := own_EL) (vm := T93.vm) s_na93
      have Q_nb76 := cr93.safe V_nb76.lt Q_nb76; have V_nb76 := V_nb76.keep K93 nin0; have E_na85 := E_na85.keep K93; have F_value_na85 := F_value_na85.keep K93 nin0; have F_coder_na85 := F_coder_na85.keep K93 nin0; have V_nb85 := V_nb85.keep K93 nin0
      have E_nt92 := E_nt92.keep K93; have F_schema_nt92 := F_schema_nt92.keep K93 nin0; have F_name_nt92 := F_name_nt92.keep K93 nin0; have E_nx92 := E_nx92.keep K93; have F_value_nx92 := F_value_nx92.keep K93 nin0; have F_coder_nx92 := F_coder_nx92.keep K93 nin0
      have V_nbx92 := V_nbx92.keep K93 nin0; have E_ny92 := E_ny92.keep K93; have F_value_ny92 := F_value_ny92.keep K93 nin0; have F_coder_ny92 := F_coder_ny92.keep K93 nin0; have V_nby92 := V_nby92.keep K93 nin0; have O := O.keep K93 all0
      have K := K.trans K93 all0; have CR := CR.trans cr93
      have V_nb93 : Arv Z h93 nb93 k93 .byte (2 : Int32) [(.int c0.toInt8.toInt32), (.int c1.toInt8.toInt32)] (.int 0) := V_nb93
      refine og_astore (L' := #[.val (.int p0), .val (.int p1), .val (.int p2), .val (.int p3), .val (.int p4), .val (.int 4), .val (.ref nb76), .val (.ref na85), .val (.int 2), .val (.int 1), .val (.int 1), .val (.ref nt92), .val (.ref na93), .unset]) X93 hx rfl rfl (hb hby at_288) rfl ?_
      refine og_iload X93 hx rfl (hb hby at_290) rfl ?_
      refine og_iload X93 hx rfl (hb hby at_292) rfl ?_
      refine og_isub X93 hx (hb hby at_294) rfl ?_
      show OG p e below _ (T93.setTop (mkF m 295 #[.val (.int p0), .val (.int p1), .val (.int p2), .val (.int p3), .val (.int p4), .val (.int 4), .val (.ref nb76), .val (.ref na85), .val (.int 2), .val (.int 1), .val (.int 1), .val (.ref nt92), .val (.ref na93), .unset] [(.int 2)]))
      refine og_iconst (v := (1 : Int32)) X93 hx rfl (hb hby at_295) rfl ?_
      refine og_isub X93 hx (hb hby at_296) rfl ?_
      show OG p e below _ (T93.setTop (mkF m 297 #[.val (.int p0), .val (.int p1), .val (.int p2), .val (.int p3), .val (.int p4), .val (.int 4), .val (.ref nb76), .val (.ref na85), .val (.int 2), .val (.int 1), .val (.int 1), .val (.ref nt92), .val (.ref na93), .unset] [(.int 1)]))
      refine og_aload X93 hx rfl rfl (hb hby at_297) rfl ?_
      refine og_iload X93 hx rfl (hb hby at_299) rfl ?_
      refine og_iconst (v := (1 : Int32)) X93 hx rfl (hb hby at_301) rfl ?_
      refine og_iadd X93 hx (hb hby at_302) rfl ?_
      show OG p e below _ (T93.setTop (mkF m 303 #[.val (.int p0), .val (.int p1), .val (.int p2), .val (.int p3), .val (.int p4), .val (.int 4), .val (.ref nb76), .val (.ref na85), .val (.int 2), .val (.int 1), .val (.int 1), .val (.ref nt92), .val (.ref na93), .unset] [(.int 3), (.ref nb76), (.int 1)]))
      refine og_caload (v := (.int c3)) X93 hx hZ e93 V_nb76 ⟨by decide, by decide⟩ rfl (hb hby at_303) rfl ?_
      refine og_aload X93 hx rfl rfl (hb hby at_304) rfl ?_
      refine og_iload X93 hx rfl (hb hby at_306) rfl ?_
      refine og_iconst (v := (2 : Int32)) X93 hx rfl (hb hby at_308) rfl ?_
      refine og_iadd X93 hx (hb hby at_309) rfl ?_
      show OG p e below _ (T93.setTop (mkF m 310 #[.val (.int p0), .val (.int p1), .val (.int p2), .val (.int p3), .val (.int p4), .val (.int 4), .val (.ref nb76), .val (.ref na85), .val (.int 2), .val (.int 1), .val (.int 1), .val (.ref nt92), .val (.ref na93), .unset] [(.int 4), (.ref nb76), (.int c3), (.int 1)]))
      refine og_caload (v := (.int 0)) X93 hx hZ e93 V_nb76 ⟨by decide, by decide⟩ rfl (hb hby at_310) rfl ?_
      refine og_aload X93 hx rfl rfl (hb hby at_311) rfl ?_
      refine og_iload X93 hx rfl (hb hby at_313) rfl ?_
      refine og_iconst (v := (3 : Int32)) X93 hx rfl (hb hby at_315) rfl ?_
      refine og_iadd X93 hx (hb hby at_316) rfl ?_
      show OG p e below _ (T93.setTop (mkF m 317 #[.val (.int p0), .val (.int p1), .val (.int p2), .val (.int p3), .val (.int p4), .val (.int 4), .val (.ref nb76), .val (.ref na85), .val (.int 2), .val (.int 1), .val (.int 1), .val (.ref nt92), .val (.ref na93), .unset] [(.int 5), (.ref nb76), (.int 0), (.int c3), (.int 1)]))
      refine og_caload (v := (.int 0)) X93 hx hZ e93 V_nb76 ⟨by decide, by decide⟩ rfl (hb hby at_317) rfl ?_
      refine og_aload X93 hx rfl rfl (hb hby at_318) rfl ?_
      refine og_iload X93 hx rfl (hb hby at_320) rfl ?_
      refine og_iconst (v := (4 : Int32)) X93 hx rfl (hb hby at_322) rfl ?_
      refine og_iadd X93 hx (hb hby at_323) rfl ?_
      show OG p e below _ (T93.setTop (mkF m 324 #[.val (.int p0), .val (.int p1), .val (.int p2), .val (.int p3), .val (.int p4), .val (.int 4), .val (.ref nb76), .val (.ref na85), .val (.int 2), .val (.int 1), .val (.int 1), .val (.ref nt92), .val (.ref na93), .unset] [(.int 6), (.ref nb76), (.int 0), (.int 0), (.int c3), (.int 1)]))
      refine og_caload (v := (.int 0)) X93 hx hZ e93 V_nb76 ⟨by decide, by decide⟩ rfl (hb hby at_324) rfl ?_
      refine og_staticW (pc' := 328) (cells' := 21) (slots' := 127) (W := 0) X93 hx hZ (rm_mk1 l Z a0 hw c3 (0 : Int32) (0 : Int32) (0 : Int32) hc3 ⟨by decide, by decide⟩ ⟨by decide, by decide⟩ ⟨by decide, by decide⟩ cs hcs h93 n0 O hEL S_CS) hEL hS hk CR.1 all0 hown (ow6 hw) (ow7 hw) (ow4 hw) (ow8 hw) (by decide) (by rw [hml]; rfl) e93 opd_25 [(.int 1), (.int c3), (.int 0), (.int 0), (.int 0)] [] rfl rfl rfl rfl (by decide) (by decide) rfl rfl (by decide) (by decide) (hb hby at_325) rfl (fun v94 T94 h94 L94 kk94 X94 e94 hS hk hZ hown cr94 z94 => ?_)
      obtain ⟨na94, nb94, k94, rfl, Nq94, K94, sa94, E_na94, F_value_na94, F_coder_na94, V_nb94⟩ := z94; have N := Fr.app N Nq94
      have s_na94 : h93.size ≤ na94 := sa94; have g_na94 : n0 ≤ na94 := Nat.le_trans (own_n0 O) s_na94; have sz_na94 : h0.size ≤ na94 := Nat.le_trans K.1 s_na94; have ne_nb76_na94 : nb76 ≠ na94 := Nat.ne_of_lt (Nat.lt_of_lt_of_le V_nb76.lt s_na94); have ne_na85_na94 : na85 ≠ na94 := Nat.ne_of_lt (Nat.lt_of_lt_of_le E_na85.lt s_na94); have ne_nb85_na94 : nb85 ≠ na94 := Nat.ne_of_lt (Nat.lt_of_lt_of_le V_nb85.lt s_na94)
      have ne_nt92_na94 : nt92 ≠ na94 := Nat.ne_of_lt (Nat.lt_of_lt_of_le E_nt92.lt s_na94); have ne_nx92_na94 : nx92 ≠ na94 := Nat.ne_of_lt (Nat.lt_of_lt_of_le E_nx92.lt s_na94); have ne_nbx92_na94 : nbx92 ≠ na94 := Nat.ne_of_lt (Nat.lt_of_lt_of_le V_nbx92.lt s_na94); have ne_ny92_na94 : ny92 ≠ na94 := Nat.ne_of_lt (Nat.lt_of_lt_of_le E_ny92.lt s_na94); have ne_nby92_na94 : nby92 ≠ na94 := Nat.ne_of_lt (Nat.lt_of_lt_of_le V_nby92.lt s_na94); have ne_na93_na94 : na93 ≠ na94 := Nat.ne_of_lt (Nat.lt_of_lt_of_le E_na93.lt s_na94)
      have ne_nb93_na94 : nb93 ≠ na94 := Nat.ne_of_lt (Nat.lt_of_lt_of_le V_nb93.lt s_na94); have Q_na94 : Safe Z own_EL _ _ na94 := Safe.new (Z := Z) (EL := own_EL) (vm := T94.vm) s_na94
      have Q_nb76 := cr94.safe V_nb76.lt Q_nb76; have V_nb76 := V_nb76.keep K94 nin0; have E_na85 := E_na85.keep K94; have F_value_na85 := F_value_na85.keep K94 nin0; have F_coder_na85 := F_coder_na85.keep K94 nin0; have V_nb85 := V_nb85.keep K94 nin0
      have E_nt92 := E_nt92.keep K94; have F_schema_nt92 := F_schema_nt92.keep K94 nin0; have F_name_nt92 := F_name_nt92.keep K94 nin0; have E_nx92 := E_nx92.keep K94; have F_value_nx92 := F_value_nx92.keep K94 nin0; have F_coder_nx92 := F_coder_nx92.keep K94 nin0
      have V_nbx92 := V_nbx92.keep K94 nin0; have E_ny92 := E_ny92.keep K94; have F_value_ny92 := F_value_ny92.keep K94 nin0; have F_coder_ny92 := F_coder_ny92.keep K94 nin0; have V_nby92 := V_nby92.keep K94 nin0; have E_na93 := E_na93.keep K94
      have F_value_na93 := F_value_na93.keep K94 nin0; have F_coder_na93 := F_coder_na93.keep K94 nin0; have V_nb93 := V_nb93.keep K94 nin0; have O := O.keep K94 all0; have K := K.trans K94 all0; have CR := CR.trans cr94
      have V_nb94 : Arv Z h94 nb94 k94 .byte (1 : Int32) [(.int c3.toInt8.toInt32)] (.int 0) := V_nb94
      refine og_astore (L' := #[.val (.int p0), .val (.int p1), .val (.int p2), .val (.int p3), .val (.int p4), .val (.int 4), .val (.ref nb76), .val (.ref na85), .val (.int 2), .val (.int 1), .val (.int 1), .val (.ref nt92), .val (.ref na93), .val (.ref na94)]) X94 hx rfl rfl (hb hby at_328) rfl ?_
      refine og_aload X94 hx rfl rfl (hb hby at_330) rfl ?_
      refine og_virtual (pc' := 335) (cells' := 21) (slots' := 127) (W := 0) X94 hx hZ (rm_gschema l Z a0 hw nt92 nx92 h94 n0 O F_schema_nt92) hown (ow116 hw) (ow117 hw) (own_nf hZ (ow119 hw)) (ow119 hw) (ow118 hw) (ow43 hw) (ow120 hw) (by decide) (by rw [hml]; rfl) e94 opd_27 [] [] rfl rfl rfl rfl (by decide) (by decide) rfl rfl (by decide) (by decide) E_nt92 (hb hby at_332) rfl (fun v95 T95 h95 L95 X95 e95 z95 => ?_)
      obtain ⟨rfl, Nq95, hq95⟩ := z95; replace e95 := e95.trans hq95; have N := Fr.app N Nq95
      refine og_aload X95 hx rfl rfl (hb hby at_335) rfl ?_
      refine og_virtual (pc' := 340) (cells' := 21) (slots' := 127) (W := 0) X95 hx hZ (rm_eqG l Z a0 hw nx92 na93 nbx92 nb93 kx92 k93 [c0.toInt8.toInt32, c1.toInt8.toInt32] [c0.toInt8.toInt32, c1.toInt8.toInt32] (2 : Int32) (2 : Int32) (by rfl) (by rfl) (by decide) (by decide) 1 (if_pos rfl).symm cs hcs h94 n0 O E_nx92 F_value_nx92 F_coder_nx92 V_nbx92 E_na93 F_value_na93 F_coder_na93 V_nb93 S_CS) hown (ow122 hw) (ow123 hw) (own_nf hZ (ow125 hw)) (ow125 hw) (ow124 hw) (ow11 hw) (ow126 hw) (by decide) (by rw [hml]; rfl) e95 opd_28 [(.ref na93)] [] rfl rfl rfl rfl (by decide) (by decide) rfl rfl (by decide) (by decide) E_nx92 (hb hby at_337) rfl (fun v96 T96 h96 L96 X96 e96 z96 => ?_)
      obtain ⟨rfl, Nq96, hq96⟩ := z96; replace e96 := e96.trans hq96; have N := Fr.app N Nq96
      refine og_if_eq (pc1 := 360) (pc2 := 343) X96 hx (hb hby at_340) (by decide) (by decide) rfl (fun q => absurd q (by decide)) (fun _ => ?_)
      refine og_aload X96 hx rfl rfl (hb hby at_343) rfl ?_
      refine og_virtual (pc' := 348) (cells' := 21) (slots' := 127) (W := 0) X96 hx hZ (rm_gname l Z a0 hw nt92 ny92 h94 n0 O F_name_nt92) hown (ow127 hw) (ow128 hw) (own_nf hZ (ow130 hw)) (ow130 hw) (ow129 hw) (ow43 hw) (ow131 hw) (by decide) (by rw [hml]; rfl) e96 opd_27 [] [] rfl rfl rfl rfl (by decide) (by decide) rfl rfl (by decide) (by decide) E_nt92 (hb hby at_345) rfl (fun v97 T97 h97 L97 X97 e97 z97 => ?_)
      obtain ⟨rfl, Nq97, hq97⟩ := z97; replace e97 := e97.trans hq97; have N := Fr.app N Nq97
      refine og_aload X97 hx rfl rfl (hb hby at_348) rfl ?_
      refine og_virtual (pc' := 353) (cells' := 21) (slots' := 127) (W := 0) X97 hx hZ (rm_eqG l Z a0 hw ny92 na94 nby92 nb94 ky92 k94 [c3.toInt8.toInt32] [c3.toInt8.toInt32] (1 : Int32) (1 : Int32) (by rfl) (by rfl) (by decide) (by decide) 1 (if_pos rfl).symm cs hcs h94 n0 O E_ny92 F_value_ny92 F_coder_ny92 V_nby92 E_na94 F_value_na94 F_coder_na94 V_nb94 S_CS) hown (ow122 hw) (ow123 hw) (own_nf hZ (ow125 hw)) (ow125 hw) (ow124 hw) (ow11 hw) (ow126 hw) (by decide) (by rw [hml]; rfl) e97 opd_28 [(.ref na94)] [] rfl rfl rfl rfl (by decide) (by decide) rfl rfl (by decide) (by decide) E_ny92 (hb hby at_350) rfl (fun v98 T98 h98 L98 X98 e98 z98 => ?_)
      obtain ⟨rfl, Nq98, hq98⟩ := z98; replace e98 := e98.trans hq98; have N := Fr.app N Nq98
      refine og_if_eq (pc1 := 360) (pc2 := 356) X98 hx (hb hby at_353) (by decide) (by decide) rfl (fun q => absurd q (by decide)) (fun _ => ?_)
      refine og_iconst (v := (1 : Int32)) X98 hx rfl (hb hby at_356) rfl ?_
      refine og_goto (pc' := 361) X98 hx (hb hby at_357) (by decide) (by decide) ?_
      refine og_retNW X98 hx hZ hlk hEL hS e98 es hk CR hret (by simp) (hb hby at_361) (by decide) (by decide) ?_
      exact ⟨rfl, N⟩
     ·
      subst hc165
      have V_nb85 : Arv Z h85 nb85 k85 .byte (4 : Int32) [(.int c0.toInt8.toInt32), (.int c1.toInt8.toInt32), (.int 46), (.int 46)] (.int 0) := V_nb85
      refine og_iinc (L' := #[.val (.int p0), .val (.int p1), .val (.int p2), .val (.int p3), .val (.int p4), .val (.int 4), .val (.ref nb76), .val (.ref na85), .val (.int 2), .val (.int 2), .unset, .unset, .unset, .unset]) (w := (1 : Int32)) X85 hx rfl rfl rfl (hb hby at_168) rfl ?_
      refine og_iload X85 hx rfl (hb hby at_171) rfl ?_
      refine og_if_ge (pc1 := 179) (pc2 := 176) X85 hx (hb hby at_173) (by decide) (by decide) rfl (fun _ => ?_) (fun q => absurd q (by decide))
      refine og_iload X85 hx rfl (hb hby at_179) rfl ?_
      refine og_if_le (pc1 := 213) (pc2 := 184) X85 hx (hb hby at_181) (by decide) (by decide) rfl (fun q => absurd q (by decide)) (fun _ => ?_)
      refine og_iload X85 hx rfl (hb hby at_184) rfl ?_
      refine og_if_eq (pc1 := 209) (pc2 := 189) X85 hx (hb hby at_186) (by decide) (by decide) rfl (fun q => absurd q (by decide)) (fun _ => ?_)
      refine og_iload X85 hx rfl (hb hby at_189) rfl ?_
      refine og_iconst (v := (1 : Int32)) X85 hx rfl (hb hby at_191) rfl ?_
      refine og_icmp_ne (pc1 := 213) (pc2 := 195) X85 hx (hb hby at_192) (by decide) (by decide) rfl (fun _ => ?_) (fun q => absurd q (by decide))
      refine og_iconst (v := (0 : Int32)) X85 hx rfl (hb hby at_213) rfl ?_
      refine og_istore (L' := #[.val (.int p0), .val (.int p1), .val (.int p2), .val (.int p3), .val (.int p4), .val (.int 4), .val (.ref nb76), .val (.ref na85), .val (.int 2), .val (.int 2), .val (.int 0), .unset, .unset, .unset]) X85 hx rfl (hb hby at_214) rfl ?_
      refine og_iload X85 hx rfl (hb hby at_216) rfl ?_
      refine og_if_ne (pc1 := 223) (pc2 := 221) X85 hx (hb hby at_218) (by decide) (by decide) rfl (fun q => absurd q (by decide)) (fun _ => ?_)
      refine og_iconst (v := (1 : Int32)) X85 hx rfl (hb hby at_221) rfl ?_
      refine og_retNW X85 hx hZ hlk hEL hS e85 es hk CR hret (by simp) (hb hby at_222) (by decide) (by decide) ?_
      exact ⟨rfl, N⟩
   ·
    subst hc113
    have V_nb85 : Arv Z h85 nb85 k85 .byte (4 : Int32) [(.int c0.toInt8.toInt32), (.int 46), (.int c2.toInt8.toInt32), (.int c3.toInt8.toInt32)] (.int 0) := V_nb85
    refine og_iinc (L' := #[.val (.int p0), .val (.int p1), .val (.int p2), .val (.int p3), .val (.int p4), .val (.int 4), .val (.ref nb76), .val (.ref na85), .val (.int (-1)), .val (.int 1), .unset, .unset, .unset, .unset]) (w := (1 : Int32)) X85 hx rfl rfl rfl (hb hby at_116) rfl ?_
    refine og_iload X85 hx rfl (hb hby at_119) rfl ?_
    refine og_if_ge (pc1 := 127) (pc2 := 124) X85 hx (hb hby at_121) (by decide) (by decide) rfl (fun q => absurd q (by decide)) (fun _ => ?_)
    refine og_iconst (v := (1 : Int32)) X85 hx rfl (hb hby at_124) rfl ?_
    refine og_istore (L' := #[.val (.int p0), .val (.int p1), .val (.int p2), .val (.int p3), .val (.int p4), .val (.int 4), .val (.ref nb76), .val (.ref na85), .val (.int 1), .val (.int 1), .unset, .unset, .unset, .unset]) X85 hx rfl (hb hby at_125) rfl ?_
    refine og_iload X85 hx rfl (hb hby at_127) rfl ?_
    refine og_iconst (v := (2 : Int32)) X85 hx rfl (hb hby at_129) rfl ?_
    refine og_icmp_le (pc1 := 153) (pc2 := 133) X85 hx (hb hby at_130) (by decide) (by decide) rfl (fun q => absurd q (by decide)) (fun _ => ?_)
    refine og_aload X85 hx rfl rfl (hb hby at_133) rfl ?_
    refine og_iconst (v := (2 : Int32)) X85 hx rfl (hb hby at_135) rfl ?_
    refine og_caload (v := (.int c2)) X85 hx hZ e85 V_nb76 ⟨by decide, by decide⟩ rfl (hb hby at_136) rfl ?_
    refine og_bipush (v := (46 : Int32)) X85 hx rfl (hb hby at_137) rfl ?_
    refine og_icmp_ne (pc1 := 153) (pc2 := 142) X85 hx (hb hby at_139) (by decide) (by decide) rfl (fun hc139 => ?_) (fun hc139 => ?_)
    ·
     refine og_iload X85 hx rfl (hb hby at_153) rfl ?_
     refine og_iconst (v := (3 : Int32)) X85 hx rfl (hb hby at_155) rfl ?_
     refine og_icmp_le (pc1 := 179) (pc2 := 159) X85 hx (hb hby at_156) (by decide) (by decide) rfl (fun q => absurd q (by decide)) (fun _ => ?_)
     refine og_aload X85 hx rfl rfl (hb hby at_159) rfl ?_
     refine og_iconst (v := (3 : Int32)) X85 hx rfl (hb hby at_161) rfl ?_
     refine og_caload (v := (.int c3)) X85 hx hZ e85 V_nb76 ⟨by decide, by decide⟩ rfl (hb hby at_162) rfl ?_
     refine og_bipush (v := (46 : Int32)) X85 hx rfl (hb hby at_163) rfl ?_
     refine og_icmp_ne (pc1 := 179) (pc2 := 168) X85 hx (hb hby at_165) (by decide) (by decide) rfl (fun hc165 => ?_) (fun hc165 => ?_)
     ·
      refine og_iload X85 hx rfl (hb hby at_179) rfl ?_
      refine og_if_le (pc1 := 213) (pc2 := 184) X85 hx (hb hby at_181) (by decide) (by decide) rfl (fun q => absurd q (by decide)) (fun _ => ?_)
      refine og_iload X85 hx rfl (hb hby at_184) rfl ?_
      refine og_if_eq (pc1 := 209) (pc2 := 189) X85 hx (hb hby at_186) (by decide) (by decide) rfl (fun q => absurd q (by decide)) (fun _ => ?_)
      refine og_iload X85 hx rfl (hb hby at_189) rfl ?_
      refine og_iconst (v := (1 : Int32)) X85 hx rfl (hb hby at_191) rfl ?_
      refine og_icmp_ne (pc1 := 213) (pc2 := 195) X85 hx (hb hby at_192) (by decide) (by decide) rfl (fun q => absurd q (by decide)) (fun _ => ?_)
      refine og_iload X85 hx rfl (hb hby at_195) rfl ?_
      refine og_if_eq (pc1 := 213) (pc2 := 200) X85 hx (hb hby at_197) (by decide) (by decide) rfl (fun q => absurd q (by decide)) (fun _ => ?_)
      refine og_iload X85 hx rfl (hb hby at_200) rfl ?_
      refine og_iload X85 hx rfl (hb hby at_202) rfl ?_
      refine og_iconst (v := (1 : Int32)) X85 hx rfl (hb hby at_204) rfl ?_
      refine og_isub X85 hx (hb hby at_205) rfl ?_
      show OG p e below _ (T85.setTop (mkF m 206 #[.val (.int p0), .val (.int p1), .val (.int p2), .val (.int p3), .val (.int p4), .val (.int 4), .val (.ref nb76), .val (.ref na85), .val (.int 1), .val (.int 1), .unset, .unset, .unset, .unset] [(.int 3), (.int 1)]))
      refine og_icmp_eq (pc1 := 213) (pc2 := 209) X85 hx (hb hby at_206) (by decide) (by decide) rfl (fun q => absurd q (by decide)) (fun _ => ?_)
      refine og_iconst (v := (1 : Int32)) X85 hx rfl (hb hby at_209) rfl ?_
      refine og_goto (pc' := 214) X85 hx (hb hby at_210) (by decide) (by decide) ?_
      refine og_istore (L' := #[.val (.int p0), .val (.int p1), .val (.int p2), .val (.int p3), .val (.int p4), .val (.int 4), .val (.ref nb76), .val (.ref na85), .val (.int 1), .val (.int 1), .val (.int 1), .unset, .unset, .unset]) X85 hx rfl (hb hby at_214) rfl ?_
      refine og_iload X85 hx rfl (hb hby at_216) rfl ?_
      refine og_if_ne (pc1 := 223) (pc2 := 221) X85 hx (hb hby at_218) (by decide) (by decide) rfl (fun _ => ?_) (fun q => absurd q (by decide))
      refine og_aload X85 hx rfl rfl (hb hby at_223) rfl ?_
      refine og_staticW (pc' := 228) (cells' := 15) (slots' := 113) (W := 0) X85 hx hZ (rm_pa4_1 l Z a0 hw na85 nb85 k85 (c0.toInt8.toInt32) (c2.toInt8.toInt32) (c3.toInt8.toInt32) (own_n46 hc0 hc87) (own_n46 hc2 hc139) (own_n46 hc3 hc165) cs hcs fm hfm h85 n0 O hEL E_na85 F_value_na85 F_coder_na85 V_nb85 S_CS S_FM) hEL hS hk CR.1 all0 hown (ow41 hw) (ow42 hw) (ow43 hw) (ow44 hw) (by decide) (by rw [hml]; rfl) e85 opd_26 [(.ref na85)] [] rfl rfl rfl rfl (by decide) (by decide) rfl rfl (by decide) (by decide) (hb hby at_225) rfl (fun v99 T99 h99 L99 kk99 X99 e99 hS hk hZ hown cr99 z99 => ?_)
      obtain ⟨nt99, nx99, ny99, nbx99, nby99, kx99, ky99, rfl, Nq99, K99, E_nt99, F_schema_nt99, F_name_nt99, E_nx99, F_value_nx99, F_coder_nx99, V_nbx99, E_ny99, F_value_ny99, F_coder_ny99, V_nby99⟩ := z99; have N := Fr.app N Nq99
      have Q_nb76 := cr99.safe V_nb76.lt Q_nb76; have V_nb76 := V_nb76.keep K99 nin0; have E_na85 := E_na85.keep K99; have F_value_na85 := F_value_na85.keep K99 nin0; have F_coder_na85 := F_coder_na85.keep K99 nin0; have V_nb85 := V_nb85.keep K99 nin0
      have O := O.keep K99 all0; have K := K.trans K99 all0; have CR := CR.trans cr99
      refine og_astore (L' := #[.val (.int p0), .val (.int p1), .val (.int p2), .val (.int p3), .val (.int p4), .val (.int 4), .val (.ref nb76), .val (.ref na85), .val (.int 1), .val (.int 1), .val (.int 1), .val (.ref nt99), .unset, .unset]) X99 hx rfl rfl (hb hby at_228) rfl ?_
      refine og_iload X99 hx rfl (hb hby at_230) rfl ?_
      refine og_if_ne (pc1 := 267) (pc2 := 235) X99 hx (hb hby at_232) (by decide) (by decide) rfl (fun _ => ?_) (fun q => absurd q (by decide))
      refine og_iload X99 hx rfl (hb hby at_267) rfl ?_
      refine og_aload X99 hx rfl rfl (hb hby at_269) rfl ?_
      refine og_iconst (v := (0 : Int32)) X99 hx rfl (hb hby at_271) rfl ?_
      refine og_caload (v := (.int c0)) X99 hx hZ e99 V_nb76 ⟨by decide, by decide⟩ rfl (hb hby at_272) rfl ?_
      refine og_aload X99 hx rfl rfl (hb hby at_273) rfl ?_
      refine og_iconst (v := (1 : Int32)) X99 hx rfl (hb hby at_275) rfl ?_
      refine og_caload (v := (.int 46)) X99 hx hZ e99 V_nb76 ⟨by decide, by decide⟩ rfl (hb hby at_276) rfl ?_
      refine og_aload X99 hx rfl rfl (hb hby at_277) rfl ?_
      refine og_iconst (v := (2 : Int32)) X99 hx rfl (hb hby at_279) rfl ?_
      refine og_caload (v := (.int c2)) X99 hx hZ e99 V_nb76 ⟨by decide, by decide⟩ rfl (hb hby at_280) rfl ?_
      refine og_aload X99 hx rfl rfl (hb hby at_281) rfl ?_
      refine og_iconst (v := (3 : Int32)) X99 hx rfl (hb hby at_283) rfl ?_
      refine og_caload (v := (.int c3)) X99 hx hZ e99 V_nb76 ⟨by decide, by decide⟩ rfl (hb hby at_284) rfl ?_
      refine og_staticW (pc' := 288) (cells' := 18) (slots' := 119) (W := 0) X99 hx hZ (rm_mk1 l Z a0 hw c0 (46 : Int32) c2 c3 hc0 ⟨by decide, by decide⟩ hc2 hc3 cs hcs h99 n0 O hEL S_CS) hEL hS hk CR.1 all0 hown (ow6 hw) (ow7 hw) (ow4 hw) (ow8 hw) (by decide) (by rw [hml]; rfl) e99 opd_25 [(.int 1), (.int c0), (.int 46), (.int c2), (.int c3)] [] rfl rfl rfl rfl (by decide) (by decide) rfl rfl (by decide) (by decide) (hb hby at_285) rfl (fun v100 T100 h100 L100 kk100 X100 e100 hS hk hZ hown cr100 z100 => ?_)
      obtain ⟨na100, nb100, k100, rfl, Nq100, K100, sa100, E_na100, F_value_na100, F_coder_na100, V_nb100⟩ := z100; have N := Fr.app N Nq100
      have s_na100 : h99.size ≤ na100 := sa100; have g_na100 : n0 ≤ na100 := Nat.le_trans (own_n0 O) s_na100; have sz_na100 : h0.size ≤ na100 := Nat.le_trans K.1 s_na100; have ne_nb76_na100 : nb76 ≠ na100 := Nat.ne_of_lt (Nat.lt_of_lt_of_le V_nb76.lt s_na100); have ne_na85_na100 : na85 ≠ na100 := Nat.ne_of_lt (Nat.lt_of_lt_of_le E_na85.lt s_na100); have ne_nb85_na100 : nb85 ≠ na100 := Nat.ne_of_lt (Nat.lt_of_lt_of_le V_nb85.lt s_na100)
      have ne_nt99_na100 : nt99 ≠ na100 := Nat.ne_of_lt (Nat.lt_of_lt_of_le E_nt99.lt s_na100); have ne_nx99_na100 : nx99 ≠ na100 := Nat.ne_of_lt (Nat.lt_of_lt_of_le E_nx99.lt s_na100); have ne_nbx99_na100 : nbx99 ≠ na100 := Nat.ne_of_lt (Nat.lt_of_lt_of_le V_nbx99.lt s_na100); have ne_ny99_na100 : ny99 ≠ na100 := Nat.ne_of_lt (Nat.lt_of_lt_of_le E_ny99.lt s_na100); have ne_nby99_na100 : nby99 ≠ na100 := Nat.ne_of_lt (Nat.lt_of_lt_of_le V_nby99.lt s_na100); have Q_na100 : Safe Z own_EL _ _ na100 := Safe.new (Z := Z) (EL := own_EL) (vm := T100.vm) s_na100
      have Q_nb76 := cr100.safe V_nb76.lt Q_nb76; have V_nb76 := V_nb76.keep K100 nin0; have E_na85 := E_na85.keep K100; have F_value_na85 := F_value_na85.keep K100 nin0; have F_coder_na85 := F_coder_na85.keep K100 nin0; have V_nb85 := V_nb85.keep K100 nin0
      have E_nt99 := E_nt99.keep K100; have F_schema_nt99 := F_schema_nt99.keep K100 nin0; have F_name_nt99 := F_name_nt99.keep K100 nin0; have E_nx99 := E_nx99.keep K100; have F_value_nx99 := F_value_nx99.keep K100 nin0; have F_coder_nx99 := F_coder_nx99.keep K100 nin0
      have V_nbx99 := V_nbx99.keep K100 nin0; have E_ny99 := E_ny99.keep K100; have F_value_ny99 := F_value_ny99.keep K100 nin0; have F_coder_ny99 := F_coder_ny99.keep K100 nin0; have V_nby99 := V_nby99.keep K100 nin0; have O := O.keep K100 all0
      have K := K.trans K100 all0; have CR := CR.trans cr100
      have V_nb100 : Arv Z h100 nb100 k100 .byte (1 : Int32) [(.int c0.toInt8.toInt32)] (.int 0) := V_nb100
      refine og_astore (L' := #[.val (.int p0), .val (.int p1), .val (.int p2), .val (.int p3), .val (.int p4), .val (.int 4), .val (.ref nb76), .val (.ref na85), .val (.int 1), .val (.int 1), .val (.int 1), .val (.ref nt99), .val (.ref na100), .unset]) X100 hx rfl rfl (hb hby at_288) rfl ?_
      refine og_iload X100 hx rfl (hb hby at_290) rfl ?_
      refine og_iload X100 hx rfl (hb hby at_292) rfl ?_
      refine og_isub X100 hx (hb hby at_294) rfl ?_
      show OG p e below _ (T100.setTop (mkF m 295 #[.val (.int p0), .val (.int p1), .val (.int p2), .val (.int p3), .val (.int p4), .val (.int 4), .val (.ref nb76), .val (.ref na85), .val (.int 1), .val (.int 1), .val (.int 1), .val (.ref nt99), .val (.ref na100), .unset] [(.int 3)]))
      refine og_iconst (v := (1 : Int32)) X100 hx rfl (hb hby at_295) rfl ?_
      refine og_isub X100 hx (hb hby at_296) rfl ?_
      show OG p e below _ (T100.setTop (mkF m 297 #[.val (.int p0), .val (.int p1), .val (.int p2), .val (.int p3), .val (.int p4), .val (.int 4), .val (.ref nb76), .val (.ref na85), .val (.int 1), .val (.int 1), .val (.int 1), .val (.ref nt99), .val (.ref na100), .unset] [(.int 2)]))
      refine og_aload X100 hx rfl rfl (hb hby at_297) rfl ?_
      refine og_iload X100 hx rfl (hb hby at_299) rfl ?_
      refine og_iconst (v := (1 : Int32)) X100 hx rfl (hb hby at_301) rfl ?_
      refine og_iadd X100 hx (hb hby at_302) rfl ?_
      show OG p e below _ (T100.setTop (mkF m 303 #[.val (.int p0), .val (.int p1), .val (.int p2), .val (.int p3), .val (.int p4), .val (.int 4), .val (.ref nb76), .val (.ref na85), .val (.int 1), .val (.int 1), .val (.int 1), .val (.ref nt99), .val (.ref na100), .unset] [(.int 2), (.ref nb76), (.int 2)]))
      refine og_caload (v := (.int c2)) X100 hx hZ e100 V_nb76 ⟨by decide, by decide⟩ rfl (hb hby at_303) rfl ?_
      refine og_aload X100 hx rfl rfl (hb hby at_304) rfl ?_
      refine og_iload X100 hx rfl (hb hby at_306) rfl ?_
      refine og_iconst (v := (2 : Int32)) X100 hx rfl (hb hby at_308) rfl ?_
      refine og_iadd X100 hx (hb hby at_309) rfl ?_
      show OG p e below _ (T100.setTop (mkF m 310 #[.val (.int p0), .val (.int p1), .val (.int p2), .val (.int p3), .val (.int p4), .val (.int 4), .val (.ref nb76), .val (.ref na85), .val (.int 1), .val (.int 1), .val (.int 1), .val (.ref nt99), .val (.ref na100), .unset] [(.int 3), (.ref nb76), (.int c2), (.int 2)]))
      refine og_caload (v := (.int c3)) X100 hx hZ e100 V_nb76 ⟨by decide, by decide⟩ rfl (hb hby at_310) rfl ?_
      refine og_aload X100 hx rfl rfl (hb hby at_311) rfl ?_
      refine og_iload X100 hx rfl (hb hby at_313) rfl ?_
      refine og_iconst (v := (3 : Int32)) X100 hx rfl (hb hby at_315) rfl ?_
      refine og_iadd X100 hx (hb hby at_316) rfl ?_
      show OG p e below _ (T100.setTop (mkF m 317 #[.val (.int p0), .val (.int p1), .val (.int p2), .val (.int p3), .val (.int p4), .val (.int 4), .val (.ref nb76), .val (.ref na85), .val (.int 1), .val (.int 1), .val (.int 1), .val (.ref nt99), .val (.ref na100), .unset] [(.int 4), (.ref nb76), (.int c3), (.int c2), (.int 2)]))
      refine og_caload (v := (.int 0)) X100 hx hZ e100 V_nb76 ⟨by decide, by decide⟩ rfl (hb hby at_317) rfl ?_
      refine og_aload X100 hx rfl rfl (hb hby at_318) rfl ?_
      refine og_iload X100 hx rfl (hb hby at_320) rfl ?_
      refine og_iconst (v := (4 : Int32)) X100 hx rfl (hb hby at_322) rfl ?_
      refine og_iadd X100 hx (hb hby at_323) rfl ?_
      show OG p e below _ (T100.setTop (mkF m 324 #[.val (.int p0), .val (.int p1), .val (.int p2), .val (.int p3), .val (.int p4), .val (.int 4), .val (.ref nb76), .val (.ref na85), .val (.int 1), .val (.int 1), .val (.int 1), .val (.ref nt99), .val (.ref na100), .unset] [(.int 5), (.ref nb76), (.int 0), (.int c3), (.int c2), (.int 2)]))
      refine og_caload (v := (.int 0)) X100 hx hZ e100 V_nb76 ⟨by decide, by decide⟩ rfl (hb hby at_324) rfl ?_
      refine og_staticW (pc' := 328) (cells' := 21) (slots' := 127) (W := 0) X100 hx hZ (rm_mk2 l Z a0 hw c2 c3 (0 : Int32) (0 : Int32) hc2 hc3 ⟨by decide, by decide⟩ ⟨by decide, by decide⟩ cs hcs h100 n0 O hEL S_CS) hEL hS hk CR.1 all0 hown (ow6 hw) (ow7 hw) (ow4 hw) (ow8 hw) (by decide) (by rw [hml]; rfl) e100 opd_25 [(.int 2), (.int c2), (.int c3), (.int 0), (.int 0)] [] rfl rfl rfl rfl (by decide) (by decide) rfl rfl (by decide) (by decide) (hb hby at_325) rfl (fun v101 T101 h101 L101 kk101 X101 e101 hS hk hZ hown cr101 z101 => ?_)
      obtain ⟨na101, nb101, k101, rfl, Nq101, K101, sa101, E_na101, F_value_na101, F_coder_na101, V_nb101⟩ := z101; have N := Fr.app N Nq101
      have s_na101 : h100.size ≤ na101 := sa101; have g_na101 : n0 ≤ na101 := Nat.le_trans (own_n0 O) s_na101; have sz_na101 : h0.size ≤ na101 := Nat.le_trans K.1 s_na101; have ne_nb76_na101 : nb76 ≠ na101 := Nat.ne_of_lt (Nat.lt_of_lt_of_le V_nb76.lt s_na101); have ne_na85_na101 : na85 ≠ na101 := Nat.ne_of_lt (Nat.lt_of_lt_of_le E_na85.lt s_na101); have ne_nb85_na101 : nb85 ≠ na101 := Nat.ne_of_lt (Nat.lt_of_lt_of_le V_nb85.lt s_na101)
      have ne_nt99_na101 : nt99 ≠ na101 := Nat.ne_of_lt (Nat.lt_of_lt_of_le E_nt99.lt s_na101); have ne_nx99_na101 : nx99 ≠ na101 := Nat.ne_of_lt (Nat.lt_of_lt_of_le E_nx99.lt s_na101); have ne_nbx99_na101 : nbx99 ≠ na101 := Nat.ne_of_lt (Nat.lt_of_lt_of_le V_nbx99.lt s_na101); have ne_ny99_na101 : ny99 ≠ na101 := Nat.ne_of_lt (Nat.lt_of_lt_of_le E_ny99.lt s_na101); have ne_nby99_na101 : nby99 ≠ na101 := Nat.ne_of_lt (Nat.lt_of_lt_of_le V_nby99.lt s_na101); have ne_na100_na101 : na100 ≠ na101 := Nat.ne_of_lt (Nat.lt_of_lt_of_le E_na100.lt s_na101)
      have ne_nb100_na101 : nb100 ≠ na101 := Nat.ne_of_lt (Nat.lt_of_lt_of_le V_nb100.lt s_na101); have Q_na101 : Safe Z own_EL _ _ na101 := Safe.new (Z := Z) (EL := own_EL) (vm := T101.vm) s_na101
      have Q_nb76 := cr101.safe V_nb76.lt Q_nb76; have V_nb76 := V_nb76.keep K101 nin0; have E_na85 := E_na85.keep K101; have F_value_na85 := F_value_na85.keep K101 nin0; have F_coder_na85 := F_coder_na85.keep K101 nin0; have V_nb85 := V_nb85.keep K101 nin0
      have E_nt99 := E_nt99.keep K101; have F_schema_nt99 := F_schema_nt99.keep K101 nin0; have F_name_nt99 := F_name_nt99.keep K101 nin0; have E_nx99 := E_nx99.keep K101; have F_value_nx99 := F_value_nx99.keep K101 nin0; have F_coder_nx99 := F_coder_nx99.keep K101 nin0
      have V_nbx99 := V_nbx99.keep K101 nin0; have E_ny99 := E_ny99.keep K101; have F_value_ny99 := F_value_ny99.keep K101 nin0; have F_coder_ny99 := F_coder_ny99.keep K101 nin0; have V_nby99 := V_nby99.keep K101 nin0; have E_na100 := E_na100.keep K101
      have F_value_na100 := F_value_na100.keep K101 nin0; have F_coder_na100 := F_coder_na100.keep K101 nin0; have V_nb100 := V_nb100.keep K101 nin0; have O := O.keep K101 all0; have K := K.trans K101 all0; have CR := CR.trans cr101
      have V_nb101 : Arv Z h101 nb101 k101 .byte (2 : Int32) [(.int c2.toInt8.toInt32), (.int c3.toInt8.toInt32)] (.int 0) := V_nb101
      refine og_astore (L' := #[.val (.int p0), .val (.int p1), .val (.int p2), .val (.int p3), .val (.int p4), .val (.int 4), .val (.ref nb76), .val (.ref na85), .val (.int 1), .val (.int 1), .val (.int 1), .val (.ref nt99), .val (.ref na100), .val (.ref na101)]) X101 hx rfl rfl (hb hby at_328) rfl ?_
      refine og_aload X101 hx rfl rfl (hb hby at_330) rfl ?_
      refine og_virtual (pc' := 335) (cells' := 21) (slots' := 127) (W := 0) X101 hx hZ (rm_gschema l Z a0 hw nt99 nx99 h101 n0 O F_schema_nt99) hown (ow116 hw) (ow117 hw) (own_nf hZ (ow119 hw)) (ow119 hw) (ow118 hw) (ow43 hw) (ow120 hw) (by decide) (by rw [hml]; rfl) e101 opd_27 [] [] rfl rfl rfl rfl (by decide) (by decide) rfl rfl (by decide) (by decide) E_nt99 (hb hby at_332) rfl (fun v102 T102 h102 L102 X102 e102 z102 => ?_)
      obtain ⟨rfl, Nq102, hq102⟩ := z102; replace e102 := e102.trans hq102; have N := Fr.app N Nq102
      refine og_aload X102 hx rfl rfl (hb hby at_335) rfl ?_
      refine og_virtual (pc' := 340) (cells' := 21) (slots' := 127) (W := 0) X102 hx hZ (rm_eqG l Z a0 hw nx99 na100 nbx99 nb100 kx99 k100 [c0.toInt8.toInt32] [c0.toInt8.toInt32] (1 : Int32) (1 : Int32) (by rfl) (by rfl) (by decide) (by decide) 1 (if_pos rfl).symm cs hcs h101 n0 O E_nx99 F_value_nx99 F_coder_nx99 V_nbx99 E_na100 F_value_na100 F_coder_na100 V_nb100 S_CS) hown (ow122 hw) (ow123 hw) (own_nf hZ (ow125 hw)) (ow125 hw) (ow124 hw) (ow11 hw) (ow126 hw) (by decide) (by rw [hml]; rfl) e102 opd_28 [(.ref na100)] [] rfl rfl rfl rfl (by decide) (by decide) rfl rfl (by decide) (by decide) E_nx99 (hb hby at_337) rfl (fun v103 T103 h103 L103 X103 e103 z103 => ?_)
      obtain ⟨rfl, Nq103, hq103⟩ := z103; replace e103 := e103.trans hq103; have N := Fr.app N Nq103
      refine og_if_eq (pc1 := 360) (pc2 := 343) X103 hx (hb hby at_340) (by decide) (by decide) rfl (fun q => absurd q (by decide)) (fun _ => ?_)
      refine og_aload X103 hx rfl rfl (hb hby at_343) rfl ?_
      refine og_virtual (pc' := 348) (cells' := 21) (slots' := 127) (W := 0) X103 hx hZ (rm_gname l Z a0 hw nt99 ny99 h101 n0 O F_name_nt99) hown (ow127 hw) (ow128 hw) (own_nf hZ (ow130 hw)) (ow130 hw) (ow129 hw) (ow43 hw) (ow131 hw) (by decide) (by rw [hml]; rfl) e103 opd_27 [] [] rfl rfl rfl rfl (by decide) (by decide) rfl rfl (by decide) (by decide) E_nt99 (hb hby at_345) rfl (fun v104 T104 h104 L104 X104 e104 z104 => ?_)
      obtain ⟨rfl, Nq104, hq104⟩ := z104; replace e104 := e104.trans hq104; have N := Fr.app N Nq104
      refine og_aload X104 hx rfl rfl (hb hby at_348) rfl ?_
      refine og_virtual (pc' := 353) (cells' := 21) (slots' := 127) (W := 0) X104 hx hZ (rm_eqG l Z a0 hw ny99 na101 nby99 nb101 ky99 k101 [c2.toInt8.toInt32, c3.toInt8.toInt32] [c2.toInt8.toInt32, c3.toInt8.toInt32] (2 : Int32) (2 : Int32) (by rfl) (by rfl) (by decide) (by decide) 1 (if_pos rfl).symm cs hcs h101 n0 O E_ny99 F_value_ny99 F_coder_ny99 V_nby99 E_na101 F_value_na101 F_coder_na101 V_nb101 S_CS) hown (ow122 hw) (ow123 hw) (own_nf hZ (ow125 hw)) (ow125 hw) (ow124 hw) (ow11 hw) (ow126 hw) (by decide) (by rw [hml]; rfl) e104 opd_28 [(.ref na101)] [] rfl rfl rfl rfl (by decide) (by decide) rfl rfl (by decide) (by decide) E_ny99 (hb hby at_350) rfl (fun v105 T105 h105 L105 X105 e105 z105 => ?_)
      obtain ⟨rfl, Nq105, hq105⟩ := z105; replace e105 := e105.trans hq105; have N := Fr.app N Nq105
      refine og_if_eq (pc1 := 360) (pc2 := 356) X105 hx (hb hby at_353) (by decide) (by decide) rfl (fun q => absurd q (by decide)) (fun _ => ?_)
      refine og_iconst (v := (1 : Int32)) X105 hx rfl (hb hby at_356) rfl ?_
      refine og_goto (pc' := 361) X105 hx (hb hby at_357) (by decide) (by decide) ?_
      refine og_retNW X105 hx hZ hlk hEL hS e105 es hk CR hret (by simp) (hb hby at_361) (by decide) (by decide) ?_
      exact ⟨rfl, N⟩
     ·
      subst hc165
      have V_nb85 : Arv Z h85 nb85 k85 .byte (4 : Int32) [(.int c0.toInt8.toInt32), (.int 46), (.int c2.toInt8.toInt32), (.int 46)] (.int 0) := V_nb85
      refine og_iinc (L' := #[.val (.int p0), .val (.int p1), .val (.int p2), .val (.int p3), .val (.int p4), .val (.int 4), .val (.ref nb76), .val (.ref na85), .val (.int 1), .val (.int 2), .unset, .unset, .unset, .unset]) (w := (1 : Int32)) X85 hx rfl rfl rfl (hb hby at_168) rfl ?_
      refine og_iload X85 hx rfl (hb hby at_171) rfl ?_
      refine og_if_ge (pc1 := 179) (pc2 := 176) X85 hx (hb hby at_173) (by decide) (by decide) rfl (fun _ => ?_) (fun q => absurd q (by decide))
      refine og_iload X85 hx rfl (hb hby at_179) rfl ?_
      refine og_if_le (pc1 := 213) (pc2 := 184) X85 hx (hb hby at_181) (by decide) (by decide) rfl (fun q => absurd q (by decide)) (fun _ => ?_)
      refine og_iload X85 hx rfl (hb hby at_184) rfl ?_
      refine og_if_eq (pc1 := 209) (pc2 := 189) X85 hx (hb hby at_186) (by decide) (by decide) rfl (fun q => absurd q (by decide)) (fun _ => ?_)
      refine og_iload X85 hx rfl (hb hby at_189) rfl ?_
      refine og_iconst (v := (1 : Int32)) X85 hx rfl (hb hby at_191) rfl ?_
      refine og_icmp_ne (pc1 := 213) (pc2 := 195) X85 hx (hb hby at_192) (by decide) (by decide) rfl (fun _ => ?_) (fun q => absurd q (by decide))
      refine og_iconst (v := (0 : Int32)) X85 hx rfl (hb hby at_213) rfl ?_
      refine og_istore (L' := #[.val (.int p0), .val (.int p1), .val (.int p2), .val (.int p3), .val (.int p4), .val (.int 4), .val (.ref nb76), .val (.ref na85), .val (.int 1), .val (.int 2), .val (.int 0), .unset, .unset, .unset]) X85 hx rfl (hb hby at_214) rfl ?_
      refine og_iload X85 hx rfl (hb hby at_216) rfl ?_
      refine og_if_ne (pc1 := 223) (pc2 := 221) X85 hx (hb hby at_218) (by decide) (by decide) rfl (fun q => absurd q (by decide)) (fun _ => ?_)
      refine og_iconst (v := (1 : Int32)) X85 hx rfl (hb hby at_221) rfl ?_
      refine og_retNW X85 hx hZ hlk hEL hS e85 es hk CR hret (by simp) (hb hby at_222) (by decide) (by decide) ?_
      exact ⟨rfl, N⟩
    ·
     subst hc139
     have V_nb85 : Arv Z h85 nb85 k85 .byte (4 : Int32) [(.int c0.toInt8.toInt32), (.int 46), (.int 46), (.int c3.toInt8.toInt32)] (.int 0) := V_nb85
     refine og_iinc (L' := #[.val (.int p0), .val (.int p1), .val (.int p2), .val (.int p3), .val (.int p4), .val (.int 4), .val (.ref nb76), .val (.ref na85), .val (.int 1), .val (.int 2), .unset, .unset, .unset, .unset]) (w := (1 : Int32)) X85 hx rfl rfl rfl (hb hby at_142) rfl ?_
     refine og_iload X85 hx rfl (hb hby at_145) rfl ?_
     refine og_if_ge (pc1 := 153) (pc2 := 150) X85 hx (hb hby at_147) (by decide) (by decide) rfl (fun _ => ?_) (fun q => absurd q (by decide))
     refine og_iload X85 hx rfl (hb hby at_153) rfl ?_
     refine og_iconst (v := (3 : Int32)) X85 hx rfl (hb hby at_155) rfl ?_
     refine og_icmp_le (pc1 := 179) (pc2 := 159) X85 hx (hb hby at_156) (by decide) (by decide) rfl (fun q => absurd q (by decide)) (fun _ => ?_)
     refine og_aload X85 hx rfl rfl (hb hby at_159) rfl ?_
     refine og_iconst (v := (3 : Int32)) X85 hx rfl (hb hby at_161) rfl ?_
     refine og_caload (v := (.int c3)) X85 hx hZ e85 V_nb76 ⟨by decide, by decide⟩ rfl (hb hby at_162) rfl ?_
     refine og_bipush (v := (46 : Int32)) X85 hx rfl (hb hby at_163) rfl ?_
     refine og_icmp_ne (pc1 := 179) (pc2 := 168) X85 hx (hb hby at_165) (by decide) (by decide) rfl (fun hc165 => ?_) (fun hc165 => ?_)
     ·
      refine og_iload X85 hx rfl (hb hby at_179) rfl ?_
      refine og_if_le (pc1 := 213) (pc2 := 184) X85 hx (hb hby at_181) (by decide) (by decide) rfl (fun q => absurd q (by decide)) (fun _ => ?_)
      refine og_iload X85 hx rfl (hb hby at_184) rfl ?_
      refine og_if_eq (pc1 := 209) (pc2 := 189) X85 hx (hb hby at_186) (by decide) (by decide) rfl (fun q => absurd q (by decide)) (fun _ => ?_)
      refine og_iload X85 hx rfl (hb hby at_189) rfl ?_
      refine og_iconst (v := (1 : Int32)) X85 hx rfl (hb hby at_191) rfl ?_
      refine og_icmp_ne (pc1 := 213) (pc2 := 195) X85 hx (hb hby at_192) (by decide) (by decide) rfl (fun _ => ?_) (fun q => absurd q (by decide))
      refine og_iconst (v := (0 : Int32)) X85 hx rfl (hb hby at_213) rfl ?_
      refine og_istore (L' := #[.val (.int p0), .val (.int p1), .val (.int p2), .val (.int p3), .val (.int p4), .val (.int 4), .val (.ref nb76), .val (.ref na85), .val (.int 1), .val (.int 2), .val (.int 0), .unset, .unset, .unset]) X85 hx rfl (hb hby at_214) rfl ?_
      refine og_iload X85 hx rfl (hb hby at_216) rfl ?_
      refine og_if_ne (pc1 := 223) (pc2 := 221) X85 hx (hb hby at_218) (by decide) (by decide) rfl (fun q => absurd q (by decide)) (fun _ => ?_)
      refine og_iconst (v := (1 : Int32)) X85 hx rfl (hb hby at_221) rfl ?_
      refine og_retNW X85 hx hZ hlk hEL hS e85 es hk CR hret (by simp) (hb hby at_222) (by decide) (by decide) ?_
      exact ⟨rfl, N⟩
     ·
      subst hc165
      have V_nb85 : Arv Z h85 nb85 k85 .byte (4 : Int32) [(.int c0.toInt8.toInt32), (.int 46), (.int 46), (.int 46)] (.int 0) := V_nb85
      refine og_iinc (L' := #[.val (.int p0), .val (.int p1), .val (.int p2), .val (.int p3), .val (.int p4), .val (.int 4), .val (.ref nb76), .val (.ref na85), .val (.int 1), .val (.int 3), .unset, .unset, .unset, .unset]) (w := (1 : Int32)) X85 hx rfl rfl rfl (hb hby at_168) rfl ?_
      refine og_iload X85 hx rfl (hb hby at_171) rfl ?_
      refine og_if_ge (pc1 := 179) (pc2 := 176) X85 hx (hb hby at_173) (by decide) (by decide) rfl (fun _ => ?_) (fun q => absurd q (by decide))
      refine og_iload X85 hx rfl (hb hby at_179) rfl ?_
      refine og_if_le (pc1 := 213) (pc2 := 184) X85 hx (hb hby at_181) (by decide) (by decide) rfl (fun q => absurd q (by decide)) (fun _ => ?_)
      refine og_iload X85 hx rfl (hb hby at_184) rfl ?_
      refine og_if_eq (pc1 := 209) (pc2 := 189) X85 hx (hb hby at_186) (by decide) (by decide) rfl (fun q => absurd q (by decide)) (fun _ => ?_)
      refine og_iload X85 hx rfl (hb hby at_189) rfl ?_
      refine og_iconst (v := (1 : Int32)) X85 hx rfl (hb hby at_191) rfl ?_
      refine og_icmp_ne (pc1 := 213) (pc2 := 195) X85 hx (hb hby at_192) (by decide) (by decide) rfl (fun _ => ?_) (fun q => absurd q (by decide))
      refine og_iconst (v := (0 : Int32)) X85 hx rfl (hb hby at_213) rfl ?_
      refine og_istore (L' := #[.val (.int p0), .val (.int p1), .val (.int p2), .val (.int p3), .val (.int p4), .val (.int 4), .val (.ref nb76), .val (.ref na85), .val (.int 1), .val (.int 3), .val (.int 0), .unset, .unset, .unset]) X85 hx rfl (hb hby at_214) rfl ?_
      refine og_iload X85 hx rfl (hb hby at_216) rfl ?_
      refine og_if_ne (pc1 := 223) (pc2 := 221) X85 hx (hb hby at_218) (by decide) (by decide) rfl (fun q => absurd q (by decide)) (fun _ => ?_)
      refine og_iconst (v := (1 : Int32)) X85 hx rfl (hb hby at_221) rfl ?_
      refine og_retNW X85 hx hZ hlk hEL hS e85 es hk CR hret (by simp) (hb hby at_222) (by decide) (by decide) ?_
      exact ⟨rfl, N⟩
  ·
   subst hc87
   have V_nb85 : Arv Z h85 nb85 k85 .byte (4 : Int32) [(.int 46), (.int c1.toInt8.toInt32), (.int c2.toInt8.toInt32), (.int c3.toInt8.toInt32)] (.int 0) := V_nb85
   refine og_iinc (L' := #[.val (.int p0), .val (.int p1), .val (.int p2), .val (.int p3), .val (.int p4), .val (.int 4), .val (.ref nb76), .val (.ref na85), .val (.int (-1)), .val (.int 1), .unset, .unset, .unset, .unset]) (w := (1 : Int32)) X85 hx rfl rfl rfl (hb hby at_90) rfl ?_
   refine og_iload X85 hx rfl (hb hby at_93) rfl ?_
   refine og_if_ge (pc1 := 101) (pc2 := 98) X85 hx (hb hby at_95) (by decide) (by decide) rfl (fun q => absurd q (by decide)) (fun _ => ?_)
   refine og_iconst (v := (0 : Int32)) X85 hx rfl (hb hby at_98) rfl ?_
   refine og_istore (L' := #[.val (.int p0), .val (.int p1), .val (.int p2), .val (.int p3), .val (.int p4), .val (.int 4), .val (.ref nb76), .val (.ref na85), .val (.int 0), .val (.int 1), .unset, .unset, .unset, .unset]) X85 hx rfl (hb hby at_99) rfl ?_
   refine og_iload X85 hx rfl (hb hby at_101) rfl ?_
   refine og_iconst (v := (1 : Int32)) X85 hx rfl (hb hby at_103) rfl ?_
   refine og_icmp_le (pc1 := 127) (pc2 := 107) X85 hx (hb hby at_104) (by decide) (by decide) rfl (fun q => absurd q (by decide)) (fun _ => ?_)
   refine og_aload X85 hx rfl rfl (hb hby at_107) rfl ?_
   refine og_iconst (v := (1 : Int32)) X85 hx rfl (hb hby at_109) rfl ?_
   refine og_caload (v := (.int c1)) X85 hx hZ e85 V_nb76 ⟨by decide, by decide⟩ rfl (hb hby at_110) rfl ?_
   refine og_bipush (v := (46 : Int32)) X85 hx rfl (hb hby at_111) rfl ?_
   refine og_icmp_ne (pc1 := 127) (pc2 := 116) X85 hx (hb hby at_113) (by decide) (by decide) rfl (fun hc113 => ?_) (fun hc113 => ?_)
   ·
    refine og_iload X85 hx rfl (hb hby at_127) rfl ?_
    refine og_iconst (v := (2 : Int32)) X85 hx rfl (hb hby at_129) rfl ?_
    refine og_icmp_le (pc1 := 153) (pc2 := 133) X85 hx (hb hby at_130) (by decide) (by decide) rfl (fun q => absurd q (by decide)) (fun _ => ?_)
    refine og_aload X85 hx rfl rfl (hb hby at_133) rfl ?_
    refine og_iconst (v := (2 : Int32)) X85 hx rfl (hb hby at_135) rfl ?_
    refine og_caload (v := (.int c2)) X85 hx hZ e85 V_nb76 ⟨by decide, by decide⟩ rfl (hb hby at_136) rfl ?_
    refine og_bipush (v := (46 : Int32)) X85 hx rfl (hb hby at_137) rfl ?_
    refine og_icmp_ne (pc1 := 153) (pc2 := 142) X85 hx (hb hby at_139) (by decide) (by decide) rfl (fun hc139 => ?_) (fun hc139 => ?_)
    ·
     refine og_iload X85 hx rfl (hb hby at_153) rfl ?_
     refine og_iconst (v := (3 : Int32)) X85 hx rfl (hb hby at_155) rfl ?_
     refine og_icmp_le (pc1 := 179) (pc2 := 159) X85 hx (hb hby at_156) (by decide) (by decide) rfl (fun q => absurd q (by decide)) (fun _ => ?_)
     refine og_aload X85 hx rfl rfl (hb hby at_159) rfl ?_
     refine og_iconst (v := (3 : Int32)) X85 hx rfl (hb hby at_161) rfl ?_
     refine og_caload (v := (.int c3)) X85 hx hZ e85 V_nb76 ⟨by decide, by decide⟩ rfl (hb hby at_162) rfl ?_
     refine og_bipush (v := (46 : Int32)) X85 hx rfl (hb hby at_163) rfl ?_
     refine og_icmp_ne (pc1 := 179) (pc2 := 168) X85 hx (hb hby at_165) (by decide) (by decide) rfl (fun hc165 => ?_) (fun hc165 => ?_)
     ·
      refine og_iload X85 hx rfl (hb hby at_179) rfl ?_
      refine og_if_le (pc1 := 213) (pc2 := 184) X85 hx (hb hby at_181) (by decide) (by decide) rfl (fun q => absurd q (by decide)) (fun _ => ?_)
      refine og_iload X85 hx rfl (hb hby at_184) rfl ?_
      refine og_if_eq (pc1 := 209) (pc2 := 189) X85 hx (hb hby at_186) (by decide) (by decide) rfl (fun q => absurd q (by decide)) (fun _ => ?_)
      refine og_iload X85 hx rfl (hb hby at_189) rfl ?_
      refine og_iconst (v := (1 : Int32)) X85 hx rfl (hb hby at_191) rfl ?_
      refine og_icmp_ne (pc1 := 213) (pc2 := 195) X85 hx (hb hby at_192) (by decide) (by decide) rfl (fun q => absurd q (by decide)) (fun _ => ?_)
      refine og_iload X85 hx rfl (hb hby at_195) rfl ?_
      refine og_if_eq (pc1 := 213) (pc2 := 200) X85 hx (hb hby at_197) (by decide) (by decide) rfl (fun _ => ?_) (fun q => absurd q (by decide))
      refine og_iconst (v := (0 : Int32)) X85 hx rfl (hb hby at_213) rfl ?_
      refine og_istore (L' := #[.val (.int p0), .val (.int p1), .val (.int p2), .val (.int p3), .val (.int p4), .val (.int 4), .val (.ref nb76), .val (.ref na85), .val (.int 0), .val (.int 1), .val (.int 0), .unset, .unset, .unset]) X85 hx rfl (hb hby at_214) rfl ?_
      refine og_iload X85 hx rfl (hb hby at_216) rfl ?_
      refine og_if_ne (pc1 := 223) (pc2 := 221) X85 hx (hb hby at_218) (by decide) (by decide) rfl (fun q => absurd q (by decide)) (fun _ => ?_)
      refine og_iconst (v := (1 : Int32)) X85 hx rfl (hb hby at_221) rfl ?_
      refine og_retNW X85 hx hZ hlk hEL hS e85 es hk CR hret (by simp) (hb hby at_222) (by decide) (by decide) ?_
      exact ⟨rfl, N⟩
     ·
      subst hc165
      have V_nb85 : Arv Z h85 nb85 k85 .byte (4 : Int32) [(.int 46), (.int c1.toInt8.toInt32), (.int c2.toInt8.toInt32), (.int 46)] (.int 0) := V_nb85
      refine og_iinc (L' := #[.val (.int p0), .val (.int p1), .val (.int p2), .val (.int p3), .val (.int p4), .val (.int 4), .val (.ref nb76), .val (.ref na85), .val (.int 0), .val (.int 2), .unset, .unset, .unset, .unset]) (w := (1 : Int32)) X85 hx rfl rfl rfl (hb hby at_168) rfl ?_
      refine og_iload X85 hx rfl (hb hby at_171) rfl ?_
      refine og_if_ge (pc1 := 179) (pc2 := 176) X85 hx (hb hby at_173) (by decide) (by decide) rfl (fun _ => ?_) (fun q => absurd q (by decide))
      refine og_iload X85 hx rfl (hb hby at_179) rfl ?_
      refine og_if_le (pc1 := 213) (pc2 := 184) X85 hx (hb hby at_181) (by decide) (by decide) rfl (fun q => absurd q (by decide)) (fun _ => ?_)
      refine og_iload X85 hx rfl (hb hby at_184) rfl ?_
      refine og_if_eq (pc1 := 209) (pc2 := 189) X85 hx (hb hby at_186) (by decide) (by decide) rfl (fun q => absurd q (by decide)) (fun _ => ?_)
      refine og_iload X85 hx rfl (hb hby at_189) rfl ?_
      refine og_iconst (v := (1 : Int32)) X85 hx rfl (hb hby at_191) rfl ?_
      refine og_icmp_ne (pc1 := 213) (pc2 := 195) X85 hx (hb hby at_192) (by decide) (by decide) rfl (fun _ => ?_) (fun q => absurd q (by decide))
      refine og_iconst (v := (0 : Int32)) X85 hx rfl (hb hby at_213) rfl ?_
      refine og_istore (L' := #[.val (.int p0), .val (.int p1), .val (.int p2), .val (.int p3), .val (.int p4), .val (.int 4), .val (.ref nb76), .val (.ref na85), .val (.int 0), .val (.int 2), .val (.int 0), .unset, .unset, .unset]) X85 hx rfl (hb hby at_214) rfl ?_
      refine og_iload X85 hx rfl (hb hby at_216) rfl ?_
      refine og_if_ne (pc1 := 223) (pc2 := 221) X85 hx (hb hby at_218) (by decide) (by decide) rfl (fun q => absurd q (by decide)) (fun _ => ?_)
      refine og_iconst (v := (1 : Int32)) X85 hx rfl (hb hby at_221) rfl ?_
      refine og_retNW X85 hx hZ hlk hEL hS e85 es hk CR hret (by simp) (hb hby at_222) (by decide) (by decide) ?_
      exact ⟨rfl, N⟩
    ·
     subst hc139
     have V_nb85 : Arv Z h85 nb85 k85 .byte (4 : Int32) [(.int 46), (.int c1.toInt8.toInt32), (.int 46), (.int c3.toInt8.toInt32)] (.int 0) := V_nb85
     refine og_iinc (L' := #[.val (.int p0), .val (.int p1), .val (.int p2), .val (.int p3), .val (.int p4), .val (.int 4), .val (.ref nb76), .val (.ref na85), .val (.int 0), .val (.int 2), .unset, .unset, .unset, .unset]) (w := (1 : Int32)) X85 hx rfl rfl rfl (hb hby at_142) rfl ?_
     refine og_iload X85 hx rfl (hb hby at_145) rfl ?_
     refine og_if_ge (pc1 := 153) (pc2 := 150) X85 hx (hb hby at_147) (by decide) (by decide) rfl (fun _ => ?_) (fun q => absurd q (by decide))
     refine og_iload X85 hx rfl (hb hby at_153) rfl ?_
     refine og_iconst (v := (3 : Int32)) X85 hx rfl (hb hby at_155) rfl ?_
     refine og_icmp_le (pc1 := 179) (pc2 := 159) X85 hx (hb hby at_156) (by decide) (by decide) rfl (fun q => absurd q (by decide)) (fun _ => ?_)
     refine og_aload X85 hx rfl rfl (hb hby at_159) rfl ?_
     refine og_iconst (v := (3 : Int32)) X85 hx rfl (hb hby at_161) rfl ?_
     refine og_caload (v := (.int c3)) X85 hx hZ e85 V_nb76 ⟨by decide, by decide⟩ rfl (hb hby at_162) rfl ?_
     refine og_bipush (v := (46 : Int32)) X85 hx rfl (hb hby at_163) rfl ?_
     refine og_icmp_ne (pc1 := 179) (pc2 := 168) X85 hx (hb hby at_165) (by decide) (by decide) rfl (fun hc165 => ?_) (fun hc165 => ?_)
     ·
      refine og_iload X85 hx rfl (hb hby at_179) rfl ?_
      refine og_if_le (pc1 := 213) (pc2 := 184) X85 hx (hb hby at_181) (by decide) (by decide) rfl (fun q => absurd q (by decide)) (fun _ => ?_)
      refine og_iload X85 hx rfl (hb hby at_184) rfl ?_
      refine og_if_eq (pc1 := 209) (pc2 := 189) X85 hx (hb hby at_186) (by decide) (by decide) rfl (fun q => absurd q (by decide)) (fun _ => ?_)
      refine og_iload X85 hx rfl (hb hby at_189) rfl ?_
      refine og_iconst (v := (1 : Int32)) X85 hx rfl (hb hby at_191) rfl ?_
      refine og_icmp_ne (pc1 := 213) (pc2 := 195) X85 hx (hb hby at_192) (by decide) (by decide) rfl (fun _ => ?_) (fun q => absurd q (by decide))
      refine og_iconst (v := (0 : Int32)) X85 hx rfl (hb hby at_213) rfl ?_
      refine og_istore (L' := #[.val (.int p0), .val (.int p1), .val (.int p2), .val (.int p3), .val (.int p4), .val (.int 4), .val (.ref nb76), .val (.ref na85), .val (.int 0), .val (.int 2), .val (.int 0), .unset, .unset, .unset]) X85 hx rfl (hb hby at_214) rfl ?_
      refine og_iload X85 hx rfl (hb hby at_216) rfl ?_
      refine og_if_ne (pc1 := 223) (pc2 := 221) X85 hx (hb hby at_218) (by decide) (by decide) rfl (fun q => absurd q (by decide)) (fun _ => ?_)
      refine og_iconst (v := (1 : Int32)) X85 hx rfl (hb hby at_221) rfl ?_
      refine og_retNW X85 hx hZ hlk hEL hS e85 es hk CR hret (by simp) (hb hby at_222) (by decide) (by decide) ?_
      exact ⟨rfl, N⟩
     ·
      subst hc165
      have V_nb85 : Arv Z h85 nb85 k85 .byte (4 : Int32) [(.int 46), (.int c1.toInt8.toInt32), (.int 46), (.int 46)] (.int 0) := V_nb85
      refine og_iinc (L' := #[.val (.int p0), .val (.int p1), .val (.int p2), .val (.int p3), .val (.int p4), .val (.int 4), .val (.ref nb76), .val (.ref na85), .val (.int 0), .val (.int 3), .unset, .unset, .unset, .unset]) (w := (1 : Int32)) X85 hx rfl rfl rfl (hb hby at_168) rfl ?_
      refine og_iload X85 hx rfl (hb hby at_171) rfl ?_
      refine og_if_ge (pc1 := 179) (pc2 := 176) X85 hx (hb hby at_173) (by decide) (by decide) rfl (fun _ => ?_) (fun q => absurd q (by decide))
      refine og_iload X85 hx rfl (hb hby at_179) rfl ?_
      refine og_if_le (pc1 := 213) (pc2 := 184) X85 hx (hb hby at_181) (by decide) (by decide) rfl (fun q => absurd q (by decide)) (fun _ => ?_)
      refine og_iload X85 hx rfl (hb hby at_184) rfl ?_
      refine og_if_eq (pc1 := 209) (pc2 := 189) X85 hx (hb hby at_186) (by decide) (by decide) rfl (fun q => absurd q (by decide)) (fun _ => ?_)
      refine og_iload X85 hx rfl (hb hby at_189) rfl ?_
      refine og_iconst (v := (1 : Int32)) X85 hx rfl (hb hby at_191) rfl ?_
      refine og_icmp_ne (pc1 := 213) (pc2 := 195) X85 hx (hb hby at_192) (by decide) (by decide) rfl (fun _ => ?_) (fun q => absurd q (by decide))
      refine og_iconst (v := (0 : Int32)) X85 hx rfl (hb hby at_213) rfl ?_
      refine og_istore (L' := #[.val (.int p0), .val (.int p1), .val (.int p2), .val (.int p3), .val (.int p4), .val (.int 4), .val (.ref nb76), .val (.ref na85), .val (.int 0), .val (.int 3), .val (.int 0), .unset, .unset, .unset]) X85 hx rfl (hb hby at_214) rfl ?_
      refine og_iload X85 hx rfl (hb hby at_216) rfl ?_
      refine og_if_ne (pc1 := 223) (pc2 := 221) X85 hx (hb hby at_218) (by decide) (by decide) rfl (fun q => absurd q (by decide)) (fun _ => ?_)
      refine og_iconst (v := (1 : Int32)) X85 hx rfl (hb hby at_221) rfl ?_
      refine og_retNW X85 hx hZ hlk hEL hS e85 es hk CR hret (by simp) (hb hby at_222) (by decide) (by decide) ?_
      exact ⟨rfl, N⟩
   ·
    subst hc113
    have V_nb85 : Arv Z h85 nb85 k85 .byte (4 : Int32) [(.int 46), (.int 46), (.int c2.toInt8.toInt32), (.int c3.toInt8.toInt32)] (.int 0) := V_nb85
    refine og_iinc (L' := #[.val (.int p0), .val (.int p1), .val (.int p2), .val (.int p3), .val (.int p4), .val (.int 4), .val (.ref nb76), .val (.ref na85), .val (.int 0), .val (.int 2), .unset, .unset, .unset, .unset]) (w := (1 : Int32)) X85 hx rfl rfl rfl (hb hby at_116) rfl ?_
    refine og_iload X85 hx rfl (hb hby at_119) rfl ?_
    refine og_if_ge (pc1 := 127) (pc2 := 124) X85 hx (hb hby at_121) (by decide) (by decide) rfl (fun _ => ?_) (fun q => absurd q (by decide))
    refine og_iload X85 hx rfl (hb hby at_127) rfl ?_
    refine og_iconst (v := (2 : Int32)) X85 hx rfl (hb hby at_129) rfl ?_
    refine og_icmp_le (pc1 := 153) (pc2 := 133) X85 hx (hb hby at_130) (by decide) (by decide) rfl (fun q => absurd q (by decide)) (fun _ => ?_)
    refine og_aload X85 hx rfl rfl (hb hby at_133) rfl ?_
    refine og_iconst (v := (2 : Int32)) X85 hx rfl (hb hby at_135) rfl ?_
    refine og_caload (v := (.int c2)) X85 hx hZ e85 V_nb76 ⟨by decide, by decide⟩ rfl (hb hby at_136) rfl ?_
    refine og_bipush (v := (46 : Int32)) X85 hx rfl (hb hby at_137) rfl ?_
    refine og_icmp_ne (pc1 := 153) (pc2 := 142) X85 hx (hb hby at_139) (by decide) (by decide) rfl (fun hc139 => ?_) (fun hc139 => ?_)
    ·
     refine og_iload X85 hx rfl (hb hby at_153) rfl ?_
     refine og_iconst (v := (3 : Int32)) X85 hx rfl (hb hby at_155) rfl ?_
     refine og_icmp_le (pc1 := 179) (pc2 := 159) X85 hx (hb hby at_156) (by decide) (by decide) rfl (fun q => absurd q (by decide)) (fun _ => ?_)
     refine og_aload X85 hx rfl rfl (hb hby at_159) rfl ?_
     refine og_iconst (v := (3 : Int32)) X85 hx rfl (hb hby at_161) rfl ?_
     refine og_caload (v := (.int c3)) X85 hx hZ e85 V_nb76 ⟨by decide, by decide⟩ rfl (hb hby at_162) rfl ?_
     refine og_bipush (v := (46 : Int32)) X85 hx rfl (hb hby at_163) rfl ?_
     refine og_icmp_ne (pc1 := 179) (pc2 := 168) X85 hx (hb hby at_165) (by decide) (by decide) rfl (fun hc165 => ?_) (fun hc165 => ?_)
     ·
      refine og_iload X85 hx rfl (hb hby at_179) rfl ?_
      refine og_if_le (pc1 := 213) (pc2 := 184) X85 hx (hb hby at_181) (by decide) (by decide) rfl (fun q => absurd q (by decide)) (fun _ => ?_)
      refine og_iload X85 hx rfl (hb hby at_184) rfl ?_
      refine og_if_eq (pc1 := 209) (pc2 := 189) X85 hx (hb hby at_186) (by decide) (by decide) rfl (fun q => absurd q (by decide)) (fun _ => ?_)
      refine og_iload X85 hx rfl (hb hby at_189) rfl ?_
      refine og_iconst (v := (1 : Int32)) X85 hx rfl (hb hby at_191) rfl ?_
      refine og_icmp_ne (pc1 := 213) (pc2 := 195) X85 hx (hb hby at_192) (by decide) (by decide) rfl (fun _ => ?_) (fun q => absurd q (by decide))
      refine og_iconst (v := (0 : Int32)) X85 hx rfl (hb hby at_213) rfl ?_
      refine og_istore (L' := #[.val (.int p0), .val (.int p1), .val (.int p2), .val (.int p3), .val (.int p4), .val (.int 4), .val (.ref nb76), .val (.ref na85), .val (.int 0), .val (.int 2), .val (.int 0), .unset, .unset, .unset]) X85 hx rfl (hb hby at_214) rfl ?_
      refine og_iload X85 hx rfl (hb hby at_216) rfl ?_
      refine og_if_ne (pc1 := 223) (pc2 := 221) X85 hx (hb hby at_218) (by decide) (by decide) rfl (fun q => absurd q (by decide)) (fun _ => ?_)
      refine og_iconst (v := (1 : Int32)) X85 hx rfl (hb hby at_221) rfl ?_
      refine og_retNW X85 hx hZ hlk hEL hS e85 es hk CR hret (by simp) (hb hby at_222) (by decide) (by decide) ?_
      exact ⟨rfl, N⟩
     ·
      subst hc165
      have V_nb85 : Arv Z h85 nb85 k85 .byte (4 : Int32) [(.int 46), (.int 46), (.int c2.toInt8.toInt32), (.int 46)] (.int 0) := V_nb85
      refine og_iinc (L' := #[.val (.int p0), .val (.int p1), .val (.int p2), .val (.int p3), .val (.int p4), .val (.int 4), .val (.ref nb76), .val (.ref na85), .val (.int 0), .val (.int 3), .unset, .unset, .unset, .unset]) (w := (1 : Int32)) X85 hx rfl rfl rfl (hb hby at_168) rfl ?_
      refine og_iload X85 hx rfl (hb hby at_171) rfl ?_
      refine og_if_ge (pc1 := 179) (pc2 := 176) X85 hx (hb hby at_173) (by decide) (by decide) rfl (fun _ => ?_) (fun q => absurd q (by decide))
      refine og_iload X85 hx rfl (hb hby at_179) rfl ?_
      refine og_if_le (pc1 := 213) (pc2 := 184) X85 hx (hb hby at_181) (by decide) (by decide) rfl (fun q => absurd q (by decide)) (fun _ => ?_)
      refine og_iload X85 hx rfl (hb hby at_184) rfl ?_
      refine og_if_eq (pc1 := 209) (pc2 := 189) X85 hx (hb hby at_186) (by decide) (by decide) rfl (fun q => absurd q (by decide)) (fun _ => ?_)
      refine og_iload X85 hx rfl (hb hby at_189) rfl ?_
      refine og_iconst (v := (1 : Int32)) X85 hx rfl (hb hby at_191) rfl ?_
      refine og_icmp_ne (pc1 := 213) (pc2 := 195) X85 hx (hb hby at_192) (by decide) (by decide) rfl (fun _ => ?_) (fun q => absurd q (by decide))
      refine og_iconst (v := (0 : Int32)) X85 hx rfl (hb hby at_213) rfl ?_
      refine og_istore (L' := #[.val (.int p0), .val (.int p1), .val (.int p2), .val (.int p3), .val (.int p4), .val (.int 4), .val (.ref nb76), .val (.ref na85), .val (.int 0), .val (.int 3), .val (.int 0), .unset, .unset, .unset]) X85 hx rfl (hb hby at_214) rfl ?_
      refine og_iload X85 hx rfl (hb hby at_216) rfl ?_
      refine og_if_ne (pc1 := 223) (pc2 := 221) X85 hx (hb hby at_218) (by decide) (by decide) rfl (fun q => absurd q (by decide)) (fun _ => ?_)
      refine og_iconst (v := (1 : Int32)) X85 hx rfl (hb hby at_221) rfl ?_
      refine og_retNW X85 hx hZ hlk hEL hS e85 es hk CR hret (by simp) (hb hby at_222) (by decide) (by decide) ?_
      exact ⟨rfl, N⟩
    ·
     subst hc139
     have V_nb85 : Arv Z h85 nb85 k85 .byte (4 : Int32) [(.int 46), (.int 46), (.int 46), (.int c3.toInt8.toInt32)] (.int 0) := V_nb85
     refine og_iinc (L' := #[.val (.int p0), .val (.int p1), .val (.int p2), .val (.int p3), .val (.int p4), .val (.int 4), .val (.ref nb76), .val (.ref na85), .val (.int 0), .val (.int 3), .unset, .unset, .unset, .unset]) (w := (1 : Int32)) X85 hx rfl rfl rfl (hb hby at_142) rfl ?_
     refine og_iload X85 hx rfl (hb hby at_145) rfl ?_
     refine og_if_ge (pc1 := 153) (pc2 := 150) X85 hx (hb hby at_147) (by decide) (by decide) rfl (fun _ => ?_) (fun q => absurd q (by decide))
     refine og_iload X85 hx rfl (hb hby at_153) rfl ?_
     refine og_iconst (v := (3 : Int32)) X85 hx rfl (hb hby at_155) rfl ?_
     refine og_icmp_le (pc1 := 179) (pc2 := 159) X85 hx (hb hby at_156) (by decide) (by decide) rfl (fun q => absurd q (by decide)) (fun _ => ?_)
     refine og_aload X85 hx rfl rfl (hb hby at_159) rfl ?_
     refine og_iconst (v := (3 : Int32)) X85 hx rfl (hb hby at_161) rfl ?_
     refine og_caload (v := (.int c3)) X85 hx hZ e85 V_nb76 ⟨by decide, by decide⟩ rfl (hb hby at_162) rfl ?_
     refine og_bipush (v := (46 : Int32)) X85 hx rfl (hb hby at_163) rfl ?_
     refine og_icmp_ne (pc1 := 179) (pc2 := 168) X85 hx (hb hby at_165) (by decide) (by decide) rfl (fun hc165 => ?_) (fun hc165 => ?_)
     ·
      refine og_iload X85 hx rfl (hb hby at_179) rfl ?_
      refine og_if_le (pc1 := 213) (pc2 := 184) X85 hx (hb hby at_181) (by decide) (by decide) rfl (fun q => absurd q (by decide)) (fun _ => ?_)
      refine og_iload X85 hx rfl (hb hby at_184) rfl ?_
      refine og_if_eq (pc1 := 209) (pc2 := 189) X85 hx (hb hby at_186) (by decide) (by decide) rfl (fun q => absurd q (by decide)) (fun _ => ?_)
      refine og_iload X85 hx rfl (hb hby at_189) rfl ?_
      refine og_iconst (v := (1 : Int32)) X85 hx rfl (hb hby at_191) rfl ?_
      refine og_icmp_ne (pc1 := 213) (pc2 := 195) X85 hx (hb hby at_192) (by decide) (by decide) rfl (fun _ => ?_) (fun q => absurd q (by decide))
      refine og_iconst (v := (0 : Int32)) X85 hx rfl (hb hby at_213) rfl ?_
      refine og_istore (L' := #[.val (.int p0), .val (.int p1), .val (.int p2), .val (.int p3), .val (.int p4), .val (.int 4), .val (.ref nb76), .val (.ref na85), .val (.int 0), .val (.int 3), .val (.int 0), .unset, .unset, .unset]) X85 hx rfl (hb hby at_214) rfl ?_
      refine og_iload X85 hx rfl (hb hby at_216) rfl ?_
      refine og_if_ne (pc1 := 223) (pc2 := 221) X85 hx (hb hby at_218) (by decide) (by decide) rfl (fun q => absurd q (by decide)) (fun _ => ?_)
      refine og_iconst (v := (1 : Int32)) X85 hx rfl (hb hby at_221) rfl ?_
      refine og_retNW X85 hx hZ hlk hEL hS e85 es hk CR hret (by simp) (hb hby at_222) (by decide) (by decide) ?_
      exact ⟨rfl, N⟩
     ·
      subst hc165
      have V_nb85 : Arv Z h85 nb85 k85 .byte (4 : Int32) [(.int 46), (.int 46), (.int 46), (.int 46)] (.int 0) := V_nb85
      refine og_iinc (L' := #[.val (.int p0), .val (.int p1), .val (.int p2), .val (.int p3), .val (.int p4), .val (.int 4), .val (.ref nb76), .val (.ref na85), .val (.int 0), .val (.int 4), .unset, .unset, .unset, .unset]) (w := (1 : Int32)) X85 hx rfl rfl rfl (hb hby at_168) rfl ?_
      refine og_iload X85 hx rfl (hb hby at_171) rfl ?_
      refine og_if_ge (pc1 := 179) (pc2 := 176) X85 hx (hb hby at_173) (by decide) (by decide) rfl (fun _ => ?_) (fun q => absurd q (by decide))
      refine og_iload X85 hx rfl (hb hby at_179) rfl ?_
      refine og_if_le (pc1 := 213) (pc2 := 184) X85 hx (hb hby at_181) (by decide) (by decide) rfl (fun q => absurd q (by decide)) (fun _ => ?_)
      refine og_iload X85 hx rfl (hb hby at_184) rfl ?_
      refine og_if_eq (pc1 := 209) (pc2 := 189) X85 hx (hb hby at_186) (by decide) (by decide) rfl (fun q => absurd q (by decide)) (fun _ => ?_)
      refine og_iload X85 hx rfl (hb hby at_189) rfl ?_
      refine og_iconst (v := (1 : Int32)) X85 hx rfl (hb hby at_191) rfl ?_
      refine og_icmp_ne (pc1 := 213) (pc2 := 195) X85 hx (hb hby at_192) (by decide) (by decide) rfl (fun _ => ?_) (fun q => absurd q (by decide))
      refine og_iconst (v := (0 : Int32)) X85 hx rfl (hb hby at_213) rfl ?_
      refine og_istore (L' := #[.val (.int p0), .val (.int p1), .val (.int p2), .val (.int p3), .val (.int p4), .val (.int 4), .val (.ref nb76), .val (.ref na85), .val (.int 0), .val (.int 4), .val (.int 0), .unset, .unset, .unset]) X85 hx rfl (hb hby at_214) rfl ?_
      refine og_iload X85 hx rfl (hb hby at_216) rfl ?_
      refine og_if_ne (pc1 := 223) (pc2 := 221) X85 hx (hb hby at_218) (by decide) (by decide) rfl (fun q => absurd q (by decide)) (fun _ => ?_)
      refine og_iconst (v := (1 : Int32)) X85 hx rfl (hb hby at_221) rfl ?_
      refine og_retNW X85 hx hZ hlk hEL hS e85 es hk CR hret (by simp) (hb hby at_222) (by decide) (by decide) ?_
      exact ⟨rfl, N⟩
theorem comes_1 {Post : Tables → Env → Array Value → State → Outcome → State → Prop} (hpost : ∀ tb e args s v u, (limb_1_1.after args s (.returned v) u = true ∧ limb_1_2.after args s (.returned v) u = true ∧ True) → ReturnedEndW s (.returned v) u (Jvm.fieldLocs frame_1_writes args s ++ Jvm.arrayLocs frame_1_arrays args s ++ Jvm.staticLocs frame_1_statics s) 56 6336 → Post tb e args s (.returned v) u) :
    ArmFor flags0 classFile x code maxLocals ret World_1 tables_1 room_1 Calls_1 rest_1 Pre_1 Post := by
  intro l hfl _ _ p e ha hc hk s m args below hf hA hF happ hP
  obtain ⟨hcalls, hrest, hpre⟩ := hP
  obtain ⟨-, -, -, hnamed, -, -, -, hat⟩ := (Spec.applies_iff hf).mp happ
  obtain ⟨hg, hn⟩ := and_e (Cond.before_iff.mp (show (Jvm.Cond.and given_1 narrow_1).before args s = true from hpre))
  obtain ⟨g2, g3⟩ := and_e hg
  obtain ⟨g4, g5⟩ := and_e g3
  obtain ⟨g6, g7⟩ := and_e g5
  obtain ⟨g8, g9⟩ := and_e g7
  obtain ⟨g10, g11⟩ := and_e g9
  obtain ⟨w0, w1, w2, w3, w4, rfl⟩ : ∃ w0 w1 w2 w3 w4 : Value, args = #[w0, w1, w2, w3, w4] := by
    have hs : args.size = 5 := by simpa [Cond.value, given_1] using g2
    obtain ⟨L⟩ := args
    match L, hs with
    | [w0, w1, w2, w3, w4], _ => exact ⟨w0, w1, w2, w3, w4, rfl⟩
  have hw := fun d (hd : d ∈ tables_1) => atoms_spec (ws := Jvm.Cond.code x code maxLocals ret :: tables_1) hat d (List.mem_cons_of_mem _ hd)
  have hfit : Fit s := fun {y c} hc i hi => by
    obtain ⟨ha, rfl⟩ := Array.getElem?_eq_some_iff.mp hc
    have q := List.all_eq_true.mp ((Array.all_eq_true_iff_forall_mem.mp hF) _ (Array.getElem_mem ha)) i (List.mem_range.mpr hi)
    simpa [Array.getElem?_eq_getElem hi] using q
  obtain ⟨hsets, hown0⟩ := atoms_of _ (rest_1_c_eq ▸ (show rest_1_c.before _ s = true from hrest))
  obtain ⟨i0, ei0⟩ := is_v g4
  obtain rfl : w0 = (.int i0) := Option.some.inj ei0
  obtain ⟨i1, ei1⟩ := is_v g6
  obtain rfl : w1 = (.int i1) := Option.some.inj ei1
  obtain ⟨i2, ei2⟩ := is_v g8
  obtain rfl : w2 = (.int i2) := Option.some.inj ei2
  obtain ⟨i3, ei3⟩ := is_v g10
  obtain rfl : w3 = (.int i3) := Option.some.inj ei3
  obtain ⟨i4, ei4⟩ := is_v g11
  obtain rfl : w4 = (.int i4) := Option.some.inj ei4
  obtain ⟨cs, ecs⟩ := is_v (Cond.before_iff.mp (hsets _ (List.mem_of_getElem? (i := 1) rfl)))
  have S_CS := Sta.start ecs (Or.inl (hsets _ (List.mem_of_getElem? (i := 0) rfl)))
  have hcs : ¬ cs = 0 := own_ne0 ecs (Cond.before_iff.mp (hsets _ (List.mem_of_getElem? (i := 2) rfl)))
  obtain ⟨fm, efm, hfm⟩ := isR_v (Cond.before_iff.mp (hsets _ (List.mem_of_getElem? (i := 8) rfl)))
  have S_FM := Sta.start efm (Or.inl (hsets _ (List.mem_of_getElem? (i := 7) rfl)))
  obtain ⟨n, o, h1, h2, h3, _, L, rfl, ⟨rfl, N⟩, -, hq⟩ := rm0 l s _ hw tables_1 i0 i1 i2 i3 i4 cs hcs fm hfm s.heap s.heap.size (Old.start s) (own_hEL hw) S_CS S_FM p e ha hc hk s m _ below hf ((Spec.applies_iff_loose hf).mp happ).1 ⟨rfl, State.Warmed39.refl s, rfl, (CHv.start (own_hEL hw) (fun p hp => own_held hcalls.1 p hp) (hsets _ (List.mem_of_getElem? (i := 2) rfl)) (ow23 hw) (ow10 hw)), all0⟩ trivial
  refine ⟨n, _, h1, h2, h3, hpost _ _ _ _ _ _ ⟨Cond.after_iff.mpr rfl, Cond.after_iff.mpr (eq_i res_at (Term.int_eval (1)) rfl), trivial⟩ ⟨hq.1, hq.2.1, hq.2.2.1, (hq.2.2.2.sift fun y hy => Or.inr (N y hy)).mono (by decide) (by decide)⟩⟩
theorem main_1_1 : Claimed_1_1 := comes_1 fun _ _ _ _ _ _ h hF => ⟨h.1, hF⟩
theorem main_1_2 : Claimed_1_2 := comes_1 fun _ _ _ _ _ _ h hF => ⟨h.2.1, hF⟩
end Jvm.Pilot.@@N@@
namespace Jvm.Pilot.@@N@@
open Jvm Jvm.ClassFile Sem Op Lib Jvm.Free Jvm.Stand Jvm.Pilot.@@N@@.Jvm.D
/-! MADE BY PROGRAM (witnessworld.py) out of the Statement's table words and the real class files: 25 classes; the members and pool entries that the words name. The judged class is class 1, her method 3. -/
namespace start1
open Jvm.ClassFile
def u (s : String) : CpInfo := .utf8 (stringToUtf16 s)
/-- a pool by its gaps: so many unusable entries, then the entry; so many at the end -/
def gap : Nat → List CpInfo → List CpInfo
  | 0, r => r
  | n + 1, r => .unusable :: gap n r
def poolList (es : List (Nat × CpInfo)) (last : Nat) : List CpInfo := es.foldr (fun e r => gap e.1 (e.2 :: r)) (gap last [])
def pool (es : List (Nat × CpInfo)) (last : Nat) : Array CpInfo := ⟨poolList es last⟩
def fileOf (pool : Array CpInfo) (this : Nat) (attrs : Array Attribute := #[]) (ms : Array MethodInfo := #[]) (fl : Nat := 33) (sup : Nat := 0) (ifs : Array Nat := #[]) (fds : Array FieldInfo := #[]) : ClassFile where
  minorVersion := 0
  majorVersion := 65
  constantPool := pool
  accessFlags := fl
  thisClass := this
  superClass := sup
  interfaces := ifs
  fields := fds
  methods := ms
  attributes := attrs
def plain (name : String) (sup : Option ClassId) : Class where
  name := name
  kind := .ordinary
  loader := none
  accessFlags := 33
  super := sup
  interfaces := #[]
  cf := none
  fields := #[]
  methods := #[]
  instanceTypes := #[]
  staticTypes := #[]
  resolved := #[]
  callSites := []
  init := .initialized
  statics := none
  mirror := none

def pool0 : Array CpInfo := pool [(5, u "<init>"), (0, u "()V"), (1, .class_ 10), (1, u "java/lang/Object")] 113

def k0c0 : Code := { maxStack := 0, maxLocals := 1, code := object_method_1_code, exceptionTable := #[], attributes := #[] }
def k0m0 : Method := { name := "<init>", desc := "()V", sig := { parameters := [], returnType := none }, accessFlags := 1, code := some k0c0 }
/-- java/lang/Object -/
def k0 : Class := { plain "java/lang/Object" none with
  accessFlags := 33
  interfaces := #[]
  cf := some (fileOf pool0 8 #[] #[{ accessFlags := 1, nameIndex := 5, descriptorIndex := 6, attributes := #[] }] 33 0 #[] #[])
  fields := #[]
  methods := #[k0m0]
  instanceTypes := #[]
  staticTypes := #[]
  resolved := Array.replicate 124 none
  statics := none }

def pool1 : Array CpInfo := pool [(2, .class_ 4), (1, u "java/lang/Object"), (0, u "<init>"), (0, u "()V"), (0, .class_ 8), (0, u "java/lang/String"), (0, .methodref 7 10), (0, .nameAndType 5 11), (0, u "([C)V"), (0, .integer 2147483647), (0, .methodref 14 15), (0, .class_ 16), (0, .nameAndType 17 18), (0, u "com/example/tombstone/tombstone/config/TableNameParsePinLaw"), (0, u "ch"), (0, u "(I)C"), (0, .methodref 14 20), (0, .nameAndType 21 22), (0, u "mk"), (0, u "(ICCCC)Ljava/lang/String;"), (0, .methodref 24 25), (0, .class_ 26), (0, .nameAndType 27 28), (0, u "com/example/tombstone/tombstone/config/TableName"), (0, u "parse"), (0, u "(Ljava/lang/String;)Lcom/example/tombstone/tombstone/config/TableName;"), (0, .methodref 24 30), (0, .nameAndType 31 32), (0, u "schema"), (0, u "()Ljava/lang/String;"), (0, .string 34), (0, u "public"), (0, .methodref 7 36), (0, .nameAndType 37 38), (0, u "equals"), (0, u "(Ljava/lang/Object;)Z"), (0, .methodref 24 40), (0, .nameAndType 41 32), (0, u "name"), (3, u "law"), (0, u "(IIIII)Z")] 4

def k1m0 : Method := { name := "<init>", desc := "()V", sig := { parameters := [], returnType := none }, accessFlags := 1, code := none }
def k1c1 : Code := { maxStack := 2, maxLocals := 1, code := method_2_code, exceptionTable := #[], attributes := #[] }
def k1m1 : Method := { name := "ch", desc := "(I)C", sig := { parameters := [.int], returnType := some .char }, accessFlags := 10, code := some k1c1 }
def k1c2 : Code := { maxStack := 3, maxLocals := 6, code := method_3_code, exceptionTable := #[], attributes := #[] }
def k1m2 : Method := { name := "mk", desc := "(ICCCC)Ljava/lang/String;", sig := { parameters := [.int, .char, .char, .char, .char], returnType := some (.object "java/lang/String") }, accessFlags := 10, code := some k1c2 }
def k1c3 : Code := { maxStack := 7, maxLocals := 14, code := code, exceptionTable := #[], attributes := #[] }
def k1m3 : Method := { name := "law", desc := "(IIIII)Z", sig := { parameters := [.int, .int, .int, .int, .int], returnType := some .boolean }, accessFlags := 9, code := some k1c3 }
/-- com/example/tombstone/tombstone/config/TableNameParsePinLaw -/
def k1 : Class := { plain "com/example/tombstone/tombstone/config/TableNameParsePinLaw" (some 0) with
  accessFlags := 49
  interfaces := #[]
  cf := some (fileOf pool1 14 #[] #[{ accessFlags := 1, nameIndex := 5, descriptorIndex := 6, attributes := #[] }, { accessFlags := 10, nameIndex := 17, descriptorIndex := 18, attributes := #[] }, { accessFlags := 10, nameIndex := 21, descriptorIndex := 22, attributes := #[] }, { accessFlags := 9, nameIndex := 45, descriptorIndex := 46, attributes := #[] }] 49 2 #[] #[])
  fields := #[]
  methods := #[k1m0, k1m1, k1m2, k1m3]
  instanceTypes := #[]
  staticTypes := #[]
  resolved := Array.replicate 51 none
  statics := none }

def pool2 : Array CpInfo := pool [(1, .class_ 2), (0, u "java/io/Serializable"), (0, .class_ 4), (0, u "java/lang/Object")] 2

/-- java/io/Serializable -/
def k2 : Class := { plain "java/io/Serializable" (some 0) with
  accessFlags := 1537
  interfaces := #[]
  cf := some (fileOf pool2 1 #[] #[] 1537 3 #[] #[])
  fields := #[]
  methods := #[]
  instanceTypes := #[]
  staticTypes := #[]
  resolved := Array.replicate 7 none
  statics := none }

def pool3 : Array CpInfo := pool [(1, .class_ 2), (0, u "java/lang/Comparable"), (0, .class_ 4), (0, u "java/lang/Object")] 7

/-- java/lang/Comparable -/
def k3 : Class := { plain "java/lang/Comparable" (some 0) with
  accessFlags := 1537
  interfaces := #[]
  cf := some (fileOf pool3 1 #[] #[] 1537 3 #[] #[])
  fields := #[]
  methods := #[]
  instanceTypes := #[]
  staticTypes := #[]
  resolved := Array.replicate 12 none
  statics := none }

def pool4 : Array CpInfo := pool [(2, .class_ 4), (1, u "java/lang/CharSequence"), (42, .class_ 48), (0, u "java/lang/CharSequence$1CodePointIterator"), (10, .class_ 60), (0, u "java/lang/CharSequence$1CharIterator"), (5, .class_ 67), (0, u "java/lang/Object")] 63

/-- java/lang/CharSequence -/
def k4 : Class := { plain "java/lang/CharSequence" (some 0) with
  accessFlags := 1537
  interfaces := #[]
  cf := some (fileOf pool4 2 #[.nestMembers #[47, 59]] #[] 1537 66 #[] #[])
  fields := #[]
  methods := #[]
  instanceTypes := #[]
  staticTypes := #[]
  resolved := Array.replicate 131 none
  statics := none }

def pool5 : Array CpInfo := pool [(1, .class_ 2), (0, u "java/lang/constant/Constable"), (0, .class_ 4), (0, u "java/lang/Object")] 6

/-- java/lang/constant/Constable -/
def k5 : Class := { plain "java/lang/constant/Constable" (some 0) with
  accessFlags := 1537
  interfaces := #[]
  cf := some (fileOf pool5 1 #[] #[] 1537 3 #[] #[])
  fields := #[]
  methods := #[]
  instanceTypes := #[]
  staticTypes := #[]
  resolved := Array.replicate 11 none
  statics := none }

def pool6 : Array CpInfo := pool [(1, .class_ 2), (0, u "java/lang/constant/ConstantDesc"), (0, .class_ 4), (0, u "java/lang/Object")] 32

/-- java/lang/constant/ConstantDesc -/
def k6 : Class := { plain "java/lang/constant/ConstantDesc" (some 0) with
  accessFlags := 1537
  interfaces := #[]
  cf := some (fileOf pool6 1 #[] #[] 1537 3 #[] #[])
  fields := #[]
  methods := #[]
  instanceTypes := #[]
  staticTypes := #[]
  resolved := Array.replicate 37 none
  statics := none }

def pool7 : Array CpInfo := pool [(1, .methodref 2 3), (0, .class_ 4), (0, .nameAndType 5 6), (0, u "java/lang/Object"), (0, u "<init>"), (0, u "()V"), (0, .string 8), (0, u ""), (0, .fieldref 10 11), (0, .class_ 12), (0, .nameAndType 13 14), (0, u "java/lang/String"), (0, u "value"), (0, u "[B"), (0, .fieldref 10 16), (0, .nameAndType 17 18), (0, u "coder"), (0, u "B"), (2, u "hash"), (0, u "I"), (2, u "hashIsZero"), (0, u "Z"), (0, .methodref 10 28), (0, .nameAndType 5 29), (0, u "([CIILjava/lang/Void;)V"), (8, .fieldref 10 39), (0, .nameAndType 40 26), (0, u "COMPACT_STRINGS"), (1, .class_ 44), (1, u "java/lang/StringUTF16"), (0, u "compress"), (1, .methodref 42 48), (0, .nameAndType 49 50), (0, u "coderFromArrayLen"), (0, u "([BI)B"), (56, .class_ 109), (1, u "java/lang/StringLatin1"), (32, u "()Z"), (34, .methodref 42 178), (0, .nameAndType 45 179), (0, u "([CII)[B"), (31, u "([BB)V"), (122, u "()I"), (0, .methodref 10 336), (0, .nameAndType 17 337), (0, u "()B"), (154, .methodref 10 493), (0, .nameAndType 494 142), (0, u "isLatin1"), (10, .methodref 10 506), (0, .nameAndType 507 334), (0, u "length"), (5, u "checkFromToIndex"), (7, .methodref 10 522), (0, .nameAndType 523 524), (0, u "checkBoundsBeginEnd"), (0, u "(III)V"), (16, .methodref 107 542), (0, .nameAndType 543 544), (0, u "equals"), (0, u "([B[B)Z"), (28, u "(Ljava/lang/Object;)Z"), (1, .class_ 576), (0, u "java/lang/CharSequence"), (22, u "CASE_INSENSITIVE_ORDER"), (0, u "Ljava/util/Comparator;"), (32, .methodref 10 634), (0, .nameAndType 635 636), (0, u "indexOf"), (0, u "(II)I"), (0, .methodref 107 638), (0, .nameAndType 635 639), (0, u "([BIII)I"), (41, .methodref 10 682), (0, .nameAndType 683 684), (0, u "substring"), (0, u "(II)Ljava/lang/String;"), (0, .methodref 107 686), (0, .nameAndType 687 688), (0, u "newString"), (0, u "([BII)Ljava/lang/String;"), (3, u "isEmpty"), (72, u "(I)I"), (126, u "(I)Ljava/lang/String;"), (117, u "([C)V"), (42, .fieldref 1054 1055), (0, .class_ 1056), (0, .nameAndType 1057 1058), (0, u "jdk/internal/util/Preconditions"), (0, u "SIOOBE_FORMATTER"), (0, u "Ljava/util/function/BiFunction;"), (3, .methodref 1054 1063), (0, .nameAndType 513 1064), (0, u "(IIILjava/util/function/BiFunction;)I"), (36, u "serialPersistentFields"), (0, u "[Ljava/io/ObjectStreamField;"), (0, .class_ 1104), (0, u "java/lang/String$CaseInsensitiveComparator"), (1, .class_ 1107), (0, u "java/io/Serializable"), (0, .class_ 1109), (0, u "java/lang/Comparable"), (0, .class_ 1111), (0, u "java/lang/constant/Constable"), (0, .class_ 1113), (0, u "java/lang/constant/ConstantDesc"), (2, u "serialVersionUID"), (0, u "J"), (3, u "REPL"), (0, u "C"), (2, u "LATIN1"), (1, u "UTF16")] 323

def k7m0 : Method := { name := "<init>", desc := "()V", sig := { parameters := [], returnType := none }, accessFlags := 1, code := none }
def k7c1 : Code := { maxStack := 5, maxLocals := 2, code := jdk_42_method_3_code, exceptionTable := #[], attributes := #[] }
def k7m1 : Method := { name := "<init>", desc := "([C)V", sig := { parameters := [(.array .char)], returnType := none }, accessFlags := 1, code := some k7c1 }
def k7c2 : Code := { maxStack := 2, maxLocals := 1, code := jdk_42_method_54_code, exceptionTable := #[], attributes := #[] }
def k7m2 : Method := { name := "length", desc := "()I", sig := { parameters := [], returnType := some .int }, accessFlags := 1, code := some k7c2 }
def k7c3 : Code := { maxStack := 1, maxLocals := 1, code := jdk_42_method_55_code, exceptionTable := #[], attributes := #[] }
def k7m3 : Method := { name := "isEmpty", desc := "()Z", sig := { parameters := [], returnType := some .boolean }, accessFlags := 1, code := some k7c3 }
def k7c4 : Code := { maxStack := 2, maxLocals := 3, code := jdk_42_method_66_code, exceptionTable := #[], attributes := #[] }
def k7m4 : Method := { name := "equals", desc := "(Ljava/lang/Object;)Z", sig := { parameters := [(.object "java/lang/Object")], returnType := some .boolean }, accessFlags := 1, code := some k7c4 }
def k7c5 : Code := { maxStack := 3, maxLocals := 2, code := jdk_42_method_79_code, exceptionTable := #[], attributes := #[] }
def k7m5 : Method := { name := "indexOf", desc := "(I)I", sig := { parameters := [.int], returnType := some .int }, accessFlags := 1, code := some k7c5 }
def k7c6 : Code := { maxStack := 4, maxLocals := 3, code := jdk_42_method_80_code, exceptionTable := #[], attributes := #[] }
def k7m6 : Method := { name := "indexOf", desc := "(II)I", sig := { parameters := [.int, .int], returnType := some .int }, accessFlags := 1, code := some k7c6 }
def k7c7 : Code := { maxStack := 3, maxLocals := 2, code := jdk_42_method_91_code, exceptionTable := #[], attributes := #[] }
def k7m7 : Method := { name := "substring", desc := "(I)Ljava/lang/String;", sig := { parameters := [.int], returnType := some (.object "java/lang/String") }, accessFlags := 1, code := some k7c7 }
def k7c8 : Code := { maxStack := 3, maxLocals := 5, code := jdk_42_method_92_code, exceptionTable := #[], attributes := #[] }
def k7m8 : Method := { name := "substring", desc := "(II)Ljava/lang/String;", sig := { parameters := [.int, .int], returnType := some (.object "java/lang/String") }, accessFlags := 1, code := some k7c8 }
def k7c9 : Code := { maxStack := 4, maxLocals := 6, code := jdk_42_method_149_code, exceptionTable := #[], attributes := #[] }
def k7m9 : Method := { name := "<init>", desc := "([CIILjava/lang/Void;)V", sig := { parameters := [(.array .char), .int, .int, (.object "java/lang/Void")], returnType := none }, accessFlags := 2, code := some k7c9 }
def k7c10 : Code := { maxStack := 2, maxLocals := 3, code := jdk_42_method_151_code, exceptionTable := #[], attributes := #[] }
def k7m10 : Method := { name := "<init>", desc := "([BB)V", sig := { parameters := [(.array .byte), .byte], returnType := none }, accessFlags := 0, code := some k7c10 }
def k7c11 : Code := { maxStack := 1, maxLocals := 1, code := jdk_42_method_152_code, exceptionTable := #[], attributes := #[] }
def k7m11 : Method := { name := "coder", desc := "()B", sig := { parameters := [], returnType := some .byte }, accessFlags := 0, code := some k7c11 }
def k7c12 : Code := { maxStack := 1, maxLocals := 1, code := jdk_42_method_154_code, exceptionTable := #[], attributes := #[] }
def k7m12 : Method := { name := "isLatin1", desc := "()Z", sig := { parameters := [], returnType := some .boolean }, accessFlags := 0, code := some k7c12 }
def k7c13 : Code := { maxStack := 4, maxLocals := 3, code := jdk_42_method_158_code, exceptionTable := #[], attributes := #[] }
def k7m13 : Method := { name := "checkBoundsBeginEnd", desc := "(III)V", sig := { parameters := [.int, .int, .int], returnType := none }, accessFlags := 8, code := some k7c13 }
/-- java/lang/String -/
def k7 : Class := { plain "java/lang/String" (some 0) with
  accessFlags := 49
  interfaces := #[2, 3, 4, 5, 6]
  cf := some (fileOf pool7 10 #[.nestMembers #[1103]] #[{ accessFlags := 1, nameIndex := 5, descriptorIndex := 6, attributes := #[] }, { accessFlags := 1, nameIndex := 5, descriptorIndex := 1010, attributes := #[] }, { accessFlags := 1, nameIndex := 507, descriptorIndex := 334, attributes := #[] }, { accessFlags := 1, nameIndex := 692, descriptorIndex := 142, attributes := #[] }, { accessFlags := 1, nameIndex := 543, descriptorIndex := 573, attributes := #[] }, { accessFlags := 1, nameIndex := 635, descriptorIndex := 765, attributes := #[] }, { accessFlags := 1, nameIndex := 635, descriptorIndex := 636, attributes := #[] }, { accessFlags := 1, nameIndex := 683, descriptorIndex := 892, attributes := #[] }, { accessFlags := 1, nameIndex := 683, descriptorIndex := 684, attributes := #[] }, { accessFlags := 2, nameIndex := 5, descriptorIndex := 29, attributes := #[] }, { accessFlags := 0, nameIndex := 5, descriptorIndex := 211, attributes := #[] }, { accessFlags := 0, nameIndex := 17, descriptorIndex := 337, attributes := #[] }, { accessFlags := 0, nameIndex := 494, descriptorIndex := 142, attributes := #[] }, { accessFlags := 8, nameIndex := 523, descriptorIndex := 524, attributes := #[] }] 49 2 #[1106, 1108, 575, 1110, 1112] #[{ accessFlags := 18, nameIndex := 13, descriptorIndex := 14, attributes := #[] }, { accessFlags := 18, nameIndex := 17, descriptorIndex := 18, attributes := #[] }, { accessFlags := 2, nameIndex := 21, descriptorIndex := 22, attributes := #[] }, { accessFlags := 2, nameIndex := 25, descriptorIndex := 26, attributes := #[] }, { accessFlags := 26, nameIndex := 1116, descriptorIndex := 1117, attributes := #[] }, { accessFlags := 24, nameIndex := 40, descriptorIndex := 26, attributes := #[] }, { accessFlags := 26, nameIndex := 1101, descriptorIndex := 1102, attributes := #[] }, { accessFlags := 26, nameIndex := 1121, descriptorIndex := 1122, attributes := #[] }, { accessFlags := 25, nameIndex := 599, descriptorIndex := 600, attributes := #[] }, { accessFlags := 24, nameIndex := 1125, descriptorIndex := 18, attributes := #[] }, { accessFlags := 24, nameIndex := 1127, descriptorIndex := 18, attributes := #[] }])
  fields := #[{ name := "value", type := (.array .byte), accessFlags := 18, slot := 0, constantValue := 0 }, { name := "coder", type := .byte, accessFlags := 18, slot := 1, constantValue := 0 }, { name := "hash", type := .int, accessFlags := 2, slot := 2, constantValue := 0 }, { name := "hashIsZero", type := .boolean, accessFlags := 2, slot := 3, constantValue := 0 }, { name := "serialVersionUID", type := .long, accessFlags := 26, slot := 0, constantValue := 0 }, { name := "COMPACT_STRINGS", type := .boolean, accessFlags := 24, slot := 1, constantValue := 0 }, { name := "serialPersistentFields", type := (.array (.object "java/io/ObjectStreamField")), accessFlags := 26, slot := 2, constantValue := 0 }, { name := "REPL", type := .char, accessFlags := 26, slot := 3, constantValue := 0 }, { name := "CASE_INSENSITIVE_ORDER", type := (.object "java/util/Comparator"), accessFlags := 25, slot := 4, constantValue := 0 }, { name := "LATIN1", type := .byte, accessFlags := 24, slot := 5, constantValue := 0 }, { name := "UTF16", type := .byte, accessFlags := 24, slot := 6, constantValue := 0 }]
  methods := #[k7m0, k7m1, k7m2, k7m3, k7m4, k7m5, k7m6, k7m7, k7m8, k7m9, k7m10, k7m11, k7m12, k7m13]
  instanceTypes := #[(.array .byte), .byte, .int, .boolean]
  staticTypes := #[.long, .boolean, (.array (.object "java/io/ObjectStreamField")), .char, (.object "java/util/Comparator"), .byte, .byte]
  resolved := Array.replicate 1451 none
  statics := some 0 }

def pool8 : Array CpInfo := pool [(6, .class_ 8), (1, u "java/lang/Object"), (0, u "<init>"), (0, u "()V"), (1, .class_ 14), (1, u "java/lang/StringUTF16"), (31, u "$assertionsDisabled"), (0, u "Z"), (13, u "HI_BYTE_SHIFT"), (0, u "I"), (2, u "LO_BYTE_SHIFT"), (49, .methodref 12 116), (0, .nameAndType 117 118), (0, u "compress"), (0, u "([CI[BII)I"), (3, u "([CII)[B"), (138, u "coderFromArrayLen"), (0, u "([BI)B"), (106, .class_ 371), (1, u "java/lang/StringUTF16$LinesSpliterator"), (58, u "MAX_LENGTH"), (196, .class_ 628), (0, u "java/lang/StringUTF16$CodePointsSpliterator"), (0, .class_ 630), (0, u "java/lang/StringUTF16$CharsSpliterator")] 4

def k8m0 : Method := { name := "<init>", desc := "()V", sig := { parameters := [], returnType := none }, accessFlags := 0, code := none }
def k8c1 : Code := { maxStack := 2, maxLocals := 2, code := jdk_52_method_15_code, exceptionTable := #[], attributes := #[] }
def k8m1 : Method := { name := "coderFromArrayLen", desc := "([BI)B", sig := { parameters := [(.array .byte), .int], returnType := some .byte }, accessFlags := 8, code := some k8c1 }
def k8c2 : Code := { maxStack := 5, maxLocals := 6, code := jdk_52_method_16_code, exceptionTable := #[], attributes := #[] }
def k8m2 : Method := { name := "compress", desc := "([CII)[B", sig := { parameters := [(.array .char), .int, .int], returnType := some (.array .byte) }, accessFlags := 9, code := some k8c2 }
def k8c3 : Code := { maxStack := 3, maxLocals := 7, code := jdk_52_method_21_code, exceptionTable := #[], attributes := #[] }
def k8m3 : Method := { name := "compress", desc := "([CI[BII)I", sig := { parameters := [(.array .char), .int, (.array .byte), .int, .int], returnType := some .int }, accessFlags := 9, code := some k8c3 }
/-- java/lang/StringUTF16 -/
def k8 : Class := { plain "java/lang/StringUTF16" (some 0) with
  accessFlags := 48
  interfaces := #[]
  cf := some (fileOf pool8 12 #[.nestMembers #[627, 629, 369]] #[{ accessFlags := 0, nameIndex := 9, descriptorIndex := 10, attributes := #[] }, { accessFlags := 8, nameIndex := 261, descriptorIndex := 262, attributes := #[] }, { accessFlags := 9, nameIndex := 117, descriptorIndex := 122, attributes := #[] }, { accessFlags := 9, nameIndex := 117, descriptorIndex := 118, attributes := #[] }] 48 6 #[] #[{ accessFlags := 26, nameIndex := 61, descriptorIndex := 62, attributes := #[] }, { accessFlags := 26, nameIndex := 65, descriptorIndex := 62, attributes := #[] }, { accessFlags := 24, nameIndex := 430, descriptorIndex := 62, attributes := #[] }, { accessFlags := 4120, nameIndex := 46, descriptorIndex := 47, attributes := #[] }])
  fields := #[{ name := "HI_BYTE_SHIFT", type := .int, accessFlags := 26, slot := 0, constantValue := 0 }, { name := "LO_BYTE_SHIFT", type := .int, accessFlags := 26, slot := 1, constantValue := 0 }, { name := "MAX_LENGTH", type := .int, accessFlags := 24, slot := 2, constantValue := 0 }, { name := "$assertionsDisabled", type := .boolean, accessFlags := 4120, slot := 3, constantValue := 0 }]
  methods := #[k8m0, k8m1, k8m2, k8m3]
  instanceTypes := #[]
  staticTypes := #[.int, .int, .int, .boolean]
  resolved := Array.replicate 635 none
  statics := none }

def pool9 : Array CpInfo := pool [(1, .methodref 2 3), (0, .class_ 4), (0, .nameAndType 5 6), (0, u "java/lang/Object"), (0, u "<init>"), (0, u "()V"), (0, .class_ 8), (0, u "java/lang/Record")] 13

def k9c0 : Code := { maxStack := 1, maxLocals := 1, code := jdk_30_method_1_code, exceptionTable := #[], attributes := #[] }
def k9m0 : Method := { name := "<init>", desc := "()V", sig := { parameters := [], returnType := none }, accessFlags := 4, code := some k9c0 }
/-- java/lang/Record -/
def k9 : Class := { plain "java/lang/Record" (some 0) with
  accessFlags := 1057
  interfaces := #[]
  cf := some (fileOf pool9 7 #[] #[{ accessFlags := 4, nameIndex := 5, descriptorIndex := 6, attributes := #[] }] 1057 2 #[] #[])
  fields := #[]
  methods := #[k9m0]
  instanceTypes := #[]
  staticTypes := #[]
  resolved := Array.replicate 22 none
  statics := none }

def pool10 : Array CpInfo := pool [(1, .methodref 2 3), (0, .class_ 4), (0, .nameAndType 5 6), (0, u "java/lang/Record"), (0, u "<init>"), (0, u "()V"), (0, .string 8), (0, u "schema"), (0, .methodref 10 11), (0, .class_ 12), (0, .nameAndType 13 14), (0, u "java/util/Objects"), (0, u "requireNonNull"), (0, u "(Ljava/lang/Object;Ljava/lang/String;)Ljava/lang/Object;"), (0, .string 16), (0, u "name"), (0, .methodref 18 19), (0, .class_ 20), (0, .nameAndType 21 22), (0, u "java/lang/String"), (0, u "isEmpty"), (0, u "()Z"), (7, .fieldref 31 32), (0, .class_ 33), (0, .nameAndType 8 34), (0, u "com/example/tombstone/tombstone/config/TableName"), (0, u "Ljava/lang/String;"), (0, .fieldref 31 36), (0, .nameAndType 16 34), (0, .string 38), (0, u "written"), (0, .methodref 18 40), (0, .nameAndType 41 42), (0, u "indexOf"), (0, u "(I)I"), (0, .methodref 18 44), (0, .nameAndType 41 45), (0, u "(II)I"), (0, .methodref 18 47), (0, .nameAndType 48 49), (0, u "length"), (0, u "()I"), (4, .string 55), (0, u "public"), (0, .methodref 31 57), (0, .nameAndType 5 58), (0, u "(Ljava/lang/String;Ljava/lang/String;)V"), (0, .methodref 18 60), (0, .nameAndType 61 62), (0, u "substring"), (0, u "(II)Ljava/lang/String;"), (0, .methodref 18 64), (0, .nameAndType 61 65), (0, u "(I)Ljava/lang/String;"), (7, u "()Ljava/lang/String;"), (10, u "DEFAULT_SCHEMA"), (5, u "parse"), (0, u "(Ljava/lang/String;)Lcom/example/tombstone/tombstone/config/TableName;")] 33

def k10c0 : Code := { maxStack := 3, maxLocals := 3, code := prog_8_method_1_code, exceptionTable := #[], attributes := #[] }
def k10m0 : Method := { name := "<init>", desc := "(Ljava/lang/String;Ljava/lang/String;)V", sig := { parameters := [(.object "java/lang/String"), (.object "java/lang/String")], returnType := none }, accessFlags := 1, code := some k10c0 }
def k10c1 : Code := { maxStack := 6, maxLocals := 4, code := prog_8_method_2_code, exceptionTable := #[], attributes := #[] }
def k10m1 : Method := { name := "parse", desc := "(Ljava/lang/String;)Lcom/example/tombstone/tombstone/config/TableName;", sig := { parameters := [(.object "java/lang/String")], returnType := some (.object "com/example/tombstone/tombstone/config/TableName") }, accessFlags := 9, code := some k10c1 }
def k10c2 : Code := { maxStack := 1, maxLocals := 1, code := prog_8_method_9_code, exceptionTable := #[], attributes := #[] }
def k10m2 : Method := { name := "schema", desc := "()Ljava/lang/String;", sig := { parameters := [], returnType := some (.object "java/lang/String") }, accessFlags := 1, code := some k10c2 }
def k10c3 : Code := { maxStack := 1, maxLocals := 1, code := prog_8_method_10_code, exceptionTable := #[], attributes := #[] }
def k10m3 : Method := { name := "name", desc := "()Ljava/lang/String;", sig := { parameters := [], returnType := some (.object "java/lang/String") }, accessFlags := 1, code := some k10c3 }
/-- com/example/tombstone/tombstone/config/TableName -/
def k10 : Class := { plain "com/example/tombstone/tombstone/config/TableName" (some 9) with
  accessFlags := 49
  interfaces := #[]
  cf := some (fileOf pool10 31 #[] #[{ accessFlags := 1, nameIndex := 5, descriptorIndex := 58, attributes := #[] }, { accessFlags := 9, nameIndex := 90, descriptorIndex := 91, attributes := #[] }, { accessFlags := 1, nameIndex := 8, descriptorIndex := 73, attributes := #[] }, { accessFlags := 1, nameIndex := 16, descriptorIndex := 73, attributes := #[] }] 49 2 #[] #[{ accessFlags := 18, nameIndex := 8, descriptorIndex := 34, attributes := #[] }, { accessFlags := 18, nameIndex := 16, descriptorIndex := 34, attributes := #[] }, { accessFlags := 25, nameIndex := 84, descriptorIndex := 34, attributes := #[] }])
  fields := #[{ name := "schema", type := (.object "java/lang/String"), accessFlags := 18, slot := 0, constantValue := 0 }, { name := "name", type := (.object "java/lang/String"), accessFlags := 18, slot := 1, constantValue := 0 }, { name := "DEFAULT_SCHEMA", type := (.object "java/lang/String"), accessFlags := 25, slot := 0, constantValue := 0 }]
  methods := #[k10m0, k10m1, k10m2, k10m3]
  instanceTypes := #[(.object "java/lang/String"), (.object "java/lang/String")]
  staticTypes := #[(.object "java/lang/String")]
  resolved := Array.replicate 125 none
  statics := none }

def pool11 : Array CpInfo := pool [(2, .class_ 4), (1, u "java/lang/Object"), (0, u "<init>"), (0, u "()V"), (35, .class_ 44), (1, u "java/util/Objects"), (0, u "requireNonNull"), (48, u "(Ljava/lang/Object;Ljava/lang/String;)Ljava/lang/Object;")] 89

def k11m0 : Method := { name := "<init>", desc := "()V", sig := { parameters := [], returnType := none }, accessFlags := 2, code := none }
def k11c1 : Code := { maxStack := 3, maxLocals := 2, code := jdk_31_method_11_code, exceptionTable := #[], attributes := #[] }
def k11m1 : Method := { name := "requireNonNull", desc := "(Ljava/lang/Object;Ljava/lang/String;)Ljava/lang/Object;", sig := { parameters := [(.object "java/lang/Object"), (.object "java/lang/String")], returnType := some (.object "java/lang/Object") }, accessFlags := 9, code := some k11c1 }
/-- java/util/Objects -/
def k11 : Class := { plain "java/util/Objects" (some 0) with
  accessFlags := 49
  interfaces := #[]
  cf := some (fileOf pool11 42 #[] #[{ accessFlags := 2, nameIndex := 5, descriptorIndex := 6, attributes := #[] }, { accessFlags := 9, nameIndex := 45, descriptorIndex := 94, attributes := #[] }] 49 2 #[] #[])
  fields := #[]
  methods := #[k11m0, k11m1]
  instanceTypes := #[]
  staticTypes := #[]
  resolved := Array.replicate 184 none
  statics := none }

def pool12 : Array CpInfo := pool [(1, .class_ 2), (0, u "java/lang/String"), (1, .class_ 6), (1, u "java/lang/Object"), (0, u "<init>"), (0, u "()V"), (5, .class_ 16), (1, u "java/lang/StringLatin1"), (21, .methodref 39 40), (0, .class_ 41), (0, .nameAndType 42 43), (0, u "java/lang/Math"), (0, u "min"), (0, u "(II)I"), (44, .methodref 14 89), (0, .nameAndType 90 91), (0, u "canEncode"), (0, u "(I)Z"), (0, .methodref 39 93), (0, .nameAndType 94 43), (0, u "max"), (0, .methodref 14 96), (0, .nameAndType 97 98), (0, u "indexOfChar"), (0, u "([BIII)I"), (2, u "indexOf"), (10, .methodref 1 113), (0, .nameAndType 7 114), (0, u "([BB)V"), (6, u "$assertionsDisabled"), (0, u "Z"), (8, .class_ 133), (1, u "java/util/Arrays"), (62, u "newString"), (0, u "([BII)Ljava/lang/String;"), (23, .class_ 223), (1, u "java/lang/StringLatin1$LinesSpliterator"), (8, .methodref 131 233), (0, .nameAndType 234 235), (0, u "copyOfRange"), (0, u "([BII)[B"), (45, u "equals"), (0, u "([B[B)Z"), (107, .class_ 391), (0, u "java/lang/StringLatin1$CharsSpliterator")] 3

def k12m0 : Method := { name := "<init>", desc := "()V", sig := { parameters := [], returnType := none }, accessFlags := 0, code := none }
def k12c1 : Code := { maxStack := 2, maxLocals := 1, code := jdk_43_method_4_code, exceptionTable := #[], attributes := #[] }
def k12m1 : Method := { name := "canEncode", desc := "(I)Z", sig := { parameters := [.int], returnType := some .boolean }, accessFlags := 9, code := some k12c1 }
def k12c2 : Code := { maxStack := 3, maxLocals := 3, code := jdk_43_method_13_code, exceptionTable := #[], attributes := #[] }
def k12m2 : Method := { name := "equals", desc := "([B[B)Z", sig := { parameters := [(.array .byte), (.array .byte)], returnType := some .boolean }, accessFlags := 9, code := some k12c2 }
def k12c3 : Code := { maxStack := 4, maxLocals := 4, code := jdk_43_method_22_code, exceptionTable := #[], attributes := #[] }
def k12m3 : Method := { name := "indexOf", desc := "([BIII)I", sig := { parameters := [(.array .byte), .int, .int, .int], returnType := some .int }, accessFlags := 9, code := some k12c3 }
def k12c4 : Code := { maxStack := 2, maxLocals := 6, code := jdk_43_method_23_code, exceptionTable := #[], attributes := #[] }
def k12m4 : Method := { name := "indexOfChar", desc := "([BIII)I", sig := { parameters := [(.array .byte), .int, .int, .int], returnType := some .int }, accessFlags := 10, code := some k12c4 }
def k12c5 : Code := { maxStack := 6, maxLocals := 3, code := jdk_43_method_47_code, exceptionTable := #[], attributes := #[] }
def k12m5 : Method := { name := "newString", desc := "([BII)Ljava/lang/String;", sig := { parameters := [(.array .byte), .int, .int], returnType := some (.object "java/lang/String") }, accessFlags := 9, code := some k12c5 }
/-- java/lang/StringLatin1 -/
def k12 : Class := { plain "java/lang/StringLatin1" (some 0) with
  accessFlags := 48
  interfaces := #[]
  cf := some (fileOf pool12 14 #[.nestMembers #[390, 221]] #[{ accessFlags := 0, nameIndex := 7, descriptorIndex := 8, attributes := #[] }, { accessFlags := 9, nameIndex := 90, descriptorIndex := 91, attributes := #[] }, { accessFlags := 9, nameIndex := 281, descriptorIndex := 282, attributes := #[] }, { accessFlags := 9, nameIndex := 101, descriptorIndex := 98, attributes := #[] }, { accessFlags := 10, nameIndex := 97, descriptorIndex := 98, attributes := #[] }, { accessFlags := 9, nameIndex := 196, descriptorIndex := 197, attributes := #[] }] 48 4 #[] #[{ accessFlags := 4120, nameIndex := 121, descriptorIndex := 122, attributes := #[] }])
  fields := #[{ name := "$assertionsDisabled", type := .boolean, accessFlags := 4120, slot := 0, constantValue := 0 }]
  methods := #[k12m0, k12m1, k12m2, k12m3, k12m4, k12m5]
  instanceTypes := #[]
  staticTypes := #[.boolean]
  resolved := Array.replicate 395 none
  statics := none }

def pool13 : Array CpInfo := pool [(1, .class_ 2), (0, u "java/lang/Math"), (1, .class_ 6), (1, u "java/lang/Object"), (0, u "<init>"), (0, u "()V"), (89, .class_ 100), (1, u "java/lang/Math$RandomNumberGeneratorHolder"), (71, u "negativeZeroFloatBits"), (0, u "J"), (2, u "negativeZeroDoubleBits"), (21, u "max"), (2, u "min"), (43, u "$assertionsDisabled"), (0, u "Z"), (88, u "(II)I"), (2, u "twoToTheDoubleScaleDown"), (0, u "D"), (4, u "twoToTheDoubleScaleUp"), (9, u "E"), (3, u "PI"), (2, u "TAU"), (2, u "DEGREES_TO_RADIANS"), (0, u "RADIANS_TO_DEGREES")] 94

def k13m0 : Method := { name := "<init>", desc := "()V", sig := { parameters := [], returnType := none }, accessFlags := 2, code := none }
def k13c1 : Code := { maxStack := 2, maxLocals := 2, code := jdk_29_method_65_code, exceptionTable := #[], attributes := #[] }
def k13m1 : Method := { name := "max", desc := "(II)I", sig := { parameters := [.int, .int], returnType := some .int }, accessFlags := 9, code := some k13c1 }
def k13c2 : Code := { maxStack := 2, maxLocals := 2, code := jdk_29_method_69_code, exceptionTable := #[], attributes := #[] }
def k13m2 : Method := { name := "min", desc := "(II)I", sig := { parameters := [.int, .int], returnType := some .int }, accessFlags := 9, code := some k13c2 }
/-- java/lang/Math -/
def k13 : Class := { plain "java/lang/Math" (some 0) with
  accessFlags := 49
  interfaces := #[]
  cf := some (fileOf pool13 1 #[.nestMembers #[98]] #[{ accessFlags := 2, nameIndex := 7, descriptorIndex := 8, attributes := #[] }, { accessFlags := 9, nameIndex := 198, descriptorIndex := 335, attributes := #[] }, { accessFlags := 9, nameIndex := 201, descriptorIndex := 335, attributes := #[] }] 49 4 #[] #[{ accessFlags := 25, nameIndex := 354, descriptorIndex := 339, attributes := #[] }, { accessFlags := 25, nameIndex := 358, descriptorIndex := 339, attributes := #[] }, { accessFlags := 25, nameIndex := 361, descriptorIndex := 339, attributes := #[] }, { accessFlags := 26, nameIndex := 364, descriptorIndex := 339, attributes := #[] }, { accessFlags := 26, nameIndex := 365, descriptorIndex := 339, attributes := #[] }, { accessFlags := 26, nameIndex := 172, descriptorIndex := 173, attributes := #[] }, { accessFlags := 26, nameIndex := 176, descriptorIndex := 173, attributes := #[] }, { accessFlags := 8, nameIndex := 344, descriptorIndex := 339, attributes := #[] }, { accessFlags := 8, nameIndex := 338, descriptorIndex := 339, attributes := #[] }, { accessFlags := 4120, nameIndex := 245, descriptorIndex := 246, attributes := #[] }])
  fields := #[{ name := "E", type := .double, accessFlags := 25, slot := 0, constantValue := 0 }, { name := "PI", type := .double, accessFlags := 25, slot := 1, constantValue := 0 }, { name := "TAU", type := .double, accessFlags := 25, slot := 2, constantValue := 0 }, { name := "DEGREES_TO_RADIANS", type := .double, accessFlags := 26, slot := 3, constantValue := 0 }, { name := "RADIANS_TO_DEGREES", type := .double, accessFlags := 26, slot := 4, constantValue := 0 }, { name := "negativeZeroFloatBits", type := .long, accessFlags := 26, slot := 5, constantValue := 0 }, { name := "negativeZeroDoubleBits", type := .long, accessFlags := 26, slot := 6, constantValue := 0 }, { name := "twoToTheDoubleScaleUp", type := .double, accessFlags := 8, slot := 7, constantValue := 0 }, { name := "twoToTheDoubleScaleDown", type := .double, accessFlags := 8, slot := 8, constantValue := 0 }, { name := "$assertionsDisabled", type := .boolean, accessFlags := 4120, slot := 9, constantValue := 0 }]
  methods := #[k13m0, k13m1, k13m2]
  instanceTypes := #[]
  staticTypes := #[.double, .double, .double, .double, .double, .long, .long, .double, .double, .boolean]
  resolved := Array.replicate 460 none
  statics := none }

def pool14 : Array CpInfo := pool [(2, .class_ 4), (1, u "java/lang/Object"), (0, u "<init>"), (0, u "()V"), (17, .class_ 26), (1, u "jdk/internal/util/Preconditions"), (20, u "checkFromToIndex"), (7, .class_ 56), (0, u "jdk/internal/util/Preconditions$4"), (57, .class_ 115), (0, u "jdk/internal/util/Preconditions$1"), (7, u "SIOOBE_FORMATTER"), (0, u "Ljava/util/function/BiFunction;"), (0, .class_ 126), (0, u "jdk/internal/util/Preconditions$2"), (3, u "AIOOBE_FORMATTER"), (0, .class_ 132), (0, u "jdk/internal/util/Preconditions$3"), (3, u "IOOBE_FORMATTER"), (46, u "(IIILjava/util/function/BiFunction;)I")] 10

def k14m0 : Method := { name := "<init>", desc := "()V", sig := { parameters := [], returnType := none }, accessFlags := 1, code := none }
def k14c1 : Code := { maxStack := 4, maxLocals := 4, code := jdk_41_method_12_code, exceptionTable := #[], attributes := #[] }
def k14m1 : Method := { name := "checkFromToIndex", desc := "(IIILjava/util/function/BiFunction;)I", sig := { parameters := [.int, .int, .int, (.object "java/util/function/BiFunction")], returnType := some .int }, accessFlags := 9, code := some k14c1 }
/-- jdk/internal/util/Preconditions -/
def k14 : Class := { plain "jdk/internal/util/Preconditions" (some 0) with
  accessFlags := 33
  interfaces := #[]
  cf := some (fileOf pool14 24 #[.nestMembers #[55, 131, 125, 114]] #[{ accessFlags := 1, nameIndex := 5, descriptorIndex := 6, attributes := #[] }, { accessFlags := 9, nameIndex := 47, descriptorIndex := 183, attributes := #[] }] 33 2 #[] #[{ accessFlags := 25, nameIndex := 123, descriptorIndex := 124, attributes := #[] }, { accessFlags := 25, nameIndex := 130, descriptorIndex := 124, attributes := #[] }, { accessFlags := 25, nameIndex := 136, descriptorIndex := 124, attributes := #[] }])
  fields := #[{ name := "SIOOBE_FORMATTER", type := (.object "java/util/function/BiFunction"), accessFlags := 25, slot := 0, constantValue := 0 }, { name := "AIOOBE_FORMATTER", type := (.object "java/util/function/BiFunction"), accessFlags := 25, slot := 1, constantValue := 0 }, { name := "IOOBE_FORMATTER", type := (.object "java/util/function/BiFunction"), accessFlags := 25, slot := 2, constantValue := 0 }]
  methods := #[k14m0, k14m1]
  instanceTypes := #[]
  staticTypes := #[(.object "java/util/function/BiFunction"), (.object "java/util/function/BiFunction"), (.object "java/util/function/BiFunction")]
  resolved := Array.replicate 194 none
  statics := some 1 }

def pool15 : Array CpInfo := pool [(2, .class_ 4), (1, u "java/lang/Object"), (0, u "<init>"), (0, u "()V"), (7, .class_ 16), (1, u "java/util/Arrays"), (57, .class_ 76), (1, u "java/util/Arrays$NaturalOrder"), (36, .class_ 115), (1, u "java/util/Arrays$LegacyMergeSort"), (1, u "Z"), (21, u "copyOfRange"), (10, .methodref 151 152), (0, .class_ 153), (0, .nameAndType 154 155), (0, u "java/lang/System"), (0, u "arraycopy"), (0, u "(Ljava/lang/Object;ILjava/lang/Object;II)V"), (148, .methodref 305 306), (0, .class_ 307), (0, .nameAndType 308 309), (0, u "java/lang/Math"), (0, u "min"), (0, u "(II)I"), (29, .methodref 14 340), (0, .nameAndType 341 342), (0, u "copyOfRangeByte"), (0, u "([BII)[B"), (0, .methodref 14 344), (0, .nameAndType 345 346), (0, u "checkLength"), (0, u "(II)V"), (28, .class_ 376), (0, u "java/util/Arrays$ArrayList"), (68, u "$assertionsDisabled"), (269, u "MIN_ARRAY_SORT_GRAN"), (0, u "I"), (2, u "INSERTIONSORT_THRESHOLD"), (255, .class_ 976), (0, u "java/util/Arrays$ArrayItr")] 52

def k15m0 : Method := { name := "<init>", desc := "()V", sig := { parameters := [], returnType := none }, accessFlags := 2, code := none }
def k15c1 : Code := { maxStack := 4, maxLocals := 2, code := jdk_65_method_131_code, exceptionTable := #[], attributes := #[] }
def k15m1 : Method := { name := "checkLength", desc := "(II)V", sig := { parameters := [.int, .int], returnType := none }, accessFlags := 10, code := some k15c1 }
def k15c2 : Code := { maxStack := 3, maxLocals := 3, code := jdk_65_method_132_code, exceptionTable := #[], attributes := #[] }
def k15m2 : Method := { name := "copyOfRange", desc := "([BII)[B", sig := { parameters := [(.array .byte), .int, .int], returnType := some (.array .byte) }, accessFlags := 9, code := some k15c2 }
def k15c3 : Code := { maxStack := 6, maxLocals := 5, code := jdk_65_method_133_code, exceptionTable := #[], attributes := #[] }
def k15m3 : Method := { name := "copyOfRangeByte", desc := "([BII)[B", sig := { parameters := [(.array .byte), .int, .int], returnType := some (.array .byte) }, accessFlags := 10, code := some k15c3 }
/-- java/util/Arrays -/
def k15 : Class := { plain "java/util/Arrays" (some 0) with
  accessFlags := 49
  interfaces := #[]
  cf := some (fileOf pool15 14 #[.nestMembers #[975, 375, 113, 74]] #[{ accessFlags := 2, nameIndex := 5, descriptorIndex := 6, attributes := #[] }, { accessFlags := 10, nameIndex := 345, descriptorIndex := 346, attributes := #[] }, { accessFlags := 9, nameIndex := 139, descriptorIndex := 342, attributes := #[] }, { accessFlags := 10, nameIndex := 341, descriptorIndex := 342, attributes := #[] }] 49 2 #[] #[{ accessFlags := 26, nameIndex := 715, descriptorIndex := 716, attributes := #[] }, { accessFlags := 26, nameIndex := 719, descriptorIndex := 716, attributes := #[] }, { accessFlags := 4120, nameIndex := 445, descriptorIndex := 117, attributes := #[] }])
  fields := #[{ name := "MIN_ARRAY_SORT_GRAN", type := .int, accessFlags := 26, slot := 0, constantValue := 0 }, { name := "INSERTIONSORT_THRESHOLD", type := .int, accessFlags := 26, slot := 1, constantValue := 0 }, { name := "$assertionsDisabled", type := .boolean, accessFlags := 4120, slot := 2, constantValue := 0 }]
  methods := #[k15m0, k15m1, k15m2, k15m3]
  instanceTypes := #[]
  staticTypes := #[.int, .int, .boolean]
  resolved := Array.replicate 1029 none
  statics := none }

def pool16 : Array CpInfo := pool [(2, .class_ 4), (1, u "java/lang/Object"), (0, u "<init>"), (0, u "()V"), (1, .class_ 10), (1, u "java/lang/System"), (0, u "allowSecurityManager"), (0, u "I"), (16, u "cons"), (0, u "Ljava/io/Console;"), (77, .class_ 110), (1, u "java/lang/System$CallersHolder"), (43, u "initialErrStream"), (0, u "Ljava/io/PrintStream;"), (19, u "security"), (0, u "Ljava/lang/SecurityManager;"), (31, .class_ 209), (0, u "java/lang/System$1"), (7, u "props"), (0, u "Ljava/util/Properties;"), (2, u "lineSeparator"), (0, u "Ljava/lang/String;"), (96, .class_ 321), (1, u "java/lang/System$LoggerFinder"), (5, .class_ 328), (0, u "java/lang/System$Logger"), (67, u "err"), (2, u "out"), (91, u "notSupportedJnuEncoding"), (15, u "in"), (17, u "initialIn"), (0, u "Ljava/io/InputStream;"), (35, u "bootLayer"), (0, u "Ljava/lang/ModuleLayer;"), (99, .class_ 664), (0, u "java/lang/System$2"), (9, u "NEVER"), (2, u "MAYBE"), (49, u "arraycopy"), (0, u "(Ljava/lang/Object;ILjava/lang/Object;II)V"), (72, .class_ 802), (0, u "java/lang/System$Logger$Level")] 31

def k16m0 : Method := { name := "<init>", desc := "()V", sig := { parameters := [], returnType := none }, accessFlags := 2, code := none }
def k16m1 : Method := { name := "arraycopy", desc := "(Ljava/lang/Object;ILjava/lang/Object;II)V", sig := { parameters := [(.object "java/lang/Object"), .int, (.object "java/lang/Object"), .int, .int], returnType := none }, accessFlags := 265, code := none }
/-- java/lang/System -/
def k16 : Class := { plain "java/lang/System" (some 0) with
  accessFlags := 49
  interfaces := #[]
  cf := some (fileOf pool16 8 #[.nestMembers #[319, 327, 801, 108, 663, 208]] #[{ accessFlags := 2, nameIndex := 5, descriptorIndex := 6, attributes := #[] }, { accessFlags := 265, nameIndex := 727, descriptorIndex := 728, attributes := #[] }] 49 2 #[] #[{ accessFlags := 25, nameIndex := 507, descriptorIndex := 526, attributes := #[] }, { accessFlags := 25, nameIndex := 399, descriptorIndex := 155, attributes := #[] }, { accessFlags := 25, nameIndex := 396, descriptorIndex := 155, attributes := #[] }, { accessFlags := 10, nameIndex := 525, descriptorIndex := 526, attributes := #[] }, { accessFlags := 26, nameIndex := 674, descriptorIndex := 12, attributes := #[] }, { accessFlags := 26, nameIndex := 677, descriptorIndex := 12, attributes := #[] }, { accessFlags := 10, nameIndex := 11, descriptorIndex := 12, attributes := #[] }, { accessFlags := 74, nameIndex := 175, descriptorIndex := 176, attributes := #[] }, { accessFlags := 10, nameIndex := 491, descriptorIndex := 222, attributes := #[] }, { accessFlags := 74, nameIndex := 29, descriptorIndex := 30, attributes := #[] }, { accessFlags := 74, nameIndex := 154, descriptorIndex := 155, attributes := #[] }, { accessFlags := 10, nameIndex := 217, descriptorIndex := 218, attributes := #[] }, { accessFlags := 10, nameIndex := 221, descriptorIndex := 222, attributes := #[] }, { accessFlags := 8, nameIndex := 562, descriptorIndex := 563, attributes := #[] }])
  fields := #[{ name := "in", type := (.object "java/io/InputStream"), accessFlags := 25, slot := 0, constantValue := 0 }, { name := "out", type := (.object "java/io/PrintStream"), accessFlags := 25, slot := 1, constantValue := 0 }, { name := "err", type := (.object "java/io/PrintStream"), accessFlags := 25, slot := 2, constantValue := 0 }, { name := "initialIn", type := (.object "java/io/InputStream"), accessFlags := 10, slot := 3, constantValue := 0 }, { name := "NEVER", type := .int, accessFlags := 26, slot := 4, constantValue := 0 }, { name := "MAYBE", type := .int, accessFlags := 26, slot := 5, constantValue := 0 }, { name := "allowSecurityManager", type := .int, accessFlags := 10, slot := 6, constantValue := 0 }, { name := "security", type := (.object "java/lang/SecurityManager"), accessFlags := 74, slot := 7, constantValue := 0 }, { name := "notSupportedJnuEncoding", type := (.object "java/lang/String"), accessFlags := 10, slot := 8, constantValue := 0 }, { name := "cons", type := (.object "java/io/Console"), accessFlags := 74, slot := 9, constantValue := 0 }, { name := "initialErrStream", type := (.object "java/io/PrintStream"), accessFlags := 74, slot := 10, constantValue := 0 }, { name := "props", type := (.object "java/util/Properties"), accessFlags := 10, slot := 11, constantValue := 0 }, { name := "lineSeparator", type := (.object "java/lang/String"), accessFlags := 10, slot := 12, constantValue := 0 }, { name := "bootLayer", type := (.object "java/lang/ModuleLayer"), accessFlags := 8, slot := 13, constantValue := 0 }]
  methods := #[k16m0, k16m1]
  instanceTypes := #[]
  staticTypes := #[(.object "java/io/InputStream"), (.object "java/io/PrintStream"), (.object "java/io/PrintStream"), (.object "java/io/InputStream"), .int, .int, .int, (.object "java/lang/SecurityManager"), (.object "java/lang/String"), (.object "java/io/Console"), (.object "java/io/PrintStream"), (.object "java/util/Properties"), (.object "java/lang/String"), (.object "java/lang/ModuleLayer")]
  resolved := Array.replicate 834 none
  statics := none }

def pool17 : Array CpInfo := pool [(9, u "<init>"), (6, .class_ 18), (1, u "java/lang/Object"), (0, u "()V"), (1, .class_ 23), (1, u "jdk/internal/util/ArraysSupport"), (0, u "LOG2_ARRAY_LONG_INDEX_SCALE"), (0, u "I"), (2, u "U"), (0, u "Ljdk/internal/misc/Unsafe;"), (8, u "BIG_ENDIAN"), (0, u "Z"), (8, u "LOG2_BYTE_BIT_SIZE"), (4, u "LOG2_ARRAY_INT_INDEX_SCALE"), (54, u "JLA"), (0, u "Ljdk/internal/access/JavaLangAccess;"), (11, u "LOG2_ARRAY_BOOLEAN_INDEX_SCALE"), (9, u "LOG2_ARRAY_BYTE_INDEX_SCALE"), (5, u "LOG2_ARRAY_CHAR_INDEX_SCALE"), (5, u "LOG2_ARRAY_SHORT_INDEX_SCALE"), (18, u "LOG2_ARRAY_FLOAT_INDEX_SCALE"), (24, u "LOG2_ARRAY_DOUBLE_INDEX_SCALE"), (89, u "T_BOOLEAN"), (2, u "T_CHAR"), (1, u "T_FLOAT"), (1, u "T_DOUBLE"), (1, u "T_BYTE"), (1, u "T_SHORT"), (1, u "T_INT"), (1, u "T_LONG"), (1, u "SOFT_MAX_ARRAY_LENGTH")] 83

def k17m0 : Method := { name := "<init>", desc := "()V", sig := { parameters := [], returnType := none }, accessFlags := 2, code := none }
/-- jdk/internal/util/ArraysSupport -/
def k17 : Class := { plain "jdk/internal/util/ArraysSupport" (some 0) with
  accessFlags := 33
  interfaces := #[]
  cf := some (fileOf pool17 21 #[] #[{ accessFlags := 2, nameIndex := 9, descriptorIndex := 19, attributes := #[] }] 33 16 #[] #[{ accessFlags := 24, nameIndex := 28, descriptorIndex := 29, attributes := #[] }, { accessFlags := 26, nameIndex := 38, descriptorIndex := 39, attributes := #[] }, { accessFlags := 25, nameIndex := 121, descriptorIndex := 25, attributes := #[] }, { accessFlags := 25, nameIndex := 131, descriptorIndex := 25, attributes := #[] }, { accessFlags := 25, nameIndex := 137, descriptorIndex := 25, attributes := #[] }, { accessFlags := 25, nameIndex := 143, descriptorIndex := 25, attributes := #[] }, { accessFlags := 25, nameIndex := 53, descriptorIndex := 25, attributes := #[] }, { accessFlags := 25, nameIndex := 24, descriptorIndex := 25, attributes := #[] }, { accessFlags := 25, nameIndex := 162, descriptorIndex := 25, attributes := #[] }, { accessFlags := 25, nameIndex := 187, descriptorIndex := 25, attributes := #[] }, { accessFlags := 26, nameIndex := 48, descriptorIndex := 25, attributes := #[] }, { accessFlags := 25, nameIndex := 277, descriptorIndex := 25, attributes := #[] }, { accessFlags := 25, nameIndex := 280, descriptorIndex := 25, attributes := #[] }, { accessFlags := 25, nameIndex := 282, descriptorIndex := 25, attributes := #[] }, { accessFlags := 25, nameIndex := 284, descriptorIndex := 25, attributes := #[] }, { accessFlags := 25, nameIndex := 286, descriptorIndex := 25, attributes := #[] }, { accessFlags := 25, nameIndex := 288, descriptorIndex := 25, attributes := #[] }, { accessFlags := 25, nameIndex := 290, descriptorIndex := 25, attributes := #[] }, { accessFlags := 25, nameIndex := 292, descriptorIndex := 25, attributes := #[] }, { accessFlags := 26, nameIndex := 108, descriptorIndex := 109, attributes := #[] }, { accessFlags := 25, nameIndex := 294, descriptorIndex := 25, attributes := #[] }])
  fields := #[{ name := "U", type := (.object "jdk/internal/misc/Unsafe"), accessFlags := 24, slot := 0, constantValue := 0 }, { name := "BIG_ENDIAN", type := .boolean, accessFlags := 26, slot := 1, constantValue := 0 }, { name := "LOG2_ARRAY_BOOLEAN_INDEX_SCALE", type := .int, accessFlags := 25, slot := 2, constantValue := 0 }, { name := "LOG2_ARRAY_BYTE_INDEX_SCALE", type := .int, accessFlags := 25, slot := 3, constantValue := 0 }, { name := "LOG2_ARRAY_CHAR_INDEX_SCALE", type := .int, accessFlags := 25, slot := 4, constantValue := 0 }, { name := "LOG2_ARRAY_SHORT_INDEX_SCALE", type := .int, accessFlags := 25, slot := 5, constantValue := 0 }, { name := "LOG2_ARRAY_INT_INDEX_SCALE", type := .int, accessFlags := 25, slot := 6, constantValue := 0 }, { name := "LOG2_ARRAY_LONG_INDEX_SCALE", type := .int, accessFlags := 25, slot := 7, constantValue := 0 }, { name := "LOG2_ARRAY_FLOAT_INDEX_SCALE", type := .int, accessFlags := 25, slot := 8, constantValue := 0 }, { name := "LOG2_ARRAY_DOUBLE_INDEX_SCALE", type := .int, accessFlags := 25, slot := 9, constantValue := 0 }, { name := "LOG2_BYTE_BIT_SIZE", type := .int, accessFlags := 26, slot := 10, constantValue := 0 }, { name := "T_BOOLEAN", type := .int, accessFlags := 25, slot := 11, constantValue := 0 }, { name := "T_CHAR", type := .int, accessFlags := 25, slot := 12, constantValue := 0 }, { name := "T_FLOAT", type := .int, accessFlags := 25, slot := 13, constantValue := 0 }, { name := "T_DOUBLE", type := .int, accessFlags := 25, slot := 14, constantValue := 0 }, { name := "T_BYTE", type := .int, accessFlags := 25, slot := 15, constantValue := 0 }, { name := "T_SHORT", type := .int, accessFlags := 25, slot := 16, constantValue := 0 }, { name := "T_INT", type := .int, accessFlags := 25, slot := 17, constantValue := 0 }, { name := "T_LONG", type := .int, accessFlags := 25, slot := 18, constantValue := 0 }, { name := "JLA", type := (.object "jdk/internal/access/JavaLangAccess"), accessFlags := 26, slot := 19, constantValue := 0 }, { name := "SOFT_MAX_ARRAY_LENGTH", type := .int, accessFlags := 25, slot := 20, constantValue := 0 }]
  methods := #[k17m0]
  instanceTypes := #[]
  staticTypes := #[(.object "jdk/internal/misc/Unsafe"), .boolean, .int, .int, .int, .int, .int, .int, .int, .int, .int, .int, .int, .int, .int, .int, .int, .int, .int, (.object "jdk/internal/access/JavaLangAccess"), .int]
  resolved := Array.replicate 378 none
  statics := none }

def pool18 : Array CpInfo := pool [(1, u "java/lang/Cloneable"), (0, .class_ 1), (0, u "java/lang/Object"), (0, .class_ 3)] 3

/-- java/lang/Cloneable -/
def k18 : Class := { plain "java/lang/Cloneable" (some 0) with
  accessFlags := 1537
  interfaces := #[]
  cf := some (fileOf pool18 2 #[] #[] 1537 4 #[] #[])
  fields := #[]
  methods := #[]
  instanceTypes := #[]
  staticTypes := #[]
  resolved := Array.replicate 8 none
  statics := none }

/-- the primitive byte -/
def k19 : Class := { plain "byte" none with kind := .primitive 'B', accessFlags := 0x411 }
/-- [B -/
def k20 : Class := { plain "[B" (some 0) with kind := .array 19 .byte, interfaces := #[18, 2], accessFlags := 1041 }

/-- the primitive char -/
def k21 : Class := { plain "char" none with kind := .primitive 'C', accessFlags := 0x411 }
/-- [C -/
def k22 : Class := { plain "[C" (some 0) with kind := .array 21 .char, interfaces := #[18, 2], accessFlags := 1041 }

/-- the primitive int -/
def k23 : Class := { plain "int" none with kind := .primitive 'I', accessFlags := 0x411 }
/-- [I -/
def k24 : Class := { plain "[I" (some 0) with kind := .array 23 .int, interfaces := #[18, 2], accessFlags := 1041 }

def heap : Heap := #[{ cls := 7, slots := #[.long 0, .int 1, .null, .int 0, .null, .int 0, .int 0], vm := .statics 7 },
  { cls := 14, slots := #[.null, .null, .null], vm := .statics 14 }]
def classes : Array Class := #[k0, k1, k2, k3, k4, k5, k6, k7, k8, k9, k10, k11, k12, k13, k14, k15, k16, k17, k18, k19, k20, k21, k22, k23, k24]
def interned : List (Array UInt16 × Addr) := []
def slotsUsed : Nat := 10
def theMethod : MethodId := ⟨1, 3⟩
def args0 : Array Value := #[.int 5, .int 5, .int 5, .int 5, .int 5]
def aboutOver (below : List Frame) : State where
  vm := { classes := classes, interned := interned.toArray }
  heap := heap
  slotsUsed := slotsUsed
  threads := #[{ frames := .invoking theMethod args0 :: below }]
def below0 : List Frame := [.native { method := ⟨0, 0⟩, args := #[] }]
def about1 : State := aboutOver below0
def p0 : Program := .bare "" "" ""
def e0 : Env := launch0.env 0 0 0
theorem w_frames : about1.frames = Frame.invoking theMethod args0 :: below0 := rfl
set_option maxRecDepth 65536 in
theorem w_args : argsFit about1.vm theMethod args0 = true := by decide +kernel
set_option maxRecDepth 65536 in
theorem w_heap : heapFits about1 = true := by decide +kernel
set_option maxRecDepth 65536 in
theorem w_runnable : about1.curStatus? = some .runnable := by decide +kernel
set_option maxRecDepth 65536 in
theorem w_alone : about1.alone = true := by decide +kernel
set_option maxRecDepth 65536 in
theorem w_named : about1.methodNamed? x = some theMethod := by decide +kernel
set_option maxRecDepth 65536 in
theorem w_hears : about1.hears theMethod below0 = true := by decide +kernel
set_option maxRecDepth 65536 in
theorem w_ripe : about1.ripe theMethod args0 below0 = true := by decide +kernel
theorem w_running : about1.status = .running := rfl
set_option maxRecDepth 65536 in
theorem w_room : about1.hasRoom e0.platform room_1 = true :=
  launch0.hasRoom_least _ room_1 (by decide +kernel) (by decide +kernel) (by decide +kernel) (by decide +kernel) (by decide +kernel) (by decide +kernel)
theorem allAtoms_all (ts : List Jvm.Cond) (a : Array Jvm.Value) (st : Jvm.State) : (allAtoms ts).before a st = ts.all (fun c => c.before a st) := by
  induction ts with
  | nil => rfl
  | cons c t ih =>
    show (Jvm.Cond.and c (allAtoms t)).before a st = _
    rw [Jvm.Cond.before_and, ih, List.all_cons]
def words1 : List Jvm.Cond := Jvm.Cond.code x code maxLocals ret :: tables_1
/-- a 'code' word, met by the world's own term for the bytes: nothing is compared byte by byte -/
theorem code_word {y : MethodName} {bytes : ByteArray} {mx : Nat} {rt : Option FieldType} {a : Array Value} {s : State} {m : MethodId} {meth : Method} {c : Code} (h1 : s.methodNamed? y = some m) (h2 : s.vm.method? m = some meth) (h3 : meth.code = some c) (h4 : c.code = bytes)
    (h5 : (c.maxLocals == mx && c.exceptionTable.isEmpty && decide (c.maxStack ≤ mostOperands) && decide (meth.sig.returnType = rt) && !meth.locks && decide (parseMethodDescriptor y.desc = some meth.sig)) = true) : (Jvm.Cond.code y bytes mx rt).before a s = true := by
  simp only [Bool.and_eq_true, beq_iff_eq, Bool.not_eq_true', decide_eq_true_eq] at h5
  obtain ⟨⟨⟨⟨⟨g1, g2⟩, g3⟩, g4⟩, g5⟩, g6⟩ := h5
  simp [Cond.before, Cond.holds, Cond.value, h1, h2, h3, h4, g1, g2, g3, g4, g5, g6]
def isCode : Jvm.Cond → Bool
  | .code _ _ _ _ => true
  | _ => false
theorem all_split {L : List Jvm.Cond} {P : Jvm.Cond → Bool} (h1 : L.all (fun c => isCode c || P c) = true) (h2 : ∀ c ∈ L.filter isCode, P c = true) : L.all P = true := by
  refine List.all_eq_true.mpr fun c hc => ?_
  have h := List.all_eq_true.mp h1 c hc
  rcases Bool.eq_false_or_eq_true (isCode c) with hi | hi
  · exact h2 c (List.mem_filter.mpr ⟨hc, hi⟩)
  · simpa [hi] using h
set_option maxRecDepth 65536 in
theorem w_c0 : (Jvm.Cond.code x code maxLocals ret).before args0 about1 = true := code_word (m := ⟨1, 3⟩) (meth := k1m3) (c := k1c3) (by decide +kernel) rfl rfl rfl (by decide +kernel)
set_option maxRecDepth 65536 in
theorem w_c1 : (Jvm.Cond.code ({ cls := "com/example/tombstone/tombstone/config/TableNameParsePinLaw", name := "ch", desc := "(I)C" } : Jvm.MethodName) method_2_code (1 : Nat) (Option.some Jvm.ClassFile.FieldType.char)).before args0 about1 = true := code_word (m := ⟨1, 1⟩) (meth := k1m1) (c := k1c1) (by decide +kernel) rfl rfl rfl (by decide +kernel)
set_option maxRecDepth 65536 in
theorem w_c2 : (Jvm.Cond.code ({ cls := "com/example/tombstone/tombstone/config/TableNameParsePinLaw", name := "mk", desc := "(ICCCC)Ljava/lang/String;" } : Jvm.MethodName) method_3_code (6 : Nat) (Option.some (Jvm.ClassFile.FieldType.object "java/lang/String"))).before args0 about1 = true := code_word (m := ⟨1, 2⟩) (meth := k1m2) (c := k1c2) (by decide +kernel) rfl rfl rfl (by decide +kernel)
set_option maxRecDepth 65536 in
theorem w_c3 : (Jvm.Cond.code ({ cls := "java/lang/String", name := "<init>", desc := "([C)V" } : Jvm.MethodName) jdk_42_method_3_code (2 : Nat) (Option.none : Option Jvm.ClassFile.FieldType)).before args0 about1 = true := code_word (m := ⟨7, 1⟩) (meth := k7m1) (c := k7c1) (by decide +kernel) rfl rfl rfl (by decide +kernel)
set_option maxRecDepth 65536 in
theorem w_c4 : (Jvm.Cond.code ({ cls := "java/lang/String", name := "<init>", desc := "([CIILjava/lang/Void;)V" } : Jvm.MethodName) jdk_42_method_149_code (6 : Nat) (Option.none : Option Jvm.ClassFile.FieldType)).before args0 about1 = true := code_word (m := ⟨7, 9⟩) (meth := k7m9) (c := k7c9) (by decide +kernel) rfl rfl rfl (by decide +kernel)
set_option maxRecDepth 65536 in
theorem w_c5 : (Jvm.Cond.code ({ cls := "java/lang/Object", name := "<init>", desc := "()V" } : Jvm.MethodName) object_method_1_code (1 : Nat) (Option.none : Option Jvm.ClassFile.FieldType)).before args0 about1 = true := code_word (m := ⟨0, 0⟩) (meth := k0m0) (c := k0c0) (by decide +kernel) rfl rfl rfl (by decide +kernel)
set_option maxRecDepth 65536 in
theorem w_c6 : (Jvm.Cond.code ({ cls := "java/lang/StringUTF16", name := "compress", desc := "([CII)[B" } : Jvm.MethodName) jdk_52_method_16_code (6 : Nat) (Option.some (Jvm.ClassFile.FieldType.array Jvm.ClassFile.FieldType.byte))).before args0 about1 = true := code_word (m := ⟨8, 2⟩) (meth := k8m2) (c := k8c2) (by decide +kernel) rfl rfl rfl (by decide +kernel)
set_option maxRecDepth 65536 in
theorem w_c7 : (Jvm.Cond.code ({ cls := "java/lang/StringUTF16", name := "compress", desc := "([CI[BII)I" } : Jvm.MethodName) jdk_52_method_21_code (7 : Nat) (Option.some Jvm.ClassFile.FieldType.int)).before args0 about1 = true := code_word (m := ⟨8, 3⟩) (meth := k8m3) (c := k8c3) (by decide +kernel) rfl rfl rfl (by decide +kernel)
set_option maxRecDepth 65536 in
theorem w_c8 : (Jvm.Cond.code ({ cls := "java/lang/StringUTF16", name := "coderFromArrayLen", desc := "([BI)B" } : Jvm.MethodName) jdk_52_method_15_code (2 : Nat) (Option.some Jvm.ClassFile.FieldType.byte)).before args0 about1 = true := code_word (m := ⟨8, 1⟩) (meth := k8m1) (c := k8c1) (by decide +kernel) rfl rfl rfl (by decide +kernel)
set_option maxRecDepth 65536 in
theorem w_c9 : (Jvm.Cond.code ({ cls := "com/example/tombstone/tombstone/config/TableName", name := "parse", desc := "(Ljava/lang/String;)Lcom/example/tombstone/tombstone/config/TableName;" } : Jvm.MethodName) prog_8_method_2_code (4 : Nat) (Option.some (Jvm.ClassFile.FieldType.object "com/example/tombstone/tombstone/config/TableName"))).before args0 about1 = true := code_word (m := ⟨10, 1⟩) (meth := k10m1) (c := k10c1) (by decide +kernel) rfl rfl rfl (by decide +kernel)
set_option maxRecDepth 65536 in
theorem w_c10 : (Jvm.Cond.code ({ cls := "java/util/Objects", name := "requireNonNull", desc := "(Ljava/lang/Object;Ljava/lang/String;)Ljava/lang/Object;" } : Jvm.MethodName) jdk_31_method_11_code (2 : Nat) (Option.some (Jvm.ClassFile.FieldType.object "java/lang/Object"))).before args0 about1 = true := code_word (m := ⟨11, 1⟩) (meth := k11m1) (c := k11c1) (by decide +kernel) rfl rfl rfl (by decide +kernel)
set_option maxRecDepth 65536 in
theorem w_c11 : (Jvm.Cond.code ({ cls := "java/lang/String", name := "indexOf", desc := "(I)I" } : Jvm.MethodName) jdk_42_method_79_code (2 : Nat) (Option.some Jvm.ClassFile.FieldType.int)).before args0 about1 = true := code_word (m := ⟨7, 5⟩) (meth := k7m5) (c := k7c5) (by decide +kernel) rfl rfl rfl (by decide +kernel)
set_option maxRecDepth 65536 in
theorem w_c12 : (Jvm.Cond.code ({ cls := "java/lang/String", name := "indexOf", desc := "(II)I" } : Jvm.MethodName) jdk_42_method_80_code (3 : Nat) (Option.some Jvm.ClassFile.FieldType.int)).before args0 about1 = true := code_word (m := ⟨7, 6⟩) (meth := k7m6) (c := k7c6) (by decide +kernel) rfl rfl rfl (by decide +kernel)
set_option maxRecDepth 65536 in
theorem w_c13 : (Jvm.Cond.code ({ cls := "java/lang/String", name := "isLatin1", desc := "()Z" } : Jvm.MethodName) jdk_42_method_154_code (1 : Nat) (Option.some Jvm.ClassFile.FieldType.boolean)).before args0 about1 = true := code_word (m := ⟨7, 12⟩) (meth := k7m12) (c := k7c12) (by decide +kernel) rfl rfl rfl (by decide +kernel)
set_option maxRecDepth 65536 in
theorem w_c14 : (Jvm.Cond.code ({ cls := "java/lang/String", name := "length", desc := "()I" } : Jvm.MethodName) jdk_42_method_54_code (1 : Nat) (Option.some Jvm.ClassFile.FieldType.int)).before args0 about1 = true := code_word (m := ⟨7, 2⟩) (meth := k7m2) (c := k7c2) (by decide +kernel) rfl rfl rfl (by decide +kernel)
set_option maxRecDepth 65536 in
theorem w_c15 : (Jvm.Cond.code ({ cls := "java/lang/String", name := "coder", desc := "()B" } : Jvm.MethodName) jdk_42_method_152_code (1 : Nat) (Option.some Jvm.ClassFile.FieldType.byte)).before args0 about1 = true := code_word (m := ⟨7, 11⟩) (meth := k7m11) (c := k7c11) (by decide +kernel) rfl rfl rfl (by decide +kernel)
set_option maxRecDepth 65536 in
theorem w_c16 : (Jvm.Cond.code ({ cls := "java/lang/StringLatin1", name := "indexOf", desc := "([BIII)I" } : Jvm.MethodName) jdk_43_method_22_code (4 : Nat) (Option.some Jvm.ClassFile.FieldType.int)).before args0 about1 = true := code_word (m := ⟨12, 3⟩) (meth := k12m3) (c := k12c3) (by decide +kernel) rfl rfl rfl (by decide +kernel)
set_option maxRecDepth 65536 in
theorem w_c17 : (Jvm.Cond.code ({ cls := "java/lang/StringLatin1", name := "canEncode", desc := "(I)Z" } : Jvm.MethodName) jdk_43_method_4_code (1 : Nat) (Option.some Jvm.ClassFile.FieldType.boolean)).before args0 about1 = true := code_word (m := ⟨12, 1⟩) (meth := k12m1) (c := k12c1) (by decide +kernel) rfl rfl rfl (by decide +kernel)
set_option maxRecDepth 65536 in
theorem w_c18 : (Jvm.Cond.code ({ cls := "java/lang/Math", name := "max", desc := "(II)I" } : Jvm.MethodName) jdk_29_method_65_code (2 : Nat) (Option.some Jvm.ClassFile.FieldType.int)).before args0 about1 = true := code_word (m := ⟨13, 1⟩) (meth := k13m1) (c := k13c1) (by decide +kernel) rfl rfl rfl (by decide +kernel)
set_option maxRecDepth 65536 in
theorem w_c19 : (Jvm.Cond.code ({ cls := "java/lang/Math", name := "min", desc := "(II)I" } : Jvm.MethodName) jdk_29_method_69_code (2 : Nat) (Option.some Jvm.ClassFile.FieldType.int)).before args0 about1 = true := code_word (m := ⟨13, 2⟩) (meth := k13m2) (c := k13c2) (by decide +kernel) rfl rfl rfl (by decide +kernel)
set_option maxRecDepth 65536 in
theorem w_c20 : (Jvm.Cond.code ({ cls := "java/lang/StringLatin1", name := "indexOfChar", desc := "([BIII)I" } : Jvm.MethodName) jdk_43_method_23_code (6 : Nat) (Option.some Jvm.ClassFile.FieldType.int)).before args0 about1 = true := code_word (m := ⟨12, 4⟩) (meth := k12m4) (c := k12c4) (by decide +kernel) rfl rfl rfl (by decide +kernel)
set_option maxRecDepth 65536 in
theorem w_c21 : (Jvm.Cond.code ({ cls := "java/lang/String", name := "isEmpty", desc := "()Z" } : Jvm.MethodName) jdk_42_method_55_code (1 : Nat) (Option.some Jvm.ClassFile.FieldType.boolean)).before args0 about1 = true := code_word (m := ⟨7, 3⟩) (meth := k7m3) (c := k7c3) (by decide +kernel) rfl rfl rfl (by decide +kernel)
set_option maxRecDepth 65536 in
theorem w_c22 : (Jvm.Cond.code ({ cls := "com/example/tombstone/tombstone/config/TableName", name := "<init>", desc := "(Ljava/lang/String;Ljava/lang/String;)V" } : Jvm.MethodName) prog_8_method_1_code (3 : Nat) (Option.none : Option Jvm.ClassFile.FieldType)).before args0 about1 = true := code_word (m := ⟨10, 0⟩) (meth := k10m0) (c := k10c0) (by decide +kernel) rfl rfl rfl (by decide +kernel)
set_option maxRecDepth 65536 in
theorem w_c23 : (Jvm.Cond.code ({ cls := "java/lang/Record", name := "<init>", desc := "()V" } : Jvm.MethodName) jdk_30_method_1_code (1 : Nat) (Option.none : Option Jvm.ClassFile.FieldType)).before args0 about1 = true := code_word (m := ⟨9, 0⟩) (meth := k9m0) (c := k9c0) (by decide +kernel) rfl rfl rfl (by decide +kernel)
set_option maxRecDepth 65536 in
theorem w_c24 : (Jvm.Cond.code ({ cls := "com/example/tombstone/tombstone/config/TableName", name := "schema", desc := "()Ljava/lang/String;" } : Jvm.MethodName) prog_8_method_9_code (1 : Nat) (Option.some (Jvm.ClassFile.FieldType.object "java/lang/String"))).before args0 about1 = true := code_word (m := ⟨10, 2⟩) (meth := k10m2) (c := k10c2) (by decide +kernel) rfl rfl rfl (by decide +kernel)
set_option maxRecDepth 65536 in
theorem w_c25 : (Jvm.Cond.code ({ cls := "java/lang/String", name := "equals", desc := "(Ljava/lang/Object;)Z" } : Jvm.MethodName) jdk_42_method_66_code (3 : Nat) (Option.some Jvm.ClassFile.FieldType.boolean)).before args0 about1 = true := code_word (m := ⟨7, 4⟩) (meth := k7m4) (c := k7c4) (by decide +kernel) rfl rfl rfl (by decide +kernel)
set_option maxRecDepth 65536 in
theorem w_c26 : (Jvm.Cond.code ({ cls := "com/example/tombstone/tombstone/config/TableName", name := "name", desc := "()Ljava/lang/String;" } : Jvm.MethodName) prog_8_method_10_code (1 : Nat) (Option.some (Jvm.ClassFile.FieldType.object "java/lang/String"))).before args0 about1 = true := code_word (m := ⟨10, 3⟩) (meth := k10m3) (c := k10c3) (by decide +kernel) rfl rfl rfl (by decide +kernel)
set_option maxRecDepth 65536 in
theorem w_c27 : (Jvm.Cond.code ({ cls := "java/lang/String", name := "substring", desc := "(II)Ljava/lang/String;" } : Jvm.MethodName) jdk_42_method_92_code (5 : Nat) (Option.some (Jvm.ClassFile.FieldType.object "java/lang/String"))).before args0 about1 = true := code_word (m := ⟨7, 8⟩) (meth := k7m8) (c := k7c8) (by decide +kernel) rfl rfl rfl (by decide +kernel)
set_option maxRecDepth 65536 in
theorem w_c28 : (Jvm.Cond.code ({ cls := "java/lang/String", name := "checkBoundsBeginEnd", desc := "(III)V" } : Jvm.MethodName) jdk_42_method_158_code (3 : Nat) (Option.none : Option Jvm.ClassFile.FieldType)).before args0 about1 = true := code_word (m := ⟨7, 13⟩) (meth := k7m13) (c := k7c13) (by decide +kernel) rfl rfl rfl (by decide +kernel)
set_option maxRecDepth 65536 in
theorem w_c29 : (Jvm.Cond.code ({ cls := "jdk/internal/util/Preconditions", name := "checkFromToIndex", desc := "(IIILjava/util/function/BiFunction;)I" } : Jvm.MethodName) jdk_41_method_12_code (4 : Nat) (Option.some Jvm.ClassFile.FieldType.int)).before args0 about1 = true := code_word (m := ⟨14, 1⟩) (meth := k14m1) (c := k14c1) (by decide +kernel) rfl rfl rfl (by decide +kernel)
set_option maxRecDepth 65536 in
theorem w_c30 : (Jvm.Cond.code ({ cls := "java/lang/StringLatin1", name := "newString", desc := "([BII)Ljava/lang/String;" } : Jvm.MethodName) jdk_43_method_47_code (3 : Nat) (Option.some (Jvm.ClassFile.FieldType.object "java/lang/String"))).before args0 about1 = true := code_word (m := ⟨12, 5⟩) (meth := k12m5) (c := k12c5) (by decide +kernel) rfl rfl rfl (by decide +kernel)
set_option maxRecDepth 65536 in
theorem w_c31 : (Jvm.Cond.code ({ cls := "java/util/Arrays", name := "copyOfRange", desc := "([BII)[B" } : Jvm.MethodName) jdk_65_method_132_code (3 : Nat) (Option.some (Jvm.ClassFile.FieldType.array Jvm.ClassFile.FieldType.byte))).before args0 about1 = true := code_word (m := ⟨15, 2⟩) (meth := k15m2) (c := k15c2) (by decide +kernel) rfl rfl rfl (by decide +kernel)
set_option maxRecDepth 65536 in
theorem w_c32 : (Jvm.Cond.code ({ cls := "java/util/Arrays", name := "copyOfRangeByte", desc := "([BII)[B" } : Jvm.MethodName) jdk_65_method_133_code (5 : Nat) (Option.some (Jvm.ClassFile.FieldType.array Jvm.ClassFile.FieldType.byte))).before args0 about1 = true := code_word (m := ⟨15, 3⟩) (meth := k15m3) (c := k15c3) (by decide +kernel) rfl rfl rfl (by decide +kernel)
set_option maxRecDepth 65536 in
theorem w_c33 : (Jvm.Cond.code ({ cls := "java/util/Arrays", name := "checkLength", desc := "(II)V" } : Jvm.MethodName) jdk_65_method_131_code (2 : Nat) (Option.none : Option Jvm.ClassFile.FieldType)).before args0 about1 = true := code_word (m := ⟨15, 1⟩) (meth := k15m1) (c := k15c1) (by decide +kernel) rfl rfl rfl (by decide +kernel)
set_option maxRecDepth 65536 in
theorem w_c34 : (Jvm.Cond.code ({ cls := "java/lang/String", name := "<init>", desc := "([BB)V" } : Jvm.MethodName) jdk_42_method_151_code (3 : Nat) (Option.none : Option Jvm.ClassFile.FieldType)).before args0 about1 = true := code_word (m := ⟨7, 10⟩) (meth := k7m10) (c := k7c10) (by decide +kernel) rfl rfl rfl (by decide +kernel)
set_option maxRecDepth 65536 in
theorem w_c35 : (Jvm.Cond.code ({ cls := "java/lang/String", name := "substring", desc := "(I)Ljava/lang/String;" } : Jvm.MethodName) jdk_42_method_91_code (2 : Nat) (Option.some (Jvm.ClassFile.FieldType.object "java/lang/String"))).before args0 about1 = true := code_word (m := ⟨7, 7⟩) (meth := k7m7) (c := k7c7) (by decide +kernel) rfl rfl rfl (by decide +kernel)
set_option maxRecDepth 65536 in
theorem w_c36 : (Jvm.Cond.code ({ cls := "java/lang/StringLatin1", name := "equals", desc := "([B[B)Z" } : Jvm.MethodName) jdk_43_method_13_code (3 : Nat) (Option.some Jvm.ClassFile.FieldType.boolean)).before args0 about1 = true := code_word (m := ⟨12, 2⟩) (meth := k12m2) (c := k12c2) (by decide +kernel) rfl rfl rfl (by decide +kernel)
def codes1 : List Jvm.Cond := [Jvm.Cond.code x code maxLocals ret, Jvm.Cond.code ({ cls := "com/example/tombstone/tombstone/config/TableNameParsePinLaw", name := "ch", desc := "(I)C" } : Jvm.MethodName) method_2_code (1 : Nat) (Option.some Jvm.ClassFile.FieldType.char), Jvm.Cond.code ({ cls := "com/example/tombstone/tombstone/config/TableNameParsePinLaw", name := "mk", desc := "(ICCCC)Ljava/lang/String;" } : Jvm.MethodName) method_3_code (6 : Nat) (Option.some (Jvm.ClassFile.FieldType.object "java/lang/String")), Jvm.Cond.code ({ cls := "java/lang/String", name := "<init>", desc := "([C)V" } : Jvm.MethodName) jdk_42_method_3_code (2 : Nat) (Option.none : Option Jvm.ClassFile.FieldType), Jvm.Cond.code ({ cls := "java/lang/String", name := "<init>", desc := "([CIILjava/lang/Void;)V" } : Jvm.MethodName) jdk_42_method_149_code (6 : Nat) (Option.none : Option Jvm.ClassFile.FieldType), Jvm.Cond.code ({ cls := "java/lang/Object", name := "<init>", desc := "()V" } : Jvm.MethodName) object_method_1_code (1 : Nat) (Option.none : Option Jvm.ClassFile.FieldType), Jvm.Cond.code ({ cls := "java/lang/StringUTF16", name := "compress", desc := "([CII)[B" } : Jvm.MethodName) jdk_52_method_16_code (6 : Nat) (Option.some (Jvm.ClassFile.FieldType.array Jvm.ClassFile.FieldType.byte)), Jvm.Cond.code ({ cls := "java/lang/StringUTF16", name := "compress", desc := "([CI[BII)I" } : Jvm.MethodName) jdk_52_method_21_code (7 : Nat) (Option.some Jvm.ClassFile.FieldType.int), Jvm.Cond.code ({ cls := "java/lang/StringUTF16", name := "coderFromArrayLen", desc := "([BI)B" } : Jvm.MethodName) jdk_52_method_15_code (2 : Nat) (Option.some Jvm.ClassFile.FieldType.byte), Jvm.Cond.code ({ cls := "com/example/tombstone/tombstone/config/TableName", name := "parse", desc := "(Ljava/lang/String;)Lcom/example/tombstone/tombstone/config/TableName;" } : Jvm.MethodName) prog_8_method_2_code (4 : Nat) (Option.some (Jvm.ClassFile.FieldType.object "com/example/tombstone/tombstone/config/TableName")), Jvm.Cond.code ({ cls := "java/util/Objects", name := "requireNonNull", desc := "(Ljava/lang/Object;Ljava/lang/String;)Ljava/lang/Object;" } : Jvm.MethodName) jdk_31_method_11_code (2 : Nat) (Option.some (Jvm.ClassFile.FieldType.object "java/lang/Object")), Jvm.Cond.code ({ cls := "java/lang/String", name := "indexOf", desc := "(I)I" } : Jvm.MethodName) jdk_42_method_79_code (2 : Nat) (Option.some Jvm.ClassFile.FieldType.int), Jvm.Cond.code ({ cls := "java/lang/String", name := "indexOf", desc := "(II)I" } : Jvm.MethodName) jdk_42_method_80_code (3 : Nat) (Option.some Jvm.ClassFile.FieldType.int), Jvm.Cond.code ({ cls := "java/lang/String", name := "isLatin1", desc := "()Z" } : Jvm.MethodName) jdk_42_method_154_code (1 : Nat) (Option.some Jvm.ClassFile.FieldType.boolean), Jvm.Cond.code ({ cls := "java/lang/String", name := "length", desc := "()I" } : Jvm.MethodName) jdk_42_method_54_code (1 : Nat) (Option.some Jvm.ClassFile.FieldType.int), Jvm.Cond.code ({ cls := "java/lang/String", name := "coder", desc := "()B" } : Jvm.MethodName) jdk_42_method_152_code (1 : Nat) (Option.some Jvm.ClassFile.FieldType.byte), Jvm.Cond.code ({ cls := "java/lang/StringLatin1", name := "indexOf", desc := "([BIII)I" } : Jvm.MethodName) jdk_43_method_22_code (4 : Nat) (Option.some Jvm.ClassFile.FieldType.int), Jvm.Cond.code ({ cls := "java/lang/StringLatin1", name := "canEncode", desc := "(I)Z" } : Jvm.MethodName) jdk_43_method_4_code (1 : Nat) (Option.some Jvm.ClassFile.FieldType.boolean), Jvm.Cond.code ({ cls := "java/lang/Math", name := "max", desc := "(II)I" } : Jvm.MethodName) jdk_29_method_65_code (2 : Nat) (Option.some Jvm.ClassFile.FieldType.int), Jvm.Cond.code ({ cls := "java/lang/Math", name := "min", desc := "(II)I" } : Jvm.MethodName) jdk_29_method_69_code (2 : Nat) (Option.some Jvm.ClassFile.FieldType.int), Jvm.Cond.code ({ cls := "java/lang/StringLatin1", name := "indexOfChar", desc := "([BIII)I" } : Jvm.MethodName) jdk_43_method_23_code (6 : Nat) (Option.some Jvm.ClassFile.FieldType.int), Jvm.Cond.code ({ cls := "java/lang/String", name := "isEmpty", desc := "()Z" } : Jvm.MethodName) jdk_42_method_55_code (1 : Nat) (Option.some Jvm.ClassFile.FieldType.boolean), Jvm.Cond.code ({ cls := "com/example/tombstone/tombstone/config/TableName", name := "<init>", desc := "(Ljava/lang/String;Ljava/lang/String;)V" } : Jvm.MethodName) prog_8_method_1_code (3 : Nat) (Option.none : Option Jvm.ClassFile.FieldType), Jvm.Cond.code ({ cls := "java/lang/Record", name := "<init>", desc := "()V" } : Jvm.MethodName) jdk_30_method_1_code (1 : Nat) (Option.none : Option Jvm.ClassFile.FieldType), Jvm.Cond.code ({ cls := "com/example/tombstone/tombstone/config/TableName", name := "schema", desc := "()Ljava/lang/String;" } : Jvm.MethodName) prog_8_method_9_code (1 : Nat) (Option.some (Jvm.ClassFile.FieldType.object "java/lang/String")), Jvm.Cond.code ({ cls := "java/lang/String", name := "equals", desc := "(Ljava/lang/Object;)Z" } : Jvm.MethodName) jdk_42_method_66_code (3 : Nat) (Option.some Jvm.ClassFile.FieldType.boolean), Jvm.Cond.code ({ cls := "com/example/tombstone/tombstone/config/TableName", name := "name", desc := "()Ljava/lang/String;" } : Jvm.MethodName) prog_8_method_10_code (1 : Nat) (Option.some (Jvm.ClassFile.FieldType.object "java/lang/String")), Jvm.Cond.code ({ cls := "java/lang/String", name := "substring", desc := "(II)Ljava/lang/String;" } : Jvm.MethodName) jdk_42_method_92_code (5 : Nat) (Option.some (Jvm.ClassFile.FieldType.object "java/lang/String")), Jvm.Cond.code ({ cls := "java/lang/String", name := "checkBoundsBeginEnd", desc := "(III)V" } : Jvm.MethodName) jdk_42_method_158_code (3 : Nat) (Option.none : Option Jvm.ClassFile.FieldType), Jvm.Cond.code ({ cls := "jdk/internal/util/Preconditions", name := "checkFromToIndex", desc := "(IIILjava/util/function/BiFunction;)I" } : Jvm.MethodName) jdk_41_method_12_code (4 : Nat) (Option.some Jvm.ClassFile.FieldType.int), Jvm.Cond.code ({ cls := "java/lang/StringLatin1", name := "newString", desc := "([BII)Ljava/lang/String;" } : Jvm.MethodName) jdk_43_method_47_code (3 : Nat) (Option.some (Jvm.ClassFile.FieldType.object "java/lang/String")), Jvm.Cond.code ({ cls := "java/util/Arrays", name := "copyOfRange", desc := "([BII)[B" } : Jvm.MethodName) jdk_65_method_132_code (3 : Nat) (Option.some (Jvm.ClassFile.FieldType.array Jvm.ClassFile.FieldType.byte)), Jvm.Cond.code ({ cls := "java/util/Arrays", name := "copyOfRangeByte", desc := "([BII)[B" } : Jvm.MethodName) jdk_65_method_133_code (5 : Nat) (Option.some (Jvm.ClassFile.FieldType.array Jvm.ClassFile.FieldType.byte)), Jvm.Cond.code ({ cls := "java/util/Arrays", name := "checkLength", desc := "(II)V" } : Jvm.MethodName) jdk_65_method_131_code (2 : Nat) (Option.none : Option Jvm.ClassFile.FieldType), Jvm.Cond.code ({ cls := "java/lang/String", name := "<init>", desc := "([BB)V" } : Jvm.MethodName) jdk_42_method_151_code (3 : Nat) (Option.none : Option Jvm.ClassFile.FieldType), Jvm.Cond.code ({ cls := "java/lang/String", name := "substring", desc := "(I)Ljava/lang/String;" } : Jvm.MethodName) jdk_42_method_91_code (2 : Nat) (Option.some (Jvm.ClassFile.FieldType.object "java/lang/String")), Jvm.Cond.code ({ cls := "java/lang/StringLatin1", name := "equals", desc := "([B[B)Z" } : Jvm.MethodName) jdk_43_method_13_code (3 : Nat) (Option.some Jvm.ClassFile.FieldType.boolean)]
set_option maxRecDepth 65536 in
theorem codes_eq : words1.filter isCode = codes1 := rfl
theorem w_codes : ∀ c ∈ words1.filter isCode, c.before args0 about1 = true := by
  rw [codes_eq]
  intro c hc
  simp only [codes1, List.mem_cons, List.not_mem_nil, or_false] at hc
  rcases hc with rfl | rfl | rfl | rfl | rfl | rfl | rfl | rfl | rfl | rfl | rfl | rfl | rfl | rfl | rfl | rfl | rfl | rfl | rfl | rfl | rfl | rfl | rfl | rfl | rfl | rfl | rfl | rfl | rfl | rfl | rfl | rfl | rfl | rfl | rfl | rfl | rfl
  · exact w_c0
  · exact w_c1
  · exact w_c2
  · exact w_c3
  · exact w_c4
  · exact w_c5
  · exact w_c6
  · exact w_c7
  · exact w_c8
  · exact w_c9
  · exact w_c10
  · exact w_c11
  · exact w_c12
  · exact w_c13
  · exact w_c14
  · exact w_c15
  · exact w_c16
  · exact w_c17
  · exact w_c18
  · exact w_c19
  · exact w_c20
  · exact w_c21
  · exact w_c22
  · exact w_c23
  · exact w_c24
  · exact w_c25
  · exact w_c26
  · exact w_c27
  · exact w_c28
  · exact w_c29
  · exact w_c30
  · exact w_c31
  · exact w_c32
  · exact w_c33
  · exact w_c34
  · exact w_c35
  · exact w_c36
set_option maxRecDepth 65536 in
theorem w_t1 : (words1.take 24).all (fun c => isCode c || c.before args0 about1) = true := by decide +kernel
set_option maxRecDepth 65536 in
theorem w_t2 : ((words1.drop 24).take 24).all (fun c => isCode c || c.before args0 about1) = true := by decide +kernel
set_option maxRecDepth 65536 in
theorem w_t3 : (((words1.drop 24).drop 24).take 24).all (fun c => isCode c || c.before args0 about1) = true := by decide +kernel
set_option maxRecDepth 65536 in
theorem w_t4 : ((((words1.drop 24).drop 24).drop 24).take 24).all (fun c => isCode c || c.before args0 about1) = true := by decide +kernel
set_option maxRecDepth 65536 in
theorem w_t5 : (((((words1.drop 24).drop 24).drop 24).drop 24).take 24).all (fun c => isCode c || c.before args0 about1) = true := by decide +kernel
set_option maxRecDepth 65536 in
theorem w_t6 : ((((((words1.drop 24).drop 24).drop 24).drop 24).drop 24).take 24).all (fun c => isCode c || c.before args0 about1) = true := by decide +kernel
set_option maxRecDepth 65536 in
theorem w_t7 : (((((((words1.drop 24).drop 24).drop 24).drop 24).drop 24).drop 24).take 24).all (fun c => isCode c || c.before args0 about1) = true := by decide +kernel
set_option maxRecDepth 65536 in
theorem w_t8 : (((((((words1.drop 24).drop 24).drop 24).drop 24).drop 24).drop 24).drop 24).all (fun c => isCode c || c.before args0 about1) = true := by decide +kernel
theorem w_tables : (allAtoms (Jvm.Cond.code x code maxLocals ret :: tables_1)).before args0 about1 = true := by
  rw [allAtoms_all]
  show words1.all (fun c => c.before args0 about1) = true
  refine all_split ?_ w_codes
  rw [← List.take_append_drop 24 words1, List.all_append, w_t1, ← List.take_append_drop 24 (words1.drop 24), List.all_append, w_t2, ← List.take_append_drop 24 ((words1.drop 24).drop 24), List.all_append, w_t3, ← List.take_append_drop 24 (((words1.drop 24).drop 24).drop 24), List.all_append, w_t4, ← List.take_append_drop 24 ((((words1.drop 24).drop 24).drop 24).drop 24), List.all_append, w_t5, ← List.take_append_drop 24 (((((words1.drop 24).drop 24).drop 24).drop 24).drop 24), List.all_append, w_t6, ← List.take_append_drop 24 ((((((words1.drop 24).drop 24).drop 24).drop 24).drop 24).drop 24), List.all_append, w_t7, w_t8]
  rfl
set_option maxRecDepth 65536 in
theorem w_rest : rest_1_c.before args0 about1 = true := by decide +kernel
set_option maxRecDepth 65536 in
theorem w_case : (Jvm.Cond.and given_1 narrow_1).before args0 about1 = true := by decide +kernel
set_option maxRecDepth 65536 in
theorem w_consts : constsHeld consts_1 about1 := Jvm.Lit.constsHeldB_iff.mp (by decide +kernel)
theorem w_applies : (headSpec (Jvm.Cond.code x code maxLocals ret :: tables_1) room_1).applies x e0.platform about1 = true :=
  (Spec.applies_iff w_frames).mpr ⟨w_running, w_runnable, w_alone, w_named, w_hears, w_ripe, w_room, w_tables⟩
theorem atStart : AtStart classFile x code maxLocals ret World_1 tables_1 room_1 Calls_1 rest_1 Pre_1 launch0 p0 e0 about1 theMethod args0 below0 :=
  ⟨lists_1, trivial, launch0.admits_env _ _ _, launch0.least_env, fairChoices_fair.cas, fairChoices_fair.clock, w_frames, w_args, w_heap, w_applies, ⟨w_consts, trivial⟩, w_rest, w_case⟩
end start1
theorem witness_1 : WitnessClaimed_1 := ⟨start1.p0, start1.e0, start1.about1, start1.theMethod, start1.args0, start1.below0, start1.atStart⟩
end Jvm.Pilot.@@N@@
