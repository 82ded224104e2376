import JvmDerived
import JvmDerived.Pilot.@@N@@Statement
import JvmDerived.Pilot.@@N@@Code
set_option linter.unusedVariables false
set_option linter.unusedSimpArgs false
namespace Jvm.RoadKit
open Sem ClassFile Op Lib Jvm.Stand Jvm.Free Jvm.LawKit
section New
variable {p : Program} {l : Launch} {e : Env} {R : Room} {s : State} {m : MethodId} {args : Array Value} {below : List Frame} {meth : Method} {c : Code} {T : State} {locs : List Loc} {cells slots : Nat}
theorem retI (X : Stand p l e R s m args below meth c T locs cells slots) (hx : p.tables.exec = Jvm.exec) {pc : Nat} {Ls : Array Slot} {z : Int32} {rest : List Value} (hret : meth.sig.returnType = some .int) (hd : decode c.code pc = .ok (.ireturn, 1)) {fs : List Frame}
  (hl : ∀ (f : JFrame) (acts : List Action), f.method = m → f.locked = none → f.entered = [] → (doReturn e (T.setTop f) acts (some (.int z))).1 = T.setFrames fs) : Steps p.tables e below (T.setTop (mkF m pc Ls (.int z :: rest))) (T.setFrames fs) := by
 have hm' : T.vm.method? m = some meth := X.method'
 have hn : narrow .int (.int z) = .int z := rfl
 show Steps p.tables e below (T.setTop { method := m, pc := pc, locals := Ls, stack := _ :: rest, locked := none }) _
 jvm_step X.here [X.here.top, hx, hd, hm', hret, hn]
 first | (intro acts; rw [hl _ acts rfl rfl rfl]) | rw [hl _ _ rfl rfl rfl]
 exact Steps.refl _
end New
end Jvm.RoadKit
namespace Jvm.Pilot.@@N@@
set_option maxRecDepth 65536
set_option maxHeartbeats 40000000
open Jvm Jvm.ClassFile Sem Op Lib Jvm.Free Jvm.Stand Jvm.LawKit Jvm.RoadKit Bundle Jvm.Pilot.@@N@@.Jvm.D
section OwnKit
variable {p : Program} {l : Launch} {e : Env} {R : Room} {s : State} {m : MethodId} {args : Array Value} {below : List Frame} {meth : Method} {c : Code} {T : State} {locs : List Loc} {cells slots : Nat} {Z : State} {a0 : Array Value} {h : Heap} {P : Outcome → State → Prop} {pc pc' pc1 pc2 : Nat} {L L' : Array Slot} {S : List Value}
/-- the run from U comes to an end that P holds of -/
def OG (p : Program) (e : Env) (below : List Frame) (P : Outcome → State → Prop) (U : State) : Prop := ∃ s₂ o, Steps p.tables e below U s₂ ∧ s₂.status = .running ∧ Ended s₂ below o ∧ P o s₂
theorem OG.of {U U' : State} (k : ∀ t, Steps p.tables e below U' t → Steps p.tables e below U t) (h : OG p e below P U') : OG p e below P U := by
 obtain ⟨t, o, h1, h2⟩ := h; exact ⟨t, o, k t h1, h2⟩
theorem OG.cast {g g' : JFrame} (q : g = g') (k : OG p e below P (T.setTop g')) : OG p e below P (T.setTop g) := q ▸ k
theorem og_iadd (X : Stand p l e R s m args below meth c T locs cells slots) (hx : p.tables.exec = Jvm.exec) {x y : Int32} (hd : decode c.code pc = .ok (.iadd, 1)) (hp : pc + 1 = pc') (k : OG p e below P (T.setTop (mkF m pc' L (.int (x + y) :: S)))) : OG p e below P (T.setTop (mkF m pc L (.int y :: .int x :: S))) := by
 subst hp; exact OG.of (fun t k => XS.iadd X.here hx rfl hd rfl k) k
theorem og_isub (X : Stand p l e R s m args below meth c T locs cells slots) (hx : p.tables.exec = Jvm.exec) {x y : Int32} (hd : decode c.code pc = .ok (.isub, 1)) (hp : pc + 1 = pc') (k : OG p e below P (T.setTop (mkF m pc' L (.int (x - y) :: S)))) : OG p e below P (T.setTop (mkF m pc L (.int y :: .int x :: S))) := by
 subst hp; exact OG.of (fun t k => XS.isub X.here hx rfl hd rfl k) k
theorem og_iand (X : Stand p l e R s m args below meth c T locs cells slots) (hx : p.tables.exec = Jvm.exec) {x y : Int32} (hd : decode c.code pc = .ok (.iand, 1)) (hp : pc + 1 = pc') (k : OG p e below P (T.setTop (mkF m pc' L (.int (x &&& y) :: S)))) : OG p e below P (T.setTop (mkF m pc L (.int y :: .int x :: S))) := by
 subst hp; exact OG.of (fun t k => XS.iand X.here hx rfl hd rfl k) k
theorem og_ior (X : Stand p l e R s m args below meth c T locs cells slots) (hx : p.tables.exec = Jvm.exec) {x y : Int32} (hd : decode c.code pc = .ok (.ior, 1)) (hp : pc + 1 = pc') (k : OG p e below P (T.setTop (mkF m pc' L (.int (x ||| y) :: S)))) : OG p e below P (T.setTop (mkF m pc L (.int y :: .int x :: S))) := by
 subst hp; exact OG.of (fun t k => XS.ior X.here hx rfl hd rfl k) k
theorem og_ishl (X : Stand p l e R s m args below meth c T locs cells slots) (hx : p.tables.exec = Jvm.exec) {x y : Int32} (hd : decode c.code pc = .ok (.ishl, 1)) (hp : pc + 1 = pc') (k : OG p e below P (T.setTop (mkF m pc' L (.int (x <<< (y &&& 31)) :: S)))) : OG p e below P (T.setTop (mkF m pc L (.int y :: .int x :: S))) := by
 subst hp; exact OG.of (fun t k => XS.ishl X.here hx rfl hd rfl k) k
theorem og_ishr (X : Stand p l e R s m args below meth c T locs cells slots) (hx : p.tables.exec = Jvm.exec) {x y : Int32} (hd : decode c.code pc = .ok (.ishr, 1)) (hp : pc + 1 = pc') (k : OG p e below P (T.setTop (mkF m pc' L (.int (x >>> (y &&& 31)) :: S)))) : OG p e below P (T.setTop (mkF m pc L (.int y :: .int x :: S))) := by
 subst hp; exact OG.of (fun t k => XS.ishr X.here hx rfl hd rfl k) k
theorem og_iushr (X : Stand p l e R s m args below meth c T locs cells slots) (hx : p.tables.exec = Jvm.exec) {x y : Int32} (hd : decode c.code pc = .ok (.iushr, 1)) (hp : pc + 1 = pc') (k : OG p e below P (T.setTop (mkF m pc' L (.int ((x.toUInt32 >>> (y &&& 31).toUInt32).toInt32) :: S)))) : OG p e below P (T.setTop (mkF m pc L (.int y :: .int x :: S))) := by
 subst hp; exact OG.of (fun t k => XS.iushr X.here hx rfl hd rfl k) k
theorem og_i2b (X : Stand p l e R s m args below meth c T locs cells slots) (hx : p.tables.exec = Jvm.exec) {x : Int32} (hd : decode c.code pc = .ok (.i2b, 1)) (hp : pc + 1 = pc') (k : OG p e below P (T.setTop (mkF m pc' L (.int (x.toInt8.toInt32) :: S)))) : OG p e below P (T.setTop (mkF m pc L (.int x :: S))) := by
 subst hp; exact OG.of (fun t k => XS.i2b X.here hx rfl hd rfl k) k
theorem og_i2c (X : Stand p l e R s m args below meth c T locs cells slots) (hx : p.tables.exec = Jvm.exec) {x : Int32} (hd : decode c.code pc = .ok (.i2c, 1)) (hp : pc + 1 = pc') (k : OG p e below P (T.setTop (mkF m pc' L (.int (x.toUInt32.toUInt16.toUInt32.toInt32) :: S)))) : OG p e below P (T.setTop (mkF m pc L (.int x :: S))) := by
 subst hp; exact OG.of (fun t k => XS.i2c X.here hx rfl hd rfl k) k
theorem og_iconst (X : Stand p l e R s m args below meth c T locs cells slots) (hx : p.tables.exec = Jvm.exec) {i : Int} {v : Int32} (hv : Int32.ofInt i = v) (hd : decode c.code pc = .ok (.iconst i, 1)) (hp : pc + 1 = pc') (k : OG p e below P (T.setTop (mkF m pc' L (.int v :: S)))) : OG p e below P (T.setTop (mkF m pc L S)) := by
 subst hp; exact OG.of (fun t k => XS.iconst X.here hx rfl hd (hv ▸ k)) k
theorem og_bipush (X : Stand p l e R s m args below meth c T locs cells slots) (hx : p.tables.exec = Jvm.exec) {i : Int} {v : Int32} (hv : (Int8.ofInt i).toInt32 = v) (hd : decode c.code pc = .ok (.bipush i, 2)) (hp : pc + 2 = pc') (k : OG p e below P (T.setTop (mkF m pc' L (.int v :: S)))) : OG p e below P (T.setTop (mkF m pc L S)) := by
 subst hp; exact OG.of (fun t k => XS.bipush X.here hx rfl hd (hv ▸ k)) k
theorem og_sipush (X : Stand p l e R s m args below meth c T locs cells slots) (hx : p.tables.exec = Jvm.exec) {i : Int} {v : Int32} (hv : (Int16.ofInt i).toInt32 = v) (hd : decode c.code pc = .ok (.sipush i, 3)) (hp : pc + 3 = pc') (k : OG p e below P (T.setTop (mkF m pc' L (.int v :: S)))) : OG p e below P (T.setTop (mkF m pc L S)) := by
 subst hp; exact OG.of (fun t k => XS.sipush X.here hx rfl hd (hv ▸ k)) k
theorem og_aconst_null (X : Stand p l e R s m args below meth c T locs cells slots) (hx : p.tables.exec = Jvm.exec)  (hd : decode c.code pc = .ok (.aconst_null, 1)) (hp : pc + 1 = pc') (k : OG p e below P (T.setTop (mkF m pc' L (.null :: S)))) : OG p e below P (T.setTop (mkF m pc L S)) := by
 subst hp; exact OG.of (fun t k => XS.aconstNull X.here hx rfl hd k) k
theorem og_iload (X : Stand p l e R s m args below meth c T locs cells slots) (hx : p.tables.exec = Jvm.exec) {j : Nat} {v : Int32} (hl : L[j]? = some (.val (.int v))) (hd : decode c.code pc = .ok (.iload j, 2)) (hp : pc + 2 = pc') (k : OG p e below P (T.setTop (mkF m pc' L (.int v :: S)))) : OG p e below P (T.setTop (mkF m pc L S)) := by
 subst hp; exact OG.of (fun t k => XS.iload X.here hx rfl hd hl k) k
theorem og_iloadN (X : Stand p l e R s m args below meth c T locs cells slots) (hx : p.tables.exec = Jvm.exec) {j : Fin 4} {v : Int32} (hl : L[j.val]? = some (.val (.int v))) (hd : decode c.code pc = .ok (.iload_n j, 1)) (hp : pc + 1 = pc') (k : OG p e below P (T.setTop (mkF m pc' L (.int v :: S)))) : OG p e below P (T.setTop (mkF m pc L S)) := by
 subst hp; exact OG.of (fun t k => XS.iloadN X.here hx rfl hd hl k) k
theorem og_istore (X : Stand p l e R s m args below meth c T locs cells slots) (hx : p.tables.exec = Jvm.exec) {j : Nat} {v : Int32} (hl : storeLocals L j (.int v) = some L') (hd : decode c.code pc = .ok (.istore j, 2)) (hp : pc + 2 = pc') (k : OG p e below P (T.setTop (mkF m pc' L' S))) : OG p e below P (T.setTop (mkF m pc L (.int v :: S))) := by
 subst hp; exact OG.of (fun t k => XS.istore X.here hx rfl hd rfl hl k) k
theorem og_istoreN (X : Stand p l e R s m args below meth c T locs cells slots) (hx : p.tables.exec = Jvm.exec) {j : Fin 4} {v : Int32} (hl : storeLocals L j.val (.int v) = some L') (hd : decode c.code pc = .ok (.istore_n j, 1)) (hp : pc + 1 = pc') (k : OG p e below P (T.setTop (mkF m pc' L' S))) : OG p e below P (T.setTop (mkF m pc L (.int v :: S))) := by
 subst hp; exact OG.of (fun t k => XS.istoreN X.here hx rfl hd rfl hl k) k
theorem og_aload (X : Stand p l e R s m args below meth c T locs cells slots) (hx : p.tables.exec = Jvm.exec) {j : Nat} {v : Value} (hl : L[j]? = some (.val v)) (hv : v.isRef = true) (hd : decode c.code pc = .ok (.aload j, 2)) (hp : pc + 2 = pc') (k : OG p e below P (T.setTop (mkF m pc' L (v :: S)))) : OG p e below P (T.setTop (mkF m pc L S)) := by
 subst hp; exact OG.of (fun t k => XS.aload X.here hx rfl hd hl hv k) k
theorem og_aloadN (X : Stand p l e R s m args below meth c T locs cells slots) (hx : p.tables.exec = Jvm.exec) {j : Fin 4} {v : Value} (hl : L[j.val]? = some (.val v)) (hv : v.isRef = true) (hd : decode c.code pc = .ok (.aload_n j, 1)) (hp : pc + 1 = pc') (k : OG p e below P (T.setTop (mkF m pc' L (v :: S)))) : OG p e below P (T.setTop (mkF m pc L S)) := by
 subst hp; exact OG.of (fun t k => XS.aloadN X.here hx rfl hd hl hv k) k
theorem og_astore (X : Stand p l e R s m args below meth c T locs cells slots) (hx : p.tables.exec = Jvm.exec) {j : Nat} {v : Value} (hv : v.isRef = true) (hl : storeLocals L j v = some L') (hd : decode c.code pc = .ok (.astore j, 2)) (hp : pc + 2 = pc') (k : OG p e below P (T.setTop (mkF m pc' L' S))) : OG p e below P (T.setTop (mkF m pc L (v :: S))) := by
 subst hp; exact OG.of (fun t k => XS.astore X.here hx rfl hd rfl hv hl k) k
theorem og_astoreN (X : Stand p l e R s m args below meth c T locs cells slots) (hx : p.tables.exec = Jvm.exec) {j : Fin 4} {v : Value} (hv : v.isRef = true) (hl : storeLocals L j.val v = some L') (hd : decode c.code pc = .ok (.astore_n j, 1)) (hp : pc + 1 = pc') (k : OG p e below P (T.setTop (mkF m pc' L' S))) : OG p e below P (T.setTop (mkF m pc L (v :: S))) := by
 subst hp; exact OG.of (fun t k => XS.astoreN X.here hx rfl hd rfl hv hl k) k
theorem og_iinc (X : Stand p l e R s m args below meth c T locs cells slots) (hx : p.tables.exec = Jvm.exec) {j : Nat} {i : Int} {v w : Int32} (h1 : L[j]? = some (.val (.int v))) (hv : Int32.ofInt i = w) (hl : storeLocals L j (.int (v + w)) = some L') (hd : decode c.code pc = .ok (.iinc j i, 3)) (hp : pc + 3 = pc') (k : OG p e below P (T.setTop (mkF m pc' L' S))) : OG p e below P (T.setTop (mkF m pc L S)) := by
 subst hp; exact OG.of (fun t k => XS.iinc X.here hx rfl hd h1 (hv.symm ▸ hl) k) k
theorem og_dup (X : Stand p l e R s m args below meth c T locs cells slots) (hx : p.tables.exec = Jvm.exec) {v : Value} (hv : v.category = 1) (hd : decode c.code pc = .ok (.dup, 1)) (hp : pc + 1 = pc') (k : OG p e below P (T.setTop (mkF m pc' L (v :: v :: S)))) : OG p e below P (T.setTop (mkF m pc L (v :: S))) := by
 subst hp; exact OG.of (fun t k => XS.dup X.here hx rfl hd rfl hv k) k
theorem og_pop (X : Stand p l e R s m args below meth c T locs cells slots) (hx : p.tables.exec = Jvm.exec) {v : Value} (hv : v.category = 1) (hd : decode c.code pc = .ok (.pop, 1)) (hp : pc + 1 = pc') (k : OG p e below P (T.setTop (mkF m pc' L S))) : OG p e below P (T.setTop (mkF m pc L (v :: S))) := by
 subst hp; exact OG.of (fun t k => XS.pop X.here hx rfl hd rfl hv k) k
theorem og_goto (X : Stand p l e R s m args below meth c T locs cells slots) (hx : p.tables.exec = Jvm.exec) {o : Int} (hd : decode c.code pc = .ok (.goto o, 3)) (ho : 0 ≤ (pc : Int) + o) (hp : ((pc : Int) + o).toNat = pc') (k : OG p e below P (T.setTop (mkF m pc' L S))) : OG p e below P (T.setTop (mkF m pc L S)) :=
 OG.of (fun t k => XS.goto X.here hx rfl rfl hd ho hp k) k
theorem og_icmp_lt (X : Stand p l e R s m args below meth c T locs cells slots) (hx : p.tables.exec = Jvm.exec) {x y : Int32} {o : Int} (hd : decode c.code pc = .ok (.if_icmp .lt o, 3)) (ho : 0 ≤ (pc : Int) + o) (hp1 : ((pc : Int) + o).toNat = pc1) (hp2 : pc + 3 = pc2) (k1 : x < y → OG p e below P (T.setTop (mkF m pc1 L S))) (k2 : ¬ x < y → OG p e below P (T.setTop (mkF m pc2 L S))) : OG p e below P (T.setTop (mkF m pc L (.int y :: .int x :: S))) := by
  subst hp2; by_cases q : x < y
  · exact OG.of (fun t k => XS.icmpYes X.here hx rfl rfl hd rfl ((tlt q).1) ho hp1 k) (k1 q)
  · exact OG.of (fun t k => XS.icmpNo X.here hx rfl hd rfl ((flt q).1) k) (k2 q)
theorem og_if_lt (X : Stand p l e R s m args below meth c T locs cells slots) (hx : p.tables.exec = Jvm.exec) {x : Int32} {o : Int} (hd : decode c.code pc = .ok (.ifCond .lt o, 3)) (ho : 0 ≤ (pc : Int) + o) (hp1 : ((pc : Int) + o).toNat = pc1) (hp2 : pc + 3 = pc2) (k1 : x < (0 : Int32) → OG p e below P (T.setTop (mkF m pc1 L S))) (k2 : ¬ x < (0 : Int32) → OG p e below P (T.setTop (mkF m pc2 L S))) : OG p e below P (T.setTop (mkF m pc L (.int x :: S))) := by
  subst hp2; by_cases q : x < (0 : Int32)
  · exact OG.of (fun t k => XS.ifYes X.here hx rfl rfl hd rfl ((if0 _ _).trans (tlt q).1) ho hp1 k) (k1 q)
  · exact OG.of (fun t k => XS.ifNo X.here hx rfl hd rfl ((if0 _ _).trans (flt q).1) k) (k2 q)
theorem og_icmp_ge (X : Stand p l e R s m args below meth c T locs cells slots) (hx : p.tables.exec = Jvm.exec) {x y : Int32} {o : Int} (hd : decode c.code pc = .ok (.if_icmp .ge o, 3)) (ho : 0 ≤ (pc : Int) + o) (hp1 : ((pc : Int) + o).toNat = pc1) (hp2 : pc + 3 = pc2) (k1 : ¬ x < y → OG p e below P (T.setTop (mkF m pc1 L S))) (k2 : x < y → OG p e below P (T.setTop (mkF m pc2 L S))) : OG p e below P (T.setTop (mkF m pc L (.int y :: .int x :: S))) := by
  subst hp2; by_cases q : x < y
  · exact OG.of (fun t k => XS.icmpNo X.here hx rfl hd rfl ((tlt q).2.1) k) (k2 q)
  · exact OG.of (fun t k => XS.icmpYes X.here hx rfl rfl hd rfl ((flt q).2.1) ho hp1 k) (k1 q)
theorem og_if_ge (X : Stand p l e R s m args below meth c T locs cells slots) (hx : p.tables.exec = Jvm.exec) {x : Int32} {o : Int} (hd : decode c.code pc = .ok (.ifCond .ge o, 3)) (ho : 0 ≤ (pc : Int) + o) (hp1 : ((pc : Int) + o).toNat = pc1) (hp2 : pc + 3 = pc2) (k1 : ¬ x < (0 : Int32) → OG p e below P (T.setTop (mkF m pc1 L S))) (k2 : x < (0 : Int32) → OG p e below P (T.setTop (mkF m pc2 L S))) : OG p e below P (T.setTop (mkF m pc L (.int x :: S))) := by
  subst hp2; by_cases q : x < (0 : Int32)
  · exact OG.of (fun t k => XS.ifNo X.here hx rfl hd rfl ((if0 _ _).trans (tlt q).2.1) k) (k2 q)
  · exact OG.of (fun t k => XS.ifYes X.here hx rfl rfl hd rfl ((if0 _ _).trans (flt q).2.1) ho hp1 k) (k1 q)
theorem og_icmp_gt (X : Stand p l e R s m args below meth c T locs cells slots) (hx : p.tables.exec = Jvm.exec) {x y : Int32} {o : Int} (hd : decode c.code pc = .ok (.if_icmp .gt o, 3)) (ho : 0 ≤ (pc : Int) + o) (hp1 : ((pc : Int) + o).toNat = pc1) (hp2 : pc + 3 = pc2) (k1 : y < x → OG p e below P (T.setTop (mkF m pc1 L S))) (k2 : ¬ y < x → OG p e below P (T.setTop (mkF m pc2 L S))) : OG p e below P (T.setTop (mkF m pc L (.int y :: .int x :: S))) := by
  subst hp2; by_cases q : y < x
  · exact OG.of (fun t k => XS.icmpYes X.here hx rfl rfl hd rfl ((tlt q).2.2.1) ho hp1 k) (k1 q)
  · exact OG.of (fun t k => XS.icmpNo X.here hx rfl hd rfl ((flt q).2.2.1) k) (k2 q)
theorem og_icmp_le (X : Stand p l e R s m args below meth c T locs cells slots) (hx : p.tables.exec = Jvm.exec) {x y : Int32} {o : Int} (hd : decode c.code pc = .ok (.if_icmp .le o, 3)) (ho : 0 ≤ (pc : Int) + o) (hp1 : ((pc : Int) + o).toNat = pc1) (hp2 : pc + 3 = pc2) (k1 : ¬ y < x → OG p e below P (T.setTop (mkF m pc1 L S))) (k2 : y < x → OG p e below P (T.setTop (mkF m pc2 L S))) : OG p e below P (T.setTop (mkF m pc L (.int y :: .int x :: S))) := by
  subst hp2; by_cases q : y < x
  · exact OG.of (fun t k => XS.icmpNo X.here hx rfl hd rfl ((tlt q).2.2.2) k) (k2 q)
  · exact OG.of (fun t k => XS.icmpYes X.here hx rfl rfl hd rfl ((flt q).2.2.2) ho hp1 k) (k1 q)
theorem og_if_le (X : Stand p l e R s m args below meth c T locs cells slots) (hx : p.tables.exec = Jvm.exec) {x : Int32} {o : Int} (hd : decode c.code pc = .ok (.ifCond .le o, 3)) (ho : 0 ≤ (pc : Int) + o) (hp1 : ((pc : Int) + o).toNat = pc1) (hp2 : pc + 3 = pc2) (k1 : ¬ (0 : Int32) < x → OG p e below P (T.setTop (mkF m pc1 L S))) (k2 : (0 : Int32) < x → OG p e below P (T.setTop (mkF m pc2 L S))) : OG p e below P (T.setTop (mkF m pc L (.int x :: S))) := by
  subst hp2; by_cases q : (0 : Int32) < x
  · exact OG.of (fun t k => XS.ifNo X.here hx rfl hd rfl ((if0 _ _).trans (tlt q).2.2.2) k) (k2 q)
  · exact OG.of (fun t k => XS.ifYes X.here hx rfl rfl hd rfl ((if0 _ _).trans (flt q).2.2.2) ho hp1 k) (k1 q)
theorem og_icmp_eq (X : Stand p l e R s m args below meth c T locs cells slots) (hx : p.tables.exec = Jvm.exec) {x y : Int32} {o : Int} (hd : decode c.code pc = .ok (.if_icmp .eq o, 3)) (ho : 0 ≤ (pc : Int) + o) (hp1 : ((pc : Int) + o).toNat = pc1) (hp2 : pc + 3 = pc2) (k1 : x = y → OG p e below P (T.setTop (mkF m pc1 L S))) (k2 : ¬ x = y → OG p e below P (T.setTop (mkF m pc2 L S))) : OG p e below P (T.setTop (mkF m pc L (.int y :: .int x :: S))) := by
  subst hp2; by_cases q : x = y
  · exact OG.of (fun t k => XS.icmpYes X.here hx rfl rfl hd rfl ((teq q).1) ho hp1 k) (k1 q)
  · exact OG.of (fun t k => XS.icmpNo X.here hx rfl hd rfl ((feq q).1) k) (k2 q)
theorem og_if_eq (X : Stand p l e R s m args below meth c T locs cells slots) (hx : p.tables.exec = Jvm.exec) {x : Int32} {o : Int} (hd : decode c.code pc = .ok (.ifCond .eq o, 3)) (ho : 0 ≤ (pc : Int) + o) (hp1 : ((pc : Int) + o).toNat = pc1) (hp2 : pc + 3 = pc2) (k1 : x = (0 : Int32) → OG p e below P (T.setTop (mkF m pc1 L S))) (k2 : ¬ x = (0 : Int32) → OG p e below P (T.setTop (mkF m pc2 L S))) : OG p e below P (T.setTop (mkF m pc L (.int x :: S))) := by
  subst hp2; by_cases q : x = (0 : Int32)
  · exact OG.of (fun t k => XS.ifYes X.here hx rfl rfl hd rfl ((if0 _ _).trans (teq q).1) ho hp1 k) (k1 q)
  · exact OG.of (fun t k => XS.ifNo X.here hx rfl hd rfl ((if0 _ _).trans (feq q).1) k) (k2 q)
theorem og_icmp_ne (X : Stand p l e R s m args below meth c T locs cells slots) (hx : p.tables.exec = Jvm.exec) {x y : Int32} {o : Int} (hd : decode c.code pc = .ok (.if_icmp .ne o, 3)) (ho : 0 ≤ (pc : Int) + o) (hp1 : ((pc : Int) + o).toNat = pc1) (hp2 : pc + 3 = pc2) (k1 : ¬ x = y → OG p e below P (T.setTop (mkF m pc1 L S))) (k2 : x = y → OG p e below P (T.setTop (mkF m pc2 L S))) : OG p e below P (T.setTop (mkF m pc L (.int y :: .int x :: S))) := by
  subst hp2; by_cases q : x = y
  · exact OG.of (fun t k => XS.icmpNo X.here hx rfl hd rfl ((teq q).2) k) (k2 q)
  · exact OG.of (fun t k => XS.icmpYes X.here hx rfl rfl hd rfl ((feq q).2) ho hp1 k) (k1 q)
theorem og_if_ne (X : Stand p l e R s m args below meth c T locs cells slots) (hx : p.tables.exec = Jvm.exec) {x : Int32} {o : Int} (hd : decode c.code pc = .ok (.ifCond .ne o, 3)) (ho : 0 ≤ (pc : Int) + o) (hp1 : ((pc : Int) + o).toNat = pc1) (hp2 : pc + 3 = pc2) (k1 : ¬ x = (0 : Int32) → OG p e below P (T.setTop (mkF m pc1 L S))) (k2 : x = (0 : Int32) → OG p e below P (T.setTop (mkF m pc2 L S))) : OG p e below P (T.setTop (mkF m pc L (.int x :: S))) := by
  subst hp2; by_cases q : x = (0 : Int32)
  · exact OG.of (fun t k => XS.ifNo X.here hx rfl hd rfl ((if0 _ _).trans (teq q).2) k) (k2 q)
  · exact OG.of (fun t k => XS.ifYes X.here hx rfl rfl hd rfl ((if0 _ _).trans (feq q).2) ho hp1 k) (k1 q)
theorem og_ldc (X : Stand p l e R s m args below meth c T locs cells slots) (hx : p.tables.exec = Jvm.exec) (hZ : Z.Warmed39 s.vm) {own : String} {index : Nat} {v : Int32} (hown : s.vm.findClass own = some m.cls) (w : (Cond.constant own index v).before a0 Z = true) (hd : decode c.code pc = .ok (.ldc index, 2)) (hp : pc + 2 = pc') (k : OG p e below P (T.setTop (mkF m pc' L (.int v :: S)))) : OG p e below P (T.setTop (mkF m pc L S)) := by
 subst hp; exact OG.of (X.ldcInt hx hown (mvT hZ w) (g := mkF m pc L S) rfl hd) k
theorem og_getstatic (X : Stand p l e R s m args below meth c T locs cells slots) (hx : p.tables.exec = Jvm.exec) (hZ : Z.Warmed39 s.vm) {own R0 O n d host : String} {index : Nat} (hown : s.vm.findClass own = some m.cls) (w : (Cond.fieldLink own index R0 n d).before a0 Z = true ∨ (Cond.fieldLinkNest own index R0 n d host).before a0 Z = true) (via : Via Z R0 O n d) (eT : T.heap = h) {v : Value} (F : Sta Z h O n d v) (hd : decode c.code pc = .ok (.getstatic index, 3)) (hp : pc + 3 = pc') (k : ∀ T', Stand p l e R s m args below meth c T' locs cells slots → T'.heap = h → OG p e below P (T'.setTop (mkF m pc' L (v :: S)))) : OG p e below P (T.setTop (mkF m pc L S)) := by
 subst hp; obtain ⟨T', X', e', st⟩ := getS2 X hx hZ hown w via eT F (g := mkF m pc L S) rfl hd
 exact OG.of st (k T' X' e')
theorem og_getfield (X : Stand p l e R s m args below meth c T locs cells slots) (hx : p.tables.exec = Jvm.exec) (hZ : Z.Warmed39 s.vm) {own R0 O n d host : String} {index : Nat} (hown : s.vm.findClass own = some m.cls) (w : (Cond.fieldLink own index R0 n d).before a0 Z = true ∨ (Cond.fieldLinkNest own index R0 n d host).before a0 Z = true) (via : Via Z R0 O n d) (eT : T.heap = h) {a : Addr} {v : Value} (F : Fld Z h a O n d v) (hd : decode c.code pc = .ok (.getfield index, 3)) (hp : pc + 3 = pc') (k : ∀ T', Stand p l e R s m args below meth c T' locs cells slots → T'.heap = h → OG p e below P (T'.setTop (mkF m pc' L (v :: S)))) : OG p e below P (T.setTop (mkF m pc L (.ref a :: S))) := by
 subst hp; obtain ⟨T', X', e', st⟩ := getF X hx hZ hown w via eT F (g := mkF m pc L (.ref a :: S)) rfl rfl hd
 exact OG.of st (k T' X' e')
theorem og_putfield (X : Stand p l e R s m args below meth c T locs cells slots) (hx : p.tables.exec = Jvm.exec) (hZ : Z.Warmed39 s.vm) {C : String} {kk : Nat} {ty : FieldType} {own R0 O n d host : String} {index : Nat} (hown : s.vm.findClass own = some m.cls) (w : (Cond.fieldLink own index R0 n d).before a0 Z = true ∨ (Cond.fieldLinkNest own index R0 n d host).before a0 Z = true) (via : Via Z R0 O n d) (eT : T.heap = h) {a : Addr} {v old : Value} (F : Fld Z h a O n d old) (E : Exa Z h a C) (Ly : (Cond.lays C O n d).before a0 Z = true ∨ ((Cond.laysFinal C O n d).before a0 Z = true ∧ own = O ∧ meth.name = "<init>")) (wi : (Cond.instantiable C kk).before a0 Z = true) (hty : parseFieldDescriptor d = some ty) (hn : narrow ty v = v) (hf : fits ty v = true) (hd : decode c.code pc = .ok (.putfield index, 3)) (hp : pc + 3 = pc') (k : ∀ T' h', Stand p l e R s m args below meth c T' (locs ++ [⟨a, Jvm.RoadKit.slotOf Z O n d⟩]) cells slots → T'.heap = h' → Wr h h' a (Jvm.RoadKit.slotOf Z O n d) v → OG p e below P (T'.setTop (mkF m pc' L S))) : OG p e below P (T.setTop (mkF m pc L (v :: .ref a :: S))) := by
 subst hp; obtain ⟨T', h', X', e', W', st⟩ := putF X hx hZ hown w via eT F E Ly wi hty hn hf (g := mkF m pc L (v :: .ref a :: S)) rfl rfl hd
 exact OG.of st (k T' h' X' e' W')
theorem og_new (X : Stand p l e R s m args below meth c T locs cells slots) (hx : p.tables.exec = Jvm.exec) (hZ : Z.Warmed39 s.vm) {own C : String} {index n : Nat} {cells' slots' : Nat} (hown : s.vm.findClass own = some m.cls) (w : (Cond.classLink own index C).before a0 Z = true) (wi : (Cond.instantiable C n).before a0 Z = true) (wz : (Cond.initialized C).before a0 Z = true) (eT : T.heap = h) (hd : decode c.code pc = .ok (.new index, 3)) (hp : pc + 3 = pc') (hc' : cells + 1 = cells') (hs' : slots + n = slots') (hc : cells' ≤ R.cells) (hl : slots' ≤ R.slots) (k : ∀ T' h' a, Stand p l e R s m args below meth c T' locs cells' slots' → T'.heap = h' → Ext h h' → a = h.size → Exa Z h' a C → (∀ {O nm d : String} {ty : FieldType}, Laid Z a0 C O nm d → parseFieldDescriptor d = some ty → Fld Z h' a O nm d (defaultValue ty)) → (∃ cell : Cell, h'[a]? = some cell ∧ cell.vm = .none ∧ cell.monitor = {}) → OG p e below P (T'.setTop (mkF m pc' L (.ref a :: S)))) : OG p e below P (T.setTop (mkF m pc L S)) := by
 subst hp hc' hs'; obtain ⟨T', h', X', e', E', A', D', B', st⟩ := newO X hx hZ hown w wi wz eT (g := mkF m pc L S) rfl hd hc hl
 exact OG.of st (k T' h' _ X' e' E' rfl A' D' B')
theorem og_newarray (X : Stand p l e R s m args below meth c T locs cells slots) (hx : p.tables.exec = Jvm.exec) (hZ : Z.Warmed39 s.vm) {aty : ArrayType} {ty : FieldType} {cells' slots' : Nat} (hty : newarray.typeOf aty = ty) (w : (Cond.arrayClass ty).before a0 Z = true) (eT : T.heap = h) {n : Int32} (hn : ¬ n < 0) {cap : Nat} (hcap : n.toNatClampNeg ≤ cap) (hb : cap * 8 ≤ 536870912) (hd : decode c.code pc = .ok (.newarray aty, 2)) (hp : pc + 2 = pc') (hc' : cells + 1 = cells') (hs' : slots + cap = slots') (hc : cells' ≤ R.cells) (hl : slots' ≤ R.slots) (k : ∀ T' h' a kA, Stand p l e R s m args below meth c T' locs cells' slots' → T'.heap = h' → Ext h h' → a = h.size → Arv Z h' a kA ty n [] (defaultValue ty) → OG p e below P (T'.setTop (mkF m pc' L (.ref a :: S)))) : OG p e below P (T.setTop (mkF m pc L (.int n :: S))) := by
 subst hp hc' hs' hty; obtain ⟨T', h', kA, X', e', E', A', st⟩ := newP X hx hZ w eT (g := mkF m pc L (.int n :: S)) rfl hd rfl hn hcap hb hc hl
 exact OG.of st (k T' h' _ kA X' e' E' rfl (Arv.new A' hn))
theorem og_castore (X : Stand p l e R s m args below meth c T locs cells slots) (hx : p.tables.exec = Jvm.exec) (hZ : Z.Warmed39 s.vm) (eT : T.heap = h) {a : Addr} {kA : ClassId} {j x z : Int32} {vs : List Value} {dv : Value} (F : Arv Z h a kA .char z vs dv) (q : ¬ j < 0 ∧ j < z) (i : Nat) (hj : j.toNatClampNeg = i) (hi : i < vs.length) (hd : decode c.code pc = .ok (.castore, 1)) (hp : pc + 1 = pc') (k : ∀ T' h', Stand p l e R s m args below meth c T' (locs ++ [⟨a, j.toNatClampNeg⟩]) cells slots → T'.heap = h' → Wr h h' a j.toNatClampNeg (.int (nar .char x)) → Arv Z h' a kA .char z (vs.set i (.int (nar .char x))) dv → OG p e below P (T'.setTop (mkF m pc' L S))) : OG p e below P (T.setTop (mkF m pc L (.int x :: .int j :: .ref a :: S))) := by
 subst hp; obtain ⟨cl, A, q1, S1, q3, H, G⟩ := F
 obtain ⟨T', h', X', e', W', st⟩ := stC X hx hZ eT A (j := j) (inb_of S1 q) (g := mkF m pc L (.int x :: .int j :: .ref a :: S)) rfl rfl hd
 exact OG.of st (k T' h' X' e' W' (Arv.set A q1 S1 q3 H G (fits_nar_char _) W' i hj hi))
theorem og_bastore (X : Stand p l e R s m args below meth c T locs cells slots) (hx : p.tables.exec = Jvm.exec) (hZ : Z.Warmed39 s.vm) (eT : T.heap = h) {a : Addr} {kA : ClassId} {j x z : Int32} {vs : List Value} {dv : Value} (F : Arv Z h a kA .byte z vs dv) (q : ¬ j < 0 ∧ j < z) (i : Nat) (hj : j.toNatClampNeg = i) (hi : i < vs.length) (hd : decode c.code pc = .ok (.bastore, 1)) (hp : pc + 1 = pc') (k : ∀ T' h', Stand p l e R s m args below meth c T' (locs ++ [⟨a, j.toNatClampNeg⟩]) cells slots → T'.heap = h' → Wr h h' a j.toNatClampNeg (.int (nar .byte x)) → Arv Z h' a kA .byte z (vs.set i (.int (nar .byte x))) dv → OG p e below P (T'.setTop (mkF m pc' L S))) : OG p e below P (T.setTop (mkF m pc L (.int x :: .int j :: .ref a :: S))) := by
 subst hp; obtain ⟨cl, A, q1, S1, q3, H, G⟩ := F
 obtain ⟨T', h', X', e', W', st⟩ := stB X hx hZ eT A (j := j) (inb_of S1 q) (g := mkF m pc L (.int x :: .int j :: .ref a :: S)) rfl rfl hd
 exact OG.of st (k T' h' X' e' W' (Arv.set A q1 S1 q3 H G (fits_nar_byte _) W' i hj hi))
theorem og_caload (X : Stand p l e R s m args below meth c T locs cells slots) (hx : p.tables.exec = Jvm.exec) (hZ : Z.Warmed39 s.vm) (eT : T.heap = h) {a : Addr} {kA : ClassId} {j z : Int32} {vs : List Value} {dv v : Value} (F : Arv Z h a kA .char z vs dv) (q : ¬ j < 0 ∧ j < z) (hv : vs.getD j.toNatClampNeg dv = v) (hd : decode c.code pc = .ok (.caload, 1)) (hp : pc + 1 = pc') (k : OG p e below P (T.setTop (mkF m pc' L (v :: S)))) : OG p e below P (T.setTop (mkF m pc L (.int j :: .ref a :: S))) := by
 subst hp; obtain ⟨cl, A, q1, S1, q3, H, G⟩ := F
 exact OG.of (fun t k => X.caload hx (j := j) (v := v) (by rw [eT]; exact A.1) (State.isArrayOf_alike hZ.alike A.2.1) A.2.2 (inb_of S1 q) (H.at (inb_of S1 q) hv) (g := mkF m pc L (.int j :: .ref a :: S)) rfl rfl hd t k) k
theorem og_baload (X : Stand p l e R s m args below meth c T locs cells slots) (hx : p.tables.exec = Jvm.exec) (hZ : Z.Warmed39 s.vm) (eT : T.heap = h) {a : Addr} {kA : ClassId} {j z : Int32} {vs : List Value} {dv v : Value} (F : Arv Z h a kA .byte z vs dv) (q : ¬ j < 0 ∧ j < z) (hv : vs.getD j.toNatClampNeg dv = v) (hd : decode c.code pc = .ok (.baload, 1)) (hp : pc + 1 = pc') (k : OG p e below P (T.setTop (mkF m pc' L (v :: S)))) : OG p e below P (T.setTop (mkF m pc L (.int j :: .ref a :: S))) := by
 subst hp; obtain ⟨cl, A, q1, S1, q3, H, G⟩ := F
 exact OG.of (fun t k => X.baloadBytes hx (j := j) (v := v) (by rw [eT]; exact A.1) (State.isArrayOf_alike hZ.alike A.2.1) A.2.2 (inb_of S1 q) (H.at (inb_of S1 q) hv) (g := mkF m pc L (.int j :: .ref a :: S)) rfl rfl hd t k) k
theorem og_arraylength (X : Stand p l e R s m args below meth c T locs cells slots) (hx : p.tables.exec = Jvm.exec) (hZ : Z.Warmed39 s.vm) (eT : T.heap = h) {a : Addr} {kA : ClassId} {z : Int32} {vs : List Value} {dv : Value} {ty : FieldType} (F : Arv Z h a kA ty z vs dv) (hd : decode c.code pc = .ok (.arraylength, 1)) (hp : pc + 1 = pc') (k : OG p e below P (T.setTop (mkF m pc' L (.int z :: S)))) : OG p e below P (T.setTop (mkF m pc L (.ref a :: S))) := by
 subst hp; obtain ⟨cl, A, q1, S1, q3, H, G⟩ := F
 refine OG.of (fun t k => X.arraylength hx (by rw [eT]; exact A.1) (State.isArrayOf_alike hZ.alike A.2.1) (g := mkF m pc L (.ref a :: S)) rfl rfl hd t k) ?_
 rw [len_of S1 q3]; exact k
theorem og_initO (X : Stand p l e R s m args below meth c T locs cells slots) (hx : p.tables.exec = Jvm.exec) (hZ : Z.Warmed39 s.vm) {own : String} {idx : Nat} (hml : L.size = c.maxLocals) (hown : s.vm.findClass own = some m.cls) (w1 : (Cond.methodLink own idx Lib.objectInit).before a0 Z = true) (w2 : (Cond.instanceMethod Lib.objectInit).before a0 Z = true) (w3 : (Cond.code Lib.objectInit ⟨#[0xb1]⟩ 1 none).before a0 Z = true) (eT : T.heap = h) {a : Addr} {W : Nat} (hW : (S.map fun v => v.category).sum = W) (hf : 1 ≤ R.frames) (hl : W + 12 ≤ R.locals) (hd : decode c.code pc = .ok (.invokespecial idx, 3)) (hp : pc + 3 = pc') (k : ∀ T', Stand p l e R s m args below meth c T' locs cells slots → T'.heap = h → OG p e below P (T'.setTop (mkF m pc' L S))) : OG p e below P (T.setTop (mkF m pc L (.ref a :: S))) := by
 subst hp; obtain ⟨T', X', e', st⟩ := initO X hx hZ hown w1 w2 w3 eT (g := mkF m pc L (.ref a :: S)) rfl hml rfl hd hf (W := W) (by show 2 * 0 + _ ≤ _; rw [hW]; omega) hl
 exact OG.of st (k T' X' e')
def Con (l : Launch) (Z : State) (y : MethodName) (bytes : ByteArray) (maxL : Nat) (ret : Option FieldType) (rm : Room) (as' : Array Value) (h : Heap) (Q : Option Value → Heap → List Loc → Prop) : Prop :=
 MetFree l y (head1 [Cond.code y bytes maxL ret] rm) (fun a U => a = as' ∧ Z.Warmed39 U.vm ∧ U.heap = h) (fun _ _ _ _ _ => True) (fun _ U o U' => ∃ v L, o = .returned v ∧ Q v U'.heap L ∧ FrameEnd U o U' L rm.cells rm.slots)
abbrev OFin (s : State) (Q : Option Value → Heap → List Loc → Prop) (k n : Nat) (o : Outcome) (t : State) : Prop := ∃ v L, o = .returned v ∧ Q v t.heap L ∧ FrameEnd s o t L k n
theorem own_start {y : MethodName} {bytes : ByteArray} {maxL : Nat} {ret : Option FieldType} {rm : Room} {as' : Array Value} {ws : List Cond} {Q : Option Value → Heap → List Loc → Prop} {kc ks : Nat} (hpn : plainFor y = true)
  (body : ∀ (p : Program) (e : Env) (s : State) (m : MethodId) (below : List Frame) (meth : Method) (c : Code) (T : State), Stand p l e rm s m as' below meth c T [] 0 0 → p.tables.exec = Jvm.exec → c.code = bytes → c.maxLocals = maxL → Z.Warmed39 s.vm → s.vm.findClass y.cls = some m.cls → meth.name = y.name → meth.sig.returnType = ret → meth.locks = false → T.heap = h → OG p e below (OFin s Q kc ks) (T.setTop (entryFrame m as' maxL))) :
  MetFree l y (head1 (Cond.code y bytes maxL ret :: ws) rm) (fun a U => a = as' ∧ Z.Warmed39 U.vm ∧ U.heap = h) (fun _ _ _ _ _ => True) (fun _ U o U' => ∃ v L, o = .returned v ∧ Q v U'.heap L ∧ FrameEnd U o U' L kc ks) := by
 refine MetFree.of_bodySF hpn hisR ?_
 intro p e s m args below meth c s₁ Bd hml0 hP hK
 obtain ⟨rfl, hZ, hh⟩ := hP
 exact body p e s m below meth c s₁ (Stand.of_body Bd) Bd.exec Bd.bytes hml0 hZ (findClass_of_methodNamed Bd.named) (name_of_methodNamed Bd.named Bd.method).1 Bd.returns Bd.notSynchronized (by rw [← hh, Bd.state]; rfl)
theorem own_startC {y : MethodName} {bytes : ByteArray} {maxL : Nat} {ret : Option FieldType} {rm : Room} {as' : Array Value} {Q : Option Value → Heap → List Loc → Prop} (hpn : plainFor y = true)
  (body : ∀ (p : Program) (e : Env) (s : State) (m : MethodId) (below : List Frame) (meth : Method) (c : Code) (T : State), Stand p l e rm s m as' below meth c T [] 0 0 → p.tables.exec = Jvm.exec → c.code = bytes → c.maxLocals = maxL → Z.Warmed39 s.vm → s.vm.findClass y.cls = some m.cls → meth.name = y.name → meth.sig.returnType = ret → meth.locks = false → T.heap = h → OG p e below (OFin s Q rm.cells rm.slots) (T.setTop (entryFrame m as' maxL))) : Con l Z y bytes maxL ret rm as' h Q := own_start (Q := Q) hpn body
theorem og_ret (X : Stand p l e R s m args below meth c T locs cells slots) (hlk : meth.locks = false) {Q : Option Value → Heap → List Loc → Prop} {kc ks : Nat} {g : JFrame} (v : Option Value) (hv : meth.sig.returnType = none → v = none)
  (st : ∀ fs, (∀ (f : JFrame) (acts : List Action), f.method = m → f.locked = none → f.entered = [] → (doReturn e (T.setTop f) acts v).1 = T.setFrames fs) → Steps p.tables e below (T.setTop g) (T.setFrames fs)) (hc : cells ≤ kc) (hs : slots ≤ ks) (hQ : Q v T.heap locs) : OG p e below (OFin s Q kc ks) (T.setTop g) := by
 obtain ⟨fs, hr, hrun, hended, hW, hsame⟩ := X.leave hv hlk
 exact ⟨_, _, st fs hr, hrun, hended, v, locs, rfl, hQ, ⟨_, rfl⟩, hW, hsame.mono hc hs⟩
theorem og_retI (X : Stand p l e R s m args below meth c T locs cells slots) (hx : p.tables.exec = Jvm.exec) (hlk : meth.locks = false) (hret : meth.sig.returnType = some .int) {Q : Option Value → Heap → List Loc → Prop} {kc ks : Nat} {z : Int32} (hd : decode c.code pc = .ok (.ireturn, 1)) (hc : cells ≤ kc) (hs : slots ≤ ks) (hQ : Q (some (.int z)) T.heap locs) : OG p e below (OFin s Q kc ks) (T.setTop (mkF m pc L (.int z :: S))) :=
 og_ret X hlk (some (.int z)) (fun q => by rw [hret] at q; cases q) (fun fs hr => retI X hx hret hd hr) hc hs hQ
theorem og_retN (X : Stand p l e R s m args below meth c T locs cells slots) (hx : p.tables.exec = Jvm.exec) (hlk : meth.locks = false) {t : FieldType} (hret : meth.sig.returnType = some t) (ht : t = .boolean ∨ t = .byte ∨ t = .char ∨ t = .short) {Q : Option Value → Heap → List Loc → Prop} {kc ks : Nat} {z : Int32} (hd : decode c.code pc = .ok (.ireturn, 1)) (hc : cells ≤ kc) (hs : slots ≤ ks) (hQ : Q (some (.int (nar t z))) T.heap locs) : OG p e below (OFin s Q kc ks) (T.setTop (mkF m pc L (.int z :: S))) :=
 og_ret X hlk (some (.int (nar t z))) (fun q => by rw [hret] at q; cases q) (fun fs hr => retN X hx hret ht hd hr) hc hs hQ
theorem og_retR (X : Stand p l e R s m args below meth c T locs cells slots) (hx : p.tables.exec = Jvm.exec) (hlk : meth.locks = false) {t : FieldType} (hret : meth.sig.returnType = some t) (ht : t.isReference = true) {Q : Option Value → Heap → List Loc → Prop} {kc ks : Nat} {v : Value} (hv : v.isRef = true) (hn : narrow t v = v) (hd : decode c.code pc = .ok (.areturn, 1)) (hc : cells ≤ kc) (hs : slots ≤ ks) (hQ : Q (some v) T.heap locs) : OG p e below (OFin s Q kc ks) (T.setTop (mkF m pc L (v :: S))) :=
 og_ret X hlk (some v) (fun q => by rw [hret] at q; cases q) (fun fs hr => retOut X hx hret hn (Or.inr (Or.inr (Or.inr (Or.inr ⟨rfl, ht, hv⟩)))) hd hr) hc hs hQ
theorem og_retV (X : Stand p l e R s m args below meth c T locs cells slots) (hx : p.tables.exec = Jvm.exec) (hlk : meth.locks = false) (hret : meth.sig.returnType = none) {Q : Option Value → Heap → List Loc → Prop} {kc ks : Nat} (hd : decode c.code pc = .ok (.return_, 1)) (hc : cells ≤ kc) (hs : slots ≤ ks) (hQ : Q none T.heap locs) : OG p e below (OFin s Q kc ks) (T.setTop (mkF m pc L [])) :=
 og_ret X hlk none (fun _ => rfl) (fun fs hr => X.returnOut hx hret hd hr) hc hs hQ
theorem og_static (X : Stand p l e R s m args below meth c T locs cells slots) (hx : p.tables.exec = Jvm.exec) (hZ : Z.Warmed39 s.vm) {own : String} {index : Nat} {y : MethodName} {bytes : ByteArray} {maxL : Nat} {ret : Option FieldType} {rm : Room} {as' : Array Value} {Q : Option Value → Heap → List Loc → Prop} {W cells' slots' : Nat} (hM : Con l Z y bytes maxL ret rm as' h Q) (hown : s.vm.findClass own = some m.cls) (w1 : (Cond.methodLink own index y).before a0 Z = true) (w2 : (Cond.static y).before a0 Z = true) (wz : (Cond.initialized y.cls).before a0 Z = true) (wc : (Cond.code y bytes maxL ret).before a0 Z = true) (hy : y.cls ≠ "java/lang/invoke/MethodHandle" ∧ y.cls ≠ "java/lang/invoke/VarHandle") (hml : L.size = c.maxLocals) (eT : T.heap = h) {ps : List FieldType} {rt : Option FieldType} (hpd : parseMethodDescriptor y.desc = some ⟨ps, rt⟩) (argsL rest : List Value) (hll : argsL.length = ps.length) (has : argsL.toArray = as') (hst : S = argsL.reverse ++ rest) (hW : (rest.map fun v => v.category).sum = W) (hf : rm.frames + 1 ≤ R.frames) (hl : W + (maxL + 11) + rm.locals ≤ R.locals) (hc' : cells + rm.cells = cells') (hs' : slots + rm.slots = slots') (hc : cells' ≤ R.cells) (hs : slots' ≤ R.slots) (hd : decode c.code pc = .ok (.invokestatic index, 3)) (hp : pc + 3 = pc') (k : ∀ v T' h' Lc, Stand p l e R s m args below meth c T' (locs ++ Lc) cells' slots' → T'.heap = h' → Q v h' Lc → OG p e below P (T'.setTop (mkF m pc' L (v.toList ++ rest)))) : OG p e below P (T.setTop (mkF m pc L S)) := by
 subst hp hst hc' hs' has
 obtain ⟨v, _, ⟨T1, L1, k1, n1⟩, -, X1, ⟨Lc, hQ, l1, y1, z1⟩, st⟩ := Jvm.LawKit.callS X hx (y := y) hown (mvT hZ w1) (mvT hZ w2) (mvT hZ wz) (mvT hZ wc) hy (backOf (W := W) hM hZ wc wz hf hl) (g := mkF m pc L (argsL.reverse ++ rest)) rfl hml (argsL := argsL) (rest := rest) (lenOf hpd hll) rfl (by show 2 * 0 + _ ≤ _; rw [hW]; omega) hd (fun _ _ => ⟨rfl, eT, hc, hs⟩)
 dsimp only [Pt.U, Pt.locs, Pt.cells, Pt.slots] at X1 l1 y1 z1 st hQ
 subst l1 y1 z1
 exact OG.of st (k v T1 _ Lc X1 rfl hQ)
theorem og_special (X : Stand p l e R s m args below meth c T locs cells slots) (hx : p.tables.exec = Jvm.exec) (hZ : Z.Warmed39 s.vm) {own : String} {index : Nat} {y : MethodName} {bytes : ByteArray} {maxL : Nat} {rm : Room} {as' : Array Value} {Q : Option Value → Heap → List Loc → Prop} {W cells' slots' : Nat} (hM : Con l Z y bytes maxL none rm as' h Q) (hin : y.name = "<init>") (hown : s.vm.findClass own = some m.cls) (w1 : (Cond.methodLink own index y).before a0 Z = true) (w2 : (Cond.instanceMethod y).before a0 Z = true) (wz : (Cond.initialized y.cls).before a0 Z = true) (wc : (Cond.code y bytes maxL none).before a0 Z = true) (hy : y.cls ≠ "java/lang/invoke/MethodHandle" ∧ y.cls ≠ "java/lang/invoke/VarHandle") (hml : L.size = c.maxLocals) (eT : T.heap = h) {ps : List FieldType} {rt : Option FieldType} (hpd : parseMethodDescriptor y.desc = some ⟨ps, rt⟩) {a : Addr} (argsL rest : List Value) (hll : argsL.length = ps.length) (has : (.ref a :: argsL).toArray = as') (hst : S = argsL.reverse ++ .ref a :: rest) (hW : (rest.map fun v => v.category).sum = W) (hf : rm.frames + 1 ≤ R.frames) (hl : W + (maxL + 11) + rm.locals ≤ R.locals) (hc' : cells + rm.cells = cells') (hs' : slots + rm.slots = slots') (hc : cells' ≤ R.cells) (hs : slots' ≤ R.slots) (hd : decode c.code pc = .ok (.invokespecial index, 3)) (hp : pc + 3 = pc') (k : ∀ v T' h' Lc, Stand p l e R s m args below meth c T' (locs ++ Lc) cells' slots' → T'.heap = h' → Q v h' Lc → OG p e below P (T'.setTop (mkF m pc' L (v.toList ++ rest)))) : OG p e below P (T.setTop (mkF m pc L S)) := by
 subst hp hst hc' hs' has
 obtain ⟨v, _, ⟨T1, L1, k1, n1⟩, -, X1, ⟨Lc, hQ, l1, y1, z1⟩, st⟩ := X.specialBack hx (y := y) hin hown (mvT hZ w1) (mvT hZ w2) (mvT hZ wc) hy (backOf (W := W) hM hZ wc wz hf hl) (g := mkF m pc L (argsL.reverse ++ .ref a :: rest)) rfl hml (Steps.refl _) (a := a) (argsL := argsL) (rest := rest) (lenOf hpd hll) rfl (by show 2 * 0 + _ ≤ _; rw [hW]; omega) hd (fun _ _ => ⟨rfl, eT, hc, hs⟩)
 dsimp only [Pt.U, Pt.locs, Pt.cells, Pt.slots] at X1 l1 y1 z1 st hQ
 subst l1 y1 z1
 exact OG.of (fun t k => st.trans k) (k v T1 _ Lc X1 rfl hQ)
theorem og_virtual (X : Stand p l e R s m args below meth c T locs cells slots) (hx : p.tables.exec = Jvm.exec) (hZ : Z.Warmed39 s.vm) {own C : String} {index : Nat} {y z : MethodName} {bytes : ByteArray} {maxL : Nat} {ret : Option FieldType} {rm : Room} {as' : Array Value} {Q : Option Value → Heap → List Loc → Prop} {W cells' slots' : Nat} (hM : Con l Z z bytes maxL ret rm as' h Q) (hown : s.vm.findClass own = some m.cls) (w1 : (Cond.methodLink own index y).before a0 Z = true) (w2 : (Cond.declares y).before a0 Z = true) (hnf : NotFace s y) (w3 : (Cond.selects C y z).before a0 Z = true) (w4 : (Cond.instanceMethod z).before a0 Z = true) (wz : (Cond.initialized z.cls).before a0 Z = true) (wc : (Cond.code z bytes maxL ret).before a0 Z = true) (hy : y.cls ≠ "java/lang/invoke/MethodHandle" ∧ y.cls ≠ "java/lang/invoke/VarHandle") (hml : L.size = c.maxLocals) (eT : T.heap = h) {ps : List FieldType} {rt : Option FieldType} (hpd : parseMethodDescriptor y.desc = some ⟨ps, rt⟩) {a : Addr} (argsL rest : List Value) (hll : argsL.length = ps.length) (has : (.ref a :: argsL).toArray = as') (hst : S = argsL.reverse ++ .ref a :: rest) (hW : (rest.map fun v => v.category).sum = W) (hf : rm.frames + 1 ≤ R.frames) (hl : W + (maxL + 11) + rm.locals ≤ R.locals) (hc' : cells + rm.cells = cells') (hs' : slots + rm.slots = slots') (hc : cells' ≤ R.cells) (hs : slots' ≤ R.slots) (E : Exa Z h a C) (hd : decode c.code pc = .ok (.invokevirtual index, 3)) (hp : pc + 3 = pc') (k : ∀ v T' h' Lc, Stand p l e R s m args below meth c T' (locs ++ Lc) cells' slots' → T'.heap = h' → Q v h' Lc → OG p e below P (T'.setTop (mkF m pc' L (v.toList ++ rest)))) : OG p e below P (T.setTop (mkF m pc L S)) := by
 subst hp hst hc' hs' has
 obtain ⟨cq, kq, qa, qb, qc⟩ := isOf hZ eT E
 obtain ⟨v, _, ⟨T1, L1, k1, n1⟩, -, X1, ⟨Lc, hQ, l1, y1, z1⟩, st⟩ := X.virtualBack hx (y := y) (z := z) hown (mvT hZ w1) (mvT hZ w2) hnf (mvT hZ w3) (mvT hZ w4) hy (backOf (W := W) hM hZ wc wz hf hl) qa qc (g := mkF m pc L (argsL.reverse ++ .ref a :: rest)) rfl hml (Steps.refl _) (argsL := argsL) (rest := rest) (lenOf hpd hll) rfl (by show 2 * 0 + _ ≤ _; rw [hW]; omega) hd (fun _ _ => ⟨rfl, eT, hc, hs⟩)
 dsimp only [Pt.U, Pt.locs, Pt.cells, Pt.slots] at X1 l1 y1 z1 st hQ
 subst l1 y1 z1
 exact OG.of (fun t k => st.trans k) (k v T1 _ Lc X1 rfl hQ)
theorem own_nf (hZ : Z.Warmed39 s.vm) {C : String} {y : MethodName} (w : (Cond.selects C y y).before a0 Z = true) : NotFace s y := notFace_of_selects (args := #[]) (mvT hZ w)
theorem own_n0 {n0 : Nat} (O : Old Z n0 h) : n0 ≤ h.size := O.1 ▸ O.2.1
theorem own_eqint {args : Array Value} {t : Term} {n : Int32} (q : (Cond.eq t (Term.int n)).value args s none s [] = some true) : t.eval args s none [] s = some (.int n) := by
  simp only [Cond.value, Term.eval] at q
  cases ht : t.eval args s none [] s with
  | none => simp [ht] at q
  | some x => cases x <;> simp [ht] at q ⊢; exact q
end OwnKit
section OwnKitW
variable {p : Program} {l : Launch} {e : Env} {R : Room} {s : State} {m : MethodId} {args : Array Value} {below : List Frame} {meth : Method} {c : Code} {T : State} {locs : List Loc} {cells slots : Nat} {Z : State} {a0 : Array Value} {h : Heap} {P : Outcome → State → Prop} {pc pc' pc1 pc2 : Nat} {L L' : Array Slot} {S : List Value} {vm : Vm} {EL : List (String × Nat)} {k0 : Nat}
abbrev FinW (s Z : State) (EL : List (String × Nat)) (Q : Option Value → Heap → List Loc → Prop) (k n : Nat) (o : Outcome) (t : State) : Prop := ∃ v L, o = .returned v ∧ Q v t.heap L ∧ CHr Z EL s.vm s.heap t.vm t.heap ∧ ReturnedEndW s o t L k n
def ConW (l : Launch) (Z : State) (EL : List (String × Nat)) (sw : List Addr) (y : MethodName) (bytes : ByteArray) (maxL : Nat) (ret : Option FieldType) (rm : Room) (as' : Array Value) (h : Heap) (Q : Option Value → Heap → List Loc → Prop) : Prop :=
 MetFree l y (head1 [Cond.code y bytes maxL ret] rm) (fun a U => a = as' ∧ Z.Warmed39 U.vm ∧ U.heap = h ∧ CHv Z EL U.vm h ∧ ∀ x ∈ sw, Safe Z EL U.vm h x) (fun _ _ _ _ _ => True) (fun _ U o U' => ∃ v L, o = .returned v ∧ Q v U'.heap L ∧ CHr Z EL U.vm U.heap U'.vm U'.heap ∧ ReturnedEndW U o U' L rm.cells rm.slots)
theorem own_since (s : State) (n : Nat) : s.Since s.vm n := ⟨State.Warmed39.refl s, by first | exact State.Booked.refl _ _ | (intro j q h1 h2; exact absurd (Array.getElem?_eq_some_iff.mp h2).1 (Nat.not_lt.mpr h1)) | simp [State.Booked]⟩
theorem own_backW {sw : List Addr} {y : MethodName} {bytes : ByteArray} {maxL : Nat} {ret : Option FieldType} {rm : Room} {len W : Nat} {as' : Array Value} {Q : Option Value → Heap → List Loc → Prop} (hM : ConW l Z EL sw y bytes maxL ret rm as' h Q) (hZ : Z.Warmed39 vm) (wc : (Cond.code y bytes maxL ret).before a0 Z = true) (wz : (Cond.initialized y.cls).before a0 Z = true) (hf : rm.frames + 1 ≤ R.frames) (hl : W + (maxL + 11) + rm.locals ≤ R.locals) (hEL : EW Z a0 EL) (H : CHv Z EL vm h) (hsw : ∀ x ∈ sw, x < h.size ∧ Safe Z EL vm h x) :
    BackS l R p e below (s.setVm vm) args y len W (fun A a => a = as' ∧ A.U.heap = h ∧ A.cells + rm.cells ≤ R.cells ∧ A.slots + rm.slots ≤ R.slots) (fun A _ v B => ∃ L, Q v B.U.heap L ∧ B.locs = A.locs ++ L ∧ B.cells = A.cells + rm.cells ∧ B.slots = A.slots + rm.slots ∧ CHr Z EL vm h B.U.vm B.U.heap) := by
  refine BackS.of_freeW (bytes := bytes) (maxL := maxL) (ret := ret) (E := fun _ first o t L k n => k = rm.cells ∧ n = rm.slots ∧ (∃ v, o = .returned v ∧ Q v t.heap L) ∧ CHr Z EL first.vm first.heap t.vm t.heap) hM hf hl ?_ ?_ (fun _ _ _ _ _ _ _ _ _ => trivial) ?_ ?_
  · intro m meth c A a Y hp
    have hU : Z.Warmed39 A.U.vm := wtrans (s := s.setVm vm) hZ Y.warmed
    exact ⟨by show (Cond.and _ .tt).before a A.U = true; rw [Cond.before_and, mv hU wc]; rfl, mv hU wc, mv hU wz, hp.2.2.1, hp.2.2.2⟩
  · intro m meth c A a g mk Y hp
    have q := CHv.at Y hZ hEL H
    exact ⟨hp.1, wtrans (s := s.setVm vm) hZ Y.warmed, hp.2.1, q.1, fun x hx => q.safe (hsw x hx).1 (hsw x hx).2⟩
  · rintro _ _ _ _ ⟨v, L, h1, h2, h3, h4⟩
    exact ⟨L, _, _, h4, rfl, rfl, ⟨v, h1, h2⟩, h3⟩
  · rintro m meth c A a g mk v t L k n Y hp _ _ ⟨e1, e2, ⟨v', e3, e4⟩, e5⟩
    cases e3; subst e1 e2
    refine ⟨L, e4, rfl, rfl, rfl, (CHv.at Y hZ hEL H).trans ?_⟩
    rw [← hp.2.1]; exact e5
theorem own_startW {sw : List Addr} {y : MethodName} {bytes : ByteArray} {maxL : Nat} {ret : Option FieldType} {rm : Room} {as' : Array Value} {ws : List Cond} {Q : Option Value → Heap → List Loc → Prop} {kc ks : Nat} (hpn : plainFor y = true)
  (body : ∀ (p : Program) (e : Env) (s : State) (m : MethodId) (below : List Frame) (meth : Method) (c : Code) (T : State), Stand p l e rm (s.setVm s.vm) m as' below meth c T [] 0 0 → p.tables.exec = Jvm.exec → c.code = bytes → c.maxLocals = maxL → Z.Warmed39 s.vm → s.vm.findClass y.cls = some m.cls → meth.name = y.name → meth.sig.returnType = ret → meth.locks = false → T.heap = h → s.heap = h → s.Since s.vm h.size → CHr Z EL s.vm h s.vm h → (∀ x ∈ sw, Safe Z EL s.vm h x) → OG p e below (FinW s Z EL Q kc ks) (T.setTop (entryFrame m as' maxL))) :
  MetFree l y (head1 (Cond.code y bytes maxL ret :: ws) rm) (fun a U => a = as' ∧ Z.Warmed39 U.vm ∧ U.heap = h ∧ CHv Z EL U.vm h ∧ ∀ x ∈ sw, Safe Z EL U.vm h x) (fun _ _ _ _ _ => True) (fun _ U o U' => ∃ v L, o = .returned v ∧ Q v U'.heap L ∧ CHr Z EL U.vm U.heap U'.vm U'.heap ∧ ReturnedEndW U o U' L kc ks) := by
 refine MetFree.of_bodySF hpn hisR ?_
 intro p e s m args below meth c s₁ Bd hml0 hP hK
 obtain ⟨rfl, hZ, hh, hC, hQ⟩ := hP
 exact body p e s m below meth c s₁ (Stand.of_body Bd) Bd.exec Bd.bytes hml0 hZ (findClass_of_methodNamed Bd.named) (name_of_methodNamed Bd.named Bd.method).1 Bd.returns Bd.notSynchronized (by rw [← hh, Bd.state]; rfl) hh (own_since s _) (CHr.refl hC) hQ
theorem own_startWC {sw : List Addr} {y : MethodName} {bytes : ByteArray} {maxL : Nat} {ret : Option FieldType} {rm : Room} {as' : Array Value} {Q : Option Value → Heap → List Loc → Prop} (hpn : plainFor y = true)
  (body : ∀ (p : Program) (e : Env) (s : State) (m : MethodId) (below : List Frame) (meth : Method) (c : Code) (T : State), Stand p l e rm (s.setVm s.vm) m as' below meth c T [] 0 0 → p.tables.exec = Jvm.exec → c.code = bytes → c.maxLocals = maxL → Z.Warmed39 s.vm → s.vm.findClass y.cls = some m.cls → meth.name = y.name → meth.sig.returnType = ret → meth.locks = false → T.heap = h → s.heap = h → s.Since s.vm h.size → CHr Z EL s.vm h s.vm h → (∀ x ∈ sw, Safe Z EL s.vm h x) → OG p e below (FinW s Z EL Q rm.cells rm.slots) (T.setTop (entryFrame m as' maxL))) : ConW l Z EL sw y bytes maxL ret rm as' h Q := own_startW (Q := Q) hpn body
theorem og_retW (X : Stand p l e R (s.setVm vm) m args below meth c T locs cells slots) (hZ : Z.Warmed39 vm) (hlk : meth.locks = false) {Q : Option Value → Heap → List Loc → Prop} {kc ks : Nat} {g : JFrame} (hEL : EW Z a0 EL) (hS : s.Since vm k0) (eT : T.heap = h) {h' : Heap} (e0 : s.heap = h') (hk : k0 ≤ h.size) (hR : CHr Z EL s.vm h' vm h) (v : Option Value) (hv : meth.sig.returnType = none → v = none)
  (st : ∀ fs, (∀ (f : JFrame) (acts : List Action), f.method = m → f.locked = none → f.entered = [] → (doReturn e (T.setTop f) acts v).1 = T.setFrames fs) → Steps p.tables e below (T.setTop g) (T.setFrames fs)) (hc : cells ≤ kc) (hs : slots ≤ ks) (hQ : Q v T.heap locs) : OG p e below (FinW s Z EL Q kc ks) (T.setTop g) := by
 subst eT e0
 obtain ⟨fs, hr, hrun, hended, hW⟩ := X.leaveW hS hk hv hlk
 have q := CHv.at X hZ hEL hR.1
 exact ⟨_, _, st fs hr, hrun, hended, v, locs, rfl, hQ, hR.trans q, hW.1, hW.2.1, hW.2.2.1, hW.2.2.2.mono hc hs⟩
theorem og_retNW (X : Stand p l e R (s.setVm vm) m args below meth c T locs cells slots) (hx : p.tables.exec = Jvm.exec) (hZ : Z.Warmed39 vm) (hlk : meth.locks = false) (hEL : EW Z a0 EL) (hS : s.Since vm k0) (eT : T.heap = h) {h' : Heap} (e0 : s.heap = h') (hk : k0 ≤ h.size) (hR : CHr Z EL s.vm h' vm h) {t : FieldType} (hret : meth.sig.returnType = some t) (ht : t = .boolean ∨ t = .byte ∨ t = .char ∨ t = .short) {Q : Option Value → Heap → List Loc → Prop} {kc ks : Nat} {z : Int32} (hd : decode c.code pc = .ok (.ireturn, 1)) (hc : cells ≤ kc) (hs : slots ≤ ks) (hQ : Q (some (.int (nar t z))) T.heap locs) : OG p e below (FinW s Z EL Q kc ks) (T.setTop (mkF m pc L (.int z :: S))) :=
 og_retW X hZ hlk hEL hS eT e0 hk hR (some (.int (nar t z))) (fun q => by rw [hret] at q; cases q) (fun fs hr => retN X hx hret ht hd hr) hc hs hQ
theorem og_retVW (X : Stand p l e R (s.setVm vm) m args below meth c T locs cells slots) (hx : p.tables.exec = Jvm.exec) (hZ : Z.Warmed39 vm) (hlk : meth.locks = false) (hEL : EW Z a0 EL) (hS : s.Since vm k0) (eT : T.heap = h) {h' : Heap} (e0 : s.heap = h') (hk : k0 ≤ h.size) (hR : CHr Z EL s.vm h' vm h) (hret : meth.sig.returnType = none) {Q : Option Value → Heap → List Loc → Prop} {kc ks : Nat}  (hd : decode c.code pc = .ok (.return_, 1)) (hc : cells ≤ kc) (hs : slots ≤ ks) (hQ : Q none T.heap locs) : OG p e below (FinW s Z EL Q kc ks) (T.setTop (mkF m pc L [])) :=
 og_retW X hZ hlk hEL hS eT e0 hk hR none (fun _ => rfl) (fun fs hr => X.returnOut hx hret hd hr) hc hs hQ
theorem og_ldcS (X : Stand p l e R (s.setVm vm) m args below meth c T locs cells slots) (hx : p.tables.exec = Jvm.exec) (hZ : Z.Warmed39 vm) {own text : String} {index : Nat} (hown : vm.findClass own = some m.cls) (w : (Cond.stringLink own index text).before a0 Z = true) (wS : ∀ a ∈ Bundle.stringAtoms, a.before a0 Z = true) (eT : T.heap = h) (hS : s.Since vm k0) (hk : k0 ≤ h.size) (hEL : EW Z a0 EL) (hmem : (own, index) ∈ EL) (H : CHv Z EL vm h) {vs : List Value} {z : Int32} (ht : (∀ c ∈ text.toList, c.toNat < 256) ∧ text.toList.map (fun c => Value.int (Jvm.Lit.byteI c.toNat.toUInt16)) = vs) (hz : ¬ z < 0) (hl : z.toNatClampNeg = vs.length) {n cells' slots' : Nat} (hn : 4 * text.toList.length ≤ n) (hbig : n ≤ 536870912) (hd : decode c.code pc = .ok (.ldc index, 2)) (hp : pc + 2 = pc') (hc' : cells + 2 = cells') (hs' : slots + (n + 4) = slots') (hc : cells' ≤ R.cells) (hsl : slots' ≤ R.slots) (k : ∀ a T' h' k1 b kA, Stand p l e R (s.setVm T'.vm) m args below meth c T' locs cells' slots' → T'.heap = h' → Ext h h' → s.Since T'.vm k1 → k1 ≤ h'.size → Z.Warmed39 T'.vm → T'.vm.findClass own = some m.cls → Exa Z h' a "java/lang/String" → Fld Z h' a "java/lang/String" "coder" "B" (.int 0) → Fld Z h' a "java/lang/String" "value" "[B" (.ref b) → Arv Z h' b kA .byte z vs (.int 0) → CHr Z EL vm h T'.vm h' → (∀ x, Safe Z EL T'.vm h' x → x ≠ a ∧ x ≠ b) → OG p e below P (T'.setTop (mkF m pc' L (.ref a :: S)))) : OG p e below P (T.setTop (mkF m pc L S)) := by
 subst hp hc' hs'
 obtain ⟨a, T', h', k1, b, kA, X', e', E', S', hk', hZ', ho', A1, A2, A3, A4, -, -, hC', -, hne', st⟩ := ldcCH X hx hZ hown w wS eT hS hk hEL hmem H ht hz hl (g := mkF m pc L S) rfl hd hn hbig hc hsl
 exact OG.of st (k a T' h' k1 b kA X' e' E' S' hk' hZ' ho' A1 A2 A3 A4 hC' hne')
theorem og_specialW (X : Stand p l e R (s.setVm vm) m args below meth c T locs cells slots) (hx : p.tables.exec = Jvm.exec) (hZ : Z.Warmed39 vm) {own : String} {index : Nat} {y : MethodName} {bytes : ByteArray} {maxL : Nat} {sw : List Addr} {rm : Room} {as' : Array Value} {Q : Option Value → Heap → List Loc → Prop} {W cells' slots' : Nat} (hM : ConW l Z EL sw y bytes maxL none rm as' h Q) (hEL : EW Z a0 EL) (hS : s.Since vm k0) (hk : k0 ≤ h.size) (H : CHv Z EL vm h) (hsw : ∀ x ∈ sw, x < h.size ∧ Safe Z EL vm h x) (hin : y.name = "<init>") (hown : vm.findClass own = some m.cls) (w1 : (Cond.methodLink own index y).before a0 Z = true) (w2 : (Cond.instanceMethod y).before a0 Z = true) (wz : (Cond.initialized y.cls).before a0 Z = true) (wc : (Cond.code y bytes maxL none).before a0 Z = true) (hy : y.cls ≠ "java/lang/invoke/MethodHandle" ∧ y.cls ≠ "java/lang/invoke/VarHandle") (hml : L.size = c.maxLocals) (eT : T.heap = h) {ps : List FieldType} {rt : Option FieldType} (hpd : parseMethodDescriptor y.desc = some ⟨ps, rt⟩) {a : Addr} (argsL rest : List Value) (hll : argsL.length = ps.length) (has : (.ref a :: argsL).toArray = as') (hst : S = argsL.reverse ++ .ref a :: rest) (hW : (rest.map fun v => v.category).sum = W) (hf : rm.frames + 1 ≤ R.frames) (hl : W + (maxL + 11) + rm.locals ≤ R.locals) (hc' : cells + rm.cells = cells') (hs' : slots + rm.slots = slots') (hc : cells' ≤ R.cells) (hs : slots' ≤ R.slots) (hd : decode c.code pc = .ok (.invokespecial index, 3)) (hp : pc + 3 = pc') (k : ∀ v T' h' Lc k1, Stand p l e R (s.setVm T'.vm) m args below meth c T' (locs ++ Lc) cells' slots' → T'.heap = h' → s.Since T'.vm k1 → k1 ≤ h'.size → Z.Warmed39 T'.vm → T'.vm.findClass own = some m.cls → CHr Z EL vm h T'.vm h' → Q v h' Lc → OG p e below P (T'.setTop (mkF m pc' L (v.toList ++ rest)))) : OG p e below P (T.setTop (mkF m pc L S)) := by
 subst hp hst hc' hs' has
 obtain ⟨v, _, ⟨T1, L1, k1, n1⟩, -, X1, hS1, hg1, ⟨Lc, hQ, l1, y1, z1, hC1⟩, st⟩ := X.specialBackS hx (y := y) hin hown (mvT (s := s.setVm vm) hZ w1) (mvT (s := s.setVm vm) hZ w2) (mvT (s := s.setVm vm) hZ wc) hy (own_backW (s := s) (vm := vm) (W := W) hM hZ wc wz hf hl hEL H hsw) (g := mkF m pc L (argsL.reverse ++ .ref a :: rest)) rfl hml (Steps.refl _) (a := a) (argsL := argsL) (rest := rest) (lenOf hpd hll) rfl (by show 2 * 0 + _ ≤ _; rw [hW]; omega) hd (fun _ _ => ⟨rfl, eT, hc, hs⟩)
 dsimp only [Pt.U, Pt.locs, Pt.cells, Pt.slots] at X1 l1 y1 z1 st hQ hS1 hg1 hC1
 subst l1 y1 z1 eT
 exact OG.of (fun t k => st.trans k) (k v T1 _ Lc _ X1 rfl (hS.trans hS1 (Nat.le_trans hk hg1)) (Nat.le_refl _) (State.Warmed39.trans (t := s.setVm vm) hZ hS1.1) (by rw [hS1.1.alike.findClass]; exact hown) hC1 hQ)
end OwnKitW
def own_EL : List (String × Nat) := [("java/lang/String", 7)]
abbrev HW (a0 : Array Value) (Z : State) : Prop := ∀ d ∈ tables_1, d.before a0 Z = true
theorem mg {c : Jvm.Cond} (i : Nat) (h : tables_1[i]? = some c) : c ∈ tables_1 := List.mem_of_getElem? h
section Words
variable {a0 : Array Value} {Z : State} (hw : HW a0 Z)
def ow0 := hw _ (mg 0 rfl)
def ow1 := hw _ (mg 1 rfl)
def ow2 := hw _ (mg 2 rfl)
def ow3 := hw _ (mg 3 rfl)
def ow4 := hw _ (mg 4 rfl)
def ow5 := hw _ (mg 5 rfl)
def ow6 := hw _ (mg 6 rfl)
def ow7 := hw _ (mg 7 rfl)
def ow8 := hw _ (mg 8 rfl)
def ow9 := hw _ (mg 9 rfl)
def ow10 := hw _ (mg 10 rfl)
def ow11 := hw _ (mg 11 rfl)
def ow12 := hw _ (mg 12 rfl)
def ow14 := hw _ (mg 14 rfl)
def ow15 := hw _ (mg 15 rfl)
def ow16 := hw _ (mg 16 rfl)
def ow17 := hw _ (mg 17 rfl)
def ow18 := hw _ (mg 18 rfl)
def ow19 := hw _ (mg 19 rfl)
def ow20 := hw _ (mg 20 rfl)
def ow21 := hw _ (mg 21 rfl)
def ow22 := hw _ (mg 22 rfl)
def ow23 := hw _ (mg 23 rfl)
def ow24 := hw _ (mg 24 rfl)
def ow25 := hw _ (mg 25 rfl)
def ow26 := hw _ (mg 26 rfl)
def ow27 := hw _ (mg 27 rfl)
def ow28 := hw _ (mg 28 rfl)
def ow29 := hw _ (mg 29 rfl)
def ow30 := hw _ (mg 30 rfl)
def ow31 := hw _ (mg 31 rfl)
def ow32 := hw _ (mg 32 rfl)
def ow33 := hw _ (mg 33 rfl)
def ow34 := hw _ (mg 34 rfl)
def ow35 := hw _ (mg 35 rfl)
def ow36 := hw _ (mg 36 rfl)
def ow37 := hw _ (mg 37 rfl)
def ow38 := hw _ (mg 38 rfl)
def ow39 := hw _ (mg 39 rfl)
def ow40 := hw _ (mg 40 rfl)
def ow41 := hw _ (mg 41 rfl)
def ow42 := hw _ (mg 42 rfl)
def ow43 := hw _ (mg 43 rfl)
def ow44 := hw _ (mg 44 rfl)
def ow45 := hw _ (mg 45 rfl)
def ow46 := hw _ (mg 46 rfl)
def ow47 := hw _ (mg 47 rfl)
def ow48 := hw _ (mg 48 rfl)
def ow49 := hw _ (mg 49 rfl)
def ow50 := hw _ (mg 50 rfl)
def ow51 := hw _ (mg 51 rfl)
def ow52 := hw _ (mg 52 rfl)
def ow53 := hw _ (mg 53 rfl)
def ow54 := hw _ (mg 54 rfl)
def ow55 := hw _ (mg 55 rfl)
def ow56 := hw _ (mg 56 rfl)
def ow57 := hw _ (mg 57 rfl)
def ow58 := hw _ (mg 58 rfl)
def ow59 := hw _ (mg 59 rfl)
def ow60 := hw _ (mg 60 rfl)
def ow61 := hw _ (mg 61 rfl)
def ow62 := hw _ (mg 62 rfl)
def ow63 := hw _ (mg 63 rfl)
def ow64 := hw _ (mg 64 rfl)
def ow65 := hw _ (mg 65 rfl)
def ow66 := hw _ (mg 66 rfl)
def ow67 := hw _ (mg 67 rfl)
def ow68 := hw _ (mg 68 rfl)
def ow69 := hw _ (mg 69 rfl)
def ow70 := hw _ (mg 70 rfl)
def ow71 := hw _ (mg 71 rfl)
def ow72 := hw _ (mg 72 rfl)
def ow73 := hw _ (mg 73 rfl)
def ow74 := hw _ (mg 74 rfl)
def ow75 := hw _ (mg 75 rfl)
def ow76 := hw _ (mg 76 rfl)
def ow77 := hw _ (mg 77 rfl)
def ow78 := hw _ (mg 78 rfl)
def ow79 := hw _ (mg 79 rfl)
def ow80 := hw _ (mg 80 rfl)
def ow81 := hw _ (mg 81 rfl)
def ow82 := hw _ (mg 82 rfl)
def ow83 := hw _ (mg 83 rfl)
def ow84 := hw _ (mg 84 rfl)
def ow85 := hw _ (mg 85 rfl)
def ow86 := hw _ (mg 86 rfl)
def ow87 := hw _ (mg 87 rfl)
def ow88 := hw _ (mg 88 rfl)
def ow89 := hw _ (mg 89 rfl)
def ow90 := hw _ (mg 90 rfl)
def ow91 := hw _ (mg 91 rfl)
def ow92 := hw _ (mg 92 rfl)
def ow93 := hw _ (mg 93 rfl)
def ow94 := hw _ (mg 94 rfl)
def ow95 := hw _ (mg 95 rfl)
def ow96 := hw _ (mg 96 rfl)
def ow97 := hw _ (mg 97 rfl)
def ow98 := hw _ (mg 98 rfl)
def ow99 := hw _ (mg 99 rfl)
def ow100 := hw _ (mg 100 rfl)
def ow101 := hw _ (mg 101 rfl)
def ow102 := hw _ (mg 102 rfl)
def ow103 := hw _ (mg 103 rfl)
def ow104 := hw _ (mg 104 rfl)
def ow106 := hw _ (mg 106 rfl)
def ow107 := hw _ (mg 107 rfl)
def ow108 := hw _ (mg 108 rfl)
def ow109 := hw _ (mg 109 rfl)
def ow110 := hw _ (mg 110 rfl)
def ow111 := hw _ (mg 111 rfl)
def ow112 := hw _ (mg 112 rfl)
def ow113 := hw _ (mg 113 rfl)
def ow114 := hw _ (mg 114 rfl)
def ow115 := hw _ (mg 115 rfl)
def ow116 := hw _ (mg 116 rfl)
def ow117 := hw _ (mg 117 rfl)
def ow118 := hw _ (mg 118 rfl)
def ow119 := hw _ (mg 119 rfl)
def ow120 := hw _ (mg 120 rfl)
def ow121 := hw _ (mg 121 rfl)
def ow122 := hw _ (mg 122 rfl)
def ow123 := hw _ (mg 123 rfl)
def ow124 := hw _ (mg 124 rfl)
def ow125 := hw _ (mg 125 rfl)
def ow126 := hw _ (mg 126 rfl)
def ow127 := hw _ (mg 127 rfl)
def ow128 := hw _ (mg 128 rfl)
def ow129 := hw _ (mg 129 rfl)
def ow130 := hw _ (mg 130 rfl)
def ow131 := hw _ (mg 131 rfl)
def ow132 := hw _ (mg 132 rfl)
def ow133 := hw _ (mg 133 rfl)
def ow134 := hw _ (mg 134 rfl)
def ow135 := hw _ (mg 135 rfl)
def ow136 := hw _ (mg 136 rfl)
def ow137 := hw _ (mg 137 rfl)
def ow138 := hw _ (mg 138 rfl)
def ow139 := hw _ (mg 139 rfl)
def ow140 := hw _ (mg 140 rfl)
def ow141 := hw _ (mg 141 rfl)
def ow142 := hw _ (mg 142 rfl)
def ow143 := hw _ (mg 143 rfl)
def ow144 := hw _ (mg 144 rfl)
def ow145 := hw _ (mg 145 rfl)
def ow146 := hw _ (mg 146 rfl)
def ow147 := hw _ (mg 147 rfl)
def ow148 := hw _ (mg 148 rfl)
def ow149 := hw _ (mg 149 rfl)
def ow150 := hw _ (mg 150 rfl)
def ow151 := hw _ (mg 151 rfl)
def ow152 := hw _ (mg 152 rfl)
def ow153 := hw _ (mg 153 rfl)
def ow154 := hw _ (mg 154 rfl)
def ow155 := hw _ (mg 155 rfl)
def ow156 := hw _ (mg 156 rfl)
def ow157 := hw _ (mg 157 rfl)
def ow158 := hw _ (mg 158 rfl)
def ow159 := hw _ (mg 159 rfl)
def ow160 := hw _ (mg 160 rfl)
def ow161 := hw _ (mg 161 rfl)
def ow162 := hw _ (mg 162 rfl)
end Words
theorem opd_0 : parseMethodDescriptor "(I)I" = some ⟨[.int], some .int⟩ := by decide +kernel
theorem opd_1 : parseMethodDescriptor "(I)[B" = some ⟨[.int], some (.array .byte)⟩ := by decide +kernel
theorem opd_2 : parseMethodDescriptor "([BII)V" = some ⟨[(.array .byte), .int, .int], none⟩ := by decide +kernel
theorem opd_3 : parseMethodDescriptor "([CI[BII)I" = some ⟨[(.array .char), .int, (.array .byte), .int, .int], some .int⟩ := by decide +kernel
theorem opd_4 : parseMethodDescriptor "([CII)[B" = some ⟨[(.array .char), .int, .int], some (.array .byte)⟩ := by decide +kernel
theorem opd_5 : parseMethodDescriptor "([BI)C" = some ⟨[(.array .byte), .int], some .char⟩ := by decide +kernel
theorem opd_6 : parseMethodDescriptor "([BI)B" = some ⟨[(.array .byte), .int], some .byte⟩ := by decide +kernel
theorem opd_7 : parseMethodDescriptor "([CIILjava/lang/Void;)V" = some ⟨[(.array .char), .int, .int, (.object "java/lang/Void")], none⟩ := by decide +kernel
theorem opd_8 : parseMethodDescriptor "(IILjava/util/function/BiFunction;)I" = some ⟨[.int, .int, (.object "java/util/function/BiFunction")], some .int⟩ := by decide +kernel
theorem opd_9 : parseMethodDescriptor "(II)V" = some ⟨[.int, .int], none⟩ := by decide +kernel
theorem opd_10 : parseMethodDescriptor "()Z" = some ⟨[], some .boolean⟩ := by decide +kernel
theorem opd_11 : parseMethodDescriptor "()B" = some ⟨[], some .byte⟩ := by decide +kernel
theorem opd_12 : parseMethodDescriptor "([B)I" = some ⟨[(.array .byte)], some .int⟩ := by decide +kernel
theorem opd_13 : parseMethodDescriptor "(I[B)V" = some ⟨[.int, (.array .byte)], none⟩ := by decide +kernel
theorem opd_14 : parseMethodDescriptor "(C)Z" = some ⟨[.char], some .boolean⟩ := by decide +kernel
theorem opd_15 : parseMethodDescriptor "([BIIZ)I" = some ⟨[(.array .byte), .int, .int, .boolean], some .int⟩ := by decide +kernel
theorem opd_16 : parseMethodDescriptor "([BII)I" = some ⟨[(.array .byte), .int, .int], some .int⟩ := by decide +kernel
theorem opd_17 : parseMethodDescriptor "()I" = some ⟨[], some .int⟩ := by decide +kernel
theorem opd_18 : parseMethodDescriptor "(I)C" = some ⟨[.int], some .char⟩ := by decide +kernel
theorem opd_19 : parseMethodDescriptor "(I)Z" = some ⟨[.int], some .boolean⟩ := by decide +kernel
theorem opd_20 : parseMethodDescriptor "(CC)I" = some ⟨[.char, .char], some .int⟩ := by decide +kernel
theorem opd_21 : parseMethodDescriptor "([CII)Z" = some ⟨[(.array .char), .int, .int], some .boolean⟩ := by decide +kernel
theorem opd_22 : parseMethodDescriptor "([CII)I" = some ⟨[(.array .char), .int, .int], some .int⟩ := by decide +kernel
theorem opd_23 : parseMethodDescriptor "([C)V" = some ⟨[(.array .char)], none⟩ := by decide +kernel
theorem opd_24 : parseMethodDescriptor "(Ljava/lang/String;)I" = some ⟨[(.object "java/lang/String")], some .int⟩ := by decide +kernel
theorem opd_25 : parseMethodDescriptor "([CI)I" = some ⟨[(.array .char), .int], some .int⟩ := by decide +kernel
theorem d1_0 : decode method_2_code 0 = .ok (.iload_n 0, 1) := by decide +kernel
theorem d1_1 : decode method_2_code 1 = .ok (.bipush 16, 2) := by decide +kernel
theorem d1_3 : decode method_2_code 3 = .ok (.iushr, 1) := by decide +kernel
theorem d1_4 : decode method_2_code 4 = .ok (.iconst 3, 1) := by decide +kernel
theorem d1_5 : decode method_2_code 5 = .ok (.iand, 1) := by decide +kernel
theorem d1_6 : decode method_2_code 6 = .ok (.istore_n 1, 1) := by decide +kernel
theorem d1_7 : decode method_2_code 7 = .ok (.iload_n 1, 1) := by decide +kernel
theorem d1_8 : decode method_2_code 8 = .ok (.ifCond .ne 6, 3) := by decide +kernel
theorem d1_11 : decode method_2_code 11 = .ok (.iload_n 0, 1) := by decide +kernel
theorem d1_12 : decode method_2_code 12 = .ok (.i2c, 1) := by decide +kernel
theorem d1_13 : decode method_2_code 13 = .ok (.ireturn, 1) := by decide +kernel
theorem d1_14 : decode method_2_code 14 = .ok (.iload_n 1, 1) := by decide +kernel
theorem d1_15 : decode method_2_code 15 = .ok (.iconst 1, 1) := by decide +kernel
theorem d1_16 : decode method_2_code 16 = .ok (.if_icmp .ne 13, 3) := by decide +kernel
theorem d1_19 : decode method_2_code 19 = .ok (.ldc 7, 2) := by decide +kernel
theorem d1_21 : decode method_2_code 21 = .ok (.iload_n 0, 1) := by decide +kernel
theorem d1_22 : decode method_2_code 22 = .ok (.sipush 2047, 3) := by decide +kernel
theorem d1_25 : decode method_2_code 25 = .ok (.iand, 1) := by decide +kernel
theorem d1_26 : decode method_2_code 26 = .ok (.iadd, 1) := by decide +kernel
theorem d1_27 : decode method_2_code 27 = .ok (.i2c, 1) := by decide +kernel
theorem d1_28 : decode method_2_code 28 = .ok (.ireturn, 1) := by decide +kernel
theorem d1_29 : decode method_2_code 29 = .ok (.iload_n 1, 1) := by decide +kernel
theorem d1_30 : decode method_2_code 30 = .ok (.iconst 2, 1) := by decide +kernel
theorem d1_31 : decode method_2_code 31 = .ok (.if_icmp .ne 9, 3) := by decide +kernel
theorem d1_34 : decode method_2_code 34 = .ok (.iload_n 0, 1) := by decide +kernel
theorem d1_35 : decode method_2_code 35 = .ok (.bipush 63, 2) := by decide +kernel
theorem d1_37 : decode method_2_code 37 = .ok (.iand, 1) := by decide +kernel
theorem d1_38 : decode method_2_code 38 = .ok (.i2c, 1) := by decide +kernel
theorem d1_39 : decode method_2_code 39 = .ok (.ireturn, 1) := by decide +kernel
theorem d1_40 : decode method_2_code 40 = .ok (.ldc 8, 2) := by decide +kernel
theorem d1_42 : decode method_2_code 42 = .ok (.iload_n 0, 1) := by decide +kernel
theorem d1_43 : decode method_2_code 43 = .ok (.bipush 15, 2) := by decide +kernel
theorem d1_45 : decode method_2_code 45 = .ok (.iand, 1) := by decide +kernel
theorem d1_46 : decode method_2_code 46 = .ok (.iadd, 1) := by decide +kernel
theorem d1_47 : decode method_2_code 47 = .ok (.i2c, 1) := by decide +kernel
theorem d1_48 : decode method_2_code 48 = .ok (.ireturn, 1) := by decide +kernel
theorem d2_0 : decode jdk_42_method_3_code 0 = .ok (.aload_n 0, 1) := by decide +kernel
theorem d2_1 : decode jdk_42_method_3_code 1 = .ok (.aload_n 1, 1) := by decide +kernel
theorem d2_2 : decode jdk_42_method_3_code 2 = .ok (.iconst 0, 1) := by decide +kernel
theorem d2_3 : decode jdk_42_method_3_code 3 = .ok (.aload_n 1, 1) := by decide +kernel
theorem d2_4 : decode jdk_42_method_3_code 4 = .ok (.arraylength, 1) := by decide +kernel
theorem d2_5 : decode jdk_42_method_3_code 5 = .ok (.aconst_null, 1) := by decide +kernel
theorem d2_6 : decode jdk_42_method_3_code 6 = .ok (.invokespecial 27, 3) := by decide +kernel
theorem d2_9 : decode jdk_42_method_3_code 9 = .ok (.return_, 1) := by decide +kernel
theorem d3_0 : decode jdk_42_method_149_code 0 = .ok (.aload_n 0, 1) := by decide +kernel
theorem d3_1 : decode jdk_42_method_149_code 1 = .ok (.invokespecial 1, 3) := by decide +kernel
theorem d3_4 : decode jdk_42_method_149_code 4 = .ok (.iload_n 3, 1) := by decide +kernel
theorem d3_5 : decode jdk_42_method_149_code 5 = .ok (.ifCond .ne 22, 3) := by decide +kernel
theorem d3_8 : decode jdk_42_method_149_code 8 = .ok (.aload_n 0, 1) := by decide +kernel
theorem d3_9 : decode jdk_42_method_149_code 9 = .ok (.ldc 7, 2) := by decide +kernel
theorem d3_11 : decode jdk_42_method_149_code 11 = .ok (.getfield 9, 3) := by decide +kernel
theorem d3_14 : decode jdk_42_method_149_code 14 = .ok (.putfield 9, 3) := by decide +kernel
theorem d3_17 : decode jdk_42_method_149_code 17 = .ok (.aload_n 0, 1) := by decide +kernel
theorem d3_18 : decode jdk_42_method_149_code 18 = .ok (.ldc 7, 2) := by decide +kernel
theorem d3_20 : decode jdk_42_method_149_code 20 = .ok (.getfield 15, 3) := by decide +kernel
theorem d3_23 : decode jdk_42_method_149_code 23 = .ok (.putfield 15, 3) := by decide +kernel
theorem d3_26 : decode jdk_42_method_149_code 26 = .ok (.return_, 1) := by decide +kernel
theorem d3_27 : decode jdk_42_method_149_code 27 = .ok (.getstatic 38, 3) := by decide +kernel
theorem d3_30 : decode jdk_42_method_149_code 30 = .ok (.ifCond .eq 28, 3) := by decide +kernel
theorem d3_33 : decode jdk_42_method_149_code 33 = .ok (.aload_n 1, 1) := by decide +kernel
theorem d3_34 : decode jdk_42_method_149_code 34 = .ok (.iload_n 2, 1) := by decide +kernel
theorem d3_35 : decode jdk_42_method_149_code 35 = .ok (.iload_n 3, 1) := by decide +kernel
theorem d3_36 : decode jdk_42_method_149_code 36 = .ok (.invokestatic 177, 3) := by decide +kernel
theorem d3_39 : decode jdk_42_method_149_code 39 = .ok (.astore 5, 2) := by decide +kernel
theorem d3_41 : decode jdk_42_method_149_code 41 = .ok (.aload_n 0, 1) := by decide +kernel
theorem d3_42 : decode jdk_42_method_149_code 42 = .ok (.aload 5, 2) := by decide +kernel
theorem d3_44 : decode jdk_42_method_149_code 44 = .ok (.iload_n 3, 1) := by decide +kernel
theorem d3_45 : decode jdk_42_method_149_code 45 = .ok (.invokestatic 47, 3) := by decide +kernel
theorem d3_48 : decode jdk_42_method_149_code 48 = .ok (.putfield 15, 3) := by decide +kernel
theorem d3_51 : decode jdk_42_method_149_code 51 = .ok (.aload_n 0, 1) := by decide +kernel
theorem d3_52 : decode jdk_42_method_149_code 52 = .ok (.aload 5, 2) := by decide +kernel
theorem d3_54 : decode jdk_42_method_149_code 54 = .ok (.putfield 9, 3) := by decide +kernel
theorem d3_57 : decode jdk_42_method_149_code 57 = .ok (.return_, 1) := by decide +kernel
theorem d5_0 : decode jdk_52_method_16_code 0 = .ok (.iload_n 2, 1) := by decide +kernel
theorem d5_1 : decode jdk_52_method_16_code 1 = .ok (.newarray .byte, 2) := by decide +kernel
theorem d5_3 : decode jdk_52_method_16_code 3 = .ok (.astore_n 3, 1) := by decide +kernel
theorem d5_4 : decode jdk_52_method_16_code 4 = .ok (.aload_n 0, 1) := by decide +kernel
theorem d5_5 : decode jdk_52_method_16_code 5 = .ok (.iload_n 1, 1) := by decide +kernel
theorem d5_6 : decode jdk_52_method_16_code 6 = .ok (.aload_n 3, 1) := by decide +kernel
theorem d5_7 : decode jdk_52_method_16_code 7 = .ok (.iconst 0, 1) := by decide +kernel
theorem d5_8 : decode jdk_52_method_16_code 8 = .ok (.iload_n 2, 1) := by decide +kernel
theorem d5_9 : decode jdk_52_method_16_code 9 = .ok (.invokestatic 115, 3) := by decide +kernel
theorem d5_12 : decode jdk_52_method_16_code 12 = .ok (.istore 4, 2) := by decide +kernel
theorem d5_14 : decode jdk_52_method_16_code 14 = .ok (.iload 4, 2) := by decide +kernel
theorem d5_16 : decode jdk_52_method_16_code 16 = .ok (.iload_n 2, 1) := by decide +kernel
theorem d5_17 : decode jdk_52_method_16_code 17 = .ok (.if_icmp .eq 40, 3) := by decide +kernel
theorem d5_20 : decode jdk_52_method_16_code 20 = .ok (.aload_n 0, 1) := by decide +kernel
theorem d5_21 : decode jdk_52_method_16_code 21 = .ok (.iload_n 1, 1) := by decide +kernel
theorem d5_22 : decode jdk_52_method_16_code 22 = .ok (.iload_n 2, 1) := by decide +kernel
theorem d5_23 : decode jdk_52_method_16_code 23 = .ok (.invokestatic 119, 3) := by decide +kernel
theorem d5_26 : decode jdk_52_method_16_code 26 = .ok (.astore 5, 2) := by decide +kernel
theorem d5_28 : decode jdk_52_method_16_code 28 = .ok (.aload 5, 2) := by decide +kernel
theorem d5_30 : decode jdk_52_method_16_code 30 = .ok (.iload 4, 2) := by decide +kernel
theorem d5_32 : decode jdk_52_method_16_code 32 = .ok (.invokestatic 71, 3) := by decide +kernel
theorem d5_35 : decode jdk_52_method_16_code 35 = .ok (.sipush 255, 3) := by decide +kernel
theorem d5_38 : decode jdk_52_method_16_code 38 = .ok (.if_icmp .gt 16, 3) := by decide +kernel
theorem d5_54 : decode jdk_52_method_16_code 54 = .ok (.aload 5, 2) := by decide +kernel
theorem d5_56 : decode jdk_52_method_16_code 56 = .ok (.areturn, 1) := by decide +kernel
theorem d5_57 : decode jdk_52_method_16_code 57 = .ok (.aload_n 3, 1) := by decide +kernel
theorem d5_58 : decode jdk_52_method_16_code 58 = .ok (.areturn, 1) := by decide +kernel
theorem d6_0 : decode jdk_52_method_21_code 0 = .ok (.iconst 0, 1) := by decide +kernel
theorem d6_1 : decode jdk_52_method_21_code 1 = .ok (.istore 5, 2) := by decide +kernel
theorem d6_3 : decode jdk_52_method_21_code 3 = .ok (.iload 5, 2) := by decide +kernel
theorem d6_5 : decode jdk_52_method_21_code 5 = .ok (.iload 4, 2) := by decide +kernel
theorem d6_7 : decode jdk_52_method_21_code 7 = .ok (.if_icmp .ge 37, 3) := by decide +kernel
theorem d6_10 : decode jdk_52_method_21_code 10 = .ok (.aload_n 0, 1) := by decide +kernel
theorem d6_11 : decode jdk_52_method_21_code 11 = .ok (.iload_n 1, 1) := by decide +kernel
theorem d6_12 : decode jdk_52_method_21_code 12 = .ok (.caload, 1) := by decide +kernel
theorem d6_13 : decode jdk_52_method_21_code 13 = .ok (.istore 6, 2) := by decide +kernel
theorem d6_15 : decode jdk_52_method_21_code 15 = .ok (.iload 6, 2) := by decide +kernel
theorem d6_17 : decode jdk_52_method_21_code 17 = .ok (.sipush 255, 3) := by decide +kernel
theorem d6_20 : decode jdk_52_method_21_code 20 = .ok (.if_icmp .le 6, 3) := by decide +kernel
theorem d6_23 : decode jdk_52_method_21_code 23 = .ok (.iload 5, 2) := by decide +kernel
theorem d6_25 : decode jdk_52_method_21_code 25 = .ok (.ireturn, 1) := by decide +kernel
theorem d6_26 : decode jdk_52_method_21_code 26 = .ok (.aload_n 2, 1) := by decide +kernel
theorem d6_27 : decode jdk_52_method_21_code 27 = .ok (.iload_n 3, 1) := by decide +kernel
theorem d6_28 : decode jdk_52_method_21_code 28 = .ok (.iload 6, 2) := by decide +kernel
theorem d6_30 : decode jdk_52_method_21_code 30 = .ok (.i2b, 1) := by decide +kernel
theorem d6_31 : decode jdk_52_method_21_code 31 = .ok (.bastore, 1) := by decide +kernel
theorem d6_32 : decode jdk_52_method_21_code 32 = .ok (.iinc 1 1, 3) := by decide +kernel
theorem d6_35 : decode jdk_52_method_21_code 35 = .ok (.iinc 3 1, 3) := by decide +kernel
theorem d6_38 : decode jdk_52_method_21_code 38 = .ok (.iinc 5 1, 3) := by decide +kernel
theorem d6_41 : decode jdk_52_method_21_code 41 = .ok (.goto (-38), 3) := by decide +kernel
theorem d6_44 : decode jdk_52_method_21_code 44 = .ok (.iload 4, 2) := by decide +kernel
theorem d6_46 : decode jdk_52_method_21_code 46 = .ok (.ireturn, 1) := by decide +kernel
theorem d7_0 : decode jdk_52_method_15_code 0 = .ok (.iload_n 1, 1) := by decide +kernel
theorem d7_1 : decode jdk_52_method_15_code 1 = .ok (.aload_n 0, 1) := by decide +kernel
theorem d7_2 : decode jdk_52_method_15_code 2 = .ok (.arraylength, 1) := by decide +kernel
theorem d7_3 : decode jdk_52_method_15_code 3 = .ok (.isub, 1) := by decide +kernel
theorem d7_4 : decode jdk_52_method_15_code 4 = .ok (.bipush 31, 2) := by decide +kernel
theorem d7_6 : decode jdk_52_method_15_code 6 = .ok (.iushr, 1) := by decide +kernel
theorem d7_7 : decode jdk_52_method_15_code 7 = .ok (.i2b, 1) := by decide +kernel
theorem d7_8 : decode jdk_52_method_15_code 8 = .ok (.ireturn, 1) := by decide +kernel
theorem d8_0 : decode prog_18_method_3_code 0 = .ok (.iconst (-1), 1) := by decide +kernel
theorem d8_1 : decode prog_18_method_3_code 1 = .ok (.istore_n 1, 1) := by decide +kernel
theorem d8_2 : decode prog_18_method_3_code 2 = .ok (.iconst 0, 1) := by decide +kernel
theorem d8_3 : decode prog_18_method_3_code 3 = .ok (.istore_n 2, 1) := by decide +kernel
theorem d8_4 : decode prog_18_method_3_code 4 = .ok (.iload_n 2, 1) := by decide +kernel
theorem d8_5 : decode prog_18_method_3_code 5 = .ok (.aload_n 0, 1) := by decide +kernel
theorem d8_6 : decode prog_18_method_3_code 6 = .ok (.invokevirtual 32, 3) := by decide +kernel
theorem d8_9 : decode prog_18_method_3_code 9 = .ok (.if_icmp .ge 60, 3) := by decide +kernel
theorem d8_12 : decode prog_18_method_3_code 12 = .ok (.iload_n 1, 1) := by decide +kernel
theorem d8_13 : decode prog_18_method_3_code 13 = .ok (.ifCond .ge 56, 3) := by decide +kernel
theorem d8_16 : decode prog_18_method_3_code 16 = .ok (.aload_n 0, 1) := by decide +kernel
theorem d8_17 : decode prog_18_method_3_code 17 = .ok (.iload_n 2, 1) := by decide +kernel
theorem d8_18 : decode prog_18_method_3_code 18 = .ok (.invokevirtual 38, 3) := by decide +kernel
theorem d8_21 : decode prog_18_method_3_code 21 = .ok (.istore_n 3, 1) := by decide +kernel
theorem d8_22 : decode prog_18_method_3_code 22 = .ok (.iload_n 3, 1) := by decide +kernel
theorem d8_23 : decode prog_18_method_3_code 23 = .ok (.bipush 32, 2) := by decide +kernel
theorem d8_25 : decode prog_18_method_3_code 25 = .ok (.if_icmp .lt 15, 3) := by decide +kernel
theorem d8_28 : decode prog_18_method_3_code 28 = .ok (.iload_n 3, 1) := by decide +kernel
theorem d8_29 : decode prog_18_method_3_code 29 = .ok (.ldc 44, 2) := by decide +kernel
theorem d8_31 : decode prog_18_method_3_code 31 = .ok (.if_icmp .ge 9, 3) := by decide +kernel
theorem d8_34 : decode prog_18_method_3_code 34 = .ok (.iinc 2 1, 3) := by decide +kernel
theorem d8_37 : decode prog_18_method_3_code 37 = .ok (.goto 29, 3) := by decide +kernel
theorem d8_40 : decode prog_18_method_3_code 40 = .ok (.aload_n 0, 1) := by decide +kernel
theorem d8_41 : decode prog_18_method_3_code 41 = .ok (.iload_n 2, 1) := by decide +kernel
theorem d8_42 : decode prog_18_method_3_code 42 = .ok (.invokevirtual 45, 3) := by decide +kernel
theorem d8_45 : decode prog_18_method_3_code 45 = .ok (.istore 4, 2) := by decide +kernel
theorem d8_47 : decode prog_18_method_3_code 47 = .ok (.iload 4, 2) := by decide +kernel
theorem d8_49 : decode prog_18_method_3_code 49 = .ok (.invokestatic 49, 3) := by decide +kernel
theorem d8_52 : decode prog_18_method_3_code 52 = .ok (.ifCond .ne 6, 3) := by decide +kernel
theorem d8_55 : decode prog_18_method_3_code 55 = .ok (.iload 4, 2) := by decide +kernel
theorem d8_57 : decode prog_18_method_3_code 57 = .ok (.istore_n 1, 1) := by decide +kernel
theorem d8_58 : decode prog_18_method_3_code 58 = .ok (.iload_n 2, 1) := by decide +kernel
theorem d8_59 : decode prog_18_method_3_code 59 = .ok (.iload 4, 2) := by decide +kernel
theorem d8_61 : decode prog_18_method_3_code 61 = .ok (.invokestatic 53, 3) := by decide +kernel
theorem d8_64 : decode prog_18_method_3_code 64 = .ok (.iadd, 1) := by decide +kernel
theorem d8_65 : decode prog_18_method_3_code 65 = .ok (.istore_n 2, 1) := by decide +kernel
theorem d8_66 : decode prog_18_method_3_code 66 = .ok (.goto (-62), 3) := by decide +kernel
theorem d8_69 : decode prog_18_method_3_code 69 = .ok (.iload_n 1, 1) := by decide +kernel
theorem d8_70 : decode prog_18_method_3_code 70 = .ok (.ireturn, 1) := by decide +kernel
theorem d9_0 : decode jdk_42_method_54_code 0 = .ok (.aload_n 0, 1) := by decide +kernel
theorem d9_1 : decode jdk_42_method_54_code 1 = .ok (.getfield 9, 3) := by decide +kernel
theorem d9_4 : decode jdk_42_method_54_code 4 = .ok (.arraylength, 1) := by decide +kernel
theorem d9_5 : decode jdk_42_method_54_code 5 = .ok (.aload_n 0, 1) := by decide +kernel
theorem d9_6 : decode jdk_42_method_54_code 6 = .ok (.invokevirtual 335, 3) := by decide +kernel
theorem d9_9 : decode jdk_42_method_54_code 9 = .ok (.ishr, 1) := by decide +kernel
theorem d9_10 : decode jdk_42_method_54_code 10 = .ok (.ireturn, 1) := by decide +kernel
theorem d10_0 : decode jdk_42_method_152_code 0 = .ok (.getstatic 38, 3) := by decide +kernel
theorem d10_3 : decode jdk_42_method_152_code 3 = .ok (.ifCond .eq 10, 3) := by decide +kernel
theorem d10_6 : decode jdk_42_method_152_code 6 = .ok (.aload_n 0, 1) := by decide +kernel
theorem d10_7 : decode jdk_42_method_152_code 7 = .ok (.getfield 15, 3) := by decide +kernel
theorem d10_10 : decode jdk_42_method_152_code 10 = .ok (.goto 4, 3) := by decide +kernel
theorem d10_14 : decode jdk_42_method_152_code 14 = .ok (.ireturn, 1) := by decide +kernel
theorem d11_0 : decode jdk_42_method_56_code 0 = .ok (.aload_n 0, 1) := by decide +kernel
theorem d11_1 : decode jdk_42_method_56_code 1 = .ok (.invokevirtual 492, 3) := by decide +kernel
theorem d11_4 : decode jdk_42_method_56_code 4 = .ok (.ifCond .eq 12, 3) := by decide +kernel
theorem d11_7 : decode jdk_42_method_56_code 7 = .ok (.aload_n 0, 1) := by decide +kernel
theorem d11_8 : decode jdk_42_method_56_code 8 = .ok (.getfield 9, 3) := by decide +kernel
theorem d11_11 : decode jdk_42_method_56_code 11 = .ok (.iload_n 1, 1) := by decide +kernel
theorem d11_12 : decode jdk_42_method_56_code 12 = .ok (.invokestatic 495, 3) := by decide +kernel
theorem d11_15 : decode jdk_42_method_56_code 15 = .ok (.ireturn, 1) := by decide +kernel
theorem d11_16 : decode jdk_42_method_56_code 16 = .ok (.aload_n 0, 1) := by decide +kernel
theorem d11_17 : decode jdk_42_method_56_code 17 = .ok (.getfield 9, 3) := by decide +kernel
theorem d11_20 : decode jdk_42_method_56_code 20 = .ok (.iload_n 1, 1) := by decide +kernel
theorem d11_21 : decode jdk_42_method_56_code 21 = .ok (.invokestatic 498, 3) := by decide +kernel
theorem d11_24 : decode jdk_42_method_56_code 24 = .ok (.ireturn, 1) := by decide +kernel
theorem d12_0 : decode jdk_42_method_154_code 0 = .ok (.getstatic 38, 3) := by decide +kernel
theorem d12_3 : decode jdk_42_method_154_code 3 = .ok (.ifCond .eq 14, 3) := by decide +kernel
theorem d12_6 : decode jdk_42_method_154_code 6 = .ok (.aload_n 0, 1) := by decide +kernel
theorem d12_7 : decode jdk_42_method_154_code 7 = .ok (.getfield 15, 3) := by decide +kernel
theorem d12_10 : decode jdk_42_method_154_code 10 = .ok (.ifCond .ne 7, 3) := by decide +kernel
theorem d12_13 : decode jdk_42_method_154_code 13 = .ok (.iconst 1, 1) := by decide +kernel
theorem d12_14 : decode jdk_42_method_154_code 14 = .ok (.goto 4, 3) := by decide +kernel
theorem d12_17 : decode jdk_42_method_154_code 17 = .ok (.iconst 0, 1) := by decide +kernel
theorem d12_18 : decode jdk_42_method_154_code 18 = .ok (.ireturn, 1) := by decide +kernel
theorem d13_0 : decode jdk_43_method_2_code 0 = .ok (.iload_n 1, 1) := by decide +kernel
theorem d13_1 : decode jdk_43_method_2_code 1 = .ok (.aload_n 0, 1) := by decide +kernel
theorem d13_2 : decode jdk_43_method_2_code 2 = .ok (.arraylength, 1) := by decide +kernel
theorem d13_3 : decode jdk_43_method_2_code 3 = .ok (.invokestatic 9, 3) := by decide +kernel
theorem d13_6 : decode jdk_43_method_2_code 6 = .ok (.aload_n 0, 1) := by decide +kernel
theorem d13_7 : decode jdk_43_method_2_code 7 = .ok (.iload_n 1, 1) := by decide +kernel
theorem d13_8 : decode jdk_43_method_2_code 8 = .ok (.baload, 1) := by decide +kernel
theorem d13_9 : decode jdk_43_method_2_code 9 = .ok (.sipush 255, 3) := by decide +kernel
theorem d13_12 : decode jdk_43_method_2_code 12 = .ok (.iand, 1) := by decide +kernel
theorem d13_13 : decode jdk_43_method_2_code 13 = .ok (.i2c, 1) := by decide +kernel
theorem d13_14 : decode jdk_43_method_2_code 14 = .ok (.ireturn, 1) := by decide +kernel
theorem d14_0 : decode jdk_42_method_155_code 0 = .ok (.iload_n 0, 1) := by decide +kernel
theorem d14_1 : decode jdk_42_method_155_code 1 = .ok (.iload_n 1, 1) := by decide +kernel
theorem d14_2 : decode jdk_42_method_155_code 2 = .ok (.getstatic 1053, 3) := by decide +kernel
theorem d14_5 : decode jdk_42_method_155_code 5 = .ok (.invokestatic 1059, 3) := by decide +kernel
theorem d14_8 : decode jdk_42_method_155_code 8 = .ok (.pop, 1) := by decide +kernel
theorem d14_9 : decode jdk_42_method_155_code 9 = .ok (.return_, 1) := by decide +kernel
theorem d15_0 : decode jdk_41_method_11_code 0 = .ok (.iload_n 0, 1) := by decide +kernel
theorem d15_1 : decode jdk_41_method_11_code 1 = .ok (.ifCond .lt 8, 3) := by decide +kernel
theorem d15_4 : decode jdk_41_method_11_code 4 = .ok (.iload_n 0, 1) := by decide +kernel
theorem d15_5 : decode jdk_41_method_11_code 5 = .ok (.iload_n 1, 1) := by decide +kernel
theorem d15_6 : decode jdk_41_method_11_code 6 = .ok (.if_icmp .lt 10, 3) := by decide +kernel
theorem d15_16 : decode jdk_41_method_11_code 16 = .ok (.iload_n 0, 1) := by decide +kernel
theorem d15_17 : decode jdk_41_method_11_code 17 = .ok (.ireturn, 1) := by decide +kernel
theorem d16_0 : decode jdk_42_method_57_code 0 = .ok (.aload_n 0, 1) := by decide +kernel
theorem d16_1 : decode jdk_42_method_57_code 1 = .ok (.invokevirtual 492, 3) := by decide +kernel
theorem d16_4 : decode jdk_42_method_57_code 4 = .ok (.ifCond .eq 23, 3) := by decide +kernel
theorem d16_7 : decode jdk_42_method_57_code 7 = .ok (.iload_n 1, 1) := by decide +kernel
theorem d16_8 : decode jdk_42_method_57_code 8 = .ok (.aload_n 0, 1) := by decide +kernel
theorem d16_9 : decode jdk_42_method_57_code 9 = .ok (.getfield 9, 3) := by decide +kernel
theorem d16_12 : decode jdk_42_method_57_code 12 = .ok (.arraylength, 1) := by decide +kernel
theorem d16_13 : decode jdk_42_method_57_code 13 = .ok (.invokestatic 499, 3) := by decide +kernel
theorem d16_16 : decode jdk_42_method_57_code 16 = .ok (.aload_n 0, 1) := by decide +kernel
theorem d16_17 : decode jdk_42_method_57_code 17 = .ok (.getfield 9, 3) := by decide +kernel
theorem d16_20 : decode jdk_42_method_57_code 20 = .ok (.iload_n 1, 1) := by decide +kernel
theorem d16_21 : decode jdk_42_method_57_code 21 = .ok (.baload, 1) := by decide +kernel
theorem d16_22 : decode jdk_42_method_57_code 22 = .ok (.sipush 255, 3) := by decide +kernel
theorem d16_25 : decode jdk_42_method_57_code 25 = .ok (.iand, 1) := by decide +kernel
theorem d16_26 : decode jdk_42_method_57_code 26 = .ok (.ireturn, 1) := by decide +kernel
theorem d16_27 : decode jdk_42_method_57_code 27 = .ok (.aload_n 0, 1) := by decide +kernel
theorem d16_28 : decode jdk_42_method_57_code 28 = .ok (.getfield 9, 3) := by decide +kernel
theorem d16_31 : decode jdk_42_method_57_code 31 = .ok (.arraylength, 1) := by decide +kernel
theorem d16_32 : decode jdk_42_method_57_code 32 = .ok (.iconst 1, 1) := by decide +kernel
theorem d16_33 : decode jdk_42_method_57_code 33 = .ok (.ishr, 1) := by decide +kernel
theorem d16_34 : decode jdk_42_method_57_code 34 = .ok (.istore_n 2, 1) := by decide +kernel
theorem d16_35 : decode jdk_42_method_57_code 35 = .ok (.iload_n 1, 1) := by decide +kernel
theorem d16_36 : decode jdk_42_method_57_code 36 = .ok (.iload_n 2, 1) := by decide +kernel
theorem d16_37 : decode jdk_42_method_57_code 37 = .ok (.invokestatic 499, 3) := by decide +kernel
theorem d16_40 : decode jdk_42_method_57_code 40 = .ok (.aload_n 0, 1) := by decide +kernel
theorem d16_41 : decode jdk_42_method_57_code 41 = .ok (.getfield 9, 3) := by decide +kernel
theorem d16_44 : decode jdk_42_method_57_code 44 = .ok (.iload_n 1, 1) := by decide +kernel
theorem d16_45 : decode jdk_42_method_57_code 45 = .ok (.iload_n 2, 1) := by decide +kernel
theorem d16_46 : decode jdk_42_method_57_code 46 = .ok (.invokestatic 502, 3) := by decide +kernel
theorem d16_49 : decode jdk_42_method_57_code 49 = .ok (.ireturn, 1) := by decide +kernel
theorem d17_0 : decode prog_18_method_22_code 0 = .ok (.iload_n 0, 1) := by decide +kernel
theorem d17_1 : decode prog_18_method_22_code 1 = .ok (.bipush 32, 2) := by decide +kernel
theorem d17_3 : decode prog_18_method_22_code 3 = .ok (.if_icmp .lt 9, 3) := by decide +kernel
theorem d17_6 : decode prog_18_method_22_code 6 = .ok (.iload_n 0, 1) := by decide +kernel
theorem d17_7 : decode prog_18_method_22_code 7 = .ok (.ldc 228, 2) := by decide +kernel
theorem d17_9 : decode prog_18_method_22_code 9 = .ok (.if_icmp .le 45, 3) := by decide +kernel
theorem d17_12 : decode prog_18_method_22_code 12 = .ok (.iload_n 0, 1) := by decide +kernel
theorem d17_13 : decode prog_18_method_22_code 13 = .ok (.bipush 9, 2) := by decide +kernel
theorem d17_15 : decode prog_18_method_22_code 15 = .ok (.if_icmp .eq 39, 3) := by decide +kernel
theorem d17_18 : decode prog_18_method_22_code 18 = .ok (.iload_n 0, 1) := by decide +kernel
theorem d17_19 : decode prog_18_method_22_code 19 = .ok (.bipush 10, 2) := by decide +kernel
theorem d17_21 : decode prog_18_method_22_code 21 = .ok (.if_icmp .eq 33, 3) := by decide +kernel
theorem d17_24 : decode prog_18_method_22_code 24 = .ok (.iload_n 0, 1) := by decide +kernel
theorem d17_25 : decode prog_18_method_22_code 25 = .ok (.bipush 13, 2) := by decide +kernel
theorem d17_27 : decode prog_18_method_22_code 27 = .ok (.if_icmp .eq 27, 3) := by decide +kernel
theorem d17_30 : decode prog_18_method_22_code 30 = .ok (.iload_n 0, 1) := by decide +kernel
theorem d17_31 : decode prog_18_method_22_code 31 = .ok (.ldc 229, 2) := by decide +kernel
theorem d17_33 : decode prog_18_method_22_code 33 = .ok (.if_icmp .lt 9, 3) := by decide +kernel
theorem d17_36 : decode prog_18_method_22_code 36 = .ok (.iload_n 0, 1) := by decide +kernel
theorem d17_37 : decode prog_18_method_22_code 37 = .ok (.ldc 230, 2) := by decide +kernel
theorem d17_39 : decode prog_18_method_22_code 39 = .ok (.if_icmp .le 15, 3) := by decide +kernel
theorem d17_42 : decode prog_18_method_22_code 42 = .ok (.iload_n 0, 1) := by decide +kernel
theorem d17_43 : decode prog_18_method_22_code 43 = .ok (.ldc 231, 2) := by decide +kernel
theorem d17_45 : decode prog_18_method_22_code 45 = .ok (.if_icmp .lt 13, 3) := by decide +kernel
theorem d17_48 : decode prog_18_method_22_code 48 = .ok (.iload_n 0, 1) := by decide +kernel
theorem d17_49 : decode prog_18_method_22_code 49 = .ok (.ldc 232, 2) := by decide +kernel
theorem d17_51 : decode prog_18_method_22_code 51 = .ok (.if_icmp .gt 7, 3) := by decide +kernel
theorem d17_54 : decode prog_18_method_22_code 54 = .ok (.iconst 1, 1) := by decide +kernel
theorem d17_55 : decode prog_18_method_22_code 55 = .ok (.goto 4, 3) := by decide +kernel
theorem d17_58 : decode prog_18_method_22_code 58 = .ok (.iconst 0, 1) := by decide +kernel
theorem d17_59 : decode prog_18_method_22_code 59 = .ok (.ireturn, 1) := by decide +kernel
theorem d18_0 : decode jdk_89_method_18_code 0 = .ok (.iload_n 0, 1) := by decide +kernel
theorem d18_1 : decode jdk_89_method_18_code 1 = .ok (.ldc 73, 2) := by decide +kernel
theorem d18_3 : decode jdk_89_method_18_code 3 = .ok (.if_icmp .lt 7, 3) := by decide +kernel
theorem d18_6 : decode jdk_89_method_18_code 6 = .ok (.iconst 2, 1) := by decide +kernel
theorem d18_7 : decode jdk_89_method_18_code 7 = .ok (.goto 4, 3) := by decide +kernel
theorem d18_10 : decode jdk_89_method_18_code 10 = .ok (.iconst 1, 1) := by decide +kernel
theorem d18_11 : decode jdk_89_method_18_code 11 = .ok (.ireturn, 1) := by decide +kernel
theorem d19_0 : decode method_7_code 0 = .ok (.iconst 0, 1) := by decide +kernel
theorem d19_1 : decode method_7_code 1 = .ok (.istore_n 2, 1) := by decide +kernel
theorem d19_2 : decode method_7_code 2 = .ok (.iload_n 2, 1) := by decide +kernel
theorem d19_3 : decode method_7_code 3 = .ok (.iload_n 1, 1) := by decide +kernel
theorem d19_4 : decode method_7_code 4 = .ok (.if_icmp .ge 23, 3) := by decide +kernel
theorem d19_7 : decode method_7_code 7 = .ok (.aload_n 0, 1) := by decide +kernel
theorem d19_8 : decode method_7_code 8 = .ok (.iload_n 1, 1) := by decide +kernel
theorem d19_9 : decode method_7_code 9 = .ok (.iload_n 2, 1) := by decide +kernel
theorem d19_10 : decode method_7_code 10 = .ok (.invokestatic 24, 3) := by decide +kernel
theorem d19_13 : decode method_7_code 13 = .ok (.istore_n 3, 1) := by decide +kernel
theorem d19_14 : decode method_7_code 14 = .ok (.iload_n 3, 1) := by decide +kernel
theorem d19_15 : decode method_7_code 15 = .ok (.ifCond .lt 5, 3) := by decide +kernel
theorem d19_18 : decode method_7_code 18 = .ok (.iload_n 3, 1) := by decide +kernel
theorem d19_19 : decode method_7_code 19 = .ok (.ireturn, 1) := by decide +kernel
theorem d19_20 : decode method_7_code 20 = .ok (.aload_n 0, 1) := by decide +kernel
theorem d19_21 : decode method_7_code 21 = .ok (.iload_n 1, 1) := by decide +kernel
theorem d19_22 : decode method_7_code 22 = .ok (.iload_n 2, 1) := by decide +kernel
theorem d19_23 : decode method_7_code 23 = .ok (.invokestatic 28, 3) := by decide +kernel
theorem d19_26 : decode method_7_code 26 = .ok (.istore_n 2, 1) := by decide +kernel
theorem d19_27 : decode method_7_code 27 = .ok (.iload_n 2, 1) := by decide +kernel
theorem d19_28 : decode method_7_code 28 = .ok (.iload_n 1, 1) := by decide +kernel
theorem d19_29 : decode method_7_code 29 = .ok (.if_icmp .ge 23, 3) := by decide +kernel
theorem d19_32 : decode method_7_code 32 = .ok (.aload_n 0, 1) := by decide +kernel
theorem d19_33 : decode method_7_code 33 = .ok (.iload_n 1, 1) := by decide +kernel
theorem d19_34 : decode method_7_code 34 = .ok (.iload_n 2, 1) := by decide +kernel
theorem d19_35 : decode method_7_code 35 = .ok (.invokestatic 24, 3) := by decide +kernel
theorem d19_38 : decode method_7_code 38 = .ok (.istore_n 3, 1) := by decide +kernel
theorem d19_39 : decode method_7_code 39 = .ok (.iload_n 3, 1) := by decide +kernel
theorem d19_40 : decode method_7_code 40 = .ok (.ifCond .lt 5, 3) := by decide +kernel
theorem d19_43 : decode method_7_code 43 = .ok (.iload_n 3, 1) := by decide +kernel
theorem d19_44 : decode method_7_code 44 = .ok (.ireturn, 1) := by decide +kernel
theorem d19_45 : decode method_7_code 45 = .ok (.aload_n 0, 1) := by decide +kernel
theorem d19_46 : decode method_7_code 46 = .ok (.iload_n 1, 1) := by decide +kernel
theorem d19_47 : decode method_7_code 47 = .ok (.iload_n 2, 1) := by decide +kernel
theorem d19_48 : decode method_7_code 48 = .ok (.invokestatic 28, 3) := by decide +kernel
theorem d19_51 : decode method_7_code 51 = .ok (.istore_n 2, 1) := by decide +kernel
theorem d19_52 : decode method_7_code 52 = .ok (.iload_n 2, 1) := by decide +kernel
theorem d19_53 : decode method_7_code 53 = .ok (.iload_n 1, 1) := by decide +kernel
theorem d19_54 : decode method_7_code 54 = .ok (.if_icmp .ge 16, 3) := by decide +kernel
theorem d19_57 : decode method_7_code 57 = .ok (.aload_n 0, 1) := by decide +kernel
theorem d19_58 : decode method_7_code 58 = .ok (.iload_n 1, 1) := by decide +kernel
theorem d19_59 : decode method_7_code 59 = .ok (.iload_n 2, 1) := by decide +kernel
theorem d19_60 : decode method_7_code 60 = .ok (.invokestatic 24, 3) := by decide +kernel
theorem d19_63 : decode method_7_code 63 = .ok (.istore_n 3, 1) := by decide +kernel
theorem d19_64 : decode method_7_code 64 = .ok (.iload_n 3, 1) := by decide +kernel
theorem d19_65 : decode method_7_code 65 = .ok (.ifCond .lt 5, 3) := by decide +kernel
theorem d19_68 : decode method_7_code 68 = .ok (.iload_n 3, 1) := by decide +kernel
theorem d19_69 : decode method_7_code 69 = .ok (.ireturn, 1) := by decide +kernel
theorem d19_70 : decode method_7_code 70 = .ok (.iconst (-1), 1) := by decide +kernel
theorem d19_71 : decode method_7_code 71 = .ok (.ireturn, 1) := by decide +kernel
theorem d20_0 : decode method_5_code 0 = .ok (.aload_n 0, 1) := by decide +kernel
theorem d20_1 : decode method_5_code 1 = .ok (.iload_n 1, 1) := by decide +kernel
theorem d20_2 : decode method_5_code 2 = .ok (.iload_n 2, 1) := by decide +kernel
theorem d20_3 : decode method_5_code 3 = .ok (.invokestatic 14, 3) := by decide +kernel
theorem d20_6 : decode method_5_code 6 = .ok (.ifCond .eq 5, 3) := by decide +kernel
theorem d20_9 : decode method_5_code 9 = .ok (.iconst (-1), 1) := by decide +kernel
theorem d20_10 : decode method_5_code 10 = .ok (.ireturn, 1) := by decide +kernel
theorem d20_11 : decode method_5_code 11 = .ok (.aload_n 0, 1) := by decide +kernel
theorem d20_12 : decode method_5_code 12 = .ok (.iload_n 2, 1) := by decide +kernel
theorem d20_13 : decode method_5_code 13 = .ok (.caload, 1) := by decide +kernel
theorem d20_14 : decode method_5_code 14 = .ok (.invokestatic 20, 3) := by decide +kernel
theorem d20_17 : decode method_5_code 17 = .ok (.ifCond .eq 7, 3) := by decide +kernel
theorem d20_20 : decode method_5_code 20 = .ok (.iconst (-1), 1) := by decide +kernel
theorem d20_21 : decode method_5_code 21 = .ok (.goto 6, 3) := by decide +kernel
theorem d20_24 : decode method_5_code 24 = .ok (.aload_n 0, 1) := by decide +kernel
theorem d20_25 : decode method_5_code 25 = .ok (.iload_n 2, 1) := by decide +kernel
theorem d20_26 : decode method_5_code 26 = .ok (.caload, 1) := by decide +kernel
theorem d20_27 : decode method_5_code 27 = .ok (.ireturn, 1) := by decide +kernel
theorem d21_0 : decode method_4_code 0 = .ok (.iload_n 2, 1) := by decide +kernel
theorem d21_1 : decode method_4_code 1 = .ok (.iconst 1, 1) := by decide +kernel
theorem d21_2 : decode method_4_code 2 = .ok (.iadd, 1) := by decide +kernel
theorem d21_3 : decode method_4_code 3 = .ok (.iload_n 1, 1) := by decide +kernel
theorem d21_4 : decode method_4_code 4 = .ok (.if_icmp .ge 43, 3) := by decide +kernel
theorem d21_7 : decode method_4_code 7 = .ok (.aload_n 0, 1) := by decide +kernel
theorem d21_8 : decode method_4_code 8 = .ok (.iload_n 2, 1) := by decide +kernel
theorem d21_9 : decode method_4_code 9 = .ok (.caload, 1) := by decide +kernel
theorem d21_10 : decode method_4_code 10 = .ok (.ldc 7, 2) := by decide +kernel
theorem d21_12 : decode method_4_code 12 = .ok (.if_icmp .lt 35, 3) := by decide +kernel
theorem d21_15 : decode method_4_code 15 = .ok (.aload_n 0, 1) := by decide +kernel
theorem d21_16 : decode method_4_code 16 = .ok (.iload_n 2, 1) := by decide +kernel
theorem d21_17 : decode method_4_code 17 = .ok (.caload, 1) := by decide +kernel
theorem d21_18 : decode method_4_code 18 = .ok (.ldc 11, 2) := by decide +kernel
theorem d21_20 : decode method_4_code 20 = .ok (.if_icmp .gt 27, 3) := by decide +kernel
theorem d21_23 : decode method_4_code 23 = .ok (.aload_n 0, 1) := by decide +kernel
theorem d21_24 : decode method_4_code 24 = .ok (.iload_n 2, 1) := by decide +kernel
theorem d21_25 : decode method_4_code 25 = .ok (.iconst 1, 1) := by decide +kernel
theorem d21_26 : decode method_4_code 26 = .ok (.iadd, 1) := by decide +kernel
theorem d21_27 : decode method_4_code 27 = .ok (.caload, 1) := by decide +kernel
theorem d21_28 : decode method_4_code 28 = .ok (.ldc 12, 2) := by decide +kernel
theorem d21_30 : decode method_4_code 30 = .ok (.if_icmp .lt 17, 3) := by decide +kernel
theorem d21_33 : decode method_4_code 33 = .ok (.aload_n 0, 1) := by decide +kernel
theorem d21_34 : decode method_4_code 34 = .ok (.iload_n 2, 1) := by decide +kernel
theorem d21_35 : decode method_4_code 35 = .ok (.iconst 1, 1) := by decide +kernel
theorem d21_36 : decode method_4_code 36 = .ok (.iadd, 1) := by decide +kernel
theorem d21_37 : decode method_4_code 37 = .ok (.caload, 1) := by decide +kernel
theorem d21_38 : decode method_4_code 38 = .ok (.ldc 13, 2) := by decide +kernel
theorem d21_40 : decode method_4_code 40 = .ok (.if_icmp .gt 7, 3) := by decide +kernel
theorem d21_43 : decode method_4_code 43 = .ok (.iconst 1, 1) := by decide +kernel
theorem d21_44 : decode method_4_code 44 = .ok (.goto 4, 3) := by decide +kernel
theorem d21_47 : decode method_4_code 47 = .ok (.iconst 0, 1) := by decide +kernel
theorem d21_48 : decode method_4_code 48 = .ok (.ireturn, 1) := by decide +kernel
theorem d22_0 : decode method_3_code 0 = .ok (.iload_n 0, 1) := by decide +kernel
theorem d22_1 : decode method_3_code 1 = .ok (.bipush 9, 2) := by decide +kernel
theorem d22_3 : decode method_3_code 3 = .ok (.if_icmp .eq 39, 3) := by decide +kernel
theorem d22_6 : decode method_3_code 6 = .ok (.iload_n 0, 1) := by decide +kernel
theorem d22_7 : decode method_3_code 7 = .ok (.bipush 10, 2) := by decide +kernel
theorem d22_9 : decode method_3_code 9 = .ok (.if_icmp .eq 33, 3) := by decide +kernel
theorem d22_12 : decode method_3_code 12 = .ok (.iload_n 0, 1) := by decide +kernel
theorem d22_13 : decode method_3_code 13 = .ok (.bipush 13, 2) := by decide +kernel
theorem d22_15 : decode method_3_code 15 = .ok (.if_icmp .eq 27, 3) := by decide +kernel
theorem d22_18 : decode method_3_code 18 = .ok (.iload_n 0, 1) := by decide +kernel
theorem d22_19 : decode method_3_code 19 = .ok (.bipush 32, 2) := by decide +kernel
theorem d22_21 : decode method_3_code 21 = .ok (.if_icmp .lt 9, 3) := by decide +kernel
theorem d22_24 : decode method_3_code 24 = .ok (.iload_n 0, 1) := by decide +kernel
theorem d22_25 : decode method_3_code 25 = .ok (.ldc 7, 2) := by decide +kernel
theorem d22_27 : decode method_3_code 27 = .ok (.if_icmp .lt 15, 3) := by decide +kernel
theorem d22_30 : decode method_3_code 30 = .ok (.iload_n 0, 1) := by decide +kernel
theorem d22_31 : decode method_3_code 31 = .ok (.ldc 9, 2) := by decide +kernel
theorem d22_33 : decode method_3_code 33 = .ok (.if_icmp .lt 13, 3) := by decide +kernel
theorem d22_36 : decode method_3_code 36 = .ok (.iload_n 0, 1) := by decide +kernel
theorem d22_37 : decode method_3_code 37 = .ok (.ldc 10, 2) := by decide +kernel
theorem d22_39 : decode method_3_code 39 = .ok (.if_icmp .gt 7, 3) := by decide +kernel
theorem d22_42 : decode method_3_code 42 = .ok (.iconst 1, 1) := by decide +kernel
theorem d22_43 : decode method_3_code 43 = .ok (.goto 4, 3) := by decide +kernel
theorem d22_46 : decode method_3_code 46 = .ok (.iconst 0, 1) := by decide +kernel
theorem d22_47 : decode method_3_code 47 = .ok (.ireturn, 1) := by decide +kernel
theorem d23_0 : decode method_6_code 0 = .ok (.aload_n 0, 1) := by decide +kernel
theorem d23_1 : decode method_6_code 1 = .ok (.iload_n 1, 1) := by decide +kernel
theorem d23_2 : decode method_6_code 2 = .ok (.iload_n 2, 1) := by decide +kernel
theorem d23_3 : decode method_6_code 3 = .ok (.invokestatic 14, 3) := by decide +kernel
theorem d23_6 : decode method_6_code 6 = .ok (.ifCond .eq 9, 3) := by decide +kernel
theorem d23_9 : decode method_6_code 9 = .ok (.iload_n 2, 1) := by decide +kernel
theorem d23_10 : decode method_6_code 10 = .ok (.iconst 2, 1) := by decide +kernel
theorem d23_11 : decode method_6_code 11 = .ok (.iadd, 1) := by decide +kernel
theorem d23_12 : decode method_6_code 12 = .ok (.goto 6, 3) := by decide +kernel
theorem d23_15 : decode method_6_code 15 = .ok (.iload_n 2, 1) := by decide +kernel
theorem d23_16 : decode method_6_code 16 = .ok (.iconst 1, 1) := by decide +kernel
theorem d23_17 : decode method_6_code 17 = .ok (.iadd, 1) := by decide +kernel
theorem d23_18 : decode method_6_code 18 = .ok (.ireturn, 1) := by decide +kernel
theorem d24_0 : decode jdk_52_method_14_code 0 = .ok (.iload_n 2, 1) := by decide +kernel
theorem d24_1 : decode jdk_52_method_14_code 1 = .ok (.invokestatic 107, 3) := by decide +kernel
theorem d24_4 : decode jdk_52_method_14_code 4 = .ok (.astore_n 3, 1) := by decide +kernel
theorem d24_5 : decode jdk_52_method_14_code 5 = .ok (.iconst 0, 1) := by decide +kernel
theorem d24_6 : decode jdk_52_method_14_code 6 = .ok (.istore 4, 2) := by decide +kernel
theorem d24_8 : decode jdk_52_method_14_code 8 = .ok (.iload 4, 2) := by decide +kernel
theorem d24_10 : decode jdk_52_method_14_code 10 = .ok (.iload_n 2, 1) := by decide +kernel
theorem d24_11 : decode jdk_52_method_14_code 11 = .ok (.if_icmp .ge 21, 3) := by decide +kernel
theorem d24_14 : decode jdk_52_method_14_code 14 = .ok (.aload_n 3, 1) := by decide +kernel
theorem d24_15 : decode jdk_52_method_14_code 15 = .ok (.iload 4, 2) := by decide +kernel
theorem d24_17 : decode jdk_52_method_14_code 17 = .ok (.aload_n 0, 1) := by decide +kernel
theorem d24_18 : decode jdk_52_method_14_code 18 = .ok (.iload_n 1, 1) := by decide +kernel
theorem d24_19 : decode jdk_52_method_14_code 19 = .ok (.caload, 1) := by decide +kernel
theorem d24_20 : decode jdk_52_method_14_code 20 = .ok (.invokestatic 111, 3) := by decide +kernel
theorem d24_23 : decode jdk_52_method_14_code 23 = .ok (.iinc 1 1, 3) := by decide +kernel
theorem d24_26 : decode jdk_52_method_14_code 26 = .ok (.iinc 4 1, 3) := by decide +kernel
theorem d24_29 : decode jdk_52_method_14_code 29 = .ok (.goto (-21), 3) := by decide +kernel
theorem d24_32 : decode jdk_52_method_14_code 32 = .ok (.aload_n 3, 1) := by decide +kernel
theorem d24_33 : decode jdk_52_method_14_code 33 = .ok (.areturn, 1) := by decide +kernel
theorem d25_0 : decode jdk_52_method_2_code 0 = .ok (.iload_n 0, 1) := by decide +kernel
theorem d25_1 : decode jdk_52_method_2_code 1 = .ok (.invokestatic 11, 3) := by decide +kernel
theorem d25_4 : decode jdk_52_method_2_code 4 = .ok (.newarray .byte, 2) := by decide +kernel
theorem d25_6 : decode jdk_52_method_2_code 6 = .ok (.areturn, 1) := by decide +kernel
theorem d26_0 : decode jdk_52_method_3_code 0 = .ok (.iload_n 0, 1) := by decide +kernel
theorem d26_1 : decode jdk_52_method_3_code 1 = .ok (.ifCond .ge 11, 3) := by decide +kernel
theorem d26_12 : decode jdk_52_method_3_code 12 = .ok (.iload_n 0, 1) := by decide +kernel
theorem d26_13 : decode jdk_52_method_3_code 13 = .ok (.ldc 20, 2) := by decide +kernel
theorem d26_15 : decode jdk_52_method_3_code 15 = .ok (.if_icmp .lt 40, 3) := by decide +kernel
theorem d26_55 : decode jdk_52_method_3_code 55 = .ok (.iload_n 0, 1) := by decide +kernel
theorem d26_56 : decode jdk_52_method_3_code 56 = .ok (.iconst 1, 1) := by decide +kernel
theorem d26_57 : decode jdk_52_method_3_code 57 = .ok (.ishl, 1) := by decide +kernel
theorem d26_58 : decode jdk_52_method_3_code 58 = .ok (.ireturn, 1) := by decide +kernel
theorem d27_0 : decode jdk_52_method_4_code 0 = .ok (.getstatic 44, 3) := by decide +kernel
theorem d27_3 : decode jdk_52_method_4_code 3 = .ok (.ifCond .ne 25, 3) := by decide +kernel
theorem d27_28 : decode jdk_52_method_4_code 28 = .ok (.iload_n 1, 1) := by decide +kernel
theorem d27_29 : decode jdk_52_method_4_code 29 = .ok (.iconst 1, 1) := by decide +kernel
theorem d27_30 : decode jdk_52_method_4_code 30 = .ok (.ishl, 1) := by decide +kernel
theorem d27_31 : decode jdk_52_method_4_code 31 = .ok (.istore_n 1, 1) := by decide +kernel
theorem d27_32 : decode jdk_52_method_4_code 32 = .ok (.aload_n 0, 1) := by decide +kernel
theorem d27_33 : decode jdk_52_method_4_code 33 = .ok (.iload_n 1, 1) := by decide +kernel
theorem d27_34 : decode jdk_52_method_4_code 34 = .ok (.iinc 1 1, 3) := by decide +kernel
theorem d27_37 : decode jdk_52_method_4_code 37 = .ok (.iload_n 2, 1) := by decide +kernel
theorem d27_38 : decode jdk_52_method_4_code 38 = .ok (.getstatic 59, 3) := by decide +kernel
theorem d27_41 : decode jdk_52_method_4_code 41 = .ok (.ishr, 1) := by decide +kernel
theorem d27_42 : decode jdk_52_method_4_code 42 = .ok (.i2b, 1) := by decide +kernel
theorem d27_43 : decode jdk_52_method_4_code 43 = .ok (.bastore, 1) := by decide +kernel
theorem d27_44 : decode jdk_52_method_4_code 44 = .ok (.aload_n 0, 1) := by decide +kernel
theorem d27_45 : decode jdk_52_method_4_code 45 = .ok (.iload_n 1, 1) := by decide +kernel
theorem d27_46 : decode jdk_52_method_4_code 46 = .ok (.iload_n 2, 1) := by decide +kernel
theorem d27_47 : decode jdk_52_method_4_code 47 = .ok (.getstatic 63, 3) := by decide +kernel
theorem d27_50 : decode jdk_52_method_4_code 50 = .ok (.ishr, 1) := by decide +kernel
theorem d27_51 : decode jdk_52_method_4_code 51 = .ok (.i2b, 1) := by decide +kernel
theorem d27_52 : decode jdk_52_method_4_code 52 = .ok (.bastore, 1) := by decide +kernel
theorem d27_53 : decode jdk_52_method_4_code 53 = .ok (.return_, 1) := by decide +kernel
theorem d28_0 : decode jdk_52_method_5_code 0 = .ok (.getstatic 44, 3) := by decide +kernel
theorem d28_3 : decode jdk_52_method_5_code 3 = .ok (.ifCond .ne 25, 3) := by decide +kernel
theorem d28_28 : decode jdk_52_method_5_code 28 = .ok (.iload_n 1, 1) := by decide +kernel
theorem d28_29 : decode jdk_52_method_5_code 29 = .ok (.iconst 1, 1) := by decide +kernel
theorem d28_30 : decode jdk_52_method_5_code 30 = .ok (.ishl, 1) := by decide +kernel
theorem d28_31 : decode jdk_52_method_5_code 31 = .ok (.istore_n 1, 1) := by decide +kernel
theorem d28_32 : decode jdk_52_method_5_code 32 = .ok (.aload_n 0, 1) := by decide +kernel
theorem d28_33 : decode jdk_52_method_5_code 33 = .ok (.iload_n 1, 1) := by decide +kernel
theorem d28_34 : decode jdk_52_method_5_code 34 = .ok (.iinc 1 1, 3) := by decide +kernel
theorem d28_37 : decode jdk_52_method_5_code 37 = .ok (.baload, 1) := by decide +kernel
theorem d28_38 : decode jdk_52_method_5_code 38 = .ok (.sipush 255, 3) := by decide +kernel
theorem d28_41 : decode jdk_52_method_5_code 41 = .ok (.iand, 1) := by decide +kernel
theorem d28_42 : decode jdk_52_method_5_code 42 = .ok (.getstatic 59, 3) := by decide +kernel
theorem d28_45 : decode jdk_52_method_5_code 45 = .ok (.ishl, 1) := by decide +kernel
theorem d28_46 : decode jdk_52_method_5_code 46 = .ok (.aload_n 0, 1) := by decide +kernel
theorem d28_47 : decode jdk_52_method_5_code 47 = .ok (.iload_n 1, 1) := by decide +kernel
theorem d28_48 : decode jdk_52_method_5_code 48 = .ok (.baload, 1) := by decide +kernel
theorem d28_49 : decode jdk_52_method_5_code 49 = .ok (.sipush 255, 3) := by decide +kernel
theorem d28_52 : decode jdk_52_method_5_code 52 = .ok (.iand, 1) := by decide +kernel
theorem d28_53 : decode jdk_52_method_5_code 53 = .ok (.getstatic 63, 3) := by decide +kernel
theorem d28_56 : decode jdk_52_method_5_code 56 = .ok (.ishl, 1) := by decide +kernel
theorem d28_57 : decode jdk_52_method_5_code 57 = .ok (.ior, 1) := by decide +kernel
theorem d28_58 : decode jdk_52_method_5_code 58 = .ok (.i2c, 1) := by decide +kernel
theorem d28_59 : decode jdk_52_method_5_code 59 = .ok (.ireturn, 1) := by decide +kernel
theorem d29_0 : decode jdk_52_method_83_code 0 = .ok (.iload_n 1, 1) := by decide +kernel
theorem d29_1 : decode jdk_52_method_83_code 1 = .ok (.aload_n 0, 1) := by decide +kernel
theorem d29_2 : decode jdk_52_method_83_code 2 = .ok (.invokestatic 67, 3) := by decide +kernel
theorem d29_5 : decode jdk_52_method_83_code 5 = .ok (.aload_n 0, 1) := by decide +kernel
theorem d29_6 : decode jdk_52_method_83_code 6 = .ok (.iload_n 1, 1) := by decide +kernel
theorem d29_7 : decode jdk_52_method_83_code 7 = .ok (.invokestatic 71, 3) := by decide +kernel
theorem d29_10 : decode jdk_52_method_83_code 10 = .ok (.ireturn, 1) := by decide +kernel
theorem d30_0 : decode jdk_52_method_91_code 0 = .ok (.iload_n 0, 1) := by decide +kernel
theorem d30_1 : decode jdk_52_method_91_code 1 = .ok (.aload_n 1, 1) := by decide +kernel
theorem d30_2 : decode jdk_52_method_91_code 2 = .ok (.invokestatic 48, 3) := by decide +kernel
theorem d30_5 : decode jdk_52_method_91_code 5 = .ok (.invokestatic 414, 3) := by decide +kernel
theorem d30_8 : decode jdk_52_method_91_code 8 = .ok (.return_, 1) := by decide +kernel
theorem d31_0 : decode jdk_52_method_6_code 0 = .ok (.aload_n 0, 1) := by decide +kernel
theorem d31_1 : decode jdk_52_method_6_code 1 = .ok (.arraylength, 1) := by decide +kernel
theorem d31_2 : decode jdk_52_method_6_code 2 = .ok (.iconst 1, 1) := by decide +kernel
theorem d31_3 : decode jdk_52_method_6_code 3 = .ok (.ishr, 1) := by decide +kernel
theorem d31_4 : decode jdk_52_method_6_code 4 = .ok (.ireturn, 1) := by decide +kernel
theorem d32_0 : decode jdk_52_method_8_code 0 = .ok (.aload_n 0, 1) := by decide +kernel
theorem d32_1 : decode jdk_52_method_8_code 1 = .ok (.iload_n 1, 1) := by decide +kernel
theorem d32_2 : decode jdk_52_method_8_code 2 = .ok (.iload_n 2, 1) := by decide +kernel
theorem d32_3 : decode jdk_52_method_8_code 3 = .ok (.iconst 0, 1) := by decide +kernel
theorem d32_4 : decode jdk_52_method_8_code 4 = .ok (.invokestatic 88, 3) := by decide +kernel
theorem d32_7 : decode jdk_52_method_8_code 7 = .ok (.ireturn, 1) := by decide +kernel
theorem d33_0 : decode jdk_52_method_7_code 0 = .ok (.getstatic 44, 3) := by decide +kernel
theorem d33_3 : decode jdk_52_method_7_code 3 = .ok (.ifCond .ne 16, 3) := by decide +kernel
theorem d33_19 : decode jdk_52_method_7_code 19 = .ok (.iload_n 3, 1) := by decide +kernel
theorem d33_20 : decode jdk_52_method_7_code 20 = .ok (.ifCond .eq 8, 3) := by decide +kernel
theorem d33_28 : decode jdk_52_method_7_code 28 = .ok (.aload_n 0, 1) := by decide +kernel
theorem d33_29 : decode jdk_52_method_7_code 29 = .ok (.iload_n 1, 1) := by decide +kernel
theorem d33_30 : decode jdk_52_method_7_code 30 = .ok (.invokestatic 71, 3) := by decide +kernel
theorem d33_33 : decode jdk_52_method_7_code 33 = .ok (.istore 4, 2) := by decide +kernel
theorem d33_35 : decode jdk_52_method_7_code 35 = .ok (.iload 4, 2) := by decide +kernel
theorem d33_37 : decode jdk_52_method_7_code 37 = .ok (.invokestatic 75, 3) := by decide +kernel
theorem d33_40 : decode jdk_52_method_7_code 40 = .ok (.ifCond .eq 43, 3) := by decide +kernel
theorem d33_43 : decode jdk_52_method_7_code 43 = .ok (.iinc 1 1, 3) := by decide +kernel
theorem d33_46 : decode jdk_52_method_7_code 46 = .ok (.iload_n 1, 1) := by decide +kernel
theorem d33_47 : decode jdk_52_method_7_code 47 = .ok (.iload_n 2, 1) := by decide +kernel
theorem d33_48 : decode jdk_52_method_7_code 48 = .ok (.if_icmp .ge 35, 3) := by decide +kernel
theorem d33_51 : decode jdk_52_method_7_code 51 = .ok (.iload_n 3, 1) := by decide +kernel
theorem d33_52 : decode jdk_52_method_7_code 52 = .ok (.ifCond .eq 8, 3) := by decide +kernel
theorem d33_60 : decode jdk_52_method_7_code 60 = .ok (.aload_n 0, 1) := by decide +kernel
theorem d33_61 : decode jdk_52_method_7_code 61 = .ok (.iload_n 1, 1) := by decide +kernel
theorem d33_62 : decode jdk_52_method_7_code 62 = .ok (.invokestatic 71, 3) := by decide +kernel
theorem d33_65 : decode jdk_52_method_7_code 65 = .ok (.istore 5, 2) := by decide +kernel
theorem d33_67 : decode jdk_52_method_7_code 67 = .ok (.iload 5, 2) := by decide +kernel
theorem d33_69 : decode jdk_52_method_7_code 69 = .ok (.invokestatic 81, 3) := by decide +kernel
theorem d33_72 : decode jdk_52_method_7_code 72 = .ok (.ifCond .eq 11, 3) := by decide +kernel
theorem d33_75 : decode jdk_52_method_7_code 75 = .ok (.iload 4, 2) := by decide +kernel
theorem d33_77 : decode jdk_52_method_7_code 77 = .ok (.iload 5, 2) := by decide +kernel
theorem d33_79 : decode jdk_52_method_7_code 79 = .ok (.invokestatic 84, 3) := by decide +kernel
theorem d33_82 : decode jdk_52_method_7_code 82 = .ok (.ireturn, 1) := by decide +kernel
theorem d33_83 : decode jdk_52_method_7_code 83 = .ok (.iload 4, 2) := by decide +kernel
theorem d33_85 : decode jdk_52_method_7_code 85 = .ok (.ireturn, 1) := by decide +kernel
theorem d34_0 : decode jdk_89_method_14_code 0 = .ok (.iload_n 0, 1) := by decide +kernel
theorem d34_1 : decode jdk_89_method_14_code 1 = .ok (.ldc 75, 2) := by decide +kernel
theorem d34_3 : decode jdk_89_method_14_code 3 = .ok (.if_icmp .lt 13, 3) := by decide +kernel
theorem d34_6 : decode jdk_89_method_14_code 6 = .ok (.iload_n 0, 1) := by decide +kernel
theorem d34_7 : decode jdk_89_method_14_code 7 = .ok (.ldc 76, 2) := by decide +kernel
theorem d34_9 : decode jdk_89_method_14_code 9 = .ok (.if_icmp .ge 7, 3) := by decide +kernel
theorem d34_12 : decode jdk_89_method_14_code 12 = .ok (.iconst 1, 1) := by decide +kernel
theorem d34_13 : decode jdk_89_method_14_code 13 = .ok (.goto 4, 3) := by decide +kernel
theorem d34_16 : decode jdk_89_method_14_code 16 = .ok (.iconst 0, 1) := by decide +kernel
theorem d34_17 : decode jdk_89_method_14_code 17 = .ok (.ireturn, 1) := by decide +kernel
theorem d35_0 : decode jdk_89_method_15_code 0 = .ok (.iload_n 0, 1) := by decide +kernel
theorem d35_1 : decode jdk_89_method_15_code 1 = .ok (.ldc 76, 2) := by decide +kernel
theorem d35_3 : decode jdk_89_method_15_code 3 = .ok (.if_icmp .lt 13, 3) := by decide +kernel
theorem d35_6 : decode jdk_89_method_15_code 6 = .ok (.iload_n 0, 1) := by decide +kernel
theorem d35_7 : decode jdk_89_method_15_code 7 = .ok (.ldc 77, 2) := by decide +kernel
theorem d35_9 : decode jdk_89_method_15_code 9 = .ok (.if_icmp .ge 7, 3) := by decide +kernel
theorem d35_12 : decode jdk_89_method_15_code 12 = .ok (.iconst 1, 1) := by decide +kernel
theorem d35_13 : decode jdk_89_method_15_code 13 = .ok (.goto 4, 3) := by decide +kernel
theorem d35_16 : decode jdk_89_method_15_code 16 = .ok (.iconst 0, 1) := by decide +kernel
theorem d35_17 : decode jdk_89_method_15_code 17 = .ok (.ireturn, 1) := by decide +kernel
theorem d36_0 : decode jdk_89_method_19_code 0 = .ok (.iload_n 0, 1) := by decide +kernel
theorem d36_1 : decode jdk_89_method_19_code 1 = .ok (.bipush 10, 2) := by decide +kernel
theorem d36_3 : decode jdk_89_method_19_code 3 = .ok (.ishl, 1) := by decide +kernel
theorem d36_4 : decode jdk_89_method_19_code 4 = .ok (.iload_n 1, 1) := by decide +kernel
theorem d36_5 : decode jdk_89_method_19_code 5 = .ok (.iadd, 1) := by decide +kernel
theorem d36_6 : decode jdk_89_method_19_code 6 = .ok (.ldc 85, 2) := by decide +kernel
theorem d36_8 : decode jdk_89_method_19_code 8 = .ok (.iadd, 1) := by decide +kernel
theorem d36_9 : decode jdk_89_method_19_code 9 = .ok (.ireturn, 1) := by decide +kernel
theorem oef0 (m : MethodId) (x0 : Addr) (x1 : Int32) (x2 : Int32) : entryFrame m #[(.ref x0), (.int x1), (.int x2)] 3 = mkF m 0 #[.val (.ref x0), .val (.int x1), .val (.int x2)] [] := by first | (simp [entryFrame, mkF, argsToLocals, Value.category]; done) | rfl
theorem oef1 (m : MethodId) (x0 : Int32) : entryFrame m #[(.int x0)] 1 = mkF m 0 #[.val (.int x0)] [] := by first | (simp [entryFrame, mkF, argsToLocals, Value.category]; done) | rfl
theorem oef2 (m : MethodId) (x0 : Addr) (x1 : Int32) (x2 : Int32) : entryFrame m #[(.ref x0), (.int x1), (.int x2)] 5 = mkF m 0 #[.val (.ref x0), .val (.int x1), .val (.int x2), .unset, .unset] [] := by first | (simp [entryFrame, mkF, argsToLocals, Value.category]; done) | rfl
theorem oef3 (m : MethodId) (x0 : Addr) (x1 : Int32) : entryFrame m #[(.ref x0), (.int x1)] 2 = mkF m 0 #[.val (.ref x0), .val (.int x1)] [] := by first | (simp [entryFrame, mkF, argsToLocals, Value.category]; done) | rfl
theorem oef4 (m : MethodId) (x0 : Addr) (x1 : Int32) (x2 : Addr) (x3 : Int32) (x4 : Int32) : entryFrame m #[(.ref x0), (.int x1), (.ref x2), (.int x3), (.int x4)] 7 = mkF m 0 #[.val (.ref x0), .val (.int x1), .val (.ref x2), .val (.int x3), .val (.int x4), .unset, .unset] [] := by first | (simp [entryFrame, mkF, argsToLocals, Value.category]; done) | rfl
theorem oef5 (m : MethodId) (x0 : Addr) (x1 : Int32) (x2 : Int32) : entryFrame m #[(.ref x0), (.int x1), (.int x2)] 6 = mkF m 0 #[.val (.ref x0), .val (.int x1), .val (.int x2), .unset, .unset, .unset] [] := by first | (simp [entryFrame, mkF, argsToLocals, Value.category]; done) | rfl
theorem oef6 (m : MethodId) (x0 : Addr) (x1 : Addr) (x2 : Int32) (x3 : Int32) : entryFrame m #[(.ref x0), (.ref x1), (.int x2), (.int x3), .null] 6 = mkF m 0 #[.val (.ref x0), .val (.ref x1), .val (.int x2), .val (.int x3), .val .null, .unset] [] := by first | (simp [entryFrame, mkF, argsToLocals, Value.category]; done) | rfl
theorem oef7 (m : MethodId) (x0 : Addr) (x1 : Addr) : entryFrame m #[(.ref x0), (.ref x1)] 2 = mkF m 0 #[.val (.ref x0), .val (.ref x1)] [] := by first | (simp [entryFrame, mkF, argsToLocals, Value.category]; done) | rfl
theorem oef8 (m : MethodId) (x0 : Int32) (x1 : Int32) (x2 : Value) (hx2 : x2.isRef = true) : entryFrame m #[(.int x0), (.int x1), x2] 3 = mkF m 0 #[.val (.int x0), .val (.int x1), .val x2] [] := by rcases ref_cases hx2 with rfl | ⟨_, rfl⟩ <;> first | (simp [entryFrame, mkF, argsToLocals, Value.category]; done) | rfl
theorem oef9 (m : MethodId) (x0 : Int32) (x1 : Int32) : entryFrame m #[(.int x0), (.int x1)] 2 = mkF m 0 #[.val (.int x0), .val (.int x1)] [] := by first | (simp [entryFrame, mkF, argsToLocals, Value.category]; done) | rfl
theorem oef10 (m : MethodId) (x0 : Addr) : entryFrame m #[(.ref x0)] 1 = mkF m 0 #[.val (.ref x0)] [] := by first | (simp [entryFrame, mkF, argsToLocals, Value.category]; done) | rfl
theorem oef11 (m : MethodId) (x0 : Int32) (x1 : Addr) : entryFrame m #[(.int x0), (.ref x1)] 2 = mkF m 0 #[.val (.int x0), .val (.ref x1)] [] := by first | (simp [entryFrame, mkF, argsToLocals, Value.category]; done) | rfl
theorem oef12 (m : MethodId) (x0 : Addr) (x1 : Int32) (x2 : Int32) (x3 : Int32) : entryFrame m #[(.ref x0), (.int x1), (.int x2), (.int x3)] 6 = mkF m 0 #[.val (.ref x0), .val (.int x1), .val (.int x2), .val (.int x3), .unset, .unset] [] := by first | (simp [entryFrame, mkF, argsToLocals, Value.category]; done) | rfl
theorem oef13 (m : MethodId) (x0 : Addr) (x1 : Int32) : entryFrame m #[(.ref x0), (.int x1)] 3 = mkF m 0 #[.val (.ref x0), .val (.int x1), .unset] [] := by first | (simp [entryFrame, mkF, argsToLocals, Value.category]; done) | rfl
theorem oef14 (m : MethodId) (x0 : Addr) : entryFrame m #[(.ref x0)] 5 = mkF m 0 #[.val (.ref x0), .unset, .unset, .unset, .unset] [] := by first | (simp [entryFrame, mkF, argsToLocals, Value.category]; done) | rfl
theorem oef15 (m : MethodId) (x0 : Int32) : entryFrame m #[(.int x0)] 2 = mkF m 0 #[.val (.int x0), .unset] [] := by first | (simp [entryFrame, mkF, argsToLocals, Value.category]; done) | rfl
theorem oef16 (m : MethodId) (x0 : Addr) (x1 : Int32) : entryFrame m #[(.ref x0), (.int x1)] 4 = mkF m 0 #[.val (.ref x0), .val (.int x1), .unset, .unset] [] := by first | (simp [entryFrame, mkF, argsToLocals, Value.category]; done) | rfl
theorem oef17 (m : MethodId) (x0 : Int32) (x1 : Int32) (x2 : Int32) (x3 : Int32) : entryFrame m #[(.int x0), (.int x1), (.int x2), (.int x3)] maxLocals = mkF m 0 #[.val (.int x0), .val (.int x1), .val (.int x2), .val (.int x3), .unset, .unset, .unset, .unset] [] := by first | (simp [entryFrame, mkF, argsToLocals, Value.category, maxLocals]; done) | rfl
theorem opn_0 : plainFor x = true := plainFor_of_name (by first | (simp [plainName, overriddenIn]; done) | decide +kernel)
theorem opn_1 : plainFor (⟨"com/example/neith/neith/io/XmlOutputForbiddenCharacterPinLaw", "draw", "(I)C"⟩ : MethodName) = true := plainFor_of_name (by first | (simp [plainName, overriddenIn]; done) | decide +kernel)
theorem opn_2 : plainFor (⟨"java/lang/String", "<init>", "([C)V"⟩ : MethodName) = true := plainFor_of_name (by first | (simp [plainName, overriddenIn]; done) | decide +kernel)
theorem opn_3 : plainFor (⟨"java/lang/String", "<init>", "([CIILjava/lang/Void;)V"⟩ : MethodName) = true := plainFor_of_name (by first | (simp [plainName, overriddenIn]; done) | decide +kernel)
theorem opn_5 : plainFor (⟨"java/lang/StringUTF16", "compress", "([CII)[B"⟩ : MethodName) = true := plainFor_of_name (by first | (simp [plainName, overriddenIn]; done) | decide +kernel)
theorem opn_6 : plainFor (⟨"java/lang/StringUTF16", "compress", "([CI[BII)I"⟩ : MethodName) = true := plainFor_of_name (by first | (simp [plainName, overriddenIn]; done) | decide +kernel)
theorem opn_7 : plainFor (⟨"java/lang/StringUTF16", "coderFromArrayLen", "([BI)B"⟩ : MethodName) = true := plainFor_of_name (by first | (simp [plainName, overriddenIn]; done) | decide +kernel)
theorem opn_8 : plainFor (⟨"com/example/neith/neith/io/XmlOutput", "forbiddenCharacter", "(Ljava/lang/String;)I"⟩ : MethodName) = true := plainFor_of_name (by first | (simp [plainName, overriddenIn]; done) | decide +kernel)
theorem opn_9 : plainFor (⟨"java/lang/String", "length", "()I"⟩ : MethodName) = true := plainFor_of_name (by first | (simp [plainName, overriddenIn]; done) | decide +kernel)
theorem opn_10 : plainFor (⟨"java/lang/String", "coder", "()B"⟩ : MethodName) = true := plainFor_of_name (by first | (simp [plainName, overriddenIn]; done) | decide +kernel)
theorem opn_11 : plainFor (⟨"java/lang/String", "charAt", "(I)C"⟩ : MethodName) = true := plainFor_of_name (by first | (simp [plainName, overriddenIn]; done) | decide +kernel)
theorem opn_12 : plainFor (⟨"java/lang/String", "isLatin1", "()Z"⟩ : MethodName) = true := plainFor_of_name (by first | (simp [plainName, overriddenIn]; done) | decide +kernel)
theorem opn_13 : plainFor (⟨"java/lang/StringLatin1", "charAt", "([BI)C"⟩ : MethodName) = true := plainFor_of_name (by first | (simp [plainName, overriddenIn]; done) | decide +kernel)
theorem opn_14 : plainFor (⟨"java/lang/String", "checkIndex", "(II)V"⟩ : MethodName) = true := plainFor_of_name (by first | (simp [plainName, overriddenIn]; done) | decide +kernel)
theorem opn_15 : plainFor (⟨"jdk/internal/util/Preconditions", "checkIndex", "(IILjava/util/function/BiFunction;)I"⟩ : MethodName) = true := plainFor_of_name (by first | (simp [plainName, overriddenIn]; done) | decide +kernel)
theorem opn_16 : plainFor (⟨"java/lang/String", "codePointAt", "(I)I"⟩ : MethodName) = true := plainFor_of_name (by first | (simp [plainName, overriddenIn]; done) | decide +kernel)
theorem opn_17 : plainFor (⟨"com/example/neith/neith/io/XmlOutput", "isXmlChar", "(I)Z"⟩ : MethodName) = true := plainFor_of_name (by first | (simp [plainName, overriddenIn]; done) | decide +kernel)
theorem opn_18 : plainFor (⟨"java/lang/Character", "charCount", "(I)I"⟩ : MethodName) = true := plainFor_of_name (by first | (simp [plainName, overriddenIn]; done) | decide +kernel)
theorem opn_19 : plainFor (⟨"com/example/neith/neith/io/XmlOutputForbiddenCharacterPinLaw", "ref", "([CI)I"⟩ : MethodName) = true := plainFor_of_name (by first | (simp [plainName, overriddenIn]; done) | decide +kernel)
theorem opn_20 : plainFor (⟨"com/example/neith/neith/io/XmlOutputForbiddenCharacterPinLaw", "bad", "([CII)I"⟩ : MethodName) = true := plainFor_of_name (by first | (simp [plainName, overriddenIn]; done) | decide +kernel)
theorem opn_21 : plainFor (⟨"com/example/neith/neith/io/XmlOutputForbiddenCharacterPinLaw", "pair", "([CII)Z"⟩ : MethodName) = true := plainFor_of_name (by first | (simp [plainName, overriddenIn]; done) | decide +kernel)
theorem opn_22 : plainFor (⟨"com/example/neith/neith/io/XmlOutputForbiddenCharacterPinLaw", "okBmp", "(C)Z"⟩ : MethodName) = true := plainFor_of_name (by first | (simp [plainName, overriddenIn]; done) | decide +kernel)
theorem opn_23 : plainFor (⟨"com/example/neith/neith/io/XmlOutputForbiddenCharacterPinLaw", "next", "([CII)I"⟩ : MethodName) = true := plainFor_of_name (by first | (simp [plainName, overriddenIn]; done) | decide +kernel)
theorem opn_24 : plainFor (⟨"java/lang/StringUTF16", "toBytes", "([CII)[B"⟩ : MethodName) = true := plainFor_of_name (by first | (simp [plainName, overriddenIn]; done) | decide +kernel)
theorem opn_25 : plainFor (⟨"java/lang/StringUTF16", "newBytesFor", "(I)[B"⟩ : MethodName) = true := plainFor_of_name (by first | (simp [plainName, overriddenIn]; done) | decide +kernel)
theorem opn_26 : plainFor (⟨"java/lang/StringUTF16", "newBytesLength", "(I)I"⟩ : MethodName) = true := plainFor_of_name (by first | (simp [plainName, overriddenIn]; done) | decide +kernel)
theorem opn_27 : plainFor (⟨"java/lang/StringUTF16", "putChar", "([BII)V"⟩ : MethodName) = true := plainFor_of_name (by first | (simp [plainName, overriddenIn]; done) | decide +kernel)
theorem opn_28 : plainFor (⟨"java/lang/StringUTF16", "getChar", "([BI)C"⟩ : MethodName) = true := plainFor_of_name (by first | (simp [plainName, overriddenIn]; done) | decide +kernel)
theorem opn_29 : plainFor (⟨"java/lang/StringUTF16", "charAt", "([BI)C"⟩ : MethodName) = true := plainFor_of_name (by first | (simp [plainName, overriddenIn]; done) | decide +kernel)
theorem opn_30 : plainFor (⟨"java/lang/StringUTF16", "checkIndex", "(I[B)V"⟩ : MethodName) = true := plainFor_of_name (by first | (simp [plainName, overriddenIn]; done) | decide +kernel)
theorem opn_31 : plainFor (⟨"java/lang/StringUTF16", "length", "([B)I"⟩ : MethodName) = true := plainFor_of_name (by first | (simp [plainName, overriddenIn]; done) | decide +kernel)
theorem opn_32 : plainFor (⟨"java/lang/StringUTF16", "codePointAt", "([BII)I"⟩ : MethodName) = true := plainFor_of_name (by first | (simp [plainName, overriddenIn]; done) | decide +kernel)
theorem opn_33 : plainFor (⟨"java/lang/StringUTF16", "codePointAt", "([BIIZ)I"⟩ : MethodName) = true := plainFor_of_name (by first | (simp [plainName, overriddenIn]; done) | decide +kernel)
theorem opn_34 : plainFor (⟨"java/lang/Character", "isHighSurrogate", "(C)Z"⟩ : MethodName) = true := plainFor_of_name (by first | (simp [plainName, overriddenIn]; done) | decide +kernel)
theorem opn_35 : plainFor (⟨"java/lang/Character", "isLowSurrogate", "(C)Z"⟩ : MethodName) = true := plainFor_of_name (by first | (simp [plainName, overriddenIn]; done) | decide +kernel)
theorem opn_36 : plainFor (⟨"java/lang/Character", "toCodePoint", "(CC)I"⟩ : MethodName) = true := plainFor_of_name (by first | (simp [plainName, overriddenIn]; done) | decide +kernel)
theorem own_hEL {a0 : Array Value} {Z : State} (hw : HW a0 Z) : EW Z a0 own_EL := (EW.cons (hw _ (List.mem_of_getElem? (i := 105) rfl)) (by decide) EW.nil)
theorem own_wS {a0 : Array Value} {Z : State} (hw : HW a0 Z) : ∀ a ∈ Bundle.stringAtoms, a.before a0 Z = true := by
  intro a ha
  simp only [Bundle.stringAtoms, List.mem_cons, List.not_mem_nil, or_false] at ha
  rcases ha with rfl | rfl | rfl | rfl | rfl | rfl | rfl
  · exact (ow7 hw)
  · exact (ow6 hw)
  · exact (ow23 hw)
  · exact (ow33 hw)
  · exact (ow31 hw)
  · exact (ow106 hw)
  · exact (ow107 hw)
theorem own_nb (x : Int32) : nar .byte (x.toInt8.toInt32) = x.toInt8.toInt32 := by
 show x.toInt8.toInt32.toInt8.toInt32 = x.toInt8.toInt32
 simp
theorem own_strarr {Z : State} {h : Heap} {a b : Addr} {C : String} {k : ClassId} {ty : FieldType} {z : Int32} {vs : List Value} {dv : Value} {a0 : Array Value} {n : Nat} (E : Exa Z h a C) (A : Arv Z h b k ty z vs dv) (w : (Cond.instantiable C n).before a0 Z = true) (q : a = b) : False := by
 obtain ⟨cl, A, -⟩ := A
 exact ne_arr E w A q
theorem own_ne0 {args : Array Value} {s : State} {t : Term} {x : Int32} (e : t.eval args s none [] s = some (.int x)) (h : (Cond.not (Cond.eq t (Term.int 0))).value args s none s [] = some true) : ¬ x = 0 := by
 have h := not_v h
 simp only [Cond.value, Term.eval, e] at h
 simpa using h
theorem own_byte {c : Int32} (h : 0 ≤ c.toInt ∧ c.toInt ≤ 255) : ∃ n : Fin 256, c = Int32.ofNat n.val := by
 refine ⟨⟨c.toInt.toNat, by omega⟩, ?_⟩
 apply Int32.toInt_inj.mp
 rw [Int32.toInt_ofNat_of_lt (by omega)]
 show c.toInt = ((c.toInt.toNat : Nat) : Int)
 omega
theorem own_ch {c : Int32} (h : 0 ≤ c.toInt ∧ c.toInt ≤ 255) : nar .char ((c.toInt8.toInt32 &&& 255).toUInt32.toUInt16.toUInt32.toInt32) = c := by
 obtain ⟨n, rfl⟩ := own_byte h
 revert n; decide +kernel
theorem own_nc {c : Int32} (h : 0 ≤ c.toInt ∧ c.toInt ≤ 255) : nar .char c = c := by
 obtain ⟨n, rfl⟩ := own_byte h
 revert n; decide +kernel
theorem own_shr0 (x : Int32) : x >>> ((0 : Int32) &&& 31) = x := by
 have h := c_ishr x 0 0 (by decide)
 apply Int32.toInt_inj.mp
 rw [h]; simp
theorem own_le255 {c : Int32} (h : 0 ≤ c.toInt ∧ c.toInt ≤ 255) : ¬ (255 : Int32) < c := by
 rw [Int32.lt_iff_toInt_lt]
 have e : (255 : Int32).toInt = 255 := by decide
 omega
theorem own_shl0 (x : Int32) : x <<< ((0 : Int32) &&& 31) = x := by
 apply Int32.toBitVec_inj.mp
 simp
theorem own_two {c : Int32} (h : 0 ≤ c.toInt ∧ c.toInt ≤ 65535) : ∃ q r : Fin 256, c = Int32.ofNat (q.val * 256 + r.val) := by
 refine ⟨⟨c.toInt.toNat / 256, by omega⟩, ⟨c.toInt.toNat % 256, by omega⟩, ?_⟩
 apply Int32.toInt_inj.mp
 rw [Int32.toInt_ofNat_of_lt (by show c.toInt.toNat / 256 * 256 + c.toInt.toNat % 256 < _; omega)]
 show c.toInt = ((c.toInt.toNat / 256 * 256 + c.toInt.toNat % 256 : Nat) : Int)
 omega
theorem own_or (q r : Nat) (hq : q < 256) (hr : r < 256) : (Int32.ofNat r ||| Int32.ofNat (q * 256)) = Int32.ofNat (q * 256 + r) := by
 apply Int32.toBitVec_inj.mp
 apply BitVec.eq_of_toNat_eq
 have e := Nat.shiftLeft_add_eq_or_of_lt (b := r) (i := 8) (by omega) q
 rw [Nat.shiftLeft_eq] at e
 simp only [Int32.toBitVec_or, Int32.toBitVec_ofNat', BitVec.toNat_or, BitVec.toNat_ofNat]
 rw [Nat.mod_eq_of_lt (by omega), Nat.mod_eq_of_lt (by omega), Nat.mod_eq_of_lt (by omega), Nat.or_comm]
 exact e.symm
theorem own_lo (q r : Fin 256) : (Int32.ofNat (q.val * 256 + r.val)).toInt8 = Int8.ofNat r.val := by
 apply Int8.toBitVec_inj.mp
 apply BitVec.eq_of_toNat_eq
 simp
theorem own_hi (q r : Fin 256) : (Int32.ofNat (q.val * 256 + r.val)) >>> ((8 : Int32) &&& 31) = Int32.ofNat q.val := by
 apply Int32.toInt_inj.mp
 have h := c_ishr (Int32.ofNat (q.val * 256 + r.val)) 8 8 (by decide)
 rw [h, Int32.toInt_ofNat_of_lt (by omega), Int32.toInt_ofNat_of_lt (by omega)]
 omega
theorem own_lo2 (q : Fin 256) : ((Int32.ofNat q.val).toInt8.toInt32 &&& 255) <<< ((8 : Int32) &&& 31) = Int32.ofNat (q.val * 256) := by revert q; decide +kernel
theorem own_lo1 (r : Fin 256) : ((Int8.ofNat r.val).toInt32 &&& 255) = Int32.ofNat r.val := by revert r; decide +kernel
theorem own_ci {c : Int32} (h : 0 ≤ c.toInt ∧ c.toInt ≤ 65535) : c.toUInt32.toUInt16.toUInt32.toInt32 = c := by
 apply Int32.toBitVec_inj.mp
 apply BitVec.eq_of_toNat_eq
 have e : c.toBitVec.toNat < 65536 := by
  have h1 := h.1; have h2 := h.2
  have : c.toInt = c.toBitVec.toInt := rfl
  rw [this, BitVec.toInt_eq_toNat_cond] at h1 h2
  split at h1 <;> omega
 have e2 : c.toUInt32.toUInt16.toUInt32.toInt32.toBitVec.toNat = c.toBitVec.toNat % 65536 := by
  first | rfl | (simp; done) | (simp; rfl) | (show (c.toUInt32.toUInt16).toUInt32.toNat = _; simp; rfl)
 rw [e2]; omega
theorem own_gc {c : Int32} (h : 0 ≤ c.toInt ∧ c.toInt ≤ 65535) : nar .char (((c.toInt8.toInt32 &&& 255) ||| (((c >>> ((8 : Int32) &&& 31)).toInt8.toInt32 &&& 255) <<< ((8 : Int32) &&& 31))).toUInt32.toUInt16.toUInt32.toInt32) = c := by
 have hci := own_ci h
 have hci' : nar .char c = c := hci
 obtain ⟨q, r, rfl⟩ := own_two h
 rw [own_hi, own_lo2, own_lo, own_lo1, own_or _ _ q.2 r.2, hci, hci']
theorem own_nc2 {c : Int32} (h : 0 ≤ c.toInt ∧ c.toInt ≤ 65535) : nar .char c = c := own_ci h
abbrev own_H (c : Int32) : Prop := 55296 ≤ c.toInt ∧ c.toInt ≤ 56319
abbrev own_L (c : Int32) : Prop := 56320 ≤ c.toInt ∧ c.toInt ≤ 57343
abbrev own_ok (c : Int32) : Prop := c.toInt = 9 ∨ c.toInt = 10 ∨ c.toInt = 13 ∨ (32 ≤ c.toInt ∧ c.toInt < 55296) ∨ (57344 ≤ c.toInt ∧ c.toInt ≤ 65533)
abbrev own_X (c : Int32) : Prop := c.toInt = 9 ∨ c.toInt = 10 ∨ c.toInt = 13 ∨ (32 ≤ c.toInt ∧ c.toInt ≤ 55295) ∨ (57344 ≤ c.toInt ∧ c.toInt ≤ 65533) ∨ (65536 ≤ c.toInt ∧ c.toInt ≤ 1114111)
abbrev own_tp (x y : Int32) : Int32 := (x <<< ((10 : Int32) &&& 31)) + y + (-56613888 : Int32)
def own_fc : List Int32 → Int32
  | [] => -1
  | [c] => if own_ok c then -1 else c
  | c :: d :: r => if own_H c ∧ own_L d then own_fc r else if own_ok c then own_fc (d :: r) else c
theorem own_fok1 {c : Int32} (h : own_ok c) : own_fc [c] = own_fc [] := by simp only [own_fc]; rw [if_pos h]
theorem own_fbad1 {c : Int32} (h : ¬ own_ok c) : own_fc [c] = c := by simp only [own_fc]; rw [if_neg h]
theorem own_fok {c d : Int32} {r : List Int32} (hn : ¬ (own_H c ∧ own_L d)) (h : own_ok c) : own_fc (c :: d :: r) = own_fc (d :: r) := by rw [own_fc, if_neg hn, if_pos h]
theorem own_fbad {c d : Int32} {r : List Int32} (hn : ¬ (own_H c ∧ own_L d)) (h : ¬ own_ok c) : own_fc (c :: d :: r) = c := by rw [own_fc, if_neg hn, if_neg h]
theorem own_fpair {c d : Int32} {r : List Int32} (h1 : own_H c) (h2 : own_L d) : own_fc (c :: d :: r) = own_fc r := by rw [own_fc, if_pos ⟨h1, h2⟩]
theorem own_i1 {c n : Int32} {N : Int} (h : c < n) (e : n.toInt = N) : c.toInt < N := by rw [Int32.lt_iff_toInt_lt] at h; omega
theorem own_i2 {c n : Int32} {N : Int} (h : ¬ c < n) (e : n.toInt = N) : N ≤ c.toInt := by rw [Int32.lt_iff_toInt_lt] at h; omega
theorem own_i3 {c n : Int32} {N : Int} (h : n < c) (e : n.toInt = N) : N < c.toInt := by rw [Int32.lt_iff_toInt_lt] at h; omega
theorem own_i4 {c n : Int32} {N : Int} (h : ¬ n < c) (e : n.toInt = N) : c.toInt ≤ N := by rw [Int32.lt_iff_toInt_lt] at h; omega
theorem own_i5 {c n : Int32} {N : Int} (h : c = n) (e : n.toInt = N) : c.toInt = N := by rw [h]; exact e
theorem own_i6 {c n : Int32} {N : Int} (h : ¬ c = n) (e : n.toInt = N) : c.toInt ≠ N := fun q => h (Int32.toInt_inj.mp (q.trans e.symm))
theorem own_b0 {r : Int32} {P : Prop} (h : (r = 1 ∧ P) ∨ (r = 0 ∧ ¬ P)) (q : r = 0) : ¬ P := by
  rcases h with ⟨h, -⟩ | ⟨-, h⟩
  · rw [h] at q; exact absurd q (by decide)
  · exact h
theorem own_b1 {r : Int32} {P : Prop} (h : (r = 1 ∧ P) ∨ (r = 0 ∧ ¬ P)) (q : ¬ r = 0) : P := by
  rcases h with ⟨-, h⟩ | ⟨h, -⟩
  · exact h
  · exact absurd h q
theorem own_sm {c : Int32} (h : 0 ≤ c.toInt ∧ c.toInt ≤ 65535) (q : ¬ 255 < c) : 0 ≤ c.toInt ∧ c.toInt ≤ 255 := ⟨h.1, own_i4 q (by decide)⟩
theorem own_chL {c : Int32} (h : 0 ≤ c.toInt ∧ c.toInt ≤ 65535) (q : ¬ 255 < c) : (c.toInt8.toInt32 &&& 255) = c := by
 obtain ⟨n, rfl⟩ := own_byte (own_sm h q)
 clear h q; revert n; decide +kernel
theorem own_nH {c d : Int32} (q : ¬ 255 < c) : ¬ (own_H c ∧ own_L d) := by
 have := own_i4 q (show (255 : Int32).toInt = 255 by decide)
 rintro ⟨⟨h, -⟩, -⟩; omega
theorem own_nHb {c d : Int32} (q : c.toInt < 55296) : ¬ (own_H c ∧ own_L d) := by rintro ⟨⟨h, -⟩, -⟩; omega
theorem own_okb {c : Int32} (h : 32 ≤ c.toInt) (q : c.toInt < 55296) : own_ok c := by unfold own_ok; omega
theorem own_kx {c : Int32} (h : 0 ≤ c.toInt ∧ c.toInt ≤ 65535) (q : ¬ own_X c) : ¬ own_ok c := by unfold own_X at q; unfold own_ok; omega
theorem own_xk {c : Int32} (h : 0 ≤ c.toInt ∧ c.toInt ≤ 65535) (q : own_X c) : own_ok c := by unfold own_X at q; unfold own_ok; omega
theorem own_nn {c : Int32} (h : 0 ≤ c.toInt ∧ c.toInt ≤ 65535) : ¬ c < 0 := by
 intro q
 have := own_i1 q (show (0 : Int32).toInt = 0 by decide)
 omega
theorem own_tpi {c d : Int32} (h1 : own_H c) (h2 : own_L d) : (own_tp c d).toInt = c.toInt * 1024 + d.toInt - 56613888 := by
 obtain ⟨a1, a2⟩ := h1; obtain ⟨b1, b2⟩ := h2
 have e := c_ishl c 10 10 (by decide)
 have e2 : ((2 : Nat) ^ 10 : Nat) = 1024 := by decide
 rw [e2] at e
 have l1 := (c <<< ((10 : Int32) &&& 31)).le_toInt
 have l2 := (c <<< ((10 : Int32) &&& 31)).toInt_lt
 have hs : (c <<< ((10 : Int32) &&& 31)).toInt = c.toInt * 1024 := by omega
 have en : (-56613888 : Int32).toInt = -56613888 := by decide
 have h3 : ((c <<< ((10 : Int32) &&& 31)) + d).toInt = c.toInt * 1024 + d.toInt := by rw [Int32.toInt_add, hs, Int.bmod_eq_of_le] <;> omega
 show ((c <<< ((10 : Int32) &&& 31)) + d + (-56613888 : Int32)).toInt = _
 rw [Int32.toInt_add, h3, en, Int.bmod_eq_of_le] <;> omega
theorem own_tpb {c d : Int32} (h1 : own_H c) (h2 : own_L d) : 65536 ≤ (own_tp c d).toInt := by
 rw [own_tpi h1 h2]; obtain ⟨a1, a2⟩ := h1; obtain ⟨b1, b2⟩ := h2; omega
theorem own_xtp {c d : Int32} (h1 : own_H c) (h2 : own_L d) : own_X (own_tp c d) := by
 have e := own_tpi h1 h2; obtain ⟨a1, a2⟩ := h1; obtain ⟨b1, b2⟩ := h2
 unfold own_X; rw [e]; omega
theorem own_cc1 {r c : Int32} (h : (r = 1 ∧ c.toInt < 65536) ∨ (r = 2 ∧ 65536 ≤ c.toInt)) (hc : 0 ≤ c.toInt ∧ c.toInt ≤ 65535) : r = 1 := by
  rcases h with ⟨h, -⟩ | ⟨-, h⟩
  · exact h
  · omega
theorem own_cc2 {r c : Int32} (h : (r = 1 ∧ c.toInt < 65536) ∨ (r = 2 ∧ 65536 ≤ c.toInt)) (hc : 65536 ≤ c.toInt) : r = 2 := by
  rcases h with ⟨-, h⟩ | ⟨h, -⟩
  · omega
  · exact h
theorem own_chr (x : Int32) : 0 ≤ (nar .char x).toInt ∧ (nar .char x).toInt ≤ 65535 := by
 have e2 : (nar .char x).toBitVec.toNat = x.toBitVec.toNat % 65536 := by
  show x.toUInt32.toUInt16.toUInt32.toInt32.toBitVec.toNat = x.toBitVec.toNat % 65536
  first | rfl | (simp; done) | (simp; rfl) | (show (x.toUInt32.toUInt16).toUInt32.toNat = _; simp; rfl)
 have e3 : (nar .char x).toInt = (nar .char x).toBitVec.toInt := rfl
 rw [e3, BitVec.toInt_eq_toNat_cond, e2]
 split <;> omega
theorem own_and3 {x z : Int32} (h : z = x &&& 3) : z = 0 ∨ z = 1 ∨ z = 2 ∨ z = 3 := by
  have h1 := c_and x 3 (by decide)
  rw [← h] at h1
  have e3 : (3 : Int32).toInt = 3 := by decide
  have q : z.toInt = 0 ∨ z.toInt = 1 ∨ z.toInt = 2 ∨ z.toInt = 3 := by omega
  rcases q with q | q | q | q
  · exact Or.inl (Int32.toInt_inj.mp q)
  · exact Or.inr (Or.inl (Int32.toInt_inj.mp q))
  · exact Or.inr (Or.inr (Or.inl (Int32.toInt_inj.mp q)))
  · exact Or.inr (Or.inr (Or.inr (Int32.toInt_inj.mp q)))
theorem own_p1 {P : Prop} {r a b : Int32} (h : (P ∧ r = a) ∨ (¬ P ∧ r = b)) (p : P) : r = a := by
  rcases h with ⟨-, h⟩ | ⟨h, -⟩
  · exact h
  · exact absurd p h
theorem own_p0 {P : Prop} {r a b : Int32} (h : (P ∧ r = a) ∨ (¬ P ∧ r = b)) (p : ¬ P) : r = b := by
  rcases h with ⟨h, -⟩ | ⟨-, h⟩
  · exact absurd h p
  · exact h
theorem own_held {tb : Tables} {e : Env} {args : Array Value} {s : State} (h : call_1_1 tb e args s) : ∀ p ∈ own_EL, Jvm.Lit.constHeld s p.1 p.2 := fun p hp => h p ((by decide : ∀ p ∈ own_EL, p ∈ consts_1) p hp)
theorem rm_pc_1_0 (l : Launch) (Z : State) (a0 : Array Value) (hw : HW a0 Z) (ba : Addr) (kb : ClassId) (cx v0 v1 : Int32) (h0 : Heap) (n0 : Nat) (O : Old Z n0 h0) (V_ba : Arv Z h0 ba kb .byte (2 : Int32) [(.int v0), (.int v1)] (.int 0)) (S__assertionsDisabled : Sta Z Z.heap "java/lang/StringUTF16" "$assertionsDisabled" "Z" (.int 1)) (S_HI_BYTE_SHIFT : Sta Z Z.heap "java/lang/StringUTF16" "HI_BYTE_SHIFT" "I" (.int 0)) (S_LO_BYTE_SHIFT : Sta Z Z.heap "java/lang/StringUTF16" "LO_BYTE_SHIFT" "I" (.int 8)) (g_ba : n0 ≤ ba) :
  Con l Z (⟨"java/lang/StringUTF16", "putChar", "([BII)V"⟩ : MethodName) jdk_52_method_4_code 3 none ({ frames := 0, cells := 0, slots := 0, locals := 0 } : Room) #[(.ref ba), (.int 0), (.int cx)] h0 (fun v h L => v = none ∧ Fr n0 L ∧ Keep h0 h [ba] ∧ Arv Z h ba kb .byte (2 : Int32) [(.int cx.toInt8.toInt32), (.int (cx >>> ((8 : Int32) &&& 31)).toInt8.toInt32)] (.int 0)) := by
 refine own_startC opn_27 ?_
 intro p e s m below meth c T0 X0 hx hby hml hZ hown hnm hret hlk e0
 have N := Fr.nil n0; have K := Keep.refl h0 [ba]
 refine OG.cast (oef0 m ba (0 : Int32) cx) ?_
 refine og_getstatic X0 hx hZ (host := "") hown (Or.inl (ow121 hw)) Via.refl e0 (S__assertionsDisabled.ext O.2) (hb hby d27_0) rfl (fun T11 X11 e11 => ?_)
 refine og_if_ne (pc1 := 28) (pc2 := 6) X11 hx (hb hby d27_3) (by decide) (by decide) rfl (fun _ => ?_) (fun q => absurd q (by decide))
 refine og_iloadN X11 hx rfl (hb hby d27_28) rfl ?_
 refine og_iconst (v := 1) X11 hx rfl (hb hby d27_29) rfl ?_
 refine og_ishl X11 hx (hb hby d27_30) rfl ?_
 show OG p e below _ (T11.setTop (mkF m 31 #[.val (.ref ba), .val (.int 0), .val (.int cx)] [(.int 0)]))
 refine og_istoreN (L' := #[.val (.ref ba), .val (.int 0), .val (.int cx)]) X11 hx rfl (hb hby d27_31) rfl ?_
 refine og_aloadN X11 hx rfl rfl (hb hby d27_32) rfl ?_
 refine og_iloadN X11 hx rfl (hb hby d27_33) rfl ?_
 refine og_iinc (L' := #[.val (.ref ba), .val (.int 1), .val (.int cx)]) (w := 1) X11 hx rfl rfl rfl (hb hby d27_34) rfl ?_
 refine og_iloadN X11 hx rfl (hb hby d27_37) rfl ?_
 refine og_getstatic X11 hx hZ (host := "") hown (Or.inl (ow122 hw)) Via.refl e11 (S_HI_BYTE_SHIFT.ext O.2) (hb hby d27_38) rfl (fun T12 X12 e12 => ?_)
 refine og_ishr X12 hx (hb hby d27_41) rfl ?_
 rw [own_shr0]
 refine og_i2b X12 hx (hb hby d27_42) rfl ?_
 refine og_bastore X12 hx hZ e12 V_ba ⟨by decide, by decide⟩ 0 (by decide) (Nat.le_of_ble_eq_true rfl) (hb hby d27_43) rfl (fun T13 h13 X13 e13 W13 V13 => ?_)
 have O := O.wr W13 g_ba; have K := K.wr W13 (Or.inl (List.mem_of_getElem? (i := 0) rfl))
 have N := Fr.snoc X13 N g_ba
 have V_ba : Arv Z h13 ba kb .byte (2 : Int32) [(.int (nar .byte (cx.toInt8.toInt32))), (.int v1)] (.int 0) := V13
 rw [own_nb] at V_ba
 refine og_aloadN X13 hx rfl rfl (hb hby d27_44) rfl ?_
 refine og_iloadN X13 hx rfl (hb hby d27_45) rfl ?_
 refine og_iloadN X13 hx rfl (hb hby d27_46) rfl ?_
 refine og_getstatic X13 hx hZ (host := "") hown (Or.inl (ow123 hw)) Via.refl e13 (S_LO_BYTE_SHIFT.ext O.2) (hb hby d27_47) rfl (fun T14 X14 e14 => ?_)
 refine og_ishr X14 hx (hb hby d27_50) rfl ?_
 refine og_i2b X14 hx (hb hby d27_51) rfl ?_
 refine og_bastore X14 hx hZ e14 V_ba ⟨by decide, by decide⟩ 1 (by decide) (Nat.le_of_ble_eq_true rfl) (hb hby d27_52) rfl (fun T15 h15 X15 e15 W15 V15 => ?_)
 have O := O.wr W15 g_ba; have K := K.wr W15 (Or.inl (List.mem_of_getElem? (i := 0) rfl))
 have N := Fr.snoc X15 N g_ba
 have V_ba : Arv Z h15 ba kb .byte (2 : Int32) [(.int cx.toInt8.toInt32), (.int (nar .byte ((cx >>> ((8 : Int32) &&& 31)).toInt8.toInt32)))] (.int 0) := V15
 rw [own_nb] at V_ba
 refine og_retV X15 hx hlk hret (hb hby d27_53) (by decide) (by decide) ?_
 rw [e15]; exact ⟨rfl, N, K, V_ba⟩
theorem rm_nbl1 (l : Launch) (Z : State) (a0 : Array Value) (hw : HW a0 Z)  (h0 : Heap) (n0 : Nat) (O : Old Z n0 h0) :
  Con l Z (⟨"java/lang/StringUTF16", "newBytesLength", "(I)I"⟩ : MethodName) jdk_52_method_3_code 1 (some .int) ({ frames := 0, cells := 0, slots := 0, locals := 0 } : Room) #[(.int 1)] h0 (fun v h L => v = some (.int 2) ∧ Fr n0 L ∧ h = h0) := by
 refine own_startC opn_26 ?_
 intro p e s m below meth c T0 X0 hx hby hml hZ hown hnm hret hlk e0
 have N := Fr.nil n0; have K := Keep.refl h0 []
 refine OG.cast (oef1 m (1 : Int32)) ?_
 refine og_iloadN X0 hx rfl (hb hby d26_0) rfl ?_
 refine og_if_ge (pc1 := 12) (pc2 := 4) X0 hx (hb hby d26_1) (by decide) (by decide) rfl (fun _ => ?_) (fun q => absurd q (by decide))
 refine og_iloadN X0 hx rfl (hb hby d26_12) rfl ?_
 refine og_ldc X0 hx hZ hown (ow117 hw) (hb hby d26_13) rfl ?_
 refine og_icmp_lt (pc1 := 55) (pc2 := 18) X0 hx (hb hby d26_15) (by decide) (by decide) rfl (fun _ => ?_) (fun q => absurd q (by decide))
 refine og_iloadN X0 hx rfl (hb hby d26_55) rfl ?_
 refine og_iconst (v := 1) X0 hx rfl (hb hby d26_56) rfl ?_
 refine og_ishl X0 hx (hb hby d26_57) rfl ?_
 show OG p e below _ (T0.setTop (mkF m 58 #[.val (.int 1)] [(.int 2)]))
 refine og_retI X0 hx hlk hret (hb hby d26_58) (by decide) (by decide) ?_
 rw [e0]; exact ⟨rfl, N, rfl⟩
theorem rm_nbf1 (l : Launch) (Z : State) (a0 : Array Value) (hw : HW a0 Z)  (h0 : Heap) (n0 : Nat) (O : Old Z n0 h0) :
  Con l Z (⟨"java/lang/StringUTF16", "newBytesFor", "(I)[B"⟩ : MethodName) jdk_52_method_2_code 1 (some (.array .byte)) ({ frames := 1, cells := 1, slots := 2, locals := 12 } : Room) #[(.int 1)] h0 (fun v h L => ∃ b k, v = some (.ref b) ∧ Fr n0 L ∧ Keep h0 h [] ∧ h0.size ≤ b ∧ Arv Z h b k .byte (2 : Int32) [(.int 0), (.int 0)] (.int 0)) := by
 refine own_startC opn_25 ?_
 intro p e s m below meth c T0 X0 hx hby hml hZ hown hnm hret hlk e0
 have N := Fr.nil n0; have K := Keep.refl h0 []
 refine OG.cast (oef1 m (1 : Int32)) ?_
 refine og_iloadN X0 hx rfl (hb hby d25_0) rfl ?_
 refine og_static (pc' := 4) (cells' := 0) (slots' := 0) (W := 0) X0 hx hZ (rm_nbl1 l Z a0 hw h0 n0 O) hown (ow114 hw) (ow115 hw) (ow21 hw) (ow116 hw) (by decide) (by rw [hml]; rfl) e0 opd_0 [(.int 1)] [] rfl rfl rfl rfl (by decide) (by decide) rfl rfl (by decide) (by decide) (hb hby d25_1) rfl (fun v11 T11 h11 L11 X11 e11 z11 => ?_)
 obtain ⟨rfl, Nq11, hq11⟩ := z11; replace e11 := e11.trans hq11; have N := Fr.app N Nq11
 refine og_newarray (pc' := 6) (cells' := 1) (slots' := 2) (cap := 2) (ty := .byte) X11 hx hZ rfl (ow23 hw) e11 (by decide) (by decide) (by decide) (hb hby d25_4) rfl rfl rfl (by decide) (by decide) (fun T12 h12 nb12 kA12 X12 e12 E12 q12 V_nb12 => ?_)
 have s_nb12 : h0.size ≤ nb12 := Nat.le_of_eq q12.symm; have g_nb12 : n0 ≤ nb12 := Nat.le_trans (own_n0 O) s_nb12; have sz_nb12 : h0.size ≤ nb12 := Nat.le_trans K.1 s_nb12
 have O := O.ext E12; have K := K.ext E12
 have V_nb12 : Arv Z h12 nb12 kA12 .byte (2 : Int32) [(.int 0), (.int 0)] (.int 0) := V_nb12.pad (pad_rep [] (.int 0) 2)
 refine og_retR X12 hx hlk hret rfl rfl rfl (hb hby d25_6) (by decide) (by decide) ?_
 rw [e12]; exact ⟨_, _, rfl, N, K, sz_nb12, V_nb12⟩
theorem rm_tb1 (l : Launch) (Z : State) (a0 : Array Value) (hw : HW a0 Z) (ca : Addr) (kc : ClassId) (c0 : Int32) (h0 : Heap) (n0 : Nat) (O : Old Z n0 h0) (V_ca : Arv Z h0 ca kc .char (1 : Int32) [(.int c0)] (.int 0)) (S__assertionsDisabled : Sta Z Z.heap "java/lang/StringUTF16" "$assertionsDisabled" "Z" (.int 1)) (S_HI_BYTE_SHIFT : Sta Z Z.heap "java/lang/StringUTF16" "HI_BYTE_SHIFT" "I" (.int 0)) (S_LO_BYTE_SHIFT : Sta Z Z.heap "java/lang/StringUTF16" "LO_BYTE_SHIFT" "I" (.int 8)) :
  Con l Z (⟨"java/lang/StringUTF16", "toBytes", "([CII)[B"⟩ : MethodName) jdk_52_method_14_code 5 (some (.array .byte)) ({ frames := 2, cells := 1, slots := 2, locals := 24 } : Room) #[(.ref ca), (.int 0), (.int 1)] h0 (fun v h L => ∃ b k, v = some (.ref b) ∧ Fr n0 L ∧ Keep h0 h [] ∧ h0.size ≤ b ∧ Arv Z h b k .byte (2 : Int32) [(.int c0.toInt8.toInt32), (.int (c0 >>> ((8 : Int32) &&& 31)).toInt8.toInt32)] (.int 0)) := by
 refine own_startC opn_24 ?_
 intro p e s m below meth c T0 X0 hx hby hml hZ hown hnm hret hlk e0
 have N := Fr.nil n0; have K := Keep.refl h0 []
 refine OG.cast (oef2 m ca (0 : Int32) (1 : Int32)) ?_
 refine og_iloadN X0 hx rfl (hb hby d24_0) rfl ?_
 refine og_static (pc' := 4) (cells' := 1) (slots' := 2) (W := 0) X0 hx hZ (rm_nbf1 l Z a0 hw h0 n0 O) hown (ow111 hw) (ow112 hw) (ow21 hw) (ow113 hw) (by decide) (by rw [hml]; rfl) e0 opd_1 [(.int 1)] [] rfl rfl rfl rfl (by decide) (by decide) rfl rfl (by decide) (by decide) (hb hby d24_1) rfl (fun v11 T11 h11 L11 X11 e11 z11 => ?_)
 obtain ⟨nb11, k11, rfl, Nq11, K11, sb11, V_nb11⟩ := z11; have N := Fr.app N Nq11
 have s_nb11 : h0.size ≤ nb11 := sb11; have g_nb11 : n0 ≤ nb11 := Nat.le_trans (own_n0 O) s_nb11; have sz_nb11 : h0.size ≤ nb11 := Nat.le_trans K.1 s_nb11; have ne_ca_nb11 : ca ≠ nb11 := Nat.ne_of_lt (Nat.lt_of_lt_of_le V_ca.lt s_nb11)
 have V_ca := V_ca.keep K11 nin0; have O := O.keep K11 all0; have K := K.trans K11 all0
 refine og_astoreN (L' := #[.val (.ref ca), .val (.int 0), .val (.int 1), .val (.ref nb11), .unset]) X11 hx rfl rfl (hb hby d24_4) rfl ?_
 refine og_iconst (v := 0) X11 hx rfl (hb hby d24_5) rfl ?_
 refine og_istore (L' := #[.val (.ref ca), .val (.int 0), .val (.int 1), .val (.ref nb11), .val (.int 0)]) X11 hx rfl (hb hby d24_6) rfl ?_
 refine og_iload X11 hx rfl (hb hby d24_8) rfl ?_
 refine og_iloadN X11 hx rfl (hb hby d24_10) rfl ?_
 refine og_icmp_ge (pc1 := 32) (pc2 := 14) X11 hx (hb hby d24_11) (by decide) (by decide) rfl (fun q => absurd q (by decide)) (fun _ => ?_)
 refine og_aloadN X11 hx rfl rfl (hb hby d24_14) rfl ?_
 refine og_iload X11 hx rfl (hb hby d24_15) rfl ?_
 refine og_aloadN X11 hx rfl rfl (hb hby d24_17) rfl ?_
 refine og_iloadN X11 hx rfl (hb hby d24_18) rfl ?_
 refine og_caload (v := (.int c0)) X11 hx hZ e11 V_ca ⟨by decide, by decide⟩ rfl (hb hby d24_19) rfl ?_
 refine og_static (pc' := 23) (cells' := 1) (slots' := 2) (W := 0) X11 hx hZ (rm_pc_1_0 l Z a0 hw nb11 k11 c0 ((0 : Int32)) ((0 : Int32)) h11 n0 O V_nb11 S__assertionsDisabled S_HI_BYTE_SHIFT S_LO_BYTE_SHIFT g_nb11) hown (ow118 hw) (ow119 hw) (ow21 hw) (ow120 hw) (by decide) (by rw [hml]; rfl) e11 opd_2 [(.ref nb11), (.int 0), (.int c0)] [] rfl rfl rfl rfl (by decide) (by decide) rfl rfl (by decide) (by decide) (hb hby d24_20) rfl (fun v12 T12 h12 L12 X12 e12 z12 => ?_)
 obtain ⟨rfl, Nq12, K12, V_nb11'⟩ := z12; have N := Fr.app N Nq12
 have V_ca := V_ca.keep K12 (ninS ne_ca_nb11 nin0); have O := O.keep K12 (allS g_nb11 all0); have K := K.trans K12 (allS (Or.inr sz_nb11) all0)
 have V_nb11 := V_nb11'
 refine og_iinc (L' := #[.val (.ref ca), .val (.int 1), .val (.int 1), .val (.ref nb11), .val (.int 0)]) (w := 1) X12 hx rfl rfl rfl (hb hby d24_23) rfl ?_
 refine og_iinc (L' := #[.val (.ref ca), .val (.int 1), .val (.int 1), .val (.ref nb11), .val (.int 1)]) (w := 1) X12 hx rfl rfl rfl (hb hby d24_26) rfl ?_
 refine og_goto (pc' := 8) X12 hx (hb hby d24_29) (by decide) (by decide) ?_
 refine og_iload X12 hx rfl (hb hby d24_8) rfl ?_
 refine og_iloadN X12 hx rfl (hb hby d24_10) rfl ?_
 refine og_icmp_ge (pc1 := 32) (pc2 := 14) X12 hx (hb hby d24_11) (by decide) (by decide) rfl (fun _ => ?_) (fun q => absurd q (by decide))
 refine og_aloadN X12 hx rfl rfl (hb hby d24_32) rfl ?_
 refine og_retR X12 hx hlk hret rfl rfl rfl (hb hby d24_33) (by decide) (by decide) ?_
 rw [e12]; exact ⟨_, _, rfl, N, K, sz_nb11, V_nb11⟩
theorem rm_gch_1_0 (l : Launch) (Z : State) (a0 : Array Value) (hw : HW a0 Z) (ba : Addr) (kb : ClassId) (c0 : Int32) (hc0 : 0 ≤ c0.toInt ∧ c0.toInt ≤ 65535) (h0 : Heap) (n0 : Nat) (O : Old Z n0 h0) (V_ba : Arv Z h0 ba kb .byte (2 : Int32) [(.int c0.toInt8.toInt32), (.int (c0 >>> ((8 : Int32) &&& 31)).toInt8.toInt32)] (.int 0)) (S__assertionsDisabled : Sta Z Z.heap "java/lang/StringUTF16" "$assertionsDisabled" "Z" (.int 1)) (S_HI_BYTE_SHIFT : Sta Z Z.heap "java/lang/StringUTF16" "HI_BYTE_SHIFT" "I" (.int 0)) (S_LO_BYTE_SHIFT : Sta Z Z.heap "java/lang/StringUTF16" "LO_BYTE_SHIFT" "I" (.int 8)) :
  Con l Z (⟨"java/lang/StringUTF16", "getChar", "([BI)C"⟩ : MethodName) jdk_52_method_5_code 2 (some .char) ({ frames := 0, cells := 0, slots := 0, locals := 0 } : Room) #[(.ref ba), (.int 0)] h0 (fun v h L => v = some (.int c0) ∧ Fr n0 L ∧ h = h0) := by
 refine own_startC opn_28 ?_
 intro p e s m below meth c T0 X0 hx hby hml hZ hown hnm hret hlk e0
 have N := Fr.nil n0; have K := Keep.refl h0 []
 refine OG.cast (oef3 m ba (0 : Int32)) ?_
 refine og_getstatic X0 hx hZ (host := "") hown (Or.inl (ow121 hw)) Via.refl e0 (S__assertionsDisabled.ext O.2) (hb hby d28_0) rfl (fun T11 X11 e11 => ?_)
 refine og_if_ne (pc1 := 28) (pc2 := 6) X11 hx (hb hby d28_3) (by decide) (by decide) rfl (fun _ => ?_) (fun q => absurd q (by decide))
 refine og_iloadN X11 hx rfl (hb hby d28_28) rfl ?_
 refine og_iconst (v := 1) X11 hx rfl (hb hby d28_29) rfl ?_
 refine og_ishl X11 hx (hb hby d28_30) rfl ?_
 show OG p e below _ (T11.setTop (mkF m 31 #[.val (.ref ba), .val (.int 0)] [(.int 0)]))
 refine og_istoreN (L' := #[.val (.ref ba), .val (.int 0)]) X11 hx rfl (hb hby d28_31) rfl ?_
 refine og_aloadN X11 hx rfl rfl (hb hby d28_32) rfl ?_
 refine og_iloadN X11 hx rfl (hb hby d28_33) rfl ?_
 refine og_iinc (L' := #[.val (.ref ba), .val (.int 1)]) (w := 1) X11 hx rfl rfl rfl (hb hby d28_34) rfl ?_
 refine og_baload (v := (.int c0.toInt8.toInt32)) X11 hx hZ e11 V_ba ⟨by decide, by decide⟩ rfl (hb hby d28_37) rfl ?_
 refine og_sipush (v := 255) X11 hx rfl (hb hby d28_38) rfl ?_
 refine og_iand X11 hx (hb hby d28_41) rfl ?_
 refine og_getstatic X11 hx hZ (host := "") hown (Or.inl (ow122 hw)) Via.refl e11 (S_HI_BYTE_SHIFT.ext O.2) (hb hby d28_42) rfl (fun T12 X12 e12 => ?_)
 refine og_ishl X12 hx (hb hby d28_45) rfl ?_
 rw [own_shl0]
 refine og_aloadN X12 hx rfl rfl (hb hby d28_46) rfl ?_
 refine og_iloadN X12 hx rfl (hb hby d28_47) rfl ?_
 refine og_baload (v := (.int (c0 >>> ((8 : Int32) &&& 31)).toInt8.toInt32)) X12 hx hZ e12 V_ba ⟨by decide, by decide⟩ rfl (hb hby d28_48) rfl ?_
 refine og_sipush (v := 255) X12 hx rfl (hb hby d28_49) rfl ?_
 refine og_iand X12 hx (hb hby d28_52) rfl ?_
 refine og_getstatic X12 hx hZ (host := "") hown (Or.inl (ow123 hw)) Via.refl e12 (S_LO_BYTE_SHIFT.ext O.2) (hb hby d28_53) rfl (fun T13 X13 e13 => ?_)
 refine og_ishl X13 hx (hb hby d28_56) rfl ?_
 refine og_ior X13 hx (hb hby d28_57) rfl ?_
 refine og_i2c X13 hx (hb hby d28_58) rfl ?_
 refine og_retN X13 hx hlk hret (by simp) (hb hby d28_59) (by decide) (by decide) ?_
 rw [e13, own_gc hc0]; exact ⟨rfl, N, rfl⟩
theorem rm_ug1 (l : Launch) (Z : State) (a0 : Array Value) (hw : HW a0 Z) (ca ba : Addr) (kc kb : ClassId) (c0 : Int32) (h0 : Heap) (n0 : Nat) (O : Old Z n0 h0) (V_ca : Arv Z h0 ca kc .char (1 : Int32) [(.int c0)] (.int 0)) (V_ba : Arv Z h0 ba kb .byte (1 : Int32) [(.int 0)] (.int 0)) (g_ba : n0 ≤ ba) (ne_ca_ba : ca ≠ ba) :
  Con l Z (⟨"java/lang/StringUTF16", "compress", "([CI[BII)I"⟩ : MethodName) jdk_52_method_21_code 7 (some .int) ({ frames := 0, cells := 0, slots := 0, locals := 0 } : Room) #[(.ref ca), (.int 0), (.ref ba), (.int 0), (.int 1)] h0 (fun v h L => ∃ (jj : Int32) (vs' : List Value), v = some (.int jj) ∧ Fr n0 L ∧ Keep h0 h [ba] ∧ Arv Z h ba kb .byte (1 : Int32) vs' (.int 0) ∧ ((jj = 1 ∧ vs' = [(.int c0.toInt8.toInt32)] ∧ ¬ 255 < c0) ∨ (jj = 0 ∧ 255 < c0))) := by
 refine own_startC opn_6 ?_
 intro p e s m below meth c T0 X0 hx hby hml hZ hown hnm hret hlk e0
 have N := Fr.nil n0; have K := Keep.refl h0 [ba]
 refine OG.cast (oef4 m ca (0 : Int32) ba (0 : Int32) (1 : Int32)) ?_
 refine og_iconst (v := 0) X0 hx rfl (hb hby d6_0) rfl ?_
 refine og_istore (L' := #[.val (.ref ca), .val (.int 0), .val (.ref ba), .val (.int 0), .val (.int 1), .val (.int 0), .unset]) X0 hx rfl (hb hby d6_1) rfl ?_
 refine og_iload X0 hx rfl (hb hby d6_3) rfl ?_
 refine og_iload X0 hx rfl (hb hby d6_5) rfl ?_
 refine og_icmp_ge (pc1 := 44) (pc2 := 10) X0 hx (hb hby d6_7) (by decide) (by decide) rfl (fun q => absurd q (by decide)) (fun _ => ?_)
 refine og_aloadN X0 hx rfl rfl (hb hby d6_10) rfl ?_
 refine og_iloadN X0 hx rfl (hb hby d6_11) rfl ?_
 refine og_caload (v := (.int c0)) X0 hx hZ e0 V_ca ⟨by decide, by decide⟩ rfl (hb hby d6_12) rfl ?_
 refine og_istore (L' := #[.val (.ref ca), .val (.int 0), .val (.ref ba), .val (.int 0), .val (.int 1), .val (.int 0), .val (.int c0)]) X0 hx rfl (hb hby d6_13) rfl ?_
 refine og_iload X0 hx rfl (hb hby d6_15) rfl ?_
 refine og_sipush (v := 255) X0 hx rfl (hb hby d6_17) rfl ?_
 refine og_icmp_le (pc1 := 26) (pc2 := 23) X0 hx (hb hby d6_20) (by decide) (by decide) rfl (fun hc20 => ?_) (fun hc20 => ?_)
 ·
  have hq0 := hc20
  refine og_aloadN X0 hx rfl rfl (hb hby d6_26) rfl ?_
  refine og_iloadN X0 hx rfl (hb hby d6_27) rfl ?_
  refine og_iload X0 hx rfl (hb hby d6_28) rfl ?_
  refine og_i2b X0 hx (hb hby d6_30) rfl ?_
  refine og_bastore X0 hx hZ e0 V_ba ⟨by decide, by decide⟩ 0 (by decide) (Nat.le_of_ble_eq_true rfl) (hb hby d6_31) rfl (fun T11 h11 X11 e11 W11 V11 => ?_)
  have V_ca := V_ca.other W11 ne_ca_ba; have O := O.wr W11 g_ba; have K := K.wr W11 (Or.inl (List.mem_of_getElem? (i := 0) rfl))
  have N := Fr.snoc X11 N g_ba
  have V_ba : Arv Z h11 ba kb .byte (1 : Int32) [(.int (nar .byte (c0.toInt8.toInt32)))] (.int 0) := V11
  rw [own_nb] at V_ba
  refine og_iinc (L' := #[.val (.ref ca), .val (.int 1), .val (.ref ba), .val (.int 0), .val (.int 1), .val (.int 0), .val (.int c0)]) (w := 1) X11 hx rfl rfl rfl (hb hby d6_32) rfl ?_
  refine og_iinc (L' := #[.val (.ref ca), .val (.int 1), .val (.ref ba), .val (.int 1), .val (.int 1), .val (.int 0), .val (.int c0)]) (w := 1) X11 hx rfl rfl rfl (hb hby d6_35) rfl ?_
  refine og_iinc (L' := #[.val (.ref ca), .val (.int 1), .val (.ref ba), .val (.int 1), .val (.int 1), .val (.int 1), .val (.int c0)]) (w := 1) X11 hx rfl rfl rfl (hb hby d6_38) rfl ?_
  refine og_goto (pc' := 3) X11 hx (hb hby d6_41) (by decide) (by decide) ?_
  refine og_iload X11 hx rfl (hb hby d6_3) rfl ?_
  refine og_iload X11 hx rfl (hb hby d6_5) rfl ?_
  refine og_icmp_ge (pc1 := 44) (pc2 := 10) X11 hx (hb hby d6_7) (by decide) (by decide) rfl (fun _ => ?_) (fun q => absurd q (by decide))
  refine og_iload X11 hx rfl (hb hby d6_44) rfl ?_
  refine og_retI X11 hx hlk hret (hb hby d6_46) (by decide) (by decide) ?_
  rw [e11]; exact ⟨_, _, rfl, N, K, V_ba, Or.inl ⟨rfl, rfl, hq0⟩⟩
 ·
  have hq0 := hc20
  refine og_iload X0 hx rfl (hb hby d6_23) rfl ?_
  refine og_retI X0 hx hlk hret (hb hby d6_25) (by decide) (by decide) ?_
  rw [e0]; exact ⟨_, _, rfl, N, K, V_ba, Or.inr (⟨rfl, hq0⟩)⟩
theorem rm_uc1 (l : Launch) (Z : State) (a0 : Array Value) (hw : HW a0 Z) (ca : Addr) (kc : ClassId) (c0 : Int32) (hc0 : 0 ≤ c0.toInt ∧ c0.toInt ≤ 65535) (h0 : Heap) (n0 : Nat) (O : Old Z n0 h0) (V_ca : Arv Z h0 ca kc .char (1 : Int32) [(.int c0)] (.int 0)) (S__assertionsDisabled : Sta Z Z.heap "java/lang/StringUTF16" "$assertionsDisabled" "Z" (.int 1)) (S_HI_BYTE_SHIFT : Sta Z Z.heap "java/lang/StringUTF16" "HI_BYTE_SHIFT" "I" (.int 0)) (S_LO_BYTE_SHIFT : Sta Z Z.heap "java/lang/StringUTF16" "LO_BYTE_SHIFT" "I" (.int 8)) :
  Con l Z (⟨"java/lang/StringUTF16", "compress", "([CII)[B"⟩ : MethodName) jdk_52_method_16_code 6 (some (.array .byte)) ({ frames := 3, cells := 2, slots := 3, locals := 40 } : Room) #[(.ref ca), (.int 0), (.int 1)] h0 (fun v h L => ∃ b k, v = some (.ref b) ∧ Fr n0 L ∧ Keep h0 h [] ∧ h0.size ≤ b ∧ ((Arv Z h b k .byte (1 : Int32) [(.int c0.toInt8.toInt32)] (.int 0) ∧ ¬ 255 < c0) ∨ (Arv Z h b k .byte (2 : Int32) [(.int c0.toInt8.toInt32), (.int (c0 >>> ((8 : Int32) &&& 31)).toInt8.toInt32)] (.int 0) ∧ ¬ (¬ 255 < c0)))) := by
 refine own_startC opn_5 ?_
 intro p e s m below meth c T0 X0 hx hby hml hZ hown hnm hret hlk e0
 have N := Fr.nil n0; have K := Keep.refl h0 []
 refine OG.cast (oef5 m ca (0 : Int32) (1 : Int32)) ?_
 refine og_iloadN X0 hx rfl (hb hby d5_0) rfl ?_
 refine og_newarray (pc' := 3) (cells' := 1) (slots' := 1) (cap := 1) (ty := .byte) X0 hx hZ rfl (ow23 hw) e0 (by decide) (by decide) (by decide) (hb hby d5_1) rfl rfl rfl (by decide) (by decide) (fun T11 h11 nb11 kA11 X11 e11 E11 q11 V_nb11 => ?_)
 have s_nb11 : h0.size ≤ nb11 := Nat.le_of_eq q11.symm; have g_nb11 : n0 ≤ nb11 := Nat.le_trans (own_n0 O) s_nb11; have sz_nb11 : h0.size ≤ nb11 := Nat.le_trans K.1 s_nb11; have ne_ca_nb11 : ca ≠ nb11 := Nat.ne_of_lt (Nat.lt_of_lt_of_le V_ca.lt s_nb11)
 have V_ca := V_ca.ext E11; have O := O.ext E11; have K := K.ext E11
 have V_nb11 : Arv Z h11 nb11 kA11 .byte (1 : Int32) [(.int 0)] (.int 0) := V_nb11.pad (pad_rep [] (.int 0) 1)
 refine og_astoreN (L' := #[.val (.ref ca), .val (.int 0), .val (.int 1), .val (.ref nb11), .unset, .unset]) X11 hx rfl rfl (hb hby d5_3) rfl ?_
 refine og_aloadN X11 hx rfl rfl (hb hby d5_4) rfl ?_
 refine og_iloadN X11 hx rfl (hb hby d5_5) rfl ?_
 refine og_aloadN X11 hx rfl rfl (hb hby d5_6) rfl ?_
 refine og_iconst (v := 0) X11 hx rfl (hb hby d5_7) rfl ?_
 refine og_iloadN X11 hx rfl (hb hby d5_8) rfl ?_
 refine og_static (pc' := 12) (cells' := 1) (slots' := 1) (W := 0) X11 hx hZ (rm_ug1 l Z a0 hw ca nb11 kc kA11 c0 h11 n0 O V_ca V_nb11 g_nb11 ne_ca_nb11) hown (ow24 hw) (ow25 hw) (ow21 hw) (ow26 hw) (by decide) (by rw [hml]; rfl) e11 opd_3 [(.ref ca), (.int 0), (.ref nb11), (.int 0), (.int 1)] [] rfl rfl rfl rfl (by decide) (by decide) rfl rfl (by decide) (by decide) (hb hby d5_9) rfl (fun v12 T12 h12 L12 X12 e12 z12 => ?_)
 obtain ⟨jj, vs', rfl, Nq12, K12, V_nb11', hj⟩ := z12; have N := Fr.app N Nq12
 have V_ca := V_ca.keep K12 (ninS ne_ca_nb11 nin0); have O := O.keep K12 (allS g_nb11 all0); have K := K.trans K12 (allS (Or.inr sz_nb11) all0)
 have V_nb11 := V_nb11'
 rcases hj with ⟨rfl, rfl, hs0⟩ | ⟨rfl, hbig⟩
 ·
  refine og_istore (L' := #[.val (.ref ca), .val (.int 0), .val (.int 1), .val (.ref nb11), .val (.int 1), .unset]) X12 hx rfl (hb hby d5_12) rfl ?_
  refine og_iload X12 hx rfl (hb hby d5_14) rfl ?_
  refine og_iloadN X12 hx rfl (hb hby d5_16) rfl ?_
  refine og_icmp_eq (pc1 := 57) (pc2 := 20) X12 hx (hb hby d5_17) (by decide) (by decide) rfl (fun _ => ?_) (fun q => absurd q (by decide))
  refine og_aloadN X12 hx rfl rfl (hb hby d5_57) rfl ?_
  refine og_retR X12 hx hlk hret rfl rfl rfl (hb hby d5_58) (by decide) (by decide) ?_
  rw [e12]; exact ⟨_, _, rfl, N, K, sz_nb11, Or.inl ⟨V_nb11, hs0⟩⟩
 ·
  refine og_istore (L' := #[.val (.ref ca), .val (.int 0), .val (.int 1), .val (.ref nb11), .val (.int 0), .unset]) X12 hx rfl (hb hby d5_12) rfl ?_
  refine og_iload X12 hx rfl (hb hby d5_14) rfl ?_
  refine og_iloadN X12 hx rfl (hb hby d5_16) rfl ?_
  refine og_icmp_eq (pc1 := 57) (pc2 := 20) X12 hx (hb hby d5_17) (by decide) (by decide) rfl (fun q => absurd q (by decide)) (fun _ => ?_)
  refine og_aloadN X12 hx rfl rfl (hb hby d5_20) rfl ?_
  refine og_iloadN X12 hx rfl (hb hby d5_21) rfl ?_
  refine og_iloadN X12 hx rfl (hb hby d5_22) rfl ?_
  refine og_static (pc' := 26) (cells' := 2) (slots' := 3) (W := 0) X12 hx hZ (rm_tb1 l Z a0 hw ca kc c0 h12 n0 O V_ca S__assertionsDisabled S_HI_BYTE_SHIFT S_LO_BYTE_SHIFT) hown (ow108 hw) (ow109 hw) (ow21 hw) (ow110 hw) (by decide) (by rw [hml]; rfl) e12 opd_4 [(.ref ca), (.int 0), (.int 1)] [] rfl rfl rfl rfl (by decide) (by decide) rfl rfl (by decide) (by decide) (hb hby d5_23) rfl (fun v13 T13 h13 L13 X13 e13 z13 => ?_)
  obtain ⟨nb13, k13, rfl, Nq13, K13, sb13, V_nb13⟩ := z13; have N := Fr.app N Nq13
  have s_nb13 : h12.size ≤ nb13 := sb13; have g_nb13 : n0 ≤ nb13 := Nat.le_trans (own_n0 O) s_nb13; have sz_nb13 : h0.size ≤ nb13 := Nat.le_trans K.1 s_nb13; have ne_ca_nb13 : ca ≠ nb13 := Nat.ne_of_lt (Nat.lt_of_lt_of_le V_ca.lt s_nb13); have ne_nb11_nb13 : nb11 ≠ nb13 := Nat.ne_of_lt (Nat.lt_of_lt_of_le V_nb11.lt s_nb13)
  have V_ca := V_ca.keep K13 nin0; have V_nb11 := V_nb11.keep K13 nin0; have O := O.keep K13 all0; have K := K.trans K13 all0
  refine og_astore (L' := #[.val (.ref ca), .val (.int 0), .val (.int 1), .val (.ref nb11), .val (.int 0), .val (.ref nb13)]) X13 hx rfl rfl (hb hby d5_26) rfl ?_
  refine og_aload X13 hx rfl rfl (hb hby d5_28) rfl ?_
  refine og_iload X13 hx rfl (hb hby d5_30) rfl ?_
  refine og_static (pc' := 35) (cells' := 2) (slots' := 3) (W := 0) X13 hx hZ (rm_gch_1_0 l Z a0 hw nb13 k13 c0 hc0 h13 n0 O V_nb13 S__assertionsDisabled S_HI_BYTE_SHIFT S_LO_BYTE_SHIFT) hown (ow124 hw) (ow125 hw) (ow21 hw) (ow126 hw) (by decide) (by rw [hml]; rfl) e13 opd_5 [(.ref nb13), (.int 0)] [] rfl rfl rfl rfl (by decide) (by decide) rfl rfl (by decide) (by decide) (hb hby d5_32) rfl (fun v14 T14 h14 L14 X14 e14 z14 => ?_)
  obtain ⟨rfl, Nq14, hq14⟩ := z14; replace e14 := e14.trans hq14; have N := Fr.app N Nq14
  refine og_sipush (v := 255) X14 hx rfl (hb hby d5_35) rfl ?_
  refine og_icmp_gt (pc1 := 54) (pc2 := 41) X14 hx (hb hby d5_38) (by decide) (by decide) rfl (fun _ => ?_) (fun q => absurd hbig q)
  refine og_aload X14 hx rfl rfl (hb hby d5_54) rfl ?_
  refine og_retR X14 hx hlk hret rfl rfl rfl (hb hby d5_56) (by decide) (by decide) ?_
  rw [e14]; exact ⟨_, _, rfl, N, K, sz_nb13, Or.inr ⟨V_nb13, fun q => absurd hbig q⟩⟩
theorem rm_ucf1_1 (l : Launch) (Z : State) (a0 : Array Value) (hw : HW a0 Z) (ba : Addr) (kb : ClassId) (vs : List Value) (h0 : Heap) (n0 : Nat) (O : Old Z n0 h0) (V_ba : Arv Z h0 ba kb .byte (1 : Int32) vs (.int 0)) :
  Con l Z (⟨"java/lang/StringUTF16", "coderFromArrayLen", "([BI)B"⟩ : MethodName) jdk_52_method_15_code 2 (some .byte) ({ frames := 0, cells := 0, slots := 0, locals := 0 } : Room) #[(.ref ba), (.int 1)] h0 (fun v h L => v = some (.int 0) ∧ Fr n0 L ∧ h = h0) := by
 refine own_startC opn_7 ?_
 intro p e s m below meth c T0 X0 hx hby hml hZ hown hnm hret hlk e0
 have N := Fr.nil n0; have K := Keep.refl h0 []
 refine OG.cast (oef3 m ba (1 : Int32)) ?_
 refine og_iloadN X0 hx rfl (hb hby d7_0) rfl ?_
 refine og_aloadN X0 hx rfl rfl (hb hby d7_1) rfl ?_
 refine og_arraylength X0 hx hZ e0 V_ba (hb hby d7_2) rfl ?_
 refine og_isub X0 hx (hb hby d7_3) rfl ?_
 show OG p e below _ (T0.setTop (mkF m 4 #[.val (.ref ba), .val (.int 1)] [(.int 0)]))
 refine og_bipush (v := 31) X0 hx rfl (hb hby d7_4) rfl ?_
 refine og_iushr X0 hx (hb hby d7_6) rfl ?_
 show OG p e below _ (T0.setTop (mkF m 7 #[.val (.ref ba), .val (.int 1)] [(.int 0)]))
 refine og_i2b X0 hx (hb hby d7_7) rfl ?_
 show OG p e below _ (T0.setTop (mkF m 8 #[.val (.ref ba), .val (.int 1)] [(.int 0)]))
 refine og_retN X0 hx hlk hret (by simp) (hb hby d7_8) (by decide) (by decide) ?_
 rw [e0]; exact ⟨rfl, N, rfl⟩
theorem rm_ucf1_2 (l : Launch) (Z : State) (a0 : Array Value) (hw : HW a0 Z) (ba : Addr) (kb : ClassId) (vs : List Value) (h0 : Heap) (n0 : Nat) (O : Old Z n0 h0) (V_ba : Arv Z h0 ba kb .byte (2 : Int32) vs (.int 0)) :
  Con l Z (⟨"java/lang/StringUTF16", "coderFromArrayLen", "([BI)B"⟩ : MethodName) jdk_52_method_15_code 2 (some .byte) ({ frames := 0, cells := 0, slots := 0, locals := 0 } : Room) #[(.ref ba), (.int 1)] h0 (fun v h L => v = some (.int 1) ∧ Fr n0 L ∧ h = h0) := by
 refine own_startC opn_7 ?_
 intro p e s m below meth c T0 X0 hx hby hml hZ hown hnm hret hlk e0
 have N := Fr.nil n0; have K := Keep.refl h0 []
 refine OG.cast (oef3 m ba (1 : Int32)) ?_
 refine og_iloadN X0 hx rfl (hb hby d7_0) rfl ?_
 refine og_aloadN X0 hx rfl rfl (hb hby d7_1) rfl ?_
 refine og_arraylength X0 hx hZ e0 V_ba (hb hby d7_2) rfl ?_
 refine og_isub X0 hx (hb hby d7_3) rfl ?_
 show OG p e below _ (T0.setTop (mkF m 4 #[.val (.ref ba), .val (.int 1)] [(.int (-1))]))
 refine og_bipush (v := 31) X0 hx rfl (hb hby d7_4) rfl ?_
 refine og_iushr X0 hx (hb hby d7_6) rfl ?_
 show OG p e below _ (T0.setTop (mkF m 7 #[.val (.ref ba), .val (.int 1)] [(.int 1)]))
 refine og_i2b X0 hx (hb hby d7_7) rfl ?_
 show OG p e below _ (T0.setTop (mkF m 8 #[.val (.ref ba), .val (.int 1)] [(.int 1)]))
 refine og_retN X0 hx hlk hret (by simp) (hb hby d7_8) (by decide) (by decide) ?_
 rw [e0]; exact ⟨rfl, N, rfl⟩
theorem rm_uv1 (l : Launch) (Z : State) (a0 : Array Value) (hw : HW a0 Z) (a1 ca : Addr) (kc : ClassId) (c0 : Int32) (hc0 : 0 ≤ c0.toInt ∧ c0.toInt ≤ 65535) (cs : Int32) (hcs : ¬ cs = 0) (h0 : Heap) (n0 : Nat) (O : Old Z n0 h0) (E_a1 : Exa Z h0 a1 "java/lang/String") (F_value_a1 : Fld Z h0 a1 "java/lang/String" "value" "[B" .null) (F_coder_a1 : Fld Z h0 a1 "java/lang/String" "coder" "B" (.int 0)) (V_ca : Arv Z h0 ca kc .char (1 : Int32) [(.int c0)] (.int 0)) (S_CS : Sta Z Z.heap "java/lang/String" "COMPACT_STRINGS" "Z" (.int cs)) (S__assertionsDisabled : Sta Z Z.heap "java/lang/StringUTF16" "$assertionsDisabled" "Z" (.int 1)) (S_HI_BYTE_SHIFT : Sta Z Z.heap "java/lang/StringUTF16" "HI_BYTE_SHIFT" "I" (.int 0)) (S_LO_BYTE_SHIFT : Sta Z Z.heap "java/lang/StringUTF16" "LO_BYTE_SHIFT" "I" (.int 8)) (g_a1 : n0 ≤ a1) (ne_ca_a1 : ca ≠ a1) :
  Con l Z (⟨"java/lang/String", "<init>", "([CIILjava/lang/Void;)V"⟩ : MethodName) jdk_42_method_149_code 6 none ({ frames := 4, cells := 2, slots := 3, locals := 57 } : Room) #[(.ref a1), (.ref ca), (.int 0), (.int 1), .null] h0 (fun v h L => ∃ b k, v = none ∧ Fr n0 L ∧ Keep h0 h [a1] ∧ h0.size ≤ b ∧ Exa Z h a1 "java/lang/String" ∧ Fld Z h a1 "java/lang/String" "value" "[B" (.ref b) ∧ ((Fld Z h a1 "java/lang/String" "coder" "B" (.int 0) ∧ (Arv Z h b k .byte (1 : Int32) [(.int c0.toInt8.toInt32)] (.int 0) ∧ ¬ 255 < c0)) ∨ (Fld Z h a1 "java/lang/String" "coder" "B" (.int 1) ∧ (Arv Z h b k .byte (2 : Int32) [(.int c0.toInt8.toInt32), (.int (c0 >>> ((8 : Int32) &&& 31)).toInt8.toInt32)] (.int 0) ∧ ¬ (¬ 255 < c0))))) := by
 refine own_startC opn_3 ?_
 intro p e s m below meth c T0 X0 hx hby hml hZ hown hnm hret hlk e0
 have N := Fr.nil n0; have K := Keep.refl h0 [a1]
 refine OG.cast (oef6 m a1 ca (0 : Int32) (1 : Int32)) ?_
 refine og_aloadN X0 hx rfl rfl (hb hby d3_0) rfl ?_
 refine og_initO (pc' := 4) X0 hx hZ (W := 0) (by rw [hml]; rfl) hown (ow15 hw) (ow16 hw) (ow17 hw) e0 rfl (by decide) (by decide) (hb hby d3_1) rfl (fun T11 X11 e11 => ?_)
 refine og_iloadN X11 hx rfl (hb hby d3_4) rfl ?_
 refine og_if_ne (pc1 := 27) (pc2 := 8) X11 hx (hb hby d3_5) (by decide) (by decide) rfl (fun _ => ?_) (fun q => absurd q (by decide))
 refine og_getstatic X11 hx hZ (host := "") hown (Or.inl (ow18 hw)) Via.refl e11 (S_CS.ext O.2) (hb hby d3_27) rfl (fun T12 X12 e12 => ?_)
 refine og_if_eq (pc1 := 58) (pc2 := 33) X12 hx (hb hby d3_30) (by decide) (by decide) rfl (fun q => absurd q hcs) (fun _ => ?_)
 refine og_aloadN X12 hx rfl rfl (hb hby d3_33) rfl ?_
 refine og_iloadN X12 hx rfl (hb hby d3_34) rfl ?_
 refine og_iloadN X12 hx rfl (hb hby d3_35) rfl ?_
 refine og_static (pc' := 39) (cells' := 2) (slots' := 3) (W := 0) X12 hx hZ (rm_uc1 l Z a0 hw ca kc c0 hc0 h0 n0 O V_ca S__assertionsDisabled S_HI_BYTE_SHIFT S_LO_BYTE_SHIFT) hown (ow19 hw) (ow20 hw) (ow21 hw) (ow22 hw) (by decide) (by rw [hml]; rfl) e12 opd_4 [(.ref ca), (.int 0), (.int 1)] [] rfl rfl rfl rfl (by decide) (by decide) rfl rfl (by decide) (by decide) (hb hby d3_36) rfl (fun v13 T13 h13 L13 X13 e13 z13 => ?_)
 obtain ⟨nb13, k13, rfl, Nq13, K13, sb13, hd⟩ := z13; have N := Fr.app N Nq13
 have s_nb13 : h0.size ≤ nb13 := sb13; have g_nb13 : n0 ≤ nb13 := Nat.le_trans (own_n0 O) s_nb13; have sz_nb13 : h0.size ≤ nb13 := Nat.le_trans K.1 s_nb13; have ne_a1_nb13 : a1 ≠ nb13 := Nat.ne_of_lt (Nat.lt_of_lt_of_le E_a1.lt s_nb13); have ne_ca_nb13 : ca ≠ nb13 := Nat.ne_of_lt (Nat.lt_of_lt_of_le V_ca.lt s_nb13)
 have E_a1 := E_a1.keep K13; have F_value_a1 := F_value_a1.keep K13 nin0; have F_coder_a1 := F_coder_a1.keep K13 nin0; have V_ca := V_ca.keep K13 nin0; have O := O.keep K13 all0; have K := K.trans K13 all0
 rcases hd with ⟨V_nb13, hsm⟩ | ⟨V_nb13, hsm⟩
 ·
  refine og_astore (L' := #[.val (.ref a1), .val (.ref ca), .val (.int 0), .val (.int 1), .val .null, .val (.ref nb13)]) X13 hx rfl rfl (hb hby d3_39) rfl ?_
  refine og_aloadN X13 hx rfl rfl (hb hby d3_41) rfl ?_
  refine og_aload X13 hx rfl rfl (hb hby d3_42) rfl ?_
  refine og_iloadN X13 hx rfl (hb hby d3_44) rfl ?_
  refine og_static (pc' := 48) (cells' := 2) (slots' := 3) (W := 1) X13 hx hZ (rm_ucf1_1 l Z a0 hw nb13 k13 _ h13 n0 O V_nb13) hown (ow27 hw) (ow28 hw) (ow21 hw) (ow29 hw) (by decide) (by rw [hml]; rfl) e13 opd_6 [(.ref nb13), (.int 1)] [(.ref a1)] rfl rfl rfl rfl (by decide) (by decide) rfl rfl (by decide) (by decide) (hb hby d3_45) rfl (fun v14 T14 h14 L14 X14 e14 z14 => ?_)
  obtain ⟨rfl, Nq14, hq14⟩ := z14; replace e14 := e14.trans hq14; have N := Fr.app N Nq14
  refine og_putfield X14 hx hZ (ty := .byte) (host := "") hown (Or.inl (ow30 hw)) Via.refl e14 F_coder_a1 E_a1 (Or.inr ⟨(ow31 hw), rfl, hnm⟩) (ow6 hw) (by decide) rfl rfl (hb hby d3_48) rfl (fun T15 h15 X15 e15 W15 => ?_)
  have F_coder_a1_ := F_coder_a1.same W15
  have E_a1 := E_a1.wr W15; have F_value_a1 := F_value_a1.other W15 (Or.inr (slot_ne (Or.inr (ow33 hw)) (Or.inr (ow31 hw)) (by decide) (t := (.array .byte)) (t' := .byte) (by decide) (by decide))); have V_ca := V_ca.other W15 ne_ca_a1; have V_nb13 := V_nb13.other W15 (Ne.symm ne_a1_nb13); have O := O.wr W15 g_a1; have K := K.wr W15 (Or.inl (List.mem_of_getElem? (i := 0) rfl))
  have N := Fr.snoc X15 N g_a1; have F_coder_a1 := F_coder_a1_
  refine og_aloadN X15 hx rfl rfl (hb hby d3_51) rfl ?_
  refine og_aload X15 hx rfl rfl (hb hby d3_52) rfl ?_
  refine og_putfield X15 hx hZ (ty := (.array .byte)) (host := "") hown (Or.inl (ow32 hw)) Via.refl e15 F_value_a1 E_a1 (Or.inr ⟨(ow33 hw), rfl, hnm⟩) (ow6 hw) (by decide) rfl rfl (hb hby d3_54) rfl (fun T16 h16 X16 e16 W16 => ?_)
  have F_value_a1_ := F_value_a1.same W16
  have E_a1 := E_a1.wr W16; have V_ca := V_ca.other W16 ne_ca_a1; have V_nb13 := V_nb13.other W16 (Ne.symm ne_a1_nb13); have F_coder_a1 := F_coder_a1.other W16 (Or.inr (slot_ne (Or.inr (ow31 hw)) (Or.inr (ow33 hw)) (by decide) (t := .byte) (t' := (.array .byte)) (by decide) (by decide))); have O := O.wr W16 g_a1; have K := K.wr W16 (Or.inl (List.mem_of_getElem? (i := 0) rfl))
  have N := Fr.snoc X16 N g_a1; have F_value_a1 := F_value_a1_
  refine og_retV X16 hx hlk hret (hb hby d3_57) (by decide) (by decide) ?_
  rw [e16]; exact ⟨_, _, rfl, N, K, sz_nb13, E_a1, F_value_a1, Or.inl ⟨F_coder_a1, V_nb13, hsm⟩⟩
 ·
  refine og_astore (L' := #[.val (.ref a1), .val (.ref ca), .val (.int 0), .val (.int 1), .val .null, .val (.ref nb13)]) X13 hx rfl rfl (hb hby d3_39) rfl ?_
  refine og_aloadN X13 hx rfl rfl (hb hby d3_41) rfl ?_
  refine og_aload X13 hx rfl rfl (hb hby d3_42) rfl ?_
  refine og_iloadN X13 hx rfl (hb hby d3_44) rfl ?_
  refine og_static (pc' := 48) (cells' := 2) (slots' := 3) (W := 1) X13 hx hZ (rm_ucf1_2 l Z a0 hw nb13 k13 _ h13 n0 O V_nb13) hown (ow27 hw) (ow28 hw) (ow21 hw) (ow29 hw) (by decide) (by rw [hml]; rfl) e13 opd_6 [(.ref nb13), (.int 1)] [(.ref a1)] rfl rfl rfl rfl (by decide) (by decide) rfl rfl (by decide) (by decide) (hb hby d3_45) rfl (fun v17 T17 h17 L17 X17 e17 z17 => ?_)
  obtain ⟨rfl, Nq17, hq17⟩ := z17; replace e17 := e17.trans hq17; have N := Fr.app N Nq17
  refine og_putfield X17 hx hZ (ty := .byte) (host := "") hown (Or.inl (ow30 hw)) Via.refl e17 F_coder_a1 E_a1 (Or.inr ⟨(ow31 hw), rfl, hnm⟩) (ow6 hw) (by decide) rfl rfl (hb hby d3_48) rfl (fun T18 h18 X18 e18 W18 => ?_)
  have F_coder_a1_ := F_coder_a1.same W18
  have E_a1 := E_a1.wr W18; have F_value_a1 := F_value_a1.other W18 (Or.inr (slot_ne (Or.inr (ow33 hw)) (Or.inr (ow31 hw)) (by decide) (t := (.array .byte)) (t' := .byte) (by decide) (by decide))); have V_ca := V_ca.other W18 ne_ca_a1; have V_nb13 := V_nb13.other W18 (Ne.symm ne_a1_nb13); have O := O.wr W18 g_a1; have K := K.wr W18 (Or.inl (List.mem_of_getElem? (i := 0) rfl))
  have N := Fr.snoc X18 N g_a1; have F_coder_a1 := F_coder_a1_
  refine og_aloadN X18 hx rfl rfl (hb hby d3_51) rfl ?_
  refine og_aload X18 hx rfl rfl (hb hby d3_52) rfl ?_
  refine og_putfield X18 hx hZ (ty := (.array .byte)) (host := "") hown (Or.inl (ow32 hw)) Via.refl e18 F_value_a1 E_a1 (Or.inr ⟨(ow33 hw), rfl, hnm⟩) (ow6 hw) (by decide) rfl rfl (hb hby d3_54) rfl (fun T19 h19 X19 e19 W19 => ?_)
  have F_value_a1_ := F_value_a1.same W19
  have E_a1 := E_a1.wr W19; have V_ca := V_ca.other W19 ne_ca_a1; have V_nb13 := V_nb13.other W19 (Ne.symm ne_a1_nb13); have F_coder_a1 := F_coder_a1.other W19 (Or.inr (slot_ne (Or.inr (ow31 hw)) (Or.inr (ow33 hw)) (by decide) (t := .byte) (t' := (.array .byte)) (by decide) (by decide))); have O := O.wr W19 g_a1; have K := K.wr W19 (Or.inl (List.mem_of_getElem? (i := 0) rfl))
  have N := Fr.snoc X19 N g_a1; have F_value_a1 := F_value_a1_
  refine og_retV X19 hx hlk hret (hb hby d3_57) (by decide) (by decide) ?_
  rw [e19]; exact ⟨_, _, rfl, N, K, sz_nb13, E_a1, F_value_a1, Or.inr ⟨F_coder_a1, V_nb13, hsm⟩⟩
theorem rm_un1 (l : Launch) (Z : State) (a0 : Array Value) (hw : HW a0 Z) (a1 ca : Addr) (kc : ClassId) (c0 : Int32) (hc0 : 0 ≤ c0.toInt ∧ c0.toInt ≤ 65535) (cs : Int32) (hcs : ¬ cs = 0) (h0 : Heap) (n0 : Nat) (O : Old Z n0 h0) (E_a1 : Exa Z h0 a1 "java/lang/String") (F_value_a1 : Fld Z h0 a1 "java/lang/String" "value" "[B" .null) (F_coder_a1 : Fld Z h0 a1 "java/lang/String" "coder" "B" (.int 0)) (V_ca : Arv Z h0 ca kc .char (1 : Int32) [(.int c0)] (.int 0)) (S_CS : Sta Z Z.heap "java/lang/String" "COMPACT_STRINGS" "Z" (.int cs)) (S__assertionsDisabled : Sta Z Z.heap "java/lang/StringUTF16" "$assertionsDisabled" "Z" (.int 1)) (S_HI_BYTE_SHIFT : Sta Z Z.heap "java/lang/StringUTF16" "HI_BYTE_SHIFT" "I" (.int 0)) (S_LO_BYTE_SHIFT : Sta Z Z.heap "java/lang/StringUTF16" "LO_BYTE_SHIFT" "I" (.int 8)) (g_a1 : n0 ≤ a1) (ne_ca_a1 : ca ≠ a1) :
  Con l Z (⟨"java/lang/String", "<init>", "([C)V"⟩ : MethodName) jdk_42_method_3_code 2 none ({ frames := 5, cells := 2, slots := 3, locals := 74 } : Room) #[(.ref a1), (.ref ca)] h0 (fun v h L => ∃ b k, v = none ∧ Fr n0 L ∧ Keep h0 h [a1] ∧ h0.size ≤ b ∧ Exa Z h a1 "java/lang/String" ∧ Fld Z h a1 "java/lang/String" "value" "[B" (.ref b) ∧ ((Fld Z h a1 "java/lang/String" "coder" "B" (.int 0) ∧ (Arv Z h b k .byte (1 : Int32) [(.int c0.toInt8.toInt32)] (.int 0) ∧ ¬ 255 < c0)) ∨ (Fld Z h a1 "java/lang/String" "coder" "B" (.int 1) ∧ (Arv Z h b k .byte (2 : Int32) [(.int c0.toInt8.toInt32), (.int (c0 >>> ((8 : Int32) &&& 31)).toInt8.toInt32)] (.int 0) ∧ ¬ (¬ 255 < c0))))) := by
 refine own_startC opn_2 ?_
 intro p e s m below meth c T0 X0 hx hby hml hZ hown hnm hret hlk e0
 have N := Fr.nil n0; have K := Keep.refl h0 [a1]
 refine OG.cast (oef7 m a1 ca) ?_
 refine og_aloadN X0 hx rfl rfl (hb hby d2_0) rfl ?_
 refine og_aloadN X0 hx rfl rfl (hb hby d2_1) rfl ?_
 refine og_iconst (v := 0) X0 hx rfl (hb hby d2_2) rfl ?_
 refine og_aloadN X0 hx rfl rfl (hb hby d2_3) rfl ?_
 refine og_arraylength X0 hx hZ e0 V_ca (hb hby d2_4) rfl ?_
 refine og_aconst_null X0 hx (hb hby d2_5) rfl ?_
 refine og_special (pc' := 9) (cells' := 2) (slots' := 3) (W := 0) X0 hx hZ (rm_uv1 l Z a0 hw a1 ca kc c0 hc0 cs hcs h0 n0 O E_a1 F_value_a1 F_coder_a1 V_ca S_CS S__assertionsDisabled S_HI_BYTE_SHIFT S_LO_BYTE_SHIFT g_a1 ne_ca_a1) rfl hown (ow11 hw) (ow12 hw) (ow7 hw) (ow14 hw) (by decide) (by rw [hml]; rfl) e0 opd_7 [(.ref ca), (.int 0), (.int 1), .null] [] rfl rfl rfl rfl (by decide) (by decide) rfl rfl (by decide) (by decide) (hb hby d2_6) rfl (fun v11 T11 h11 L11 X11 e11 z11 => ?_)
 obtain ⟨nb11, k11, rfl, Nq11, K11, sb11, E_a1', F_value_a1', hd⟩ := z11; have N := Fr.app N Nq11
 have s_nb11 : h0.size ≤ nb11 := sb11; have g_nb11 : n0 ≤ nb11 := Nat.le_trans (own_n0 O) s_nb11; have sz_nb11 : h0.size ≤ nb11 := Nat.le_trans K.1 s_nb11; have ne_a1_nb11 : a1 ≠ nb11 := Nat.ne_of_lt (Nat.lt_of_lt_of_le E_a1.lt s_nb11); have ne_ca_nb11 : ca ≠ nb11 := Nat.ne_of_lt (Nat.lt_of_lt_of_le V_ca.lt s_nb11)
 have E_a1 := E_a1.keep K11; have V_ca := V_ca.keep K11 (ninS ne_ca_a1 nin0); have O := O.keep K11 (allS g_a1 all0); have K := K.trans K11 (allS (Or.inl (List.mem_of_getElem? (i := 0) rfl)) all0)
 have E_a1 := E_a1'; have F_value_a1 := F_value_a1'
 refine og_retV X11 hx hlk hret (hb hby d2_9) (by decide) (by decide) ?_
 rw [e11]; exact ⟨_, _, rfl, N, K, sz_nb11, E_a1, F_value_a1, hd⟩
theorem rm_pc_2_0 (l : Launch) (Z : State) (a0 : Array Value) (hw : HW a0 Z) (ba : Addr) (kb : ClassId) (cx v0 v1 v2 v3 : Int32) (h0 : Heap) (n0 : Nat) (O : Old Z n0 h0) (V_ba : Arv Z h0 ba kb .byte (4 : Int32) [(.int v0), (.int v1), (.int v2), (.int v3)] (.int 0)) (S__assertionsDisabled : Sta Z Z.heap "java/lang/StringUTF16" "$assertionsDisabled" "Z" (.int 1)) (S_HI_BYTE_SHIFT : Sta Z Z.heap "java/lang/StringUTF16" "HI_BYTE_SHIFT" "I" (.int 0)) (S_LO_BYTE_SHIFT : Sta Z Z.heap "java/lang/StringUTF16" "LO_BYTE_SHIFT" "I" (.int 8)) (g_ba : n0 ≤ ba) :
  Con l Z (⟨"java/lang/StringUTF16", "putChar", "([BII)V"⟩ : MethodName) jdk_52_method_4_code 3 none ({ frames := 0, cells := 0, slots := 0, locals := 0 } : Room) #[(.ref ba), (.int 0), (.int cx)] h0 (fun v h L => v = none ∧ Fr n0 L ∧ Keep h0 h [ba] ∧ Arv Z h ba kb .byte (4 : Int32) [(.int cx.toInt8.toInt32), (.int (cx >>> ((8 : Int32) &&& 31)).toInt8.toInt32), (.int v2), (.int v3)] (.int 0)) := by
 refine own_startC opn_27 ?_
 intro p e s m below meth c T0 X0 hx hby hml hZ hown hnm hret hlk e0
 have N := Fr.nil n0; have K := Keep.refl h0 [ba]
 refine OG.cast (oef0 m ba (0 : Int32) cx) ?_
 refine og_getstatic X0 hx hZ (host := "") hown (Or.inl (ow121 hw)) Via.refl e0 (S__assertionsDisabled.ext O.2) (hb hby d27_0) rfl (fun T11 X11 e11 => ?_)
 refine og_if_ne (pc1 := 28) (pc2 := 6) X11 hx (hb hby d27_3) (by decide) (by decide) rfl (fun _ => ?_) (fun q => absurd q (by decide))
 refine og_iloadN X11 hx rfl (hb hby d27_28) rfl ?_
 refine og_iconst (v := 1) X11 hx rfl (hb hby d27_29) rfl ?_
 refine og_ishl X11 hx (hb hby d27_30) rfl ?_
 show OG p e below _ (T11.setTop (mkF m 31 #[.val (.ref ba), .val (.int 0), .val (.int cx)] [(.int 0)]))
 refine og_istoreN (L' := #[.val (.ref ba), .val (.int 0), .val (.int cx)]) X11 hx rfl (hb hby d27_31) rfl ?_
 refine og_aloadN X11 hx rfl rfl (hb hby d27_32) rfl ?_
 refine og_iloadN X11 hx rfl (hb hby d27_33) rfl ?_
 refine og_iinc (L' := #[.val (.ref ba), .val (.int 1), .val (.int cx)]) (w := 1) X11 hx rfl rfl rfl (hb hby d27_34) rfl ?_
 refine og_iloadN X11 hx rfl (hb hby d27_37) rfl ?_
 refine og_getstatic X11 hx hZ (host := "") hown (Or.inl (ow122 hw)) Via.refl e11 (S_HI_BYTE_SHIFT.ext O.2) (hb hby d27_38) rfl (fun T12 X12 e12 => ?_)
 refine og_ishr X12 hx (hb hby d27_41) rfl ?_
 rw [own_shr0]
 refine og_i2b X12 hx (hb hby d27_42) rfl ?_
 refine og_bastore X12 hx hZ e12 V_ba ⟨by decide, by decide⟩ 0 (by decide) (Nat.le_of_ble_eq_true rfl) (hb hby d27_43) rfl (fun T13 h13 X13 e13 W13 V13 => ?_)
 have O := O.wr W13 g_ba; have K := K.wr W13 (Or.inl (List.mem_of_getElem? (i := 0) rfl))
 have N := Fr.snoc X13 N g_ba
 have V_ba : Arv Z h13 ba kb .byte (4 : Int32) [(.int (nar .byte (cx.toInt8.toInt32))), (.int v1), (.int v2), (.int v3)] (.int 0) := V13
 rw [own_nb] at V_ba
 refine og_aloadN X13 hx rfl rfl (hb hby d27_44) rfl ?_
 refine og_iloadN X13 hx rfl (hb hby d27_45) rfl ?_
 refine og_iloadN X13 hx rfl (hb hby d27_46) rfl ?_
 refine og_getstatic X13 hx hZ (host := "") hown (Or.inl (ow123 hw)) Via.refl e13 (S_LO_BYTE_SHIFT.ext O.2) (hb hby d27_47) rfl (fun T14 X14 e14 => ?_)
 refine og_ishr X14 hx (hb hby d27_50) rfl ?_
 refine og_i2b X14 hx (hb hby d27_51) rfl ?_
 refine og_bastore X14 hx hZ e14 V_ba ⟨by decide, by decide⟩ 1 (by decide) (Nat.le_of_ble_eq_true rfl) (hb hby d27_52) rfl (fun T15 h15 X15 e15 W15 V15 => ?_)
 have O := O.wr W15 g_ba; have K := K.wr W15 (Or.inl (List.mem_of_getElem? (i := 0) rfl))
 have N := Fr.snoc X15 N g_ba
 have V_ba : Arv Z h15 ba kb .byte (4 : Int32) [(.int cx.toInt8.toInt32), (.int (nar .byte ((cx >>> ((8 : Int32) &&& 31)).toInt8.toInt32))), (.int v2), (.int v3)] (.int 0) := V15
 rw [own_nb] at V_ba
 refine og_retV X15 hx hlk hret (hb hby d27_53) (by decide) (by decide) ?_
 rw [e15]; exact ⟨rfl, N, K, V_ba⟩
theorem rm_pc_2_1 (l : Launch) (Z : State) (a0 : Array Value) (hw : HW a0 Z) (ba : Addr) (kb : ClassId) (cx v0 v1 v2 v3 : Int32) (h0 : Heap) (n0 : Nat) (O : Old Z n0 h0) (V_ba : Arv Z h0 ba kb .byte (4 : Int32) [(.int v0), (.int v1), (.int v2), (.int v3)] (.int 0)) (S__assertionsDisabled : Sta Z Z.heap "java/lang/StringUTF16" "$assertionsDisabled" "Z" (.int 1)) (S_HI_BYTE_SHIFT : Sta Z Z.heap "java/lang/StringUTF16" "HI_BYTE_SHIFT" "I" (.int 0)) (S_LO_BYTE_SHIFT : Sta Z Z.heap "java/lang/StringUTF16" "LO_BYTE_SHIFT" "I" (.int 8)) (g_ba : n0 ≤ ba) :
  Con l Z (⟨"java/lang/StringUTF16", "putChar", "([BII)V"⟩ : MethodName) jdk_52_method_4_code 3 none ({ frames := 0, cells := 0, slots := 0, locals := 0 } : Room) #[(.ref ba), (.int 1), (.int cx)] h0 (fun v h L => v = none ∧ Fr n0 L ∧ Keep h0 h [ba] ∧ Arv Z h ba kb .byte (4 : Int32) [(.int v0), (.int v1), (.int cx.toInt8.toInt32), (.int (cx >>> ((8 : Int32) &&& 31)).toInt8.toInt32)] (.int 0)) := by
 refine own_startC opn_27 ?_
 intro p e s m below meth c T0 X0 hx hby hml hZ hown hnm hret hlk e0
 have N := Fr.nil n0; have K := Keep.refl h0 [ba]
 refine OG.cast (oef0 m ba (1 : Int32) cx) ?_
 refine og_getstatic X0 hx hZ (host := "") hown (Or.inl (ow121 hw)) Via.refl e0 (S__assertionsDisabled.ext O.2) (hb hby d27_0) rfl (fun T11 X11 e11 => ?_)
 refine og_if_ne (pc1 := 28) (pc2 := 6) X11 hx (hb hby d27_3) (by decide) (by decide) rfl (fun _ => ?_) (fun q => absurd q (by decide))
 refine og_iloadN X11 hx rfl (hb hby d27_28) rfl ?_
 refine og_iconst (v := 1) X11 hx rfl (hb hby d27_29) rfl ?_
 refine og_ishl X11 hx (hb hby d27_30) rfl ?_
 show OG p e below _ (T11.setTop (mkF m 31 #[.val (.ref ba), .val (.int 1), .val (.int cx)] [(.int 2)]))
 refine og_istoreN (L' := #[.val (.ref ba), .val (.int 2), .val (.int cx)]) X11 hx rfl (hb hby d27_31) rfl ?_
 refine og_aloadN X11 hx rfl rfl (hb hby d27_32) rfl ?_
 refine og_iloadN X11 hx rfl (hb hby d27_33) rfl ?_
 refine og_iinc (L' := #[.val (.ref ba), .val (.int 3), .val (.int cx)]) (w := 1) X11 hx rfl rfl rfl (hb hby d27_34) rfl ?_
 refine og_iloadN X11 hx rfl (hb hby d27_37) rfl ?_
 refine og_getstatic X11 hx hZ (host := "") hown (Or.inl (ow122 hw)) Via.refl e11 (S_HI_BYTE_SHIFT.ext O.2) (hb hby d27_38) rfl (fun T12 X12 e12 => ?_)
 refine og_ishr X12 hx (hb hby d27_41) rfl ?_
 rw [own_shr0]
 refine og_i2b X12 hx (hb hby d27_42) rfl ?_
 refine og_bastore X12 hx hZ e12 V_ba ⟨by decide, by decide⟩ 2 (by decide) (Nat.le_of_ble_eq_true rfl) (hb hby d27_43) rfl (fun T13 h13 X13 e13 W13 V13 => ?_)
 have O := O.wr W13 g_ba; have K := K.wr W13 (Or.inl (List.mem_of_getElem? (i := 0) rfl))
 have N := Fr.snoc X13 N g_ba
 have V_ba : Arv Z h13 ba kb .byte (4 : Int32) [(.int v0), (.int v1), (.int (nar .byte (cx.toInt8.toInt32))), (.int v3)] (.int 0) := V13
 rw [own_nb] at V_ba
 refine og_aloadN X13 hx rfl rfl (hb hby d27_44) rfl ?_
 refine og_iloadN X13 hx rfl (hb hby d27_45) rfl ?_
 refine og_iloadN X13 hx rfl (hb hby d27_46) rfl ?_
 refine og_getstatic X13 hx hZ (host := "") hown (Or.inl (ow123 hw)) Via.refl e13 (S_LO_BYTE_SHIFT.ext O.2) (hb hby d27_47) rfl (fun T14 X14 e14 => ?_)
 refine og_ishr X14 hx (hb hby d27_50) rfl ?_
 refine og_i2b X14 hx (hb hby d27_51) rfl ?_
 refine og_bastore X14 hx hZ e14 V_ba ⟨by decide, by decide⟩ 3 (by decide) (Nat.le_of_ble_eq_true rfl) (hb hby d27_52) rfl (fun T15 h15 X15 e15 W15 V15 => ?_)
 have O := O.wr W15 g_ba; have K := K.wr W15 (Or.inl (List.mem_of_getElem? (i := 0) rfl))
 have N := Fr.snoc X15 N g_ba
 have V_ba : Arv Z h15 ba kb .byte (4 : Int32) [(.int v0), (.int v1), (.int cx.toInt8.toInt32), (.int (nar .byte ((cx >>> ((8 : Int32) &&& 31)).toInt8.toInt32)))] (.int 0) := V15
 rw [own_nb] at V_ba
 refine og_retV X15 hx hlk hret (hb hby d27_53) (by decide) (by decide) ?_
 rw [e15]; exact ⟨rfl, N, K, V_ba⟩
theorem rm_nbl2 (l : Launch) (Z : State) (a0 : Array Value) (hw : HW a0 Z)  (h0 : Heap) (n0 : Nat) (O : Old Z n0 h0) :
  Con l Z (⟨"java/lang/StringUTF16", "newBytesLength", "(I)I"⟩ : MethodName) jdk_52_method_3_code 1 (some .int) ({ frames := 0, cells := 0, slots := 0, locals := 0 } : Room) #[(.int 2)] h0 (fun v h L => v = some (.int 4) ∧ Fr n0 L ∧ h = h0) := by
 refine own_startC opn_26 ?_
 intro p e s m below meth c T0 X0 hx hby hml hZ hown hnm hret hlk e0
 have N := Fr.nil n0; have K := Keep.refl h0 []
 refine OG.cast (oef1 m (2 : Int32)) ?_
 refine og_iloadN X0 hx rfl (hb hby d26_0) rfl ?_
 refine og_if_ge (pc1 := 12) (pc2 := 4) X0 hx (hb hby d26_1) (by decide) (by decide) rfl (fun _ => ?_) (fun q => absurd q (by decide))
 refine og_iloadN X0 hx rfl (hb hby d26_12) rfl ?_
 refine og_ldc X0 hx hZ hown (ow117 hw) (hb hby d26_13) rfl ?_
 refine og_icmp_lt (pc1 := 55) (pc2 := 18) X0 hx (hb hby d26_15) (by decide) (by decide) rfl (fun _ => ?_) (fun q => absurd q (by decide))
 refine og_iloadN X0 hx rfl (hb hby d26_55) rfl ?_
 refine og_iconst (v := 1) X0 hx rfl (hb hby d26_56) rfl ?_
 refine og_ishl X0 hx (hb hby d26_57) rfl ?_
 show OG p e below _ (T0.setTop (mkF m 58 #[.val (.int 2)] [(.int 4)]))
 refine og_retI X0 hx hlk hret (hb hby d26_58) (by decide) (by decide) ?_
 rw [e0]; exact ⟨rfl, N, rfl⟩
theorem rm_nbf2 (l : Launch) (Z : State) (a0 : Array Value) (hw : HW a0 Z)  (h0 : Heap) (n0 : Nat) (O : Old Z n0 h0) :
  Con l Z (⟨"java/lang/StringUTF16", "newBytesFor", "(I)[B"⟩ : MethodName) jdk_52_method_2_code 1 (some (.array .byte)) ({ frames := 1, cells := 1, slots := 4, locals := 12 } : Room) #[(.int 2)] h0 (fun v h L => ∃ b k, v = some (.ref b) ∧ Fr n0 L ∧ Keep h0 h [] ∧ h0.size ≤ b ∧ Arv Z h b k .byte (4 : Int32) [(.int 0), (.int 0), (.int 0), (.int 0)] (.int 0)) := by
 refine own_startC opn_25 ?_
 intro p e s m below meth c T0 X0 hx hby hml hZ hown hnm hret hlk e0
 have N := Fr.nil n0; have K := Keep.refl h0 []
 refine OG.cast (oef1 m (2 : Int32)) ?_
 refine og_iloadN X0 hx rfl (hb hby d25_0) rfl ?_
 refine og_static (pc' := 4) (cells' := 0) (slots' := 0) (W := 0) X0 hx hZ (rm_nbl2 l Z a0 hw h0 n0 O) hown (ow114 hw) (ow115 hw) (ow21 hw) (ow116 hw) (by decide) (by rw [hml]; rfl) e0 opd_0 [(.int 2)] [] rfl rfl rfl rfl (by decide) (by decide) rfl rfl (by decide) (by decide) (hb hby d25_1) rfl (fun v11 T11 h11 L11 X11 e11 z11 => ?_)
 obtain ⟨rfl, Nq11, hq11⟩ := z11; replace e11 := e11.trans hq11; have N := Fr.app N Nq11
 refine og_newarray (pc' := 6) (cells' := 1) (slots' := 4) (cap := 4) (ty := .byte) X11 hx hZ rfl (ow23 hw) e11 (by decide) (by decide) (by decide) (hb hby d25_4) rfl rfl rfl (by decide) (by decide) (fun T12 h12 nb12 kA12 X12 e12 E12 q12 V_nb12 => ?_)
 have s_nb12 : h0.size ≤ nb12 := Nat.le_of_eq q12.symm; have g_nb12 : n0 ≤ nb12 := Nat.le_trans (own_n0 O) s_nb12; have sz_nb12 : h0.size ≤ nb12 := Nat.le_trans K.1 s_nb12
 have O := O.ext E12; have K := K.ext E12
 have V_nb12 : Arv Z h12 nb12 kA12 .byte (4 : Int32) [(.int 0), (.int 0), (.int 0), (.int 0)] (.int 0) := V_nb12.pad (pad_rep [] (.int 0) 4)
 refine og_retR X12 hx hlk hret rfl rfl rfl (hb hby d25_6) (by decide) (by decide) ?_
 rw [e12]; exact ⟨_, _, rfl, N, K, sz_nb12, V_nb12⟩
theorem rm_tb2 (l : Launch) (Z : State) (a0 : Array Value) (hw : HW a0 Z) (ca : Addr) (kc : ClassId) (c0 c1 : Int32) (h0 : Heap) (n0 : Nat) (O : Old Z n0 h0) (V_ca : Arv Z h0 ca kc .char (2 : Int32) [(.int c0), (.int c1)] (.int 0)) (S__assertionsDisabled : Sta Z Z.heap "java/lang/StringUTF16" "$assertionsDisabled" "Z" (.int 1)) (S_HI_BYTE_SHIFT : Sta Z Z.heap "java/lang/StringUTF16" "HI_BYTE_SHIFT" "I" (.int 0)) (S_LO_BYTE_SHIFT : Sta Z Z.heap "java/lang/StringUTF16" "LO_BYTE_SHIFT" "I" (.int 8)) :
  Con l Z (⟨"java/lang/StringUTF16", "toBytes", "([CII)[B"⟩ : MethodName) jdk_52_method_14_code 5 (some (.array .byte)) ({ frames := 2, cells := 1, slots := 4, locals := 24 } : Room) #[(.ref ca), (.int 0), (.int 2)] h0 (fun v h L => ∃ b k, v = some (.ref b) ∧ Fr n0 L ∧ Keep h0 h [] ∧ h0.size ≤ b ∧ Arv Z h b k .byte (4 : Int32) [(.int c0.toInt8.toInt32), (.int (c0 >>> ((8 : Int32) &&& 31)).toInt8.toInt32), (.int c1.toInt8.toInt32), (.int (c1 >>> ((8 : Int32) &&& 31)).toInt8.toInt32)] (.int 0)) := by
 refine own_startC opn_24 ?_
 intro p e s m below meth c T0 X0 hx hby hml hZ hown hnm hret hlk e0
 have N := Fr.nil n0; have K := Keep.refl h0 []
 refine OG.cast (oef2 m ca (0 : Int32) (2 : Int32)) ?_
 refine og_iloadN X0 hx rfl (hb hby d24_0) rfl ?_
 refine og_static (pc' := 4) (cells' := 1) (slots' := 4) (W := 0) X0 hx hZ (rm_nbf2 l Z a0 hw h0 n0 O) hown (ow111 hw) (ow112 hw) (ow21 hw) (ow113 hw) (by decide) (by rw [hml]; rfl) e0 opd_1 [(.int 2)] [] rfl rfl rfl rfl (by decide) (by decide) rfl rfl (by decide) (by decide) (hb hby d24_1) rfl (fun v11 T11 h11 L11 X11 e11 z11 => ?_)
 obtain ⟨nb11, k11, rfl, Nq11, K11, sb11, V_nb11⟩ := z11; have N := Fr.app N Nq11
 have s_nb11 : h0.size ≤ nb11 := sb11; have g_nb11 : n0 ≤ nb11 := Nat.le_trans (own_n0 O) s_nb11; have sz_nb11 : h0.size ≤ nb11 := Nat.le_trans K.1 s_nb11; have ne_ca_nb11 : ca ≠ nb11 := Nat.ne_of_lt (Nat.lt_of_lt_of_le V_ca.lt s_nb11)
 have V_ca := V_ca.keep K11 nin0; have O := O.keep K11 all0; have K := K.trans K11 all0
 refine og_astoreN (L' := #[.val (.ref ca), .val (.int 0), .val (.int 2), .val (.ref nb11), .unset]) X11 hx rfl rfl (hb hby d24_4) rfl ?_
 refine og_iconst (v := 0) X11 hx rfl (hb hby d24_5) rfl ?_
 refine og_istore (L' := #[.val (.ref ca), .val (.int 0), .val (.int 2), .val (.ref nb11), .val (.int 0)]) X11 hx rfl (hb hby d24_6) rfl ?_
 refine og_iload X11 hx rfl (hb hby d24_8) rfl ?_
 refine og_iloadN X11 hx rfl (hb hby d24_10) rfl ?_
 refine og_icmp_ge (pc1 := 32) (pc2 := 14) X11 hx (hb hby d24_11) (by decide) (by decide) rfl (fun q => absurd q (by decide)) (fun _ => ?_)
 refine og_aloadN X11 hx rfl rfl (hb hby d24_14) rfl ?_
 refine og_iload X11 hx rfl (hb hby d24_15) rfl ?_
 refine og_aloadN X11 hx rfl rfl (hb hby d24_17) rfl ?_
 refine og_iloadN X11 hx rfl (hb hby d24_18) rfl ?_
 refine og_caload (v := (.int c0)) X11 hx hZ e11 V_ca ⟨by decide, by decide⟩ rfl (hb hby d24_19) rfl ?_
 refine og_static (pc' := 23) (cells' := 1) (slots' := 4) (W := 0) X11 hx hZ (rm_pc_2_0 l Z a0 hw nb11 k11 c0 ((0 : Int32)) ((0 : Int32)) ((0 : Int32)) ((0 : Int32)) h11 n0 O V_nb11 S__assertionsDisabled S_HI_BYTE_SHIFT S_LO_BYTE_SHIFT g_nb11) hown (ow118 hw) (ow119 hw) (ow21 hw) (ow120 hw) (by decide) (by rw [hml]; rfl) e11 opd_2 [(.ref nb11), (.int 0), (.int c0)] [] rfl rfl rfl rfl (by decide) (by decide) rfl rfl (by decide) (by decide) (hb hby d24_20) rfl (fun v12 T12 h12 L12 X12 e12 z12 => ?_)
 obtain ⟨rfl, Nq12, K12, V_nb11'⟩ := z12; have N := Fr.app N Nq12
 have V_ca := V_ca.keep K12 (ninS ne_ca_nb11 nin0); have O := O.keep K12 (allS g_nb11 all0); have K := K.trans K12 (allS (Or.inr sz_nb11) all0)
 have V_nb11 := V_nb11'
 refine og_iinc (L' := #[.val (.ref ca), .val (.int 1), .val (.int 2), .val (.ref nb11), .val (.int 0)]) (w := 1) X12 hx rfl rfl rfl (hb hby d24_23) rfl ?_
 refine og_iinc (L' := #[.val (.ref ca), .val (.int 1), .val (.int 2), .val (.ref nb11), .val (.int 1)]) (w := 1) X12 hx rfl rfl rfl (hb hby d24_26) rfl ?_
 refine og_goto (pc' := 8) X12 hx (hb hby d24_29) (by decide) (by decide) ?_
 refine og_iload X12 hx rfl (hb hby d24_8) rfl ?_
 refine og_iloadN X12 hx rfl (hb hby d24_10) rfl ?_
 refine og_icmp_ge (pc1 := 32) (pc2 := 14) X12 hx (hb hby d24_11) (by decide) (by decide) rfl (fun q => absurd q (by decide)) (fun _ => ?_)
 refine og_aloadN X12 hx rfl rfl (hb hby d24_14) rfl ?_
 refine og_iload X12 hx rfl (hb hby d24_15) rfl ?_
 refine og_aloadN X12 hx rfl rfl (hb hby d24_17) rfl ?_
 refine og_iloadN X12 hx rfl (hb hby d24_18) rfl ?_
 refine og_caload (v := (.int c1)) X12 hx hZ e12 V_ca ⟨by decide, by decide⟩ rfl (hb hby d24_19) rfl ?_
 refine og_static (pc' := 23) (cells' := 1) (slots' := 4) (W := 0) X12 hx hZ (rm_pc_2_1 l Z a0 hw nb11 k11 c1 (c0.toInt8.toInt32) ((c0 >>> ((8 : Int32) &&& 31)).toInt8.toInt32) ((0 : Int32)) ((0 : Int32)) h12 n0 O V_nb11 S__assertionsDisabled S_HI_BYTE_SHIFT S_LO_BYTE_SHIFT g_nb11) hown (ow118 hw) (ow119 hw) (ow21 hw) (ow120 hw) (by decide) (by rw [hml]; rfl) e12 opd_2 [(.ref nb11), (.int 1), (.int c1)] [] rfl rfl rfl rfl (by decide) (by decide) rfl rfl (by decide) (by decide) (hb hby d24_20) rfl (fun v13 T13 h13 L13 X13 e13 z13 => ?_)
 obtain ⟨rfl, Nq13, K13, V_nb11'⟩ := z13; have N := Fr.app N Nq13
 have V_ca := V_ca.keep K13 (ninS ne_ca_nb11 nin0); have O := O.keep K13 (allS g_nb11 all0); have K := K.trans K13 (allS (Or.inr sz_nb11) all0)
 have V_nb11 := V_nb11'
 refine og_iinc (L' := #[.val (.ref ca), .val (.int 2), .val (.int 2), .val (.ref nb11), .val (.int 1)]) (w := 1) X13 hx rfl rfl rfl (hb hby d24_23) rfl ?_
 refine og_iinc (L' := #[.val (.ref ca), .val (.int 2), .val (.int 2), .val (.ref nb11), .val (.int 2)]) (w := 1) X13 hx rfl rfl rfl (hb hby d24_26) rfl ?_
 refine og_goto (pc' := 8) X13 hx (hb hby d24_29) (by decide) (by decide) ?_
 refine og_iload X13 hx rfl (hb hby d24_8) rfl ?_
 refine og_iloadN X13 hx rfl (hb hby d24_10) rfl ?_
 refine og_icmp_ge (pc1 := 32) (pc2 := 14) X13 hx (hb hby d24_11) (by decide) (by decide) rfl (fun _ => ?_) (fun q => absurd q (by decide))
 refine og_aloadN X13 hx rfl rfl (hb hby d24_32) rfl ?_
 refine og_retR X13 hx hlk hret rfl rfl rfl (hb hby d24_33) (by decide) (by decide) ?_
 rw [e13]; exact ⟨_, _, rfl, N, K, sz_nb11, V_nb11⟩
theorem rm_gch_2_0 (l : Launch) (Z : State) (a0 : Array Value) (hw : HW a0 Z) (ba : Addr) (kb : ClassId) (c0 c1 : Int32) (hc0 : 0 ≤ c0.toInt ∧ c0.toInt ≤ 65535) (hc1 : 0 ≤ c1.toInt ∧ c1.toInt ≤ 65535) (h0 : Heap) (n0 : Nat) (O : Old Z n0 h0) (V_ba : Arv Z h0 ba kb .byte (4 : Int32) [(.int c0.toInt8.toInt32), (.int (c0 >>> ((8 : Int32) &&& 31)).toInt8.toInt32), (.int c1.toInt8.toInt32), (.int (c1 >>> ((8 : Int32) &&& 31)).toInt8.toInt32)] (.int 0)) (S__assertionsDisabled : Sta Z Z.heap "java/lang/StringUTF16" "$assertionsDisabled" "Z" (.int 1)) (S_HI_BYTE_SHIFT : Sta Z Z.heap "java/lang/StringUTF16" "HI_BYTE_SHIFT" "I" (.int 0)) (S_LO_BYTE_SHIFT : Sta Z Z.heap "java/lang/StringUTF16" "LO_BYTE_SHIFT" "I" (.int 8)) :
  Con l Z (⟨"java/lang/StringUTF16", "getChar", "([BI)C"⟩ : MethodName) jdk_52_method_5_code 2 (some .char) ({ frames := 0, cells := 0, slots := 0, locals := 0 } : Room) #[(.ref ba), (.int 0)] h0 (fun v h L => v = some (.int c0) ∧ Fr n0 L ∧ h = h0) := by
 refine own_startC opn_28 ?_
 intro p e s m below meth c T0 X0 hx hby hml hZ hown hnm hret hlk e0
 have N := Fr.nil n0; have K := Keep.refl h0 []
 refine OG.cast (oef3 m ba (0 : Int32)) ?_
 refine og_getstatic X0 hx hZ (host := "") hown (Or.inl (ow121 hw)) Via.refl e0 (S__assertionsDisabled.ext O.2) (hb hby d28_0) rfl (fun T11 X11 e11 => ?_)
 refine og_if_ne (pc1 := 28) (pc2 := 6) X11 hx (hb hby d28_3) (by decide) (by decide) rfl (fun _ => ?_) (fun q => absurd q (by decide))
 refine og_iloadN X11 hx rfl (hb hby d28_28) rfl ?_
 refine og_iconst (v := 1) X11 hx rfl (hb hby d28_29) rfl ?_
 refine og_ishl X11 hx (hb hby d28_30) rfl ?_
 show OG p e below _ (T11.setTop (mkF m 31 #[.val (.ref ba), .val (.int 0)] [(.int 0)]))
 refine og_istoreN (L' := #[.val (.ref ba), .val (.int 0)]) X11 hx rfl (hb hby d28_31) rfl ?_
 refine og_aloadN X11 hx rfl rfl (hb hby d28_32) rfl ?_
 refine og_iloadN X11 hx rfl (hb hby d28_33) rfl ?_
 refine og_iinc (L' := #[.val (.ref ba), .val (.int 1)]) (w := 1) X11 hx rfl rfl rfl (hb hby d28_34) rfl ?_
 refine og_baload (v := (.int c0.toInt8.toInt32)) X11 hx hZ e11 V_ba ⟨by decide, by decide⟩ rfl (hb hby d28_37) rfl ?_
 refine og_sipush (v := 255) X11 hx rfl (hb hby d28_38) rfl ?_
 refine og_iand X11 hx (hb hby d28_41) rfl ?_
 refine og_getstatic X11 hx hZ (host := "") hown (Or.inl (ow122 hw)) Via.refl e11 (S_HI_BYTE_SHIFT.ext O.2) (hb hby d28_42) rfl (fun T12 X12 e12 => ?_)
 refine og_ishl X12 hx (hb hby d28_45) rfl ?_
 rw [own_shl0]
 refine og_aloadN X12 hx rfl rfl (hb hby d28_46) rfl ?_
 refine og_iloadN X12 hx rfl (hb hby d28_47) rfl ?_
 refine og_baload (v := (.int (c0 >>> ((8 : Int32) &&& 31)).toInt8.toInt32)) X12 hx hZ e12 V_ba ⟨by decide, by decide⟩ rfl (hb hby d28_48) rfl ?_
 refine og_sipush (v := 255) X12 hx rfl (hb hby d28_49) rfl ?_
 refine og_iand X12 hx (hb hby d28_52) rfl ?_
 refine og_getstatic X12 hx hZ (host := "") hown (Or.inl (ow123 hw)) Via.refl e12 (S_LO_BYTE_SHIFT.ext O.2) (hb hby d28_53) rfl (fun T13 X13 e13 => ?_)
 refine og_ishl X13 hx (hb hby d28_56) rfl ?_
 refine og_ior X13 hx (hb hby d28_57) rfl ?_
 refine og_i2c X13 hx (hb hby d28_58) rfl ?_
 refine og_retN X13 hx hlk hret (by simp) (hb hby d28_59) (by decide) (by decide) ?_
 rw [e13, own_gc hc0]; exact ⟨rfl, N, rfl⟩
theorem rm_gch_2_1 (l : Launch) (Z : State) (a0 : Array Value) (hw : HW a0 Z) (ba : Addr) (kb : ClassId) (c0 c1 : Int32) (hc0 : 0 ≤ c0.toInt ∧ c0.toInt ≤ 65535) (hc1 : 0 ≤ c1.toInt ∧ c1.toInt ≤ 65535) (h0 : Heap) (n0 : Nat) (O : Old Z n0 h0) (V_ba : Arv Z h0 ba kb .byte (4 : Int32) [(.int c0.toInt8.toInt32), (.int (c0 >>> ((8 : Int32) &&& 31)).toInt8.toInt32), (.int c1.toInt8.toInt32), (.int (c1 >>> ((8 : Int32) &&& 31)).toInt8.toInt32)] (.int 0)) (S__assertionsDisabled : Sta Z Z.heap "java/lang/StringUTF16" "$assertionsDisabled" "Z" (.int 1)) (S_HI_BYTE_SHIFT : Sta Z Z.heap "java/lang/StringUTF16" "HI_BYTE_SHIFT" "I" (.int 0)) (S_LO_BYTE_SHIFT : Sta Z Z.heap "java/lang/StringUTF16" "LO_BYTE_SHIFT" "I" (.int 8)) :
  Con l Z (⟨"java/lang/StringUTF16", "getChar", "([BI)C"⟩ : MethodName) jdk_52_method_5_code 2 (some .char) ({ frames := 0, cells := 0, slots := 0, locals := 0 } : Room) #[(.ref ba), (.int 1)] h0 (fun v h L => v = some (.int c1) ∧ Fr n0 L ∧ h = h0) := by
 refine own_startC opn_28 ?_
 intro p e s m below meth c T0 X0 hx hby hml hZ hown hnm hret hlk e0
 have N := Fr.nil n0; have K := Keep.refl h0 []
 refine OG.cast (oef3 m ba (1 : Int32)) ?_
 refine og_getstatic X0 hx hZ (host := "") hown (Or.inl (ow121 hw)) Via.refl e0 (S__assertionsDisabled.ext O.2) (hb hby d28_0) rfl (fun T11 X11 e11 => ?_)
 refine og_if_ne (pc1 := 28) (pc2 := 6) X11 hx (hb hby d28_3) (by decide) (by decide) rfl (fun _ => ?_) (fun q => absurd q (by decide))
 refine og_iloadN X11 hx rfl (hb hby d28_28) rfl ?_
 refine og_iconst (v := 1) X11 hx rfl (hb hby d28_29) rfl ?_
 refine og_ishl X11 hx (hb hby d28_30) rfl ?_
 show OG p e below _ (T11.setTop (mkF m 31 #[.val (.ref ba), .val (.int 1)] [(.int 2)]))
 refine og_istoreN (L' := #[.val (.ref ba), .val (.int 2)]) X11 hx rfl (hb hby d28_31) rfl ?_
 refine og_aloadN X11 hx rfl rfl (hb hby d28_32) rfl ?_
 refine og_iloadN X11 hx rfl (hb hby d28_33) rfl ?_
 refine og_iinc (L' := #[.val (.ref ba), .val (.int 3)]) (w := 1) X11 hx rfl rfl rfl (hb hby d28_34) rfl ?_
 refine og_baload (v := (.int c1.toInt8.toInt32)) X11 hx hZ e11 V_ba ⟨by decide, by decide⟩ rfl (hb hby d28_37) rfl ?_
 refine og_sipush (v := 255) X11 hx rfl (hb hby d28_38) rfl ?_
 refine og_iand X11 hx (hb hby d28_41) rfl ?_
 refine og_getstatic X11 hx hZ (host := "") hown (Or.inl (ow122 hw)) Via.refl e11 (S_HI_BYTE_SHIFT.ext O.2) (hb hby d28_42) rfl (fun T12 X12 e12 => ?_)
 refine og_ishl X12 hx (hb hby d28_45) rfl ?_
 rw [own_shl0]
 refine og_aloadN X12 hx rfl rfl (hb hby d28_46) rfl ?_
 refine og_iloadN X12 hx rfl (hb hby d28_47) rfl ?_
 refine og_baload (v := (.int (c1 >>> ((8 : Int32) &&& 31)).toInt8.toInt32)) X12 hx hZ e12 V_ba ⟨by decide, by decide⟩ rfl (hb hby d28_48) rfl ?_
 refine og_sipush (v := 255) X12 hx rfl (hb hby d28_49) rfl ?_
 refine og_iand X12 hx (hb hby d28_52) rfl ?_
 refine og_getstatic X12 hx hZ (host := "") hown (Or.inl (ow123 hw)) Via.refl e12 (S_LO_BYTE_SHIFT.ext O.2) (hb hby d28_53) rfl (fun T13 X13 e13 => ?_)
 refine og_ishl X13 hx (hb hby d28_56) rfl ?_
 refine og_ior X13 hx (hb hby d28_57) rfl ?_
 refine og_i2c X13 hx (hb hby d28_58) rfl ?_
 refine og_retN X13 hx hlk hret (by simp) (hb hby d28_59) (by decide) (by decide) ?_
 rw [e13, own_gc hc1]; exact ⟨rfl, N, rfl⟩
theorem rm_ug2 (l : Launch) (Z : State) (a0 : Array Value) (hw : HW a0 Z) (ca ba : Addr) (kc kb : ClassId) (c0 c1 : Int32) (h0 : Heap) (n0 : Nat) (O : Old Z n0 h0) (V_ca : Arv Z h0 ca kc .char (2 : Int32) [(.int c0), (.int c1)] (.int 0)) (V_ba : Arv Z h0 ba kb .byte (2 : Int32) [(.int 0), (.int 0)] (.int 0)) (g_ba : n0 ≤ ba) (ne_ca_ba : ca ≠ ba) :
  Con l Z (⟨"java/lang/StringUTF16", "compress", "([CI[BII)I"⟩ : MethodName) jdk_52_method_21_code 7 (some .int) ({ frames := 0, cells := 0, slots := 0, locals := 0 } : Room) #[(.ref ca), (.int 0), (.ref ba), (.int 0), (.int 2)] h0 (fun v h L => ∃ (jj : Int32) (vs' : List Value), v = some (.int jj) ∧ Fr n0 L ∧ Keep h0 h [ba] ∧ Arv Z h ba kb .byte (2 : Int32) vs' (.int 0) ∧ ((jj = 2 ∧ vs' = [(.int c0.toInt8.toInt32), (.int c1.toInt8.toInt32)] ∧ ¬ 255 < c0 ∧ ¬ 255 < c1) ∨ (jj = 0 ∧ 255 < c0) ∨ (jj = 1 ∧ 255 < c1))) := by
 refine own_startC opn_6 ?_
 intro p e s m below meth c T0 X0 hx hby hml hZ hown hnm hret hlk e0
 have N := Fr.nil n0; have K := Keep.refl h0 [ba]
 refine OG.cast (oef4 m ca (0 : Int32) ba (0 : Int32) (2 : Int32)) ?_
 refine og_iconst (v := 0) X0 hx rfl (hb hby d6_0) rfl ?_
 refine og_istore (L' := #[.val (.ref ca), .val (.int 0), .val (.ref ba), .val (.int 0), .val (.int 2), .val (.int 0), .unset]) X0 hx rfl (hb hby d6_1) rfl ?_
 refine og_iload X0 hx rfl (hb hby d6_3) rfl ?_
 refine og_iload X0 hx rfl (hb hby d6_5) rfl ?_
 refine og_icmp_ge (pc1 := 44) (pc2 := 10) X0 hx (hb hby d6_7) (by decide) (by decide) rfl (fun q => absurd q (by decide)) (fun _ => ?_)
 refine og_aloadN X0 hx rfl rfl (hb hby d6_10) rfl ?_
 refine og_iloadN X0 hx rfl (hb hby d6_11) rfl ?_
 refine og_caload (v := (.int c0)) X0 hx hZ e0 V_ca ⟨by decide, by decide⟩ rfl (hb hby d6_12) rfl ?_
 refine og_istore (L' := #[.val (.ref ca), .val (.int 0), .val (.ref ba), .val (.int 0), .val (.int 2), .val (.int 0), .val (.int c0)]) X0 hx rfl (hb hby d6_13) rfl ?_
 refine og_iload X0 hx rfl (hb hby d6_15) rfl ?_
 refine og_sipush (v := 255) X0 hx rfl (hb hby d6_17) rfl ?_
 refine og_icmp_le (pc1 := 26) (pc2 := 23) X0 hx (hb hby d6_20) (by decide) (by decide) rfl (fun hc20 => ?_) (fun hc20 => ?_)
 ·
  have hq0 := hc20
  refine og_aloadN X0 hx rfl rfl (hb hby d6_26) rfl ?_
  refine og_iloadN X0 hx rfl (hb hby d6_27) rfl ?_
  refine og_iload X0 hx rfl (hb hby d6_28) rfl ?_
  refine og_i2b X0 hx (hb hby d6_30) rfl ?_
  refine og_bastore X0 hx hZ e0 V_ba ⟨by decide, by decide⟩ 0 (by decide) (Nat.le_of_ble_eq_true rfl) (hb hby d6_31) rfl (fun T11 h11 X11 e11 W11 V11 => ?_)
  have V_ca := V_ca.other W11 ne_ca_ba; have O := O.wr W11 g_ba; have K := K.wr W11 (Or.inl (List.mem_of_getElem? (i := 0) rfl))
  have N := Fr.snoc X11 N g_ba
  have V_ba : Arv Z h11 ba kb .byte (2 : Int32) [(.int (nar .byte (c0.toInt8.toInt32))), (.int 0)] (.int 0) := V11
  rw [own_nb] at V_ba
  refine og_iinc (L' := #[.val (.ref ca), .val (.int 1), .val (.ref ba), .val (.int 0), .val (.int 2), .val (.int 0), .val (.int c0)]) (w := 1) X11 hx rfl rfl rfl (hb hby d6_32) rfl ?_
  refine og_iinc (L' := #[.val (.ref ca), .val (.int 1), .val (.ref ba), .val (.int 1), .val (.int 2), .val (.int 0), .val (.int c0)]) (w := 1) X11 hx rfl rfl rfl (hb hby d6_35) rfl ?_
  refine og_iinc (L' := #[.val (.ref ca), .val (.int 1), .val (.ref ba), .val (.int 1), .val (.int 2), .val (.int 1), .val (.int c0)]) (w := 1) X11 hx rfl rfl rfl (hb hby d6_38) rfl ?_
  refine og_goto (pc' := 3) X11 hx (hb hby d6_41) (by decide) (by decide) ?_
  refine og_iload X11 hx rfl (hb hby d6_3) rfl ?_
  refine og_iload X11 hx rfl (hb hby d6_5) rfl ?_
  refine og_icmp_ge (pc1 := 44) (pc2 := 10) X11 hx (hb hby d6_7) (by decide) (by decide) rfl (fun q => absurd q (by decide)) (fun _ => ?_)
  refine og_aloadN X11 hx rfl rfl (hb hby d6_10) rfl ?_
  refine og_iloadN X11 hx rfl (hb hby d6_11) rfl ?_
  refine og_caload (v := (.int c1)) X11 hx hZ e11 V_ca ⟨by decide, by decide⟩ rfl (hb hby d6_12) rfl ?_
  refine og_istore (L' := #[.val (.ref ca), .val (.int 1), .val (.ref ba), .val (.int 1), .val (.int 2), .val (.int 1), .val (.int c1)]) X11 hx rfl (hb hby d6_13) rfl ?_
  refine og_iload X11 hx rfl (hb hby d6_15) rfl ?_
  refine og_sipush (v := 255) X11 hx rfl (hb hby d6_17) rfl ?_
  refine og_icmp_le (pc1 := 26) (pc2 := 23) X11 hx (hb hby d6_20) (by decide) (by decide) rfl (fun hc20 => ?_) (fun hc20 => ?_)
  ·
   have hq1 := hc20
   refine og_aloadN X11 hx rfl rfl (hb hby d6_26) rfl ?_
   refine og_iloadN X11 hx rfl (hb hby d6_27) rfl ?_
   refine og_iload X11 hx rfl (hb hby d6_28) rfl ?_
   refine og_i2b X11 hx (hb hby d6_30) rfl ?_
   refine og_bastore X11 hx hZ e11 V_ba ⟨by decide, by decide⟩ 1 (by decide) (Nat.le_of_ble_eq_true rfl) (hb hby d6_31) rfl (fun T12 h12 X12 e12 W12 V12 => ?_)
   have V_ca := V_ca.other W12 ne_ca_ba; have O := O.wr W12 g_ba; have K := K.wr W12 (Or.inl (List.mem_of_getElem? (i := 0) rfl))
   have N := Fr.snoc X12 N g_ba
   have V_ba : Arv Z h12 ba kb .byte (2 : Int32) [(.int c0.toInt8.toInt32), (.int (nar .byte (c1.toInt8.toInt32)))] (.int 0) := V12
   rw [own_nb] at V_ba
   refine og_iinc (L' := #[.val (.ref ca), .val (.int 2), .val (.ref ba), .val (.int 1), .val (.int 2), .val (.int 1), .val (.int c1)]) (w := 1) X12 hx rfl rfl rfl (hb hby d6_32) rfl ?_
   refine og_iinc (L' := #[.val (.ref ca), .val (.int 2), .val (.ref ba), .val (.int 2), .val (.int 2), .val (.int 1), .val (.int c1)]) (w := 1) X12 hx rfl rfl rfl (hb hby d6_35) rfl ?_
   refine og_iinc (L' := #[.val (.ref ca), .val (.int 2), .val (.ref ba), .val (.int 2), .val (.int 2), .val (.int 2), .val (.int c1)]) (w := 1) X12 hx rfl rfl rfl (hb hby d6_38) rfl ?_
   refine og_goto (pc' := 3) X12 hx (hb hby d6_41) (by decide) (by decide) ?_
   refine og_iload X12 hx rfl (hb hby d6_3) rfl ?_
   refine og_iload X12 hx rfl (hb hby d6_5) rfl ?_
   refine og_icmp_ge (pc1 := 44) (pc2 := 10) X12 hx (hb hby d6_7) (by decide) (by decide) rfl (fun _ => ?_) (fun q => absurd q (by decide))
   refine og_iload X12 hx rfl (hb hby d6_44) rfl ?_
   refine og_retI X12 hx hlk hret (hb hby d6_46) (by decide) (by decide) ?_
   rw [e12]; exact ⟨_, _, rfl, N, K, V_ba, Or.inl ⟨rfl, rfl, hq0, hq1⟩⟩
  ·
   have hq1 := hc20
   refine og_iload X11 hx rfl (hb hby d6_23) rfl ?_
   refine og_retI X11 hx hlk hret (hb hby d6_25) (by decide) (by decide) ?_
   rw [e11]; exact ⟨_, _, rfl, N, K, V_ba, Or.inr (Or.inr (⟨rfl, hq1⟩))⟩
 ·
  have hq0 := hc20
  refine og_iload X0 hx rfl (hb hby d6_23) rfl ?_
  refine og_retI X0 hx hlk hret (hb hby d6_25) (by decide) (by decide) ?_
  rw [e0]; exact ⟨_, _, rfl, N, K, V_ba, Or.inr (Or.inl ⟨rfl, hq0⟩)⟩
theorem rm_uc2 (l : Launch) (Z : State) (a0 : Array Value) (hw : HW a0 Z) (ca : Addr) (kc : ClassId) (c0 c1 : Int32) (hc0 : 0 ≤ c0.toInt ∧ c0.toInt ≤ 65535) (hc1 : 0 ≤ c1.toInt ∧ c1.toInt ≤ 65535) (h0 : Heap) (n0 : Nat) (O : Old Z n0 h0) (V_ca : Arv Z h0 ca kc .char (2 : Int32) [(.int c0), (.int c1)] (.int 0)) (S__assertionsDisabled : Sta Z Z.heap "java/lang/StringUTF16" "$assertionsDisabled" "Z" (.int 1)) (S_HI_BYTE_SHIFT : Sta Z Z.heap "java/lang/StringUTF16" "HI_BYTE_SHIFT" "I" (.int 0)) (S_LO_BYTE_SHIFT : Sta Z Z.heap "java/lang/StringUTF16" "LO_BYTE_SHIFT" "I" (.int 8)) :
  Con l Z (⟨"java/lang/StringUTF16", "compress", "([CII)[B"⟩ : MethodName) jdk_52_method_16_code 6 (some (.array .byte)) ({ frames := 3, cells := 2, slots := 6, locals := 40 } : Room) #[(.ref ca), (.int 0), (.int 2)] h0 (fun v h L => ∃ b k, v = some (.ref b) ∧ Fr n0 L ∧ Keep h0 h [] ∧ h0.size ≤ b ∧ ((Arv Z h b k .byte (2 : Int32) [(.int c0.toInt8.toInt32), (.int c1.toInt8.toInt32)] (.int 0) ∧ ¬ 255 < c0 ∧ ¬ 255 < c1) ∨ (Arv Z h b k .byte (4 : Int32) [(.int c0.toInt8.toInt32), (.int (c0 >>> ((8 : Int32) &&& 31)).toInt8.toInt32), (.int c1.toInt8.toInt32), (.int (c1 >>> ((8 : Int32) &&& 31)).toInt8.toInt32)] (.int 0) ∧ ¬ (¬ 255 < c0 ∧ ¬ 255 < c1)))) := by
 refine own_startC opn_5 ?_
 intro p e s m below meth c T0 X0 hx hby hml hZ hown hnm hret hlk e0
 have N := Fr.nil n0; have K := Keep.refl h0 []
 refine OG.cast (oef5 m ca (0 : Int32) (2 : Int32)) ?_
 refine og_iloadN X0 hx rfl (hb hby d5_0) rfl ?_
 refine og_newarray (pc' := 3) (cells' := 1) (slots' := 2) (cap := 2) (ty := .byte) X0 hx hZ rfl (ow23 hw) e0 (by decide) (by decide) (by decide) (hb hby d5_1) rfl rfl rfl (by decide) (by decide) (fun T11 h11 nb11 kA11 X11 e11 E11 q11 V_nb11 => ?_)
 have s_nb11 : h0.size ≤ nb11 := Nat.le_of_eq q11.symm; have g_nb11 : n0 ≤ nb11 := Nat.le_trans (own_n0 O) s_nb11; have sz_nb11 : h0.size ≤ nb11 := Nat.le_trans K.1 s_nb11; have ne_ca_nb11 : ca ≠ nb11 := Nat.ne_of_lt (Nat.lt_of_lt_of_le V_ca.lt s_nb11)
 have V_ca := V_ca.ext E11; have O := O.ext E11; have K := K.ext E11
 have V_nb11 : Arv Z h11 nb11 kA11 .byte (2 : Int32) [(.int 0), (.int 0)] (.int 0) := V_nb11.pad (pad_rep [] (.int 0) 2)
 refine og_astoreN (L' := #[.val (.ref ca), .val (.int 0), .val (.int 2), .val (.ref nb11), .unset, .unset]) X11 hx rfl rfl (hb hby d5_3) rfl ?_
 refine og_aloadN X11 hx rfl rfl (hb hby d5_4) rfl ?_
 refine og_iloadN X11 hx rfl (hb hby d5_5) rfl ?_
 refine og_aloadN X11 hx rfl rfl (hb hby d5_6) rfl ?_
 refine og_iconst (v := 0) X11 hx rfl (hb hby d5_7) rfl ?_
 refine og_iloadN X11 hx rfl (hb hby d5_8) rfl ?_
 refine og_static (pc' := 12) (cells' := 1) (slots' := 2) (W := 0) X11 hx hZ (rm_ug2 l Z a0 hw ca nb11 kc kA11 c0 c1 h11 n0 O V_ca V_nb11 g_nb11 ne_ca_nb11) hown (ow24 hw) (ow25 hw) (ow21 hw) (ow26 hw) (by decide) (by rw [hml]; rfl) e11 opd_3 [(.ref ca), (.int 0), (.ref nb11), (.int 0), (.int 2)] [] rfl rfl rfl rfl (by decide) (by decide) rfl rfl (by decide) (by decide) (hb hby d5_9) rfl (fun v12 T12 h12 L12 X12 e12 z12 => ?_)
 obtain ⟨jj, vs', rfl, Nq12, K12, V_nb11', hj⟩ := z12; have N := Fr.app N Nq12
 have V_ca := V_ca.keep K12 (ninS ne_ca_nb11 nin0); have O := O.keep K12 (allS g_nb11 all0); have K := K.trans K12 (allS (Or.inr sz_nb11) all0)
 have V_nb11 := V_nb11'
 rcases hj with ⟨rfl, rfl, hs0, hs1⟩ | ⟨rfl, hbig⟩ | ⟨rfl, hbig⟩
 ·
  refine og_istore (L' := #[.val (.ref ca), .val (.int 0), .val (.int 2), .val (.ref nb11), .val (.int 2), .unset]) X12 hx rfl (hb hby d5_12) rfl ?_
  refine og_iload X12 hx rfl (hb hby d5_14) rfl ?_
  refine og_iloadN X12 hx rfl (hb hby d5_16) rfl ?_
  refine og_icmp_eq (pc1 := 57) (pc2 := 20) X12 hx (hb hby d5_17) (by decide) (by decide) rfl (fun _ => ?_) (fun q => absurd q (by decide))
  refine og_aloadN X12 hx rfl rfl (hb hby d5_57) rfl ?_
  refine og_retR X12 hx hlk hret rfl rfl rfl (hb hby d5_58) (by decide) (by decide) ?_
  rw [e12]; exact ⟨_, _, rfl, N, K, sz_nb11, Or.inl ⟨V_nb11, hs0, hs1⟩⟩
 ·
  refine og_istore (L' := #[.val (.ref ca), .val (.int 0), .val (.int 2), .val (.ref nb11), .val (.int 0), .unset]) X12 hx rfl (hb hby d5_12) rfl ?_
  refine og_iload X12 hx rfl (hb hby d5_14) rfl ?_
  refine og_iloadN X12 hx rfl (hb hby d5_16) rfl ?_
  refine og_icmp_eq (pc1 := 57) (pc2 := 20) X12 hx (hb hby d5_17) (by decide) (by decide) rfl (fun q => absurd q (by decide)) (fun _ => ?_)
  refine og_aloadN X12 hx rfl rfl (hb hby d5_20) rfl ?_
  refine og_iloadN X12 hx rfl (hb hby d5_21) rfl ?_
  refine og_iloadN X12 hx rfl (hb hby d5_22) rfl ?_
  refine og_static (pc' := 26) (cells' := 2) (slots' := 6) (W := 0) X12 hx hZ (rm_tb2 l Z a0 hw ca kc c0 c1 h12 n0 O V_ca S__assertionsDisabled S_HI_BYTE_SHIFT S_LO_BYTE_SHIFT) hown (ow108 hw) (ow109 hw) (ow21 hw) (ow110 hw) (by decide) (by rw [hml]; rfl) e12 opd_4 [(.ref ca), (.int 0), (.int 2)] [] rfl rfl rfl rfl (by decide) (by decide) rfl rfl (by decide) (by decide) (hb hby d5_23) rfl (fun v13 T13 h13 L13 X13 e13 z13 => ?_)
  obtain ⟨nb13, k13, rfl, Nq13, K13, sb13, V_nb13⟩ := z13; have N := Fr.app N Nq13
  have s_nb13 : h12.size ≤ nb13 := sb13; have g_nb13 : n0 ≤ nb13 := Nat.le_trans (own_n0 O) s_nb13; have sz_nb13 : h0.size ≤ nb13 := Nat.le_trans K.1 s_nb13; have ne_ca_nb13 : ca ≠ nb13 := Nat.ne_of_lt (Nat.lt_of_lt_of_le V_ca.lt s_nb13); have ne_nb11_nb13 : nb11 ≠ nb13 := Nat.ne_of_lt (Nat.lt_of_lt_of_le V_nb11.lt s_nb13)
  have V_ca := V_ca.keep K13 nin0; have V_nb11 := V_nb11.keep K13 nin0; have O := O.keep K13 all0; have K := K.trans K13 all0
  refine og_astore (L' := #[.val (.ref ca), .val (.int 0), .val (.int 2), .val (.ref nb11), .val (.int 0), .val (.ref nb13)]) X13 hx rfl rfl (hb hby d5_26) rfl ?_
  refine og_aload X13 hx rfl rfl (hb hby d5_28) rfl ?_
  refine og_iload X13 hx rfl (hb hby d5_30) rfl ?_
  refine og_static (pc' := 35) (cells' := 2) (slots' := 6) (W := 0) X13 hx hZ (rm_gch_2_0 l Z a0 hw nb13 k13 c0 c1 hc0 hc1 h13 n0 O V_nb13 S__assertionsDisabled S_HI_BYTE_SHIFT S_LO_BYTE_SHIFT) hown (ow124 hw) (ow125 hw) (ow21 hw) (ow126 hw) (by decide) (by rw [hml]; rfl) e13 opd_5 [(.ref nb13), (.int 0)] [] rfl rfl rfl rfl (by decide) (by decide) rfl rfl (by decide) (by decide) (hb hby d5_32) rfl (fun v14 T14 h14 L14 X14 e14 z14 => ?_)
  obtain ⟨rfl, Nq14, hq14⟩ := z14; replace e14 := e14.trans hq14; have N := Fr.app N Nq14
  refine og_sipush (v := 255) X14 hx rfl (hb hby d5_35) rfl ?_
  refine og_icmp_gt (pc1 := 54) (pc2 := 41) X14 hx (hb hby d5_38) (by decide) (by decide) rfl (fun _ => ?_) (fun q => absurd hbig q)
  refine og_aload X14 hx rfl rfl (hb hby d5_54) rfl ?_
  refine og_retR X14 hx hlk hret rfl rfl rfl (hb hby d5_56) (by decide) (by decide) ?_
  rw [e14]; exact ⟨_, _, rfl, N, K, sz_nb13, Or.inr ⟨V_nb13, fun q => absurd hbig q.1⟩⟩
 ·
  refine og_istore (L' := #[.val (.ref ca), .val (.int 0), .val (.int 2), .val (.ref nb11), .val (.int 1), .unset]) X12 hx rfl (hb hby d5_12) rfl ?_
  refine og_iload X12 hx rfl (hb hby d5_14) rfl ?_
  refine og_iloadN X12 hx rfl (hb hby d5_16) rfl ?_
  refine og_icmp_eq (pc1 := 57) (pc2 := 20) X12 hx (hb hby d5_17) (by decide) (by decide) rfl (fun q => absurd q (by decide)) (fun _ => ?_)
  refine og_aloadN X12 hx rfl rfl (hb hby d5_20) rfl ?_
  refine og_iloadN X12 hx rfl (hb hby d5_21) rfl ?_
  refine og_iloadN X12 hx rfl (hb hby d5_22) rfl ?_
  refine og_static (pc' := 26) (cells' := 2) (slots' := 6) (W := 0) X12 hx hZ (rm_tb2 l Z a0 hw ca kc c0 c1 h12 n0 O V_ca S__assertionsDisabled S_HI_BYTE_SHIFT S_LO_BYTE_SHIFT) hown (ow108 hw) (ow109 hw) (ow21 hw) (ow110 hw) (by decide) (by rw [hml]; rfl) e12 opd_4 [(.ref ca), (.int 0), (.int 2)] [] rfl rfl rfl rfl (by decide) (by decide) rfl rfl (by decide) (by decide) (hb hby d5_23) rfl (fun v15 T15 h15 L15 X15 e15 z15 => ?_)
  obtain ⟨nb15, k15, rfl, Nq15, K15, sb15, V_nb15⟩ := z15; have N := Fr.app N Nq15
  have s_nb15 : h12.size ≤ nb15 := sb15; have g_nb15 : n0 ≤ nb15 := Nat.le_trans (own_n0 O) s_nb15; have sz_nb15 : h0.size ≤ nb15 := Nat.le_trans K.1 s_nb15; have ne_ca_nb15 : ca ≠ nb15 := Nat.ne_of_lt (Nat.lt_of_lt_of_le V_ca.lt s_nb15); have ne_nb11_nb15 : nb11 ≠ nb15 := Nat.ne_of_lt (Nat.lt_of_lt_of_le V_nb11.lt s_nb15)
  have V_ca := V_ca.keep K15 nin0; have V_nb11 := V_nb11.keep K15 nin0; have O := O.keep K15 all0; have K := K.trans K15 all0
  refine og_astore (L' := #[.val (.ref ca), .val (.int 0), .val (.int 2), .val (.ref nb11), .val (.int 1), .val (.ref nb15)]) X15 hx rfl rfl (hb hby d5_26) rfl ?_
  refine og_aload X15 hx rfl rfl (hb hby d5_28) rfl ?_
  refine og_iload X15 hx rfl (hb hby d5_30) rfl ?_
  refine og_static (pc' := 35) (cells' := 2) (slots' := 6) (W := 0) X15 hx hZ (rm_gch_2_1 l Z a0 hw nb15 k15 c0 c1 hc0 hc1 h15 n0 O V_nb15 S__assertionsDisabled S_HI_BYTE_SHIFT S_LO_BYTE_SHIFT) hown (ow124 hw) (ow125 hw) (ow21 hw) (ow126 hw) (by decide) (by rw [hml]; rfl) e15 opd_5 [(.ref nb15), (.int 1)] [] rfl rfl rfl rfl (by decide) (by decide) rfl rfl (by decide) (by decide) (hb hby d5_32) rfl (fun v16 T16 h16 L16 X16 e16 z16 => ?_)
  obtain ⟨rfl, Nq16, hq16⟩ := z16; replace e16 := e16.trans hq16; have N := Fr.app N Nq16
  refine og_sipush (v := 255) X16 hx rfl (hb hby d5_35) rfl ?_
  refine og_icmp_gt (pc1 := 54) (pc2 := 41) X16 hx (hb hby d5_38) (by decide) (by decide) rfl (fun _ => ?_) (fun q => absurd hbig q)
  refine og_aload X16 hx rfl rfl (hb hby d5_54) rfl ?_
  refine og_retR X16 hx hlk hret rfl rfl rfl (hb hby d5_56) (by decide) (by decide) ?_
  rw [e16]; exact ⟨_, _, rfl, N, K, sz_nb15, Or.inr ⟨V_nb15, fun q => absurd hbig q.2⟩⟩
theorem rm_ucf2_2 (l : Launch) (Z : State) (a0 : Array Value) (hw : HW a0 Z) (ba : Addr) (kb : ClassId) (vs : List Value) (h0 : Heap) (n0 : Nat) (O : Old Z n0 h0) (V_ba : Arv Z h0 ba kb .byte (2 : Int32) vs (.int 0)) :
  Con l Z (⟨"java/lang/StringUTF16", "coderFromArrayLen", "([BI)B"⟩ : MethodName) jdk_52_method_15_code 2 (some .byte) ({ frames := 0, cells := 0, slots := 0, locals := 0 } : Room) #[(.ref ba), (.int 2)] h0 (fun v h L => v = some (.int 0) ∧ Fr n0 L ∧ h = h0) := by
 refine own_startC opn_7 ?_
 intro p e s m below meth c T0 X0 hx hby hml hZ hown hnm hret hlk e0
 have N := Fr.nil n0; have K := Keep.refl h0 []
 refine OG.cast (oef3 m ba (2 : Int32)) ?_
 refine og_iloadN X0 hx rfl (hb hby d7_0) rfl ?_
 refine og_aloadN X0 hx rfl rfl (hb hby d7_1) rfl ?_
 refine og_arraylength X0 hx hZ e0 V_ba (hb hby d7_2) rfl ?_
 refine og_isub X0 hx (hb hby d7_3) rfl ?_
 show OG p e below _ (T0.setTop (mkF m 4 #[.val (.ref ba), .val (.int 2)] [(.int 0)]))
 refine og_bipush (v := 31) X0 hx rfl (hb hby d7_4) rfl ?_
 refine og_iushr X0 hx (hb hby d7_6) rfl ?_
 show OG p e below _ (T0.setTop (mkF m 7 #[.val (.ref ba), .val (.int 2)] [(.int 0)]))
 refine og_i2b X0 hx (hb hby d7_7) rfl ?_
 show OG p e below _ (T0.setTop (mkF m 8 #[.val (.ref ba), .val (.int 2)] [(.int 0)]))
 refine og_retN X0 hx hlk hret (by simp) (hb hby d7_8) (by decide) (by decide) ?_
 rw [e0]; exact ⟨rfl, N, rfl⟩
theorem rm_ucf2_4 (l : Launch) (Z : State) (a0 : Array Value) (hw : HW a0 Z) (ba : Addr) (kb : ClassId) (vs : List Value) (h0 : Heap) (n0 : Nat) (O : Old Z n0 h0) (V_ba : Arv Z h0 ba kb .byte (4 : Int32) vs (.int 0)) :
  Con l Z (⟨"java/lang/StringUTF16", "coderFromArrayLen", "([BI)B"⟩ : MethodName) jdk_52_method_15_code 2 (some .byte) ({ frames := 0, cells := 0, slots := 0, locals := 0 } : Room) #[(.ref ba), (.int 2)] h0 (fun v h L => v = some (.int 1) ∧ Fr n0 L ∧ h = h0) := by
 refine own_startC opn_7 ?_
 intro p e s m below meth c T0 X0 hx hby hml hZ hown hnm hret hlk e0
 have N := Fr.nil n0; have K := Keep.refl h0 []
 refine OG.cast (oef3 m ba (2 : Int32)) ?_
 refine og_iloadN X0 hx rfl (hb hby d7_0) rfl ?_
 refine og_aloadN X0 hx rfl rfl (hb hby d7_1) rfl ?_
 refine og_arraylength X0 hx hZ e0 V_ba (hb hby d7_2) rfl ?_
 refine og_isub X0 hx (hb hby d7_3) rfl ?_
 show OG p e below _ (T0.setTop (mkF m 4 #[.val (.ref ba), .val (.int 2)] [(.int (-2))]))
 refine og_bipush (v := 31) X0 hx rfl (hb hby d7_4) rfl ?_
 refine og_iushr X0 hx (hb hby d7_6) rfl ?_
 show OG p e below _ (T0.setTop (mkF m 7 #[.val (.ref ba), .val (.int 2)] [(.int 1)]))
 refine og_i2b X0 hx (hb hby d7_7) rfl ?_
 show OG p e below _ (T0.setTop (mkF m 8 #[.val (.ref ba), .val (.int 2)] [(.int 1)]))
 refine og_retN X0 hx hlk hret (by simp) (hb hby d7_8) (by decide) (by decide) ?_
 rw [e0]; exact ⟨rfl, N, rfl⟩
theorem rm_uv2 (l : Launch) (Z : State) (a0 : Array Value) (hw : HW a0 Z) (a1 ca : Addr) (kc : ClassId) (c0 c1 : Int32) (hc0 : 0 ≤ c0.toInt ∧ c0.toInt ≤ 65535) (hc1 : 0 ≤ c1.toInt ∧ c1.toInt ≤ 65535) (cs : Int32) (hcs : ¬ cs = 0) (h0 : Heap) (n0 : Nat) (O : Old Z n0 h0) (E_a1 : Exa Z h0 a1 "java/lang/String") (F_value_a1 : Fld Z h0 a1 "java/lang/String" "value" "[B" .null) (F_coder_a1 : Fld Z h0 a1 "java/lang/String" "coder" "B" (.int 0)) (V_ca : Arv Z h0 ca kc .char (2 : Int32) [(.int c0), (.int c1)] (.int 0)) (S_CS : Sta Z Z.heap "java/lang/String" "COMPACT_STRINGS" "Z" (.int cs)) (S__assertionsDisabled : Sta Z Z.heap "java/lang/StringUTF16" "$assertionsDisabled" "Z" (.int 1)) (S_HI_BYTE_SHIFT : Sta Z Z.heap "java/lang/StringUTF16" "HI_BYTE_SHIFT" "I" (.int 0)) (S_LO_BYTE_SHIFT : Sta Z Z.heap "java/lang/StringUTF16" "LO_BYTE_SHIFT" "I" (.int 8)) (g_a1 : n0 ≤ a1) (ne_ca_a1 : ca ≠ a1) :
  Con l Z (⟨"java/lang/String", "<init>", "([CIILjava/lang/Void;)V"⟩ : MethodName) jdk_42_method_149_code 6 none ({ frames := 4, cells := 2, slots := 6, locals := 57 } : Room) #[(.ref a1), (.ref ca), (.int 0), (.int 2), .null] h0 (fun v h L => ∃ b k, v = none ∧ Fr n0 L ∧ Keep h0 h [a1] ∧ h0.size ≤ b ∧ Exa Z h a1 "java/lang/String" ∧ Fld Z h a1 "java/lang/String" "value" "[B" (.ref b) ∧ ((Fld Z h a1 "java/lang/String" "coder" "B" (.int 0) ∧ (Arv Z h b k .byte (2 : Int32) [(.int c0.toInt8.toInt32), (.int c1.toInt8.toInt32)] (.int 0) ∧ ¬ 255 < c0 ∧ ¬ 255 < c1)) ∨ (Fld Z h a1 "java/lang/String" "coder" "B" (.int 1) ∧ (Arv Z h b k .byte (4 : Int32) [(.int c0.toInt8.toInt32), (.int (c0 >>> ((8 : Int32) &&& 31)).toInt8.toInt32), (.int c1.toInt8.toInt32), (.int (c1 >>> ((8 : Int32) &&& 31)).toInt8.toInt32)] (.int 0) ∧ ¬ (¬ 255 < c0 ∧ ¬ 255 < c1))))) := by
 refine own_startC opn_3 ?_
 intro p e s m below meth c T0 X0 hx hby hml hZ hown hnm hret hlk e0
 have N := Fr.nil n0; have K := Keep.refl h0 [a1]
 refine OG.cast (oef6 m a1 ca (0 : Int32) (2 : Int32)) ?_
 refine og_aloadN X0 hx rfl rfl (hb hby d3_0) rfl ?_
 refine og_initO (pc' := 4) X0 hx hZ (W := 0) (by rw [hml]; rfl) hown (ow15 hw) (ow16 hw) (ow17 hw) e0 rfl (by decide) (by decide) (hb hby d3_1) rfl (fun T11 X11 e11 => ?_)
 refine og_iloadN X11 hx rfl (hb hby d3_4) rfl ?_
 refine og_if_ne (pc1 := 27) (pc2 := 8) X11 hx (hb hby d3_5) (by decide) (by decide) rfl (fun _ => ?_) (fun q => absurd q (by decide))
 refine og_getstatic X11 hx hZ (host := "") hown (Or.inl (ow18 hw)) Via.refl e11 (S_CS.ext O.2) (hb hby d3_27) rfl (fun T12 X12 e12 => ?_)
 refine og_if_eq (pc1 := 58) (pc2 := 33) X12 hx (hb hby d3_30) (by decide) (by decide) rfl (fun q => absurd q hcs) (fun _ => ?_)
 refine og_aloadN X12 hx rfl rfl (hb hby d3_33) rfl ?_
 refine og_iloadN X12 hx rfl (hb hby d3_34) rfl ?_
 refine og_iloadN X12 hx rfl (hb hby d3_35) rfl ?_
 refine og_static (pc' := 39) (cells' := 2) (slots' := 6) (W := 0) X12 hx hZ (rm_uc2 l Z a0 hw ca kc c0 c1 hc0 hc1 h0 n0 O V_ca S__assertionsDisabled S_HI_BYTE_SHIFT S_LO_BYTE_SHIFT) hown (ow19 hw) (ow20 hw) (ow21 hw) (ow22 hw) (by decide) (by rw [hml]; rfl) e12 opd_4 [(.ref ca), (.int 0), (.int 2)] [] rfl rfl rfl rfl (by decide) (by decide) rfl rfl (by decide) (by decide) (hb hby d3_36) rfl (fun v13 T13 h13 L13 X13 e13 z13 => ?_)
 obtain ⟨nb13, k13, rfl, Nq13, K13, sb13, hd⟩ := z13; have N := Fr.app N Nq13
 have s_nb13 : h0.size ≤ nb13 := sb13; have g_nb13 : n0 ≤ nb13 := Nat.le_trans (own_n0 O) s_nb13; have sz_nb13 : h0.size ≤ nb13 := Nat.le_trans K.1 s_nb13; have ne_a1_nb13 : a1 ≠ nb13 := Nat.ne_of_lt (Nat.lt_of_lt_of_le E_a1.lt s_nb13); have ne_ca_nb13 : ca ≠ nb13 := Nat.ne_of_lt (Nat.lt_of_lt_of_le V_ca.lt s_nb13)
 have E_a1 := E_a1.keep K13; have F_value_a1 := F_value_a1.keep K13 nin0; have F_coder_a1 := F_coder_a1.keep K13 nin0; have V_ca := V_ca.keep K13 nin0; have O := O.keep K13 all0; have K := K.trans K13 all0
 rcases hd with ⟨V_nb13, hsm⟩ | ⟨V_nb13, hsm⟩
 ·
  refine og_astore (L' := #[.val (.ref a1), .val (.ref ca), .val (.int 0), .val (.int 2), .val .null, .val (.ref nb13)]) X13 hx rfl rfl (hb hby d3_39) rfl ?_
  refine og_aloadN X13 hx rfl rfl (hb hby d3_41) rfl ?_
  refine og_aload X13 hx rfl rfl (hb hby d3_42) rfl ?_
  refine og_iloadN X13 hx rfl (hb hby d3_44) rfl ?_
  refine og_static (pc' := 48) (cells' := 2) (slots' := 6) (W := 1) X13 hx hZ (rm_ucf2_2 l Z a0 hw nb13 k13 _ h13 n0 O V_nb13) hown (ow27 hw) (ow28 hw) (ow21 hw) (ow29 hw) (by decide) (by rw [hml]; rfl) e13 opd_6 [(.ref nb13), (.int 2)] [(.ref a1)] rfl rfl rfl rfl (by decide) (by decide) rfl rfl (by decide) (by decide) (hb hby d3_45) rfl (fun v14 T14 h14 L14 X14 e14 z14 => ?_)
  obtain ⟨rfl, Nq14, hq14⟩ := z14; replace e14 := e14.trans hq14; have N := Fr.app N Nq14
  refine og_putfield X14 hx hZ (ty := .byte) (host := "") hown (Or.inl (ow30 hw)) Via.refl e14 F_coder_a1 E_a1 (Or.inr ⟨(ow31 hw), rfl, hnm⟩) (ow6 hw) (by decide) rfl rfl (hb hby d3_48) rfl (fun T15 h15 X15 e15 W15 => ?_)
  have F_coder_a1_ := F_coder_a1.same W15
  have E_a1 := E_a1.wr W15; have F_value_a1 := F_value_a1.other W15 (Or.inr (slot_ne (Or.inr (ow33 hw)) (Or.inr (ow31 hw)) (by decide) (t := (.array .byte)) (t' := .byte) (by decide) (by decide))); have V_ca := V_ca.other W15 ne_ca_a1; have V_nb13 := V_nb13.other W15 (Ne.symm ne_a1_nb13); have O := O.wr W15 g_a1; have K := K.wr W15 (Or.inl (List.mem_of_getElem? (i := 0) rfl))
  have N := Fr.snoc X15 N g_a1; have F_coder_a1 := F_coder_a1_
  refine og_aloadN X15 hx rfl rfl (hb hby d3_51) rfl ?_
  refine og_aload X15 hx rfl rfl (hb hby d3_52) rfl ?_
  refine og_putfield X15 hx hZ (ty := (.array .byte)) (host := "") hown (Or.inl (ow32 hw)) Via.refl e15 F_value_a1 E_a1 (Or.inr ⟨(ow33 hw), rfl, hnm⟩) (ow6 hw) (by decide) rfl rfl (hb hby d3_54) rfl (fun T16 h16 X16 e16 W16 => ?_)
  have F_value_a1_ := F_value_a1.same W16
  have E_a1 := E_a1.wr W16; have V_ca := V_ca.other W16 ne_ca_a1; have V_nb13 := V_nb13.other W16 (Ne.symm ne_a1_nb13); have F_coder_a1 := F_coder_a1.other W16 (Or.inr (slot_ne (Or.inr (ow31 hw)) (Or.inr (ow33 hw)) (by decide) (t := .byte) (t' := (.array .byte)) (by decide) (by decide))); have O := O.wr W16 g_a1; have K := K.wr W16 (Or.inl (List.mem_of_getElem? (i := 0) rfl))
  have N := Fr.snoc X16 N g_a1; have F_value_a1 := F_value_a1_
  refine og_retV X16 hx hlk hret (hb hby d3_57) (by decide) (by decide) ?_
  rw [e16]; exact ⟨_, _, rfl, N, K, sz_nb13, E_a1, F_value_a1, Or.inl ⟨F_coder_a1, V_nb13, hsm⟩⟩
 ·
  refine og_astore (L' := #[.val (.ref a1), .val (.ref ca), .val (.int 0), .val (.int 2), .val .null, .val (.ref nb13)]) X13 hx rfl rfl (hb hby d3_39) rfl ?_
  refine og_aloadN X13 hx rfl rfl (hb hby d3_41) rfl ?_
  refine og_aload X13 hx rfl rfl (hb hby d3_42) rfl ?_
  refine og_iloadN X13 hx rfl (hb hby d3_44) rfl ?_
  refine og_static (pc' := 48) (cells' := 2) (slots' := 6) (W := 1) X13 hx hZ (rm_ucf2_4 l Z a0 hw nb13 k13 _ h13 n0 O V_nb13) hown (ow27 hw) (ow28 hw) (ow21 hw) (ow29 hw) (by decide) (by rw [hml]; rfl) e13 opd_6 [(.ref nb13), (.int 2)] [(.ref a1)] rfl rfl rfl rfl (by decide) (by decide) rfl rfl (by decide) (by decide) (hb hby d3_45) rfl (fun v17 T17 h17 L17 X17 e17 z17 => ?_)
  obtain ⟨rfl, Nq17, hq17⟩ := z17; replace e17 := e17.trans hq17; have N := Fr.app N Nq17
  refine og_putfield X17 hx hZ (ty := .byte) (host := "") hown (Or.inl (ow30 hw)) Via.refl e17 F_coder_a1 E_a1 (Or.inr ⟨(ow31 hw), rfl, hnm⟩) (ow6 hw) (by decide) rfl rfl (hb hby d3_48) rfl (fun T18 h18 X18 e18 W18 => ?_)
  have F_coder_a1_ := F_coder_a1.same W18
  have E_a1 := E_a1.wr W18; have F_value_a1 := F_value_a1.other W18 (Or.inr (slot_ne (Or.inr (ow33 hw)) (Or.inr (ow31 hw)) (by decide) (t := (.array .byte)) (t' := .byte) (by decide) (by decide))); have V_ca := V_ca.other W18 ne_ca_a1; have V_nb13 := V_nb13.other W18 (Ne.symm ne_a1_nb13); have O := O.wr W18 g_a1; have K := K.wr W18 (Or.inl (List.mem_of_getElem? (i := 0) rfl))
  have N := Fr.snoc X18 N g_a1; have F_coder_a1 := F_coder_a1_
  refine og_aloadN X18 hx rfl rfl (hb hby d3_51) rfl ?_
  refine og_aload X18 hx rfl rfl (hb hby d3_52) rfl ?_
  refine og_putfield X18 hx hZ (ty := (.array .byte)) (host := "") hown (Or.inl (ow32 hw)) Via.refl e18 F_value_a1 E_a1 (Or.inr ⟨(ow33 hw), rfl, hnm⟩) (ow6 hw) (by decide) rfl rfl (hb hby d3_54) rfl (fun T19 h19 X19 e19 W19 => ?_)
  have F_value_a1_ := F_value_a1.same W19
  have E_a1 := E_a1.wr W19; have V_ca := V_ca.other W19 ne_ca_a1; have V_nb13 := V_nb13.other W19 (Ne.symm ne_a1_nb13); have F_coder_a1 := F_coder_a1.other W19 (Or.inr (slot_ne (Or.inr (ow31 hw)) (Or.inr (ow33 hw)) (by decide) (t := .byte) (t' := (.array .byte)) (by decide) (by decide))); have O := O.wr W19 g_a1; have K := K.wr W19 (Or.inl (List.mem_of_getElem? (i := 0) rfl))
  have N := Fr.snoc X19 N g_a1; have F_value_a1 := F_value_a1_
  refine og_retV X19 hx hlk hret (hb hby d3_57) (by decide) (by decide) ?_
  rw [e19]; exact ⟨_, _, rfl, N, K, sz_nb13, E_a1, F_value_a1, Or.inr ⟨F_coder_a1, V_nb13, hsm⟩⟩
theorem rm_un2 (l : Launch) (Z : State) (a0 : Array Value) (hw : HW a0 Z) (a1 ca : Addr) (kc : ClassId) (c0 c1 : Int32) (hc0 : 0 ≤ c0.toInt ∧ c0.toInt ≤ 65535) (hc1 : 0 ≤ c1.toInt ∧ c1.toInt ≤ 65535) (cs : Int32) (hcs : ¬ cs = 0) (h0 : Heap) (n0 : Nat) (O : Old Z n0 h0) (E_a1 : Exa Z h0 a1 "java/lang/String") (F_value_a1 : Fld Z h0 a1 "java/lang/String" "value" "[B" .null) (F_coder_a1 : Fld Z h0 a1 "java/lang/String" "coder" "B" (.int 0)) (V_ca : Arv Z h0 ca kc .char (2 : Int32) [(.int c0), (.int c1)] (.int 0)) (S_CS : Sta Z Z.heap "java/lang/String" "COMPACT_STRINGS" "Z" (.int cs)) (S__assertionsDisabled : Sta Z Z.heap "java/lang/StringUTF16" "$assertionsDisabled" "Z" (.int 1)) (S_HI_BYTE_SHIFT : Sta Z Z.heap "java/lang/StringUTF16" "HI_BYTE_SHIFT" "I" (.int 0)) (S_LO_BYTE_SHIFT : Sta Z Z.heap "java/lang/StringUTF16" "LO_BYTE_SHIFT" "I" (.int 8)) (g_a1 : n0 ≤ a1) (ne_ca_a1 : ca ≠ a1) :
  Con l Z (⟨"java/lang/String", "<init>", "([C)V"⟩ : MethodName) jdk_42_method_3_code 2 none ({ frames := 5, cells := 2, slots := 6, locals := 74 } : Room) #[(.ref a1), (.ref ca)] h0 (fun v h L => ∃ b k, v = none ∧ Fr n0 L ∧ Keep h0 h [a1] ∧ h0.size ≤ b ∧ Exa Z h a1 "java/lang/String" ∧ Fld Z h a1 "java/lang/String" "value" "[B" (.ref b) ∧ ((Fld Z h a1 "java/lang/String" "coder" "B" (.int 0) ∧ (Arv Z h b k .byte (2 : Int32) [(.int c0.toInt8.toInt32), (.int c1.toInt8.toInt32)] (.int 0) ∧ ¬ 255 < c0 ∧ ¬ 255 < c1)) ∨ (Fld Z h a1 "java/lang/String" "coder" "B" (.int 1) ∧ (Arv Z h b k .byte (4 : Int32) [(.int c0.toInt8.toInt32), (.int (c0 >>> ((8 : Int32) &&& 31)).toInt8.toInt32), (.int c1.toInt8.toInt32), (.int (c1 >>> ((8 : Int32) &&& 31)).toInt8.toInt32)] (.int 0) ∧ ¬ (¬ 255 < c0 ∧ ¬ 255 < c1))))) := by
 refine own_startC opn_2 ?_
 intro p e s m below meth c T0 X0 hx hby hml hZ hown hnm hret hlk e0
 have N := Fr.nil n0; have K := Keep.refl h0 [a1]
 refine OG.cast (oef7 m a1 ca) ?_
 refine og_aloadN X0 hx rfl rfl (hb hby d2_0) rfl ?_
 refine og_aloadN X0 hx rfl rfl (hb hby d2_1) rfl ?_
 refine og_iconst (v := 0) X0 hx rfl (hb hby d2_2) rfl ?_
 refine og_aloadN X0 hx rfl rfl (hb hby d2_3) rfl ?_
 refine og_arraylength X0 hx hZ e0 V_ca (hb hby d2_4) rfl ?_
 refine og_aconst_null X0 hx (hb hby d2_5) rfl ?_
 refine og_special (pc' := 9) (cells' := 2) (slots' := 6) (W := 0) X0 hx hZ (rm_uv2 l Z a0 hw a1 ca kc c0 c1 hc0 hc1 cs hcs h0 n0 O E_a1 F_value_a1 F_coder_a1 V_ca S_CS S__assertionsDisabled S_HI_BYTE_SHIFT S_LO_BYTE_SHIFT g_a1 ne_ca_a1) rfl hown (ow11 hw) (ow12 hw) (ow7 hw) (ow14 hw) (by decide) (by rw [hml]; rfl) e0 opd_7 [(.ref ca), (.int 0), (.int 2), .null] [] rfl rfl rfl rfl (by decide) (by decide) rfl rfl (by decide) (by decide) (hb hby d2_6) rfl (fun v11 T11 h11 L11 X11 e11 z11 => ?_)
 obtain ⟨nb11, k11, rfl, Nq11, K11, sb11, E_a1', F_value_a1', hd⟩ := z11; have N := Fr.app N Nq11
 have s_nb11 : h0.size ≤ nb11 := sb11; have g_nb11 : n0 ≤ nb11 := Nat.le_trans (own_n0 O) s_nb11; have sz_nb11 : h0.size ≤ nb11 := Nat.le_trans K.1 s_nb11; have ne_a1_nb11 : a1 ≠ nb11 := Nat.ne_of_lt (Nat.lt_of_lt_of_le E_a1.lt s_nb11); have ne_ca_nb11 : ca ≠ nb11 := Nat.ne_of_lt (Nat.lt_of_lt_of_le V_ca.lt s_nb11)
 have E_a1 := E_a1.keep K11; have V_ca := V_ca.keep K11 (ninS ne_ca_a1 nin0); have O := O.keep K11 (allS g_a1 all0); have K := K.trans K11 (allS (Or.inl (List.mem_of_getElem? (i := 0) rfl)) all0)
 have E_a1 := E_a1'; have F_value_a1 := F_value_a1'
 refine og_retV X11 hx hlk hret (hb hby d2_9) (by decide) (by decide) ?_
 rw [e11]; exact ⟨_, _, rfl, N, K, sz_nb11, E_a1, F_value_a1, hd⟩
theorem rm_pc_3_0 (l : Launch) (Z : State) (a0 : Array Value) (hw : HW a0 Z) (ba : Addr) (kb : ClassId) (cx v0 v1 v2 v3 v4 v5 : Int32) (h0 : Heap) (n0 : Nat) (O : Old Z n0 h0) (V_ba : Arv Z h0 ba kb .byte (6 : Int32) [(.int v0), (.int v1), (.int v2), (.int v3), (.int v4), (.int v5)] (.int 0)) (S__assertionsDisabled : Sta Z Z.heap "java/lang/StringUTF16" "$assertionsDisabled" "Z" (.int 1)) (S_HI_BYTE_SHIFT : Sta Z Z.heap "java/lang/StringUTF16" "HI_BYTE_SHIFT" "I" (.int 0)) (S_LO_BYTE_SHIFT : Sta Z Z.heap "java/lang/StringUTF16" "LO_BYTE_SHIFT" "I" (.int 8)) (g_ba : n0 ≤ ba) :
  Con l Z (⟨"java/lang/StringUTF16", "putChar", "([BII)V"⟩ : MethodName) jdk_52_method_4_code 3 none ({ frames := 0, cells := 0, slots := 0, locals := 0 } : Room) #[(.ref ba), (.int 0), (.int cx)] h0 (fun v h L => v = none ∧ Fr n0 L ∧ Keep h0 h [ba] ∧ Arv Z h ba kb .byte (6 : Int32) [(.int cx.toInt8.toInt32), (.int (cx >>> ((8 : Int32) &&& 31)).toInt8.toInt32), (.int v2), (.int v3), (.int v4), (.int v5)] (.int 0)) := by
 refine own_startC opn_27 ?_
 intro p e s m below meth c T0 X0 hx hby hml hZ hown hnm hret hlk e0
 have N := Fr.nil n0; have K := Keep.refl h0 [ba]
 refine OG.cast (oef0 m ba (0 : Int32) cx) ?_
 refine og_getstatic X0 hx hZ (host := "") hown (Or.inl (ow121 hw)) Via.refl e0 (S__assertionsDisabled.ext O.2) (hb hby d27_0) rfl (fun T11 X11 e11 => ?_)
 refine og_if_ne (pc1 := 28) (pc2 := 6) X11 hx (hb hby d27_3) (by decide) (by decide) rfl (fun _ => ?_) (fun q => absurd q (by decide))
 refine og_iloadN X11 hx rfl (hb hby d27_28) rfl ?_
 refine og_iconst (v := 1) X11 hx rfl (hb hby d27_29) rfl ?_
 refine og_ishl X11 hx (hb hby d27_30) rfl ?_
 show OG p e below _ (T11.setTop (mkF m 31 #[.val (.ref ba), .val (.int 0), .val (.int cx)] [(.int 0)]))
 refine og_istoreN (L' := #[.val (.ref ba), .val (.int 0), .val (.int cx)]) X11 hx rfl (hb hby d27_31) rfl ?_
 refine og_aloadN X11 hx rfl rfl (hb hby d27_32) rfl ?_
 refine og_iloadN X11 hx rfl (hb hby d27_33) rfl ?_
 refine og_iinc (L' := #[.val (.ref ba), .val (.int 1), .val (.int cx)]) (w := 1) X11 hx rfl rfl rfl (hb hby d27_34) rfl ?_
 refine og_iloadN X11 hx rfl (hb hby d27_37) rfl ?_
 refine og_getstatic X11 hx hZ (host := "") hown (Or.inl (ow122 hw)) Via.refl e11 (S_HI_BYTE_SHIFT.ext O.2) (hb hby d27_38) rfl (fun T12 X12 e12 => ?_)
 refine og_ishr X12 hx (hb hby d27_41) rfl ?_
 rw [own_shr0]
 refine og_i2b X12 hx (hb hby d27_42) rfl ?_
 refine og_bastore X12 hx hZ e12 V_ba ⟨by decide, by decide⟩ 0 (by decide) (Nat.le_of_ble_eq_true rfl) (hb hby d27_43) rfl (fun T13 h13 X13 e13 W13 V13 => ?_)
 have O := O.wr W13 g_ba; have K := K.wr W13 (Or.inl (List.mem_of_getElem? (i := 0) rfl))
 have N := Fr.snoc X13 N g_ba
 have V_ba : Arv Z h13 ba kb .byte (6 : Int32) [(.int (nar .byte (cx.toInt8.toInt32))), (.int v1), (.int v2), (.int v3), (.int v4), (.int v5)] (.int 0) := V13
 rw [own_nb] at V_ba
 refine og_aloadN X13 hx rfl rfl (hb hby d27_44) rfl ?_
 refine og_iloadN X13 hx rfl (hb hby d27_45) rfl ?_
 refine og_iloadN X13 hx rfl (hb hby d27_46) rfl ?_
 refine og_getstatic X13 hx hZ (host := "") hown (Or.inl (ow123 hw)) Via.refl e13 (S_LO_BYTE_SHIFT.ext O.2) (hb hby d27_47) rfl (fun T14 X14 e14 => ?_)
 refine og_ishr X14 hx (hb hby d27_50) rfl ?_
 refine og_i2b X14 hx (hb hby d27_51) rfl ?_
 refine og_bastore X14 hx hZ e14 V_ba ⟨by decide, by decide⟩ 1 (by decide) (Nat.le_of_ble_eq_true rfl) (hb hby d27_52) rfl (fun T15 h15 X15 e15 W15 V15 => ?_)
 have O := O.wr W15 g_ba; have K := K.wr W15 (Or.inl (List.mem_of_getElem? (i := 0) rfl))
 have N := Fr.snoc X15 N g_ba
 have V_ba : Arv Z h15 ba kb .byte (6 : Int32) [(.int cx.toInt8.toInt32), (.int (nar .byte ((cx >>> ((8 : Int32) &&& 31)).toInt8.toInt32))), (.int v2), (.int v3), (.int v4), (.int v5)] (.int 0) := V15
 rw [own_nb] at V_ba
 refine og_retV X15 hx hlk hret (hb hby d27_53) (by decide) (by decide) ?_
 rw [e15]; exact ⟨rfl, N, K, V_ba⟩
theorem rm_pc_3_1 (l : Launch) (Z : State) (a0 : Array Value) (hw : HW a0 Z) (ba : Addr) (kb : ClassId) (cx v0 v1 v2 v3 v4 v5 : Int32) (h0 : Heap) (n0 : Nat) (O : Old Z n0 h0) (V_ba : Arv Z h0 ba kb .byte (6 : Int32) [(.int v0), (.int v1), (.int v2), (.int v3), (.int v4), (.int v5)] (.int 0)) (S__assertionsDisabled : Sta Z Z.heap "java/lang/StringUTF16" "$assertionsDisabled" "Z" (.int 1)) (S_HI_BYTE_SHIFT : Sta Z Z.heap "java/lang/StringUTF16" "HI_BYTE_SHIFT" "I" (.int 0)) (S_LO_BYTE_SHIFT : Sta Z Z.heap "java/lang/StringUTF16" "LO_BYTE_SHIFT" "I" (.int 8)) (g_ba : n0 ≤ ba) :
  Con l Z (⟨"java/lang/StringUTF16", "putChar", "([BII)V"⟩ : MethodName) jdk_52_method_4_code 3 none ({ frames := 0, cells := 0, slots := 0, locals := 0 } : Room) #[(.ref ba), (.int 1), (.int cx)] h0 (fun v h L => v = none ∧ Fr n0 L ∧ Keep h0 h [ba] ∧ Arv Z h ba kb .byte (6 : Int32) [(.int v0), (.int v1), (.int cx.toInt8.toInt32), (.int (cx >>> ((8 : Int32) &&& 31)).toInt8.toInt32), (.int v4), (.int v5)] (.int 0)) := by
 refine own_startC opn_27 ?_
 intro p e s m below meth c T0 X0 hx hby hml hZ hown hnm hret hlk e0
 have N := Fr.nil n0; have K := Keep.refl h0 [ba]
 refine OG.cast (oef0 m ba (1 : Int32) cx) ?_
 refine og_getstatic X0 hx hZ (host := "") hown (Or.inl (ow121 hw)) Via.refl e0 (S__assertionsDisabled.ext O.2) (hb hby d27_0) rfl (fun T11 X11 e11 => ?_)
 refine og_if_ne (pc1 := 28) (pc2 := 6) X11 hx (hb hby d27_3) (by decide) (by decide) rfl (fun _ => ?_) (fun q => absurd q (by decide))
 refine og_iloadN X11 hx rfl (hb hby d27_28) rfl ?_
 refine og_iconst (v := 1) X11 hx rfl (hb hby d27_29) rfl ?_
 refine og_ishl X11 hx (hb hby d27_30) rfl ?_
 show OG p e below _ (T11.setTop (mkF m 31 #[.val (.ref ba), .val (.int 1), .val (.int cx)] [(.int 2)]))
 refine og_istoreN (L' := #[.val (.ref ba), .val (.int 2), .val (.int cx)]) X11 hx rfl (hb hby d27_31) rfl ?_
 refine og_aloadN X11 hx rfl rfl (hb hby d27_32) rfl ?_
 refine og_iloadN X11 hx rfl (hb hby d27_33) rfl ?_
 refine og_iinc (L' := #[.val (.ref ba), .val (.int 3), .val (.int cx)]) (w := 1) X11 hx rfl rfl rfl (hb hby d27_34) rfl ?_
 refine og_iloadN X11 hx rfl (hb hby d27_37) rfl ?_
 refine og_getstatic X11 hx hZ (host := "") hown (Or.inl (ow122 hw)) Via.refl e11 (S_HI_BYTE_SHIFT.ext O.2) (hb hby d27_38) rfl (fun T12 X12 e12 => ?_)
 refine og_ishr X12 hx (hb hby d27_41) rfl ?_
 rw [own_shr0]
 refine og_i2b X12 hx (hb hby d27_42) rfl ?_
 refine og_bastore X12 hx hZ e12 V_ba ⟨by decide, by decide⟩ 2 (by decide) (Nat.le_of_ble_eq_true rfl) (hb hby d27_43) rfl (fun T13 h13 X13 e13 W13 V13 => ?_)
 have O := O.wr W13 g_ba; have K := K.wr W13 (Or.inl (List.mem_of_getElem? (i := 0) rfl))
 have N := Fr.snoc X13 N g_ba
 have V_ba : Arv Z h13 ba kb .byte (6 : Int32) [(.int v0), (.int v1), (.int (nar .byte (cx.toInt8.toInt32))), (.int v3), (.int v4), (.int v5)] (.int 0) := V13
 rw [own_nb] at V_ba
 refine og_aloadN X13 hx rfl rfl (hb hby d27_44) rfl ?_
 refine og_iloadN X13 hx rfl (hb hby d27_45) rfl ?_
 refine og_iloadN X13 hx rfl (hb hby d27_46) rfl ?_
 refine og_getstatic X13 hx hZ (host := "") hown (Or.inl (ow123 hw)) Via.refl e13 (S_LO_BYTE_SHIFT.ext O.2) (hb hby d27_47) rfl (fun T14 X14 e14 => ?_)
 refine og_ishr X14 hx (hb hby d27_50) rfl ?_
 refine og_i2b X14 hx (hb hby d27_51) rfl ?_
 refine og_bastore X14 hx hZ e14 V_ba ⟨by decide, by decide⟩ 3 (by decide) (Nat.le_of_ble_eq_true rfl) (hb hby d27_52) rfl (fun T15 h15 X15 e15 W15 V15 => ?_)
 have O := O.wr W15 g_ba; have K := K.wr W15 (Or.inl (List.mem_of_getElem? (i := 0) rfl))
 have N := Fr.snoc X15 N g_ba
 have V_ba : Arv Z h15 ba kb .byte (6 : Int32) [(.int v0), (.int v1), (.int cx.toInt8.toInt32), (.int (nar .byte ((cx >>> ((8 : Int32) &&& 31)).toInt8.toInt32))), (.int v4), (.int v5)] (.int 0) := V15
 rw [own_nb] at V_ba
 refine og_retV X15 hx hlk hret (hb hby d27_53) (by decide) (by decide) ?_
 rw [e15]; exact ⟨rfl, N, K, V_ba⟩
theorem rm_pc_3_2 (l : Launch) (Z : State) (a0 : Array Value) (hw : HW a0 Z) (ba : Addr) (kb : ClassId) (cx v0 v1 v2 v3 v4 v5 : Int32) (h0 : Heap) (n0 : Nat) (O : Old Z n0 h0) (V_ba : Arv Z h0 ba kb .byte (6 : Int32) [(.int v0), (.int v1), (.int v2), (.int v3), (.int v4), (.int v5)] (.int 0)) (S__assertionsDisabled : Sta Z Z.heap "java/lang/StringUTF16" "$assertionsDisabled" "Z" (.int 1)) (S_HI_BYTE_SHIFT : Sta Z Z.heap "java/lang/StringUTF16" "HI_BYTE_SHIFT" "I" (.int 0)) (S_LO_BYTE_SHIFT : Sta Z Z.heap "java/lang/StringUTF16" "LO_BYTE_SHIFT" "I" (.int 8)) (g_ba : n0 ≤ ba) :
  Con l Z (⟨"java/lang/StringUTF16", "putChar", "([BII)V"⟩ : MethodName) jdk_52_method_4_code 3 none ({ frames := 0, cells := 0, slots := 0, locals := 0 } : Room) #[(.ref ba), (.int 2), (.int cx)] h0 (fun v h L => v = none ∧ Fr n0 L ∧ Keep h0 h [ba] ∧ Arv Z h ba kb .byte (6 : Int32) [(.int v0), (.int v1), (.int v2), (.int v3), (.int cx.toInt8.toInt32), (.int (cx >>> ((8 : Int32) &&& 31)).toInt8.toInt32)] (.int 0)) := by
 refine own_startC opn_27 ?_
 intro p e s m below meth c T0 X0 hx hby hml hZ hown hnm hret hlk e0
 have N := Fr.nil n0; have K := Keep.refl h0 [ba]
 refine OG.cast (oef0 m ba (2 : Int32) cx) ?_
 refine og_getstatic X0 hx hZ (host := "") hown (Or.inl (ow121 hw)) Via.refl e0 (S__assertionsDisabled.ext O.2) (hb hby d27_0) rfl (fun T11 X11 e11 => ?_)
 refine og_if_ne (pc1 := 28) (pc2 := 6) X11 hx (hb hby d27_3) (by decide) (by decide) rfl (fun _ => ?_) (fun q => absurd q (by decide))
 refine og_iloadN X11 hx rfl (hb hby d27_28) rfl ?_
 refine og_iconst (v := 1) X11 hx rfl (hb hby d27_29) rfl ?_
 refine og_ishl X11 hx (hb hby d27_30) rfl ?_
 show OG p e below _ (T11.setTop (mkF m 31 #[.val (.ref ba), .val (.int 2), .val (.int cx)] [(.int 4)]))
 refine og_istoreN (L' := #[.val (.ref ba), .val (.int 4), .val (.int cx)]) X11 hx rfl (hb hby d27_31) rfl ?_
 refine og_aloadN X11 hx rfl rfl (hb hby d27_32) rfl ?_
 refine og_iloadN X11 hx rfl (hb hby d27_33) rfl ?_
 refine og_iinc (L' := #[.val (.ref ba), .val (.int 5), .val (.int cx)]) (w := 1) X11 hx rfl rfl rfl (hb hby d27_34) rfl ?_
 refine og_iloadN X11 hx rfl (hb hby d27_37) rfl ?_
 refine og_getstatic X11 hx hZ (host := "") hown (Or.inl (ow122 hw)) Via.refl e11 (S_HI_BYTE_SHIFT.ext O.2) (hb hby d27_38) rfl (fun T12 X12 e12 => ?_)
 refine og_ishr X12 hx (hb hby d27_41) rfl ?_
 rw [own_shr0]
 refine og_i2b X12 hx (hb hby d27_42) rfl ?_
 refine og_bastore X12 hx hZ e12 V_ba ⟨by decide, by decide⟩ 4 (by decide) (Nat.le_of_ble_eq_true rfl) (hb hby d27_43) rfl (fun T13 h13 X13 e13 W13 V13 => ?_)
 have O := O.wr W13 g_ba; have K := K.wr W13 (Or.inl (List.mem_of_getElem? (i := 0) rfl))
 have N := Fr.snoc X13 N g_ba
 have V_ba : Arv Z h13 ba kb .byte (6 : Int32) [(.int v0), (.int v1), (.int v2), (.int v3), (.int (nar .byte (cx.toInt8.toInt32))), (.int v5)] (.int 0) := V13
 rw [own_nb] at V_ba
 refine og_aloadN X13 hx rfl rfl (hb hby d27_44) rfl ?_
 refine og_iloadN X13 hx rfl (hb hby d27_45) rfl ?_
 refine og_iloadN X13 hx rfl (hb hby d27_46) rfl ?_
 refine og_getstatic X13 hx hZ (host := "") hown (Or.inl (ow123 hw)) Via.refl e13 (S_LO_BYTE_SHIFT.ext O.2) (hb hby d27_47) rfl (fun T14 X14 e14 => ?_)
 refine og_ishr X14 hx (hb hby d27_50) rfl ?_
 refine og_i2b X14 hx (hb hby d27_51) rfl ?_
 refine og_bastore X14 hx hZ e14 V_ba ⟨by decide, by decide⟩ 5 (by decide) (Nat.le_of_ble_eq_true rfl) (hb hby d27_52) rfl (fun T15 h15 X15 e15 W15 V15 => ?_)
 have O := O.wr W15 g_ba; have K := K.wr W15 (Or.inl (List.mem_of_getElem? (i := 0) rfl))
 have N := Fr.snoc X15 N g_ba
 have V_ba : Arv Z h15 ba kb .byte (6 : Int32) [(.int v0), (.int v1), (.int v2), (.int v3), (.int cx.toInt8.toInt32), (.int (nar .byte ((cx >>> ((8 : Int32) &&& 31)).toInt8.toInt32)))] (.int 0) := V15
 rw [own_nb] at V_ba
 refine og_retV X15 hx hlk hret (hb hby d27_53) (by decide) (by decide) ?_
 rw [e15]; exact ⟨rfl, N, K, V_ba⟩
theorem rm_nbl3 (l : Launch) (Z : State) (a0 : Array Value) (hw : HW a0 Z)  (h0 : Heap) (n0 : Nat) (O : Old Z n0 h0) :
  Con l Z (⟨"java/lang/StringUTF16", "newBytesLength", "(I)I"⟩ : MethodName) jdk_52_method_3_code 1 (some .int) ({ frames := 0, cells := 0, slots := 0, locals := 0 } : Room) #[(.int 3)] h0 (fun v h L => v = some (.int 6) ∧ Fr n0 L ∧ h = h0) := by
 refine own_startC opn_26 ?_
 intro p e s m below meth c T0 X0 hx hby hml hZ hown hnm hret hlk e0
 have N := Fr.nil n0; have K := Keep.refl h0 []
 refine OG.cast (oef1 m (3 : Int32)) ?_
 refine og_iloadN X0 hx rfl (hb hby d26_0) rfl ?_
 refine og_if_ge (pc1 := 12) (pc2 := 4) X0 hx (hb hby d26_1) (by decide) (by decide) rfl (fun _ => ?_) (fun q => absurd q (by decide))
 refine og_iloadN X0 hx rfl (hb hby d26_12) rfl ?_
 refine og_ldc X0 hx hZ hown (ow117 hw) (hb hby d26_13) rfl ?_
 refine og_icmp_lt (pc1 := 55) (pc2 := 18) X0 hx (hb hby d26_15) (by decide) (by decide) rfl (fun _ => ?_) (fun q => absurd q (by decide))
 refine og_iloadN X0 hx rfl (hb hby d26_55) rfl ?_
 refine og_iconst (v := 1) X0 hx rfl (hb hby d26_56) rfl ?_
 refine og_ishl X0 hx (hb hby d26_57) rfl ?_
 show OG p e below _ (T0.setTop (mkF m 58 #[.val (.int 3)] [(.int 6)]))
 refine og_retI X0 hx hlk hret (hb hby d26_58) (by decide) (by decide) ?_
 rw [e0]; exact ⟨rfl, N, rfl⟩
theorem rm_nbf3 (l : Launch) (Z : State) (a0 : Array Value) (hw : HW a0 Z)  (h0 : Heap) (n0 : Nat) (O : Old Z n0 h0) :
  Con l Z (⟨"java/lang/StringUTF16", "newBytesFor", "(I)[B"⟩ : MethodName) jdk_52_method_2_code 1 (some (.array .byte)) ({ frames := 1, cells := 1, slots := 6, locals := 12 } : Room) #[(.int 3)] h0 (fun v h L => ∃ b k, v = some (.ref b) ∧ Fr n0 L ∧ Keep h0 h [] ∧ h0.size ≤ b ∧ Arv Z h b k .byte (6 : Int32) [(.int 0), (.int 0), (.int 0), (.int 0), (.int 0), (.int 0)] (.int 0)) := by
 refine own_startC opn_25 ?_
 intro p e s m below meth c T0 X0 hx hby hml hZ hown hnm hret hlk e0
 have N := Fr.nil n0; have K := Keep.refl h0 []
 refine OG.cast (oef1 m (3 : Int32)) ?_
 refine og_iloadN X0 hx rfl (hb hby d25_0) rfl ?_
 refine og_static (pc' := 4) (cells' := 0) (slots' := 0) (W := 0) X0 hx hZ (rm_nbl3 l Z a0 hw h0 n0 O) hown (ow114 hw) (ow115 hw) (ow21 hw) (ow116 hw) (by decide) (by rw [hml]; rfl) e0 opd_0 [(.int 3)] [] rfl rfl rfl rfl (by decide) (by decide) rfl rfl (by decide) (by decide) (hb hby d25_1) rfl (fun v11 T11 h11 L11 X11 e11 z11 => ?_)
 obtain ⟨rfl, Nq11, hq11⟩ := z11; replace e11 := e11.trans hq11; have N := Fr.app N Nq11
 refine og_newarray (pc' := 6) (cells' := 1) (slots' := 6) (cap := 6) (ty := .byte) X11 hx hZ rfl (ow23 hw) e11 (by decide) (by decide) (by decide) (hb hby d25_4) rfl rfl rfl (by decide) (by decide) (fun T12 h12 nb12 kA12 X12 e12 E12 q12 V_nb12 => ?_)
 have s_nb12 : h0.size ≤ nb12 := Nat.le_of_eq q12.symm; have g_nb12 : n0 ≤ nb12 := Nat.le_trans (own_n0 O) s_nb12; have sz_nb12 : h0.size ≤ nb12 := Nat.le_trans K.1 s_nb12
 have O := O.ext E12; have K := K.ext E12
 have V_nb12 : Arv Z h12 nb12 kA12 .byte (6 : Int32) [(.int 0), (.int 0), (.int 0), (.int 0), (.int 0), (.int 0)] (.int 0) := V_nb12.pad (pad_rep [] (.int 0) 6)
 refine og_retR X12 hx hlk hret rfl rfl rfl (hb hby d25_6) (by decide) (by decide) ?_
 rw [e12]; exact ⟨_, _, rfl, N, K, sz_nb12, V_nb12⟩
theorem rm_tb3 (l : Launch) (Z : State) (a0 : Array Value) (hw : HW a0 Z) (ca : Addr) (kc : ClassId) (c0 c1 c2 : Int32) (h0 : Heap) (n0 : Nat) (O : Old Z n0 h0) (V_ca : Arv Z h0 ca kc .char (3 : Int32) [(.int c0), (.int c1), (.int c2)] (.int 0)) (S__assertionsDisabled : Sta Z Z.heap "java/lang/StringUTF16" "$assertionsDisabled" "Z" (.int 1)) (S_HI_BYTE_SHIFT : Sta Z Z.heap "java/lang/StringUTF16" "HI_BYTE_SHIFT" "I" (.int 0)) (S_LO_BYTE_SHIFT : Sta Z Z.heap "java/lang/StringUTF16" "LO_BYTE_SHIFT" "I" (.int 8)) :
  Con l Z (⟨"java/lang/StringUTF16", "toBytes", "([CII)[B"⟩ : MethodName) jdk_52_method_14_code 5 (some (.array .byte)) ({ frames := 2, cells := 1, slots := 6, locals := 24 } : Room) #[(.ref ca), (.int 0), (.int 3)] h0 (fun v h L => ∃ b k, v = some (.ref b) ∧ Fr n0 L ∧ Keep h0 h [] ∧ h0.size ≤ b ∧ Arv Z h b k .byte (6 : Int32) [(.int c0.toInt8.toInt32), (.int (c0 >>> ((8 : Int32) &&& 31)).toInt8.toInt32), (.int c1.toInt8.toInt32), (.int (c1 >>> ((8 : Int32) &&& 31)).toInt8.toInt32), (.int c2.toInt8.toInt32), (.int (c2 >>> ((8 : Int32) &&& 31)).toInt8.toInt32)] (.int 0)) := by
 refine own_startC opn_24 ?_
 intro p e s m below meth c T0 X0 hx hby hml hZ hown hnm hret hlk e0
 have N := Fr.nil n0; have K := Keep.refl h0 []
 refine OG.cast (oef2 m ca (0 : Int32) (3 : Int32)) ?_
 refine og_iloadN X0 hx rfl (hb hby d24_0) rfl ?_
 refine og_static (pc' := 4) (cells' := 1) (slots' := 6) (W := 0) X0 hx hZ (rm_nbf3 l Z a0 hw h0 n0 O) hown (ow111 hw) (ow112 hw) (ow21 hw) (ow113 hw) (by decide) (by rw [hml]; rfl) e0 opd_1 [(.int 3)] [] rfl rfl rfl rfl (by decide) (by decide) rfl rfl (by decide) (by decide) (hb hby d24_1) rfl (fun v11 T11 h11 L11 X11 e11 z11 => ?_)
 obtain ⟨nb11, k11, rfl, Nq11, K11, sb11, V_nb11⟩ := z11; have N := Fr.app N Nq11
 have s_nb11 : h0.size ≤ nb11 := sb11; have g_nb11 : n0 ≤ nb11 := Nat.le_trans (own_n0 O) s_nb11; have sz_nb11 : h0.size ≤ nb11 := Nat.le_trans K.1 s_nb11; have ne_ca_nb11 : ca ≠ nb11 := Nat.ne_of_lt (Nat.lt_of_lt_of_le V_ca.lt s_nb11)
 have V_ca := V_ca.keep K11 nin0; have O := O.keep K11 all0; have K := K.trans K11 all0
 refine og_astoreN (L' := #[.val (.ref ca), .val (.int 0), .val (.int 3), .val (.ref nb11), .unset]) X11 hx rfl rfl (hb hby d24_4) rfl ?_
 refine og_iconst (v := 0) X11 hx rfl (hb hby d24_5) rfl ?_
 refine og_istore (L' := #[.val (.ref ca), .val (.int 0), .val (.int 3), .val (.ref nb11), .val (.int 0)]) X11 hx rfl (hb hby d24_6) rfl ?_
 refine og_iload X11 hx rfl (hb hby d24_8) rfl ?_
 refine og_iloadN X11 hx rfl (hb hby d24_10) rfl ?_
 refine og_icmp_ge (pc1 := 32) (pc2 := 14) X11 hx (hb hby d24_11) (by decide) (by decide) rfl (fun q => absurd q (by decide)) (fun _ => ?_)
 refine og_aloadN X11 hx rfl rfl (hb hby d24_14) rfl ?_
 refine og_iload X11 hx rfl (hb hby d24_15) rfl ?_
 refine og_aloadN X11 hx rfl rfl (hb hby d24_17) rfl ?_
 refine og_iloadN X11 hx rfl (hb hby d24_18) rfl ?_
 refine og_caload (v := (.int c0)) X11 hx hZ e11 V_ca ⟨by decide, by decide⟩ rfl (hb hby d24_19) rfl ?_
 refine og_static (pc' := 23) (cells' := 1) (slots' := 6) (W := 0) X11 hx hZ (rm_pc_3_0 l Z a0 hw nb11 k11 c0 ((0 : Int32)) ((0 : Int32)) ((0 : Int32)) ((0 : Int32)) ((0 : Int32)) ((0 : Int32)) h11 n0 O V_nb11 S__assertionsDisabled S_HI_BYTE_SHIFT S_LO_BYTE_SHIFT g_nb11) hown (ow118 hw) (ow119 hw) (ow21 hw) (ow120 hw) (by decide) (by rw [hml]; rfl) e11 opd_2 [(.ref nb11), (.int 0), (.int c0)] [] rfl rfl rfl rfl (by decide) (by decide) rfl rfl (by decide) (by decide) (hb hby d24_20) rfl (fun v12 T12 h12 L12 X12 e12 z12 => ?_)
 obtain ⟨rfl, Nq12, K12, V_nb11'⟩ := z12; have N := Fr.app N Nq12
 have V_ca := V_ca.keep K12 (ninS ne_ca_nb11 nin0); have O := O.keep K12 (allS g_nb11 all0); have K := K.trans K12 (allS (Or.inr sz_nb11) all0)
 have V_nb11 := V_nb11'
 refine og_iinc (L' := #[.val (.ref ca), .val (.int 1), .val (.int 3), .val (.ref nb11), .val (.int 0)]) (w := 1) X12 hx rfl rfl rfl (hb hby d24_23) rfl ?_
 refine og_iinc (L' := #[.val (.ref ca), .val (.int 1), .val (.int 3), .val (.ref nb11), .val (.int 1)]) (w := 1) X12 hx rfl rfl rfl (hb hby d24_26) rfl ?_
 refine og_goto (pc' := 8) X12 hx (hb hby d24_29) (by decide) (by decide) ?_
 refine og_iload X12 hx rfl (hb hby d24_8) rfl ?_
 refine og_iloadN X12 hx rfl (hb hby d24_10) rfl ?_
 refine og_icmp_ge (pc1 := 32) (pc2 := 14) X12 hx (hb hby d24_11) (by decide) (by decide) rfl (fun q => absurd q (by decide)) (fun _ => ?_)
 refine og_aloadN X12 hx rfl rfl (hb hby d24_14) rfl ?_
 refine og_iload X12 hx rfl (hb hby d24_15) rfl ?_
 refine og_aloadN X12 hx rfl rfl (hb hby d24_17) rfl ?_
 refine og_iloadN X12 hx rfl (hb hby d24_18) rfl ?_
 refine og_caload (v := (.int c1)) X12 hx hZ e12 V_ca ⟨by decide, by decide⟩ rfl (hb hby d24_19) rfl ?_
 refine og_static (pc' := 23) (cells' := 1) (slots' := 6) (W := 0) X12 hx hZ (rm_pc_3_1 l Z a0 hw nb11 k11 c1 (c0.toInt8.toInt32) ((c0 >>> ((8 : Int32) &&& 31)).toInt8.toInt32) ((0 : Int32)) ((0 : Int32)) ((0 : Int32)) ((0 : Int32)) h12 n0 O V_nb11 S__assertionsDisabled S_HI_BYTE_SHIFT S_LO_BYTE_SHIFT g_nb11) hown (ow118 hw) (ow119 hw) (ow21 hw) (ow120 hw) (by decide) (by rw [hml]; rfl) e12 opd_2 [(.ref nb11), (.int 1), (.int c1)] [] rfl rfl rfl rfl (by decide) (by decide) rfl rfl (by decide) (by decide) (hb hby d24_20) rfl (fun v13 T13 h13 L13 X13 e13 z13 => ?_)
 obtain ⟨rfl, Nq13, K13, V_nb11'⟩ := z13; have N := Fr.app N Nq13
 have V_ca := V_ca.keep K13 (ninS ne_ca_nb11 nin0); have O := O.keep K13 (allS g_nb11 all0); have K := K.trans K13 (allS (Or.inr sz_nb11) all0)
 have V_nb11 := V_nb11'
 refine og_iinc (L' := #[.val (.ref ca), .val (.int 2), .val (.int 3), .val (.ref nb11), .val (.int 1)]) (w := 1) X13 hx rfl rfl rfl (hb hby d24_23) rfl ?_
 refine og_iinc (L' := #[.val (.ref ca), .val (.int 2), .val (.int 3), .val (.ref nb11), .val (.int 2)]) (w := 1) X13 hx rfl rfl rfl (hb hby d24_26) rfl ?_
 refine og_goto (pc' := 8) X13 hx (hb hby d24_29) (by decide) (by decide) ?_
 refine og_iload X13 hx rfl (hb hby d24_8) rfl ?_
 refine og_iloadN X13 hx rfl (hb hby d24_10) rfl ?_
 refine og_icmp_ge (pc1 := 32) (pc2 := 14) X13 hx (hb hby d24_11) (by decide) (by decide) rfl (fun q => absurd q (by decide)) (fun _ => ?_)
 refine og_aloadN X13 hx rfl rfl (hb hby d24_14) rfl ?_
 refine og_iload X13 hx rfl (hb hby d24_15) rfl ?_
 refine og_aloadN X13 hx rfl rfl (hb hby d24_17) rfl ?_
 refine og_iloadN X13 hx rfl (hb hby d24_18) rfl ?_
 refine og_caload (v := (.int c2)) X13 hx hZ e13 V_ca ⟨by decide, by decide⟩ rfl (hb hby d24_19) rfl ?_
 refine og_static (pc' := 23) (cells' := 1) (slots' := 6) (W := 0) X13 hx hZ (rm_pc_3_2 l Z a0 hw nb11 k11 c2 (c0.toInt8.toInt32) ((c0 >>> ((8 : Int32) &&& 31)).toInt8.toInt32) (c1.toInt8.toInt32) ((c1 >>> ((8 : Int32) &&& 31)).toInt8.toInt32) ((0 : Int32)) ((0 : Int32)) h13 n0 O V_nb11 S__assertionsDisabled S_HI_BYTE_SHIFT S_LO_BYTE_SHIFT g_nb11) hown (ow118 hw) (ow119 hw) (ow21 hw) (ow120 hw) (by decide) (by rw [hml]; rfl) e13 opd_2 [(.ref nb11), (.int 2), (.int c2)] [] rfl rfl rfl rfl (by decide) (by decide) rfl rfl (by decide) (by decide) (hb hby d24_20) rfl (fun v14 T14 h14 L14 X14 e14 z14 => ?_)
 obtain ⟨rfl, Nq14, K14, V_nb11'⟩ := z14; have N := Fr.app N Nq14
 have V_ca := V_ca.keep K14 (ninS ne_ca_nb11 nin0); have O := O.keep K14 (allS g_nb11 all0); have K := K.trans K14 (allS (Or.inr sz_nb11) all0)
 have V_nb11 := V_nb11'
 refine og_iinc (L' := #[.val (.ref ca), .val (.int 3), .val (.int 3), .val (.ref nb11), .val (.int 2)]) (w := 1) X14 hx rfl rfl rfl (hb hby d24_23) rfl ?_
 refine og_iinc (L' := #[.val (.ref ca), .val (.int 3), .val (.int 3), .val (.ref nb11), .val (.int 3)]) (w := 1) X14 hx rfl rfl rfl (hb hby d24_26) rfl ?_
 refine og_goto (pc' := 8) X14 hx (hb hby d24_29) (by decide) (by decide) ?_
 refine og_iload X14 hx rfl (hb hby d24_8) rfl ?_
 refine og_iloadN X14 hx rfl (hb hby d24_10) rfl ?_
 refine og_icmp_ge (pc1 := 32) (pc2 := 14) X14 hx (hb hby d24_11) (by decide) (by decide) rfl (fun _ => ?_) (fun q => absurd q (by decide))
 refine og_aloadN X14 hx rfl rfl (hb hby d24_32) rfl ?_
 refine og_retR X14 hx hlk hret rfl rfl rfl (hb hby d24_33) (by decide) (by decide) ?_
 rw [e14]; exact ⟨_, _, rfl, N, K, sz_nb11, V_nb11⟩
theorem rm_gch_3_0 (l : Launch) (Z : State) (a0 : Array Value) (hw : HW a0 Z) (ba : Addr) (kb : ClassId) (c0 c1 c2 : Int32) (hc0 : 0 ≤ c0.toInt ∧ c0.toInt ≤ 65535) (hc1 : 0 ≤ c1.toInt ∧ c1.toInt ≤ 65535) (hc2 : 0 ≤ c2.toInt ∧ c2.toInt ≤ 65535) (h0 : Heap) (n0 : Nat) (O : Old Z n0 h0) (V_ba : Arv Z h0 ba kb .byte (6 : Int32) [(.int c0.toInt8.toInt32), (.int (c0 >>> ((8 : Int32) &&& 31)).toInt8.toInt32), (.int c1.toInt8.toInt32), (.int (c1 >>> ((8 : Int32) &&& 31)).toInt8.toInt32), (.int c2.toInt8.toInt32), (.int (c2 >>> ((8 : Int32) &&& 31)).toInt8.toInt32)] (.int 0)) (S__assertionsDisabled : Sta Z Z.heap "java/lang/StringUTF16" "$assertionsDisabled" "Z" (.int 1)) (S_HI_BYTE_SHIFT : Sta Z Z.heap "java/lang/StringUTF16" "HI_BYTE_SHIFT" "I" (.int 0)) (S_LO_BYTE_SHIFT : Sta Z Z.heap "java/lang/StringUTF16" "LO_BYTE_SHIFT" "I" (.int 8)) :
  Con l Z (⟨"java/lang/StringUTF16", "getChar", "([BI)C"⟩ : MethodName) jdk_52_method_5_code 2 (some .char) ({ frames := 0, cells := 0, slots := 0, locals := 0 } : Room) #[(.ref ba), (.int 0)] h0 (fun v h L => v = some (.int c0) ∧ Fr n0 L ∧ h = h0) := by
 refine own_startC opn_28 ?_
 intro p e s m below meth c T0 X0 hx hby hml hZ hown hnm hret hlk e0
 have N := Fr.nil n0; have K := Keep.refl h0 []
 refine OG.cast (oef3 m ba (0 : Int32)) ?_
 refine og_getstatic X0 hx hZ (host := "") hown (Or.inl (ow121 hw)) Via.refl e0 (S__assertionsDisabled.ext O.2) (hb hby d28_0) rfl (fun T11 X11 e11 => ?_)
 refine og_if_ne (pc1 := 28) (pc2 := 6) X11 hx (hb hby d28_3) (by decide) (by decide) rfl (fun _ => ?_) (fun q => absurd q (by decide))
 refine og_iloadN X11 hx rfl (hb hby d28_28) rfl ?_
 refine og_iconst (v := 1) X11 hx rfl (hb hby d28_29) rfl ?_
 refine og_ishl X11 hx (hb hby d28_30) rfl ?_
 show OG p e below _ (T11.setTop (mkF m 31 #[.val (.ref ba), .val (.int 0)] [(.int 0)]))
 refine og_istoreN (L' := #[.val (.ref ba), .val (.int 0)]) X11 hx rfl (hb hby d28_31) rfl ?_
 refine og_aloadN X11 hx rfl rfl (hb hby d28_32) rfl ?_
 refine og_iloadN X11 hx rfl (hb hby d28_33) rfl ?_
 refine og_iinc (L' := #[.val (.ref ba), .val (.int 1)]) (w := 1) X11 hx rfl rfl rfl (hb hby d28_34) rfl ?_
 refine og_baload (v := (.int c0.toInt8.toInt32)) X11 hx hZ e11 V_ba ⟨by decide, by decide⟩ rfl (hb hby d28_37) rfl ?_
 refine og_sipush (v := 255) X11 hx rfl (hb hby d28_38) rfl ?_
 refine og_iand X11 hx (hb hby d28_41) rfl ?_
 refine og_getstatic X11 hx hZ (host := "") hown (Or.inl (ow122 hw)) Via.refl e11 (S_HI_BYTE_SHIFT.ext O.2) (hb hby d28_42) rfl (fun T12 X12 e12 => ?_)
 refine og_ishl X12 hx (hb hby d28_45) rfl ?_
 rw [own_shl0]
 refine og_aloadN X12 hx rfl rfl (hb hby d28_46) rfl ?_
 refine og_iloadN X12 hx rfl (hb hby d28_47) rfl ?_
 refine og_baload (v := (.int (c0 >>> ((8 : Int32) &&& 31)).toInt8.toInt32)) X12 hx hZ e12 V_ba ⟨by decide, by decide⟩ rfl (hb hby d28_48) rfl ?_
 refine og_sipush (v := 255) X12 hx rfl (hb hby d28_49) rfl ?_
 refine og_iand X12 hx (hb hby d28_52) rfl ?_
 refine og_getstatic X12 hx hZ (host := "") hown (Or.inl (ow123 hw)) Via.refl e12 (S_LO_BYTE_SHIFT.ext O.2) (hb hby d28_53) rfl (fun T13 X13 e13 => ?_)
 refine og_ishl X13 hx (hb hby d28_56) rfl ?_
 refine og_ior X13 hx (hb hby d28_57) rfl ?_
 refine og_i2c X13 hx (hb hby d28_58) rfl ?_
 refine og_retN X13 hx hlk hret (by simp) (hb hby d28_59) (by decide) (by decide) ?_
 rw [e13, own_gc hc0]; exact ⟨rfl, N, rfl⟩
theorem rm_gch_3_1 (l : Launch) (Z : State) (a0 : Array Value) (hw : HW a0 Z) (ba : Addr) (kb : ClassId) (c0 c1 c2 : Int32) (hc0 : 0 ≤ c0.toInt ∧ c0.toInt ≤ 65535) (hc1 : 0 ≤ c1.toInt ∧ c1.toInt ≤ 65535) (hc2 : 0 ≤ c2.toInt ∧ c2.toInt ≤ 65535) (h0 : Heap) (n0 : Nat) (O : Old Z n0 h0) (V_ba : Arv Z h0 ba kb .byte (6 : Int32) [(.int c0.toInt8.toInt32), (.int (c0 >>> ((8 : Int32) &&& 31)).toInt8.toInt32), (.int c1.toInt8.toInt32), (.int (c1 >>> ((8 : Int32) &&& 31)).toInt8.toInt32), (.int c2.toInt8.toInt32), (.int (c2 >>> ((8 : Int32) &&& 31)).toInt8.toInt32)] (.int 0)) (S__assertionsDisabled : Sta Z Z.heap "java/lang/StringUTF16" "$assertionsDisabled" "Z" (.int 1)) (S_HI_BYTE_SHIFT : Sta Z Z.heap "java/lang/StringUTF16" "HI_BYTE_SHIFT" "I" (.int 0)) (S_LO_BYTE_SHIFT : Sta Z Z.heap "java/lang/StringUTF16" "LO_BYTE_SHIFT" "I" (.int 8)) :
  Con l Z (⟨"java/lang/StringUTF16", "getChar", "([BI)C"⟩ : MethodName) jdk_52_method_5_code 2 (some .char) ({ frames := 0, cells := 0, slots := 0, locals := 0 } : Room) #[(.ref ba), (.int 1)] h0 (fun v h L => v = some (.int c1) ∧ Fr n0 L ∧ h = h0) := by
 refine own_startC opn_28 ?_
 intro p e s m below meth c T0 X0 hx hby hml hZ hown hnm hret hlk e0
 have N := Fr.nil n0; have K := Keep.refl h0 []
 refine OG.cast (oef3 m ba (1 : Int32)) ?_
 refine og_getstatic X0 hx hZ (host := "") hown (Or.inl (ow121 hw)) Via.refl e0 (S__assertionsDisabled.ext O.2) (hb hby d28_0) rfl (fun T11 X11 e11 => ?_)
 refine og_if_ne (pc1 := 28) (pc2 := 6) X11 hx (hb hby d28_3) (by decide) (by decide) rfl (fun _ => ?_) (fun q => absurd q (by decide))
 refine og_iloadN X11 hx rfl (hb hby d28_28) rfl ?_
 refine og_iconst (v := 1) X11 hx rfl (hb hby d28_29) rfl ?_
 refine og_ishl X11 hx (hb hby d28_30) rfl ?_
 show OG p e below _ (T11.setTop (mkF m 31 #[.val (.ref ba), .val (.int 1)] [(.int 2)]))
 refine og_istoreN (L' := #[.val (.ref ba), .val (.int 2)]) X11 hx rfl (hb hby d28_31) rfl ?_
 refine og_aloadN X11 hx rfl rfl (hb hby d28_32) rfl ?_
 refine og_iloadN X11 hx rfl (hb hby d28_33) rfl ?_
 refine og_iinc (L' := #[.val (.ref ba), .val (.int 3)]) (w := 1) X11 hx rfl rfl rfl (hb hby d28_34) rfl ?_
 refine og_baload (v := (.int c1.toInt8.toInt32)) X11 hx hZ e11 V_ba ⟨by decide, by decide⟩ rfl (hb hby d28_37) rfl ?_
 refine og_sipush (v := 255) X11 hx rfl (hb hby d28_38) rfl ?_
 refine og_iand X11 hx (hb hby d28_41) rfl ?_
 refine og_getstatic X11 hx hZ (host := "") hown (Or.inl (ow122 hw)) Via.refl e11 (S_HI_BYTE_SHIFT.ext O.2) (hb hby d28_42) rfl (fun T12 X12 e12 => ?_)
 refine og_ishl X12 hx (hb hby d28_45) rfl ?_
 rw [own_shl0]
 refine og_aloadN X12 hx rfl rfl (hb hby d28_46) rfl ?_
 refine og_iloadN X12 hx rfl (hb hby d28_47) rfl ?_
 refine og_baload (v := (.int (c1 >>> ((8 : Int32) &&& 31)).toInt8.toInt32)) X12 hx hZ e12 V_ba ⟨by decide, by decide⟩ rfl (hb hby d28_48) rfl ?_
 refine og_sipush (v := 255) X12 hx rfl (hb hby d28_49) rfl ?_
 refine og_iand X12 hx (hb hby d28_52) rfl ?_
 refine og_getstatic X12 hx hZ (host := "") hown (Or.inl (ow123 hw)) Via.refl e12 (S_LO_BYTE_SHIFT.ext O.2) (hb hby d28_53) rfl (fun T13 X13 e13 => ?_)
 refine og_ishl X13 hx (hb hby d28_56) rfl ?_
 refine og_ior X13 hx (hb hby d28_57) rfl ?_
 refine og_i2c X13 hx (hb hby d28_58) rfl ?_
 refine og_retN X13 hx hlk hret (by simp) (hb hby d28_59) (by decide) (by decide) ?_
 rw [e13, own_gc hc1]; exact ⟨rfl, N, rfl⟩
theorem rm_gch_3_2 (l : Launch) (Z : State) (a0 : Array Value) (hw : HW a0 Z) (ba : Addr) (kb : ClassId) (c0 c1 c2 : Int32) (hc0 : 0 ≤ c0.toInt ∧ c0.toInt ≤ 65535) (hc1 : 0 ≤ c1.toInt ∧ c1.toInt ≤ 65535) (hc2 : 0 ≤ c2.toInt ∧ c2.toInt ≤ 65535) (h0 : Heap) (n0 : Nat) (O : Old Z n0 h0) (V_ba : Arv Z h0 ba kb .byte (6 : Int32) [(.int c0.toInt8.toInt32), (.int (c0 >>> ((8 : Int32) &&& 31)).toInt8.toInt32), (.int c1.toInt8.toInt32), (.int (c1 >>> ((8 : Int32) &&& 31)).toInt8.toInt32), (.int c2.toInt8.toInt32), (.int (c2 >>> ((8 : Int32) &&& 31)).toInt8.toInt32)] (.int 0)) (S__assertionsDisabled : Sta Z Z.heap "java/lang/StringUTF16" "$assertionsDisabled" "Z" (.int 1)) (S_HI_BYTE_SHIFT : Sta Z Z.heap "java/lang/StringUTF16" "HI_BYTE_SHIFT" "I" (.int 0)) (S_LO_BYTE_SHIFT : Sta Z Z.heap "java/lang/StringUTF16" "LO_BYTE_SHIFT" "I" (.int 8)) :
  Con l Z (⟨"java/lang/StringUTF16", "getChar", "([BI)C"⟩ : MethodName) jdk_52_method_5_code 2 (some .char) ({ frames := 0, cells := 0, slots := 0, locals := 0 } : Room) #[(.ref ba), (.int 2)] h0 (fun v h L => v = some (.int c2) ∧ Fr n0 L ∧ h = h0) := by
 refine own_startC opn_28 ?_
 intro p e s m below meth c T0 X0 hx hby hml hZ hown hnm hret hlk e0
 have N := Fr.nil n0; have K := Keep.refl h0 []
 refine OG.cast (oef3 m ba (2 : Int32)) ?_
 refine og_getstatic X0 hx hZ (host := "") hown (Or.inl (ow121 hw)) Via.refl e0 (S__assertionsDisabled.ext O.2) (hb hby d28_0) rfl (fun T11 X11 e11 => ?_)
 refine og_if_ne (pc1 := 28) (pc2 := 6) X11 hx (hb hby d28_3) (by decide) (by decide) rfl (fun _ => ?_) (fun q => absurd q (by decide))
 refine og_iloadN X11 hx rfl (hb hby d28_28) rfl ?_
 refine og_iconst (v := 1) X11 hx rfl (hb hby d28_29) rfl ?_
 refine og_ishl X11 hx (hb hby d28_30) rfl ?_
 show OG p e below _ (T11.setTop (mkF m 31 #[.val (.ref ba), .val (.int 2)] [(.int 4)]))
 refine og_istoreN (L' := #[.val (.ref ba), .val (.int 4)]) X11 hx rfl (hb hby d28_31) rfl ?_
 refine og_aloadN X11 hx rfl rfl (hb hby d28_32) rfl ?_
 refine og_iloadN X11 hx rfl (hb hby d28_33) rfl ?_
 refine og_iinc (L' := #[.val (.ref ba), .val (.int 5)]) (w := 1) X11 hx rfl rfl rfl (hb hby d28_34) rfl ?_
 refine og_baload (v := (.int c2.toInt8.toInt32)) X11 hx hZ e11 V_ba ⟨by decide, by decide⟩ rfl (hb hby d28_37) rfl ?_
 refine og_sipush (v := 255) X11 hx rfl (hb hby d28_38) rfl ?_
 refine og_iand X11 hx (hb hby d28_41) rfl ?_
 refine og_getstatic X11 hx hZ (host := "") hown (Or.inl (ow122 hw)) Via.refl e11 (S_HI_BYTE_SHIFT.ext O.2) (hb hby d28_42) rfl (fun T12 X12 e12 => ?_)
 refine og_ishl X12 hx (hb hby d28_45) rfl ?_
 rw [own_shl0]
 refine og_aloadN X12 hx rfl rfl (hb hby d28_46) rfl ?_
 refine og_iloadN X12 hx rfl (hb hby d28_47) rfl ?_
 refine og_baload (v := (.int (c2 >>> ((8 : Int32) &&& 31)).toInt8.toInt32)) X12 hx hZ e12 V_ba ⟨by decide, by decide⟩ rfl (hb hby d28_48) rfl ?_
 refine og_sipush (v := 255) X12 hx rfl (hb hby d28_49) rfl ?_
 refine og_iand X12 hx (hb hby d28_52) rfl ?_
 refine og_getstatic X12 hx hZ (host := "") hown (Or.inl (ow123 hw)) Via.refl e12 (S_LO_BYTE_SHIFT.ext O.2) (hb hby d28_53) rfl (fun T13 X13 e13 => ?_)
 refine og_ishl X13 hx (hb hby d28_56) rfl ?_
 refine og_ior X13 hx (hb hby d28_57) rfl ?_
 refine og_i2c X13 hx (hb hby d28_58) rfl ?_
 refine og_retN X13 hx hlk hret (by simp) (hb hby d28_59) (by decide) (by decide) ?_
 rw [e13, own_gc hc2]; exact ⟨rfl, N, rfl⟩
theorem rm_ug3 (l : Launch) (Z : State) (a0 : Array Value) (hw : HW a0 Z) (ca ba : Addr) (kc kb : ClassId) (c0 c1 c2 : Int32) (h0 : Heap) (n0 : Nat) (O : Old Z n0 h0) (V_ca : Arv Z h0 ca kc .char (3 : Int32) [(.int c0), (.int c1), (.int c2)] (.int 0)) (V_ba : Arv Z h0 ba kb .byte (3 : Int32) [(.int 0), (.int 0), (.int 0)] (.int 0)) (g_ba : n0 ≤ ba) (ne_ca_ba : ca ≠ ba) :
  Con l Z (⟨"java/lang/StringUTF16", "compress", "([CI[BII)I"⟩ : MethodName) jdk_52_method_21_code 7 (some .int) ({ frames := 0, cells := 0, slots := 0, locals := 0 } : Room) #[(.ref ca), (.int 0), (.ref ba), (.int 0), (.int 3)] h0 (fun v h L => ∃ (jj : Int32) (vs' : List Value), v = some (.int jj) ∧ Fr n0 L ∧ Keep h0 h [ba] ∧ Arv Z h ba kb .byte (3 : Int32) vs' (.int 0) ∧ ((jj = 3 ∧ vs' = [(.int c0.toInt8.toInt32), (.int c1.toInt8.toInt32), (.int c2.toInt8.toInt32)] ∧ ¬ 255 < c0 ∧ ¬ 255 < c1 ∧ ¬ 255 < c2) ∨ (jj = 0 ∧ 255 < c0) ∨ (jj = 1 ∧ 255 < c1) ∨ (jj = 2 ∧ 255 < c2))) := by
 refine own_startC opn_6 ?_
 intro p e s m below meth c T0 X0 hx hby hml hZ hown hnm hret hlk e0
 have N := Fr.nil n0; have K := Keep.refl h0 [ba]
 refine OG.cast (oef4 m ca (0 : Int32) ba (0 : Int32) (3 : Int32)) ?_
 refine og_iconst (v := 0) X0 hx rfl (hb hby d6_0) rfl ?_
 refine og_istore (L' := #[.val (.ref ca), .val (.int 0), .val (.ref ba), .val (.int 0), .val (.int 3), .val (.int 0), .unset]) X0 hx rfl (hb hby d6_1) rfl ?_
 refine og_iload X0 hx rfl (hb hby d6_3) rfl ?_
 refine og_iload X0 hx rfl (hb hby d6_5) rfl ?_
 refine og_icmp_ge (pc1 := 44) (pc2 := 10) X0 hx (hb hby d6_7) (by decide) (by decide) rfl (fun q => absurd q (by decide)) (fun _ => ?_)
 refine og_aloadN X0 hx rfl rfl (hb hby d6_10) rfl ?_
 refine og_iloadN X0 hx rfl (hb hby d6_11) rfl ?_
 refine og_caload (v := (.int c0)) X0 hx hZ e0 V_ca ⟨by decide, by decide⟩ rfl (hb hby d6_12) rfl ?_
 refine og_istore (L' := #[.val (.ref ca), .val (.int 0), .val (.ref ba), .val (.int 0), .val (.int 3), .val (.int 0), .val (.int c0)]) X0 hx rfl (hb hby d6_13) rfl ?_
 refine og_iload X0 hx rfl (hb hby d6_15) rfl ?_
 refine og_sipush (v := 255) X0 hx rfl (hb hby d6_17) rfl ?_
 refine og_icmp_le (pc1 := 26) (pc2 := 23) X0 hx (hb hby d6_20) (by decide) (by decide) rfl (fun hc20 => ?_) (fun hc20 => ?_)
 ·
  have hq0 := hc20
  refine og_aloadN X0 hx rfl rfl (hb hby d6_26) rfl ?_
  refine og_iloadN X0 hx rfl (hb hby d6_27) rfl ?_
  refine og_iload X0 hx rfl (hb hby d6_28) rfl ?_
  refine og_i2b X0 hx (hb hby d6_30) rfl ?_
  refine og_bastore X0 hx hZ e0 V_ba ⟨by decide, by decide⟩ 0 (by decide) (Nat.le_of_ble_eq_true rfl) (hb hby d6_31) rfl (fun T11 h11 X11 e11 W11 V11 => ?_)
  have V_ca := V_ca.other W11 ne_ca_ba; have O := O.wr W11 g_ba; have K := K.wr W11 (Or.inl (List.mem_of_getElem? (i := 0) rfl))
  have N := Fr.snoc X11 N g_ba
  have V_ba : Arv Z h11 ba kb .byte (3 : Int32) [(.int (nar .byte (c0.toInt8.toInt32))), (.int 0), (.int 0)] (.int 0) := V11
  rw [own_nb] at V_ba
  refine og_iinc (L' := #[.val (.ref ca), .val (.int 1), .val (.ref ba), .val (.int 0), .val (.int 3), .val (.int 0), .val (.int c0)]) (w := 1) X11 hx rfl rfl rfl (hb hby d6_32) rfl ?_
  refine og_iinc (L' := #[.val (.ref ca), .val (.int 1), .val (.ref ba), .val (.int 1), .val (.int 3), .val (.int 0), .val (.int c0)]) (w := 1) X11 hx rfl rfl rfl (hb hby d6_35) rfl ?_
  refine og_iinc (L' := #[.val (.ref ca), .val (.int 1), .val (.ref ba), .val (.int 1), .val (.int 3), .val (.int 1), .val (.int c0)]) (w := 1) X11 hx rfl rfl rfl (hb hby d6_38) rfl ?_
  refine og_goto (pc' := 3) X11 hx (hb hby d6_41) (by decide) (by decide) ?_
  refine og_iload X11 hx rfl (hb hby d6_3) rfl ?_
  refine og_iload X11 hx rfl (hb hby d6_5) rfl ?_
  refine og_icmp_ge (pc1 := 44) (pc2 := 10) X11 hx (hb hby d6_7) (by decide) (by decide) rfl (fun q => absurd q (by decide)) (fun _ => ?_)
  refine og_aloadN X11 hx rfl rfl (hb hby d6_10) rfl ?_
  refine og_iloadN X11 hx rfl (hb hby d6_11) rfl ?_
  refine og_caload (v := (.int c1)) X11 hx hZ e11 V_ca ⟨by decide, by decide⟩ rfl (hb hby d6_12) rfl ?_
  refine og_istore (L' := #[.val (.ref ca), .val (.int 1), .val (.ref ba), .val (.int 1), .val (.int 3), .val (.int 1), .val (.int c1)]) X11 hx rfl (hb hby d6_13) rfl ?_
  refine og_iload X11 hx rfl (hb hby d6_15) rfl ?_
  refine og_sipush (v := 255) X11 hx rfl (hb hby d6_17) rfl ?_
  refine og_icmp_le (pc1 := 26) (pc2 := 23) X11 hx (hb hby d6_20) (by decide) (by decide) rfl (fun hc20 => ?_) (fun hc20 => ?_)
  ·
   have hq1 := hc20
   refine og_aloadN X11 hx rfl rfl (hb hby d6_26) rfl ?_
   refine og_iloadN X11 hx rfl (hb hby d6_27) rfl ?_
   refine og_iload X11 hx rfl (hb hby d6_28) rfl ?_
   refine og_i2b X11 hx (hb hby d6_30) rfl ?_
   refine og_bastore X11 hx hZ e11 V_ba ⟨by decide, by decide⟩ 1 (by decide) (Nat.le_of_ble_eq_true rfl) (hb hby d6_31) rfl (fun T12 h12 X12 e12 W12 V12 => ?_)
   have V_ca := V_ca.other W12 ne_ca_ba; have O := O.wr W12 g_ba; have K := K.wr W12 (Or.inl (List.mem_of_getElem? (i := 0) rfl))
   have N := Fr.snoc X12 N g_ba
   have V_ba : Arv Z h12 ba kb .byte (3 : Int32) [(.int c0.toInt8.toInt32), (.int (nar .byte (c1.toInt8.toInt32))), (.int 0)] (.int 0) := V12
   rw [own_nb] at V_ba
   refine og_iinc (L' := #[.val (.ref ca), .val (.int 2), .val (.ref ba), .val (.int 1), .val (.int 3), .val (.int 1), .val (.int c1)]) (w := 1) X12 hx rfl rfl rfl (hb hby d6_32) rfl ?_
   refine og_iinc (L' := #[.val (.ref ca), .val (.int 2), .val (.ref ba), .val (.int 2), .val (.int 3), .val (.int 1), .val (.int c1)]) (w := 1) X12 hx rfl rfl rfl (hb hby d6_35) rfl ?_
   refine og_iinc (L' := #[.val (.ref ca), .val (.int 2), .val (.ref ba), .val (.int 2), .val (.int 3), .val (.int 2), .val (.int c1)]) (w := 1) X12 hx rfl rfl rfl (hb hby d6_38) rfl ?_
   refine og_goto (pc' := 3) X12 hx (hb hby d6_41) (by decide) (by decide) ?_
   refine og_iload X12 hx rfl (hb hby d6_3) rfl ?_
   refine og_iload X12 hx rfl (hb hby d6_5) rfl ?_
   refine og_icmp_ge (pc1 := 44) (pc2 := 10) X12 hx (hb hby d6_7) (by decide) (by decide) rfl (fun q => absurd q (by decide)) (fun _ => ?_)
   refine og_aloadN X12 hx rfl rfl (hb hby d6_10) rfl ?_
   refine og_iloadN X12 hx rfl (hb hby d6_11) rfl ?_
   refine og_caload (v := (.int c2)) X12 hx hZ e12 V_ca ⟨by decide, by decide⟩ rfl (hb hby d6_12) rfl ?_
   refine og_istore (L' := #[.val (.ref ca), .val (.int 2), .val (.ref ba), .val (.int 2), .val (.int 3), .val (.int 2), .val (.int c2)]) X12 hx rfl (hb hby d6_13) rfl ?_
   refine og_iload X12 hx rfl (hb hby d6_15) rfl ?_
   refine og_sipush (v := 255) X12 hx rfl (hb hby d6_17) rfl ?_
   refine og_icmp_le (pc1 := 26) (pc2 := 23) X12 hx (hb hby d6_20) (by decide) (by decide) rfl (fun hc20 => ?_) (fun hc20 => ?_)
   ·
    have hq2 := hc20
    refine og_aloadN X12 hx rfl rfl (hb hby d6_26) rfl ?_
    refine og_iloadN X12 hx rfl (hb hby d6_27) rfl ?_
    refine og_iload X12 hx rfl (hb hby d6_28) rfl ?_
    refine og_i2b X12 hx (hb hby d6_30) rfl ?_
    refine og_bastore X12 hx hZ e12 V_ba ⟨by decide, by decide⟩ 2 (by decide) (Nat.le_of_ble_eq_true rfl) (hb hby d6_31) rfl (fun T13 h13 X13 e13 W13 V13 => ?_)
    have V_ca := V_ca.other W13 ne_ca_ba; have O := O.wr W13 g_ba; have K := K.wr W13 (Or.inl (List.mem_of_getElem? (i := 0) rfl))
    have N := Fr.snoc X13 N g_ba
    have V_ba : Arv Z h13 ba kb .byte (3 : Int32) [(.int c0.toInt8.toInt32), (.int c1.toInt8.toInt32), (.int (nar .byte (c2.toInt8.toInt32)))] (.int 0) := V13
    rw [own_nb] at V_ba
    refine og_iinc (L' := #[.val (.ref ca), .val (.int 3), .val (.ref ba), .val (.int 2), .val (.int 3), .val (.int 2), .val (.int c2)]) (w := 1) X13 hx rfl rfl rfl (hb hby d6_32) rfl ?_
    refine og_iinc (L' := #[.val (.ref ca), .val (.int 3), .val (.ref ba), .val (.int 3), .val (.int 3), .val (.int 2), .val (.int c2)]) (w := 1) X13 hx rfl rfl rfl (hb hby d6_35) rfl ?_
    refine og_iinc (L' := #[.val (.ref ca), .val (.int 3), .val (.ref ba), .val (.int 3), .val (.int 3), .val (.int 3), .val (.int c2)]) (w := 1) X13 hx rfl rfl rfl (hb hby d6_38) rfl ?_
    refine og_goto (pc' := 3) X13 hx (hb hby d6_41) (by decide) (by decide) ?_
    refine og_iload X13 hx rfl (hb hby d6_3) rfl ?_
    refine og_iload X13 hx rfl (hb hby d6_5) rfl ?_
    refine og_icmp_ge (pc1 := 44) (pc2 := 10) X13 hx (hb hby d6_7) (by decide) (by decide) rfl (fun _ => ?_) (fun q => absurd q (by decide))
    refine og_iload X13 hx rfl (hb hby d6_44) rfl ?_
    refine og_retI X13 hx hlk hret (hb hby d6_46) (by decide) (by decide) ?_
    rw [e13]; exact ⟨_, _, rfl, N, K, V_ba, Or.inl ⟨rfl, rfl, hq0, hq1, hq2⟩⟩
   ·
    have hq2 := hc20
    refine og_iload X12 hx rfl (hb hby d6_23) rfl ?_
    refine og_retI X12 hx hlk hret (hb hby d6_25) (by decide) (by decide) ?_
    rw [e12]; exact ⟨_, _, rfl, N, K, V_ba, Or.inr (Or.inr (Or.inr (⟨rfl, hq2⟩)))⟩
  ·
   have hq1 := hc20
   refine og_iload X11 hx rfl (hb hby d6_23) rfl ?_
   refine og_retI X11 hx hlk hret (hb hby d6_25) (by decide) (by decide) ?_
   rw [e11]; exact ⟨_, _, rfl, N, K, V_ba, Or.inr (Or.inr (Or.inl ⟨rfl, hq1⟩))⟩
 ·
  have hq0 := hc20
  refine og_iload X0 hx rfl (hb hby d6_23) rfl ?_
  refine og_retI X0 hx hlk hret (hb hby d6_25) (by decide) (by decide) ?_
  rw [e0]; exact ⟨_, _, rfl, N, K, V_ba, Or.inr (Or.inl ⟨rfl, hq0⟩)⟩
theorem rm_uc3 (l : Launch) (Z : State) (a0 : Array Value) (hw : HW a0 Z) (ca : Addr) (kc : ClassId) (c0 c1 c2 : Int32) (hc0 : 0 ≤ c0.toInt ∧ c0.toInt ≤ 65535) (hc1 : 0 ≤ c1.toInt ∧ c1.toInt ≤ 65535) (hc2 : 0 ≤ c2.toInt ∧ c2.toInt ≤ 65535) (h0 : Heap) (n0 : Nat) (O : Old Z n0 h0) (V_ca : Arv Z h0 ca kc .char (3 : Int32) [(.int c0), (.int c1), (.int c2)] (.int 0)) (S__assertionsDisabled : Sta Z Z.heap "java/lang/StringUTF16" "$assertionsDisabled" "Z" (.int 1)) (S_HI_BYTE_SHIFT : Sta Z Z.heap "java/lang/StringUTF16" "HI_BYTE_SHIFT" "I" (.int 0)) (S_LO_BYTE_SHIFT : Sta Z Z.heap "java/lang/StringUTF16" "LO_BYTE_SHIFT" "I" (.int 8)) :
  Con l Z (⟨"java/lang/StringUTF16", "compress", "([CII)[B"⟩ : MethodName) jdk_52_method_16_code 6 (some (.array .byte)) ({ frames := 3, cells := 2, slots := 9, locals := 40 } : Room) #[(.ref ca), (.int 0), (.int 3)] h0 (fun v h L => ∃ b k, v = some (.ref b) ∧ Fr n0 L ∧ Keep h0 h [] ∧ h0.size ≤ b ∧ ((Arv Z h b k .byte (3 : Int32) [(.int c0.toInt8.toInt32), (.int c1.toInt8.toInt32), (.int c2.toInt8.toInt32)] (.int 0) ∧ ¬ 255 < c0 ∧ ¬ 255 < c1 ∧ ¬ 255 < c2) ∨ (Arv Z h b k .byte (6 : Int32) [(.int c0.toInt8.toInt32), (.int (c0 >>> ((8 : Int32) &&& 31)).toInt8.toInt32), (.int c1.toInt8.toInt32), (.int (c1 >>> ((8 : Int32) &&& 31)).toInt8.toInt32), (.int c2.toInt8.toInt32), (.int (c2 >>> ((8 : Int32) &&& 31)).toInt8.toInt32)] (.int 0) ∧ ¬ (¬ 255 < c0 ∧ ¬ 255 < c1 ∧ ¬ 255 < c2)))) := by
 refine own_startC opn_5 ?_
 intro p e s m below meth c T0 X0 hx hby hml hZ hown hnm hret hlk e0
 have N := Fr.nil n0; have K := Keep.refl h0 []
 refine OG.cast (oef5 m ca (0 : Int32) (3 : Int32)) ?_
 refine og_iloadN X0 hx rfl (hb hby d5_0) rfl ?_
 refine og_newarray (pc' := 3) (cells' := 1) (slots' := 3) (cap := 3) (ty := .byte) X0 hx hZ rfl (ow23 hw) e0 (by decide) (by decide) (by decide) (hb hby d5_1) rfl rfl rfl (by decide) (by decide) (fun T11 h11 nb11 kA11 X11 e11 E11 q11 V_nb11 => ?_)
 have s_nb11 : h0.size ≤ nb11 := Nat.le_of_eq q11.symm; have g_nb11 : n0 ≤ nb11 := Nat.le_trans (own_n0 O) s_nb11; have sz_nb11 : h0.size ≤ nb11 := Nat.le_trans K.1 s_nb11; have ne_ca_nb11 : ca ≠ nb11 := Nat.ne_of_lt (Nat.lt_of_lt_of_le V_ca.lt s_nb11)
 have V_ca := V_ca.ext E11; have O := O.ext E11; have K := K.ext E11
 have V_nb11 : Arv Z h11 nb11 kA11 .byte (3 : Int32) [(.int 0), (.int 0), (.int 0)] (.int 0) := V_nb11.pad (pad_rep [] (.int 0) 3)
 refine og_astoreN (L' := #[.val (.ref ca), .val (.int 0), .val (.int 3), .val (.ref nb11), .unset, .unset]) X11 hx rfl rfl (hb hby d5_3) rfl ?_
 refine og_aloadN X11 hx rfl rfl (hb hby d5_4) rfl ?_
 refine og_iloadN X11 hx rfl (hb hby d5_5) rfl ?_
 refine og_aloadN X11 hx rfl rfl (hb hby d5_6) rfl ?_
 refine og_iconst (v := 0) X11 hx rfl (hb hby d5_7) rfl ?_
 refine og_iloadN X11 hx rfl (hb hby d5_8) rfl ?_
 refine og_static (pc' := 12) (cells' := 1) (slots' := 3) (W := 0) X11 hx hZ (rm_ug3 l Z a0 hw ca nb11 kc kA11 c0 c1 c2 h11 n0 O V_ca V_nb11 g_nb11 ne_ca_nb11) hown (ow24 hw) (ow25 hw) (ow21 hw) (ow26 hw) (by decide) (by rw [hml]; rfl) e11 opd_3 [(.ref ca), (.int 0), (.ref nb11), (.int 0), (.int 3)] [] rfl rfl rfl rfl (by decide) (by decide) rfl rfl (by decide) (by decide) (hb hby d5_9) rfl (fun v12 T12 h12 L12 X12 e12 z12 => ?_)
 obtain ⟨jj, vs', rfl, Nq12, K12, V_nb11', hj⟩ := z12; have N := Fr.app N Nq12
 have V_ca := V_ca.keep K12 (ninS ne_ca_nb11 nin0); have O := O.keep K12 (allS g_nb11 all0); have K := K.trans K12 (allS (Or.inr sz_nb11) all0)
 have V_nb11 := V_nb11'
 rcases hj with ⟨rfl, rfl, hs0, hs1, hs2⟩ | ⟨rfl, hbig⟩ | ⟨rfl, hbig⟩ | ⟨rfl, hbig⟩
 ·
  refine og_istore (L' := #[.val (.ref ca), .val (.int 0), .val (.int 3), .val (.ref nb11), .val (.int 3), .unset]) X12 hx rfl (hb hby d5_12) rfl ?_
  refine og_iload X12 hx rfl (hb hby d5_14) rfl ?_
  refine og_iloadN X12 hx rfl (hb hby d5_16) rfl ?_
  refine og_icmp_eq (pc1 := 57) (pc2 := 20) X12 hx (hb hby d5_17) (by decide) (by decide) rfl (fun _ => ?_) (fun q => absurd q (by decide))
  refine og_aloadN X12 hx rfl rfl (hb hby d5_57) rfl ?_
  refine og_retR X12 hx hlk hret rfl rfl rfl (hb hby d5_58) (by decide) (by decide) ?_
  rw [e12]; exact ⟨_, _, rfl, N, K, sz_nb11, Or.inl ⟨V_nb11, hs0, hs1, hs2⟩⟩
 ·
  refine og_istore (L' := #[.val (.ref ca), .val (.int 0), .val (.int 3), .val (.ref nb11), .val (.int 0), .unset]) X12 hx rfl (hb hby d5_12) rfl ?_
  refine og_iload X12 hx rfl (hb hby d5_14) rfl ?_
  refine og_iloadN X12 hx rfl (hb hby d5_16) rfl ?_
  refine og_icmp_eq (pc1 := 57) (pc2 := 20) X12 hx (hb hby d5_17) (by decide) (by decide) rfl (fun q => absurd q (by decide)) (fun _ => ?_)
  refine og_aloadN X12 hx rfl rfl (hb hby d5_20) rfl ?_
  refine og_iloadN X12 hx rfl (hb hby d5_21) rfl ?_
  refine og_iloadN X12 hx rfl (hb hby d5_22) rfl ?_
  refine og_static (pc' := 26) (cells' := 2) (slots' := 9) (W := 0) X12 hx hZ (rm_tb3 l Z a0 hw ca kc c0 c1 c2 h12 n0 O V_ca S__assertionsDisabled S_HI_BYTE_SHIFT S_LO_BYTE_SHIFT) hown (ow108 hw) (ow109 hw) (ow21 hw) (ow110 hw) (by decide) (by rw [hml]; rfl) e12 opd_4 [(.ref ca), (.int 0), (.int 3)] [] rfl rfl rfl rfl (by decide) (by decide) rfl rfl (by decide) (by decide) (hb hby d5_23) rfl (fun v13 T13 h13 L13 X13 e13 z13 => ?_)
  obtain ⟨nb13, k13, rfl, Nq13, K13, sb13, V_nb13⟩ := z13; have N := Fr.app N Nq13
  have s_nb13 : h12.size ≤ nb13 := sb13; have g_nb13 : n0 ≤ nb13 := Nat.le_trans (own_n0 O) s_nb13; have sz_nb13 : h0.size ≤ nb13 := Nat.le_trans K.1 s_nb13; have ne_ca_nb13 : ca ≠ nb13 := Nat.ne_of_lt (Nat.lt_of_lt_of_le V_ca.lt s_nb13); have ne_nb11_nb13 : nb11 ≠ nb13 := Nat.ne_of_lt (Nat.lt_of_lt_of_le V_nb11.lt s_nb13)
  have V_ca := V_ca.keep K13 nin0; have V_nb11 := V_nb11.keep K13 nin0; have O := O.keep K13 all0; have K := K.trans K13 all0
  refine og_astore (L' := #[.val (.ref ca), .val (.int 0), .val (.int 3), .val (.ref nb11), .val (.int 0), .val (.ref nb13)]) X13 hx rfl rfl (hb hby d5_26) rfl ?_
  refine og_aload X13 hx rfl rfl (hb hby d5_28) rfl ?_
  refine og_iload X13 hx rfl (hb hby d5_30) rfl ?_
  refine og_static (pc' := 35) (cells' := 2) (slots' := 9) (W := 0) X13 hx hZ (rm_gch_3_0 l Z a0 hw nb13 k13 c0 c1 c2 hc0 hc1 hc2 h13 n0 O V_nb13 S__assertionsDisabled S_HI_BYTE_SHIFT S_LO_BYTE_SHIFT) hown (ow124 hw) (ow125 hw) (ow21 hw) (ow126 hw) (by decide) (by rw [hml]; rfl) e13 opd_5 [(.ref nb13), (.int 0)] [] rfl rfl rfl rfl (by decide) (by decide) rfl rfl (by decide) (by decide) (hb hby d5_32) rfl (fun v14 T14 h14 L14 X14 e14 z14 => ?_)
  obtain ⟨rfl, Nq14, hq14⟩ := z14; replace e14 := e14.trans hq14; have N := Fr.app N Nq14
  refine og_sipush (v := 255) X14 hx rfl (hb hby d5_35) rfl ?_
  refine og_icmp_gt (pc1 := 54) (pc2 := 41) X14 hx (hb hby d5_38) (by decide) (by decide) rfl (fun _ => ?_) (fun q => absurd hbig q)
  refine og_aload X14 hx rfl rfl (hb hby d5_54) rfl ?_
  refine og_retR X14 hx hlk hret rfl rfl rfl (hb hby d5_56) (by decide) (by decide) ?_
  rw [e14]; exact ⟨_, _, rfl, N, K, sz_nb13, Or.inr ⟨V_nb13, fun q => absurd hbig q.1⟩⟩
 ·
  refine og_istore (L' := #[.val (.ref ca), .val (.int 0), .val (.int 3), .val (.ref nb11), .val (.int 1), .unset]) X12 hx rfl (hb hby d5_12) rfl ?_
  refine og_iload X12 hx rfl (hb hby d5_14) rfl ?_
  refine og_iloadN X12 hx rfl (hb hby d5_16) rfl ?_
  refine og_icmp_eq (pc1 := 57) (pc2 := 20) X12 hx (hb hby d5_17) (by decide) (by decide) rfl (fun q => absurd q (by decide)) (fun _ => ?_)
  refine og_aloadN X12 hx rfl rfl (hb hby d5_20) rfl ?_
  refine og_iloadN X12 hx rfl (hb hby d5_21) rfl ?_
  refine og_iloadN X12 hx rfl (hb hby d5_22) rfl ?_
  refine og_static (pc' := 26) (cells' := 2) (slots' := 9) (W := 0) X12 hx hZ (rm_tb3 l Z a0 hw ca kc c0 c1 c2 h12 n0 O V_ca S__assertionsDisabled S_HI_BYTE_SHIFT S_LO_BYTE_SHIFT) hown (ow108 hw) (ow109 hw) (ow21 hw) (ow110 hw) (by decide) (by rw [hml]; rfl) e12 opd_4 [(.ref ca), (.int 0), (.int 3)] [] rfl rfl rfl rfl (by decide) (by decide) rfl rfl (by decide) (by decide) (hb hby d5_23) rfl (fun v15 T15 h15 L15 X15 e15 z15 => ?_)
  obtain ⟨nb15, k15, rfl, Nq15, K15, sb15, V_nb15⟩ := z15; have N := Fr.app N Nq15
  have s_nb15 : h12.size ≤ nb15 := sb15; have g_nb15 : n0 ≤ nb15 := Nat.le_trans (own_n0 O) s_nb15; have sz_nb15 : h0.size ≤ nb15 := Nat.le_trans K.1 s_nb15; have ne_ca_nb15 : ca ≠ nb15 := Nat.ne_of_lt (Nat.lt_of_lt_of_le V_ca.lt s_nb15); have ne_nb11_nb15 : nb11 ≠ nb15 := Nat.ne_of_lt (Nat.lt_of_lt_of_le V_nb11.lt s_nb15)
  have V_ca := V_ca.keep K15 nin0; have V_nb11 := V_nb11.keep K15 nin0; have O := O.keep K15 all0; have K := K.trans K15 all0
  refine og_astore (L' := #[.val (.ref ca), .val (.int 0), .val (.int 3), .val (.ref nb11), .val (.int 1), .val (.ref nb15)]) X15 hx rfl rfl (hb hby d5_26) rfl ?_
  refine og_aload X15 hx rfl rfl (hb hby d5_28) rfl ?_
  refine og_iload X15 hx rfl (hb hby d5_30) rfl ?_
  refine og_static (pc' := 35) (cells' := 2) (slots' := 9) (W := 0) X15 hx hZ (rm_gch_3_1 l Z a0 hw nb15 k15 c0 c1 c2 hc0 hc1 hc2 h15 n0 O V_nb15 S__assertionsDisabled S_HI_BYTE_SHIFT S_LO_BYTE_SHIFT) hown (ow124 hw) (ow125 hw) (ow21 hw) (ow126 hw) (by decide) (by rw [hml]; rfl) e15 opd_5 [(.ref nb15), (.int 1)] [] rfl rfl rfl rfl (by decide) (by decide) rfl rfl (by decide) (by decide) (hb hby d5_32) rfl (fun v16 T16 h16 L16 X16 e16 z16 => ?_)
  obtain ⟨rfl, Nq16, hq16⟩ := z16; replace e16 := e16.trans hq16; have N := Fr.app N Nq16
  refine og_sipush (v := 255) X16 hx rfl (hb hby d5_35) rfl ?_
  refine og_icmp_gt (pc1 := 54) (pc2 := 41) X16 hx (hb hby d5_38) (by decide) (by decide) rfl (fun _ => ?_) (fun q => absurd hbig q)
  refine og_aload X16 hx rfl rfl (hb hby d5_54) rfl ?_
  refine og_retR X16 hx hlk hret rfl rfl rfl (hb hby d5_56) (by decide) (by decide) ?_
  rw [e16]; exact ⟨_, _, rfl, N, K, sz_nb15, Or.inr ⟨V_nb15, fun q => absurd hbig q.2.1⟩⟩
 ·
  refine og_istore (L' := #[.val (.ref ca), .val (.int 0), .val (.int 3), .val (.ref nb11), .val (.int 2), .unset]) X12 hx rfl (hb hby d5_12) rfl ?_
  refine og_iload X12 hx rfl (hb hby d5_14) rfl ?_
  refine og_iloadN X12 hx rfl (hb hby d5_16) rfl ?_
  refine og_icmp_eq (pc1 := 57) (pc2 := 20) X12 hx (hb hby d5_17) (by decide) (by decide) rfl (fun q => absurd q (by decide)) (fun _ => ?_)
  refine og_aloadN X12 hx rfl rfl (hb hby d5_20) rfl ?_
  refine og_iloadN X12 hx rfl (hb hby d5_21) rfl ?_
  refine og_iloadN X12 hx rfl (hb hby d5_22) rfl ?_
  refine og_static (pc' := 26) (cells' := 2) (slots' := 9) (W := 0) X12 hx hZ (rm_tb3 l Z a0 hw ca kc c0 c1 c2 h12 n0 O V_ca S__assertionsDisabled S_HI_BYTE_SHIFT S_LO_BYTE_SHIFT) hown (ow108 hw) (ow109 hw) (ow21 hw) (ow110 hw) (by decide) (by rw [hml]; rfl) e12 opd_4 [(.ref ca), (.int 0), (.int 3)] [] rfl rfl rfl rfl (by decide) (by decide) rfl rfl (by decide) (by decide) (hb hby d5_23) rfl (fun v17 T17 h17 L17 X17 e17 z17 => ?_)
  obtain ⟨nb17, k17, rfl, Nq17, K17, sb17, V_nb17⟩ := z17; have N := Fr.app N Nq17
  have s_nb17 : h12.size ≤ nb17 := sb17; have g_nb17 : n0 ≤ nb17 := Nat.le_trans (own_n0 O) s_nb17; have sz_nb17 : h0.size ≤ nb17 := Nat.le_trans K.1 s_nb17; have ne_ca_nb17 : ca ≠ nb17 := Nat.ne_of_lt (Nat.lt_of_lt_of_le V_ca.lt s_nb17); have ne_nb11_nb17 : nb11 ≠ nb17 := Nat.ne_of_lt (Nat.lt_of_lt_of_le V_nb11.lt s_nb17)
  have V_ca := V_ca.keep K17 nin0; have V_nb11 := V_nb11.keep K17 nin0; have O := O.keep K17 all0; have K := K.trans K17 all0
  refine og_astore (L' := #[.val (.ref ca), .val (.int 0), .val (.int 3), .val (.ref nb11), .val (.int 2), .val (.ref nb17)]) X17 hx rfl rfl (hb hby d5_26) rfl ?_
  refine og_aload X17 hx rfl rfl (hb hby d5_28) rfl ?_
  refine og_iload X17 hx rfl (hb hby d5_30) rfl ?_
  refine og_static (pc' := 35) (cells' := 2) (slots' := 9) (W := 0) X17 hx hZ (rm_gch_3_2 l Z a0 hw nb17 k17 c0 c1 c2 hc0 hc1 hc2 h17 n0 O V_nb17 S__assertionsDisabled S_HI_BYTE_SHIFT S_LO_BYTE_SHIFT) hown (ow124 hw) (ow125 hw) (ow21 hw) (ow126 hw) (by decide) (by rw [hml]; rfl) e17 opd_5 [(.ref nb17), (.int 2)] [] rfl rfl rfl rfl (by decide) (by decide) rfl rfl (by decide) (by decide) (hb hby d5_32) rfl (fun v18 T18 h18 L18 X18 e18 z18 => ?_)
  obtain ⟨rfl, Nq18, hq18⟩ := z18; replace e18 := e18.trans hq18; have N := Fr.app N Nq18
  refine og_sipush (v := 255) X18 hx rfl (hb hby d5_35) rfl ?_
  refine og_icmp_gt (pc1 := 54) (pc2 := 41) X18 hx (hb hby d5_38) (by decide) (by decide) rfl (fun _ => ?_) (fun q => absurd hbig q)
  refine og_aload X18 hx rfl rfl (hb hby d5_54) rfl ?_
  refine og_retR X18 hx hlk hret rfl rfl rfl (hb hby d5_56) (by decide) (by decide) ?_
  rw [e18]; exact ⟨_, _, rfl, N, K, sz_nb17, Or.inr ⟨V_nb17, fun q => absurd hbig q.2.2⟩⟩
theorem rm_ucf3_3 (l : Launch) (Z : State) (a0 : Array Value) (hw : HW a0 Z) (ba : Addr) (kb : ClassId) (vs : List Value) (h0 : Heap) (n0 : Nat) (O : Old Z n0 h0) (V_ba : Arv Z h0 ba kb .byte (3 : Int32) vs (.int 0)) :
  Con l Z (⟨"java/lang/StringUTF16", "coderFromArrayLen", "([BI)B"⟩ : MethodName) jdk_52_method_15_code 2 (some .byte) ({ frames := 0, cells := 0, slots := 0, locals := 0 } : Room) #[(.ref ba), (.int 3)] h0 (fun v h L => v = some (.int 0) ∧ Fr n0 L ∧ h = h0) := by
 refine own_startC opn_7 ?_
 intro p e s m below meth c T0 X0 hx hby hml hZ hown hnm hret hlk e0
 have N := Fr.nil n0; have K := Keep.refl h0 []
 refine OG.cast (oef3 m ba (3 : Int32)) ?_
 refine og_iloadN X0 hx rfl (hb hby d7_0) rfl ?_
 refine og_aloadN X0 hx rfl rfl (hb hby d7_1) rfl ?_
 refine og_arraylength X0 hx hZ e0 V_ba (hb hby d7_2) rfl ?_
 refine og_isub X0 hx (hb hby d7_3) rfl ?_
 show OG p e below _ (T0.setTop (mkF m 4 #[.val (.ref ba), .val (.int 3)] [(.int 0)]))
 refine og_bipush (v := 31) X0 hx rfl (hb hby d7_4) rfl ?_
 refine og_iushr X0 hx (hb hby d7_6) rfl ?_
 show OG p e below _ (T0.setTop (mkF m 7 #[.val (.ref ba), .val (.int 3)] [(.int 0)]))
 refine og_i2b X0 hx (hb hby d7_7) rfl ?_
 show OG p e below _ (T0.setTop (mkF m 8 #[.val (.ref ba), .val (.int 3)] [(.int 0)]))
 refine og_retN X0 hx hlk hret (by simp) (hb hby d7_8) (by decide) (by decide) ?_
 rw [e0]; exact ⟨rfl, N, rfl⟩
theorem rm_ucf3_6 (l : Launch) (Z : State) (a0 : Array Value) (hw : HW a0 Z) (ba : Addr) (kb : ClassId) (vs : List Value) (h0 : Heap) (n0 : Nat) (O : Old Z n0 h0) (V_ba : Arv Z h0 ba kb .byte (6 : Int32) vs (.int 0)) :
  Con l Z (⟨"java/lang/StringUTF16", "coderFromArrayLen", "([BI)B"⟩ : MethodName) jdk_52_method_15_code 2 (some .byte) ({ frames := 0, cells := 0, slots := 0, locals := 0 } : Room) #[(.ref ba), (.int 3)] h0 (fun v h L => v = some (.int 1) ∧ Fr n0 L ∧ h = h0) := by
 refine own_startC opn_7 ?_
 intro p e s m below meth c T0 X0 hx hby hml hZ hown hnm hret hlk e0
 have N := Fr.nil n0; have K := Keep.refl h0 []
 refine OG.cast (oef3 m ba (3 : Int32)) ?_
 refine og_iloadN X0 hx rfl (hb hby d7_0) rfl ?_
 refine og_aloadN X0 hx rfl rfl (hb hby d7_1) rfl ?_
 refine og_arraylength X0 hx hZ e0 V_ba (hb hby d7_2) rfl ?_
 refine og_isub X0 hx (hb hby d7_3) rfl ?_
 show OG p e below _ (T0.setTop (mkF m 4 #[.val (.ref ba), .val (.int 3)] [(.int (-3))]))
 refine og_bipush (v := 31) X0 hx rfl (hb hby d7_4) rfl ?_
 refine og_iushr X0 hx (hb hby d7_6) rfl ?_
 show OG p e below _ (T0.setTop (mkF m 7 #[.val (.ref ba), .val (.int 3)] [(.int 1)]))
 refine og_i2b X0 hx (hb hby d7_7) rfl ?_
 show OG p e below _ (T0.setTop (mkF m 8 #[.val (.ref ba), .val (.int 3)] [(.int 1)]))
 refine og_retN X0 hx hlk hret (by simp) (hb hby d7_8) (by decide) (by decide) ?_
 rw [e0]; exact ⟨rfl, N, rfl⟩
theorem rm_uv3 (l : Launch) (Z : State) (a0 : Array Value) (hw : HW a0 Z) (a1 ca : Addr) (kc : ClassId) (c0 c1 c2 : Int32) (hc0 : 0 ≤ c0.toInt ∧ c0.toInt ≤ 65535) (hc1 : 0 ≤ c1.toInt ∧ c1.toInt ≤ 65535) (hc2 : 0 ≤ c2.toInt ∧ c2.toInt ≤ 65535) (cs : Int32) (hcs : ¬ cs = 0) (h0 : Heap) (n0 : Nat) (O : Old Z n0 h0) (E_a1 : Exa Z h0 a1 "java/lang/String") (F_value_a1 : Fld Z h0 a1 "java/lang/String" "value" "[B" .null) (F_coder_a1 : Fld Z h0 a1 "java/lang/String" "coder" "B" (.int 0)) (V_ca : Arv Z h0 ca kc .char (3 : Int32) [(.int c0), (.int c1), (.int c2)] (.int 0)) (S_CS : Sta Z Z.heap "java/lang/String" "COMPACT_STRINGS" "Z" (.int cs)) (S__assertionsDisabled : Sta Z Z.heap "java/lang/StringUTF16" "$assertionsDisabled" "Z" (.int 1)) (S_HI_BYTE_SHIFT : Sta Z Z.heap "java/lang/StringUTF16" "HI_BYTE_SHIFT" "I" (.int 0)) (S_LO_BYTE_SHIFT : Sta Z Z.heap "java/lang/StringUTF16" "LO_BYTE_SHIFT" "I" (.int 8)) (g_a1 : n0 ≤ a1) (ne_ca_a1 : ca ≠ a1) :
  Con l Z (⟨"java/lang/String", "<init>", "([CIILjava/lang/Void;)V"⟩ : MethodName) jdk_42_method_149_code 6 none ({ frames := 4, cells := 2, slots := 9, locals := 57 } : Room) #[(.ref a1), (.ref ca), (.int 0), (.int 3), .null] h0 (fun v h L => ∃ b k, v = none ∧ Fr n0 L ∧ Keep h0 h [a1] ∧ h0.size ≤ b ∧ Exa Z h a1 "java/lang/String" ∧ Fld Z h a1 "java/lang/String" "value" "[B" (.ref b) ∧ ((Fld Z h a1 "java/lang/String" "coder" "B" (.int 0) ∧ (Arv Z h b k .byte (3 : Int32) [(.int c0.toInt8.toInt32), (.int c1.toInt8.toInt32), (.int c2.toInt8.toInt32)] (.int 0) ∧ ¬ 255 < c0 ∧ ¬ 255 < c1 ∧ ¬ 255 < c2)) ∨ (Fld Z h a1 "java/lang/String" "coder" "B" (.int 1) ∧ (Arv Z h b k .byte (6 : Int32) [(.int c0.toInt8.toInt32), (.int (c0 >>> ((8 : Int32) &&& 31)).toInt8.toInt32), (.int c1.toInt8.toInt32), (.int (c1 >>> ((8 : Int32) &&& 31)).toInt8.toInt32), (.int c2.toInt8.toInt32), (.int (c2 >>> ((8 : Int32) &&& 31)).toInt8.toInt32)] (.int 0) ∧ ¬ (¬ 255 < c0 ∧ ¬ 255 < c1 ∧ ¬ 255 < c2))))) := by
 refine own_startC opn_3 ?_
 intro p e s m below meth c T0 X0 hx hby hml hZ hown hnm hret hlk e0
 have N := Fr.nil n0; have K := Keep.refl h0 [a1]
 refine OG.cast (oef6 m a1 ca (0 : Int32) (3 : Int32)) ?_
 refine og_aloadN X0 hx rfl rfl (hb hby d3_0) rfl ?_
 refine og_initO (pc' := 4) X0 hx hZ (W := 0) (by rw [hml]; rfl) hown (ow15 hw) (ow16 hw) (ow17 hw) e0 rfl (by decide) (by decide) (hb hby d3_1) rfl (fun T11 X11 e11 => ?_)
 refine og_iloadN X11 hx rfl (hb hby d3_4) rfl ?_
 refine og_if_ne (pc1 := 27) (pc2 := 8) X11 hx (hb hby d3_5) (by decide) (by decide) rfl (fun _ => ?_) (fun q => absurd q (by decide))
 refine og_getstatic X11 hx hZ (host := "") hown (Or.inl (ow18 hw)) Via.refl e11 (S_CS.ext O.2) (hb hby d3_27) rfl (fun T12 X12 e12 => ?_)
 refine og_if_eq (pc1 := 58) (pc2 := 33) X12 hx (hb hby d3_30) (by decide) (by decide) rfl (fun q => absurd q hcs) (fun _ => ?_)
 refine og_aloadN X12 hx rfl rfl (hb hby d3_33) rfl ?_
 refine og_iloadN X12 hx rfl (hb hby d3_34) rfl ?_
 refine og_iloadN X12 hx rfl (hb hby d3_35) rfl ?_
 refine og_static (pc' := 39) (cells' := 2) (slots' := 9) (W := 0) X12 hx hZ (rm_uc3 l Z a0 hw ca kc c0 c1 c2 hc0 hc1 hc2 h0 n0 O V_ca S__assertionsDisabled S_HI_BYTE_SHIFT S_LO_BYTE_SHIFT) hown (ow19 hw) (ow20 hw) (ow21 hw) (ow22 hw) (by decide) (by rw [hml]; rfl) e12 opd_4 [(.ref ca), (.int 0), (.int 3)] [] rfl rfl rfl rfl (by decide) (by decide) rfl rfl (by decide) (by decide) (hb hby d3_36) rfl (fun v13 T13 h13 L13 X13 e13 z13 => ?_)
 obtain ⟨nb13, k13, rfl, Nq13, K13, sb13, hd⟩ := z13; have N := Fr.app N Nq13
 have s_nb13 : h0.size ≤ nb13 := sb13; have g_nb13 : n0 ≤ nb13 := Nat.le_trans (own_n0 O) s_nb13; have sz_nb13 : h0.size ≤ nb13 := Nat.le_trans K.1 s_nb13; have ne_a1_nb13 : a1 ≠ nb13 := Nat.ne_of_lt (Nat.lt_of_lt_of_le E_a1.lt s_nb13); have ne_ca_nb13 : ca ≠ nb13 := Nat.ne_of_lt (Nat.lt_of_lt_of_le V_ca.lt s_nb13)
 have E_a1 := E_a1.keep K13; have F_value_a1 := F_value_a1.keep K13 nin0; have F_coder_a1 := F_coder_a1.keep K13 nin0; have V_ca := V_ca.keep K13 nin0; have O := O.keep K13 all0; have K := K.trans K13 all0
 rcases hd with ⟨V_nb13, hsm⟩ | ⟨V_nb13, hsm⟩
 ·
  refine og_astore (L' := #[.val (.ref a1), .val (.ref ca), .val (.int 0), .val (.int 3), .val .null, .val (.ref nb13)]) X13 hx rfl rfl (hb hby d3_39) rfl ?_
  refine og_aloadN X13 hx rfl rfl (hb hby d3_41) rfl ?_
  refine og_aload X13 hx rfl rfl (hb hby d3_42) rfl ?_
  refine og_iloadN X13 hx rfl (hb hby d3_44) rfl ?_
  refine og_static (pc' := 48) (cells' := 2) (slots' := 9) (W := 1) X13 hx hZ (rm_ucf3_3 l Z a0 hw nb13 k13 _ h13 n0 O V_nb13) hown (ow27 hw) (ow28 hw) (ow21 hw) (ow29 hw) (by decide) (by rw [hml]; rfl) e13 opd_6 [(.ref nb13), (.int 3)] [(.ref a1)] rfl rfl rfl rfl (by decide) (by decide) rfl rfl (by decide) (by decide) (hb hby d3_45) rfl (fun v14 T14 h14 L14 X14 e14 z14 => ?_)
  obtain ⟨rfl, Nq14, hq14⟩ := z14; replace e14 := e14.trans hq14; have N := Fr.app N Nq14
  refine og_putfield X14 hx hZ (ty := .byte) (host := "") hown (Or.inl (ow30 hw)) Via.refl e14 F_coder_a1 E_a1 (Or.inr ⟨(ow31 hw), rfl, hnm⟩) (ow6 hw) (by decide) rfl rfl (hb hby d3_48) rfl (fun T15 h15 X15 e15 W15 => ?_)
  have F_coder_a1_ := F_coder_a1.same W15
  have E_a1 := E_a1.wr W15; have F_value_a1 := F_value_a1.other W15 (Or.inr (slot_ne (Or.inr (ow33 hw)) (Or.inr (ow31 hw)) (by decide) (t := (.array .byte)) (t' := .byte) (by decide) (by decide))); have V_ca := V_ca.other W15 ne_ca_a1; have V_nb13 := V_nb13.other W15 (Ne.symm ne_a1_nb13); have O := O.wr W15 g_a1; have K := K.wr W15 (Or.inl (List.mem_of_getElem? (i := 0) rfl))
  have N := Fr.snoc X15 N g_a1; have F_coder_a1 := F_coder_a1_
  refine og_aloadN X15 hx rfl rfl (hb hby d3_51) rfl ?_
  refine og_aload X15 hx rfl rfl (hb hby d3_52) rfl ?_
  refine og_putfield X15 hx hZ (ty := (.array .byte)) (host := "") hown (Or.inl (ow32 hw)) Via.refl e15 F_value_a1 E_a1 (Or.inr ⟨(ow33 hw), rfl, hnm⟩) (ow6 hw) (by decide) rfl rfl (hb hby d3_54) rfl (fun T16 h16 X16 e16 W16 => ?_)
  have F_value_a1_ := F_value_a1.same W16
  have E_a1 := E_a1.wr W16; have V_ca := V_ca.other W16 ne_ca_a1; have V_nb13 := V_nb13.other W16 (Ne.symm ne_a1_nb13); have F_coder_a1 := F_coder_a1.other W16 (Or.inr (slot_ne (Or.inr (ow31 hw)) (Or.inr (ow33 hw)) (by decide) (t := .byte) (t' := (.array .byte)) (by decide) (by decide))); have O := O.wr W16 g_a1; have K := K.wr W16 (Or.inl (List.mem_of_getElem? (i := 0) rfl))
  have N := Fr.snoc X16 N g_a1; have F_value_a1 := F_value_a1_
  refine og_retV X16 hx hlk hret (hb hby d3_57) (by decide) (by decide) ?_
  rw [e16]; exact ⟨_, _, rfl, N, K, sz_nb13, E_a1, F_value_a1, Or.inl ⟨F_coder_a1, V_nb13, hsm⟩⟩
 ·
  refine og_astore (L' := #[.val (.ref a1), .val (.ref ca), .val (.int 0), .val (.int 3), .val .null, .val (.ref nb13)]) X13 hx rfl rfl (hb hby d3_39) rfl ?_
  refine og_aloadN X13 hx rfl rfl (hb hby d3_41) rfl ?_
  refine og_aload X13 hx rfl rfl (hb hby d3_42) rfl ?_
  refine og_iloadN X13 hx rfl (hb hby d3_44) rfl ?_
  refine og_static (pc' := 48) (cells' := 2) (slots' := 9) (W := 1) X13 hx hZ (rm_ucf3_6 l Z a0 hw nb13 k13 _ h13 n0 O V_nb13) hown (ow27 hw) (ow28 hw) (ow21 hw) (ow29 hw) (by decide) (by rw [hml]; rfl) e13 opd_6 [(.ref nb13), (.int 3)] [(.ref a1)] rfl rfl rfl rfl (by decide) (by decide) rfl rfl (by decide) (by decide) (hb hby d3_45) rfl (fun v17 T17 h17 L17 X17 e17 z17 => ?_)
  obtain ⟨rfl, Nq17, hq17⟩ := z17; replace e17 := e17.trans hq17; have N := Fr.app N Nq17
  refine og_putfield X17 hx hZ (ty := .byte) (host := "") hown (Or.inl (ow30 hw)) Via.refl e17 F_coder_a1 E_a1 (Or.inr ⟨(ow31 hw), rfl, hnm⟩) (ow6 hw) (by decide) rfl rfl (hb hby d3_48) rfl (fun T18 h18 X18 e18 W18 => ?_)
  have F_coder_a1_ := F_coder_a1.same W18
  have E_a1 := E_a1.wr W18; have F_value_a1 := F_value_a1.other W18 (Or.inr (slot_ne (Or.inr (ow33 hw)) (Or.inr (ow31 hw)) (by decide) (t := (.array .byte)) (t' := .byte) (by decide) (by decide))); have V_ca := V_ca.other W18 ne_ca_a1; have V_nb13 := V_nb13.other W18 (Ne.symm ne_a1_nb13); have O := O.wr W18 g_a1; have K := K.wr W18 (Or.inl (List.mem_of_getElem? (i := 0) rfl))
  have N := Fr.snoc X18 N g_a1; have F_coder_a1 := F_coder_a1_
  refine og_aloadN X18 hx rfl rfl (hb hby d3_51) rfl ?_
  refine og_aload X18 hx rfl rfl (hb hby d3_52) rfl ?_
  refine og_putfield X18 hx hZ (ty := (.array .byte)) (host := "") hown (Or.inl (ow32 hw)) Via.refl e18 F_value_a1 E_a1 (Or.inr ⟨(ow33 hw), rfl, hnm⟩) (ow6 hw) (by decide) rfl rfl (hb hby d3_54) rfl (fun T19 h19 X19 e19 W19 => ?_)
  have F_value_a1_ := F_value_a1.same W19
  have E_a1 := E_a1.wr W19; have V_ca := V_ca.other W19 ne_ca_a1; have V_nb13 := V_nb13.other W19 (Ne.symm ne_a1_nb13); have F_coder_a1 := F_coder_a1.other W19 (Or.inr (slot_ne (Or.inr (ow31 hw)) (Or.inr (ow33 hw)) (by decide) (t := .byte) (t' := (.array .byte)) (by decide) (by decide))); have O := O.wr W19 g_a1; have K := K.wr W19 (Or.inl (List.mem_of_getElem? (i := 0) rfl))
  have N := Fr.snoc X19 N g_a1; have F_value_a1 := F_value_a1_
  refine og_retV X19 hx hlk hret (hb hby d3_57) (by decide) (by decide) ?_
  rw [e19]; exact ⟨_, _, rfl, N, K, sz_nb13, E_a1, F_value_a1, Or.inr ⟨F_coder_a1, V_nb13, hsm⟩⟩
theorem rm_un3 (l : Launch) (Z : State) (a0 : Array Value) (hw : HW a0 Z) (a1 ca : Addr) (kc : ClassId) (c0 c1 c2 : Int32) (hc0 : 0 ≤ c0.toInt ∧ c0.toInt ≤ 65535) (hc1 : 0 ≤ c1.toInt ∧ c1.toInt ≤ 65535) (hc2 : 0 ≤ c2.toInt ∧ c2.toInt ≤ 65535) (cs : Int32) (hcs : ¬ cs = 0) (h0 : Heap) (n0 : Nat) (O : Old Z n0 h0) (E_a1 : Exa Z h0 a1 "java/lang/String") (F_value_a1 : Fld Z h0 a1 "java/lang/String" "value" "[B" .null) (F_coder_a1 : Fld Z h0 a1 "java/lang/String" "coder" "B" (.int 0)) (V_ca : Arv Z h0 ca kc .char (3 : Int32) [(.int c0), (.int c1), (.int c2)] (.int 0)) (S_CS : Sta Z Z.heap "java/lang/String" "COMPACT_STRINGS" "Z" (.int cs)) (S__assertionsDisabled : Sta Z Z.heap "java/lang/StringUTF16" "$assertionsDisabled" "Z" (.int 1)) (S_HI_BYTE_SHIFT : Sta Z Z.heap "java/lang/StringUTF16" "HI_BYTE_SHIFT" "I" (.int 0)) (S_LO_BYTE_SHIFT : Sta Z Z.heap "java/lang/StringUTF16" "LO_BYTE_SHIFT" "I" (.int 8)) (g_a1 : n0 ≤ a1) (ne_ca_a1 : ca ≠ a1) :
  Con l Z (⟨"java/lang/String", "<init>", "([C)V"⟩ : MethodName) jdk_42_method_3_code 2 none ({ frames := 5, cells := 2, slots := 9, locals := 74 } : Room) #[(.ref a1), (.ref ca)] h0 (fun v h L => ∃ b k, v = none ∧ Fr n0 L ∧ Keep h0 h [a1] ∧ h0.size ≤ b ∧ Exa Z h a1 "java/lang/String" ∧ Fld Z h a1 "java/lang/String" "value" "[B" (.ref b) ∧ ((Fld Z h a1 "java/lang/String" "coder" "B" (.int 0) ∧ (Arv Z h b k .byte (3 : Int32) [(.int c0.toInt8.toInt32), (.int c1.toInt8.toInt32), (.int c2.toInt8.toInt32)] (.int 0) ∧ ¬ 255 < c0 ∧ ¬ 255 < c1 ∧ ¬ 255 < c2)) ∨ (Fld Z h a1 "java/lang/String" "coder" "B" (.int 1) ∧ (Arv Z h b k .byte (6 : Int32) [(.int c0.toInt8.toInt32), (.int (c0 >>> ((8 : Int32) &&& 31)).toInt8.toInt32), (.int c1.toInt8.toInt32), (.int (c1 >>> ((8 : Int32) &&& 31)).toInt8.toInt32), (.int c2.toInt8.toInt32), (.int (c2 >>> ((8 : Int32) &&& 31)).toInt8.toInt32)] (.int 0) ∧ ¬ (¬ 255 < c0 ∧ ¬ 255 < c1 ∧ ¬ 255 < c2))))) := by
 refine own_startC opn_2 ?_
 intro p e s m below meth c T0 X0 hx hby hml hZ hown hnm hret hlk e0
 have N := Fr.nil n0; have K := Keep.refl h0 [a1]
 refine OG.cast (oef7 m a1 ca) ?_
 refine og_aloadN X0 hx rfl rfl (hb hby d2_0) rfl ?_
 refine og_aloadN X0 hx rfl rfl (hb hby d2_1) rfl ?_
 refine og_iconst (v := 0) X0 hx rfl (hb hby d2_2) rfl ?_
 refine og_aloadN X0 hx rfl rfl (hb hby d2_3) rfl ?_
 refine og_arraylength X0 hx hZ e0 V_ca (hb hby d2_4) rfl ?_
 refine og_aconst_null X0 hx (hb hby d2_5) rfl ?_
 refine og_special (pc' := 9) (cells' := 2) (slots' := 9) (W := 0) X0 hx hZ (rm_uv3 l Z a0 hw a1 ca kc c0 c1 c2 hc0 hc1 hc2 cs hcs h0 n0 O E_a1 F_value_a1 F_coder_a1 V_ca S_CS S__assertionsDisabled S_HI_BYTE_SHIFT S_LO_BYTE_SHIFT g_a1 ne_ca_a1) rfl hown (ow11 hw) (ow12 hw) (ow7 hw) (ow14 hw) (by decide) (by rw [hml]; rfl) e0 opd_7 [(.ref ca), (.int 0), (.int 3), .null] [] rfl rfl rfl rfl (by decide) (by decide) rfl rfl (by decide) (by decide) (hb hby d2_6) rfl (fun v11 T11 h11 L11 X11 e11 z11 => ?_)
 obtain ⟨nb11, k11, rfl, Nq11, K11, sb11, E_a1', F_value_a1', hd⟩ := z11; have N := Fr.app N Nq11
 have s_nb11 : h0.size ≤ nb11 := sb11; have g_nb11 : n0 ≤ nb11 := Nat.le_trans (own_n0 O) s_nb11; have sz_nb11 : h0.size ≤ nb11 := Nat.le_trans K.1 s_nb11; have ne_a1_nb11 : a1 ≠ nb11 := Nat.ne_of_lt (Nat.lt_of_lt_of_le E_a1.lt s_nb11); have ne_ca_nb11 : ca ≠ nb11 := Nat.ne_of_lt (Nat.lt_of_lt_of_le V_ca.lt s_nb11)
 have E_a1 := E_a1.keep K11; have V_ca := V_ca.keep K11 (ninS ne_ca_a1 nin0); have O := O.keep K11 (allS g_a1 all0); have K := K.trans K11 (allS (Or.inl (List.mem_of_getElem? (i := 0) rfl)) all0)
 have E_a1 := E_a1'; have F_value_a1 := F_value_a1'
 refine og_retV X11 hx hlk hret (hb hby d2_9) (by decide) (by decide) ?_
 rw [e11]; exact ⟨_, _, rfl, N, K, sz_nb11, E_a1, F_value_a1, hd⟩
theorem rm_pc (l : Launch) (Z : State) (a0 : Array Value) (hw : HW a0 Z) (nn ii : Int32) (hi : ¬ ii < 0 ∧ ii < nn) (fm : Value) (hfm : fm.isRef = true) (h0 : Heap) (n0 : Nat) (O : Old Z n0 h0) :
  Con l Z (⟨"jdk/internal/util/Preconditions", "checkIndex", "(IILjava/util/function/BiFunction;)I"⟩ : MethodName) jdk_41_method_11_code 3 (some .int) ({ frames := 0, cells := 0, slots := 0, locals := 0 } : Room) #[(.int ii), (.int nn), fm] h0 (fun v h L => v = some (.int ii) ∧ Fr n0 L ∧ h = h0) := by
 refine own_startC opn_15 ?_
 intro p e s m below meth c T0 X0 hx hby hml hZ hown hnm hret hlk e0
 have N := Fr.nil n0; have K := Keep.refl h0 []
 refine OG.cast (oef8 m ii nn fm hfm) ?_
 refine og_iloadN X0 hx rfl (hb hby d15_0) rfl ?_
 refine og_if_lt (pc1 := 9) (pc2 := 4) X0 hx (hb hby d15_1) (by decide) (by decide) rfl (fun q => absurd q hi.1) (fun _ => ?_)
 refine og_iloadN X0 hx rfl (hb hby d15_4) rfl ?_
 refine og_iloadN X0 hx rfl (hb hby d15_5) rfl ?_
 refine og_icmp_lt (pc1 := 16) (pc2 := 9) X0 hx (hb hby d15_6) (by decide) (by decide) rfl (fun _ => ?_) (fun q => absurd hi.2 q)
 refine og_iloadN X0 hx rfl (hb hby d15_16) rfl ?_
 refine og_retI X0 hx hlk hret (hb hby d15_17) (by decide) (by decide) ?_
 rw [e0]; exact ⟨rfl, N, rfl⟩
theorem rm_ci (l : Launch) (Z : State) (a0 : Array Value) (hw : HW a0 Z) (nn ii : Int32) (hi : ¬ ii < 0 ∧ ii < nn) (fm : Value) (hfm : fm.isRef = true) (h0 : Heap) (n0 : Nat) (O : Old Z n0 h0) (S_FM : Sta Z Z.heap "jdk/internal/util/Preconditions" "SIOOBE_FORMATTER" "Ljava/util/function/BiFunction;" fm) :
  Con l Z (⟨"java/lang/String", "checkIndex", "(II)V"⟩ : MethodName) jdk_42_method_155_code 2 none ({ frames := 1, cells := 0, slots := 0, locals := 14 } : Room) #[(.int ii), (.int nn)] h0 (fun v h L => v = none ∧ Fr n0 L ∧ h = h0) := by
 refine own_startC opn_14 ?_
 intro p e s m below meth c T0 X0 hx hby hml hZ hown hnm hret hlk e0
 have N := Fr.nil n0; have K := Keep.refl h0 []
 refine OG.cast (oef9 m ii nn) ?_
 refine og_iloadN X0 hx rfl (hb hby d14_0) rfl ?_
 refine og_iloadN X0 hx rfl (hb hby d14_1) rfl ?_
 refine og_getstatic X0 hx hZ (host := "") hown (Or.inl (ow65 hw)) Via.refl e0 (S_FM.ext O.2) (hb hby d14_2) rfl (fun T11 X11 e11 => ?_)
 refine og_static (pc' := 8) (cells' := 0) (slots' := 0) (W := 0) X11 hx hZ (rm_pc l Z a0 hw nn ii hi fm hfm h0 n0 O) hown (ow67 hw) (ow68 hw) (ow66 hw) (ow69 hw) (by decide) (by rw [hml]; rfl) e11 opd_8 [(.int ii), (.int nn), fm] [] rfl rfl rfl rfl (by decide) (by decide) rfl rfl (by decide) (by decide) (hb hby d14_5) rfl (fun v12 T12 h12 L12 X12 e12 z12 => ?_)
 obtain ⟨rfl, Nq12, hq12⟩ := z12; replace e12 := e12.trans hq12; have N := Fr.app N Nq12
 refine og_pop X12 hx rfl (hb hby d14_8) rfl ?_
 refine og_retV X12 hx hlk hret (hb hby d14_9) (by decide) (by decide) ?_
 rw [e12]; exact ⟨rfl, N, rfl⟩
theorem rm_lc (l : Launch) (Z : State) (a0 : Array Value) (hw : HW a0 Z) (ba : Addr) (kb : ClassId) (nn ii : Int32) (hi : ¬ ii < 0 ∧ ii < nn) (vs : List Value) (cc : Int32) (hv : vs.getD ii.toNatClampNeg (.int 0) = .int cc.toInt8.toInt32) (hcc : 0 ≤ cc.toInt ∧ cc.toInt ≤ 255) (fm : Value) (hfm : fm.isRef = true) (h0 : Heap) (n0 : Nat) (O : Old Z n0 h0) (V_ba : Arv Z h0 ba kb .byte nn vs (.int 0)) (S_FM : Sta Z Z.heap "jdk/internal/util/Preconditions" "SIOOBE_FORMATTER" "Ljava/util/function/BiFunction;" fm) :
  Con l Z (⟨"java/lang/StringLatin1", "charAt", "([BI)C"⟩ : MethodName) jdk_43_method_2_code 2 (some .char) ({ frames := 2, cells := 0, slots := 0, locals := 27 } : Room) #[(.ref ba), (.int ii)] h0 (fun v h L => v = some (.int cc) ∧ Fr n0 L ∧ h = h0) := by
 refine own_startC opn_13 ?_
 intro p e s m below meth c T0 X0 hx hby hml hZ hown hnm hret hlk e0
 have N := Fr.nil n0; have K := Keep.refl h0 []
 refine OG.cast (oef3 m ba ii) ?_
 refine og_iloadN X0 hx rfl (hb hby d13_0) rfl ?_
 refine og_aloadN X0 hx rfl rfl (hb hby d13_1) rfl ?_
 refine og_arraylength X0 hx hZ e0 V_ba (hb hby d13_2) rfl ?_
 refine og_static (pc' := 6) (cells' := 0) (slots' := 0) (W := 0) X0 hx hZ (rm_ci l Z a0 hw nn ii hi fm hfm h0 n0 O S_FM) hown (ow62 hw) (ow63 hw) (ow7 hw) (ow64 hw) (by decide) (by rw [hml]; rfl) e0 opd_9 [(.int ii), (.int nn)] [] rfl rfl rfl rfl (by decide) (by decide) rfl rfl (by decide) (by decide) (hb hby d13_3) rfl (fun v11 T11 h11 L11 X11 e11 z11 => ?_)
 obtain ⟨rfl, Nq11, hq11⟩ := z11; replace e11 := e11.trans hq11; have N := Fr.app N Nq11
 refine og_aloadN X11 hx rfl rfl (hb hby d13_6) rfl ?_
 refine og_iloadN X11 hx rfl (hb hby d13_7) rfl ?_
 refine og_baload (v := (.int cc.toInt8.toInt32)) X11 hx hZ e11 V_ba hi hv (hb hby d13_8) rfl ?_
 refine og_sipush (v := 255) X11 hx rfl (hb hby d13_9) rfl ?_
 refine og_iand X11 hx (hb hby d13_12) rfl ?_
 refine og_i2c X11 hx (hb hby d13_13) rfl ?_
 refine og_retN X11 hx hlk hret (by simp) (hb hby d13_14) (by decide) (by decide) ?_
 rw [e11, own_ch hcc]; exact ⟨rfl, N, rfl⟩
theorem rm_il (l : Launch) (Z : State) (a0 : Array Value) (hw : HW a0 Z) (a1 : Addr) (cs : Int32) (hcs : ¬ cs = 0) (h0 : Heap) (n0 : Nat) (O : Old Z n0 h0) (F_coder_a1 : Fld Z h0 a1 "java/lang/String" "coder" "B" (.int 0)) (S_CS : Sta Z Z.heap "java/lang/String" "COMPACT_STRINGS" "Z" (.int cs)) :
  Con l Z (⟨"java/lang/String", "isLatin1", "()Z"⟩ : MethodName) jdk_42_method_154_code 1 (some .boolean) ({ frames := 0, cells := 0, slots := 0, locals := 0 } : Room) #[(.ref a1)] h0 (fun v h L => v = some (.int 1) ∧ Fr n0 L ∧ h = h0) := by
 refine own_startC opn_12 ?_
 intro p e s m below meth c T0 X0 hx hby hml hZ hown hnm hret hlk e0
 have N := Fr.nil n0; have K := Keep.refl h0 []
 refine OG.cast (oef10 m a1) ?_
 refine og_getstatic X0 hx hZ (host := "") hown (Or.inl (ow18 hw)) Via.refl e0 (S_CS.ext O.2) (hb hby d12_0) rfl (fun T11 X11 e11 => ?_)
 refine og_if_eq (pc1 := 17) (pc2 := 6) X11 hx (hb hby d12_3) (by decide) (by decide) rfl (fun q => absurd q hcs) (fun _ => ?_)
 refine og_aloadN X11 hx rfl rfl (hb hby d12_6) rfl ?_
 refine og_getfield X11 hx hZ (host := "") hown (Or.inl (ow30 hw)) Via.refl e11 F_coder_a1 (hb hby d12_7) rfl (fun T12 X12 e12 => ?_)
 refine og_if_ne (pc1 := 17) (pc2 := 13) X12 hx (hb hby d12_10) (by decide) (by decide) rfl (fun q => absurd q (by decide)) (fun _ => ?_)
 refine og_iconst (v := 1) X12 hx rfl (hb hby d12_13) rfl ?_
 refine og_goto (pc' := 18) X12 hx (hb hby d12_14) (by decide) (by decide) ?_
 refine og_retN X12 hx hlk hret (by simp) (hb hby d12_18) (by decide) (by decide) ?_
 rw [e12]; exact ⟨rfl, N, rfl⟩
theorem rm_ch (l : Launch) (Z : State) (a0 : Array Value) (hw : HW a0 Z) (a1 ba : Addr) (kb : ClassId) (nn ii : Int32) (hi : ¬ ii < 0 ∧ ii < nn) (vs : List Value) (cc : Int32) (hv : vs.getD ii.toNatClampNeg (.int 0) = .int cc.toInt8.toInt32) (hcc : 0 ≤ cc.toInt ∧ cc.toInt ≤ 255) (cs : Int32) (hcs : ¬ cs = 0) (fm : Value) (hfm : fm.isRef = true) (h0 : Heap) (n0 : Nat) (O : Old Z n0 h0) (E_a1 : Exa Z h0 a1 "java/lang/String") (F_value_a1 : Fld Z h0 a1 "java/lang/String" "value" "[B" (.ref ba)) (F_coder_a1 : Fld Z h0 a1 "java/lang/String" "coder" "B" (.int 0)) (V_ba : Arv Z h0 ba kb .byte nn vs (.int 0)) (S_CS : Sta Z Z.heap "java/lang/String" "COMPACT_STRINGS" "Z" (.int cs)) (S_FM : Sta Z Z.heap "jdk/internal/util/Preconditions" "SIOOBE_FORMATTER" "Ljava/util/function/BiFunction;" fm) :
  Con l Z (⟨"java/lang/String", "charAt", "(I)C"⟩ : MethodName) jdk_42_method_56_code 2 (some .char) ({ frames := 3, cells := 0, slots := 0, locals := 40 } : Room) #[(.ref a1), (.int ii)] h0 (fun v h L => v = some (.int cc) ∧ Fr n0 L ∧ h = h0) := by
 refine own_startC opn_11 ?_
 intro p e s m below meth c T0 X0 hx hby hml hZ hown hnm hret hlk e0
 have N := Fr.nil n0; have K := Keep.refl h0 []
 refine OG.cast (oef3 m a1 ii) ?_
 refine og_aloadN X0 hx rfl rfl (hb hby d11_0) rfl ?_
 refine og_virtual (pc' := 4) (cells' := 0) (slots' := 0) (W := 0) X0 hx hZ (rm_il l Z a0 hw a1 cs hcs h0 n0 O F_coder_a1 S_CS) hown (ow53 hw) (ow54 hw) (own_nf hZ (ow56 hw)) (ow56 hw) (ow55 hw) (ow7 hw) (ow57 hw) (by decide) (by rw [hml]; rfl) e0 opd_10 [] [] rfl rfl rfl rfl (by decide) (by decide) rfl rfl (by decide) (by decide) E_a1 (hb hby d11_1) rfl (fun v11 T11 h11 L11 X11 e11 z11 => ?_)
 obtain ⟨rfl, Nq11, hq11⟩ := z11; replace e11 := e11.trans hq11; have N := Fr.app N Nq11
 refine og_if_eq (pc1 := 16) (pc2 := 7) X11 hx (hb hby d11_4) (by decide) (by decide) rfl (fun q => absurd q (by decide)) (fun _ => ?_)
 refine og_aloadN X11 hx rfl rfl (hb hby d11_7) rfl ?_
 refine og_getfield X11 hx hZ (host := "") hown (Or.inl (ow32 hw)) Via.refl e11 F_value_a1 (hb hby d11_8) rfl (fun T12 X12 e12 => ?_)
 refine og_iloadN X12 hx rfl (hb hby d11_11) rfl ?_
 refine og_static (pc' := 15) (cells' := 0) (slots' := 0) (W := 0) X12 hx hZ (rm_lc l Z a0 hw ba kb nn ii hi vs cc hv hcc fm hfm h0 n0 O V_ba S_FM) hown (ow58 hw) (ow59 hw) (ow60 hw) (ow61 hw) (by decide) (by rw [hml]; rfl) e12 opd_5 [(.ref ba), (.int ii)] [] rfl rfl rfl rfl (by decide) (by decide) rfl rfl (by decide) (by decide) (hb hby d11_12) rfl (fun v13 T13 h13 L13 X13 e13 z13 => ?_)
 obtain ⟨rfl, Nq13, hq13⟩ := z13; replace e13 := e13.trans hq13; have N := Fr.app N Nq13
 refine og_retN X13 hx hlk hret (by simp) (hb hby d11_15) (by decide) (by decide) ?_
 rw [e13, own_nc hcc]; exact ⟨rfl, N, rfl⟩
theorem rm_cod (l : Launch) (Z : State) (a0 : Array Value) (hw : HW a0 Z) (a1 : Addr) (cs : Int32) (hcs : ¬ cs = 0) (h0 : Heap) (n0 : Nat) (O : Old Z n0 h0) (F_coder_a1 : Fld Z h0 a1 "java/lang/String" "coder" "B" (.int 0)) (S_CS : Sta Z Z.heap "java/lang/String" "COMPACT_STRINGS" "Z" (.int cs)) :
  Con l Z (⟨"java/lang/String", "coder", "()B"⟩ : MethodName) jdk_42_method_152_code 1 (some .byte) ({ frames := 0, cells := 0, slots := 0, locals := 0 } : Room) #[(.ref a1)] h0 (fun v h L => v = some (.int 0) ∧ Fr n0 L ∧ h = h0) := by
 refine own_startC opn_10 ?_
 intro p e s m below meth c T0 X0 hx hby hml hZ hown hnm hret hlk e0
 have N := Fr.nil n0; have K := Keep.refl h0 []
 refine OG.cast (oef10 m a1) ?_
 refine og_getstatic X0 hx hZ (host := "") hown (Or.inl (ow18 hw)) Via.refl e0 (S_CS.ext O.2) (hb hby d10_0) rfl (fun T11 X11 e11 => ?_)
 refine og_if_eq (pc1 := 13) (pc2 := 6) X11 hx (hb hby d10_3) (by decide) (by decide) rfl (fun q => absurd q hcs) (fun _ => ?_)
 refine og_aloadN X11 hx rfl rfl (hb hby d10_6) rfl ?_
 refine og_getfield X11 hx hZ (host := "") hown (Or.inl (ow30 hw)) Via.refl e11 F_coder_a1 (hb hby d10_7) rfl (fun T12 X12 e12 => ?_)
 refine og_goto (pc' := 14) X12 hx (hb hby d10_10) (by decide) (by decide) ?_
 refine og_retN X12 hx hlk hret (by simp) (hb hby d10_14) (by decide) (by decide) ?_
 rw [e12]; exact ⟨rfl, N, rfl⟩
theorem rm_len (l : Launch) (Z : State) (a0 : Array Value) (hw : HW a0 Z) (a1 ba : Addr) (kb : ClassId) (nn : Int32) (vs : List Value) (cs : Int32) (hcs : ¬ cs = 0) (h0 : Heap) (n0 : Nat) (O : Old Z n0 h0) (E_a1 : Exa Z h0 a1 "java/lang/String") (F_value_a1 : Fld Z h0 a1 "java/lang/String" "value" "[B" (.ref ba)) (F_coder_a1 : Fld Z h0 a1 "java/lang/String" "coder" "B" (.int 0)) (V_ba : Arv Z h0 ba kb .byte nn vs (.int 0)) (S_CS : Sta Z Z.heap "java/lang/String" "COMPACT_STRINGS" "Z" (.int cs)) :
  Con l Z (⟨"java/lang/String", "length", "()I"⟩ : MethodName) jdk_42_method_54_code 1 (some .int) ({ frames := 1, cells := 0, slots := 0, locals := 13 } : Room) #[(.ref a1)] h0 (fun v h L => v = some (.int nn) ∧ Fr n0 L ∧ h = h0) := by
 refine own_startC opn_9 ?_
 intro p e s m below meth c T0 X0 hx hby hml hZ hown hnm hret hlk e0
 have N := Fr.nil n0; have K := Keep.refl h0 []
 refine OG.cast (oef10 m a1) ?_
 refine og_aloadN X0 hx rfl rfl (hb hby d9_0) rfl ?_
 refine og_getfield X0 hx hZ (host := "") hown (Or.inl (ow32 hw)) Via.refl e0 F_value_a1 (hb hby d9_1) rfl (fun T11 X11 e11 => ?_)
 refine og_arraylength X11 hx hZ e11 V_ba (hb hby d9_4) rfl ?_
 refine og_aloadN X11 hx rfl rfl (hb hby d9_5) rfl ?_
 refine og_virtual (pc' := 9) (cells' := 0) (slots' := 0) (W := 1) X11 hx hZ (rm_cod l Z a0 hw a1 cs hcs h0 n0 O F_coder_a1 S_CS) hown (ow43 hw) (ow44 hw) (own_nf hZ (ow46 hw)) (ow46 hw) (ow45 hw) (ow7 hw) (ow47 hw) (by decide) (by rw [hml]; rfl) e11 opd_11 [] [(.int nn)] rfl rfl rfl rfl (by decide) (by decide) rfl rfl (by decide) (by decide) E_a1 (hb hby d9_6) rfl (fun v12 T12 h12 L12 X12 e12 z12 => ?_)
 obtain ⟨rfl, Nq12, hq12⟩ := z12; replace e12 := e12.trans hq12; have N := Fr.app N Nq12
 refine og_ishr X12 hx (hb hby d9_9) rfl ?_
 refine og_retI X12 hx hlk hret (hb hby d9_10) (by decide) (by decide) ?_
 rw [e12, own_shr0]; exact ⟨rfl, N, rfl⟩
theorem rm_ihs (l : Launch) (Z : State) (a0 : Array Value) (hw : HW a0 Z) (x : Int32) (h0 : Heap) (n0 : Nat) (O : Old Z n0 h0) :
  Con l Z (⟨"java/lang/Character", "isHighSurrogate", "(C)Z"⟩ : MethodName) jdk_89_method_14_code 1 (some .boolean) ({ frames := 0, cells := 0, slots := 0, locals := 0 } : Room) #[(.int x)] h0 (fun v h L => ∃ r : Int32, v = some (.int r) ∧ Fr n0 L ∧ h = h0 ∧ ((r = 1 ∧ own_H x) ∨ (r = 0 ∧ ¬ own_H x))) := by
 refine own_startC opn_34 ?_
 intro p e s m below meth c T0 X0 hx hby hml hZ hown hnm hret hlk e0
 have N := Fr.nil n0; have K := Keep.refl h0 []
 refine OG.cast (oef1 m x) ?_
 refine og_iloadN X0 hx rfl (hb hby d34_0) rfl ?_
 refine og_ldc X0 hx hZ hown (ow146 hw) (hb hby d34_1) rfl ?_
 refine og_icmp_lt (pc1 := 16) (pc2 := 6) X0 hx (hb hby d34_3) (by decide) (by decide) rfl (fun hc3 => ?_) (fun hc3 => ?_)
 ·
  refine og_iconst (v := 0) X0 hx rfl (hb hby d34_16) rfl ?_
  refine og_retN X0 hx hlk hret (by simp) (hb hby d34_17) (by decide) (by decide) ?_
  have q_hc3 := own_i1 hc3 (show (55296 : Int32).toInt = 55296 by decide)
  rw [e0]; exact ⟨_, rfl, N, rfl, Or.inr ⟨rfl, by unfold own_H; omega⟩⟩
 ·
  refine og_iloadN X0 hx rfl (hb hby d34_6) rfl ?_
  refine og_ldc X0 hx hZ hown (ow147 hw) (hb hby d34_7) rfl ?_
  refine og_icmp_ge (pc1 := 16) (pc2 := 12) X0 hx (hb hby d34_9) (by decide) (by decide) rfl (fun hc9 => ?_) (fun hc9 => ?_)
  ·
   refine og_iconst (v := 0) X0 hx rfl (hb hby d34_16) rfl ?_
   refine og_retN X0 hx hlk hret (by simp) (hb hby d34_17) (by decide) (by decide) ?_
   have q_hc3 := own_i2 hc3 (show (55296 : Int32).toInt = 55296 by decide)
   have q_hc9 := own_i2 hc9 (show (56320 : Int32).toInt = 56320 by decide)
   rw [e0]; exact ⟨_, rfl, N, rfl, Or.inr ⟨rfl, by unfold own_H; omega⟩⟩
  ·
   refine og_iconst (v := 1) X0 hx rfl (hb hby d34_12) rfl ?_
   refine og_goto (pc' := 17) X0 hx (hb hby d34_13) (by decide) (by decide) ?_
   refine og_retN X0 hx hlk hret (by simp) (hb hby d34_17) (by decide) (by decide) ?_
   have q_hc3 := own_i2 hc3 (show (55296 : Int32).toInt = 55296 by decide)
   have q_hc9 := own_i1 hc9 (show (56320 : Int32).toInt = 56320 by decide)
   rw [e0]; exact ⟨_, rfl, N, rfl, Or.inl ⟨rfl, by unfold own_H; omega⟩⟩
theorem rm_ils (l : Launch) (Z : State) (a0 : Array Value) (hw : HW a0 Z) (x : Int32) (h0 : Heap) (n0 : Nat) (O : Old Z n0 h0) :
  Con l Z (⟨"java/lang/Character", "isLowSurrogate", "(C)Z"⟩ : MethodName) jdk_89_method_15_code 1 (some .boolean) ({ frames := 0, cells := 0, slots := 0, locals := 0 } : Room) #[(.int x)] h0 (fun v h L => ∃ r : Int32, v = some (.int r) ∧ Fr n0 L ∧ h = h0 ∧ ((r = 1 ∧ own_L x) ∨ (r = 0 ∧ ¬ own_L x))) := by
 refine own_startC opn_35 ?_
 intro p e s m below meth c T0 X0 hx hby hml hZ hown hnm hret hlk e0
 have N := Fr.nil n0; have K := Keep.refl h0 []
 refine OG.cast (oef1 m x) ?_
 refine og_iloadN X0 hx rfl (hb hby d35_0) rfl ?_
 refine og_ldc X0 hx hZ hown (ow147 hw) (hb hby d35_1) rfl ?_
 refine og_icmp_lt (pc1 := 16) (pc2 := 6) X0 hx (hb hby d35_3) (by decide) (by decide) rfl (fun hc3 => ?_) (fun hc3 => ?_)
 ·
  refine og_iconst (v := 0) X0 hx rfl (hb hby d35_16) rfl ?_
  refine og_retN X0 hx hlk hret (by simp) (hb hby d35_17) (by decide) (by decide) ?_
  have q_hc3 := own_i1 hc3 (show (56320 : Int32).toInt = 56320 by decide)
  rw [e0]; exact ⟨_, rfl, N, rfl, Or.inr ⟨rfl, by unfold own_L; omega⟩⟩
 ·
  refine og_iloadN X0 hx rfl (hb hby d35_6) rfl ?_
  refine og_ldc X0 hx hZ hown (ow156 hw) (hb hby d35_7) rfl ?_
  refine og_icmp_ge (pc1 := 16) (pc2 := 12) X0 hx (hb hby d35_9) (by decide) (by decide) rfl (fun hc9 => ?_) (fun hc9 => ?_)
  ·
   refine og_iconst (v := 0) X0 hx rfl (hb hby d35_16) rfl ?_
   refine og_retN X0 hx hlk hret (by simp) (hb hby d35_17) (by decide) (by decide) ?_
   have q_hc3 := own_i2 hc3 (show (56320 : Int32).toInt = 56320 by decide)
   have q_hc9 := own_i2 hc9 (show (57344 : Int32).toInt = 57344 by decide)
   rw [e0]; exact ⟨_, rfl, N, rfl, Or.inr ⟨rfl, by unfold own_L; omega⟩⟩
  ·
   refine og_iconst (v := 1) X0 hx rfl (hb hby d35_12) rfl ?_
   refine og_goto (pc' := 17) X0 hx (hb hby d35_13) (by decide) (by decide) ?_
   refine og_retN X0 hx hlk hret (by simp) (hb hby d35_17) (by decide) (by decide) ?_
   have q_hc3 := own_i2 hc3 (show (56320 : Int32).toInt = 56320 by decide)
   have q_hc9 := own_i1 hc9 (show (57344 : Int32).toInt = 57344 by decide)
   rw [e0]; exact ⟨_, rfl, N, rfl, Or.inl ⟨rfl, by unfold own_L; omega⟩⟩
theorem rm_ixc (l : Launch) (Z : State) (a0 : Array Value) (hw : HW a0 Z) (x : Int32) (h0 : Heap) (n0 : Nat) (O : Old Z n0 h0) :
  Con l Z (⟨"com/example/neith/neith/io/XmlOutput", "isXmlChar", "(I)Z"⟩ : MethodName) prog_18_method_22_code 1 (some .boolean) ({ frames := 0, cells := 0, slots := 0, locals := 0 } : Room) #[(.int x)] h0 (fun v h L => ∃ r : Int32, v = some (.int r) ∧ Fr n0 L ∧ h = h0 ∧ ((r = 1 ∧ own_X x) ∨ (r = 0 ∧ ¬ own_X x))) := by
 refine own_startC opn_17 ?_
 intro p e s m below meth c T0 X0 hx hby hml hZ hown hnm hret hlk e0
 have N := Fr.nil n0; have K := Keep.refl h0 []
 refine OG.cast (oef1 m x) ?_
 refine og_iloadN X0 hx rfl (hb hby d17_0) rfl ?_
 refine og_bipush (v := 32) X0 hx rfl (hb hby d17_1) rfl ?_
 refine og_icmp_lt (pc1 := 12) (pc2 := 6) X0 hx (hb hby d17_3) (by decide) (by decide) rfl (fun hc3 => ?_) (fun hc3 => ?_)
 ·
  refine og_iloadN X0 hx rfl (hb hby d17_12) rfl ?_
  refine og_bipush (v := 9) X0 hx rfl (hb hby d17_13) rfl ?_
  refine og_icmp_eq (pc1 := 54) (pc2 := 18) X0 hx (hb hby d17_15) (by decide) (by decide) rfl (fun hc15 => ?_) (fun hc15 => ?_)
  ·
   refine og_iconst (v := 1) X0 hx rfl (hb hby d17_54) rfl ?_
   refine og_goto (pc' := 59) X0 hx (hb hby d17_55) (by decide) (by decide) ?_
   refine og_retN X0 hx hlk hret (by simp) (hb hby d17_59) (by decide) (by decide) ?_
   have q_hc3 := own_i1 hc3 (show (32 : Int32).toInt = 32 by decide)
   have q_hc15 := own_i5 hc15 (show (9 : Int32).toInt = 9 by decide)
   rw [e0]; exact ⟨_, rfl, N, rfl, Or.inl ⟨rfl, by unfold own_X; omega⟩⟩
  ·
   refine og_iloadN X0 hx rfl (hb hby d17_18) rfl ?_
   refine og_bipush (v := 10) X0 hx rfl (hb hby d17_19) rfl ?_
   refine og_icmp_eq (pc1 := 54) (pc2 := 24) X0 hx (hb hby d17_21) (by decide) (by decide) rfl (fun hc21 => ?_) (fun hc21 => ?_)
   ·
    refine og_iconst (v := 1) X0 hx rfl (hb hby d17_54) rfl ?_
    refine og_goto (pc' := 59) X0 hx (hb hby d17_55) (by decide) (by decide) ?_
    refine og_retN X0 hx hlk hret (by simp) (hb hby d17_59) (by decide) (by decide) ?_
    have q_hc3 := own_i1 hc3 (show (32 : Int32).toInt = 32 by decide)
    have q_hc15 := own_i6 hc15 (show (9 : Int32).toInt = 9 by decide)
    have q_hc21 := own_i5 hc21 (show (10 : Int32).toInt = 10 by decide)
    rw [e0]; exact ⟨_, rfl, N, rfl, Or.inl ⟨rfl, by unfold own_X; omega⟩⟩
   ·
    refine og_iloadN X0 hx rfl (hb hby d17_24) rfl ?_
    refine og_bipush (v := 13) X0 hx rfl (hb hby d17_25) rfl ?_
    refine og_icmp_eq (pc1 := 54) (pc2 := 30) X0 hx (hb hby d17_27) (by decide) (by decide) rfl (fun hc27 => ?_) (fun hc27 => ?_)
    ·
     refine og_iconst (v := 1) X0 hx rfl (hb hby d17_54) rfl ?_
     refine og_goto (pc' := 59) X0 hx (hb hby d17_55) (by decide) (by decide) ?_
     refine og_retN X0 hx hlk hret (by simp) (hb hby d17_59) (by decide) (by decide) ?_
     have q_hc3 := own_i1 hc3 (show (32 : Int32).toInt = 32 by decide)
     have q_hc15 := own_i6 hc15 (show (9 : Int32).toInt = 9 by decide)
     have q_hc21 := own_i6 hc21 (show (10 : Int32).toInt = 10 by decide)
     have q_hc27 := own_i5 hc27 (show (13 : Int32).toInt = 13 by decide)
     rw [e0]; exact ⟨_, rfl, N, rfl, Or.inl ⟨rfl, by unfold own_X; omega⟩⟩
    ·
     refine og_iloadN X0 hx rfl (hb hby d17_30) rfl ?_
     refine og_ldc X0 hx hZ hown (ow79 hw) (hb hby d17_31) rfl ?_
     refine og_icmp_lt (pc1 := 42) (pc2 := 36) X0 hx (hb hby d17_33) (by decide) (by decide) rfl (fun hc33 => ?_) (fun hc33 => ?_)
     ·
      refine og_iloadN X0 hx rfl (hb hby d17_42) rfl ?_
      refine og_ldc X0 hx hZ hown (ow80 hw) (hb hby d17_43) rfl ?_
      refine og_icmp_lt (pc1 := 58) (pc2 := 48) X0 hx (hb hby d17_45) (by decide) (by decide) rfl (fun hc45 => ?_) (fun hc45 => ?_)
      ·
       refine og_iconst (v := 0) X0 hx rfl (hb hby d17_58) rfl ?_
       refine og_retN X0 hx hlk hret (by simp) (hb hby d17_59) (by decide) (by decide) ?_
       have q_hc3 := own_i1 hc3 (show (32 : Int32).toInt = 32 by decide)
       have q_hc15 := own_i6 hc15 (show (9 : Int32).toInt = 9 by decide)
       have q_hc21 := own_i6 hc21 (show (10 : Int32).toInt = 10 by decide)
       have q_hc27 := own_i6 hc27 (show (13 : Int32).toInt = 13 by decide)
       have q_hc33 := own_i1 hc33 (show (57344 : Int32).toInt = 57344 by decide)
       have q_hc45 := own_i1 hc45 (show (65536 : Int32).toInt = 65536 by decide)
       rw [e0]; exact ⟨_, rfl, N, rfl, Or.inr ⟨rfl, by unfold own_X; omega⟩⟩
      ·
       refine og_iloadN X0 hx rfl (hb hby d17_48) rfl ?_
       refine og_ldc X0 hx hZ hown (ow161 hw) (hb hby d17_49) rfl ?_
       refine og_icmp_gt (pc1 := 58) (pc2 := 54) X0 hx (hb hby d17_51) (by decide) (by decide) rfl (fun hc51 => ?_) (fun hc51 => ?_)
       ·
        refine og_iconst (v := 0) X0 hx rfl (hb hby d17_58) rfl ?_
        refine og_retN X0 hx hlk hret (by simp) (hb hby d17_59) (by decide) (by decide) ?_
        have q_hc3 := own_i1 hc3 (show (32 : Int32).toInt = 32 by decide)
        have q_hc15 := own_i6 hc15 (show (9 : Int32).toInt = 9 by decide)
        have q_hc21 := own_i6 hc21 (show (10 : Int32).toInt = 10 by decide)
        have q_hc27 := own_i6 hc27 (show (13 : Int32).toInt = 13 by decide)
        have q_hc33 := own_i1 hc33 (show (57344 : Int32).toInt = 57344 by decide)
        have q_hc45 := own_i2 hc45 (show (65536 : Int32).toInt = 65536 by decide)
        have q_hc51 := own_i3 hc51 (show (1114111 : Int32).toInt = 1114111 by decide)
        rw [e0]; exact ⟨_, rfl, N, rfl, Or.inr ⟨rfl, by unfold own_X; omega⟩⟩
       ·
        refine og_iconst (v := 1) X0 hx rfl (hb hby d17_54) rfl ?_
        refine og_goto (pc' := 59) X0 hx (hb hby d17_55) (by decide) (by decide) ?_
        refine og_retN X0 hx hlk hret (by simp) (hb hby d17_59) (by decide) (by decide) ?_
        have q_hc3 := own_i1 hc3 (show (32 : Int32).toInt = 32 by decide)
        have q_hc15 := own_i6 hc15 (show (9 : Int32).toInt = 9 by decide)
        have q_hc21 := own_i6 hc21 (show (10 : Int32).toInt = 10 by decide)
        have q_hc27 := own_i6 hc27 (show (13 : Int32).toInt = 13 by decide)
        have q_hc33 := own_i1 hc33 (show (57344 : Int32).toInt = 57344 by decide)
        have q_hc45 := own_i2 hc45 (show (65536 : Int32).toInt = 65536 by decide)
        have q_hc51 := own_i4 hc51 (show (1114111 : Int32).toInt = 1114111 by decide)
        rw [e0]; exact ⟨_, rfl, N, rfl, Or.inl ⟨rfl, by unfold own_X; omega⟩⟩
     ·
      refine og_iloadN X0 hx rfl (hb hby d17_36) rfl ?_
      refine og_ldc X0 hx hZ hown (ow149 hw) (hb hby d17_37) rfl ?_
      refine og_icmp_le (pc1 := 54) (pc2 := 42) X0 hx (hb hby d17_39) (by decide) (by decide) rfl (fun hc39 => ?_) (fun hc39 => ?_)
      ·
       refine og_iconst (v := 1) X0 hx rfl (hb hby d17_54) rfl ?_
       refine og_goto (pc' := 59) X0 hx (hb hby d17_55) (by decide) (by decide) ?_
       refine og_retN X0 hx hlk hret (by simp) (hb hby d17_59) (by decide) (by decide) ?_
       have q_hc3 := own_i1 hc3 (show (32 : Int32).toInt = 32 by decide)
       have q_hc15 := own_i6 hc15 (show (9 : Int32).toInt = 9 by decide)
       have q_hc21 := own_i6 hc21 (show (10 : Int32).toInt = 10 by decide)
       have q_hc27 := own_i6 hc27 (show (13 : Int32).toInt = 13 by decide)
       have q_hc33 := own_i2 hc33 (show (57344 : Int32).toInt = 57344 by decide)
       have q_hc39 := own_i4 hc39 (show (65533 : Int32).toInt = 65533 by decide)
       rw [e0]; exact ⟨_, rfl, N, rfl, Or.inl ⟨rfl, by unfold own_X; omega⟩⟩
      ·
       refine og_iloadN X0 hx rfl (hb hby d17_42) rfl ?_
       refine og_ldc X0 hx hZ hown (ow80 hw) (hb hby d17_43) rfl ?_
       refine og_icmp_lt (pc1 := 58) (pc2 := 48) X0 hx (hb hby d17_45) (by decide) (by decide) rfl (fun hc45 => ?_) (fun hc45 => ?_)
       ·
        refine og_iconst (v := 0) X0 hx rfl (hb hby d17_58) rfl ?_
        refine og_retN X0 hx hlk hret (by simp) (hb hby d17_59) (by decide) (by decide) ?_
        have q_hc3 := own_i1 hc3 (show (32 : Int32).toInt = 32 by decide)
        have q_hc15 := own_i6 hc15 (show (9 : Int32).toInt = 9 by decide)
        have q_hc21 := own_i6 hc21 (show (10 : Int32).toInt = 10 by decide)
        have q_hc27 := own_i6 hc27 (show (13 : Int32).toInt = 13 by decide)
        have q_hc33 := own_i2 hc33 (show (57344 : Int32).toInt = 57344 by decide)
        have q_hc39 := own_i3 hc39 (show (65533 : Int32).toInt = 65533 by decide)
        have q_hc45 := own_i1 hc45 (show (65536 : Int32).toInt = 65536 by decide)
        rw [e0]; exact ⟨_, rfl, N, rfl, Or.inr ⟨rfl, by unfold own_X; omega⟩⟩
       ·
        refine og_iloadN X0 hx rfl (hb hby d17_48) rfl ?_
        refine og_ldc X0 hx hZ hown (ow161 hw) (hb hby d17_49) rfl ?_
        refine og_icmp_gt (pc1 := 58) (pc2 := 54) X0 hx (hb hby d17_51) (by decide) (by decide) rfl (fun hc51 => ?_) (fun hc51 => ?_)
        ·
         refine og_iconst (v := 0) X0 hx rfl (hb hby d17_58) rfl ?_
         refine og_retN X0 hx hlk hret (by simp) (hb hby d17_59) (by decide) (by decide) ?_
         have q_hc3 := own_i1 hc3 (show (32 : Int32).toInt = 32 by decide)
         have q_hc15 := own_i6 hc15 (show (9 : Int32).toInt = 9 by decide)
         have q_hc21 := own_i6 hc21 (show (10 : Int32).toInt = 10 by decide)
         have q_hc27 := own_i6 hc27 (show (13 : Int32).toInt = 13 by decide)
         have q_hc33 := own_i2 hc33 (show (57344 : Int32).toInt = 57344 by decide)
         have q_hc39 := own_i3 hc39 (show (65533 : Int32).toInt = 65533 by decide)
         have q_hc45 := own_i2 hc45 (show (65536 : Int32).toInt = 65536 by decide)
         have q_hc51 := own_i3 hc51 (show (1114111 : Int32).toInt = 1114111 by decide)
         rw [e0]; exact ⟨_, rfl, N, rfl, Or.inr ⟨rfl, by unfold own_X; omega⟩⟩
        ·
         refine og_iconst (v := 1) X0 hx rfl (hb hby d17_54) rfl ?_
         refine og_goto (pc' := 59) X0 hx (hb hby d17_55) (by decide) (by decide) ?_
         refine og_retN X0 hx hlk hret (by simp) (hb hby d17_59) (by decide) (by decide) ?_
         have q_hc3 := own_i1 hc3 (show (32 : Int32).toInt = 32 by decide)
         have q_hc15 := own_i6 hc15 (show (9 : Int32).toInt = 9 by decide)
         have q_hc21 := own_i6 hc21 (show (10 : Int32).toInt = 10 by decide)
         have q_hc27 := own_i6 hc27 (show (13 : Int32).toInt = 13 by decide)
         have q_hc33 := own_i2 hc33 (show (57344 : Int32).toInt = 57344 by decide)
         have q_hc39 := own_i3 hc39 (show (65533 : Int32).toInt = 65533 by decide)
         have q_hc45 := own_i2 hc45 (show (65536 : Int32).toInt = 65536 by decide)
         have q_hc51 := own_i4 hc51 (show (1114111 : Int32).toInt = 1114111 by decide)
         rw [e0]; exact ⟨_, rfl, N, rfl, Or.inl ⟨rfl, by unfold own_X; omega⟩⟩
 ·
  refine og_iloadN X0 hx rfl (hb hby d17_6) rfl ?_
  refine og_ldc X0 hx hZ hown (ow148 hw) (hb hby d17_7) rfl ?_
  refine og_icmp_le (pc1 := 54) (pc2 := 12) X0 hx (hb hby d17_9) (by decide) (by decide) rfl (fun hc9 => ?_) (fun hc9 => ?_)
  ·
   refine og_iconst (v := 1) X0 hx rfl (hb hby d17_54) rfl ?_
   refine og_goto (pc' := 59) X0 hx (hb hby d17_55) (by decide) (by decide) ?_
   refine og_retN X0 hx hlk hret (by simp) (hb hby d17_59) (by decide) (by decide) ?_
   have q_hc3 := own_i2 hc3 (show (32 : Int32).toInt = 32 by decide)
   have q_hc9 := own_i4 hc9 (show (55295 : Int32).toInt = 55295 by decide)
   rw [e0]; exact ⟨_, rfl, N, rfl, Or.inl ⟨rfl, by unfold own_X; omega⟩⟩
  ·
   refine og_iloadN X0 hx rfl (hb hby d17_12) rfl ?_
   refine og_bipush (v := 9) X0 hx rfl (hb hby d17_13) rfl ?_
   refine og_icmp_eq (pc1 := 54) (pc2 := 18) X0 hx (hb hby d17_15) (by decide) (by decide) rfl (fun hc15 => ?_) (fun hc15 => ?_)
   ·
    refine og_iconst (v := 1) X0 hx rfl (hb hby d17_54) rfl ?_
    refine og_goto (pc' := 59) X0 hx (hb hby d17_55) (by decide) (by decide) ?_
    refine og_retN X0 hx hlk hret (by simp) (hb hby d17_59) (by decide) (by decide) ?_
    have q_hc3 := own_i2 hc3 (show (32 : Int32).toInt = 32 by decide)
    have q_hc9 := own_i3 hc9 (show (55295 : Int32).toInt = 55295 by decide)
    have q_hc15 := own_i5 hc15 (show (9 : Int32).toInt = 9 by decide)
    rw [e0]; exact ⟨_, rfl, N, rfl, Or.inl ⟨rfl, by unfold own_X; omega⟩⟩
   ·
    refine og_iloadN X0 hx rfl (hb hby d17_18) rfl ?_
    refine og_bipush (v := 10) X0 hx rfl (hb hby d17_19) rfl ?_
    refine og_icmp_eq (pc1 := 54) (pc2 := 24) X0 hx (hb hby d17_21) (by decide) (by decide) rfl (fun hc21 => ?_) (fun hc21 => ?_)
    ·
     refine og_iconst (v := 1) X0 hx rfl (hb hby d17_54) rfl ?_
     refine og_goto (pc' := 59) X0 hx (hb hby d17_55) (by decide) (by decide) ?_
     refine og_retN X0 hx hlk hret (by simp) (hb hby d17_59) (by decide) (by decide) ?_
     have q_hc3 := own_i2 hc3 (show (32 : Int32).toInt = 32 by decide)
     have q_hc9 := own_i3 hc9 (show (55295 : Int32).toInt = 55295 by decide)
     have q_hc15 := own_i6 hc15 (show (9 : Int32).toInt = 9 by decide)
     have q_hc21 := own_i5 hc21 (show (10 : Int32).toInt = 10 by decide)
     rw [e0]; exact ⟨_, rfl, N, rfl, Or.inl ⟨rfl, by unfold own_X; omega⟩⟩
    ·
     refine og_iloadN X0 hx rfl (hb hby d17_24) rfl ?_
     refine og_bipush (v := 13) X0 hx rfl (hb hby d17_25) rfl ?_
     refine og_icmp_eq (pc1 := 54) (pc2 := 30) X0 hx (hb hby d17_27) (by decide) (by decide) rfl (fun hc27 => ?_) (fun hc27 => ?_)
     ·
      refine og_iconst (v := 1) X0 hx rfl (hb hby d17_54) rfl ?_
      refine og_goto (pc' := 59) X0 hx (hb hby d17_55) (by decide) (by decide) ?_
      refine og_retN X0 hx hlk hret (by simp) (hb hby d17_59) (by decide) (by decide) ?_
      have q_hc3 := own_i2 hc3 (show (32 : Int32).toInt = 32 by decide)
      have q_hc9 := own_i3 hc9 (show (55295 : Int32).toInt = 55295 by decide)
      have q_hc15 := own_i6 hc15 (show (9 : Int32).toInt = 9 by decide)
      have q_hc21 := own_i6 hc21 (show (10 : Int32).toInt = 10 by decide)
      have q_hc27 := own_i5 hc27 (show (13 : Int32).toInt = 13 by decide)
      rw [e0]; exact ⟨_, rfl, N, rfl, Or.inl ⟨rfl, by unfold own_X; omega⟩⟩
     ·
      refine og_iloadN X0 hx rfl (hb hby d17_30) rfl ?_
      refine og_ldc X0 hx hZ hown (ow79 hw) (hb hby d17_31) rfl ?_
      refine og_icmp_lt (pc1 := 42) (pc2 := 36) X0 hx (hb hby d17_33) (by decide) (by decide) rfl (fun hc33 => ?_) (fun hc33 => ?_)
      ·
       refine og_iloadN X0 hx rfl (hb hby d17_42) rfl ?_
       refine og_ldc X0 hx hZ hown (ow80 hw) (hb hby d17_43) rfl ?_
       refine og_icmp_lt (pc1 := 58) (pc2 := 48) X0 hx (hb hby d17_45) (by decide) (by decide) rfl (fun hc45 => ?_) (fun hc45 => ?_)
       ·
        refine og_iconst (v := 0) X0 hx rfl (hb hby d17_58) rfl ?_
        refine og_retN X0 hx hlk hret (by simp) (hb hby d17_59) (by decide) (by decide) ?_
        have q_hc3 := own_i2 hc3 (show (32 : Int32).toInt = 32 by decide)
        have q_hc9 := own_i3 hc9 (show (55295 : Int32).toInt = 55295 by decide)
        have q_hc15 := own_i6 hc15 (show (9 : Int32).toInt = 9 by decide)
        have q_hc21 := own_i6 hc21 (show (10 : Int32).toInt = 10 by decide)
        have q_hc27 := own_i6 hc27 (show (13 : Int32).toInt = 13 by decide)
        have q_hc33 := own_i1 hc33 (show (57344 : Int32).toInt = 57344 by decide)
        have q_hc45 := own_i1 hc45 (show (65536 : Int32).toInt = 65536 by decide)
        rw [e0]; exact ⟨_, rfl, N, rfl, Or.inr ⟨rfl, by unfold own_X; omega⟩⟩
       ·
        refine og_iloadN X0 hx rfl (hb hby d17_48) rfl ?_
        refine og_ldc X0 hx hZ hown (ow161 hw) (hb hby d17_49) rfl ?_
        refine og_icmp_gt (pc1 := 58) (pc2 := 54) X0 hx (hb hby d17_51) (by decide) (by decide) rfl (fun hc51 => ?_) (fun hc51 => ?_)
        ·
         refine og_iconst (v := 0) X0 hx rfl (hb hby d17_58) rfl ?_
         refine og_retN X0 hx hlk hret (by simp) (hb hby d17_59) (by decide) (by decide) ?_
         have q_hc3 := own_i2 hc3 (show (32 : Int32).toInt = 32 by decide)
         have q_hc9 := own_i3 hc9 (show (55295 : Int32).toInt = 55295 by decide)
         have q_hc15 := own_i6 hc15 (show (9 : Int32).toInt = 9 by decide)
         have q_hc21 := own_i6 hc21 (show (10 : Int32).toInt = 10 by decide)
         have q_hc27 := own_i6 hc27 (show (13 : Int32).toInt = 13 by decide)
         have q_hc33 := own_i1 hc33 (show (57344 : Int32).toInt = 57344 by decide)
         have q_hc45 := own_i2 hc45 (show (65536 : Int32).toInt = 65536 by decide)
         have q_hc51 := own_i3 hc51 (show (1114111 : Int32).toInt = 1114111 by decide)
         rw [e0]; exact ⟨_, rfl, N, rfl, Or.inr ⟨rfl, by unfold own_X; omega⟩⟩
        ·
         refine og_iconst (v := 1) X0 hx rfl (hb hby d17_54) rfl ?_
         refine og_goto (pc' := 59) X0 hx (hb hby d17_55) (by decide) (by decide) ?_
         refine og_retN X0 hx hlk hret (by simp) (hb hby d17_59) (by decide) (by decide) ?_
         have q_hc3 := own_i2 hc3 (show (32 : Int32).toInt = 32 by decide)
         have q_hc9 := own_i3 hc9 (show (55295 : Int32).toInt = 55295 by decide)
         have q_hc15 := own_i6 hc15 (show (9 : Int32).toInt = 9 by decide)
         have q_hc21 := own_i6 hc21 (show (10 : Int32).toInt = 10 by decide)
         have q_hc27 := own_i6 hc27 (show (13 : Int32).toInt = 13 by decide)
         have q_hc33 := own_i1 hc33 (show (57344 : Int32).toInt = 57344 by decide)
         have q_hc45 := own_i2 hc45 (show (65536 : Int32).toInt = 65536 by decide)
         have q_hc51 := own_i4 hc51 (show (1114111 : Int32).toInt = 1114111 by decide)
         rw [e0]; exact ⟨_, rfl, N, rfl, Or.inl ⟨rfl, by unfold own_X; omega⟩⟩
      ·
       refine og_iloadN X0 hx rfl (hb hby d17_36) rfl ?_
       refine og_ldc X0 hx hZ hown (ow149 hw) (hb hby d17_37) rfl ?_
       refine og_icmp_le (pc1 := 54) (pc2 := 42) X0 hx (hb hby d17_39) (by decide) (by decide) rfl (fun hc39 => ?_) (fun hc39 => ?_)
       ·
        refine og_iconst (v := 1) X0 hx rfl (hb hby d17_54) rfl ?_
        refine og_goto (pc' := 59) X0 hx (hb hby d17_55) (by decide) (by decide) ?_
        refine og_retN X0 hx hlk hret (by simp) (hb hby d17_59) (by decide) (by decide) ?_
        have q_hc3 := own_i2 hc3 (show (32 : Int32).toInt = 32 by decide)
        have q_hc9 := own_i3 hc9 (show (55295 : Int32).toInt = 55295 by decide)
        have q_hc15 := own_i6 hc15 (show (9 : Int32).toInt = 9 by decide)
        have q_hc21 := own_i6 hc21 (show (10 : Int32).toInt = 10 by decide)
        have q_hc27 := own_i6 hc27 (show (13 : Int32).toInt = 13 by decide)
        have q_hc33 := own_i2 hc33 (show (57344 : Int32).toInt = 57344 by decide)
        have q_hc39 := own_i4 hc39 (show (65533 : Int32).toInt = 65533 by decide)
        rw [e0]; exact ⟨_, rfl, N, rfl, Or.inl ⟨rfl, by unfold own_X; omega⟩⟩
       ·
        refine og_iloadN X0 hx rfl (hb hby d17_42) rfl ?_
        refine og_ldc X0 hx hZ hown (ow80 hw) (hb hby d17_43) rfl ?_
        refine og_icmp_lt (pc1 := 58) (pc2 := 48) X0 hx (hb hby d17_45) (by decide) (by decide) rfl (fun hc45 => ?_) (fun hc45 => ?_)
        ·
         refine og_iconst (v := 0) X0 hx rfl (hb hby d17_58) rfl ?_
         refine og_retN X0 hx hlk hret (by simp) (hb hby d17_59) (by decide) (by decide) ?_
         have q_hc3 := own_i2 hc3 (show (32 : Int32).toInt = 32 by decide)
         have q_hc9 := own_i3 hc9 (show (55295 : Int32).toInt = 55295 by decide)
         have q_hc15 := own_i6 hc15 (show (9 : Int32).toInt = 9 by decide)
         have q_hc21 := own_i6 hc21 (show (10 : Int32).toInt = 10 by decide)
         have q_hc27 := own_i6 hc27 (show (13 : Int32).toInt = 13 by decide)
         have q_hc33 := own_i2 hc33 (show (57344 : Int32).toInt = 57344 by decide)
         have q_hc39 := own_i3 hc39 (show (65533 : Int32).toInt = 65533 by decide)
         have q_hc45 := own_i1 hc45 (show (65536 : Int32).toInt = 65536 by decide)
         rw [e0]; exact ⟨_, rfl, N, rfl, Or.inr ⟨rfl, by unfold own_X; omega⟩⟩
        ·
         refine og_iloadN X0 hx rfl (hb hby d17_48) rfl ?_
         refine og_ldc X0 hx hZ hown (ow161 hw) (hb hby d17_49) rfl ?_
         refine og_icmp_gt (pc1 := 58) (pc2 := 54) X0 hx (hb hby d17_51) (by decide) (by decide) rfl (fun hc51 => ?_) (fun hc51 => ?_)
         ·
          refine og_iconst (v := 0) X0 hx rfl (hb hby d17_58) rfl ?_
          refine og_retN X0 hx hlk hret (by simp) (hb hby d17_59) (by decide) (by decide) ?_
          have q_hc3 := own_i2 hc3 (show (32 : Int32).toInt = 32 by decide)
          have q_hc9 := own_i3 hc9 (show (55295 : Int32).toInt = 55295 by decide)
          have q_hc15 := own_i6 hc15 (show (9 : Int32).toInt = 9 by decide)
          have q_hc21 := own_i6 hc21 (show (10 : Int32).toInt = 10 by decide)
          have q_hc27 := own_i6 hc27 (show (13 : Int32).toInt = 13 by decide)
          have q_hc33 := own_i2 hc33 (show (57344 : Int32).toInt = 57344 by decide)
          have q_hc39 := own_i3 hc39 (show (65533 : Int32).toInt = 65533 by decide)
          have q_hc45 := own_i2 hc45 (show (65536 : Int32).toInt = 65536 by decide)
          have q_hc51 := own_i3 hc51 (show (1114111 : Int32).toInt = 1114111 by decide)
          rw [e0]; exact ⟨_, rfl, N, rfl, Or.inr ⟨rfl, by unfold own_X; omega⟩⟩
         ·
          refine og_iconst (v := 1) X0 hx rfl (hb hby d17_54) rfl ?_
          refine og_goto (pc' := 59) X0 hx (hb hby d17_55) (by decide) (by decide) ?_
          refine og_retN X0 hx hlk hret (by simp) (hb hby d17_59) (by decide) (by decide) ?_
          have q_hc3 := own_i2 hc3 (show (32 : Int32).toInt = 32 by decide)
          have q_hc9 := own_i3 hc9 (show (55295 : Int32).toInt = 55295 by decide)
          have q_hc15 := own_i6 hc15 (show (9 : Int32).toInt = 9 by decide)
          have q_hc21 := own_i6 hc21 (show (10 : Int32).toInt = 10 by decide)
          have q_hc27 := own_i6 hc27 (show (13 : Int32).toInt = 13 by decide)
          have q_hc33 := own_i2 hc33 (show (57344 : Int32).toInt = 57344 by decide)
          have q_hc39 := own_i3 hc39 (show (65533 : Int32).toInt = 65533 by decide)
          have q_hc45 := own_i2 hc45 (show (65536 : Int32).toInt = 65536 by decide)
          have q_hc51 := own_i4 hc51 (show (1114111 : Int32).toInt = 1114111 by decide)
          rw [e0]; exact ⟨_, rfl, N, rfl, Or.inl ⟨rfl, by unfold own_X; omega⟩⟩
theorem rm_tcp (l : Launch) (Z : State) (a0 : Array Value) (hw : HW a0 Z) (x y : Int32) (h0 : Heap) (n0 : Nat) (O : Old Z n0 h0) :
  Con l Z (⟨"java/lang/Character", "toCodePoint", "(CC)I"⟩ : MethodName) jdk_89_method_19_code 2 (some .int) ({ frames := 0, cells := 0, slots := 0, locals := 0 } : Room) #[(.int x), (.int y)] h0 (fun v h L => v = some (.int (own_tp x y)) ∧ Fr n0 L ∧ h = h0) := by
 refine own_startC opn_36 ?_
 intro p e s m below meth c T0 X0 hx hby hml hZ hown hnm hret hlk e0
 have N := Fr.nil n0; have K := Keep.refl h0 []
 refine OG.cast (oef9 m x y) ?_
 refine og_iloadN X0 hx rfl (hb hby d36_0) rfl ?_
 refine og_bipush (v := 10) X0 hx rfl (hb hby d36_1) rfl ?_
 refine og_ishl X0 hx (hb hby d36_3) rfl ?_
 refine og_iloadN X0 hx rfl (hb hby d36_4) rfl ?_
 refine og_iadd X0 hx (hb hby d36_5) rfl ?_
 refine og_ldc X0 hx hZ hown (ow160 hw) (hb hby d36_6) rfl ?_
 refine og_iadd X0 hx (hb hby d36_8) rfl ?_
 refine og_retI X0 hx hlk hret (hb hby d36_9) (by decide) (by decide) ?_
 rw [e0]; exact ⟨rfl, N, rfl⟩
theorem rm_cct (l : Launch) (Z : State) (a0 : Array Value) (hw : HW a0 Z) (x : Int32) (h0 : Heap) (n0 : Nat) (O : Old Z n0 h0) :
  Con l Z (⟨"java/lang/Character", "charCount", "(I)I"⟩ : MethodName) jdk_89_method_18_code 1 (some .int) ({ frames := 0, cells := 0, slots := 0, locals := 0 } : Room) #[(.int x)] h0 (fun v h L => ∃ r : Int32, v = some (.int r) ∧ Fr n0 L ∧ h = h0 ∧ ((r = 1 ∧ x.toInt < 65536) ∨ (r = 2 ∧ 65536 ≤ x.toInt))) := by
 refine own_startC opn_18 ?_
 intro p e s m below meth c T0 X0 hx hby hml hZ hown hnm hret hlk e0
 have N := Fr.nil n0; have K := Keep.refl h0 []
 refine OG.cast (oef1 m x) ?_
 refine og_iloadN X0 hx rfl (hb hby d18_0) rfl ?_
 refine og_ldc X0 hx hZ hown (ow85 hw) (hb hby d18_1) rfl ?_
 refine og_icmp_lt (pc1 := 10) (pc2 := 6) X0 hx (hb hby d18_3) (by decide) (by decide) rfl (fun hc3 => ?_) (fun hc3 => ?_)
 ·
  refine og_iconst (v := 1) X0 hx rfl (hb hby d18_10) rfl ?_
  refine og_retI X0 hx hlk hret (hb hby d18_11) (by decide) (by decide) ?_
  have q_hc3 := own_i1 hc3 (show (65536 : Int32).toInt = 65536 by decide)
  rw [e0]; exact ⟨_, rfl, N, rfl, Or.inl ⟨rfl, by omega⟩⟩
 ·
  refine og_iconst (v := 2) X0 hx rfl (hb hby d18_6) rfl ?_
  refine og_goto (pc' := 11) X0 hx (hb hby d18_7) (by decide) (by decide) ?_
  refine og_retI X0 hx hlk hret (hb hby d18_11) (by decide) (by decide) ?_
  have q_hc3 := own_i2 hc3 (show (65536 : Int32).toInt = 65536 by decide)
  rw [e0]; exact ⟨_, rfl, N, rfl, Or.inr ⟨rfl, by omega⟩⟩
theorem rm_ilU (l : Launch) (Z : State) (a0 : Array Value) (hw : HW a0 Z) (a1 : Addr) (cs : Int32) (hcs : ¬ cs = 0) (h0 : Heap) (n0 : Nat) (O : Old Z n0 h0) (F_coder_a1 : Fld Z h0 a1 "java/lang/String" "coder" "B" (.int 1)) (S_CS : Sta Z Z.heap "java/lang/String" "COMPACT_STRINGS" "Z" (.int cs)) :
  Con l Z (⟨"java/lang/String", "isLatin1", "()Z"⟩ : MethodName) jdk_42_method_154_code 1 (some .boolean) ({ frames := 0, cells := 0, slots := 0, locals := 0 } : Room) #[(.ref a1)] h0 (fun v h L => v = some (.int 0) ∧ Fr n0 L ∧ h = h0) := by
 refine own_startC opn_12 ?_
 intro p e s m below meth c T0 X0 hx hby hml hZ hown hnm hret hlk e0
 have N := Fr.nil n0; have K := Keep.refl h0 []
 refine OG.cast (oef10 m a1) ?_
 refine og_getstatic X0 hx hZ (host := "") hown (Or.inl (ow18 hw)) Via.refl e0 (S_CS.ext O.2) (hb hby d12_0) rfl (fun T11 X11 e11 => ?_)
 refine og_if_eq (pc1 := 17) (pc2 := 6) X11 hx (hb hby d12_3) (by decide) (by decide) rfl (fun q => absurd q hcs) (fun _ => ?_)
 refine og_aloadN X11 hx rfl rfl (hb hby d12_6) rfl ?_
 refine og_getfield X11 hx hZ (host := "") hown (Or.inl (ow30 hw)) Via.refl e11 F_coder_a1 (hb hby d12_7) rfl (fun T12 X12 e12 => ?_)
 refine og_if_ne (pc1 := 17) (pc2 := 13) X12 hx (hb hby d12_10) (by decide) (by decide) rfl (fun _ => ?_) (fun q => absurd q (by decide))
 refine og_iconst (v := 0) X12 hx rfl (hb hby d12_17) rfl ?_
 refine og_retN X12 hx hlk hret (by simp) (hb hby d12_18) (by decide) (by decide) ?_
 rw [e12]; exact ⟨rfl, N, rfl⟩
theorem rm_codU (l : Launch) (Z : State) (a0 : Array Value) (hw : HW a0 Z) (a1 : Addr) (cs : Int32) (hcs : ¬ cs = 0) (h0 : Heap) (n0 : Nat) (O : Old Z n0 h0) (F_coder_a1 : Fld Z h0 a1 "java/lang/String" "coder" "B" (.int 1)) (S_CS : Sta Z Z.heap "java/lang/String" "COMPACT_STRINGS" "Z" (.int cs)) :
  Con l Z (⟨"java/lang/String", "coder", "()B"⟩ : MethodName) jdk_42_method_152_code 1 (some .byte) ({ frames := 0, cells := 0, slots := 0, locals := 0 } : Room) #[(.ref a1)] h0 (fun v h L => v = some (.int 1) ∧ Fr n0 L ∧ h = h0) := by
 refine own_startC opn_10 ?_
 intro p e s m below meth c T0 X0 hx hby hml hZ hown hnm hret hlk e0
 have N := Fr.nil n0; have K := Keep.refl h0 []
 refine OG.cast (oef10 m a1) ?_
 refine og_getstatic X0 hx hZ (host := "") hown (Or.inl (ow18 hw)) Via.refl e0 (S_CS.ext O.2) (hb hby d10_0) rfl (fun T11 X11 e11 => ?_)
 refine og_if_eq (pc1 := 13) (pc2 := 6) X11 hx (hb hby d10_3) (by decide) (by decide) rfl (fun q => absurd q hcs) (fun _ => ?_)
 refine og_aloadN X11 hx rfl rfl (hb hby d10_6) rfl ?_
 refine og_getfield X11 hx hZ (host := "") hown (Or.inl (ow30 hw)) Via.refl e11 F_coder_a1 (hb hby d10_7) rfl (fun T12 X12 e12 => ?_)
 refine og_goto (pc' := 14) X12 hx (hb hby d10_10) (by decide) (by decide) ?_
 refine og_retN X12 hx hlk hret (by simp) (hb hby d10_14) (by decide) (by decide) ?_
 rw [e12]; exact ⟨rfl, N, rfl⟩
theorem rm_ul1 (l : Launch) (Z : State) (a0 : Array Value) (hw : HW a0 Z) (ba : Addr) (kb : ClassId) (vs : List Value) (h0 : Heap) (n0 : Nat) (O : Old Z n0 h0) (V_ba : Arv Z h0 ba kb .byte (2 : Int32) vs (.int 0)) :
  Con l Z (⟨"java/lang/StringUTF16", "length", "([B)I"⟩ : MethodName) jdk_52_method_6_code 1 (some .int) ({ frames := 0, cells := 0, slots := 0, locals := 0 } : Room) #[(.ref ba)] h0 (fun v h L => v = some (.int 1) ∧ Fr n0 L ∧ h = h0) := by
 refine own_startC opn_31 ?_
 intro p e s m below meth c T0 X0 hx hby hml hZ hown hnm hret hlk e0
 have N := Fr.nil n0; have K := Keep.refl h0 []
 refine OG.cast (oef10 m ba) ?_
 refine og_aloadN X0 hx rfl rfl (hb hby d31_0) rfl ?_
 refine og_arraylength X0 hx hZ e0 V_ba (hb hby d31_1) rfl ?_
 refine og_iconst (v := 1) X0 hx rfl (hb hby d31_2) rfl ?_
 refine og_ishr X0 hx (hb hby d31_3) rfl ?_
 show OG p e below _ (T0.setTop (mkF m 4 #[.val (.ref ba)] [(.int 1)]))
 refine og_retI X0 hx hlk hret (hb hby d31_4) (by decide) (by decide) ?_
 rw [e0]; exact ⟨rfl, N, rfl⟩
theorem rm_lenU1 (l : Launch) (Z : State) (a0 : Array Value) (hw : HW a0 Z) (a1 ba : Addr) (kb : ClassId) (c0 : Int32) (hc0 : 0 ≤ c0.toInt ∧ c0.toInt ≤ 65535) (cs : Int32) (hcs : ¬ cs = 0) (h0 : Heap) (n0 : Nat) (O : Old Z n0 h0) (E_a1 : Exa Z h0 a1 "java/lang/String") (F_value_a1 : Fld Z h0 a1 "java/lang/String" "value" "[B" (.ref ba)) (F_coder_a1 : Fld Z h0 a1 "java/lang/String" "coder" "B" (.int 1)) (V_ba : Arv Z h0 ba kb .byte (2 : Int32) [(.int c0.toInt8.toInt32), (.int (c0 >>> ((8 : Int32) &&& 31)).toInt8.toInt32)] (.int 0)) (S_CS : Sta Z Z.heap "java/lang/String" "COMPACT_STRINGS" "Z" (.int cs)) :
  Con l Z (⟨"java/lang/String", "length", "()I"⟩ : MethodName) jdk_42_method_54_code 1 (some .int) ({ frames := 1, cells := 0, slots := 0, locals := 13 } : Room) #[(.ref a1)] h0 (fun v h L => v = some (.int 1) ∧ Fr n0 L ∧ h = h0) := by
 refine own_startC opn_9 ?_
 intro p e s m below meth c T0 X0 hx hby hml hZ hown hnm hret hlk e0
 have N := Fr.nil n0; have K := Keep.refl h0 []
 refine OG.cast (oef10 m a1) ?_
 refine og_aloadN X0 hx rfl rfl (hb hby d9_0) rfl ?_
 refine og_getfield X0 hx hZ (host := "") hown (Or.inl (ow32 hw)) Via.refl e0 F_value_a1 (hb hby d9_1) rfl (fun T11 X11 e11 => ?_)
 refine og_arraylength X11 hx hZ e11 V_ba (hb hby d9_4) rfl ?_
 refine og_aloadN X11 hx rfl rfl (hb hby d9_5) rfl ?_
 refine og_virtual (pc' := 9) (cells' := 0) (slots' := 0) (W := 1) X11 hx hZ (rm_codU l Z a0 hw a1 cs hcs h0 n0 O F_coder_a1 S_CS) hown (ow43 hw) (ow44 hw) (own_nf hZ (ow46 hw)) (ow46 hw) (ow45 hw) (ow7 hw) (ow47 hw) (by decide) (by rw [hml]; rfl) e11 opd_11 [] [(.int 2)] rfl rfl rfl rfl (by decide) (by decide) rfl rfl (by decide) (by decide) E_a1 (hb hby d9_6) rfl (fun v12 T12 h12 L12 X12 e12 z12 => ?_)
 obtain ⟨rfl, Nq12, hq12⟩ := z12; replace e12 := e12.trans hq12; have N := Fr.app N Nq12
 refine og_ishr X12 hx (hb hby d9_9) rfl ?_
 show OG p e below _ (T12.setTop (mkF m 10 #[.val (.ref a1)] [(.int 1)]))
 refine og_retI X12 hx hlk hret (hb hby d9_10) (by decide) (by decide) ?_
 rw [e12]; exact ⟨rfl, N, rfl⟩
theorem rm_uk1_0 (l : Launch) (Z : State) (a0 : Array Value) (hw : HW a0 Z) (ba : Addr) (kb : ClassId) (vs : List Value) (fm : Value) (hfm : fm.isRef = true) (h0 : Heap) (n0 : Nat) (O : Old Z n0 h0) (V_ba : Arv Z h0 ba kb .byte (2 : Int32) vs (.int 0)) (S_FM : Sta Z Z.heap "jdk/internal/util/Preconditions" "SIOOBE_FORMATTER" "Ljava/util/function/BiFunction;" fm) :
  Con l Z (⟨"java/lang/StringUTF16", "checkIndex", "(I[B)V"⟩ : MethodName) jdk_52_method_91_code 2 none ({ frames := 2, cells := 0, slots := 0, locals := 27 } : Room) #[(.int 0), (.ref ba)] h0 (fun v h L => v = none ∧ Fr n0 L ∧ h = h0) := by
 refine own_startC opn_30 ?_
 intro p e s m below meth c T0 X0 hx hby hml hZ hown hnm hret hlk e0
 have N := Fr.nil n0; have K := Keep.refl h0 []
 refine OG.cast (oef11 m (0 : Int32) ba) ?_
 refine og_iloadN X0 hx rfl (hb hby d30_0) rfl ?_
 refine og_aloadN X0 hx rfl rfl (hb hby d30_1) rfl ?_
 refine og_static (pc' := 5) (cells' := 0) (slots' := 0) (W := 1) X0 hx hZ (rm_ul1 l Z a0 hw ba kb _ h0 n0 O V_ba) hown (ow133 hw) (ow134 hw) (ow21 hw) (ow135 hw) (by decide) (by rw [hml]; rfl) e0 opd_12 [(.ref ba)] [(.int 0)] rfl rfl rfl rfl (by decide) (by decide) rfl rfl (by decide) (by decide) (hb hby d30_2) rfl (fun v11 T11 h11 L11 X11 e11 z11 => ?_)
 obtain ⟨rfl, Nq11, hq11⟩ := z11; replace e11 := e11.trans hq11; have N := Fr.app N Nq11
 refine og_static (pc' := 8) (cells' := 0) (slots' := 0) (W := 0) X11 hx hZ (rm_ci l Z a0 hw (1 : Int32) (0 : Int32) ⟨by decide, by decide⟩ fm hfm h0 n0 O S_FM) hown (ow136 hw) (ow63 hw) (ow7 hw) (ow64 hw) (by decide) (by rw [hml]; rfl) e11 opd_9 [(.int 0), (.int 1)] [] rfl rfl rfl rfl (by decide) (by decide) rfl rfl (by decide) (by decide) (hb hby d30_5) rfl (fun v12 T12 h12 L12 X12 e12 z12 => ?_)
 obtain ⟨rfl, Nq12, hq12⟩ := z12; replace e12 := e12.trans hq12; have N := Fr.app N Nq12
 refine og_retV X12 hx hlk hret (hb hby d30_8) (by decide) (by decide) ?_
 rw [e12]; exact ⟨rfl, N, rfl⟩
theorem rm_uca1_0 (l : Launch) (Z : State) (a0 : Array Value) (hw : HW a0 Z) (ba : Addr) (kb : ClassId) (c0 : Int32) (hc0 : 0 ≤ c0.toInt ∧ c0.toInt ≤ 65535) (fm : Value) (hfm : fm.isRef = true) (h0 : Heap) (n0 : Nat) (O : Old Z n0 h0) (V_ba : Arv Z h0 ba kb .byte (2 : Int32) [(.int c0.toInt8.toInt32), (.int (c0 >>> ((8 : Int32) &&& 31)).toInt8.toInt32)] (.int 0)) (S_FM : Sta Z Z.heap "jdk/internal/util/Preconditions" "SIOOBE_FORMATTER" "Ljava/util/function/BiFunction;" fm) (S__assertionsDisabled : Sta Z Z.heap "java/lang/StringUTF16" "$assertionsDisabled" "Z" (.int 1)) (S_HI_BYTE_SHIFT : Sta Z Z.heap "java/lang/StringUTF16" "HI_BYTE_SHIFT" "I" (.int 0)) (S_LO_BYTE_SHIFT : Sta Z Z.heap "java/lang/StringUTF16" "LO_BYTE_SHIFT" "I" (.int 8)) :
  Con l Z (⟨"java/lang/StringUTF16", "charAt", "([BI)C"⟩ : MethodName) jdk_52_method_83_code 2 (some .char) ({ frames := 3, cells := 0, slots := 0, locals := 40 } : Room) #[(.ref ba), (.int 0)] h0 (fun v h L => v = some (.int c0) ∧ Fr n0 L ∧ h = h0) := by
 refine own_startC opn_29 ?_
 intro p e s m below meth c T0 X0 hx hby hml hZ hown hnm hret hlk e0
 have N := Fr.nil n0; have K := Keep.refl h0 []
 refine OG.cast (oef3 m ba (0 : Int32)) ?_
 refine og_iloadN X0 hx rfl (hb hby d29_0) rfl ?_
 refine og_aloadN X0 hx rfl rfl (hb hby d29_1) rfl ?_
 refine og_static (pc' := 5) (cells' := 0) (slots' := 0) (W := 0) X0 hx hZ (rm_uk1_0 l Z a0 hw ba kb _ fm hfm h0 n0 O V_ba S_FM) hown (ow130 hw) (ow131 hw) (ow21 hw) (ow132 hw) (by decide) (by rw [hml]; rfl) e0 opd_13 [(.int 0), (.ref ba)] [] rfl rfl rfl rfl (by decide) (by decide) rfl rfl (by decide) (by decide) (hb hby d29_2) rfl (fun v11 T11 h11 L11 X11 e11 z11 => ?_)
 obtain ⟨rfl, Nq11, hq11⟩ := z11; replace e11 := e11.trans hq11; have N := Fr.app N Nq11
 refine og_aloadN X11 hx rfl rfl (hb hby d29_5) rfl ?_
 refine og_iloadN X11 hx rfl (hb hby d29_6) rfl ?_
 refine og_static (pc' := 10) (cells' := 0) (slots' := 0) (W := 0) X11 hx hZ (rm_gch_1_0 l Z a0 hw ba kb c0 hc0 h0 n0 O V_ba S__assertionsDisabled S_HI_BYTE_SHIFT S_LO_BYTE_SHIFT) hown (ow124 hw) (ow125 hw) (ow21 hw) (ow126 hw) (by decide) (by rw [hml]; rfl) e11 opd_5 [(.ref ba), (.int 0)] [] rfl rfl rfl rfl (by decide) (by decide) rfl rfl (by decide) (by decide) (hb hby d29_7) rfl (fun v12 T12 h12 L12 X12 e12 z12 => ?_)
 obtain ⟨rfl, Nq12, hq12⟩ := z12; replace e12 := e12.trans hq12; have N := Fr.app N Nq12
 refine og_retN X12 hx hlk hret (by simp) (hb hby d29_10) (by decide) (by decide) ?_
 rw [e12, own_nc2 hc0]; exact ⟨rfl, N, rfl⟩
theorem rm_cU1_0 (l : Launch) (Z : State) (a0 : Array Value) (hw : HW a0 Z) (a1 ba : Addr) (kb : ClassId) (c0 : Int32) (hc0 : 0 ≤ c0.toInt ∧ c0.toInt ≤ 65535) (cs : Int32) (hcs : ¬ cs = 0) (fm : Value) (hfm : fm.isRef = true) (h0 : Heap) (n0 : Nat) (O : Old Z n0 h0) (E_a1 : Exa Z h0 a1 "java/lang/String") (F_value_a1 : Fld Z h0 a1 "java/lang/String" "value" "[B" (.ref ba)) (F_coder_a1 : Fld Z h0 a1 "java/lang/String" "coder" "B" (.int 1)) (V_ba : Arv Z h0 ba kb .byte (2 : Int32) [(.int c0.toInt8.toInt32), (.int (c0 >>> ((8 : Int32) &&& 31)).toInt8.toInt32)] (.int 0)) (S_CS : Sta Z Z.heap "java/lang/String" "COMPACT_STRINGS" "Z" (.int cs)) (S_FM : Sta Z Z.heap "jdk/internal/util/Preconditions" "SIOOBE_FORMATTER" "Ljava/util/function/BiFunction;" fm) (S__assertionsDisabled : Sta Z Z.heap "java/lang/StringUTF16" "$assertionsDisabled" "Z" (.int 1)) (S_HI_BYTE_SHIFT : Sta Z Z.heap "java/lang/StringUTF16" "HI_BYTE_SHIFT" "I" (.int 0)) (S_LO_BYTE_SHIFT : Sta Z Z.heap "java/lang/StringUTF16" "LO_BYTE_SHIFT" "I" (.int 8)) :
  Con l Z (⟨"java/lang/String", "charAt", "(I)C"⟩ : MethodName) jdk_42_method_56_code 2 (some .char) ({ frames := 4, cells := 0, slots := 0, locals := 53 } : Room) #[(.ref a1), (.int 0)] h0 (fun v h L => v = some (.int c0) ∧ Fr n0 L ∧ h = h0) := by
 refine own_startC opn_11 ?_
 intro p e s m below meth c T0 X0 hx hby hml hZ hown hnm hret hlk e0
 have N := Fr.nil n0; have K := Keep.refl h0 []
 refine OG.cast (oef3 m a1 (0 : Int32)) ?_
 refine og_aloadN X0 hx rfl rfl (hb hby d11_0) rfl ?_
 refine og_virtual (pc' := 4) (cells' := 0) (slots' := 0) (W := 0) X0 hx hZ (rm_ilU l Z a0 hw a1 cs hcs h0 n0 O F_coder_a1 S_CS) hown (ow53 hw) (ow54 hw) (own_nf hZ (ow56 hw)) (ow56 hw) (ow55 hw) (ow7 hw) (ow57 hw) (by decide) (by rw [hml]; rfl) e0 opd_10 [] [] rfl rfl rfl rfl (by decide) (by decide) rfl rfl (by decide) (by decide) E_a1 (hb hby d11_1) rfl (fun v11 T11 h11 L11 X11 e11 z11 => ?_)
 obtain ⟨rfl, Nq11, hq11⟩ := z11; replace e11 := e11.trans hq11; have N := Fr.app N Nq11
 refine og_if_eq (pc1 := 16) (pc2 := 7) X11 hx (hb hby d11_4) (by decide) (by decide) rfl (fun _ => ?_) (fun q => absurd q (by decide))
 refine og_aloadN X11 hx rfl rfl (hb hby d11_16) rfl ?_
 refine og_getfield X11 hx hZ (host := "") hown (Or.inl (ow32 hw)) Via.refl e11 F_value_a1 (hb hby d11_17) rfl (fun T12 X12 e12 => ?_)
 refine og_iloadN X12 hx rfl (hb hby d11_20) rfl ?_
 refine og_static (pc' := 24) (cells' := 0) (slots' := 0) (W := 0) X12 hx hZ (rm_uca1_0 l Z a0 hw ba kb c0 hc0 fm hfm h0 n0 O V_ba S_FM S__assertionsDisabled S_HI_BYTE_SHIFT S_LO_BYTE_SHIFT) hown (ow127 hw) (ow128 hw) (ow21 hw) (ow129 hw) (by decide) (by rw [hml]; rfl) e12 opd_5 [(.ref ba), (.int 0)] [] rfl rfl rfl rfl (by decide) (by decide) rfl rfl (by decide) (by decide) (hb hby d11_21) rfl (fun v13 T13 h13 L13 X13 e13 z13 => ?_)
 obtain ⟨rfl, Nq13, hq13⟩ := z13; replace e13 := e13.trans hq13; have N := Fr.app N Nq13
 refine og_retN X13 hx hlk hret (by simp) (hb hby d11_24) (by decide) (by decide) ?_
 rw [e13, own_nc2 hc0]; exact ⟨rfl, N, rfl⟩
theorem rm_u41_0 (l : Launch) (Z : State) (a0 : Array Value) (hw : HW a0 Z) (ba : Addr) (kb : ClassId) (c0 : Int32) (hc0 : 0 ≤ c0.toInt ∧ c0.toInt ≤ 65535) (h0 : Heap) (n0 : Nat) (O : Old Z n0 h0) (V_ba : Arv Z h0 ba kb .byte (2 : Int32) [(.int c0.toInt8.toInt32), (.int (c0 >>> ((8 : Int32) &&& 31)).toInt8.toInt32)] (.int 0)) (S__assertionsDisabled : Sta Z Z.heap "java/lang/StringUTF16" "$assertionsDisabled" "Z" (.int 1)) (S_HI_BYTE_SHIFT : Sta Z Z.heap "java/lang/StringUTF16" "HI_BYTE_SHIFT" "I" (.int 0)) (S_LO_BYTE_SHIFT : Sta Z Z.heap "java/lang/StringUTF16" "LO_BYTE_SHIFT" "I" (.int 8)) :
  Con l Z (⟨"java/lang/StringUTF16", "codePointAt", "([BIIZ)I"⟩ : MethodName) jdk_52_method_7_code 6 (some .int) ({ frames := 1, cells := 0, slots := 0, locals := 13 } : Room) #[(.ref ba), (.int 0), (.int 1), (.int 0)] h0 (fun v h L => ∃ r : Int32, v = some (.int r) ∧ Fr n0 L ∧ h = h0 ∧ r = c0) := by
 refine own_startC opn_33 ?_
 intro p e s m below meth c T0 X0 hx hby hml hZ hown hnm hret hlk e0
 have N := Fr.nil n0; have K := Keep.refl h0 []
 refine OG.cast (oef12 m ba (0 : Int32) (1 : Int32) (0 : Int32)) ?_
 refine og_getstatic X0 hx hZ (host := "") hown (Or.inl (ow121 hw)) Via.refl e0 (S__assertionsDisabled.ext O.2) (hb hby d33_0) rfl (fun T11 X11 e11 => ?_)
 refine og_if_ne (pc1 := 19) (pc2 := 6) X11 hx (hb hby d33_3) (by decide) (by decide) rfl (fun _ => ?_) (fun q => absurd q (by decide))
 refine og_iloadN X11 hx rfl (hb hby d33_19) rfl ?_
 refine og_if_eq (pc1 := 28) (pc2 := 23) X11 hx (hb hby d33_20) (by decide) (by decide) rfl (fun _ => ?_) (fun q => absurd q (by decide))
 refine og_aloadN X11 hx rfl rfl (hb hby d33_28) rfl ?_
 refine og_iloadN X11 hx rfl (hb hby d33_29) rfl ?_
 refine og_static (pc' := 33) (cells' := 0) (slots' := 0) (W := 0) X11 hx hZ (rm_gch_1_0 l Z a0 hw ba kb c0 hc0 h0 n0 O V_ba S__assertionsDisabled S_HI_BYTE_SHIFT S_LO_BYTE_SHIFT) hown (ow124 hw) (ow125 hw) (ow21 hw) (ow126 hw) (by decide) (by rw [hml]; rfl) e11 opd_5 [(.ref ba), (.int 0)] [] rfl rfl rfl rfl (by decide) (by decide) rfl rfl (by decide) (by decide) (hb hby d33_30) rfl (fun v12 T12 h12 L12 X12 e12 z12 => ?_)
 obtain ⟨rfl, Nq12, hq12⟩ := z12; replace e12 := e12.trans hq12; have N := Fr.app N Nq12
 refine og_istore (L' := #[.val (.ref ba), .val (.int 0), .val (.int 1), .val (.int 0), .val (.int c0), .unset]) X12 hx rfl (hb hby d33_33) rfl ?_
 refine og_iload X12 hx rfl (hb hby d33_35) rfl ?_
 refine og_static (pc' := 40) (cells' := 0) (slots' := 0) (W := 0) X12 hx hZ (rm_ihs l Z a0 hw c0 h0 n0 O) hown (ow143 hw) (ow144 hw) (ow83 hw) (ow145 hw) (by decide) (by rw [hml]; rfl) e12 opd_14 [(.int c0)] [] rfl rfl rfl rfl (by decide) (by decide) rfl rfl (by decide) (by decide) (hb hby d33_37) rfl (fun v13 T13 h13 L13 X13 e13 z13 => ?_)
 obtain ⟨rb13, rfl, Nq13, hq13, hb13⟩ := z13; replace e13 := e13.trans hq13; have N := Fr.app N Nq13
 refine og_if_eq (pc1 := 83) (pc2 := 43) X13 hx (hb hby d33_40) (by decide) (by decide) rfl (fun hc40 => ?_) (fun hc40 => ?_)
 ·
  have hH := own_b0 hb13 hc40
  refine og_iload X13 hx rfl (hb hby d33_83) rfl ?_
  refine og_retI X13 hx hlk hret (hb hby d33_85) (by decide) (by decide) ?_
  rw [e13]; exact ⟨_, rfl, N, rfl, rfl⟩
 ·
  have hH := own_b1 hb13 hc40
  refine og_iinc (L' := #[.val (.ref ba), .val (.int 1), .val (.int 1), .val (.int 0), .val (.int c0), .unset]) (w := 1) X13 hx rfl rfl rfl (hb hby d33_43) rfl ?_
  refine og_iloadN X13 hx rfl (hb hby d33_46) rfl ?_
  refine og_iloadN X13 hx rfl (hb hby d33_47) rfl ?_
  refine og_icmp_ge (pc1 := 83) (pc2 := 51) X13 hx (hb hby d33_48) (by decide) (by decide) rfl (fun _ => ?_) (fun q => absurd q (by decide))
  refine og_iload X13 hx rfl (hb hby d33_83) rfl ?_
  refine og_retI X13 hx hlk hret (hb hby d33_85) (by decide) (by decide) ?_
  rw [e13]; exact ⟨_, rfl, N, rfl, rfl⟩
theorem rm_u31_0 (l : Launch) (Z : State) (a0 : Array Value) (hw : HW a0 Z) (ba : Addr) (kb : ClassId) (c0 : Int32) (hc0 : 0 ≤ c0.toInt ∧ c0.toInt ≤ 65535) (h0 : Heap) (n0 : Nat) (O : Old Z n0 h0) (V_ba : Arv Z h0 ba kb .byte (2 : Int32) [(.int c0.toInt8.toInt32), (.int (c0 >>> ((8 : Int32) &&& 31)).toInt8.toInt32)] (.int 0)) (S__assertionsDisabled : Sta Z Z.heap "java/lang/StringUTF16" "$assertionsDisabled" "Z" (.int 1)) (S_HI_BYTE_SHIFT : Sta Z Z.heap "java/lang/StringUTF16" "HI_BYTE_SHIFT" "I" (.int 0)) (S_LO_BYTE_SHIFT : Sta Z Z.heap "java/lang/StringUTF16" "LO_BYTE_SHIFT" "I" (.int 8)) :
  Con l Z (⟨"java/lang/StringUTF16", "codePointAt", "([BII)I"⟩ : MethodName) jdk_52_method_8_code 3 (some .int) ({ frames := 2, cells := 0, slots := 0, locals := 30 } : Room) #[(.ref ba), (.int 0), (.int 1)] h0 (fun v h L => ∃ r : Int32, v = some (.int r) ∧ Fr n0 L ∧ h = h0 ∧ r = c0) := by
 refine own_startC opn_32 ?_
 intro p e s m below meth c T0 X0 hx hby hml hZ hown hnm hret hlk e0
 have N := Fr.nil n0; have K := Keep.refl h0 []
 refine OG.cast (oef0 m ba (0 : Int32) (1 : Int32)) ?_
 refine og_aloadN X0 hx rfl rfl (hb hby d32_0) rfl ?_
 refine og_iloadN X0 hx rfl (hb hby d32_1) rfl ?_
 refine og_iloadN X0 hx rfl (hb hby d32_2) rfl ?_
 refine og_iconst (v := 0) X0 hx rfl (hb hby d32_3) rfl ?_
 refine og_static (pc' := 7) (cells' := 0) (slots' := 0) (W := 0) X0 hx hZ (rm_u41_0 l Z a0 hw ba kb c0 hc0 h0 n0 O V_ba S__assertionsDisabled S_HI_BYTE_SHIFT S_LO_BYTE_SHIFT) hown (ow140 hw) (ow141 hw) (ow21 hw) (ow142 hw) (by decide) (by rw [hml]; rfl) e0 opd_15 [(.ref ba), (.int 0), (.int 1), (.int 0)] [] rfl rfl rfl rfl (by decide) (by decide) rfl rfl (by decide) (by decide) (hb hby d32_4) rfl (fun v11 T11 h11 L11 X11 e11 z11 => ?_)
 obtain ⟨rp, rfl, Nq11, hq11, hrp⟩ := z11; replace e11 := e11.trans hq11; have N := Fr.app N Nq11
 refine og_retI X11 hx hlk hret (hb hby d32_7) (by decide) (by decide) ?_
 rw [e11]; exact ⟨_, rfl, N, rfl, hrp⟩
theorem rm_pU1_0 (l : Launch) (Z : State) (a0 : Array Value) (hw : HW a0 Z) (a1 ba : Addr) (kb : ClassId) (c0 : Int32) (hc0 : 0 ≤ c0.toInt ∧ c0.toInt ≤ 65535) (cs : Int32) (hcs : ¬ cs = 0) (fm : Value) (hfm : fm.isRef = true) (h0 : Heap) (n0 : Nat) (O : Old Z n0 h0) (E_a1 : Exa Z h0 a1 "java/lang/String") (F_value_a1 : Fld Z h0 a1 "java/lang/String" "value" "[B" (.ref ba)) (F_coder_a1 : Fld Z h0 a1 "java/lang/String" "coder" "B" (.int 1)) (V_ba : Arv Z h0 ba kb .byte (2 : Int32) [(.int c0.toInt8.toInt32), (.int (c0 >>> ((8 : Int32) &&& 31)).toInt8.toInt32)] (.int 0)) (S_CS : Sta Z Z.heap "java/lang/String" "COMPACT_STRINGS" "Z" (.int cs)) (S_FM : Sta Z Z.heap "jdk/internal/util/Preconditions" "SIOOBE_FORMATTER" "Ljava/util/function/BiFunction;" fm) (S__assertionsDisabled : Sta Z Z.heap "java/lang/StringUTF16" "$assertionsDisabled" "Z" (.int 1)) (S_HI_BYTE_SHIFT : Sta Z Z.heap "java/lang/StringUTF16" "HI_BYTE_SHIFT" "I" (.int 0)) (S_LO_BYTE_SHIFT : Sta Z Z.heap "java/lang/StringUTF16" "LO_BYTE_SHIFT" "I" (.int 8)) :
  Con l Z (⟨"java/lang/String", "codePointAt", "(I)I"⟩ : MethodName) jdk_42_method_57_code 3 (some .int) ({ frames := 3, cells := 0, slots := 0, locals := 44 } : Room) #[(.ref a1), (.int 0)] h0 (fun v h L => ∃ r : Int32, v = some (.int r) ∧ Fr n0 L ∧ h = h0 ∧ r = c0) := by
 refine own_startC opn_16 ?_
 intro p e s m below meth c T0 X0 hx hby hml hZ hown hnm hret hlk e0
 have N := Fr.nil n0; have K := Keep.refl h0 []
 refine OG.cast (oef13 m a1 (0 : Int32)) ?_
 refine og_aloadN X0 hx rfl rfl (hb hby d16_0) rfl ?_
 refine og_virtual (pc' := 4) (cells' := 0) (slots' := 0) (W := 0) X0 hx hZ (rm_ilU l Z a0 hw a1 cs hcs h0 n0 O F_coder_a1 S_CS) hown (ow53 hw) (ow54 hw) (own_nf hZ (ow56 hw)) (ow56 hw) (ow55 hw) (ow7 hw) (ow57 hw) (by decide) (by rw [hml]; rfl) e0 opd_10 [] [] rfl rfl rfl rfl (by decide) (by decide) rfl rfl (by decide) (by decide) E_a1 (hb hby d16_1) rfl (fun v11 T11 h11 L11 X11 e11 z11 => ?_)
 obtain ⟨rfl, Nq11, hq11⟩ := z11; replace e11 := e11.trans hq11; have N := Fr.app N Nq11
 refine og_if_eq (pc1 := 27) (pc2 := 7) X11 hx (hb hby d16_4) (by decide) (by decide) rfl (fun _ => ?_) (fun q => absurd q (by decide))
 refine og_aloadN X11 hx rfl rfl (hb hby d16_27) rfl ?_
 refine og_getfield X11 hx hZ (host := "") hown (Or.inl (ow32 hw)) Via.refl e11 F_value_a1 (hb hby d16_28) rfl (fun T12 X12 e12 => ?_)
 refine og_arraylength X12 hx hZ e12 V_ba (hb hby d16_31) rfl ?_
 refine og_iconst (v := 1) X12 hx rfl (hb hby d16_32) rfl ?_
 refine og_ishr X12 hx (hb hby d16_33) rfl ?_
 show OG p e below _ (T12.setTop (mkF m 34 #[.val (.ref a1), .val (.int 0), .unset] [(.int 1)]))
 refine og_istoreN (L' := #[.val (.ref a1), .val (.int 0), .val (.int 1)]) X12 hx rfl (hb hby d16_34) rfl ?_
 refine og_iloadN X12 hx rfl (hb hby d16_35) rfl ?_
 refine og_iloadN X12 hx rfl (hb hby d16_36) rfl ?_
 refine og_static (pc' := 40) (cells' := 0) (slots' := 0) (W := 0) X12 hx hZ (rm_ci l Z a0 hw (1 : Int32) (0 : Int32) ⟨by decide, by decide⟩ fm hfm h0 n0 O S_FM) hown (ow75 hw) (ow63 hw) (ow7 hw) (ow64 hw) (by decide) (by rw [hml]; rfl) e12 opd_9 [(.int 0), (.int 1)] [] rfl rfl rfl rfl (by decide) (by decide) rfl rfl (by decide) (by decide) (hb hby d16_37) rfl (fun v13 T13 h13 L13 X13 e13 z13 => ?_)
 obtain ⟨rfl, Nq13, hq13⟩ := z13; replace e13 := e13.trans hq13; have N := Fr.app N Nq13
 refine og_aloadN X13 hx rfl rfl (hb hby d16_40) rfl ?_
 refine og_getfield X13 hx hZ (host := "") hown (Or.inl (ow32 hw)) Via.refl e13 F_value_a1 (hb hby d16_41) rfl (fun T14 X14 e14 => ?_)
 refine og_iloadN X14 hx rfl (hb hby d16_44) rfl ?_
 refine og_iloadN X14 hx rfl (hb hby d16_45) rfl ?_
 refine og_static (pc' := 49) (cells' := 0) (slots' := 0) (W := 0) X14 hx hZ (rm_u31_0 l Z a0 hw ba kb c0 hc0 h0 n0 O V_ba S__assertionsDisabled S_HI_BYTE_SHIFT S_LO_BYTE_SHIFT) hown (ow137 hw) (ow138 hw) (ow21 hw) (ow139 hw) (by decide) (by rw [hml]; rfl) e14 opd_16 [(.ref ba), (.int 0), (.int 1)] [] rfl rfl rfl rfl (by decide) (by decide) rfl rfl (by decide) (by decide) (hb hby d16_46) rfl (fun v15 T15 h15 L15 X15 e15 z15 => ?_)
 obtain ⟨rp, rfl, Nq15, hq15, hrp⟩ := z15; replace e15 := e15.trans hq15; have N := Fr.app N Nq15
 refine og_retI X15 hx hlk hret (hb hby d16_49) (by decide) (by decide) ?_
 rw [e15]; exact ⟨_, rfl, N, rfl, hrp⟩
theorem rm_pL1_0 (l : Launch) (Z : State) (a0 : Array Value) (hw : HW a0 Z) (a1 ba : Addr) (kb : ClassId) (c0 : Int32) (hc0 : 0 ≤ c0.toInt ∧ c0.toInt ≤ 65535) (cs : Int32) (hcs : ¬ cs = 0) (fm : Value) (hfm : fm.isRef = true) (hsm : ¬ 255 < c0) (h0 : Heap) (n0 : Nat) (O : Old Z n0 h0) (E_a1 : Exa Z h0 a1 "java/lang/String") (F_value_a1 : Fld Z h0 a1 "java/lang/String" "value" "[B" (.ref ba)) (F_coder_a1 : Fld Z h0 a1 "java/lang/String" "coder" "B" (.int 0)) (V_ba : Arv Z h0 ba kb .byte (1 : Int32) [(.int c0.toInt8.toInt32)] (.int 0)) (S_CS : Sta Z Z.heap "java/lang/String" "COMPACT_STRINGS" "Z" (.int cs)) (S_FM : Sta Z Z.heap "jdk/internal/util/Preconditions" "SIOOBE_FORMATTER" "Ljava/util/function/BiFunction;" fm) :
  Con l Z (⟨"java/lang/String", "codePointAt", "(I)I"⟩ : MethodName) jdk_42_method_57_code 3 (some .int) ({ frames := 2, cells := 0, slots := 0, locals := 27 } : Room) #[(.ref a1), (.int 0)] h0 (fun v h L => v = some (.int c0) ∧ Fr n0 L ∧ h = h0) := by
 refine own_startC opn_16 ?_
 intro p e s m below meth c T0 X0 hx hby hml hZ hown hnm hret hlk e0
 have N := Fr.nil n0; have K := Keep.refl h0 []
 refine OG.cast (oef13 m a1 (0 : Int32)) ?_
 refine og_aloadN X0 hx rfl rfl (hb hby d16_0) rfl ?_
 refine og_virtual (pc' := 4) (cells' := 0) (slots' := 0) (W := 0) X0 hx hZ (rm_il l Z a0 hw a1 cs hcs h0 n0 O F_coder_a1 S_CS) hown (ow53 hw) (ow54 hw) (own_nf hZ (ow56 hw)) (ow56 hw) (ow55 hw) (ow7 hw) (ow57 hw) (by decide) (by rw [hml]; rfl) e0 opd_10 [] [] rfl rfl rfl rfl (by decide) (by decide) rfl rfl (by decide) (by decide) E_a1 (hb hby d16_1) rfl (fun v11 T11 h11 L11 X11 e11 z11 => ?_)
 obtain ⟨rfl, Nq11, hq11⟩ := z11; replace e11 := e11.trans hq11; have N := Fr.app N Nq11
 refine og_if_eq (pc1 := 27) (pc2 := 7) X11 hx (hb hby d16_4) (by decide) (by decide) rfl (fun q => absurd q (by decide)) (fun _ => ?_)
 refine og_iloadN X11 hx rfl (hb hby d16_7) rfl ?_
 refine og_aloadN X11 hx rfl rfl (hb hby d16_8) rfl ?_
 refine og_getfield X11 hx hZ (host := "") hown (Or.inl (ow32 hw)) Via.refl e11 F_value_a1 (hb hby d16_9) rfl (fun T12 X12 e12 => ?_)
 refine og_arraylength X12 hx hZ e12 V_ba (hb hby d16_12) rfl ?_
 refine og_static (pc' := 16) (cells' := 0) (slots' := 0) (W := 0) X12 hx hZ (rm_ci l Z a0 hw (1 : Int32) (0 : Int32) ⟨by decide, by decide⟩ fm hfm h0 n0 O S_FM) hown (ow75 hw) (ow63 hw) (ow7 hw) (ow64 hw) (by decide) (by rw [hml]; rfl) e12 opd_9 [(.int 0), (.int 1)] [] rfl rfl rfl rfl (by decide) (by decide) rfl rfl (by decide) (by decide) (hb hby d16_13) rfl (fun v13 T13 h13 L13 X13 e13 z13 => ?_)
 obtain ⟨rfl, Nq13, hq13⟩ := z13; replace e13 := e13.trans hq13; have N := Fr.app N Nq13
 refine og_aloadN X13 hx rfl rfl (hb hby d16_16) rfl ?_
 refine og_getfield X13 hx hZ (host := "") hown (Or.inl (ow32 hw)) Via.refl e13 F_value_a1 (hb hby d16_17) rfl (fun T14 X14 e14 => ?_)
 refine og_iloadN X14 hx rfl (hb hby d16_20) rfl ?_
 refine og_baload (v := (.int c0.toInt8.toInt32)) X14 hx hZ e14 V_ba ⟨by decide, by decide⟩ rfl (hb hby d16_21) rfl ?_
 refine og_sipush (v := 255) X14 hx rfl (hb hby d16_22) rfl ?_
 refine og_iand X14 hx (hb hby d16_25) rfl ?_
 refine og_retI X14 hx hlk hret (hb hby d16_26) (by decide) (by decide) ?_
 rw [e14, own_chL hc0 hsm]; exact ⟨rfl, N, rfl⟩
theorem rm_fcL1 (l : Launch) (Z : State) (a0 : Array Value) (hw : HW a0 Z) (a1 ba : Addr) (kb : ClassId) (c0 : Int32) (hc0 : 0 ≤ c0.toInt ∧ c0.toInt ≤ 65535) (cs : Int32) (hcs : ¬ cs = 0) (fm : Value) (hfm : fm.isRef = true) (r : Int32) (hr : own_fc [c0] = r) (hsm : ¬ 255 < c0) (h0 : Heap) (n0 : Nat) (O : Old Z n0 h0) (E_a1 : Exa Z h0 a1 "java/lang/String") (F_value_a1 : Fld Z h0 a1 "java/lang/String" "value" "[B" (.ref ba)) (F_coder_a1 : Fld Z h0 a1 "java/lang/String" "coder" "B" (.int 0)) (V_ba : Arv Z h0 ba kb .byte (1 : Int32) [(.int c0.toInt8.toInt32)] (.int 0)) (S_CS : Sta Z Z.heap "java/lang/String" "COMPACT_STRINGS" "Z" (.int cs)) (S_FM : Sta Z Z.heap "jdk/internal/util/Preconditions" "SIOOBE_FORMATTER" "Ljava/util/function/BiFunction;" fm) :
  Con l Z (⟨"com/example/neith/neith/io/XmlOutput", "forbiddenCharacter", "(Ljava/lang/String;)I"⟩ : MethodName) prog_18_method_3_code 5 (some .int) ({ frames := 4, cells := 0, slots := 0, locals := 53 } : Room) #[(.ref a1)] h0 (fun v h L => v = some (.int r) ∧ Fr n0 L ∧ h = h0) := by
 refine own_startC opn_8 ?_
 intro p e s m below meth c T0 X0 hx hby hml hZ hown hnm hret hlk e0
 have N := Fr.nil n0; have K := Keep.refl h0 []
 refine OG.cast (oef14 m a1) ?_
 refine og_iconst (v := -1) X0 hx rfl (hb hby d8_0) rfl ?_
 refine og_istoreN (L' := #[.val (.ref a1), .val (.int (-1)), .unset, .unset, .unset]) X0 hx rfl (hb hby d8_1) rfl ?_
 refine og_iconst (v := 0) X0 hx rfl (hb hby d8_2) rfl ?_
 refine og_istoreN (L' := #[.val (.ref a1), .val (.int (-1)), .val (.int 0), .unset, .unset]) X0 hx rfl (hb hby d8_3) rfl ?_
 have J1 : ∀ (T11 : State) (l11 : List Loc) (X11 : Stand p l e ({ frames := 4, cells := 0, slots := 0, locals := 53 } : Room) s m #[(.ref a1)] below meth c T11 l11 0 0) (e11 : T11.heap = h0) (N : Fr n0 l11) (x3 x4 : Slot) (hs_x3 : x3 = .unset ∨ ∃ v, x3 = .val (.int v)) (hs_x4 : x4 = .unset ∨ ∃ v, x4 = .val (.int v)) (hr : own_fc [] = r), OG p e below (OFin s (fun v h L => v = some (.int r) ∧ Fr n0 L ∧ h = h0) 0 0) (T11.setTop (mkF m 4 #[.val (.ref a1), .val (.int (-1)), .val (.int 1), x3, x4] [])) := by
  intro T11 l11 X11 e11 N x3 x4 hs_x3 hs_x4 hr
  refine og_iloadN X11 hx rfl (hb hby d8_4) rfl ?_
  refine og_aloadN X11 hx rfl rfl (hb hby d8_5) rfl ?_
  refine og_virtual (pc' := 9) (cells' := 0) (slots' := 0) (W := 1) X11 hx hZ (rm_len l Z a0 hw a1 ba kb (1 : Int32) _ cs hcs h0 n0 O E_a1 F_value_a1 F_coder_a1 V_ba S_CS) hown (ow38 hw) (ow39 hw) (own_nf hZ (ow41 hw)) (ow41 hw) (ow40 hw) (ow7 hw) (ow42 hw) (by decide) (by rw [hml]; rfl) e11 opd_17 [] [(.int 1)] rfl rfl rfl rfl (by decide) (by decide) rfl rfl (by decide) (by decide) E_a1 (hb hby d8_6) rfl (fun v12 T12 h12 L12 X12 e12 z12 => ?_)
  obtain ⟨rfl, Nq12, hq12⟩ := z12; replace e12 := e12.trans hq12; have N := Fr.app N Nq12
  refine og_icmp_ge (pc1 := 69) (pc2 := 12) X12 hx (hb hby d8_9) (by decide) (by decide) rfl (fun _ => ?_) (fun q => absurd q (by decide))
  refine og_iloadN X12 hx rfl (hb hby d8_69) rfl ?_
  refine og_retI X12 hx hlk hret (hb hby d8_70) (by decide) (by decide) ?_
  rw [e12]; exact ⟨by rw [← hr]; rfl, N, rfl⟩
 refine og_iloadN X0 hx rfl (hb hby d8_4) rfl ?_
 refine og_aloadN X0 hx rfl rfl (hb hby d8_5) rfl ?_
 refine og_virtual (pc' := 9) (cells' := 0) (slots' := 0) (W := 1) X0 hx hZ (rm_len l Z a0 hw a1 ba kb (1 : Int32) _ cs hcs h0 n0 O E_a1 F_value_a1 F_coder_a1 V_ba S_CS) hown (ow38 hw) (ow39 hw) (own_nf hZ (ow41 hw)) (ow41 hw) (ow40 hw) (ow7 hw) (ow42 hw) (by decide) (by rw [hml]; rfl) e0 opd_17 [] [(.int 0)] rfl rfl rfl rfl (by decide) (by decide) rfl rfl (by decide) (by decide) E_a1 (hb hby d8_6) rfl (fun v13 T13 h13 L13 X13 e13 z13 => ?_)
 obtain ⟨rfl, Nq13, hq13⟩ := z13; replace e13 := e13.trans hq13; have N := Fr.app N Nq13
 refine og_icmp_ge (pc1 := 69) (pc2 := 12) X13 hx (hb hby d8_9) (by decide) (by decide) rfl (fun q => absurd q (by decide)) (fun _ => ?_)
 refine og_iloadN X13 hx rfl (hb hby d8_12) rfl ?_
 refine og_if_ge (pc1 := 69) (pc2 := 16) X13 hx (hb hby d8_13) (by decide) (by decide) rfl (fun q => absurd q (by decide)) (fun _ => ?_)
 refine og_aloadN X13 hx rfl rfl (hb hby d8_16) rfl ?_
 refine og_iloadN X13 hx rfl (hb hby d8_17) rfl ?_
 refine og_virtual (pc' := 21) (cells' := 0) (slots' := 0) (W := 0) X13 hx hZ (rm_ch l Z a0 hw a1 ba kb (1 : Int32) (0 : Int32) ⟨by decide, by decide⟩ _ c0 rfl (own_sm hc0 hsm) cs hcs fm hfm h0 n0 O E_a1 F_value_a1 F_coder_a1 V_ba S_CS S_FM) hown (ow48 hw) (ow49 hw) (own_nf hZ (ow51 hw)) (ow51 hw) (ow50 hw) (ow7 hw) (ow52 hw) (by decide) (by rw [hml]; rfl) e13 opd_18 [(.int 0)] [] rfl rfl rfl rfl (by decide) (by decide) rfl rfl (by decide) (by decide) E_a1 (hb hby d8_18) rfl (fun v14 T14 h14 L14 X14 e14 z14 => ?_)
 obtain ⟨rfl, Nq14, hq14⟩ := z14; replace e14 := e14.trans hq14; have N := Fr.app N Nq14
 refine og_istoreN (L' := #[.val (.ref a1), .val (.int (-1)), .val (.int 0), .val (.int c0), .unset]) X14 hx rfl (hb hby d8_21) rfl ?_
 refine og_iloadN X14 hx rfl (hb hby d8_22) rfl ?_
 refine og_bipush (v := 32) X14 hx rfl (hb hby d8_23) rfl ?_
 refine og_icmp_lt (pc1 := 40) (pc2 := 28) X14 hx (hb hby d8_25) (by decide) (by decide) rfl (fun hc25 => ?_) (fun hc25 => ?_)
 ·
  refine og_aloadN X14 hx rfl rfl (hb hby d8_40) rfl ?_
  refine og_iloadN X14 hx rfl (hb hby d8_41) rfl ?_
  refine og_virtual (pc' := 45) (cells' := 0) (slots' := 0) (W := 0) X14 hx hZ (rm_pL1_0 l Z a0 hw a1 ba kb c0 hc0 cs hcs fm hfm hsm h0 n0 O E_a1 F_value_a1 F_coder_a1 V_ba S_CS S_FM) hown (ow70 hw) (ow71 hw) (own_nf hZ (ow73 hw)) (ow73 hw) (ow72 hw) (ow7 hw) (ow74 hw) (by decide) (by rw [hml]; rfl) e14 opd_0 [(.int 0)] [] rfl rfl rfl rfl (by decide) (by decide) rfl rfl (by decide) (by decide) E_a1 (hb hby d8_42) rfl (fun v15 T15 h15 L15 X15 e15 z15 => ?_)
  obtain ⟨rfl, Nq15, hq15⟩ := z15; replace e15 := e15.trans hq15; have N := Fr.app N Nq15
  refine og_istore (L' := #[.val (.ref a1), .val (.int (-1)), .val (.int 0), .val (.int c0), .val (.int c0)]) X15 hx rfl (hb hby d8_45) rfl ?_
  refine og_iload X15 hx rfl (hb hby d8_47) rfl ?_
  refine og_static (pc' := 52) (cells' := 0) (slots' := 0) (W := 0) X15 hx hZ (rm_ixc l Z a0 hw c0 h0 n0 O) hown (ow76 hw) (ow77 hw) (ow36 hw) (ow78 hw) (by decide) (by rw [hml]; rfl) e15 opd_19 [(.int c0)] [] rfl rfl rfl rfl (by decide) (by decide) rfl rfl (by decide) (by decide) (hb hby d8_49) rfl (fun v16 T16 h16 L16 X16 e16 z16 => ?_)
  obtain ⟨rb16, rfl, Nq16, hq16, hb16⟩ := z16; replace e16 := e16.trans hq16; have N := Fr.app N Nq16
  refine og_if_ne (pc1 := 58) (pc2 := 55) X16 hx (hb hby d8_52) (by decide) (by decide) rfl (fun hc52 => ?_) (fun hc52 => ?_)
  ·
   have hX := own_b1 hb16 hc52
   refine og_iloadN X16 hx rfl (hb hby d8_58) rfl ?_
   refine og_iload X16 hx rfl (hb hby d8_59) rfl ?_
   refine og_static (pc' := 64) (cells' := 0) (slots' := 0) (W := 1) X16 hx hZ (rm_cct l Z a0 hw c0 h0 n0 O) hown (ow81 hw) (ow82 hw) (ow83 hw) (ow84 hw) (by decide) (by rw [hml]; rfl) e16 opd_0 [(.int c0)] [(.int 0)] rfl rfl rfl rfl (by decide) (by decide) rfl rfl (by decide) (by decide) (hb hby d8_61) rfl (fun v17 T17 h17 L17 X17 e17 z17 => ?_)
   obtain ⟨rc, rfl, Nq17, hq17, hrc⟩ := z17; replace e17 := e17.trans hq17; have N := Fr.app N Nq17
   have hrc : rc = 1 := own_cc1 hrc hc0
   subst hrc
   refine og_iadd X17 hx (hb hby d8_64) rfl ?_
   show OG p e below _ (T17.setTop (mkF m 65 #[.val (.ref a1), .val (.int (-1)), .val (.int 0), .val (.int c0), .val (.int c0)] [(.int 1)]))
   refine og_istoreN (L' := #[.val (.ref a1), .val (.int (-1)), .val (.int 1), .val (.int c0), .val (.int c0)]) X17 hx rfl (hb hby d8_65) rfl ?_
   refine og_goto (pc' := 4) X17 hx (hb hby d8_66) (by decide) (by decide) ?_
   exact J1 T17 _ X17 e17 N _ _ (Or.inr ⟨_, rfl⟩) (Or.inr ⟨_, rfl⟩) ((own_fok1 (own_xk hc0 hX)).symm.trans hr)
  ·
   have hX := own_b0 hb16 hc52
   refine og_iload X16 hx rfl (hb hby d8_55) rfl ?_
   refine og_istoreN (L' := #[.val (.ref a1), .val (.int c0), .val (.int 0), .val (.int c0), .val (.int c0)]) X16 hx rfl (hb hby d8_57) rfl ?_
   refine og_iloadN X16 hx rfl (hb hby d8_58) rfl ?_
   refine og_iload X16 hx rfl (hb hby d8_59) rfl ?_
   refine og_static (pc' := 64) (cells' := 0) (slots' := 0) (W := 1) X16 hx hZ (rm_cct l Z a0 hw c0 h0 n0 O) hown (ow81 hw) (ow82 hw) (ow83 hw) (ow84 hw) (by decide) (by rw [hml]; rfl) e16 opd_0 [(.int c0)] [(.int 0)] rfl rfl rfl rfl (by decide) (by decide) rfl rfl (by decide) (by decide) (hb hby d8_61) rfl (fun v18 T18 h18 L18 X18 e18 z18 => ?_)
   obtain ⟨rc, rfl, Nq18, hq18, hrc⟩ := z18; replace e18 := e18.trans hq18; have N := Fr.app N Nq18
   have hrc : rc = 1 := own_cc1 hrc hc0
   subst hrc
   refine og_iadd X18 hx (hb hby d8_64) rfl ?_
   show OG p e below _ (T18.setTop (mkF m 65 #[.val (.ref a1), .val (.int c0), .val (.int 0), .val (.int c0), .val (.int c0)] [(.int 1)]))
   refine og_istoreN (L' := #[.val (.ref a1), .val (.int c0), .val (.int 1), .val (.int c0), .val (.int c0)]) X18 hx rfl (hb hby d8_65) rfl ?_
   refine og_goto (pc' := 4) X18 hx (hb hby d8_66) (by decide) (by decide) ?_
   refine og_iloadN X18 hx rfl (hb hby d8_4) rfl ?_
   refine og_aloadN X18 hx rfl rfl (hb hby d8_5) rfl ?_
   refine og_virtual (pc' := 9) (cells' := 0) (slots' := 0) (W := 1) X18 hx hZ (rm_len l Z a0 hw a1 ba kb (1 : Int32) _ cs hcs h0 n0 O E_a1 F_value_a1 F_coder_a1 V_ba S_CS) hown (ow38 hw) (ow39 hw) (own_nf hZ (ow41 hw)) (ow41 hw) (ow40 hw) (ow7 hw) (ow42 hw) (by decide) (by rw [hml]; rfl) e18 opd_17 [] [(.int 1)] rfl rfl rfl rfl (by decide) (by decide) rfl rfl (by decide) (by decide) E_a1 (hb hby d8_6) rfl (fun v19 T19 h19 L19 X19 e19 z19 => ?_)
   obtain ⟨rfl, Nq19, hq19⟩ := z19; replace e19 := e19.trans hq19; have N := Fr.app N Nq19
   refine og_icmp_ge (pc1 := 69) (pc2 := 12) X19 hx (hb hby d8_9) (by decide) (by decide) rfl (fun _ => ?_) (fun q => absurd q (by decide))
   refine og_iloadN X19 hx rfl (hb hby d8_69) rfl ?_
   refine og_retI X19 hx hlk hret (hb hby d8_70) (by decide) (by decide) ?_
   rw [e19]; exact ⟨by rw [← hr, own_fbad1 (own_kx hc0 hX)], N, rfl⟩
 ·
  refine og_iloadN X14 hx rfl (hb hby d8_28) rfl ?_
  refine og_ldc X14 hx hZ hown (ow100 hw) (hb hby d8_29) rfl ?_
  refine og_icmp_ge (pc1 := 40) (pc2 := 34) X14 hx (hb hby d8_31) (by decide) (by decide) rfl (fun hc31 => ?_) (fun hc31 => ?_)
  ·
   have q25 := own_i2 hc25 (show (32 : Int32).toInt = 32 by decide)
   refine og_aloadN X14 hx rfl rfl (hb hby d8_40) rfl ?_
   refine og_iloadN X14 hx rfl (hb hby d8_41) rfl ?_
   refine og_virtual (pc' := 45) (cells' := 0) (slots' := 0) (W := 0) X14 hx hZ (rm_pL1_0 l Z a0 hw a1 ba kb c0 hc0 cs hcs fm hfm hsm h0 n0 O E_a1 F_value_a1 F_coder_a1 V_ba S_CS S_FM) hown (ow70 hw) (ow71 hw) (own_nf hZ (ow73 hw)) (ow73 hw) (ow72 hw) (ow7 hw) (ow74 hw) (by decide) (by rw [hml]; rfl) e14 opd_0 [(.int 0)] [] rfl rfl rfl rfl (by decide) (by decide) rfl rfl (by decide) (by decide) E_a1 (hb hby d8_42) rfl (fun v20 T20 h20 L20 X20 e20 z20 => ?_)
   obtain ⟨rfl, Nq20, hq20⟩ := z20; replace e20 := e20.trans hq20; have N := Fr.app N Nq20
   refine og_istore (L' := #[.val (.ref a1), .val (.int (-1)), .val (.int 0), .val (.int c0), .val (.int c0)]) X20 hx rfl (hb hby d8_45) rfl ?_
   refine og_iload X20 hx rfl (hb hby d8_47) rfl ?_
   refine og_static (pc' := 52) (cells' := 0) (slots' := 0) (W := 0) X20 hx hZ (rm_ixc l Z a0 hw c0 h0 n0 O) hown (ow76 hw) (ow77 hw) (ow36 hw) (ow78 hw) (by decide) (by rw [hml]; rfl) e20 opd_19 [(.int c0)] [] rfl rfl rfl rfl (by decide) (by decide) rfl rfl (by decide) (by decide) (hb hby d8_49) rfl (fun v21 T21 h21 L21 X21 e21 z21 => ?_)
   obtain ⟨rb21, rfl, Nq21, hq21, hb21⟩ := z21; replace e21 := e21.trans hq21; have N := Fr.app N Nq21
   refine og_if_ne (pc1 := 58) (pc2 := 55) X21 hx (hb hby d8_52) (by decide) (by decide) rfl (fun hc52 => ?_) (fun hc52 => ?_)
   ·
    have hX := own_b1 hb21 hc52
    refine og_iloadN X21 hx rfl (hb hby d8_58) rfl ?_
    refine og_iload X21 hx rfl (hb hby d8_59) rfl ?_
    refine og_static (pc' := 64) (cells' := 0) (slots' := 0) (W := 1) X21 hx hZ (rm_cct l Z a0 hw c0 h0 n0 O) hown (ow81 hw) (ow82 hw) (ow83 hw) (ow84 hw) (by decide) (by rw [hml]; rfl) e21 opd_0 [(.int c0)] [(.int 0)] rfl rfl rfl rfl (by decide) (by decide) rfl rfl (by decide) (by decide) (hb hby d8_61) rfl (fun v22 T22 h22 L22 X22 e22 z22 => ?_)
    obtain ⟨rc, rfl, Nq22, hq22, hrc⟩ := z22; replace e22 := e22.trans hq22; have N := Fr.app N Nq22
    have hrc : rc = 1 := own_cc1 hrc hc0
    subst hrc
    refine og_iadd X22 hx (hb hby d8_64) rfl ?_
    show OG p e below _ (T22.setTop (mkF m 65 #[.val (.ref a1), .val (.int (-1)), .val (.int 0), .val (.int c0), .val (.int c0)] [(.int 1)]))
    refine og_istoreN (L' := #[.val (.ref a1), .val (.int (-1)), .val (.int 1), .val (.int c0), .val (.int c0)]) X22 hx rfl (hb hby d8_65) rfl ?_
    refine og_goto (pc' := 4) X22 hx (hb hby d8_66) (by decide) (by decide) ?_
    exact J1 T22 _ X22 e22 N _ _ (Or.inr ⟨_, rfl⟩) (Or.inr ⟨_, rfl⟩) ((own_fok1 (own_xk hc0 hX)).symm.trans hr)
   ·
    have hX := own_b0 hb21 hc52
    refine og_iload X21 hx rfl (hb hby d8_55) rfl ?_
    refine og_istoreN (L' := #[.val (.ref a1), .val (.int c0), .val (.int 0), .val (.int c0), .val (.int c0)]) X21 hx rfl (hb hby d8_57) rfl ?_
    refine og_iloadN X21 hx rfl (hb hby d8_58) rfl ?_
    refine og_iload X21 hx rfl (hb hby d8_59) rfl ?_
    refine og_static (pc' := 64) (cells' := 0) (slots' := 0) (W := 1) X21 hx hZ (rm_cct l Z a0 hw c0 h0 n0 O) hown (ow81 hw) (ow82 hw) (ow83 hw) (ow84 hw) (by decide) (by rw [hml]; rfl) e21 opd_0 [(.int c0)] [(.int 0)] rfl rfl rfl rfl (by decide) (by decide) rfl rfl (by decide) (by decide) (hb hby d8_61) rfl (fun v23 T23 h23 L23 X23 e23 z23 => ?_)
    obtain ⟨rc, rfl, Nq23, hq23, hrc⟩ := z23; replace e23 := e23.trans hq23; have N := Fr.app N Nq23
    have hrc : rc = 1 := own_cc1 hrc hc0
    subst hrc
    refine og_iadd X23 hx (hb hby d8_64) rfl ?_
    show OG p e below _ (T23.setTop (mkF m 65 #[.val (.ref a1), .val (.int c0), .val (.int 0), .val (.int c0), .val (.int c0)] [(.int 1)]))
    refine og_istoreN (L' := #[.val (.ref a1), .val (.int c0), .val (.int 1), .val (.int c0), .val (.int c0)]) X23 hx rfl (hb hby d8_65) rfl ?_
    refine og_goto (pc' := 4) X23 hx (hb hby d8_66) (by decide) (by decide) ?_
    refine og_iloadN X23 hx rfl (hb hby d8_4) rfl ?_
    refine og_aloadN X23 hx rfl rfl (hb hby d8_5) rfl ?_
    refine og_virtual (pc' := 9) (cells' := 0) (slots' := 0) (W := 1) X23 hx hZ (rm_len l Z a0 hw a1 ba kb (1 : Int32) _ cs hcs h0 n0 O E_a1 F_value_a1 F_coder_a1 V_ba S_CS) hown (ow38 hw) (ow39 hw) (own_nf hZ (ow41 hw)) (ow41 hw) (ow40 hw) (ow7 hw) (ow42 hw) (by decide) (by rw [hml]; rfl) e23 opd_17 [] [(.int 1)] rfl rfl rfl rfl (by decide) (by decide) rfl rfl (by decide) (by decide) E_a1 (hb hby d8_6) rfl (fun v24 T24 h24 L24 X24 e24 z24 => ?_)
    obtain ⟨rfl, Nq24, hq24⟩ := z24; replace e24 := e24.trans hq24; have N := Fr.app N Nq24
    refine og_icmp_ge (pc1 := 69) (pc2 := 12) X24 hx (hb hby d8_9) (by decide) (by decide) rfl (fun _ => ?_) (fun q => absurd q (by decide))
    refine og_iloadN X24 hx rfl (hb hby d8_69) rfl ?_
    refine og_retI X24 hx hlk hret (hb hby d8_70) (by decide) (by decide) ?_
    rw [e24]; exact ⟨by rw [← hr, own_fbad1 (own_kx hc0 hX)], N, rfl⟩
  ·
   have q25 := own_i2 hc25 (show (32 : Int32).toInt = 32 by decide)
   have q31 := own_i1 hc31 (show (55296 : Int32).toInt = 55296 by decide)
   refine og_iinc (L' := #[.val (.ref a1), .val (.int (-1)), .val (.int 1), .val (.int c0), .unset]) (w := 1) X14 hx rfl rfl rfl (hb hby d8_34) rfl ?_
   refine og_goto (pc' := 66) X14 hx (hb hby d8_37) (by decide) (by decide) ?_
   refine og_goto (pc' := 4) X14 hx (hb hby d8_66) (by decide) (by decide) ?_
   exact J1 T14 _ X14 e14 N _ _ (Or.inr ⟨_, rfl⟩) (Or.inl rfl) ((own_fok1 (own_okb q25 q31)).symm.trans hr)
theorem rm_fcU1 (l : Launch) (Z : State) (a0 : Array Value) (hw : HW a0 Z) (a1 ba : Addr) (kb : ClassId) (c0 : Int32) (hc0 : 0 ≤ c0.toInt ∧ c0.toInt ≤ 65535) (cs : Int32) (hcs : ¬ cs = 0) (fm : Value) (hfm : fm.isRef = true) (r : Int32) (hr : own_fc [c0] = r) (h0 : Heap) (n0 : Nat) (O : Old Z n0 h0) (E_a1 : Exa Z h0 a1 "java/lang/String") (F_value_a1 : Fld Z h0 a1 "java/lang/String" "value" "[B" (.ref ba)) (F_coder_a1 : Fld Z h0 a1 "java/lang/String" "coder" "B" (.int 1)) (V_ba : Arv Z h0 ba kb .byte (2 : Int32) [(.int c0.toInt8.toInt32), (.int (c0 >>> ((8 : Int32) &&& 31)).toInt8.toInt32)] (.int 0)) (S_CS : Sta Z Z.heap "java/lang/String" "COMPACT_STRINGS" "Z" (.int cs)) (S_FM : Sta Z Z.heap "jdk/internal/util/Preconditions" "SIOOBE_FORMATTER" "Ljava/util/function/BiFunction;" fm) (S__assertionsDisabled : Sta Z Z.heap "java/lang/StringUTF16" "$assertionsDisabled" "Z" (.int 1)) (S_HI_BYTE_SHIFT : Sta Z Z.heap "java/lang/StringUTF16" "HI_BYTE_SHIFT" "I" (.int 0)) (S_LO_BYTE_SHIFT : Sta Z Z.heap "java/lang/StringUTF16" "LO_BYTE_SHIFT" "I" (.int 8)) :
  Con l Z (⟨"com/example/neith/neith/io/XmlOutput", "forbiddenCharacter", "(Ljava/lang/String;)I"⟩ : MethodName) prog_18_method_3_code 5 (some .int) ({ frames := 5, cells := 0, slots := 0, locals := 66 } : Room) #[(.ref a1)] h0 (fun v h L => v = some (.int r) ∧ Fr n0 L ∧ h = h0) := by
 refine own_startC opn_8 ?_
 intro p e s m below meth c T0 X0 hx hby hml hZ hown hnm hret hlk e0
 have N := Fr.nil n0; have K := Keep.refl h0 []
 refine OG.cast (oef14 m a1) ?_
 refine og_iconst (v := -1) X0 hx rfl (hb hby d8_0) rfl ?_
 refine og_istoreN (L' := #[.val (.ref a1), .val (.int (-1)), .unset, .unset, .unset]) X0 hx rfl (hb hby d8_1) rfl ?_
 refine og_iconst (v := 0) X0 hx rfl (hb hby d8_2) rfl ?_
 refine og_istoreN (L' := #[.val (.ref a1), .val (.int (-1)), .val (.int 0), .unset, .unset]) X0 hx rfl (hb hby d8_3) rfl ?_
 have J1 : ∀ (T11 : State) (l11 : List Loc) (X11 : Stand p l e ({ frames := 5, cells := 0, slots := 0, locals := 66 } : Room) s m #[(.ref a1)] below meth c T11 l11 0 0) (e11 : T11.heap = h0) (N : Fr n0 l11) (x3 x4 : Slot) (hs_x3 : x3 = .unset ∨ ∃ v, x3 = .val (.int v)) (hs_x4 : x4 = .unset ∨ ∃ v, x4 = .val (.int v)) (hr : own_fc [] = r), OG p e below (OFin s (fun v h L => v = some (.int r) ∧ Fr n0 L ∧ h = h0) 0 0) (T11.setTop (mkF m 4 #[.val (.ref a1), .val (.int (-1)), .val (.int 1), x3, x4] [])) := by
  intro T11 l11 X11 e11 N x3 x4 hs_x3 hs_x4 hr
  refine og_iloadN X11 hx rfl (hb hby d8_4) rfl ?_
  refine og_aloadN X11 hx rfl rfl (hb hby d8_5) rfl ?_
  refine og_virtual (pc' := 9) (cells' := 0) (slots' := 0) (W := 1) X11 hx hZ (rm_lenU1 l Z a0 hw a1 ba kb c0 hc0 cs hcs h0 n0 O E_a1 F_value_a1 F_coder_a1 V_ba S_CS) hown (ow38 hw) (ow39 hw) (own_nf hZ (ow41 hw)) (ow41 hw) (ow40 hw) (ow7 hw) (ow42 hw) (by decide) (by rw [hml]; rfl) e11 opd_17 [] [(.int 1)] rfl rfl rfl rfl (by decide) (by decide) rfl rfl (by decide) (by decide) E_a1 (hb hby d8_6) rfl (fun v12 T12 h12 L12 X12 e12 z12 => ?_)
  obtain ⟨rfl, Nq12, hq12⟩ := z12; replace e12 := e12.trans hq12; have N := Fr.app N Nq12
  refine og_icmp_ge (pc1 := 69) (pc2 := 12) X12 hx (hb hby d8_9) (by decide) (by decide) rfl (fun _ => ?_) (fun q => absurd q (by decide))
  refine og_iloadN X12 hx rfl (hb hby d8_69) rfl ?_
  refine og_retI X12 hx hlk hret (hb hby d8_70) (by decide) (by decide) ?_
  rw [e12]; exact ⟨by rw [← hr]; rfl, N, rfl⟩
 refine og_iloadN X0 hx rfl (hb hby d8_4) rfl ?_
 refine og_aloadN X0 hx rfl rfl (hb hby d8_5) rfl ?_
 refine og_virtual (pc' := 9) (cells' := 0) (slots' := 0) (W := 1) X0 hx hZ (rm_lenU1 l Z a0 hw a1 ba kb c0 hc0 cs hcs h0 n0 O E_a1 F_value_a1 F_coder_a1 V_ba S_CS) hown (ow38 hw) (ow39 hw) (own_nf hZ (ow41 hw)) (ow41 hw) (ow40 hw) (ow7 hw) (ow42 hw) (by decide) (by rw [hml]; rfl) e0 opd_17 [] [(.int 0)] rfl rfl rfl rfl (by decide) (by decide) rfl rfl (by decide) (by decide) E_a1 (hb hby d8_6) rfl (fun v13 T13 h13 L13 X13 e13 z13 => ?_)
 obtain ⟨rfl, Nq13, hq13⟩ := z13; replace e13 := e13.trans hq13; have N := Fr.app N Nq13
 refine og_icmp_ge (pc1 := 69) (pc2 := 12) X13 hx (hb hby d8_9) (by decide) (by decide) rfl (fun q => absurd q (by decide)) (fun _ => ?_)
 refine og_iloadN X13 hx rfl (hb hby d8_12) rfl ?_
 refine og_if_ge (pc1 := 69) (pc2 := 16) X13 hx (hb hby d8_13) (by decide) (by decide) rfl (fun q => absurd q (by decide)) (fun _ => ?_)
 refine og_aloadN X13 hx rfl rfl (hb hby d8_16) rfl ?_
 refine og_iloadN X13 hx rfl (hb hby d8_17) rfl ?_
 refine og_virtual (pc' := 21) (cells' := 0) (slots' := 0) (W := 0) X13 hx hZ (rm_cU1_0 l Z a0 hw a1 ba kb c0 hc0 cs hcs fm hfm h0 n0 O E_a1 F_value_a1 F_coder_a1 V_ba S_CS S_FM S__assertionsDisabled S_HI_BYTE_SHIFT S_LO_BYTE_SHIFT) hown (ow48 hw) (ow49 hw) (own_nf hZ (ow51 hw)) (ow51 hw) (ow50 hw) (ow7 hw) (ow52 hw) (by decide) (by rw [hml]; rfl) e13 opd_18 [(.int 0)] [] rfl rfl rfl rfl (by decide) (by decide) rfl rfl (by decide) (by decide) E_a1 (hb hby d8_18) rfl (fun v14 T14 h14 L14 X14 e14 z14 => ?_)
 obtain ⟨rfl, Nq14, hq14⟩ := z14; replace e14 := e14.trans hq14; have N := Fr.app N Nq14
 refine og_istoreN (L' := #[.val (.ref a1), .val (.int (-1)), .val (.int 0), .val (.int c0), .unset]) X14 hx rfl (hb hby d8_21) rfl ?_
 refine og_iloadN X14 hx rfl (hb hby d8_22) rfl ?_
 refine og_bipush (v := 32) X14 hx rfl (hb hby d8_23) rfl ?_
 refine og_icmp_lt (pc1 := 40) (pc2 := 28) X14 hx (hb hby d8_25) (by decide) (by decide) rfl (fun hc25 => ?_) (fun hc25 => ?_)
 ·
  refine og_aloadN X14 hx rfl rfl (hb hby d8_40) rfl ?_
  refine og_iloadN X14 hx rfl (hb hby d8_41) rfl ?_
  refine og_virtual (pc' := 45) (cells' := 0) (slots' := 0) (W := 0) X14 hx hZ (rm_pU1_0 l Z a0 hw a1 ba kb c0 hc0 cs hcs fm hfm h0 n0 O E_a1 F_value_a1 F_coder_a1 V_ba S_CS S_FM S__assertionsDisabled S_HI_BYTE_SHIFT S_LO_BYTE_SHIFT) hown (ow70 hw) (ow71 hw) (own_nf hZ (ow73 hw)) (ow73 hw) (ow72 hw) (ow7 hw) (ow74 hw) (by decide) (by rw [hml]; rfl) e14 opd_0 [(.int 0)] [] rfl rfl rfl rfl (by decide) (by decide) rfl rfl (by decide) (by decide) E_a1 (hb hby d8_42) rfl (fun v15 T15 h15 L15 X15 e15 z15 => ?_)
  obtain ⟨rp, rfl, Nq15, hq15, hrp⟩ := z15; replace e15 := e15.trans hq15; have N := Fr.app N Nq15
  subst rp
  refine og_istore (L' := #[.val (.ref a1), .val (.int (-1)), .val (.int 0), .val (.int c0), .val (.int c0)]) X15 hx rfl (hb hby d8_45) rfl ?_
  refine og_iload X15 hx rfl (hb hby d8_47) rfl ?_
  refine og_static (pc' := 52) (cells' := 0) (slots' := 0) (W := 0) X15 hx hZ (rm_ixc l Z a0 hw c0 h0 n0 O) hown (ow76 hw) (ow77 hw) (ow36 hw) (ow78 hw) (by decide) (by rw [hml]; rfl) e15 opd_19 [(.int c0)] [] rfl rfl rfl rfl (by decide) (by decide) rfl rfl (by decide) (by decide) (hb hby d8_49) rfl (fun v16 T16 h16 L16 X16 e16 z16 => ?_)
  obtain ⟨rb16, rfl, Nq16, hq16, hb16⟩ := z16; replace e16 := e16.trans hq16; have N := Fr.app N Nq16
  refine og_if_ne (pc1 := 58) (pc2 := 55) X16 hx (hb hby d8_52) (by decide) (by decide) rfl (fun hc52 => ?_) (fun hc52 => ?_)
  ·
   have hX := own_b1 hb16 hc52
   refine og_iloadN X16 hx rfl (hb hby d8_58) rfl ?_
   refine og_iload X16 hx rfl (hb hby d8_59) rfl ?_
   refine og_static (pc' := 64) (cells' := 0) (slots' := 0) (W := 1) X16 hx hZ (rm_cct l Z a0 hw c0 h0 n0 O) hown (ow81 hw) (ow82 hw) (ow83 hw) (ow84 hw) (by decide) (by rw [hml]; rfl) e16 opd_0 [(.int c0)] [(.int 0)] rfl rfl rfl rfl (by decide) (by decide) rfl rfl (by decide) (by decide) (hb hby d8_61) rfl (fun v17 T17 h17 L17 X17 e17 z17 => ?_)
   obtain ⟨rc, rfl, Nq17, hq17, hrc⟩ := z17; replace e17 := e17.trans hq17; have N := Fr.app N Nq17
   have hrc : rc = 1 := own_cc1 hrc hc0
   subst hrc
   refine og_iadd X17 hx (hb hby d8_64) rfl ?_
   show OG p e below _ (T17.setTop (mkF m 65 #[.val (.ref a1), .val (.int (-1)), .val (.int 0), .val (.int c0), .val (.int c0)] [(.int 1)]))
   refine og_istoreN (L' := #[.val (.ref a1), .val (.int (-1)), .val (.int 1), .val (.int c0), .val (.int c0)]) X17 hx rfl (hb hby d8_65) rfl ?_
   refine og_goto (pc' := 4) X17 hx (hb hby d8_66) (by decide) (by decide) ?_
   exact J1 T17 _ X17 e17 N _ _ (Or.inr ⟨_, rfl⟩) (Or.inr ⟨_, rfl⟩) ((own_fok1 (own_xk hc0 hX)).symm.trans hr)
  ·
   have hX := own_b0 hb16 hc52
   refine og_iload X16 hx rfl (hb hby d8_55) rfl ?_
   refine og_istoreN (L' := #[.val (.ref a1), .val (.int c0), .val (.int 0), .val (.int c0), .val (.int c0)]) X16 hx rfl (hb hby d8_57) rfl ?_
   refine og_iloadN X16 hx rfl (hb hby d8_58) rfl ?_
   refine og_iload X16 hx rfl (hb hby d8_59) rfl ?_
   refine og_static (pc' := 64) (cells' := 0) (slots' := 0) (W := 1) X16 hx hZ (rm_cct l Z a0 hw c0 h0 n0 O) hown (ow81 hw) (ow82 hw) (ow83 hw) (ow84 hw) (by decide) (by rw [hml]; rfl) e16 opd_0 [(.int c0)] [(.int 0)] rfl rfl rfl rfl (by decide) (by decide) rfl rfl (by decide) (by decide) (hb hby d8_61) rfl (fun v18 T18 h18 L18 X18 e18 z18 => ?_)
   obtain ⟨rc, rfl, Nq18, hq18, hrc⟩ := z18; replace e18 := e18.trans hq18; have N := Fr.app N Nq18
   have hrc : rc = 1 := own_cc1 hrc hc0
   subst hrc
   refine og_iadd X18 hx (hb hby d8_64) rfl ?_
   show OG p e below _ (T18.setTop (mkF m 65 #[.val (.ref a1), .val (.int c0), .val (.int 0), .val (.int c0), .val (.int c0)] [(.int 1)]))
   refine og_istoreN (L' := #[.val (.ref a1), .val (.int c0), .val (.int 1), .val (.int c0), .val (.int c0)]) X18 hx rfl (hb hby d8_65) rfl ?_
   refine og_goto (pc' := 4) X18 hx (hb hby d8_66) (by decide) (by decide) ?_
   refine og_iloadN X18 hx rfl (hb hby d8_4) rfl ?_
   refine og_aloadN X18 hx rfl rfl (hb hby d8_5) rfl ?_
   refine og_virtual (pc' := 9) (cells' := 0) (slots' := 0) (W := 1) X18 hx hZ (rm_lenU1 l Z a0 hw a1 ba kb c0 hc0 cs hcs h0 n0 O E_a1 F_value_a1 F_coder_a1 V_ba S_CS) hown (ow38 hw) (ow39 hw) (own_nf hZ (ow41 hw)) (ow41 hw) (ow40 hw) (ow7 hw) (ow42 hw) (by decide) (by rw [hml]; rfl) e18 opd_17 [] [(.int 1)] rfl rfl rfl rfl (by decide) (by decide) rfl rfl (by decide) (by decide) E_a1 (hb hby d8_6) rfl (fun v19 T19 h19 L19 X19 e19 z19 => ?_)
   obtain ⟨rfl, Nq19, hq19⟩ := z19; replace e19 := e19.trans hq19; have N := Fr.app N Nq19
   refine og_icmp_ge (pc1 := 69) (pc2 := 12) X19 hx (hb hby d8_9) (by decide) (by decide) rfl (fun _ => ?_) (fun q => absurd q (by decide))
   refine og_iloadN X19 hx rfl (hb hby d8_69) rfl ?_
   refine og_retI X19 hx hlk hret (hb hby d8_70) (by decide) (by decide) ?_
   rw [e19]; exact ⟨by rw [← hr, own_fbad1 (own_kx hc0 hX)], N, rfl⟩
 ·
  refine og_iloadN X14 hx rfl (hb hby d8_28) rfl ?_
  refine og_ldc X14 hx hZ hown (ow100 hw) (hb hby d8_29) rfl ?_
  refine og_icmp_ge (pc1 := 40) (pc2 := 34) X14 hx (hb hby d8_31) (by decide) (by decide) rfl (fun hc31 => ?_) (fun hc31 => ?_)
  ·
   have q25 := own_i2 hc25 (show (32 : Int32).toInt = 32 by decide)
   refine og_aloadN X14 hx rfl rfl (hb hby d8_40) rfl ?_
   refine og_iloadN X14 hx rfl (hb hby d8_41) rfl ?_
   refine og_virtual (pc' := 45) (cells' := 0) (slots' := 0) (W := 0) X14 hx hZ (rm_pU1_0 l Z a0 hw a1 ba kb c0 hc0 cs hcs fm hfm h0 n0 O E_a1 F_value_a1 F_coder_a1 V_ba S_CS S_FM S__assertionsDisabled S_HI_BYTE_SHIFT S_LO_BYTE_SHIFT) hown (ow70 hw) (ow71 hw) (own_nf hZ (ow73 hw)) (ow73 hw) (ow72 hw) (ow7 hw) (ow74 hw) (by decide) (by rw [hml]; rfl) e14 opd_0 [(.int 0)] [] rfl rfl rfl rfl (by decide) (by decide) rfl rfl (by decide) (by decide) E_a1 (hb hby d8_42) rfl (fun v20 T20 h20 L20 X20 e20 z20 => ?_)
   obtain ⟨rp, rfl, Nq20, hq20, hrp⟩ := z20; replace e20 := e20.trans hq20; have N := Fr.app N Nq20
   subst rp
   refine og_istore (L' := #[.val (.ref a1), .val (.int (-1)), .val (.int 0), .val (.int c0), .val (.int c0)]) X20 hx rfl (hb hby d8_45) rfl ?_
   refine og_iload X20 hx rfl (hb hby d8_47) rfl ?_
   refine og_static (pc' := 52) (cells' := 0) (slots' := 0) (W := 0) X20 hx hZ (rm_ixc l Z a0 hw c0 h0 n0 O) hown (ow76 hw) (ow77 hw) (ow36 hw) (ow78 hw) (by decide) (by rw [hml]; rfl) e20 opd_19 [(.int c0)] [] rfl rfl rfl rfl (by decide) (by decide) rfl rfl (by decide) (by decide) (hb hby d8_49) rfl (fun v21 T21 h21 L21 X21 e21 z21 => ?_)
   obtain ⟨rb21, rfl, Nq21, hq21, hb21⟩ := z21; replace e21 := e21.trans hq21; have N := Fr.app N Nq21
   refine og_if_ne (pc1 := 58) (pc2 := 55) X21 hx (hb hby d8_52) (by decide) (by decide) rfl (fun hc52 => ?_) (fun hc52 => ?_)
   ·
    have hX := own_b1 hb21 hc52
    refine og_iloadN X21 hx rfl (hb hby d8_58) rfl ?_
    refine og_iload X21 hx rfl (hb hby d8_59) rfl ?_
    refine og_static (pc' := 64) (cells' := 0) (slots' := 0) (W := 1) X21 hx hZ (rm_cct l Z a0 hw c0 h0 n0 O) hown (ow81 hw) (ow82 hw) (ow83 hw) (ow84 hw) (by decide) (by rw [hml]; rfl) e21 opd_0 [(.int c0)] [(.int 0)] rfl rfl rfl rfl (by decide) (by decide) rfl rfl (by decide) (by decide) (hb hby d8_61) rfl (fun v22 T22 h22 L22 X22 e22 z22 => ?_)
    obtain ⟨rc, rfl, Nq22, hq22, hrc⟩ := z22; replace e22 := e22.trans hq22; have N := Fr.app N Nq22
    have hrc : rc = 1 := own_cc1 hrc hc0
    subst hrc
    refine og_iadd X22 hx (hb hby d8_64) rfl ?_
    show OG p e below _ (T22.setTop (mkF m 65 #[.val (.ref a1), .val (.int (-1)), .val (.int 0), .val (.int c0), .val (.int c0)] [(.int 1)]))
    refine og_istoreN (L' := #[.val (.ref a1), .val (.int (-1)), .val (.int 1), .val (.int c0), .val (.int c0)]) X22 hx rfl (hb hby d8_65) rfl ?_
    refine og_goto (pc' := 4) X22 hx (hb hby d8_66) (by decide) (by decide) ?_
    exact J1 T22 _ X22 e22 N _ _ (Or.inr ⟨_, rfl⟩) (Or.inr ⟨_, rfl⟩) ((own_fok1 (own_xk hc0 hX)).symm.trans hr)
   ·
    have hX := own_b0 hb21 hc52
    refine og_iload X21 hx rfl (hb hby d8_55) rfl ?_
    refine og_istoreN (L' := #[.val (.ref a1), .val (.int c0), .val (.int 0), .val (.int c0), .val (.int c0)]) X21 hx rfl (hb hby d8_57) rfl ?_
    refine og_iloadN X21 hx rfl (hb hby d8_58) rfl ?_
    refine og_iload X21 hx rfl (hb hby d8_59) rfl ?_
    refine og_static (pc' := 64) (cells' := 0) (slots' := 0) (W := 1) X21 hx hZ (rm_cct l Z a0 hw c0 h0 n0 O) hown (ow81 hw) (ow82 hw) (ow83 hw) (ow84 hw) (by decide) (by rw [hml]; rfl) e21 opd_0 [(.int c0)] [(.int 0)] rfl rfl rfl rfl (by decide) (by decide) rfl rfl (by decide) (by decide) (hb hby d8_61) rfl (fun v23 T23 h23 L23 X23 e23 z23 => ?_)
    obtain ⟨rc, rfl, Nq23, hq23, hrc⟩ := z23; replace e23 := e23.trans hq23; have N := Fr.app N Nq23
    have hrc : rc = 1 := own_cc1 hrc hc0
    subst hrc
    refine og_iadd X23 hx (hb hby d8_64) rfl ?_
    show OG p e below _ (T23.setTop (mkF m 65 #[.val (.ref a1), .val (.int c0), .val (.int 0), .val (.int c0), .val (.int c0)] [(.int 1)]))
    refine og_istoreN (L' := #[.val (.ref a1), .val (.int c0), .val (.int 1), .val (.int c0), .val (.int c0)]) X23 hx rfl (hb hby d8_65) rfl ?_
    refine og_goto (pc' := 4) X23 hx (hb hby d8_66) (by decide) (by decide) ?_
    refine og_iloadN X23 hx rfl (hb hby d8_4) rfl ?_
    refine og_aloadN X23 hx rfl rfl (hb hby d8_5) rfl ?_
    refine og_virtual (pc' := 9) (cells' := 0) (slots' := 0) (W := 1) X23 hx hZ (rm_lenU1 l Z a0 hw a1 ba kb c0 hc0 cs hcs h0 n0 O E_a1 F_value_a1 F_coder_a1 V_ba S_CS) hown (ow38 hw) (ow39 hw) (own_nf hZ (ow41 hw)) (ow41 hw) (ow40 hw) (ow7 hw) (ow42 hw) (by decide) (by rw [hml]; rfl) e23 opd_17 [] [(.int 1)] rfl rfl rfl rfl (by decide) (by decide) rfl rfl (by decide) (by decide) E_a1 (hb hby d8_6) rfl (fun v24 T24 h24 L24 X24 e24 z24 => ?_)
    obtain ⟨rfl, Nq24, hq24⟩ := z24; replace e24 := e24.trans hq24; have N := Fr.app N Nq24
    refine og_icmp_ge (pc1 := 69) (pc2 := 12) X24 hx (hb hby d8_9) (by decide) (by decide) rfl (fun _ => ?_) (fun q => absurd q (by decide))
    refine og_iloadN X24 hx rfl (hb hby d8_69) rfl ?_
    refine og_retI X24 hx hlk hret (hb hby d8_70) (by decide) (by decide) ?_
    rw [e24]; exact ⟨by rw [← hr, own_fbad1 (own_kx hc0 hX)], N, rfl⟩
  ·
   have q25 := own_i2 hc25 (show (32 : Int32).toInt = 32 by decide)
   have q31 := own_i1 hc31 (show (55296 : Int32).toInt = 55296 by decide)
   refine og_iinc (L' := #[.val (.ref a1), .val (.int (-1)), .val (.int 1), .val (.int c0), .unset]) (w := 1) X14 hx rfl rfl rfl (hb hby d8_34) rfl ?_
   refine og_goto (pc' := 66) X14 hx (hb hby d8_37) (by decide) (by decide) ?_
   refine og_goto (pc' := 4) X14 hx (hb hby d8_66) (by decide) (by decide) ?_
   exact J1 T14 _ X14 e14 N _ _ (Or.inr ⟨_, rfl⟩) (Or.inl rfl) ((own_fok1 (own_okb q25 q31)).symm.trans hr)
theorem rm_ul2 (l : Launch) (Z : State) (a0 : Array Value) (hw : HW a0 Z) (ba : Addr) (kb : ClassId) (vs : List Value) (h0 : Heap) (n0 : Nat) (O : Old Z n0 h0) (V_ba : Arv Z h0 ba kb .byte (4 : Int32) vs (.int 0)) :
  Con l Z (⟨"java/lang/StringUTF16", "length", "([B)I"⟩ : MethodName) jdk_52_method_6_code 1 (some .int) ({ frames := 0, cells := 0, slots := 0, locals := 0 } : Room) #[(.ref ba)] h0 (fun v h L => v = some (.int 2) ∧ Fr n0 L ∧ h = h0) := by
 refine own_startC opn_31 ?_
 intro p e s m below meth c T0 X0 hx hby hml hZ hown hnm hret hlk e0
 have N := Fr.nil n0; have K := Keep.refl h0 []
 refine OG.cast (oef10 m ba) ?_
 refine og_aloadN X0 hx rfl rfl (hb hby d31_0) rfl ?_
 refine og_arraylength X0 hx hZ e0 V_ba (hb hby d31_1) rfl ?_
 refine og_iconst (v := 1) X0 hx rfl (hb hby d31_2) rfl ?_
 refine og_ishr X0 hx (hb hby d31_3) rfl ?_
 show OG p e below _ (T0.setTop (mkF m 4 #[.val (.ref ba)] [(.int 2)]))
 refine og_retI X0 hx hlk hret (hb hby d31_4) (by decide) (by decide) ?_
 rw [e0]; exact ⟨rfl, N, rfl⟩
theorem rm_lenU2 (l : Launch) (Z : State) (a0 : Array Value) (hw : HW a0 Z) (a1 ba : Addr) (kb : ClassId) (c0 c1 : Int32) (hc0 : 0 ≤ c0.toInt ∧ c0.toInt ≤ 65535) (hc1 : 0 ≤ c1.toInt ∧ c1.toInt ≤ 65535) (cs : Int32) (hcs : ¬ cs = 0) (h0 : Heap) (n0 : Nat) (O : Old Z n0 h0) (E_a1 : Exa Z h0 a1 "java/lang/String") (F_value_a1 : Fld Z h0 a1 "java/lang/String" "value" "[B" (.ref ba)) (F_coder_a1 : Fld Z h0 a1 "java/lang/String" "coder" "B" (.int 1)) (V_ba : Arv Z h0 ba kb .byte (4 : Int32) [(.int c0.toInt8.toInt32), (.int (c0 >>> ((8 : Int32) &&& 31)).toInt8.toInt32), (.int c1.toInt8.toInt32), (.int (c1 >>> ((8 : Int32) &&& 31)).toInt8.toInt32)] (.int 0)) (S_CS : Sta Z Z.heap "java/lang/String" "COMPACT_STRINGS" "Z" (.int cs)) :
  Con l Z (⟨"java/lang/String", "length", "()I"⟩ : MethodName) jdk_42_method_54_code 1 (some .int) ({ frames := 1, cells := 0, slots := 0, locals := 13 } : Room) #[(.ref a1)] h0 (fun v h L => v = some (.int 2) ∧ Fr n0 L ∧ h = h0) := by
 refine own_startC opn_9 ?_
 intro p e s m below meth c T0 X0 hx hby hml hZ hown hnm hret hlk e0
 have N := Fr.nil n0; have K := Keep.refl h0 []
 refine OG.cast (oef10 m a1) ?_
 refine og_aloadN X0 hx rfl rfl (hb hby d9_0) rfl ?_
 refine og_getfield X0 hx hZ (host := "") hown (Or.inl (ow32 hw)) Via.refl e0 F_value_a1 (hb hby d9_1) rfl (fun T11 X11 e11 => ?_)
 refine og_arraylength X11 hx hZ e11 V_ba (hb hby d9_4) rfl ?_
 refine og_aloadN X11 hx rfl rfl (hb hby d9_5) rfl ?_
 refine og_virtual (pc' := 9) (cells' := 0) (slots' := 0) (W := 1) X11 hx hZ (rm_codU l Z a0 hw a1 cs hcs h0 n0 O F_coder_a1 S_CS) hown (ow43 hw) (ow44 hw) (own_nf hZ (ow46 hw)) (ow46 hw) (ow45 hw) (ow7 hw) (ow47 hw) (by decide) (by rw [hml]; rfl) e11 opd_11 [] [(.int 4)] rfl rfl rfl rfl (by decide) (by decide) rfl rfl (by decide) (by decide) E_a1 (hb hby d9_6) rfl (fun v12 T12 h12 L12 X12 e12 z12 => ?_)
 obtain ⟨rfl, Nq12, hq12⟩ := z12; replace e12 := e12.trans hq12; have N := Fr.app N Nq12
 refine og_ishr X12 hx (hb hby d9_9) rfl ?_
 show OG p e below _ (T12.setTop (mkF m 10 #[.val (.ref a1)] [(.int 2)]))
 refine og_retI X12 hx hlk hret (hb hby d9_10) (by decide) (by decide) ?_
 rw [e12]; exact ⟨rfl, N, rfl⟩
theorem rm_uk2_0 (l : Launch) (Z : State) (a0 : Array Value) (hw : HW a0 Z) (ba : Addr) (kb : ClassId) (vs : List Value) (fm : Value) (hfm : fm.isRef = true) (h0 : Heap) (n0 : Nat) (O : Old Z n0 h0) (V_ba : Arv Z h0 ba kb .byte (4 : Int32) vs (.int 0)) (S_FM : Sta Z Z.heap "jdk/internal/util/Preconditions" "SIOOBE_FORMATTER" "Ljava/util/function/BiFunction;" fm) :
  Con l Z (⟨"java/lang/StringUTF16", "checkIndex", "(I[B)V"⟩ : MethodName) jdk_52_method_91_code 2 none ({ frames := 2, cells := 0, slots := 0, locals := 27 } : Room) #[(.int 0), (.ref ba)] h0 (fun v h L => v = none ∧ Fr n0 L ∧ h = h0) := by
 refine own_startC opn_30 ?_
 intro p e s m below meth c T0 X0 hx hby hml hZ hown hnm hret hlk e0
 have N := Fr.nil n0; have K := Keep.refl h0 []
 refine OG.cast (oef11 m (0 : Int32) ba) ?_
 refine og_iloadN X0 hx rfl (hb hby d30_0) rfl ?_
 refine og_aloadN X0 hx rfl rfl (hb hby d30_1) rfl ?_
 refine og_static (pc' := 5) (cells' := 0) (slots' := 0) (W := 1) X0 hx hZ (rm_ul2 l Z a0 hw ba kb _ h0 n0 O V_ba) hown (ow133 hw) (ow134 hw) (ow21 hw) (ow135 hw) (by decide) (by rw [hml]; rfl) e0 opd_12 [(.ref ba)] [(.int 0)] rfl rfl rfl rfl (by decide) (by decide) rfl rfl (by decide) (by decide) (hb hby d30_2) rfl (fun v11 T11 h11 L11 X11 e11 z11 => ?_)
 obtain ⟨rfl, Nq11, hq11⟩ := z11; replace e11 := e11.trans hq11; have N := Fr.app N Nq11
 refine og_static (pc' := 8) (cells' := 0) (slots' := 0) (W := 0) X11 hx hZ (rm_ci l Z a0 hw (2 : Int32) (0 : Int32) ⟨by decide, by decide⟩ fm hfm h0 n0 O S_FM) hown (ow136 hw) (ow63 hw) (ow7 hw) (ow64 hw) (by decide) (by rw [hml]; rfl) e11 opd_9 [(.int 0), (.int 2)] [] rfl rfl rfl rfl (by decide) (by decide) rfl rfl (by decide) (by decide) (hb hby d30_5) rfl (fun v12 T12 h12 L12 X12 e12 z12 => ?_)
 obtain ⟨rfl, Nq12, hq12⟩ := z12; replace e12 := e12.trans hq12; have N := Fr.app N Nq12
 refine og_retV X12 hx hlk hret (hb hby d30_8) (by decide) (by decide) ?_
 rw [e12]; exact ⟨rfl, N, rfl⟩
theorem rm_uca2_0 (l : Launch) (Z : State) (a0 : Array Value) (hw : HW a0 Z) (ba : Addr) (kb : ClassId) (c0 c1 : Int32) (hc0 : 0 ≤ c0.toInt ∧ c0.toInt ≤ 65535) (hc1 : 0 ≤ c1.toInt ∧ c1.toInt ≤ 65535) (fm : Value) (hfm : fm.isRef = true) (h0 : Heap) (n0 : Nat) (O : Old Z n0 h0) (V_ba : Arv Z h0 ba kb .byte (4 : Int32) [(.int c0.toInt8.toInt32), (.int (c0 >>> ((8 : Int32) &&& 31)).toInt8.toInt32), (.int c1.toInt8.toInt32), (.int (c1 >>> ((8 : Int32) &&& 31)).toInt8.toInt32)] (.int 0)) (S_FM : Sta Z Z.heap "jdk/internal/util/Preconditions" "SIOOBE_FORMATTER" "Ljava/util/function/BiFunction;" fm) (S__assertionsDisabled : Sta Z Z.heap "java/lang/StringUTF16" "$assertionsDisabled" "Z" (.int 1)) (S_HI_BYTE_SHIFT : Sta Z Z.heap "java/lang/StringUTF16" "HI_BYTE_SHIFT" "I" (.int 0)) (S_LO_BYTE_SHIFT : Sta Z Z.heap "java/lang/StringUTF16" "LO_BYTE_SHIFT" "I" (.int 8)) :
  Con l Z (⟨"java/lang/StringUTF16", "charAt", "([BI)C"⟩ : MethodName) jdk_52_method_83_code 2 (some .char) ({ frames := 3, cells := 0, slots := 0, locals := 40 } : Room) #[(.ref ba), (.int 0)] h0 (fun v h L => v = some (.int c0) ∧ Fr n0 L ∧ h = h0) := by
 refine own_startC opn_29 ?_
 intro p e s m below meth c T0 X0 hx hby hml hZ hown hnm hret hlk e0
 have N := Fr.nil n0; have K := Keep.refl h0 []
 refine OG.cast (oef3 m ba (0 : Int32)) ?_
 refine og_iloadN X0 hx rfl (hb hby d29_0) rfl ?_
 refine og_aloadN X0 hx rfl rfl (hb hby d29_1) rfl ?_
 refine og_static (pc' := 5) (cells' := 0) (slots' := 0) (W := 0) X0 hx hZ (rm_uk2_0 l Z a0 hw ba kb _ fm hfm h0 n0 O V_ba S_FM) hown (ow130 hw) (ow131 hw) (ow21 hw) (ow132 hw) (by decide) (by rw [hml]; rfl) e0 opd_13 [(.int 0), (.ref ba)] [] rfl rfl rfl rfl (by decide) (by decide) rfl rfl (by decide) (by decide) (hb hby d29_2) rfl (fun v11 T11 h11 L11 X11 e11 z11 => ?_)
 obtain ⟨rfl, Nq11, hq11⟩ := z11; replace e11 := e11.trans hq11; have N := Fr.app N Nq11
 refine og_aloadN X11 hx rfl rfl (hb hby d29_5) rfl ?_
 refine og_iloadN X11 hx rfl (hb hby d29_6) rfl ?_
 refine og_static (pc' := 10) (cells' := 0) (slots' := 0) (W := 0) X11 hx hZ (rm_gch_2_0 l Z a0 hw ba kb c0 c1 hc0 hc1 h0 n0 O V_ba S__assertionsDisabled S_HI_BYTE_SHIFT S_LO_BYTE_SHIFT) hown (ow124 hw) (ow125 hw) (ow21 hw) (ow126 hw) (by decide) (by rw [hml]; rfl) e11 opd_5 [(.ref ba), (.int 0)] [] rfl rfl rfl rfl (by decide) (by decide) rfl rfl (by decide) (by decide) (hb hby d29_7) rfl (fun v12 T12 h12 L12 X12 e12 z12 => ?_)
 obtain ⟨rfl, Nq12, hq12⟩ := z12; replace e12 := e12.trans hq12; have N := Fr.app N Nq12
 refine og_retN X12 hx hlk hret (by simp) (hb hby d29_10) (by decide) (by decide) ?_
 rw [e12, own_nc2 hc0]; exact ⟨rfl, N, rfl⟩
theorem rm_cU2_0 (l : Launch) (Z : State) (a0 : Array Value) (hw : HW a0 Z) (a1 ba : Addr) (kb : ClassId) (c0 c1 : Int32) (hc0 : 0 ≤ c0.toInt ∧ c0.toInt ≤ 65535) (hc1 : 0 ≤ c1.toInt ∧ c1.toInt ≤ 65535) (cs : Int32) (hcs : ¬ cs = 0) (fm : Value) (hfm : fm.isRef = true) (h0 : Heap) (n0 : Nat) (O : Old Z n0 h0) (E_a1 : Exa Z h0 a1 "java/lang/String") (F_value_a1 : Fld Z h0 a1 "java/lang/String" "value" "[B" (.ref ba)) (F_coder_a1 : Fld Z h0 a1 "java/lang/String" "coder" "B" (.int 1)) (V_ba : Arv Z h0 ba kb .byte (4 : Int32) [(.int c0.toInt8.toInt32), (.int (c0 >>> ((8 : Int32) &&& 31)).toInt8.toInt32), (.int c1.toInt8.toInt32), (.int (c1 >>> ((8 : Int32) &&& 31)).toInt8.toInt32)] (.int 0)) (S_CS : Sta Z Z.heap "java/lang/String" "COMPACT_STRINGS" "Z" (.int cs)) (S_FM : Sta Z Z.heap "jdk/internal/util/Preconditions" "SIOOBE_FORMATTER" "Ljava/util/function/BiFunction;" fm) (S__assertionsDisabled : Sta Z Z.heap "java/lang/StringUTF16" "$assertionsDisabled" "Z" (.int 1)) (S_HI_BYTE_SHIFT : Sta Z Z.heap "java/lang/StringUTF16" "HI_BYTE_SHIFT" "I" (.int 0)) (S_LO_BYTE_SHIFT : Sta Z Z.heap "java/lang/StringUTF16" "LO_BYTE_SHIFT" "I" (.int 8)) :
  Con l Z (⟨"java/lang/String", "charAt", "(I)C"⟩ : MethodName) jdk_42_method_56_code 2 (some .char) ({ frames := 4, cells := 0, slots := 0, locals := 53 } : Room) #[(.ref a1), (.int 0)] h0 (fun v h L => v = some (.int c0) ∧ Fr n0 L ∧ h = h0) := by
 refine own_startC opn_11 ?_
 intro p e s m below meth c T0 X0 hx hby hml hZ hown hnm hret hlk e0
 have N := Fr.nil n0; have K := Keep.refl h0 []
 refine OG.cast (oef3 m a1 (0 : Int32)) ?_
 refine og_aloadN X0 hx rfl rfl (hb hby d11_0) rfl ?_
 refine og_virtual (pc' := 4) (cells' := 0) (slots' := 0) (W := 0) X0 hx hZ (rm_ilU l Z a0 hw a1 cs hcs h0 n0 O F_coder_a1 S_CS) hown (ow53 hw) (ow54 hw) (own_nf hZ (ow56 hw)) (ow56 hw) (ow55 hw) (ow7 hw) (ow57 hw) (by decide) (by rw [hml]; rfl) e0 opd_10 [] [] rfl rfl rfl rfl (by decide) (by decide) rfl rfl (by decide) (by decide) E_a1 (hb hby d11_1) rfl (fun v11 T11 h11 L11 X11 e11 z11 => ?_)
 obtain ⟨rfl, Nq11, hq11⟩ := z11; replace e11 := e11.trans hq11; have N := Fr.app N Nq11
 refine og_if_eq (pc1 := 16) (pc2 := 7) X11 hx (hb hby d11_4) (by decide) (by decide) rfl (fun _ => ?_) (fun q => absurd q (by decide))
 refine og_aloadN X11 hx rfl rfl (hb hby d11_16) rfl ?_
 refine og_getfield X11 hx hZ (host := "") hown (Or.inl (ow32 hw)) Via.refl e11 F_value_a1 (hb hby d11_17) rfl (fun T12 X12 e12 => ?_)
 refine og_iloadN X12 hx rfl (hb hby d11_20) rfl ?_
 refine og_static (pc' := 24) (cells' := 0) (slots' := 0) (W := 0) X12 hx hZ (rm_uca2_0 l Z a0 hw ba kb c0 c1 hc0 hc1 fm hfm h0 n0 O V_ba S_FM S__assertionsDisabled S_HI_BYTE_SHIFT S_LO_BYTE_SHIFT) hown (ow127 hw) (ow128 hw) (ow21 hw) (ow129 hw) (by decide) (by rw [hml]; rfl) e12 opd_5 [(.ref ba), (.int 0)] [] rfl rfl rfl rfl (by decide) (by decide) rfl rfl (by decide) (by decide) (hb hby d11_21) rfl (fun v13 T13 h13 L13 X13 e13 z13 => ?_)
 obtain ⟨rfl, Nq13, hq13⟩ := z13; replace e13 := e13.trans hq13; have N := Fr.app N Nq13
 refine og_retN X13 hx hlk hret (by simp) (hb hby d11_24) (by decide) (by decide) ?_
 rw [e13, own_nc2 hc0]; exact ⟨rfl, N, rfl⟩
theorem rm_u42_0 (l : Launch) (Z : State) (a0 : Array Value) (hw : HW a0 Z) (ba : Addr) (kb : ClassId) (c0 c1 : Int32) (hc0 : 0 ≤ c0.toInt ∧ c0.toInt ≤ 65535) (hc1 : 0 ≤ c1.toInt ∧ c1.toInt ≤ 65535) (h0 : Heap) (n0 : Nat) (O : Old Z n0 h0) (V_ba : Arv Z h0 ba kb .byte (4 : Int32) [(.int c0.toInt8.toInt32), (.int (c0 >>> ((8 : Int32) &&& 31)).toInt8.toInt32), (.int c1.toInt8.toInt32), (.int (c1 >>> ((8 : Int32) &&& 31)).toInt8.toInt32)] (.int 0)) (S__assertionsDisabled : Sta Z Z.heap "java/lang/StringUTF16" "$assertionsDisabled" "Z" (.int 1)) (S_HI_BYTE_SHIFT : Sta Z Z.heap "java/lang/StringUTF16" "HI_BYTE_SHIFT" "I" (.int 0)) (S_LO_BYTE_SHIFT : Sta Z Z.heap "java/lang/StringUTF16" "LO_BYTE_SHIFT" "I" (.int 8)) :
  Con l Z (⟨"java/lang/StringUTF16", "codePointAt", "([BIIZ)I"⟩ : MethodName) jdk_52_method_7_code 6 (some .int) ({ frames := 1, cells := 0, slots := 0, locals := 13 } : Room) #[(.ref ba), (.int 0), (.int 2), (.int 0)] h0 (fun v h L => ∃ r : Int32, v = some (.int r) ∧ Fr n0 L ∧ h = h0 ∧ ((r = c0 ∧ ¬ (own_H c0 ∧ own_L c1)) ∨ (r = own_tp c0 c1 ∧ own_H c0 ∧ own_L c1))) := by
 refine own_startC opn_33 ?_
 intro p e s m below meth c T0 X0 hx hby hml hZ hown hnm hret hlk e0
 have N := Fr.nil n0; have K := Keep.refl h0 []
 refine OG.cast (oef12 m ba (0 : Int32) (2 : Int32) (0 : Int32)) ?_
 refine og_getstatic X0 hx hZ (host := "") hown (Or.inl (ow121 hw)) Via.refl e0 (S__assertionsDisabled.ext O.2) (hb hby d33_0) rfl (fun T11 X11 e11 => ?_)
 refine og_if_ne (pc1 := 19) (pc2 := 6) X11 hx (hb hby d33_3) (by decide) (by decide) rfl (fun _ => ?_) (fun q => absurd q (by decide))
 refine og_iloadN X11 hx rfl (hb hby d33_19) rfl ?_
 refine og_if_eq (pc1 := 28) (pc2 := 23) X11 hx (hb hby d33_20) (by decide) (by decide) rfl (fun _ => ?_) (fun q => absurd q (by decide))
 refine og_aloadN X11 hx rfl rfl (hb hby d33_28) rfl ?_
 refine og_iloadN X11 hx rfl (hb hby d33_29) rfl ?_
 refine og_static (pc' := 33) (cells' := 0) (slots' := 0) (W := 0) X11 hx hZ (rm_gch_2_0 l Z a0 hw ba kb c0 c1 hc0 hc1 h0 n0 O V_ba S__assertionsDisabled S_HI_BYTE_SHIFT S_LO_BYTE_SHIFT) hown (ow124 hw) (ow125 hw) (ow21 hw) (ow126 hw) (by decide) (by rw [hml]; rfl) e11 opd_5 [(.ref ba), (.int 0)] [] rfl rfl rfl rfl (by decide) (by decide) rfl rfl (by decide) (by decide) (hb hby d33_30) rfl (fun v12 T12 h12 L12 X12 e12 z12 => ?_)
 obtain ⟨rfl, Nq12, hq12⟩ := z12; replace e12 := e12.trans hq12; have N := Fr.app N Nq12
 refine og_istore (L' := #[.val (.ref ba), .val (.int 0), .val (.int 2), .val (.int 0), .val (.int c0), .unset]) X12 hx rfl (hb hby d33_33) rfl ?_
 refine og_iload X12 hx rfl (hb hby d33_35) rfl ?_
 refine og_static (pc' := 40) (cells' := 0) (slots' := 0) (W := 0) X12 hx hZ (rm_ihs l Z a0 hw c0 h0 n0 O) hown (ow143 hw) (ow144 hw) (ow83 hw) (ow145 hw) (by decide) (by rw [hml]; rfl) e12 opd_14 [(.int c0)] [] rfl rfl rfl rfl (by decide) (by decide) rfl rfl (by decide) (by decide) (hb hby d33_37) rfl (fun v13 T13 h13 L13 X13 e13 z13 => ?_)
 obtain ⟨rb13, rfl, Nq13, hq13, hb13⟩ := z13; replace e13 := e13.trans hq13; have N := Fr.app N Nq13
 refine og_if_eq (pc1 := 83) (pc2 := 43) X13 hx (hb hby d33_40) (by decide) (by decide) rfl (fun hc40 => ?_) (fun hc40 => ?_)
 ·
  have hH := own_b0 hb13 hc40
  refine og_iload X13 hx rfl (hb hby d33_83) rfl ?_
  refine og_retI X13 hx hlk hret (hb hby d33_85) (by decide) (by decide) ?_
  rw [e13]; exact ⟨_, rfl, N, rfl, Or.inl ⟨rfl, fun q => hH q.1⟩⟩
 ·
  have hH := own_b1 hb13 hc40
  refine og_iinc (L' := #[.val (.ref ba), .val (.int 1), .val (.int 2), .val (.int 0), .val (.int c0), .unset]) (w := 1) X13 hx rfl rfl rfl (hb hby d33_43) rfl ?_
  refine og_iloadN X13 hx rfl (hb hby d33_46) rfl ?_
  refine og_iloadN X13 hx rfl (hb hby d33_47) rfl ?_
  refine og_icmp_ge (pc1 := 83) (pc2 := 51) X13 hx (hb hby d33_48) (by decide) (by decide) rfl (fun q => absurd q (by decide)) (fun _ => ?_)
  refine og_iloadN X13 hx rfl (hb hby d33_51) rfl ?_
  refine og_if_eq (pc1 := 60) (pc2 := 55) X13 hx (hb hby d33_52) (by decide) (by decide) rfl (fun _ => ?_) (fun q => absurd q (by decide))
  refine og_aloadN X13 hx rfl rfl (hb hby d33_60) rfl ?_
  refine og_iloadN X13 hx rfl (hb hby d33_61) rfl ?_
  refine og_static (pc' := 65) (cells' := 0) (slots' := 0) (W := 0) X13 hx hZ (rm_gch_2_1 l Z a0 hw ba kb c0 c1 hc0 hc1 h0 n0 O V_ba S__assertionsDisabled S_HI_BYTE_SHIFT S_LO_BYTE_SHIFT) hown (ow124 hw) (ow125 hw) (ow21 hw) (ow126 hw) (by decide) (by rw [hml]; rfl) e13 opd_5 [(.ref ba), (.int 1)] [] rfl rfl rfl rfl (by decide) (by decide) rfl rfl (by decide) (by decide) (hb hby d33_62) rfl (fun v14 T14 h14 L14 X14 e14 z14 => ?_)
  obtain ⟨rfl, Nq14, hq14⟩ := z14; replace e14 := e14.trans hq14; have N := Fr.app N Nq14
  refine og_istore (L' := #[.val (.ref ba), .val (.int 1), .val (.int 2), .val (.int 0), .val (.int c0), .val (.int c1)]) X14 hx rfl (hb hby d33_65) rfl ?_
  refine og_iload X14 hx rfl (hb hby d33_67) rfl ?_
  refine og_static (pc' := 72) (cells' := 0) (slots' := 0) (W := 0) X14 hx hZ (rm_ils l Z a0 hw c1 h0 n0 O) hown (ow152 hw) (ow153 hw) (ow83 hw) (ow154 hw) (by decide) (by rw [hml]; rfl) e14 opd_14 [(.int c1)] [] rfl rfl rfl rfl (by decide) (by decide) rfl rfl (by decide) (by decide) (hb hby d33_69) rfl (fun v15 T15 h15 L15 X15 e15 z15 => ?_)
  obtain ⟨rb15, rfl, Nq15, hq15, hb15⟩ := z15; replace e15 := e15.trans hq15; have N := Fr.app N Nq15
  refine og_if_eq (pc1 := 83) (pc2 := 75) X15 hx (hb hby d33_72) (by decide) (by decide) rfl (fun hc72 => ?_) (fun hc72 => ?_)
  ·
   have hL := own_b0 hb15 hc72
   refine og_iload X15 hx rfl (hb hby d33_83) rfl ?_
   refine og_retI X15 hx hlk hret (hb hby d33_85) (by decide) (by decide) ?_
   rw [e15]; exact ⟨_, rfl, N, rfl, Or.inl ⟨rfl, fun q => hL q.2⟩⟩
  ·
   have hL := own_b1 hb15 hc72
   refine og_iload X15 hx rfl (hb hby d33_75) rfl ?_
   refine og_iload X15 hx rfl (hb hby d33_77) rfl ?_
   refine og_static (pc' := 82) (cells' := 0) (slots' := 0) (W := 0) X15 hx hZ (rm_tcp l Z a0 hw c0 c1 h0 n0 O) hown (ow157 hw) (ow158 hw) (ow83 hw) (ow159 hw) (by decide) (by rw [hml]; rfl) e15 opd_20 [(.int c0), (.int c1)] [] rfl rfl rfl rfl (by decide) (by decide) rfl rfl (by decide) (by decide) (hb hby d33_79) rfl (fun v16 T16 h16 L16 X16 e16 z16 => ?_)
   obtain ⟨rfl, Nq16, hq16⟩ := z16; replace e16 := e16.trans hq16; have N := Fr.app N Nq16
   refine og_retI X16 hx hlk hret (hb hby d33_82) (by decide) (by decide) ?_
   rw [e16]; exact ⟨_, rfl, N, rfl, Or.inr ⟨rfl, hH, hL⟩⟩
theorem rm_u32_0 (l : Launch) (Z : State) (a0 : Array Value) (hw : HW a0 Z) (ba : Addr) (kb : ClassId) (c0 c1 : Int32) (hc0 : 0 ≤ c0.toInt ∧ c0.toInt ≤ 65535) (hc1 : 0 ≤ c1.toInt ∧ c1.toInt ≤ 65535) (h0 : Heap) (n0 : Nat) (O : Old Z n0 h0) (V_ba : Arv Z h0 ba kb .byte (4 : Int32) [(.int c0.toInt8.toInt32), (.int (c0 >>> ((8 : Int32) &&& 31)).toInt8.toInt32), (.int c1.toInt8.toInt32), (.int (c1 >>> ((8 : Int32) &&& 31)).toInt8.toInt32)] (.int 0)) (S__assertionsDisabled : Sta Z Z.heap "java/lang/StringUTF16" "$assertionsDisabled" "Z" (.int 1)) (S_HI_BYTE_SHIFT : Sta Z Z.heap "java/lang/StringUTF16" "HI_BYTE_SHIFT" "I" (.int 0)) (S_LO_BYTE_SHIFT : Sta Z Z.heap "java/lang/StringUTF16" "LO_BYTE_SHIFT" "I" (.int 8)) :
  Con l Z (⟨"java/lang/StringUTF16", "codePointAt", "([BII)I"⟩ : MethodName) jdk_52_method_8_code 3 (some .int) ({ frames := 2, cells := 0, slots := 0, locals := 30 } : Room) #[(.ref ba), (.int 0), (.int 2)] h0 (fun v h L => ∃ r : Int32, v = some (.int r) ∧ Fr n0 L ∧ h = h0 ∧ ((r = c0 ∧ ¬ (own_H c0 ∧ own_L c1)) ∨ (r = own_tp c0 c1 ∧ own_H c0 ∧ own_L c1))) := by
 refine own_startC opn_32 ?_
 intro p e s m below meth c T0 X0 hx hby hml hZ hown hnm hret hlk e0
 have N := Fr.nil n0; have K := Keep.refl h0 []
 refine OG.cast (oef0 m ba (0 : Int32) (2 : Int32)) ?_
 refine og_aloadN X0 hx rfl rfl (hb hby d32_0) rfl ?_
 refine og_iloadN X0 hx rfl (hb hby d32_1) rfl ?_
 refine og_iloadN X0 hx rfl (hb hby d32_2) rfl ?_
 refine og_iconst (v := 0) X0 hx rfl (hb hby d32_3) rfl ?_
 refine og_static (pc' := 7) (cells' := 0) (slots' := 0) (W := 0) X0 hx hZ (rm_u42_0 l Z a0 hw ba kb c0 c1 hc0 hc1 h0 n0 O V_ba S__assertionsDisabled S_HI_BYTE_SHIFT S_LO_BYTE_SHIFT) hown (ow140 hw) (ow141 hw) (ow21 hw) (ow142 hw) (by decide) (by rw [hml]; rfl) e0 opd_15 [(.ref ba), (.int 0), (.int 2), (.int 0)] [] rfl rfl rfl rfl (by decide) (by decide) rfl rfl (by decide) (by decide) (hb hby d32_4) rfl (fun v11 T11 h11 L11 X11 e11 z11 => ?_)
 obtain ⟨rp, rfl, Nq11, hq11, hrp⟩ := z11; replace e11 := e11.trans hq11; have N := Fr.app N Nq11
 refine og_retI X11 hx hlk hret (hb hby d32_7) (by decide) (by decide) ?_
 rw [e11]; exact ⟨_, rfl, N, rfl, hrp⟩
theorem rm_pU2_0 (l : Launch) (Z : State) (a0 : Array Value) (hw : HW a0 Z) (a1 ba : Addr) (kb : ClassId) (c0 c1 : Int32) (hc0 : 0 ≤ c0.toInt ∧ c0.toInt ≤ 65535) (hc1 : 0 ≤ c1.toInt ∧ c1.toInt ≤ 65535) (cs : Int32) (hcs : ¬ cs = 0) (fm : Value) (hfm : fm.isRef = true) (h0 : Heap) (n0 : Nat) (O : Old Z n0 h0) (E_a1 : Exa Z h0 a1 "java/lang/String") (F_value_a1 : Fld Z h0 a1 "java/lang/String" "value" "[B" (.ref ba)) (F_coder_a1 : Fld Z h0 a1 "java/lang/String" "coder" "B" (.int 1)) (V_ba : Arv Z h0 ba kb .byte (4 : Int32) [(.int c0.toInt8.toInt32), (.int (c0 >>> ((8 : Int32) &&& 31)).toInt8.toInt32), (.int c1.toInt8.toInt32), (.int (c1 >>> ((8 : Int32) &&& 31)).toInt8.toInt32)] (.int 0)) (S_CS : Sta Z Z.heap "java/lang/String" "COMPACT_STRINGS" "Z" (.int cs)) (S_FM : Sta Z Z.heap "jdk/internal/util/Preconditions" "SIOOBE_FORMATTER" "Ljava/util/function/BiFunction;" fm) (S__assertionsDisabled : Sta Z Z.heap "java/lang/StringUTF16" "$assertionsDisabled" "Z" (.int 1)) (S_HI_BYTE_SHIFT : Sta Z Z.heap "java/lang/StringUTF16" "HI_BYTE_SHIFT" "I" (.int 0)) (S_LO_BYTE_SHIFT : Sta Z Z.heap "java/lang/StringUTF16" "LO_BYTE_SHIFT" "I" (.int 8)) :
  Con l Z (⟨"java/lang/String", "codePointAt", "(I)I"⟩ : MethodName) jdk_42_method_57_code 3 (some .int) ({ frames := 3, cells := 0, slots := 0, locals := 44 } : Room) #[(.ref a1), (.int 0)] h0 (fun v h L => ∃ r : Int32, v = some (.int r) ∧ Fr n0 L ∧ h = h0 ∧ ((r = c0 ∧ ¬ (own_H c0 ∧ own_L c1)) ∨ (r = own_tp c0 c1 ∧ own_H c0 ∧ own_L c1))) := by
 refine own_startC opn_16 ?_
 intro p e s m below meth c T0 X0 hx hby hml hZ hown hnm hret hlk e0
 have N := Fr.nil n0; have K := Keep.refl h0 []
 refine OG.cast (oef13 m a1 (0 : Int32)) ?_
 refine og_aloadN X0 hx rfl rfl (hb hby d16_0) rfl ?_
 refine og_virtual (pc' := 4) (cells' := 0) (slots' := 0) (W := 0) X0 hx hZ (rm_ilU l Z a0 hw a1 cs hcs h0 n0 O F_coder_a1 S_CS) hown (ow53 hw) (ow54 hw) (own_nf hZ (ow56 hw)) (ow56 hw) (ow55 hw) (ow7 hw) (ow57 hw) (by decide) (by rw [hml]; rfl) e0 opd_10 [] [] rfl rfl rfl rfl (by decide) (by decide) rfl rfl (by decide) (by decide) E_a1 (hb hby d16_1) rfl (fun v11 T11 h11 L11 X11 e11 z11 => ?_)
 obtain ⟨rfl, Nq11, hq11⟩ := z11; replace e11 := e11.trans hq11; have N := Fr.app N Nq11
 refine og_if_eq (pc1 := 27) (pc2 := 7) X11 hx (hb hby d16_4) (by decide) (by decide) rfl (fun _ => ?_) (fun q => absurd q (by decide))
 refine og_aloadN X11 hx rfl rfl (hb hby d16_27) rfl ?_
 refine og_getfield X11 hx hZ (host := "") hown (Or.inl (ow32 hw)) Via.refl e11 F_value_a1 (hb hby d16_28) rfl (fun T12 X12 e12 => ?_)
 refine og_arraylength X12 hx hZ e12 V_ba (hb hby d16_31) rfl ?_
 refine og_iconst (v := 1) X12 hx rfl (hb hby d16_32) rfl ?_
 refine og_ishr X12 hx (hb hby d16_33) rfl ?_
 show OG p e below _ (T12.setTop (mkF m 34 #[.val (.ref a1), .val (.int 0), .unset] [(.int 2)]))
 refine og_istoreN (L' := #[.val (.ref a1), .val (.int 0), .val (.int 2)]) X12 hx rfl (hb hby d16_34) rfl ?_
 refine og_iloadN X12 hx rfl (hb hby d16_35) rfl ?_
 refine og_iloadN X12 hx rfl (hb hby d16_36) rfl ?_
 refine og_static (pc' := 40) (cells' := 0) (slots' := 0) (W := 0) X12 hx hZ (rm_ci l Z a0 hw (2 : Int32) (0 : Int32) ⟨by decide, by decide⟩ fm hfm h0 n0 O S_FM) hown (ow75 hw) (ow63 hw) (ow7 hw) (ow64 hw) (by decide) (by rw [hml]; rfl) e12 opd_9 [(.int 0), (.int 2)] [] rfl rfl rfl rfl (by decide) (by decide) rfl rfl (by decide) (by decide) (hb hby d16_37) rfl (fun v13 T13 h13 L13 X13 e13 z13 => ?_)
 obtain ⟨rfl, Nq13, hq13⟩ := z13; replace e13 := e13.trans hq13; have N := Fr.app N Nq13
 refine og_aloadN X13 hx rfl rfl (hb hby d16_40) rfl ?_
 refine og_getfield X13 hx hZ (host := "") hown (Or.inl (ow32 hw)) Via.refl e13 F_value_a1 (hb hby d16_41) rfl (fun T14 X14 e14 => ?_)
 refine og_iloadN X14 hx rfl (hb hby d16_44) rfl ?_
 refine og_iloadN X14 hx rfl (hb hby d16_45) rfl ?_
 refine og_static (pc' := 49) (cells' := 0) (slots' := 0) (W := 0) X14 hx hZ (rm_u32_0 l Z a0 hw ba kb c0 c1 hc0 hc1 h0 n0 O V_ba S__assertionsDisabled S_HI_BYTE_SHIFT S_LO_BYTE_SHIFT) hown (ow137 hw) (ow138 hw) (ow21 hw) (ow139 hw) (by decide) (by rw [hml]; rfl) e14 opd_16 [(.ref ba), (.int 0), (.int 2)] [] rfl rfl rfl rfl (by decide) (by decide) rfl rfl (by decide) (by decide) (hb hby d16_46) rfl (fun v15 T15 h15 L15 X15 e15 z15 => ?_)
 obtain ⟨rp, rfl, Nq15, hq15, hrp⟩ := z15; replace e15 := e15.trans hq15; have N := Fr.app N Nq15
 refine og_retI X15 hx hlk hret (hb hby d16_49) (by decide) (by decide) ?_
 rw [e15]; exact ⟨_, rfl, N, rfl, hrp⟩
theorem rm_pL2_0 (l : Launch) (Z : State) (a0 : Array Value) (hw : HW a0 Z) (a1 ba : Addr) (kb : ClassId) (c0 c1 : Int32) (hc0 : 0 ≤ c0.toInt ∧ c0.toInt ≤ 65535) (hc1 : 0 ≤ c1.toInt ∧ c1.toInt ≤ 65535) (cs : Int32) (hcs : ¬ cs = 0) (fm : Value) (hfm : fm.isRef = true) (hsm : ¬ 255 < c0 ∧ ¬ 255 < c1) (h0 : Heap) (n0 : Nat) (O : Old Z n0 h0) (E_a1 : Exa Z h0 a1 "java/lang/String") (F_value_a1 : Fld Z h0 a1 "java/lang/String" "value" "[B" (.ref ba)) (F_coder_a1 : Fld Z h0 a1 "java/lang/String" "coder" "B" (.int 0)) (V_ba : Arv Z h0 ba kb .byte (2 : Int32) [(.int c0.toInt8.toInt32), (.int c1.toInt8.toInt32)] (.int 0)) (S_CS : Sta Z Z.heap "java/lang/String" "COMPACT_STRINGS" "Z" (.int cs)) (S_FM : Sta Z Z.heap "jdk/internal/util/Preconditions" "SIOOBE_FORMATTER" "Ljava/util/function/BiFunction;" fm) :
  Con l Z (⟨"java/lang/String", "codePointAt", "(I)I"⟩ : MethodName) jdk_42_method_57_code 3 (some .int) ({ frames := 2, cells := 0, slots := 0, locals := 27 } : Room) #[(.ref a1), (.int 0)] h0 (fun v h L => v = some (.int c0) ∧ Fr n0 L ∧ h = h0) := by
 refine own_startC opn_16 ?_
 intro p e s m below meth c T0 X0 hx hby hml hZ hown hnm hret hlk e0
 have N := Fr.nil n0; have K := Keep.refl h0 []
 refine OG.cast (oef13 m a1 (0 : Int32)) ?_
 refine og_aloadN X0 hx rfl rfl (hb hby d16_0) rfl ?_
 refine og_virtual (pc' := 4) (cells' := 0) (slots' := 0) (W := 0) X0 hx hZ (rm_il l Z a0 hw a1 cs hcs h0 n0 O F_coder_a1 S_CS) hown (ow53 hw) (ow54 hw) (own_nf hZ (ow56 hw)) (ow56 hw) (ow55 hw) (ow7 hw) (ow57 hw) (by decide) (by rw [hml]; rfl) e0 opd_10 [] [] rfl rfl rfl rfl (by decide) (by decide) rfl rfl (by decide) (by decide) E_a1 (hb hby d16_1) rfl (fun v11 T11 h11 L11 X11 e11 z11 => ?_)
 obtain ⟨rfl, Nq11, hq11⟩ := z11; replace e11 := e11.trans hq11; have N := Fr.app N Nq11
 refine og_if_eq (pc1 := 27) (pc2 := 7) X11 hx (hb hby d16_4) (by decide) (by decide) rfl (fun q => absurd q (by decide)) (fun _ => ?_)
 refine og_iloadN X11 hx rfl (hb hby d16_7) rfl ?_
 refine og_aloadN X11 hx rfl rfl (hb hby d16_8) rfl ?_
 refine og_getfield X11 hx hZ (host := "") hown (Or.inl (ow32 hw)) Via.refl e11 F_value_a1 (hb hby d16_9) rfl (fun T12 X12 e12 => ?_)
 refine og_arraylength X12 hx hZ e12 V_ba (hb hby d16_12) rfl ?_
 refine og_static (pc' := 16) (cells' := 0) (slots' := 0) (W := 0) X12 hx hZ (rm_ci l Z a0 hw (2 : Int32) (0 : Int32) ⟨by decide, by decide⟩ fm hfm h0 n0 O S_FM) hown (ow75 hw) (ow63 hw) (ow7 hw) (ow64 hw) (by decide) (by rw [hml]; rfl) e12 opd_9 [(.int 0), (.int 2)] [] rfl rfl rfl rfl (by decide) (by decide) rfl rfl (by decide) (by decide) (hb hby d16_13) rfl (fun v13 T13 h13 L13 X13 e13 z13 => ?_)
 obtain ⟨rfl, Nq13, hq13⟩ := z13; replace e13 := e13.trans hq13; have N := Fr.app N Nq13
 refine og_aloadN X13 hx rfl rfl (hb hby d16_16) rfl ?_
 refine og_getfield X13 hx hZ (host := "") hown (Or.inl (ow32 hw)) Via.refl e13 F_value_a1 (hb hby d16_17) rfl (fun T14 X14 e14 => ?_)
 refine og_iloadN X14 hx rfl (hb hby d16_20) rfl ?_
 refine og_baload (v := (.int c0.toInt8.toInt32)) X14 hx hZ e14 V_ba ⟨by decide, by decide⟩ rfl (hb hby d16_21) rfl ?_
 refine og_sipush (v := 255) X14 hx rfl (hb hby d16_22) rfl ?_
 refine og_iand X14 hx (hb hby d16_25) rfl ?_
 refine og_retI X14 hx hlk hret (hb hby d16_26) (by decide) (by decide) ?_
 rw [e14, own_chL hc0 hsm.1]; exact ⟨rfl, N, rfl⟩
theorem rm_uk2_1 (l : Launch) (Z : State) (a0 : Array Value) (hw : HW a0 Z) (ba : Addr) (kb : ClassId) (vs : List Value) (fm : Value) (hfm : fm.isRef = true) (h0 : Heap) (n0 : Nat) (O : Old Z n0 h0) (V_ba : Arv Z h0 ba kb .byte (4 : Int32) vs (.int 0)) (S_FM : Sta Z Z.heap "jdk/internal/util/Preconditions" "SIOOBE_FORMATTER" "Ljava/util/function/BiFunction;" fm) :
  Con l Z (⟨"java/lang/StringUTF16", "checkIndex", "(I[B)V"⟩ : MethodName) jdk_52_method_91_code 2 none ({ frames := 2, cells := 0, slots := 0, locals := 27 } : Room) #[(.int 1), (.ref ba)] h0 (fun v h L => v = none ∧ Fr n0 L ∧ h = h0) := by
 refine own_startC opn_30 ?_
 intro p e s m below meth c T0 X0 hx hby hml hZ hown hnm hret hlk e0
 have N := Fr.nil n0; have K := Keep.refl h0 []
 refine OG.cast (oef11 m (1 : Int32) ba) ?_
 refine og_iloadN X0 hx rfl (hb hby d30_0) rfl ?_
 refine og_aloadN X0 hx rfl rfl (hb hby d30_1) rfl ?_
 refine og_static (pc' := 5) (cells' := 0) (slots' := 0) (W := 1) X0 hx hZ (rm_ul2 l Z a0 hw ba kb _ h0 n0 O V_ba) hown (ow133 hw) (ow134 hw) (ow21 hw) (ow135 hw) (by decide) (by rw [hml]; rfl) e0 opd_12 [(.ref ba)] [(.int 1)] rfl rfl rfl rfl (by decide) (by decide) rfl rfl (by decide) (by decide) (hb hby d30_2) rfl (fun v11 T11 h11 L11 X11 e11 z11 => ?_)
 obtain ⟨rfl, Nq11, hq11⟩ := z11; replace e11 := e11.trans hq11; have N := Fr.app N Nq11
 refine og_static (pc' := 8) (cells' := 0) (slots' := 0) (W := 0) X11 hx hZ (rm_ci l Z a0 hw (2 : Int32) (1 : Int32) ⟨by decide, by decide⟩ fm hfm h0 n0 O S_FM) hown (ow136 hw) (ow63 hw) (ow7 hw) (ow64 hw) (by decide) (by rw [hml]; rfl) e11 opd_9 [(.int 1), (.int 2)] [] rfl rfl rfl rfl (by decide) (by decide) rfl rfl (by decide) (by decide) (hb hby d30_5) rfl (fun v12 T12 h12 L12 X12 e12 z12 => ?_)
 obtain ⟨rfl, Nq12, hq12⟩ := z12; replace e12 := e12.trans hq12; have N := Fr.app N Nq12
 refine og_retV X12 hx hlk hret (hb hby d30_8) (by decide) (by decide) ?_
 rw [e12]; exact ⟨rfl, N, rfl⟩
theorem rm_uca2_1 (l : Launch) (Z : State) (a0 : Array Value) (hw : HW a0 Z) (ba : Addr) (kb : ClassId) (c0 c1 : Int32) (hc0 : 0 ≤ c0.toInt ∧ c0.toInt ≤ 65535) (hc1 : 0 ≤ c1.toInt ∧ c1.toInt ≤ 65535) (fm : Value) (hfm : fm.isRef = true) (h0 : Heap) (n0 : Nat) (O : Old Z n0 h0) (V_ba : Arv Z h0 ba kb .byte (4 : Int32) [(.int c0.toInt8.toInt32), (.int (c0 >>> ((8 : Int32) &&& 31)).toInt8.toInt32), (.int c1.toInt8.toInt32), (.int (c1 >>> ((8 : Int32) &&& 31)).toInt8.toInt32)] (.int 0)) (S_FM : Sta Z Z.heap "jdk/internal/util/Preconditions" "SIOOBE_FORMATTER" "Ljava/util/function/BiFunction;" fm) (S__assertionsDisabled : Sta Z Z.heap "java/lang/StringUTF16" "$assertionsDisabled" "Z" (.int 1)) (S_HI_BYTE_SHIFT : Sta Z Z.heap "java/lang/StringUTF16" "HI_BYTE_SHIFT" "I" (.int 0)) (S_LO_BYTE_SHIFT : Sta Z Z.heap "java/lang/StringUTF16" "LO_BYTE_SHIFT" "I" (.int 8)) :
  Con l Z (⟨"java/lang/StringUTF16", "charAt", "([BI)C"⟩ : MethodName) jdk_52_method_83_code 2 (some .char) ({ frames := 3, cells := 0, slots := 0, locals := 40 } : Room) #[(.ref ba), (.int 1)] h0 (fun v h L => v = some (.int c1) ∧ Fr n0 L ∧ h = h0) := by
 refine own_startC opn_29 ?_
 intro p e s m below meth c T0 X0 hx hby hml hZ hown hnm hret hlk e0
 have N := Fr.nil n0; have K := Keep.refl h0 []
 refine OG.cast (oef3 m ba (1 : Int32)) ?_
 refine og_iloadN X0 hx rfl (hb hby d29_0) rfl ?_
 refine og_aloadN X0 hx rfl rfl (hb hby d29_1) rfl ?_
 refine og_static (pc' := 5) (cells' := 0) (slots' := 0) (W := 0) X0 hx hZ (rm_uk2_1 l Z a0 hw ba kb _ fm hfm h0 n0 O V_ba S_FM) hown (ow130 hw) (ow131 hw) (ow21 hw) (ow132 hw) (by decide) (by rw [hml]; rfl) e0 opd_13 [(.int 1), (.ref ba)] [] rfl rfl rfl rfl (by decide) (by decide) rfl rfl (by decide) (by decide) (hb hby d29_2) rfl (fun v11 T11 h11 L11 X11 e11 z11 => ?_)
 obtain ⟨rfl, Nq11, hq11⟩ := z11; replace e11 := e11.trans hq11; have N := Fr.app N Nq11
 refine og_aloadN X11 hx rfl rfl (hb hby d29_5) rfl ?_
 refine og_iloadN X11 hx rfl (hb hby d29_6) rfl ?_
 refine og_static (pc' := 10) (cells' := 0) (slots' := 0) (W := 0) X11 hx hZ (rm_gch_2_1 l Z a0 hw ba kb c0 c1 hc0 hc1 h0 n0 O V_ba S__assertionsDisabled S_HI_BYTE_SHIFT S_LO_BYTE_SHIFT) hown (ow124 hw) (ow125 hw) (ow21 hw) (ow126 hw) (by decide) (by rw [hml]; rfl) e11 opd_5 [(.ref ba), (.int 1)] [] rfl rfl rfl rfl (by decide) (by decide) rfl rfl (by decide) (by decide) (hb hby d29_7) rfl (fun v12 T12 h12 L12 X12 e12 z12 => ?_)
 obtain ⟨rfl, Nq12, hq12⟩ := z12; replace e12 := e12.trans hq12; have N := Fr.app N Nq12
 refine og_retN X12 hx hlk hret (by simp) (hb hby d29_10) (by decide) (by decide) ?_
 rw [e12, own_nc2 hc1]; exact ⟨rfl, N, rfl⟩
theorem rm_cU2_1 (l : Launch) (Z : State) (a0 : Array Value) (hw : HW a0 Z) (a1 ba : Addr) (kb : ClassId) (c0 c1 : Int32) (hc0 : 0 ≤ c0.toInt ∧ c0.toInt ≤ 65535) (hc1 : 0 ≤ c1.toInt ∧ c1.toInt ≤ 65535) (cs : Int32) (hcs : ¬ cs = 0) (fm : Value) (hfm : fm.isRef = true) (h0 : Heap) (n0 : Nat) (O : Old Z n0 h0) (E_a1 : Exa Z h0 a1 "java/lang/String") (F_value_a1 : Fld Z h0 a1 "java/lang/String" "value" "[B" (.ref ba)) (F_coder_a1 : Fld Z h0 a1 "java/lang/String" "coder" "B" (.int 1)) (V_ba : Arv Z h0 ba kb .byte (4 : Int32) [(.int c0.toInt8.toInt32), (.int (c0 >>> ((8 : Int32) &&& 31)).toInt8.toInt32), (.int c1.toInt8.toInt32), (.int (c1 >>> ((8 : Int32) &&& 31)).toInt8.toInt32)] (.int 0)) (S_CS : Sta Z Z.heap "java/lang/String" "COMPACT_STRINGS" "Z" (.int cs)) (S_FM : Sta Z Z.heap "jdk/internal/util/Preconditions" "SIOOBE_FORMATTER" "Ljava/util/function/BiFunction;" fm) (S__assertionsDisabled : Sta Z Z.heap "java/lang/StringUTF16" "$assertionsDisabled" "Z" (.int 1)) (S_HI_BYTE_SHIFT : Sta Z Z.heap "java/lang/StringUTF16" "HI_BYTE_SHIFT" "I" (.int 0)) (S_LO_BYTE_SHIFT : Sta Z Z.heap "java/lang/StringUTF16" "LO_BYTE_SHIFT" "I" (.int 8)) :
  Con l Z (⟨"java/lang/String", "charAt", "(I)C"⟩ : MethodName) jdk_42_method_56_code 2 (some .char) ({ frames := 4, cells := 0, slots := 0, locals := 53 } : Room) #[(.ref a1), (.int 1)] h0 (fun v h L => v = some (.int c1) ∧ Fr n0 L ∧ h = h0) := by
 refine own_startC opn_11 ?_
 intro p e s m below meth c T0 X0 hx hby hml hZ hown hnm hret hlk e0
 have N := Fr.nil n0; have K := Keep.refl h0 []
 refine OG.cast (oef3 m a1 (1 : Int32)) ?_
 refine og_aloadN X0 hx rfl rfl (hb hby d11_0) rfl ?_
 refine og_virtual (pc' := 4) (cells' := 0) (slots' := 0) (W := 0) X0 hx hZ (rm_ilU l Z a0 hw a1 cs hcs h0 n0 O F_coder_a1 S_CS) hown (ow53 hw) (ow54 hw) (own_nf hZ (ow56 hw)) (ow56 hw) (ow55 hw) (ow7 hw) (ow57 hw) (by decide) (by rw [hml]; rfl) e0 opd_10 [] [] rfl rfl rfl rfl (by decide) (by decide) rfl rfl (by decide) (by decide) E_a1 (hb hby d11_1) rfl (fun v11 T11 h11 L11 X11 e11 z11 => ?_)
 obtain ⟨rfl, Nq11, hq11⟩ := z11; replace e11 := e11.trans hq11; have N := Fr.app N Nq11
 refine og_if_eq (pc1 := 16) (pc2 := 7) X11 hx (hb hby d11_4) (by decide) (by decide) rfl (fun _ => ?_) (fun q => absurd q (by decide))
 refine og_aloadN X11 hx rfl rfl (hb hby d11_16) rfl ?_
 refine og_getfield X11 hx hZ (host := "") hown (Or.inl (ow32 hw)) Via.refl e11 F_value_a1 (hb hby d11_17) rfl (fun T12 X12 e12 => ?_)
 refine og_iloadN X12 hx rfl (hb hby d11_20) rfl ?_
 refine og_static (pc' := 24) (cells' := 0) (slots' := 0) (W := 0) X12 hx hZ (rm_uca2_1 l Z a0 hw ba kb c0 c1 hc0 hc1 fm hfm h0 n0 O V_ba S_FM S__assertionsDisabled S_HI_BYTE_SHIFT S_LO_BYTE_SHIFT) hown (ow127 hw) (ow128 hw) (ow21 hw) (ow129 hw) (by decide) (by rw [hml]; rfl) e12 opd_5 [(.ref ba), (.int 1)] [] rfl rfl rfl rfl (by decide) (by decide) rfl rfl (by decide) (by decide) (hb hby d11_21) rfl (fun v13 T13 h13 L13 X13 e13 z13 => ?_)
 obtain ⟨rfl, Nq13, hq13⟩ := z13; replace e13 := e13.trans hq13; have N := Fr.app N Nq13
 refine og_retN X13 hx hlk hret (by simp) (hb hby d11_24) (by decide) (by decide) ?_
 rw [e13, own_nc2 hc1]; exact ⟨rfl, N, rfl⟩
theorem rm_u42_1 (l : Launch) (Z : State) (a0 : Array Value) (hw : HW a0 Z) (ba : Addr) (kb : ClassId) (c0 c1 : Int32) (hc0 : 0 ≤ c0.toInt ∧ c0.toInt ≤ 65535) (hc1 : 0 ≤ c1.toInt ∧ c1.toInt ≤ 65535) (h0 : Heap) (n0 : Nat) (O : Old Z n0 h0) (V_ba : Arv Z h0 ba kb .byte (4 : Int32) [(.int c0.toInt8.toInt32), (.int (c0 >>> ((8 : Int32) &&& 31)).toInt8.toInt32), (.int c1.toInt8.toInt32), (.int (c1 >>> ((8 : Int32) &&& 31)).toInt8.toInt32)] (.int 0)) (S__assertionsDisabled : Sta Z Z.heap "java/lang/StringUTF16" "$assertionsDisabled" "Z" (.int 1)) (S_HI_BYTE_SHIFT : Sta Z Z.heap "java/lang/StringUTF16" "HI_BYTE_SHIFT" "I" (.int 0)) (S_LO_BYTE_SHIFT : Sta Z Z.heap "java/lang/StringUTF16" "LO_BYTE_SHIFT" "I" (.int 8)) :
  Con l Z (⟨"java/lang/StringUTF16", "codePointAt", "([BIIZ)I"⟩ : MethodName) jdk_52_method_7_code 6 (some .int) ({ frames := 1, cells := 0, slots := 0, locals := 13 } : Room) #[(.ref ba), (.int 1), (.int 2), (.int 0)] h0 (fun v h L => ∃ r : Int32, v = some (.int r) ∧ Fr n0 L ∧ h = h0 ∧ r = c1) := by
 refine own_startC opn_33 ?_
 intro p e s m below meth c T0 X0 hx hby hml hZ hown hnm hret hlk e0
 have N := Fr.nil n0; have K := Keep.refl h0 []
 refine OG.cast (oef12 m ba (1 : Int32) (2 : Int32) (0 : Int32)) ?_
 refine og_getstatic X0 hx hZ (host := "") hown (Or.inl (ow121 hw)) Via.refl e0 (S__assertionsDisabled.ext O.2) (hb hby d33_0) rfl (fun T11 X11 e11 => ?_)
 refine og_if_ne (pc1 := 19) (pc2 := 6) X11 hx (hb hby d33_3) (by decide) (by decide) rfl (fun _ => ?_) (fun q => absurd q (by decide))
 refine og_iloadN X11 hx rfl (hb hby d33_19) rfl ?_
 refine og_if_eq (pc1 := 28) (pc2 := 23) X11 hx (hb hby d33_20) (by decide) (by decide) rfl (fun _ => ?_) (fun q => absurd q (by decide))
 refine og_aloadN X11 hx rfl rfl (hb hby d33_28) rfl ?_
 refine og_iloadN X11 hx rfl (hb hby d33_29) rfl ?_
 refine og_static (pc' := 33) (cells' := 0) (slots' := 0) (W := 0) X11 hx hZ (rm_gch_2_1 l Z a0 hw ba kb c0 c1 hc0 hc1 h0 n0 O V_ba S__assertionsDisabled S_HI_BYTE_SHIFT S_LO_BYTE_SHIFT) hown (ow124 hw) (ow125 hw) (ow21 hw) (ow126 hw) (by decide) (by rw [hml]; rfl) e11 opd_5 [(.ref ba), (.int 1)] [] rfl rfl rfl rfl (by decide) (by decide) rfl rfl (by decide) (by decide) (hb hby d33_30) rfl (fun v12 T12 h12 L12 X12 e12 z12 => ?_)
 obtain ⟨rfl, Nq12, hq12⟩ := z12; replace e12 := e12.trans hq12; have N := Fr.app N Nq12
 refine og_istore (L' := #[.val (.ref ba), .val (.int 1), .val (.int 2), .val (.int 0), .val (.int c1), .unset]) X12 hx rfl (hb hby d33_33) rfl ?_
 refine og_iload X12 hx rfl (hb hby d33_35) rfl ?_
 refine og_static (pc' := 40) (cells' := 0) (slots' := 0) (W := 0) X12 hx hZ (rm_ihs l Z a0 hw c1 h0 n0 O) hown (ow143 hw) (ow144 hw) (ow83 hw) (ow145 hw) (by decide) (by rw [hml]; rfl) e12 opd_14 [(.int c1)] [] rfl rfl rfl rfl (by decide) (by decide) rfl rfl (by decide) (by decide) (hb hby d33_37) rfl (fun v13 T13 h13 L13 X13 e13 z13 => ?_)
 obtain ⟨rb13, rfl, Nq13, hq13, hb13⟩ := z13; replace e13 := e13.trans hq13; have N := Fr.app N Nq13
 refine og_if_eq (pc1 := 83) (pc2 := 43) X13 hx (hb hby d33_40) (by decide) (by decide) rfl (fun hc40 => ?_) (fun hc40 => ?_)
 ·
  have hH := own_b0 hb13 hc40
  refine og_iload X13 hx rfl (hb hby d33_83) rfl ?_
  refine og_retI X13 hx hlk hret (hb hby d33_85) (by decide) (by decide) ?_
  rw [e13]; exact ⟨_, rfl, N, rfl, rfl⟩
 ·
  have hH := own_b1 hb13 hc40
  refine og_iinc (L' := #[.val (.ref ba), .val (.int 2), .val (.int 2), .val (.int 0), .val (.int c1), .unset]) (w := 1) X13 hx rfl rfl rfl (hb hby d33_43) rfl ?_
  refine og_iloadN X13 hx rfl (hb hby d33_46) rfl ?_
  refine og_iloadN X13 hx rfl (hb hby d33_47) rfl ?_
  refine og_icmp_ge (pc1 := 83) (pc2 := 51) X13 hx (hb hby d33_48) (by decide) (by decide) rfl (fun _ => ?_) (fun q => absurd q (by decide))
  refine og_iload X13 hx rfl (hb hby d33_83) rfl ?_
  refine og_retI X13 hx hlk hret (hb hby d33_85) (by decide) (by decide) ?_
  rw [e13]; exact ⟨_, rfl, N, rfl, rfl⟩
theorem rm_u32_1 (l : Launch) (Z : State) (a0 : Array Value) (hw : HW a0 Z) (ba : Addr) (kb : ClassId) (c0 c1 : Int32) (hc0 : 0 ≤ c0.toInt ∧ c0.toInt ≤ 65535) (hc1 : 0 ≤ c1.toInt ∧ c1.toInt ≤ 65535) (h0 : Heap) (n0 : Nat) (O : Old Z n0 h0) (V_ba : Arv Z h0 ba kb .byte (4 : Int32) [(.int c0.toInt8.toInt32), (.int (c0 >>> ((8 : Int32) &&& 31)).toInt8.toInt32), (.int c1.toInt8.toInt32), (.int (c1 >>> ((8 : Int32) &&& 31)).toInt8.toInt32)] (.int 0)) (S__assertionsDisabled : Sta Z Z.heap "java/lang/StringUTF16" "$assertionsDisabled" "Z" (.int 1)) (S_HI_BYTE_SHIFT : Sta Z Z.heap "java/lang/StringUTF16" "HI_BYTE_SHIFT" "I" (.int 0)) (S_LO_BYTE_SHIFT : Sta Z Z.heap "java/lang/StringUTF16" "LO_BYTE_SHIFT" "I" (.int 8)) :
  Con l Z (⟨"java/lang/StringUTF16", "codePointAt", "([BII)I"⟩ : MethodName) jdk_52_method_8_code 3 (some .int) ({ frames := 2, cells := 0, slots := 0, locals := 30 } : Room) #[(.ref ba), (.int 1), (.int 2)] h0 (fun v h L => ∃ r : Int32, v = some (.int r) ∧ Fr n0 L ∧ h = h0 ∧ r = c1) := by
 refine own_startC opn_32 ?_
 intro p e s m below meth c T0 X0 hx hby hml hZ hown hnm hret hlk e0
 have N := Fr.nil n0; have K := Keep.refl h0 []
 refine OG.cast (oef0 m ba (1 : Int32) (2 : Int32)) ?_
 refine og_aloadN X0 hx rfl rfl (hb hby d32_0) rfl ?_
 refine og_iloadN X0 hx rfl (hb hby d32_1) rfl ?_
 refine og_iloadN X0 hx rfl (hb hby d32_2) rfl ?_
 refine og_iconst (v := 0) X0 hx rfl (hb hby d32_3) rfl ?_
 refine og_static (pc' := 7) (cells' := 0) (slots' := 0) (W := 0) X0 hx hZ (rm_u42_1 l Z a0 hw ba kb c0 c1 hc0 hc1 h0 n0 O V_ba S__assertionsDisabled S_HI_BYTE_SHIFT S_LO_BYTE_SHIFT) hown (ow140 hw) (ow141 hw) (ow21 hw) (ow142 hw) (by decide) (by rw [hml]; rfl) e0 opd_15 [(.ref ba), (.int 1), (.int 2), (.int 0)] [] rfl rfl rfl rfl (by decide) (by decide) rfl rfl (by decide) (by decide) (hb hby d32_4) rfl (fun v11 T11 h11 L11 X11 e11 z11 => ?_)
 obtain ⟨rp, rfl, Nq11, hq11, hrp⟩ := z11; replace e11 := e11.trans hq11; have N := Fr.app N Nq11
 refine og_retI X11 hx hlk hret (hb hby d32_7) (by decide) (by decide) ?_
 rw [e11]; exact ⟨_, rfl, N, rfl, hrp⟩
theorem rm_pU2_1 (l : Launch) (Z : State) (a0 : Array Value) (hw : HW a0 Z) (a1 ba : Addr) (kb : ClassId) (c0 c1 : Int32) (hc0 : 0 ≤ c0.toInt ∧ c0.toInt ≤ 65535) (hc1 : 0 ≤ c1.toInt ∧ c1.toInt ≤ 65535) (cs : Int32) (hcs : ¬ cs = 0) (fm : Value) (hfm : fm.isRef = true) (h0 : Heap) (n0 : Nat) (O : Old Z n0 h0) (E_a1 : Exa Z h0 a1 "java/lang/String") (F_value_a1 : Fld Z h0 a1 "java/lang/String" "value" "[B" (.ref ba)) (F_coder_a1 : Fld Z h0 a1 "java/lang/String" "coder" "B" (.int 1)) (V_ba : Arv Z h0 ba kb .byte (4 : Int32) [(.int c0.toInt8.toInt32), (.int (c0 >>> ((8 : Int32) &&& 31)).toInt8.toInt32), (.int c1.toInt8.toInt32), (.int (c1 >>> ((8 : Int32) &&& 31)).toInt8.toInt32)] (.int 0)) (S_CS : Sta Z Z.heap "java/lang/String" "COMPACT_STRINGS" "Z" (.int cs)) (S_FM : Sta Z Z.heap "jdk/internal/util/Preconditions" "SIOOBE_FORMATTER" "Ljava/util/function/BiFunction;" fm) (S__assertionsDisabled : Sta Z Z.heap "java/lang/StringUTF16" "$assertionsDisabled" "Z" (.int 1)) (S_HI_BYTE_SHIFT : Sta Z Z.heap "java/lang/StringUTF16" "HI_BYTE_SHIFT" "I" (.int 0)) (S_LO_BYTE_SHIFT : Sta Z Z.heap "java/lang/StringUTF16" "LO_BYTE_SHIFT" "I" (.int 8)) :
  Con l Z (⟨"java/lang/String", "codePointAt", "(I)I"⟩ : MethodName) jdk_42_method_57_code 3 (some .int) ({ frames := 3, cells := 0, slots := 0, locals := 44 } : Room) #[(.ref a1), (.int 1)] h0 (fun v h L => ∃ r : Int32, v = some (.int r) ∧ Fr n0 L ∧ h = h0 ∧ r = c1) := by
 refine own_startC opn_16 ?_
 intro p e s m below meth c T0 X0 hx hby hml hZ hown hnm hret hlk e0
 have N := Fr.nil n0; have K := Keep.refl h0 []
 refine OG.cast (oef13 m a1 (1 : Int32)) ?_
 refine og_aloadN X0 hx rfl rfl (hb hby d16_0) rfl ?_
 refine og_virtual (pc' := 4) (cells' := 0) (slots' := 0) (W := 0) X0 hx hZ (rm_ilU l Z a0 hw a1 cs hcs h0 n0 O F_coder_a1 S_CS) hown (ow53 hw) (ow54 hw) (own_nf hZ (ow56 hw)) (ow56 hw) (ow55 hw) (ow7 hw) (ow57 hw) (by decide) (by rw [hml]; rfl) e0 opd_10 [] [] rfl rfl rfl rfl (by decide) (by decide) rfl rfl (by decide) (by decide) E_a1 (hb hby d16_1) rfl (fun v11 T11 h11 L11 X11 e11 z11 => ?_)
 obtain ⟨rfl, Nq11, hq11⟩ := z11; replace e11 := e11.trans hq11; have N := Fr.app N Nq11
 refine og_if_eq (pc1 := 27) (pc2 := 7) X11 hx (hb hby d16_4) (by decide) (by decide) rfl (fun _ => ?_) (fun q => absurd q (by decide))
 refine og_aloadN X11 hx rfl rfl (hb hby d16_27) rfl ?_
 refine og_getfield X11 hx hZ (host := "") hown (Or.inl (ow32 hw)) Via.refl e11 F_value_a1 (hb hby d16_28) rfl (fun T12 X12 e12 => ?_)
 refine og_arraylength X12 hx hZ e12 V_ba (hb hby d16_31) rfl ?_
 refine og_iconst (v := 1) X12 hx rfl (hb hby d16_32) rfl ?_
 refine og_ishr X12 hx (hb hby d16_33) rfl ?_
 show OG p e below _ (T12.setTop (mkF m 34 #[.val (.ref a1), .val (.int 1), .unset] [(.int 2)]))
 refine og_istoreN (L' := #[.val (.ref a1), .val (.int 1), .val (.int 2)]) X12 hx rfl (hb hby d16_34) rfl ?_
 refine og_iloadN X12 hx rfl (hb hby d16_35) rfl ?_
 refine og_iloadN X12 hx rfl (hb hby d16_36) rfl ?_
 refine og_static (pc' := 40) (cells' := 0) (slots' := 0) (W := 0) X12 hx hZ (rm_ci l Z a0 hw (2 : Int32) (1 : Int32) ⟨by decide, by decide⟩ fm hfm h0 n0 O S_FM) hown (ow75 hw) (ow63 hw) (ow7 hw) (ow64 hw) (by decide) (by rw [hml]; rfl) e12 opd_9 [(.int 1), (.int 2)] [] rfl rfl rfl rfl (by decide) (by decide) rfl rfl (by decide) (by decide) (hb hby d16_37) rfl (fun v13 T13 h13 L13 X13 e13 z13 => ?_)
 obtain ⟨rfl, Nq13, hq13⟩ := z13; replace e13 := e13.trans hq13; have N := Fr.app N Nq13
 refine og_aloadN X13 hx rfl rfl (hb hby d16_40) rfl ?_
 refine og_getfield X13 hx hZ (host := "") hown (Or.inl (ow32 hw)) Via.refl e13 F_value_a1 (hb hby d16_41) rfl (fun T14 X14 e14 => ?_)
 refine og_iloadN X14 hx rfl (hb hby d16_44) rfl ?_
 refine og_iloadN X14 hx rfl (hb hby d16_45) rfl ?_
 refine og_static (pc' := 49) (cells' := 0) (slots' := 0) (W := 0) X14 hx hZ (rm_u32_1 l Z a0 hw ba kb c0 c1 hc0 hc1 h0 n0 O V_ba S__assertionsDisabled S_HI_BYTE_SHIFT S_LO_BYTE_SHIFT) hown (ow137 hw) (ow138 hw) (ow21 hw) (ow139 hw) (by decide) (by rw [hml]; rfl) e14 opd_16 [(.ref ba), (.int 1), (.int 2)] [] rfl rfl rfl rfl (by decide) (by decide) rfl rfl (by decide) (by decide) (hb hby d16_46) rfl (fun v15 T15 h15 L15 X15 e15 z15 => ?_)
 obtain ⟨rp, rfl, Nq15, hq15, hrp⟩ := z15; replace e15 := e15.trans hq15; have N := Fr.app N Nq15
 refine og_retI X15 hx hlk hret (hb hby d16_49) (by decide) (by decide) ?_
 rw [e15]; exact ⟨_, rfl, N, rfl, hrp⟩
theorem rm_pL2_1 (l : Launch) (Z : State) (a0 : Array Value) (hw : HW a0 Z) (a1 ba : Addr) (kb : ClassId) (c0 c1 : Int32) (hc0 : 0 ≤ c0.toInt ∧ c0.toInt ≤ 65535) (hc1 : 0 ≤ c1.toInt ∧ c1.toInt ≤ 65535) (cs : Int32) (hcs : ¬ cs = 0) (fm : Value) (hfm : fm.isRef = true) (hsm : ¬ 255 < c0 ∧ ¬ 255 < c1) (h0 : Heap) (n0 : Nat) (O : Old Z n0 h0) (E_a1 : Exa Z h0 a1 "java/lang/String") (F_value_a1 : Fld Z h0 a1 "java/lang/String" "value" "[B" (.ref ba)) (F_coder_a1 : Fld Z h0 a1 "java/lang/String" "coder" "B" (.int 0)) (V_ba : Arv Z h0 ba kb .byte (2 : Int32) [(.int c0.toInt8.toInt32), (.int c1.toInt8.toInt32)] (.int 0)) (S_CS : Sta Z Z.heap "java/lang/String" "COMPACT_STRINGS" "Z" (.int cs)) (S_FM : Sta Z Z.heap "jdk/internal/util/Preconditions" "SIOOBE_FORMATTER" "Ljava/util/function/BiFunction;" fm) :
  Con l Z (⟨"java/lang/String", "codePointAt", "(I)I"⟩ : MethodName) jdk_42_method_57_code 3 (some .int) ({ frames := 2, cells := 0, slots := 0, locals := 27 } : Room) #[(.ref a1), (.int 1)] h0 (fun v h L => v = some (.int c1) ∧ Fr n0 L ∧ h = h0) := by
 refine own_startC opn_16 ?_
 intro p e s m below meth c T0 X0 hx hby hml hZ hown hnm hret hlk e0
 have N := Fr.nil n0; have K := Keep.refl h0 []
 refine OG.cast (oef13 m a1 (1 : Int32)) ?_
 refine og_aloadN X0 hx rfl rfl (hb hby d16_0) rfl ?_
 refine og_virtual (pc' := 4) (cells' := 0) (slots' := 0) (W := 0) X0 hx hZ (rm_il l Z a0 hw a1 cs hcs h0 n0 O F_coder_a1 S_CS) hown (ow53 hw) (ow54 hw) (own_nf hZ (ow56 hw)) (ow56 hw) (ow55 hw) (ow7 hw) (ow57 hw) (by decide) (by rw [hml]; rfl) e0 opd_10 [] [] rfl rfl rfl rfl (by decide) (by decide) rfl rfl (by decide) (by decide) E_a1 (hb hby d16_1) rfl (fun v11 T11 h11 L11 X11 e11 z11 => ?_)
 obtain ⟨rfl, Nq11, hq11⟩ := z11; replace e11 := e11.trans hq11; have N := Fr.app N Nq11
 refine og_if_eq (pc1 := 27) (pc2 := 7) X11 hx (hb hby d16_4) (by decide) (by decide) rfl (fun q => absurd q (by decide)) (fun _ => ?_)
 refine og_iloadN X11 hx rfl (hb hby d16_7) rfl ?_
 refine og_aloadN X11 hx rfl rfl (hb hby d16_8) rfl ?_
 refine og_getfield X11 hx hZ (host := "") hown (Or.inl (ow32 hw)) Via.refl e11 F_value_a1 (hb hby d16_9) rfl (fun T12 X12 e12 => ?_)
 refine og_arraylength X12 hx hZ e12 V_ba (hb hby d16_12) rfl ?_
 refine og_static (pc' := 16) (cells' := 0) (slots' := 0) (W := 0) X12 hx hZ (rm_ci l Z a0 hw (2 : Int32) (1 : Int32) ⟨by decide, by decide⟩ fm hfm h0 n0 O S_FM) hown (ow75 hw) (ow63 hw) (ow7 hw) (ow64 hw) (by decide) (by rw [hml]; rfl) e12 opd_9 [(.int 1), (.int 2)] [] rfl rfl rfl rfl (by decide) (by decide) rfl rfl (by decide) (by decide) (hb hby d16_13) rfl (fun v13 T13 h13 L13 X13 e13 z13 => ?_)
 obtain ⟨rfl, Nq13, hq13⟩ := z13; replace e13 := e13.trans hq13; have N := Fr.app N Nq13
 refine og_aloadN X13 hx rfl rfl (hb hby d16_16) rfl ?_
 refine og_getfield X13 hx hZ (host := "") hown (Or.inl (ow32 hw)) Via.refl e13 F_value_a1 (hb hby d16_17) rfl (fun T14 X14 e14 => ?_)
 refine og_iloadN X14 hx rfl (hb hby d16_20) rfl ?_
 refine og_baload (v := (.int c1.toInt8.toInt32)) X14 hx hZ e14 V_ba ⟨by decide, by decide⟩ rfl (hb hby d16_21) rfl ?_
 refine og_sipush (v := 255) X14 hx rfl (hb hby d16_22) rfl ?_
 refine og_iand X14 hx (hb hby d16_25) rfl ?_
 refine og_retI X14 hx hlk hret (hb hby d16_26) (by decide) (by decide) ?_
 rw [e14, own_chL hc1 hsm.2]; exact ⟨rfl, N, rfl⟩
theorem rm_fcL2 (l : Launch) (Z : State) (a0 : Array Value) (hw : HW a0 Z) (a1 ba : Addr) (kb : ClassId) (c0 c1 : Int32) (hc0 : 0 ≤ c0.toInt ∧ c0.toInt ≤ 65535) (hc1 : 0 ≤ c1.toInt ∧ c1.toInt ≤ 65535) (cs : Int32) (hcs : ¬ cs = 0) (fm : Value) (hfm : fm.isRef = true) (r : Int32) (hr : own_fc [c0, c1] = r) (hsm : ¬ 255 < c0 ∧ ¬ 255 < c1) (h0 : Heap) (n0 : Nat) (O : Old Z n0 h0) (E_a1 : Exa Z h0 a1 "java/lang/String") (F_value_a1 : Fld Z h0 a1 "java/lang/String" "value" "[B" (.ref ba)) (F_coder_a1 : Fld Z h0 a1 "java/lang/String" "coder" "B" (.int 0)) (V_ba : Arv Z h0 ba kb .byte (2 : Int32) [(.int c0.toInt8.toInt32), (.int c1.toInt8.toInt32)] (.int 0)) (S_CS : Sta Z Z.heap "java/lang/String" "COMPACT_STRINGS" "Z" (.int cs)) (S_FM : Sta Z Z.heap "jdk/internal/util/Preconditions" "SIOOBE_FORMATTER" "Ljava/util/function/BiFunction;" fm) :
  Con l Z (⟨"com/example/neith/neith/io/XmlOutput", "forbiddenCharacter", "(Ljava/lang/String;)I"⟩ : MethodName) prog_18_method_3_code 5 (some .int) ({ frames := 4, cells := 0, slots := 0, locals := 53 } : Room) #[(.ref a1)] h0 (fun v h L => v = some (.int r) ∧ Fr n0 L ∧ h = h0) := by
 refine own_startC opn_8 ?_
 intro p e s m below meth c T0 X0 hx hby hml hZ hown hnm hret hlk e0
 have N := Fr.nil n0; have K := Keep.refl h0 []
 refine OG.cast (oef14 m a1) ?_
 refine og_iconst (v := -1) X0 hx rfl (hb hby d8_0) rfl ?_
 refine og_istoreN (L' := #[.val (.ref a1), .val (.int (-1)), .unset, .unset, .unset]) X0 hx rfl (hb hby d8_1) rfl ?_
 refine og_iconst (v := 0) X0 hx rfl (hb hby d8_2) rfl ?_
 refine og_istoreN (L' := #[.val (.ref a1), .val (.int (-1)), .val (.int 0), .unset, .unset]) X0 hx rfl (hb hby d8_3) rfl ?_
 have J2 : ∀ (T11 : State) (l11 : List Loc) (X11 : Stand p l e ({ frames := 4, cells := 0, slots := 0, locals := 53 } : Room) s m #[(.ref a1)] below meth c T11 l11 0 0) (e11 : T11.heap = h0) (N : Fr n0 l11) (x3 x4 : Slot) (hs_x3 : x3 = .unset ∨ ∃ v, x3 = .val (.int v)) (hs_x4 : x4 = .unset ∨ ∃ v, x4 = .val (.int v)) (hr : own_fc [] = r), OG p e below (OFin s (fun v h L => v = some (.int r) ∧ Fr n0 L ∧ h = h0) 0 0) (T11.setTop (mkF m 4 #[.val (.ref a1), .val (.int (-1)), .val (.int 2), x3, x4] [])) := by
  intro T11 l11 X11 e11 N x3 x4 hs_x3 hs_x4 hr
  refine og_iloadN X11 hx rfl (hb hby d8_4) rfl ?_
  refine og_aloadN X11 hx rfl rfl (hb hby d8_5) rfl ?_
  refine og_virtual (pc' := 9) (cells' := 0) (slots' := 0) (W := 1) X11 hx hZ (rm_len l Z a0 hw a1 ba kb (2 : Int32) _ cs hcs h0 n0 O E_a1 F_value_a1 F_coder_a1 V_ba S_CS) hown (ow38 hw) (ow39 hw) (own_nf hZ (ow41 hw)) (ow41 hw) (ow40 hw) (ow7 hw) (ow42 hw) (by decide) (by rw [hml]; rfl) e11 opd_17 [] [(.int 2)] rfl rfl rfl rfl (by decide) (by decide) rfl rfl (by decide) (by decide) E_a1 (hb hby d8_6) rfl (fun v12 T12 h12 L12 X12 e12 z12 => ?_)
  obtain ⟨rfl, Nq12, hq12⟩ := z12; replace e12 := e12.trans hq12; have N := Fr.app N Nq12
  refine og_icmp_ge (pc1 := 69) (pc2 := 12) X12 hx (hb hby d8_9) (by decide) (by decide) rfl (fun _ => ?_) (fun q => absurd q (by decide))
  refine og_iloadN X12 hx rfl (hb hby d8_69) rfl ?_
  refine og_retI X12 hx hlk hret (hb hby d8_70) (by decide) (by decide) ?_
  rw [e12]; exact ⟨by rw [← hr]; rfl, N, rfl⟩
 have J1 : ∀ (T13 : State) (l13 : List Loc) (X13 : Stand p l e ({ frames := 4, cells := 0, slots := 0, locals := 53 } : Room) s m #[(.ref a1)] below meth c T13 l13 0 0) (e13 : T13.heap = h0) (N : Fr n0 l13) (x3 x4 : Slot) (hs_x3 : x3 = .unset ∨ ∃ v, x3 = .val (.int v)) (hs_x4 : x4 = .unset ∨ ∃ v, x4 = .val (.int v)) (hr : own_fc [c1] = r), OG p e below (OFin s (fun v h L => v = some (.int r) ∧ Fr n0 L ∧ h = h0) 0 0) (T13.setTop (mkF m 4 #[.val (.ref a1), .val (.int (-1)), .val (.int 1), x3, x4] [])) := by
  intro T13 l13 X13 e13 N x3 x4 hs_x3 hs_x4 hr
  refine og_iloadN X13 hx rfl (hb hby d8_4) rfl ?_
  refine og_aloadN X13 hx rfl rfl (hb hby d8_5) rfl ?_
  refine og_virtual (pc' := 9) (cells' := 0) (slots' := 0) (W := 1) X13 hx hZ (rm_len l Z a0 hw a1 ba kb (2 : Int32) _ cs hcs h0 n0 O E_a1 F_value_a1 F_coder_a1 V_ba S_CS) hown (ow38 hw) (ow39 hw) (own_nf hZ (ow41 hw)) (ow41 hw) (ow40 hw) (ow7 hw) (ow42 hw) (by decide) (by rw [hml]; rfl) e13 opd_17 [] [(.int 1)] rfl rfl rfl rfl (by decide) (by decide) rfl rfl (by decide) (by decide) E_a1 (hb hby d8_6) rfl (fun v14 T14 h14 L14 X14 e14 z14 => ?_)
  obtain ⟨rfl, Nq14, hq14⟩ := z14; replace e14 := e14.trans hq14; have N := Fr.app N Nq14
  refine og_icmp_ge (pc1 := 69) (pc2 := 12) X14 hx (hb hby d8_9) (by decide) (by decide) rfl (fun q => absurd q (by decide)) (fun _ => ?_)
  refine og_iloadN X14 hx rfl (hb hby d8_12) rfl ?_
  refine og_if_ge (pc1 := 69) (pc2 := 16) X14 hx (hb hby d8_13) (by decide) (by decide) rfl (fun q => absurd q (by decide)) (fun _ => ?_)
  refine og_aloadN X14 hx rfl rfl (hb hby d8_16) rfl ?_
  refine og_iloadN X14 hx rfl (hb hby d8_17) rfl ?_
  refine og_virtual (pc' := 21) (cells' := 0) (slots' := 0) (W := 0) X14 hx hZ (rm_ch l Z a0 hw a1 ba kb (2 : Int32) (1 : Int32) ⟨by decide, by decide⟩ _ c1 rfl (own_sm hc1 hsm.2) cs hcs fm hfm h0 n0 O E_a1 F_value_a1 F_coder_a1 V_ba S_CS S_FM) hown (ow48 hw) (ow49 hw) (own_nf hZ (ow51 hw)) (ow51 hw) (ow50 hw) (ow7 hw) (ow52 hw) (by decide) (by rw [hml]; rfl) e14 opd_18 [(.int 1)] [] rfl rfl rfl rfl (by decide) (by decide) rfl rfl (by decide) (by decide) E_a1 (hb hby d8_18) rfl (fun v15 T15 h15 L15 X15 e15 z15 => ?_)
  obtain ⟨rfl, Nq15, hq15⟩ := z15; replace e15 := e15.trans hq15; have N := Fr.app N Nq15
  refine og_istoreN (L' := #[.val (.ref a1), .val (.int (-1)), .val (.int 1), .val (.int c1), x4]) X15 hx (by rcases hs_x3 with rfl | ⟨_, rfl⟩ <;> rfl) (hb hby d8_21) rfl ?_
  refine og_iloadN X15 hx rfl (hb hby d8_22) rfl ?_
  refine og_bipush (v := 32) X15 hx rfl (hb hby d8_23) rfl ?_
  refine og_icmp_lt (pc1 := 40) (pc2 := 28) X15 hx (hb hby d8_25) (by decide) (by decide) rfl (fun hc25 => ?_) (fun hc25 => ?_)
  ·
   refine og_aloadN X15 hx rfl rfl (hb hby d8_40) rfl ?_
   refine og_iloadN X15 hx rfl (hb hby d8_41) rfl ?_
   refine og_virtual (pc' := 45) (cells' := 0) (slots' := 0) (W := 0) X15 hx hZ (rm_pL2_1 l Z a0 hw a1 ba kb c0 c1 hc0 hc1 cs hcs fm hfm hsm h0 n0 O E_a1 F_value_a1 F_coder_a1 V_ba S_CS S_FM) hown (ow70 hw) (ow71 hw) (own_nf hZ (ow73 hw)) (ow73 hw) (ow72 hw) (ow7 hw) (ow74 hw) (by decide) (by rw [hml]; rfl) e15 opd_0 [(.int 1)] [] rfl rfl rfl rfl (by decide) (by decide) rfl rfl (by decide) (by decide) E_a1 (hb hby d8_42) rfl (fun v16 T16 h16 L16 X16 e16 z16 => ?_)
   obtain ⟨rfl, Nq16, hq16⟩ := z16; replace e16 := e16.trans hq16; have N := Fr.app N Nq16
   refine og_istore (L' := #[.val (.ref a1), .val (.int (-1)), .val (.int 1), .val (.int c1), .val (.int c1)]) X16 hx (by rcases hs_x4 with rfl | ⟨_, rfl⟩ <;> rfl) (hb hby d8_45) rfl ?_
   refine og_iload X16 hx rfl (hb hby d8_47) rfl ?_
   refine og_static (pc' := 52) (cells' := 0) (slots' := 0) (W := 0) X16 hx hZ (rm_ixc l Z a0 hw c1 h0 n0 O) hown (ow76 hw) (ow77 hw) (ow36 hw) (ow78 hw) (by decide) (by rw [hml]; rfl) e16 opd_19 [(.int c1)] [] rfl rfl rfl rfl (by decide) (by decide) rfl rfl (by decide) (by decide) (hb hby d8_49) rfl (fun v17 T17 h17 L17 X17 e17 z17 => ?_)
   obtain ⟨rb17, rfl, Nq17, hq17, hb17⟩ := z17; replace e17 := e17.trans hq17; have N := Fr.app N Nq17
   refine og_if_ne (pc1 := 58) (pc2 := 55) X17 hx (hb hby d8_52) (by decide) (by decide) rfl (fun hc52 => ?_) (fun hc52 => ?_)
   ·
    have hX := own_b1 hb17 hc52
    refine og_iloadN X17 hx rfl (hb hby d8_58) rfl ?_
    refine og_iload X17 hx rfl (hb hby d8_59) rfl ?_
    refine og_static (pc' := 64) (cells' := 0) (slots' := 0) (W := 1) X17 hx hZ (rm_cct l Z a0 hw c1 h0 n0 O) hown (ow81 hw) (ow82 hw) (ow83 hw) (ow84 hw) (by decide) (by rw [hml]; rfl) e17 opd_0 [(.int c1)] [(.int 1)] rfl rfl rfl rfl (by decide) (by decide) rfl rfl (by decide) (by decide) (hb hby d8_61) rfl (fun v18 T18 h18 L18 X18 e18 z18 => ?_)
    obtain ⟨rc, rfl, Nq18, hq18, hrc⟩ := z18; replace e18 := e18.trans hq18; have N := Fr.app N Nq18
    have hrc : rc = 1 := own_cc1 hrc hc1
    subst hrc
    refine og_iadd X18 hx (hb hby d8_64) rfl ?_
    show OG p e below _ (T18.setTop (mkF m 65 #[.val (.ref a1), .val (.int (-1)), .val (.int 1), .val (.int c1), .val (.int c1)] [(.int 2)]))
    refine og_istoreN (L' := #[.val (.ref a1), .val (.int (-1)), .val (.int 2), .val (.int c1), .val (.int c1)]) X18 hx rfl (hb hby d8_65) rfl ?_
    refine og_goto (pc' := 4) X18 hx (hb hby d8_66) (by decide) (by decide) ?_
    exact J2 T18 _ X18 e18 N _ _ (Or.inr ⟨_, rfl⟩) (Or.inr ⟨_, rfl⟩) ((own_fok1 (own_xk hc1 hX)).symm.trans hr)
   ·
    have hX := own_b0 hb17 hc52
    refine og_iload X17 hx rfl (hb hby d8_55) rfl ?_
    refine og_istoreN (L' := #[.val (.ref a1), .val (.int c1), .val (.int 1), .val (.int c1), .val (.int c1)]) X17 hx rfl (hb hby d8_57) rfl ?_
    refine og_iloadN X17 hx rfl (hb hby d8_58) rfl ?_
    refine og_iload X17 hx rfl (hb hby d8_59) rfl ?_
    refine og_static (pc' := 64) (cells' := 0) (slots' := 0) (W := 1) X17 hx hZ (rm_cct l Z a0 hw c1 h0 n0 O) hown (ow81 hw) (ow82 hw) (ow83 hw) (ow84 hw) (by decide) (by rw [hml]; rfl) e17 opd_0 [(.int c1)] [(.int 1)] rfl rfl rfl rfl (by decide) (by decide) rfl rfl (by decide) (by decide) (hb hby d8_61) rfl (fun v19 T19 h19 L19 X19 e19 z19 => ?_)
    obtain ⟨rc, rfl, Nq19, hq19, hrc⟩ := z19; replace e19 := e19.trans hq19; have N := Fr.app N Nq19
    have hrc : rc = 1 := own_cc1 hrc hc1
    subst hrc
    refine og_iadd X19 hx (hb hby d8_64) rfl ?_
    show OG p e below _ (T19.setTop (mkF m 65 #[.val (.ref a1), .val (.int c1), .val (.int 1), .val (.int c1), .val (.int c1)] [(.int 2)]))
    refine og_istoreN (L' := #[.val (.ref a1), .val (.int c1), .val (.int 2), .val (.int c1), .val (.int c1)]) X19 hx rfl (hb hby d8_65) rfl ?_
    refine og_goto (pc' := 4) X19 hx (hb hby d8_66) (by decide) (by decide) ?_
    refine og_iloadN X19 hx rfl (hb hby d8_4) rfl ?_
    refine og_aloadN X19 hx rfl rfl (hb hby d8_5) rfl ?_
    refine og_virtual (pc' := 9) (cells' := 0) (slots' := 0) (W := 1) X19 hx hZ (rm_len l Z a0 hw a1 ba kb (2 : Int32) _ cs hcs h0 n0 O E_a1 F_value_a1 F_coder_a1 V_ba S_CS) hown (ow38 hw) (ow39 hw) (own_nf hZ (ow41 hw)) (ow41 hw) (ow40 hw) (ow7 hw) (ow42 hw) (by decide) (by rw [hml]; rfl) e19 opd_17 [] [(.int 2)] rfl rfl rfl rfl (by decide) (by decide) rfl rfl (by decide) (by decide) E_a1 (hb hby d8_6) rfl (fun v20 T20 h20 L20 X20 e20 z20 => ?_)
    obtain ⟨rfl, Nq20, hq20⟩ := z20; replace e20 := e20.trans hq20; have N := Fr.app N Nq20
    refine og_icmp_ge (pc1 := 69) (pc2 := 12) X20 hx (hb hby d8_9) (by decide) (by decide) rfl (fun _ => ?_) (fun q => absurd q (by decide))
    refine og_iloadN X20 hx rfl (hb hby d8_69) rfl ?_
    refine og_retI X20 hx hlk hret (hb hby d8_70) (by decide) (by decide) ?_
    rw [e20]; exact ⟨by rw [← hr, own_fbad1 (own_kx hc1 hX)], N, rfl⟩
  ·
   refine og_iloadN X15 hx rfl (hb hby d8_28) rfl ?_
   refine og_ldc X15 hx hZ hown (ow100 hw) (hb hby d8_29) rfl ?_
   refine og_icmp_ge (pc1 := 40) (pc2 := 34) X15 hx (hb hby d8_31) (by decide) (by decide) rfl (fun hc31 => ?_) (fun hc31 => ?_)
   ·
    have q25 := own_i2 hc25 (show (32 : Int32).toInt = 32 by decide)
    refine og_aloadN X15 hx rfl rfl (hb hby d8_40) rfl ?_
    refine og_iloadN X15 hx rfl (hb hby d8_41) rfl ?_
    refine og_virtual (pc' := 45) (cells' := 0) (slots' := 0) (W := 0) X15 hx hZ (rm_pL2_1 l Z a0 hw a1 ba kb c0 c1 hc0 hc1 cs hcs fm hfm hsm h0 n0 O E_a1 F_value_a1 F_coder_a1 V_ba S_CS S_FM) hown (ow70 hw) (ow71 hw) (own_nf hZ (ow73 hw)) (ow73 hw) (ow72 hw) (ow7 hw) (ow74 hw) (by decide) (by rw [hml]; rfl) e15 opd_0 [(.int 1)] [] rfl rfl rfl rfl (by decide) (by decide) rfl rfl (by decide) (by decide) E_a1 (hb hby d8_42) rfl (fun v21 T21 h21 L21 X21 e21 z21 => ?_)
    obtain ⟨rfl, Nq21, hq21⟩ := z21; replace e21 := e21.trans hq21; have N := Fr.app N Nq21
    refine og_istore (L' := #[.val (.ref a1), .val (.int (-1)), .val (.int 1), .val (.int c1), .val (.int c1)]) X21 hx (by rcases hs_x4 with rfl | ⟨_, rfl⟩ <;> rfl) (hb hby d8_45) rfl ?_
    refine og_iload X21 hx rfl (hb hby d8_47) rfl ?_
    refine og_static (pc' := 52) (cells' := 0) (slots' := 0) (W := 0) X21 hx hZ (rm_ixc l Z a0 hw c1 h0 n0 O) hown (ow76 hw) (ow77 hw) (ow36 hw) (ow78 hw) (by decide) (by rw [hml]; rfl) e21 opd_19 [(.int c1)] [] rfl rfl rfl rfl (by decide) (by decide) rfl rfl (by decide) (by decide) (hb hby d8_49) rfl (fun v22 T22 h22 L22 X22 e22 z22 => ?_)
    obtain ⟨rb22, rfl, Nq22, hq22, hb22⟩ := z22; replace e22 := e22.trans hq22; have N := Fr.app N Nq22
    refine og_if_ne (pc1 := 58) (pc2 := 55) X22 hx (hb hby d8_52) (by decide) (by decide) rfl (fun hc52 => ?_) (fun hc52 => ?_)
    ·
     have hX := own_b1 hb22 hc52
     refine og_iloadN X22 hx rfl (hb hby d8_58) rfl ?_
     refine og_iload X22 hx rfl (hb hby d8_59) rfl ?_
     refine og_static (pc' := 64) (cells' := 0) (slots' := 0) (W := 1) X22 hx hZ (rm_cct l Z a0 hw c1 h0 n0 O) hown (ow81 hw) (ow82 hw) (ow83 hw) (ow84 hw) (by decide) (by rw [hml]; rfl) e22 opd_0 [(.int c1)] [(.int 1)] rfl rfl rfl rfl (by decide) (by decide) rfl rfl (by decide) (by decide) (hb hby d8_61) rfl (fun v23 T23 h23 L23 X23 e23 z23 => ?_)
     obtain ⟨rc, rfl, Nq23, hq23, hrc⟩ := z23; replace e23 := e23.trans hq23; have N := Fr.app N Nq23
     have hrc : rc = 1 := own_cc1 hrc hc1
     subst hrc
     refine og_iadd X23 hx (hb hby d8_64) rfl ?_
     show OG p e below _ (T23.setTop (mkF m 65 #[.val (.ref a1), .val (.int (-1)), .val (.int 1), .val (.int c1), .val (.int c1)] [(.int 2)]))
     refine og_istoreN (L' := #[.val (.ref a1), .val (.int (-1)), .val (.int 2), .val (.int c1), .val (.int c1)]) X23 hx rfl (hb hby d8_65) rfl ?_
     refine og_goto (pc' := 4) X23 hx (hb hby d8_66) (by decide) (by decide) ?_
     exact J2 T23 _ X23 e23 N _ _ (Or.inr ⟨_, rfl⟩) (Or.inr ⟨_, rfl⟩) ((own_fok1 (own_xk hc1 hX)).symm.trans hr)
    ·
     have hX := own_b0 hb22 hc52
     refine og_iload X22 hx rfl (hb hby d8_55) rfl ?_
     refine og_istoreN (L' := #[.val (.ref a1), .val (.int c1), .val (.int 1), .val (.int c1), .val (.int c1)]) X22 hx rfl (hb hby d8_57) rfl ?_
     refine og_iloadN X22 hx rfl (hb hby d8_58) rfl ?_
     refine og_iload X22 hx rfl (hb hby d8_59) rfl ?_
     refine og_static (pc' := 64) (cells' := 0) (slots' := 0) (W := 1) X22 hx hZ (rm_cct l Z a0 hw c1 h0 n0 O) hown (ow81 hw) (ow82 hw) (ow83 hw) (ow84 hw) (by decide) (by rw [hml]; rfl) e22 opd_0 [(.int c1)] [(.int 1)] rfl rfl rfl rfl (by decide) (by decide) rfl rfl (by decide) (by decide) (hb hby d8_61) rfl (fun v24 T24 h24 L24 X24 e24 z24 => ?_)
     obtain ⟨rc, rfl, Nq24, hq24, hrc⟩ := z24; replace e24 := e24.trans hq24; have N := Fr.app N Nq24
     have hrc : rc = 1 := own_cc1 hrc hc1
     subst hrc
     refine og_iadd X24 hx (hb hby d8_64) rfl ?_
     show OG p e below _ (T24.setTop (mkF m 65 #[.val (.ref a1), .val (.int c1), .val (.int 1), .val (.int c1), .val (.int c1)] [(.int 2)]))
     refine og_istoreN (L' := #[.val (.ref a1), .val (.int c1), .val (.int 2), .val (.int c1), .val (.int c1)]) X24 hx rfl (hb hby d8_65) rfl ?_
     refine og_goto (pc' := 4) X24 hx (hb hby d8_66) (by decide) (by decide) ?_
     refine og_iloadN X24 hx rfl (hb hby d8_4) rfl ?_
     refine og_aloadN X24 hx rfl rfl (hb hby d8_5) rfl ?_
     refine og_virtual (pc' := 9) (cells' := 0) (slots' := 0) (W := 1) X24 hx hZ (rm_len l Z a0 hw a1 ba kb (2 : Int32) _ cs hcs h0 n0 O E_a1 F_value_a1 F_coder_a1 V_ba S_CS) hown (ow38 hw) (ow39 hw) (own_nf hZ (ow41 hw)) (ow41 hw) (ow40 hw) (ow7 hw) (ow42 hw) (by decide) (by rw [hml]; rfl) e24 opd_17 [] [(.int 2)] rfl rfl rfl rfl (by decide) (by decide) rfl rfl (by decide) (by decide) E_a1 (hb hby d8_6) rfl (fun v25 T25 h25 L25 X25 e25 z25 => ?_)
     obtain ⟨rfl, Nq25, hq25⟩ := z25; replace e25 := e25.trans hq25; have N := Fr.app N Nq25
     refine og_icmp_ge (pc1 := 69) (pc2 := 12) X25 hx (hb hby d8_9) (by decide) (by decide) rfl (fun _ => ?_) (fun q => absurd q (by decide))
     refine og_iloadN X25 hx rfl (hb hby d8_69) rfl ?_
     refine og_retI X25 hx hlk hret (hb hby d8_70) (by decide) (by decide) ?_
     rw [e25]; exact ⟨by rw [← hr, own_fbad1 (own_kx hc1 hX)], N, rfl⟩
   ·
    have q25 := own_i2 hc25 (show (32 : Int32).toInt = 32 by decide)
    have q31 := own_i1 hc31 (show (55296 : Int32).toInt = 55296 by decide)
    refine og_iinc (L' := #[.val (.ref a1), .val (.int (-1)), .val (.int 2), .val (.int c1), x4]) (w := 1) X15 hx rfl rfl rfl (hb hby d8_34) rfl ?_
    refine og_goto (pc' := 66) X15 hx (hb hby d8_37) (by decide) (by decide) ?_
    refine og_goto (pc' := 4) X15 hx (hb hby d8_66) (by decide) (by decide) ?_
    exact J2 T15 _ X15 e15 N _ _ (Or.inr ⟨_, rfl⟩) hs_x4 ((own_fok1 (own_okb q25 q31)).symm.trans hr)
 refine og_iloadN X0 hx rfl (hb hby d8_4) rfl ?_
 refine og_aloadN X0 hx rfl rfl (hb hby d8_5) rfl ?_
 refine og_virtual (pc' := 9) (cells' := 0) (slots' := 0) (W := 1) X0 hx hZ (rm_len l Z a0 hw a1 ba kb (2 : Int32) _ cs hcs h0 n0 O E_a1 F_value_a1 F_coder_a1 V_ba S_CS) hown (ow38 hw) (ow39 hw) (own_nf hZ (ow41 hw)) (ow41 hw) (ow40 hw) (ow7 hw) (ow42 hw) (by decide) (by rw [hml]; rfl) e0 opd_17 [] [(.int 0)] rfl rfl rfl rfl (by decide) (by decide) rfl rfl (by decide) (by decide) E_a1 (hb hby d8_6) rfl (fun v26 T26 h26 L26 X26 e26 z26 => ?_)
 obtain ⟨rfl, Nq26, hq26⟩ := z26; replace e26 := e26.trans hq26; have N := Fr.app N Nq26
 refine og_icmp_ge (pc1 := 69) (pc2 := 12) X26 hx (hb hby d8_9) (by decide) (by decide) rfl (fun q => absurd q (by decide)) (fun _ => ?_)
 refine og_iloadN X26 hx rfl (hb hby d8_12) rfl ?_
 refine og_if_ge (pc1 := 69) (pc2 := 16) X26 hx (hb hby d8_13) (by decide) (by decide) rfl (fun q => absurd q (by decide)) (fun _ => ?_)
 refine og_aloadN X26 hx rfl rfl (hb hby d8_16) rfl ?_
 refine og_iloadN X26 hx rfl (hb hby d8_17) rfl ?_
 refine og_virtual (pc' := 21) (cells' := 0) (slots' := 0) (W := 0) X26 hx hZ (rm_ch l Z a0 hw a1 ba kb (2 : Int32) (0 : Int32) ⟨by decide, by decide⟩ _ c0 rfl (own_sm hc0 hsm.1) cs hcs fm hfm h0 n0 O E_a1 F_value_a1 F_coder_a1 V_ba S_CS S_FM) hown (ow48 hw) (ow49 hw) (own_nf hZ (ow51 hw)) (ow51 hw) (ow50 hw) (ow7 hw) (ow52 hw) (by decide) (by rw [hml]; rfl) e26 opd_18 [(.int 0)] [] rfl rfl rfl rfl (by decide) (by decide) rfl rfl (by decide) (by decide) E_a1 (hb hby d8_18) rfl (fun v27 T27 h27 L27 X27 e27 z27 => ?_)
 obtain ⟨rfl, Nq27, hq27⟩ := z27; replace e27 := e27.trans hq27; have N := Fr.app N Nq27
 refine og_istoreN (L' := #[.val (.ref a1), .val (.int (-1)), .val (.int 0), .val (.int c0), .unset]) X27 hx rfl (hb hby d8_21) rfl ?_
 refine og_iloadN X27 hx rfl (hb hby d8_22) rfl ?_
 refine og_bipush (v := 32) X27 hx rfl (hb hby d8_23) rfl ?_
 refine og_icmp_lt (pc1 := 40) (pc2 := 28) X27 hx (hb hby d8_25) (by decide) (by decide) rfl (fun hc25 => ?_) (fun hc25 => ?_)
 ·
  refine og_aloadN X27 hx rfl rfl (hb hby d8_40) rfl ?_
  refine og_iloadN X27 hx rfl (hb hby d8_41) rfl ?_
  refine og_virtual (pc' := 45) (cells' := 0) (slots' := 0) (W := 0) X27 hx hZ (rm_pL2_0 l Z a0 hw a1 ba kb c0 c1 hc0 hc1 cs hcs fm hfm hsm h0 n0 O E_a1 F_value_a1 F_coder_a1 V_ba S_CS S_FM) hown (ow70 hw) (ow71 hw) (own_nf hZ (ow73 hw)) (ow73 hw) (ow72 hw) (ow7 hw) (ow74 hw) (by decide) (by rw [hml]; rfl) e27 opd_0 [(.int 0)] [] rfl rfl rfl rfl (by decide) (by decide) rfl rfl (by decide) (by decide) E_a1 (hb hby d8_42) rfl (fun v28 T28 h28 L28 X28 e28 z28 => ?_)
  obtain ⟨rfl, Nq28, hq28⟩ := z28; replace e28 := e28.trans hq28; have N := Fr.app N Nq28
  refine og_istore (L' := #[.val (.ref a1), .val (.int (-1)), .val (.int 0), .val (.int c0), .val (.int c0)]) X28 hx rfl (hb hby d8_45) rfl ?_
  refine og_iload X28 hx rfl (hb hby d8_47) rfl ?_
  refine og_static (pc' := 52) (cells' := 0) (slots' := 0) (W := 0) X28 hx hZ (rm_ixc l Z a0 hw c0 h0 n0 O) hown (ow76 hw) (ow77 hw) (ow36 hw) (ow78 hw) (by decide) (by rw [hml]; rfl) e28 opd_19 [(.int c0)] [] rfl rfl rfl rfl (by decide) (by decide) rfl rfl (by decide) (by decide) (hb hby d8_49) rfl (fun v29 T29 h29 L29 X29 e29 z29 => ?_)
  obtain ⟨rb29, rfl, Nq29, hq29, hb29⟩ := z29; replace e29 := e29.trans hq29; have N := Fr.app N Nq29
  refine og_if_ne (pc1 := 58) (pc2 := 55) X29 hx (hb hby d8_52) (by decide) (by decide) rfl (fun hc52 => ?_) (fun hc52 => ?_)
  ·
   have hX := own_b1 hb29 hc52
   refine og_iloadN X29 hx rfl (hb hby d8_58) rfl ?_
   refine og_iload X29 hx rfl (hb hby d8_59) rfl ?_
   refine og_static (pc' := 64) (cells' := 0) (slots' := 0) (W := 1) X29 hx hZ (rm_cct l Z a0 hw c0 h0 n0 O) hown (ow81 hw) (ow82 hw) (ow83 hw) (ow84 hw) (by decide) (by rw [hml]; rfl) e29 opd_0 [(.int c0)] [(.int 0)] rfl rfl rfl rfl (by decide) (by decide) rfl rfl (by decide) (by decide) (hb hby d8_61) rfl (fun v30 T30 h30 L30 X30 e30 z30 => ?_)
   obtain ⟨rc, rfl, Nq30, hq30, hrc⟩ := z30; replace e30 := e30.trans hq30; have N := Fr.app N Nq30
   have hrc : rc = 1 := own_cc1 hrc hc0
   subst hrc
   refine og_iadd X30 hx (hb hby d8_64) rfl ?_
   show OG p e below _ (T30.setTop (mkF m 65 #[.val (.ref a1), .val (.int (-1)), .val (.int 0), .val (.int c0), .val (.int c0)] [(.int 1)]))
   refine og_istoreN (L' := #[.val (.ref a1), .val (.int (-1)), .val (.int 1), .val (.int c0), .val (.int c0)]) X30 hx rfl (hb hby d8_65) rfl ?_
   refine og_goto (pc' := 4) X30 hx (hb hby d8_66) (by decide) (by decide) ?_
   exact J1 T30 _ X30 e30 N _ _ (Or.inr ⟨_, rfl⟩) (Or.inr ⟨_, rfl⟩) ((own_fok (own_nH hsm.1) (own_xk hc0 hX)).symm.trans hr)
  ·
   have hX := own_b0 hb29 hc52
   refine og_iload X29 hx rfl (hb hby d8_55) rfl ?_
   refine og_istoreN (L' := #[.val (.ref a1), .val (.int c0), .val (.int 0), .val (.int c0), .val (.int c0)]) X29 hx rfl (hb hby d8_57) rfl ?_
   refine og_iloadN X29 hx rfl (hb hby d8_58) rfl ?_
   refine og_iload X29 hx rfl (hb hby d8_59) rfl ?_
   refine og_static (pc' := 64) (cells' := 0) (slots' := 0) (W := 1) X29 hx hZ (rm_cct l Z a0 hw c0 h0 n0 O) hown (ow81 hw) (ow82 hw) (ow83 hw) (ow84 hw) (by decide) (by rw [hml]; rfl) e29 opd_0 [(.int c0)] [(.int 0)] rfl rfl rfl rfl (by decide) (by decide) rfl rfl (by decide) (by decide) (hb hby d8_61) rfl (fun v31 T31 h31 L31 X31 e31 z31 => ?_)
   obtain ⟨rc, rfl, Nq31, hq31, hrc⟩ := z31; replace e31 := e31.trans hq31; have N := Fr.app N Nq31
   have hrc : rc = 1 := own_cc1 hrc hc0
   subst hrc
   refine og_iadd X31 hx (hb hby d8_64) rfl ?_
   show OG p e below _ (T31.setTop (mkF m 65 #[.val (.ref a1), .val (.int c0), .val (.int 0), .val (.int c0), .val (.int c0)] [(.int 1)]))
   refine og_istoreN (L' := #[.val (.ref a1), .val (.int c0), .val (.int 1), .val (.int c0), .val (.int c0)]) X31 hx rfl (hb hby d8_65) rfl ?_
   refine og_goto (pc' := 4) X31 hx (hb hby d8_66) (by decide) (by decide) ?_
   refine og_iloadN X31 hx rfl (hb hby d8_4) rfl ?_
   refine og_aloadN X31 hx rfl rfl (hb hby d8_5) rfl ?_
   refine og_virtual (pc' := 9) (cells' := 0) (slots' := 0) (W := 1) X31 hx hZ (rm_len l Z a0 hw a1 ba kb (2 : Int32) _ cs hcs h0 n0 O E_a1 F_value_a1 F_coder_a1 V_ba S_CS) hown (ow38 hw) (ow39 hw) (own_nf hZ (ow41 hw)) (ow41 hw) (ow40 hw) (ow7 hw) (ow42 hw) (by decide) (by rw [hml]; rfl) e31 opd_17 [] [(.int 1)] rfl rfl rfl rfl (by decide) (by decide) rfl rfl (by decide) (by decide) E_a1 (hb hby d8_6) rfl (fun v32 T32 h32 L32 X32 e32 z32 => ?_)
   obtain ⟨rfl, Nq32, hq32⟩ := z32; replace e32 := e32.trans hq32; have N := Fr.app N Nq32
   refine og_icmp_ge (pc1 := 69) (pc2 := 12) X32 hx (hb hby d8_9) (by decide) (by decide) rfl (fun q => absurd q (by decide)) (fun _ => ?_)
   refine og_iloadN X32 hx rfl (hb hby d8_12) rfl ?_
   refine og_if_ge (pc1 := 69) (pc2 := 16) X32 hx (hb hby d8_13) (by decide) (by decide) rfl (fun _ => ?_) (fun q => absurd q (own_nn hc0))
   refine og_iloadN X32 hx rfl (hb hby d8_69) rfl ?_
   refine og_retI X32 hx hlk hret (hb hby d8_70) (by decide) (by decide) ?_
   rw [e32]; exact ⟨by rw [← hr, own_fbad (own_nH hsm.1) (own_kx hc0 hX)], N, rfl⟩
 ·
  refine og_iloadN X27 hx rfl (hb hby d8_28) rfl ?_
  refine og_ldc X27 hx hZ hown (ow100 hw) (hb hby d8_29) rfl ?_
  refine og_icmp_ge (pc1 := 40) (pc2 := 34) X27 hx (hb hby d8_31) (by decide) (by decide) rfl (fun hc31 => ?_) (fun hc31 => ?_)
  ·
   have q25 := own_i2 hc25 (show (32 : Int32).toInt = 32 by decide)
   refine og_aloadN X27 hx rfl rfl (hb hby d8_40) rfl ?_
   refine og_iloadN X27 hx rfl (hb hby d8_41) rfl ?_
   refine og_virtual (pc' := 45) (cells' := 0) (slots' := 0) (W := 0) X27 hx hZ (rm_pL2_0 l Z a0 hw a1 ba kb c0 c1 hc0 hc1 cs hcs fm hfm hsm h0 n0 O E_a1 F_value_a1 F_coder_a1 V_ba S_CS S_FM) hown (ow70 hw) (ow71 hw) (own_nf hZ (ow73 hw)) (ow73 hw) (ow72 hw) (ow7 hw) (ow74 hw) (by decide) (by rw [hml]; rfl) e27 opd_0 [(.int 0)] [] rfl rfl rfl rfl (by decide) (by decide) rfl rfl (by decide) (by decide) E_a1 (hb hby d8_42) rfl (fun v33 T33 h33 L33 X33 e33 z33 => ?_)
   obtain ⟨rfl, Nq33, hq33⟩ := z33; replace e33 := e33.trans hq33; have N := Fr.app N Nq33
   refine og_istore (L' := #[.val (.ref a1), .val (.int (-1)), .val (.int 0), .val (.int c0), .val (.int c0)]) X33 hx rfl (hb hby d8_45) rfl ?_
   refine og_iload X33 hx rfl (hb hby d8_47) rfl ?_
   refine og_static (pc' := 52) (cells' := 0) (slots' := 0) (W := 0) X33 hx hZ (rm_ixc l Z a0 hw c0 h0 n0 O) hown (ow76 hw) (ow77 hw) (ow36 hw) (ow78 hw) (by decide) (by rw [hml]; rfl) e33 opd_19 [(.int c0)] [] rfl rfl rfl rfl (by decide) (by decide) rfl rfl (by decide) (by decide) (hb hby d8_49) rfl (fun v34 T34 h34 L34 X34 e34 z34 => ?_)
   obtain ⟨rb34, rfl, Nq34, hq34, hb34⟩ := z34; replace e34 := e34.trans hq34; have N := Fr.app N Nq34
   refine og_if_ne (pc1 := 58) (pc2 := 55) X34 hx (hb hby d8_52) (by decide) (by decide) rfl (fun hc52 => ?_) (fun hc52 => ?_)
   ·
    have hX := own_b1 hb34 hc52
    refine og_iloadN X34 hx rfl (hb hby d8_58) rfl ?_
    refine og_iload X34 hx rfl (hb hby d8_59) rfl ?_
    refine og_static (pc' := 64) (cells' := 0) (slots' := 0) (W := 1) X34 hx hZ (rm_cct l Z a0 hw c0 h0 n0 O) hown (ow81 hw) (ow82 hw) (ow83 hw) (ow84 hw) (by decide) (by rw [hml]; rfl) e34 opd_0 [(.int c0)] [(.int 0)] rfl rfl rfl rfl (by decide) (by decide) rfl rfl (by decide) (by decide) (hb hby d8_61) rfl (fun v35 T35 h35 L35 X35 e35 z35 => ?_)
    obtain ⟨rc, rfl, Nq35, hq35, hrc⟩ := z35; replace e35 := e35.trans hq35; have N := Fr.app N Nq35
    have hrc : rc = 1 := own_cc1 hrc hc0
    subst hrc
    refine og_iadd X35 hx (hb hby d8_64) rfl ?_
    show OG p e below _ (T35.setTop (mkF m 65 #[.val (.ref a1), .val (.int (-1)), .val (.int 0), .val (.int c0), .val (.int c0)] [(.int 1)]))
    refine og_istoreN (L' := #[.val (.ref a1), .val (.int (-1)), .val (.int 1), .val (.int c0), .val (.int c0)]) X35 hx rfl (hb hby d8_65) rfl ?_
    refine og_goto (pc' := 4) X35 hx (hb hby d8_66) (by decide) (by decide) ?_
    exact J1 T35 _ X35 e35 N _ _ (Or.inr ⟨_, rfl⟩) (Or.inr ⟨_, rfl⟩) ((own_fok (own_nH hsm.1) (own_xk hc0 hX)).symm.trans hr)
   ·
    have hX := own_b0 hb34 hc52
    refine og_iload X34 hx rfl (hb hby d8_55) rfl ?_
    refine og_istoreN (L' := #[.val (.ref a1), .val (.int c0), .val (.int 0), .val (.int c0), .val (.int c0)]) X34 hx rfl (hb hby d8_57) rfl ?_
    refine og_iloadN X34 hx rfl (hb hby d8_58) rfl ?_
    refine og_iload X34 hx rfl (hb hby d8_59) rfl ?_
    refine og_static (pc' := 64) (cells' := 0) (slots' := 0) (W := 1) X34 hx hZ (rm_cct l Z a0 hw c0 h0 n0 O) hown (ow81 hw) (ow82 hw) (ow83 hw) (ow84 hw) (by decide) (by rw [hml]; rfl) e34 opd_0 [(.int c0)] [(.int 0)] rfl rfl rfl rfl (by decide) (by decide) rfl rfl (by decide) (by decide) (hb hby d8_61) rfl (fun v36 T36 h36 L36 X36 e36 z36 => ?_)
    obtain ⟨rc, rfl, Nq36, hq36, hrc⟩ := z36; replace e36 := e36.trans hq36; have N := Fr.app N Nq36
    have hrc : rc = 1 := own_cc1 hrc hc0
    subst hrc
    refine og_iadd X36 hx (hb hby d8_64) rfl ?_
    show OG p e below _ (T36.setTop (mkF m 65 #[.val (.ref a1), .val (.int c0), .val (.int 0), .val (.int c0), .val (.int c0)] [(.int 1)]))
    refine og_istoreN (L' := #[.val (.ref a1), .val (.int c0), .val (.int 1), .val (.int c0), .val (.int c0)]) X36 hx rfl (hb hby d8_65) rfl ?_
    refine og_goto (pc' := 4) X36 hx (hb hby d8_66) (by decide) (by decide) ?_
    refine og_iloadN X36 hx rfl (hb hby d8_4) rfl ?_
    refine og_aloadN X36 hx rfl rfl (hb hby d8_5) rfl ?_
    refine og_virtual (pc' := 9) (cells' := 0) (slots' := 0) (W := 1) X36 hx hZ (rm_len l Z a0 hw a1 ba kb (2 : Int32) _ cs hcs h0 n0 O E_a1 F_value_a1 F_coder_a1 V_ba S_CS) hown (ow38 hw) (ow39 hw) (own_nf hZ (ow41 hw)) (ow41 hw) (ow40 hw) (ow7 hw) (ow42 hw) (by decide) (by rw [hml]; rfl) e36 opd_17 [] [(.int 1)] rfl rfl rfl rfl (by decide) (by decide) rfl rfl (by decide) (by decide) E_a1 (hb hby d8_6) rfl (fun v37 T37 h37 L37 X37 e37 z37 => ?_)
    obtain ⟨rfl, Nq37, hq37⟩ := z37; replace e37 := e37.trans hq37; have N := Fr.app N Nq37
    refine og_icmp_ge (pc1 := 69) (pc2 := 12) X37 hx (hb hby d8_9) (by decide) (by decide) rfl (fun q => absurd q (by decide)) (fun _ => ?_)
    refine og_iloadN X37 hx rfl (hb hby d8_12) rfl ?_
    refine og_if_ge (pc1 := 69) (pc2 := 16) X37 hx (hb hby d8_13) (by decide) (by decide) rfl (fun _ => ?_) (fun q => absurd q (own_nn hc0))
    refine og_iloadN X37 hx rfl (hb hby d8_69) rfl ?_
    refine og_retI X37 hx hlk hret (hb hby d8_70) (by decide) (by decide) ?_
    rw [e37]; exact ⟨by rw [← hr, own_fbad (own_nH hsm.1) (own_kx hc0 hX)], N, rfl⟩
  ·
   have q25 := own_i2 hc25 (show (32 : Int32).toInt = 32 by decide)
   have q31 := own_i1 hc31 (show (55296 : Int32).toInt = 55296 by decide)
   refine og_iinc (L' := #[.val (.ref a1), .val (.int (-1)), .val (.int 1), .val (.int c0), .unset]) (w := 1) X27 hx rfl rfl rfl (hb hby d8_34) rfl ?_
   refine og_goto (pc' := 66) X27 hx (hb hby d8_37) (by decide) (by decide) ?_
   refine og_goto (pc' := 4) X27 hx (hb hby d8_66) (by decide) (by decide) ?_
   exact J1 T27 _ X27 e27 N _ _ (Or.inr ⟨_, rfl⟩) (Or.inl rfl) ((own_fok (own_nHb q31) (own_okb q25 q31)).symm.trans hr)
theorem rm_fcU2 (l : Launch) (Z : State) (a0 : Array Value) (hw : HW a0 Z) (a1 ba : Addr) (kb : ClassId) (c0 c1 : Int32) (hc0 : 0 ≤ c0.toInt ∧ c0.toInt ≤ 65535) (hc1 : 0 ≤ c1.toInt ∧ c1.toInt ≤ 65535) (cs : Int32) (hcs : ¬ cs = 0) (fm : Value) (hfm : fm.isRef = true) (r : Int32) (hr : own_fc [c0, c1] = r) (h0 : Heap) (n0 : Nat) (O : Old Z n0 h0) (E_a1 : Exa Z h0 a1 "java/lang/String") (F_value_a1 : Fld Z h0 a1 "java/lang/String" "value" "[B" (.ref ba)) (F_coder_a1 : Fld Z h0 a1 "java/lang/String" "coder" "B" (.int 1)) (V_ba : Arv Z h0 ba kb .byte (4 : Int32) [(.int c0.toInt8.toInt32), (.int (c0 >>> ((8 : Int32) &&& 31)).toInt8.toInt32), (.int c1.toInt8.toInt32), (.int (c1 >>> ((8 : Int32) &&& 31)).toInt8.toInt32)] (.int 0)) (S_CS : Sta Z Z.heap "java/lang/String" "COMPACT_STRINGS" "Z" (.int cs)) (S_FM : Sta Z Z.heap "jdk/internal/util/Preconditions" "SIOOBE_FORMATTER" "Ljava/util/function/BiFunction;" fm) (S__assertionsDisabled : Sta Z Z.heap "java/lang/StringUTF16" "$assertionsDisabled" "Z" (.int 1)) (S_HI_BYTE_SHIFT : Sta Z Z.heap "java/lang/StringUTF16" "HI_BYTE_SHIFT" "I" (.int 0)) (S_LO_BYTE_SHIFT : Sta Z Z.heap "java/lang/StringUTF16" "LO_BYTE_SHIFT" "I" (.int 8)) :
  Con l Z (⟨"com/example/neith/neith/io/XmlOutput", "forbiddenCharacter", "(Ljava/lang/String;)I"⟩ : MethodName) prog_18_method_3_code 5 (some .int) ({ frames := 5, cells := 0, slots := 0, locals := 66 } : Room) #[(.ref a1)] h0 (fun v h L => v = some (.int r) ∧ Fr n0 L ∧ h = h0) := by
 refine own_startC opn_8 ?_
 intro p e s m below meth c T0 X0 hx hby hml hZ hown hnm hret hlk e0
 have N := Fr.nil n0; have K := Keep.refl h0 []
 refine OG.cast (oef14 m a1) ?_
 refine og_iconst (v := -1) X0 hx rfl (hb hby d8_0) rfl ?_
 refine og_istoreN (L' := #[.val (.ref a1), .val (.int (-1)), .unset, .unset, .unset]) X0 hx rfl (hb hby d8_1) rfl ?_
 refine og_iconst (v := 0) X0 hx rfl (hb hby d8_2) rfl ?_
 refine og_istoreN (L' := #[.val (.ref a1), .val (.int (-1)), .val (.int 0), .unset, .unset]) X0 hx rfl (hb hby d8_3) rfl ?_
 have J2 : ∀ (T11 : State) (l11 : List Loc) (X11 : Stand p l e ({ frames := 5, cells := 0, slots := 0, locals := 66 } : Room) s m #[(.ref a1)] below meth c T11 l11 0 0) (e11 : T11.heap = h0) (N : Fr n0 l11) (x3 x4 : Slot) (hs_x3 : x3 = .unset ∨ ∃ v, x3 = .val (.int v)) (hs_x4 : x4 = .unset ∨ ∃ v, x4 = .val (.int v)) (hr : own_fc [] = r), OG p e below (OFin s (fun v h L => v = some (.int r) ∧ Fr n0 L ∧ h = h0) 0 0) (T11.setTop (mkF m 4 #[.val (.ref a1), .val (.int (-1)), .val (.int 2), x3, x4] [])) := by
  intro T11 l11 X11 e11 N x3 x4 hs_x3 hs_x4 hr
  refine og_iloadN X11 hx rfl (hb hby d8_4) rfl ?_
  refine og_aloadN X11 hx rfl rfl (hb hby d8_5) rfl ?_
  refine og_virtual (pc' := 9) (cells' := 0) (slots' := 0) (W := 1) X11 hx hZ (rm_lenU2 l Z a0 hw a1 ba kb c0 c1 hc0 hc1 cs hcs h0 n0 O E_a1 F_value_a1 F_coder_a1 V_ba S_CS) hown (ow38 hw) (ow39 hw) (own_nf hZ (ow41 hw)) (ow41 hw) (ow40 hw) (ow7 hw) (ow42 hw) (by decide) (by rw [hml]; rfl) e11 opd_17 [] [(.int 2)] rfl rfl rfl rfl (by decide) (by decide) rfl rfl (by decide) (by decide) E_a1 (hb hby d8_6) rfl (fun v12 T12 h12 L12 X12 e12 z12 => ?_)
  obtain ⟨rfl, Nq12, hq12⟩ := z12; replace e12 := e12.trans hq12; have N := Fr.app N Nq12
  refine og_icmp_ge (pc1 := 69) (pc2 := 12) X12 hx (hb hby d8_9) (by decide) (by decide) rfl (fun _ => ?_) (fun q => absurd q (by decide))
  refine og_iloadN X12 hx rfl (hb hby d8_69) rfl ?_
  refine og_retI X12 hx hlk hret (hb hby d8_70) (by decide) (by decide) ?_
  rw [e12]; exact ⟨by rw [← hr]; rfl, N, rfl⟩
 have J1 : ∀ (T13 : State) (l13 : List Loc) (X13 : Stand p l e ({ frames := 5, cells := 0, slots := 0, locals := 66 } : Room) s m #[(.ref a1)] below meth c T13 l13 0 0) (e13 : T13.heap = h0) (N : Fr n0 l13) (x3 x4 : Slot) (hs_x3 : x3 = .unset ∨ ∃ v, x3 = .val (.int v)) (hs_x4 : x4 = .unset ∨ ∃ v, x4 = .val (.int v)) (hr : own_fc [c1] = r), OG p e below (OFin s (fun v h L => v = some (.int r) ∧ Fr n0 L ∧ h = h0) 0 0) (T13.setTop (mkF m 4 #[.val (.ref a1), .val (.int (-1)), .val (.int 1), x3, x4] [])) := by
  intro T13 l13 X13 e13 N x3 x4 hs_x3 hs_x4 hr
  refine og_iloadN X13 hx rfl (hb hby d8_4) rfl ?_
  refine og_aloadN X13 hx rfl rfl (hb hby d8_5) rfl ?_
  refine og_virtual (pc' := 9) (cells' := 0) (slots' := 0) (W := 1) X13 hx hZ (rm_lenU2 l Z a0 hw a1 ba kb c0 c1 hc0 hc1 cs hcs h0 n0 O E_a1 F_value_a1 F_coder_a1 V_ba S_CS) hown (ow38 hw) (ow39 hw) (own_nf hZ (ow41 hw)) (ow41 hw) (ow40 hw) (ow7 hw) (ow42 hw) (by decide) (by rw [hml]; rfl) e13 opd_17 [] [(.int 1)] rfl rfl rfl rfl (by decide) (by decide) rfl rfl (by decide) (by decide) E_a1 (hb hby d8_6) rfl (fun v14 T14 h14 L14 X14 e14 z14 => ?_)
  obtain ⟨rfl, Nq14, hq14⟩ := z14; replace e14 := e14.trans hq14; have N := Fr.app N Nq14
  refine og_icmp_ge (pc1 := 69) (pc2 := 12) X14 hx (hb hby d8_9) (by decide) (by decide) rfl (fun q => absurd q (by decide)) (fun _ => ?_)
  refine og_iloadN X14 hx rfl (hb hby d8_12) rfl ?_
  refine og_if_ge (pc1 := 69) (pc2 := 16) X14 hx (hb hby d8_13) (by decide) (by decide) rfl (fun q => absurd q (by decide)) (fun _ => ?_)
  refine og_aloadN X14 hx rfl rfl (hb hby d8_16) rfl ?_
  refine og_iloadN X14 hx rfl (hb hby d8_17) rfl ?_
  refine og_virtual (pc' := 21) (cells' := 0) (slots' := 0) (W := 0) X14 hx hZ (rm_cU2_1 l Z a0 hw a1 ba kb c0 c1 hc0 hc1 cs hcs fm hfm h0 n0 O E_a1 F_value_a1 F_coder_a1 V_ba S_CS S_FM S__assertionsDisabled S_HI_BYTE_SHIFT S_LO_BYTE_SHIFT) hown (ow48 hw) (ow49 hw) (own_nf hZ (ow51 hw)) (ow51 hw) (ow50 hw) (ow7 hw) (ow52 hw) (by decide) (by rw [hml]; rfl) e14 opd_18 [(.int 1)] [] rfl rfl rfl rfl (by decide) (by decide) rfl rfl (by decide) (by decide) E_a1 (hb hby d8_18) rfl (fun v15 T15 h15 L15 X15 e15 z15 => ?_)
  obtain ⟨rfl, Nq15, hq15⟩ := z15; replace e15 := e15.trans hq15; have N := Fr.app N Nq15
  refine og_istoreN (L' := #[.val (.ref a1), .val (.int (-1)), .val (.int 1), .val (.int c1), x4]) X15 hx (by rcases hs_x3 with rfl | ⟨_, rfl⟩ <;> rfl) (hb hby d8_21) rfl ?_
  refine og_iloadN X15 hx rfl (hb hby d8_22) rfl ?_
  refine og_bipush (v := 32) X15 hx rfl (hb hby d8_23) rfl ?_
  refine og_icmp_lt (pc1 := 40) (pc2 := 28) X15 hx (hb hby d8_25) (by decide) (by decide) rfl (fun hc25 => ?_) (fun hc25 => ?_)
  ·
   refine og_aloadN X15 hx rfl rfl (hb hby d8_40) rfl ?_
   refine og_iloadN X15 hx rfl (hb hby d8_41) rfl ?_
   refine og_virtual (pc' := 45) (cells' := 0) (slots' := 0) (W := 0) X15 hx hZ (rm_pU2_1 l Z a0 hw a1 ba kb c0 c1 hc0 hc1 cs hcs fm hfm h0 n0 O E_a1 F_value_a1 F_coder_a1 V_ba S_CS S_FM S__assertionsDisabled S_HI_BYTE_SHIFT S_LO_BYTE_SHIFT) hown (ow70 hw) (ow71 hw) (own_nf hZ (ow73 hw)) (ow73 hw) (ow72 hw) (ow7 hw) (ow74 hw) (by decide) (by rw [hml]; rfl) e15 opd_0 [(.int 1)] [] rfl rfl rfl rfl (by decide) (by decide) rfl rfl (by decide) (by decide) E_a1 (hb hby d8_42) rfl (fun v16 T16 h16 L16 X16 e16 z16 => ?_)
   obtain ⟨rp, rfl, Nq16, hq16, hrp⟩ := z16; replace e16 := e16.trans hq16; have N := Fr.app N Nq16
   subst rp
   refine og_istore (L' := #[.val (.ref a1), .val (.int (-1)), .val (.int 1), .val (.int c1), .val (.int c1)]) X16 hx (by rcases hs_x4 with rfl | ⟨_, rfl⟩ <;> rfl) (hb hby d8_45) rfl ?_
   refine og_iload X16 hx rfl (hb hby d8_47) rfl ?_
   refine og_static (pc' := 52) (cells' := 0) (slots' := 0) (W := 0) X16 hx hZ (rm_ixc l Z a0 hw c1 h0 n0 O) hown (ow76 hw) (ow77 hw) (ow36 hw) (ow78 hw) (by decide) (by rw [hml]; rfl) e16 opd_19 [(.int c1)] [] rfl rfl rfl rfl (by decide) (by decide) rfl rfl (by decide) (by decide) (hb hby d8_49) rfl (fun v17 T17 h17 L17 X17 e17 z17 => ?_)
   obtain ⟨rb17, rfl, Nq17, hq17, hb17⟩ := z17; replace e17 := e17.trans hq17; have N := Fr.app N Nq17
   refine og_if_ne (pc1 := 58) (pc2 := 55) X17 hx (hb hby d8_52) (by decide) (by decide) rfl (fun hc52 => ?_) (fun hc52 => ?_)
   ·
    have hX := own_b1 hb17 hc52
    refine og_iloadN X17 hx rfl (hb hby d8_58) rfl ?_
    refine og_iload X17 hx rfl (hb hby d8_59) rfl ?_
    refine og_static (pc' := 64) (cells' := 0) (slots' := 0) (W := 1) X17 hx hZ (rm_cct l Z a0 hw c1 h0 n0 O) hown (ow81 hw) (ow82 hw) (ow83 hw) (ow84 hw) (by decide) (by rw [hml]; rfl) e17 opd_0 [(.int c1)] [(.int 1)] rfl rfl rfl rfl (by decide) (by decide) rfl rfl (by decide) (by decide) (hb hby d8_61) rfl (fun v18 T18 h18 L18 X18 e18 z18 => ?_)
    obtain ⟨rc, rfl, Nq18, hq18, hrc⟩ := z18; replace e18 := e18.trans hq18; have N := Fr.app N Nq18
    have hrc : rc = 1 := own_cc1 hrc hc1
    subst hrc
    refine og_iadd X18 hx (hb hby d8_64) rfl ?_
    show OG p e below _ (T18.setTop (mkF m 65 #[.val (.ref a1), .val (.int (-1)), .val (.int 1), .val (.int c1), .val (.int c1)] [(.int 2)]))
    refine og_istoreN (L' := #[.val (.ref a1), .val (.int (-1)), .val (.int 2), .val (.int c1), .val (.int c1)]) X18 hx rfl (hb hby d8_65) rfl ?_
    refine og_goto (pc' := 4) X18 hx (hb hby d8_66) (by decide) (by decide) ?_
    exact J2 T18 _ X18 e18 N _ _ (Or.inr ⟨_, rfl⟩) (Or.inr ⟨_, rfl⟩) ((own_fok1 (own_xk hc1 hX)).symm.trans hr)
   ·
    have hX := own_b0 hb17 hc52
    refine og_iload X17 hx rfl (hb hby d8_55) rfl ?_
    refine og_istoreN (L' := #[.val (.ref a1), .val (.int c1), .val (.int 1), .val (.int c1), .val (.int c1)]) X17 hx rfl (hb hby d8_57) rfl ?_
    refine og_iloadN X17 hx rfl (hb hby d8_58) rfl ?_
    refine og_iload X17 hx rfl (hb hby d8_59) rfl ?_
    refine og_static (pc' := 64) (cells' := 0) (slots' := 0) (W := 1) X17 hx hZ (rm_cct l Z a0 hw c1 h0 n0 O) hown (ow81 hw) (ow82 hw) (ow83 hw) (ow84 hw) (by decide) (by rw [hml]; rfl) e17 opd_0 [(.int c1)] [(.int 1)] rfl rfl rfl rfl (by decide) (by decide) rfl rfl (by decide) (by decide) (hb hby d8_61) rfl (fun v19 T19 h19 L19 X19 e19 z19 => ?_)
    obtain ⟨rc, rfl, Nq19, hq19, hrc⟩ := z19; replace e19 := e19.trans hq19; have N := Fr.app N Nq19
    have hrc : rc = 1 := own_cc1 hrc hc1
    subst hrc
    refine og_iadd X19 hx (hb hby d8_64) rfl ?_
    show OG p e below _ (T19.setTop (mkF m 65 #[.val (.ref a1), .val (.int c1), .val (.int 1), .val (.int c1), .val (.int c1)] [(.int 2)]))
    refine og_istoreN (L' := #[.val (.ref a1), .val (.int c1), .val (.int 2), .val (.int c1), .val (.int c1)]) X19 hx rfl (hb hby d8_65) rfl ?_
    refine og_goto (pc' := 4) X19 hx (hb hby d8_66) (by decide) (by decide) ?_
    refine og_iloadN X19 hx rfl (hb hby d8_4) rfl ?_
    refine og_aloadN X19 hx rfl rfl (hb hby d8_5) rfl ?_
    refine og_virtual (pc' := 9) (cells' := 0) (slots' := 0) (W := 1) X19 hx hZ (rm_lenU2 l Z a0 hw a1 ba kb c0 c1 hc0 hc1 cs hcs h0 n0 O E_a1 F_value_a1 F_coder_a1 V_ba S_CS) hown (ow38 hw) (ow39 hw) (own_nf hZ (ow41 hw)) (ow41 hw) (ow40 hw) (ow7 hw) (ow42 hw) (by decide) (by rw [hml]; rfl) e19 opd_17 [] [(.int 2)] rfl rfl rfl rfl (by decide) (by decide) rfl rfl (by decide) (by decide) E_a1 (hb hby d8_6) rfl (fun v20 T20 h20 L20 X20 e20 z20 => ?_)
    obtain ⟨rfl, Nq20, hq20⟩ := z20; replace e20 := e20.trans hq20; have N := Fr.app N Nq20
    refine og_icmp_ge (pc1 := 69) (pc2 := 12) X20 hx (hb hby d8_9) (by decide) (by decide) rfl (fun _ => ?_) (fun q => absurd q (by decide))
    refine og_iloadN X20 hx rfl (hb hby d8_69) rfl ?_
    refine og_retI X20 hx hlk hret (hb hby d8_70) (by decide) (by decide) ?_
    rw [e20]; exact ⟨by rw [← hr, own_fbad1 (own_kx hc1 hX)], N, rfl⟩
  ·
   refine og_iloadN X15 hx rfl (hb hby d8_28) rfl ?_
   refine og_ldc X15 hx hZ hown (ow100 hw) (hb hby d8_29) rfl ?_
   refine og_icmp_ge (pc1 := 40) (pc2 := 34) X15 hx (hb hby d8_31) (by decide) (by decide) rfl (fun hc31 => ?_) (fun hc31 => ?_)
   ·
    have q25 := own_i2 hc25 (show (32 : Int32).toInt = 32 by decide)
    refine og_aloadN X15 hx rfl rfl (hb hby d8_40) rfl ?_
    refine og_iloadN X15 hx rfl (hb hby d8_41) rfl ?_
    refine og_virtual (pc' := 45) (cells' := 0) (slots' := 0) (W := 0) X15 hx hZ (rm_pU2_1 l Z a0 hw a1 ba kb c0 c1 hc0 hc1 cs hcs fm hfm h0 n0 O E_a1 F_value_a1 F_coder_a1 V_ba S_CS S_FM S__assertionsDisabled S_HI_BYTE_SHIFT S_LO_BYTE_SHIFT) hown (ow70 hw) (ow71 hw) (own_nf hZ (ow73 hw)) (ow73 hw) (ow72 hw) (ow7 hw) (ow74 hw) (by decide) (by rw [hml]; rfl) e15 opd_0 [(.int 1)] [] rfl rfl rfl rfl (by decide) (by decide) rfl rfl (by decide) (by decide) E_a1 (hb hby d8_42) rfl (fun v21 T21 h21 L21 X21 e21 z21 => ?_)
    obtain ⟨rp, rfl, Nq21, hq21, hrp⟩ := z21; replace e21 := e21.trans hq21; have N := Fr.app N Nq21
    subst rp
    refine og_istore (L' := #[.val (.ref a1), .val (.int (-1)), .val (.int 1), .val (.int c1), .val (.int c1)]) X21 hx (by rcases hs_x4 with rfl | ⟨_, rfl⟩ <;> rfl) (hb hby d8_45) rfl ?_
    refine og_iload X21 hx rfl (hb hby d8_47) rfl ?_
    refine og_static (pc' := 52) (cells' := 0) (slots' := 0) (W := 0) X21 hx hZ (rm_ixc l Z a0 hw c1 h0 n0 O) hown (ow76 hw) (ow77 hw) (ow36 hw) (ow78 hw) (by decide) (by rw [hml]; rfl) e21 opd_19 [(.int c1)] [] rfl rfl rfl rfl (by decide) (by decide) rfl rfl (by decide) (by decide) (hb hby d8_49) rfl (fun v22 T22 h22 L22 X22 e22 z22 => ?_)
    obtain ⟨rb22, rfl, Nq22, hq22, hb22⟩ := z22; replace e22 := e22.trans hq22; have N := Fr.app N Nq22
    refine og_if_ne (pc1 := 58) (pc2 := 55) X22 hx (hb hby d8_52) (by decide) (by decide) rfl (fun hc52 => ?_) (fun hc52 => ?_)
    ·
     have hX := own_b1 hb22 hc52
     refine og_iloadN X22 hx rfl (hb hby d8_58) rfl ?_
     refine og_iload X22 hx rfl (hb hby d8_59) rfl ?_
     refine og_static (pc' := 64) (cells' := 0) (slots' := 0) (W := 1) X22 hx hZ (rm_cct l Z a0 hw c1 h0 n0 O) hown (ow81 hw) (ow82 hw) (ow83 hw) (ow84 hw) (by decide) (by rw [hml]; rfl) e22 opd_0 [(.int c1)] [(.int 1)] rfl rfl rfl rfl (by decide) (by decide) rfl rfl (by decide) (by decide) (hb hby d8_61) rfl (fun v23 T23 h23 L23 X23 e23 z23 => ?_)
     obtain ⟨rc, rfl, Nq23, hq23, hrc⟩ := z23; replace e23 := e23.trans hq23; have N := Fr.app N Nq23
     have hrc : rc = 1 := own_cc1 hrc hc1
     subst hrc
     refine og_iadd X23 hx (hb hby d8_64) rfl ?_
     show OG p e below _ (T23.setTop (mkF m 65 #[.val (.ref a1), .val (.int (-1)), .val (.int 1), .val (.int c1), .val (.int c1)] [(.int 2)]))
     refine og_istoreN (L' := #[.val (.ref a1), .val (.int (-1)), .val (.int 2), .val (.int c1), .val (.int c1)]) X23 hx rfl (hb hby d8_65) rfl ?_
     refine og_goto (pc' := 4) X23 hx (hb hby d8_66) (by decide) (by decide) ?_
     exact J2 T23 _ X23 e23 N _ _ (Or.inr ⟨_, rfl⟩) (Or.inr ⟨_, rfl⟩) ((own_fok1 (own_xk hc1 hX)).symm.trans hr)
    ·
     have hX := own_b0 hb22 hc52
     refine og_iload X22 hx rfl (hb hby d8_55) rfl ?_
     refine og_istoreN (L' := #[.val (.ref a1), .val (.int c1), .val (.int 1), .val (.int c1), .val (.int c1)]) X22 hx rfl (hb hby d8_57) rfl ?_
     refine og_iloadN X22 hx rfl (hb hby d8_58) rfl ?_
     refine og_iload X22 hx rfl (hb hby d8_59) rfl ?_
     refine og_static (pc' := 64) (cells' := 0) (slots' := 0) (W := 1) X22 hx hZ (rm_cct l Z a0 hw c1 h0 n0 O) hown (ow81 hw) (ow82 hw) (ow83 hw) (ow84 hw) (by decide) (by rw [hml]; rfl) e22 opd_0 [(.int c1)] [(.int 1)] rfl rfl rfl rfl (by decide) (by decide) rfl rfl (by decide) (by decide) (hb hby d8_61) rfl (fun v24 T24 h24 L24 X24 e24 z24 => ?_)
     obtain ⟨rc, rfl, Nq24, hq24, hrc⟩ := z24; replace e24 := e24.trans hq24; have N := Fr.app N Nq24
     have hrc : rc = 1 := own_cc1 hrc hc1
     subst hrc
     refine og_iadd X24 hx (hb hby d8_64) rfl ?_
     show OG p e below _ (T24.setTop (mkF m 65 #[.val (.ref a1), .val (.int c1), .val (.int 1), .val (.int c1), .val (.int c1)] [(.int 2)]))
     refine og_istoreN (L' := #[.val (.ref a1), .val (.int c1), .val (.int 2), .val (.int c1), .val (.int c1)]) X24 hx rfl (hb hby d8_65) rfl ?_
     refine og_goto (pc' := 4) X24 hx (hb hby d8_66) (by decide) (by decide) ?_
     refine og_iloadN X24 hx rfl (hb hby d8_4) rfl ?_
     refine og_aloadN X24 hx rfl rfl (hb hby d8_5) rfl ?_
     refine og_virtual (pc' := 9) (cells' := 0) (slots' := 0) (W := 1) X24 hx hZ (rm_lenU2 l Z a0 hw a1 ba kb c0 c1 hc0 hc1 cs hcs h0 n0 O E_a1 F_value_a1 F_coder_a1 V_ba S_CS) hown (ow38 hw) (ow39 hw) (own_nf hZ (ow41 hw)) (ow41 hw) (ow40 hw) (ow7 hw) (ow42 hw) (by decide) (by rw [hml]; rfl) e24 opd_17 [] [(.int 2)] rfl rfl rfl rfl (by decide) (by decide) rfl rfl (by decide) (by decide) E_a1 (hb hby d8_6) rfl (fun v25 T25 h25 L25 X25 e25 z25 => ?_)
     obtain ⟨rfl, Nq25, hq25⟩ := z25; replace e25 := e25.trans hq25; have N := Fr.app N Nq25
     refine og_icmp_ge (pc1 := 69) (pc2 := 12) X25 hx (hb hby d8_9) (by decide) (by decide) rfl (fun _ => ?_) (fun q => absurd q (by decide))
     refine og_iloadN X25 hx rfl (hb hby d8_69) rfl ?_
     refine og_retI X25 hx hlk hret (hb hby d8_70) (by decide) (by decide) ?_
     rw [e25]; exact ⟨by rw [← hr, own_fbad1 (own_kx hc1 hX)], N, rfl⟩
   ·
    have q25 := own_i2 hc25 (show (32 : Int32).toInt = 32 by decide)
    have q31 := own_i1 hc31 (show (55296 : Int32).toInt = 55296 by decide)
    refine og_iinc (L' := #[.val (.ref a1), .val (.int (-1)), .val (.int 2), .val (.int c1), x4]) (w := 1) X15 hx rfl rfl rfl (hb hby d8_34) rfl ?_
    refine og_goto (pc' := 66) X15 hx (hb hby d8_37) (by decide) (by decide) ?_
    refine og_goto (pc' := 4) X15 hx (hb hby d8_66) (by decide) (by decide) ?_
    exact J2 T15 _ X15 e15 N _ _ (Or.inr ⟨_, rfl⟩) hs_x4 ((own_fok1 (own_okb q25 q31)).symm.trans hr)
 refine og_iloadN X0 hx rfl (hb hby d8_4) rfl ?_
 refine og_aloadN X0 hx rfl rfl (hb hby d8_5) rfl ?_
 refine og_virtual (pc' := 9) (cells' := 0) (slots' := 0) (W := 1) X0 hx hZ (rm_lenU2 l Z a0 hw a1 ba kb c0 c1 hc0 hc1 cs hcs h0 n0 O E_a1 F_value_a1 F_coder_a1 V_ba S_CS) hown (ow38 hw) (ow39 hw) (own_nf hZ (ow41 hw)) (ow41 hw) (ow40 hw) (ow7 hw) (ow42 hw) (by decide) (by rw [hml]; rfl) e0 opd_17 [] [(.int 0)] rfl rfl rfl rfl (by decide) (by decide) rfl rfl (by decide) (by decide) E_a1 (hb hby d8_6) rfl (fun v26 T26 h26 L26 X26 e26 z26 => ?_)
 obtain ⟨rfl, Nq26, hq26⟩ := z26; replace e26 := e26.trans hq26; have N := Fr.app N Nq26
 refine og_icmp_ge (pc1 := 69) (pc2 := 12) X26 hx (hb hby d8_9) (by decide) (by decide) rfl (fun q => absurd q (by decide)) (fun _ => ?_)
 refine og_iloadN X26 hx rfl (hb hby d8_12) rfl ?_
 refine og_if_ge (pc1 := 69) (pc2 := 16) X26 hx (hb hby d8_13) (by decide) (by decide) rfl (fun q => absurd q (by decide)) (fun _ => ?_)
 refine og_aloadN X26 hx rfl rfl (hb hby d8_16) rfl ?_
 refine og_iloadN X26 hx rfl (hb hby d8_17) rfl ?_
 refine og_virtual (pc' := 21) (cells' := 0) (slots' := 0) (W := 0) X26 hx hZ (rm_cU2_0 l Z a0 hw a1 ba kb c0 c1 hc0 hc1 cs hcs fm hfm h0 n0 O E_a1 F_value_a1 F_coder_a1 V_ba S_CS S_FM S__assertionsDisabled S_HI_BYTE_SHIFT S_LO_BYTE_SHIFT) hown (ow48 hw) (ow49 hw) (own_nf hZ (ow51 hw)) (ow51 hw) (ow50 hw) (ow7 hw) (ow52 hw) (by decide) (by rw [hml]; rfl) e26 opd_18 [(.int 0)] [] rfl rfl rfl rfl (by decide) (by decide) rfl rfl (by decide) (by decide) E_a1 (hb hby d8_18) rfl (fun v27 T27 h27 L27 X27 e27 z27 => ?_)
 obtain ⟨rfl, Nq27, hq27⟩ := z27; replace e27 := e27.trans hq27; have N := Fr.app N Nq27
 refine og_istoreN (L' := #[.val (.ref a1), .val (.int (-1)), .val (.int 0), .val (.int c0), .unset]) X27 hx rfl (hb hby d8_21) rfl ?_
 refine og_iloadN X27 hx rfl (hb hby d8_22) rfl ?_
 refine og_bipush (v := 32) X27 hx rfl (hb hby d8_23) rfl ?_
 refine og_icmp_lt (pc1 := 40) (pc2 := 28) X27 hx (hb hby d8_25) (by decide) (by decide) rfl (fun hc25 => ?_) (fun hc25 => ?_)
 ·
  refine og_aloadN X27 hx rfl rfl (hb hby d8_40) rfl ?_
  refine og_iloadN X27 hx rfl (hb hby d8_41) rfl ?_
  refine og_virtual (pc' := 45) (cells' := 0) (slots' := 0) (W := 0) X27 hx hZ (rm_pU2_0 l Z a0 hw a1 ba kb c0 c1 hc0 hc1 cs hcs fm hfm h0 n0 O E_a1 F_value_a1 F_coder_a1 V_ba S_CS S_FM S__assertionsDisabled S_HI_BYTE_SHIFT S_LO_BYTE_SHIFT) hown (ow70 hw) (ow71 hw) (own_nf hZ (ow73 hw)) (ow73 hw) (ow72 hw) (ow7 hw) (ow74 hw) (by decide) (by rw [hml]; rfl) e27 opd_0 [(.int 0)] [] rfl rfl rfl rfl (by decide) (by decide) rfl rfl (by decide) (by decide) E_a1 (hb hby d8_42) rfl (fun v28 T28 h28 L28 X28 e28 z28 => ?_)
  obtain ⟨rp, rfl, Nq28, hq28, hrp⟩ := z28; replace e28 := e28.trans hq28; have N := Fr.app N Nq28
  rcases hrp with ⟨hrp, hnp⟩ | ⟨hrp, hH, hL⟩
  ·
   subst rp
   refine og_istore (L' := #[.val (.ref a1), .val (.int (-1)), .val (.int 0), .val (.int c0), .val (.int c0)]) X28 hx rfl (hb hby d8_45) rfl ?_
   refine og_iload X28 hx rfl (hb hby d8_47) rfl ?_
   refine og_static (pc' := 52) (cells' := 0) (slots' := 0) (W := 0) X28 hx hZ (rm_ixc l Z a0 hw c0 h0 n0 O) hown (ow76 hw) (ow77 hw) (ow36 hw) (ow78 hw) (by decide) (by rw [hml]; rfl) e28 opd_19 [(.int c0)] [] rfl rfl rfl rfl (by decide) (by decide) rfl rfl (by decide) (by decide) (hb hby d8_49) rfl (fun v29 T29 h29 L29 X29 e29 z29 => ?_)
   obtain ⟨rb29, rfl, Nq29, hq29, hb29⟩ := z29; replace e29 := e29.trans hq29; have N := Fr.app N Nq29
   refine og_if_ne (pc1 := 58) (pc2 := 55) X29 hx (hb hby d8_52) (by decide) (by decide) rfl (fun hc52 => ?_) (fun hc52 => ?_)
   ·
    have hX := own_b1 hb29 hc52
    refine og_iloadN X29 hx rfl (hb hby d8_58) rfl ?_
    refine og_iload X29 hx rfl (hb hby d8_59) rfl ?_
    refine og_static (pc' := 64) (cells' := 0) (slots' := 0) (W := 1) X29 hx hZ (rm_cct l Z a0 hw c0 h0 n0 O) hown (ow81 hw) (ow82 hw) (ow83 hw) (ow84 hw) (by decide) (by rw [hml]; rfl) e29 opd_0 [(.int c0)] [(.int 0)] rfl rfl rfl rfl (by decide) (by decide) rfl rfl (by decide) (by decide) (hb hby d8_61) rfl (fun v30 T30 h30 L30 X30 e30 z30 => ?_)
    obtain ⟨rc, rfl, Nq30, hq30, hrc⟩ := z30; replace e30 := e30.trans hq30; have N := Fr.app N Nq30
    have hrc : rc = 1 := own_cc1 hrc hc0
    subst hrc
    refine og_iadd X30 hx (hb hby d8_64) rfl ?_
    show OG p e below _ (T30.setTop (mkF m 65 #[.val (.ref a1), .val (.int (-1)), .val (.int 0), .val (.int c0), .val (.int c0)] [(.int 1)]))
    refine og_istoreN (L' := #[.val (.ref a1), .val (.int (-1)), .val (.int 1), .val (.int c0), .val (.int c0)]) X30 hx rfl (hb hby d8_65) rfl ?_
    refine og_goto (pc' := 4) X30 hx (hb hby d8_66) (by decide) (by decide) ?_
    exact J1 T30 _ X30 e30 N _ _ (Or.inr ⟨_, rfl⟩) (Or.inr ⟨_, rfl⟩) ((own_fok hnp (own_xk hc0 hX)).symm.trans hr)
   ·
    have hX := own_b0 hb29 hc52
    refine og_iload X29 hx rfl (hb hby d8_55) rfl ?_
    refine og_istoreN (L' := #[.val (.ref a1), .val (.int c0), .val (.int 0), .val (.int c0), .val (.int c0)]) X29 hx rfl (hb hby d8_57) rfl ?_
    refine og_iloadN X29 hx rfl (hb hby d8_58) rfl ?_
    refine og_iload X29 hx rfl (hb hby d8_59) rfl ?_
    refine og_static (pc' := 64) (cells' := 0) (slots' := 0) (W := 1) X29 hx hZ (rm_cct l Z a0 hw c0 h0 n0 O) hown (ow81 hw) (ow82 hw) (ow83 hw) (ow84 hw) (by decide) (by rw [hml]; rfl) e29 opd_0 [(.int c0)] [(.int 0)] rfl rfl rfl rfl (by decide) (by decide) rfl rfl (by decide) (by decide) (hb hby d8_61) rfl (fun v31 T31 h31 L31 X31 e31 z31 => ?_)
    obtain ⟨rc, rfl, Nq31, hq31, hrc⟩ := z31; replace e31 := e31.trans hq31; have N := Fr.app N Nq31
    have hrc : rc = 1 := own_cc1 hrc hc0
    subst hrc
    refine og_iadd X31 hx (hb hby d8_64) rfl ?_
    show OG p e below _ (T31.setTop (mkF m 65 #[.val (.ref a1), .val (.int c0), .val (.int 0), .val (.int c0), .val (.int c0)] [(.int 1)]))
    refine og_istoreN (L' := #[.val (.ref a1), .val (.int c0), .val (.int 1), .val (.int c0), .val (.int c0)]) X31 hx rfl (hb hby d8_65) rfl ?_
    refine og_goto (pc' := 4) X31 hx (hb hby d8_66) (by decide) (by decide) ?_
    refine og_iloadN X31 hx rfl (hb hby d8_4) rfl ?_
    refine og_aloadN X31 hx rfl rfl (hb hby d8_5) rfl ?_
    refine og_virtual (pc' := 9) (cells' := 0) (slots' := 0) (W := 1) X31 hx hZ (rm_lenU2 l Z a0 hw a1 ba kb c0 c1 hc0 hc1 cs hcs h0 n0 O E_a1 F_value_a1 F_coder_a1 V_ba S_CS) hown (ow38 hw) (ow39 hw) (own_nf hZ (ow41 hw)) (ow41 hw) (ow40 hw) (ow7 hw) (ow42 hw) (by decide) (by rw [hml]; rfl) e31 opd_17 [] [(.int 1)] rfl rfl rfl rfl (by decide) (by decide) rfl rfl (by decide) (by decide) E_a1 (hb hby d8_6) rfl (fun v32 T32 h32 L32 X32 e32 z32 => ?_)
    obtain ⟨rfl, Nq32, hq32⟩ := z32; replace e32 := e32.trans hq32; have N := Fr.app N Nq32
    refine og_icmp_ge (pc1 := 69) (pc2 := 12) X32 hx (hb hby d8_9) (by decide) (by decide) rfl (fun q => absurd q (by decide)) (fun _ => ?_)
    refine og_iloadN X32 hx rfl (hb hby d8_12) rfl ?_
    refine og_if_ge (pc1 := 69) (pc2 := 16) X32 hx (hb hby d8_13) (by decide) (by decide) rfl (fun _ => ?_) (fun q => absurd q (own_nn hc0))
    refine og_iloadN X32 hx rfl (hb hby d8_69) rfl ?_
    refine og_retI X32 hx hlk hret (hb hby d8_70) (by decide) (by decide) ?_
    rw [e32]; exact ⟨by rw [← hr, own_fbad hnp (own_kx hc0 hX)], N, rfl⟩
  ·
   subst rp
   refine og_istore (L' := #[.val (.ref a1), .val (.int (-1)), .val (.int 0), .val (.int c0), .val (.int (own_tp c0 c1))]) X28 hx rfl (hb hby d8_45) rfl ?_
   refine og_iload X28 hx rfl (hb hby d8_47) rfl ?_
   refine og_static (pc' := 52) (cells' := 0) (slots' := 0) (W := 0) X28 hx hZ (rm_ixc l Z a0 hw (own_tp c0 c1) h0 n0 O) hown (ow76 hw) (ow77 hw) (ow36 hw) (ow78 hw) (by decide) (by rw [hml]; rfl) e28 opd_19 [(.int (own_tp c0 c1))] [] rfl rfl rfl rfl (by decide) (by decide) rfl rfl (by decide) (by decide) (hb hby d8_49) rfl (fun v33 T33 h33 L33 X33 e33 z33 => ?_)
   obtain ⟨rb33, rfl, Nq33, hq33, hb33⟩ := z33; replace e33 := e33.trans hq33; have N := Fr.app N Nq33
   refine og_if_ne (pc1 := 58) (pc2 := 55) X33 hx (hb hby d8_52) (by decide) (by decide) rfl (fun hc52 => ?_) (fun hc52 => ?_)
   ·
    have hX := own_b1 hb33 hc52
    refine og_iloadN X33 hx rfl (hb hby d8_58) rfl ?_
    refine og_iload X33 hx rfl (hb hby d8_59) rfl ?_
    refine og_static (pc' := 64) (cells' := 0) (slots' := 0) (W := 1) X33 hx hZ (rm_cct l Z a0 hw (own_tp c0 c1) h0 n0 O) hown (ow81 hw) (ow82 hw) (ow83 hw) (ow84 hw) (by decide) (by rw [hml]; rfl) e33 opd_0 [(.int (own_tp c0 c1))] [(.int 0)] rfl rfl rfl rfl (by decide) (by decide) rfl rfl (by decide) (by decide) (hb hby d8_61) rfl (fun v34 T34 h34 L34 X34 e34 z34 => ?_)
    obtain ⟨rc, rfl, Nq34, hq34, hrc⟩ := z34; replace e34 := e34.trans hq34; have N := Fr.app N Nq34
    have hrc : rc = 2 := own_cc2 hrc (own_tpb hH hL)
    subst hrc
    refine og_iadd X34 hx (hb hby d8_64) rfl ?_
    show OG p e below _ (T34.setTop (mkF m 65 #[.val (.ref a1), .val (.int (-1)), .val (.int 0), .val (.int c0), .val (.int (own_tp c0 c1))] [(.int 2)]))
    refine og_istoreN (L' := #[.val (.ref a1), .val (.int (-1)), .val (.int 2), .val (.int c0), .val (.int (own_tp c0 c1))]) X34 hx rfl (hb hby d8_65) rfl ?_
    refine og_goto (pc' := 4) X34 hx (hb hby d8_66) (by decide) (by decide) ?_
    exact J2 T34 _ X34 e34 N _ _ (Or.inr ⟨_, rfl⟩) (Or.inr ⟨_, rfl⟩) ((own_fpair hH hL).symm.trans hr)
   ·
    have hX := own_b0 hb33 hc52
    exact absurd (own_xtp hH hL) hX
 ·
  refine og_iloadN X27 hx rfl (hb hby d8_28) rfl ?_
  refine og_ldc X27 hx hZ hown (ow100 hw) (hb hby d8_29) rfl ?_
  refine og_icmp_ge (pc1 := 40) (pc2 := 34) X27 hx (hb hby d8_31) (by decide) (by decide) rfl (fun hc31 => ?_) (fun hc31 => ?_)
  ·
   have q25 := own_i2 hc25 (show (32 : Int32).toInt = 32 by decide)
   refine og_aloadN X27 hx rfl rfl (hb hby d8_40) rfl ?_
   refine og_iloadN X27 hx rfl (hb hby d8_41) rfl ?_
   refine og_virtual (pc' := 45) (cells' := 0) (slots' := 0) (W := 0) X27 hx hZ (rm_pU2_0 l Z a0 hw a1 ba kb c0 c1 hc0 hc1 cs hcs fm hfm h0 n0 O E_a1 F_value_a1 F_coder_a1 V_ba S_CS S_FM S__assertionsDisabled S_HI_BYTE_SHIFT S_LO_BYTE_SHIFT) hown (ow70 hw) (ow71 hw) (own_nf hZ (ow73 hw)) (ow73 hw) (ow72 hw) (ow7 hw) (ow74 hw) (by decide) (by rw [hml]; rfl) e27 opd_0 [(.int 0)] [] rfl rfl rfl rfl (by decide) (by decide) rfl rfl (by decide) (by decide) E_a1 (hb hby d8_42) rfl (fun v35 T35 h35 L35 X35 e35 z35 => ?_)
   obtain ⟨rp, rfl, Nq35, hq35, hrp⟩ := z35; replace e35 := e35.trans hq35; have N := Fr.app N Nq35
   rcases hrp with ⟨hrp, hnp⟩ | ⟨hrp, hH, hL⟩
   ·
    subst rp
    refine og_istore (L' := #[.val (.ref a1), .val (.int (-1)), .val (.int 0), .val (.int c0), .val (.int c0)]) X35 hx rfl (hb hby d8_45) rfl ?_
    refine og_iload X35 hx rfl (hb hby d8_47) rfl ?_
    refine og_static (pc' := 52) (cells' := 0) (slots' := 0) (W := 0) X35 hx hZ (rm_ixc l Z a0 hw c0 h0 n0 O) hown (ow76 hw) (ow77 hw) (ow36 hw) (ow78 hw) (by decide) (by rw [hml]; rfl) e35 opd_19 [(.int c0)] [] rfl rfl rfl rfl (by decide) (by decide) rfl rfl (by decide) (by decide) (hb hby d8_49) rfl (fun v36 T36 h36 L36 X36 e36 z36 => ?_)
    obtain ⟨rb36, rfl, Nq36, hq36, hb36⟩ := z36; replace e36 := e36.trans hq36; have N := Fr.app N Nq36
    refine og_if_ne (pc1 := 58) (pc2 := 55) X36 hx (hb hby d8_52) (by decide) (by decide) rfl (fun hc52 => ?_) (fun hc52 => ?_)
    ·
     have hX := own_b1 hb36 hc52
     refine og_iloadN X36 hx rfl (hb hby d8_58) rfl ?_
     refine og_iload X36 hx rfl (hb hby d8_59) rfl ?_
     refine og_static (pc' := 64) (cells' := 0) (slots' := 0) (W := 1) X36 hx hZ (rm_cct l Z a0 hw c0 h0 n0 O) hown (ow81 hw) (ow82 hw) (ow83 hw) (ow84 hw) (by decide) (by rw [hml]; rfl) e36 opd_0 [(.int c0)] [(.int 0)] rfl rfl rfl rfl (by decide) (by decide) rfl rfl (by decide) (by decide) (hb hby d8_61) rfl (fun v37 T37 h37 L37 X37 e37 z37 => ?_)
     obtain ⟨rc, rfl, Nq37, hq37, hrc⟩ := z37; replace e37 := e37.trans hq37; have N := Fr.app N Nq37
     have hrc : rc = 1 := own_cc1 hrc hc0
     subst hrc
     refine og_iadd X37 hx (hb hby d8_64) rfl ?_
     show OG p e below _ (T37.setTop (mkF m 65 #[.val (.ref a1), .val (.int (-1)), .val (.int 0), .val (.int c0), .val (.int c0)] [(.int 1)]))
     refine og_istoreN (L' := #[.val (.ref a1), .val (.int (-1)), .val (.int 1), .val (.int c0), .val (.int c0)]) X37 hx rfl (hb hby d8_65) rfl ?_
     refine og_goto (pc' := 4) X37 hx (hb hby d8_66) (by decide) (by decide) ?_
     exact J1 T37 _ X37 e37 N _ _ (Or.inr ⟨_, rfl⟩) (Or.inr ⟨_, rfl⟩) ((own_fok hnp (own_xk hc0 hX)).symm.trans hr)
    ·
     have hX := own_b0 hb36 hc52
     refine og_iload X36 hx rfl (hb hby d8_55) rfl ?_
     refine og_istoreN (L' := #[.val (.ref a1), .val (.int c0), .val (.int 0), .val (.int c0), .val (.int c0)]) X36 hx rfl (hb hby d8_57) rfl ?_
     refine og_iloadN X36 hx rfl (hb hby d8_58) rfl ?_
     refine og_iload X36 hx rfl (hb hby d8_59) rfl ?_
     refine og_static (pc' := 64) (cells' := 0) (slots' := 0) (W := 1) X36 hx hZ (rm_cct l Z a0 hw c0 h0 n0 O) hown (ow81 hw) (ow82 hw) (ow83 hw) (ow84 hw) (by decide) (by rw [hml]; rfl) e36 opd_0 [(.int c0)] [(.int 0)] rfl rfl rfl rfl (by decide) (by decide) rfl rfl (by decide) (by decide) (hb hby d8_61) rfl (fun v38 T38 h38 L38 X38 e38 z38 => ?_)
     obtain ⟨rc, rfl, Nq38, hq38, hrc⟩ := z38; replace e38 := e38.trans hq38; have N := Fr.app N Nq38
     have hrc : rc = 1 := own_cc1 hrc hc0
     subst hrc
     refine og_iadd X38 hx (hb hby d8_64) rfl ?_
     show OG p e below _ (T38.setTop (mkF m 65 #[.val (.ref a1), .val (.int c0), .val (.int 0), .val (.int c0), .val (.int c0)] [(.int 1)]))
     refine og_istoreN (L' := #[.val (.ref a1), .val (.int c0), .val (.int 1), .val (.int c0), .val (.int c0)]) X38 hx rfl (hb hby d8_65) rfl ?_
     refine og_goto (pc' := 4) X38 hx (hb hby d8_66) (by decide) (by decide) ?_
     refine og_iloadN X38 hx rfl (hb hby d8_4) rfl ?_
     refine og_aloadN X38 hx rfl rfl (hb hby d8_5) rfl ?_
     refine og_virtual (pc' := 9) (cells' := 0) (slots' := 0) (W := 1) X38 hx hZ (rm_lenU2 l Z a0 hw a1 ba kb c0 c1 hc0 hc1 cs hcs h0 n0 O E_a1 F_value_a1 F_coder_a1 V_ba S_CS) hown (ow38 hw) (ow39 hw) (own_nf hZ (ow41 hw)) (ow41 hw) (ow40 hw) (ow7 hw) (ow42 hw) (by decide) (by rw [hml]; rfl) e38 opd_17 [] [(.int 1)] rfl rfl rfl rfl (by decide) (by decide) rfl rfl (by decide) (by decide) E_a1 (hb hby d8_6) rfl (fun v39 T39 h39 L39 X39 e39 z39 => ?_)
     obtain ⟨rfl, Nq39, hq39⟩ := z39; replace e39 := e39.trans hq39; have N := Fr.app N Nq39
     refine og_icmp_ge (pc1 := 69) (pc2 := 12) X39 hx (hb hby d8_9) (by decide) (by decide) rfl (fun q => absurd q (by decide)) (fun _ => ?_)
     refine og_iloadN X39 hx rfl (hb hby d8_12) rfl ?_
     refine og_if_ge (pc1 := 69) (pc2 := 16) X39 hx (hb hby d8_13) (by decide) (by decide) rfl (fun _ => ?_) (fun q => absurd q (own_nn hc0))
     refine og_iloadN X39 hx rfl (hb hby d8_69) rfl ?_
     refine og_retI X39 hx hlk hret (hb hby d8_70) (by decide) (by decide) ?_
     rw [e39]; exact ⟨by rw [← hr, own_fbad hnp (own_kx hc0 hX)], N, rfl⟩
   ·
    subst rp
    refine og_istore (L' := #[.val (.ref a1), .val (.int (-1)), .val (.int 0), .val (.int c0), .val (.int (own_tp c0 c1))]) X35 hx rfl (hb hby d8_45) rfl ?_
    refine og_iload X35 hx rfl (hb hby d8_47) rfl ?_
    refine og_static (pc' := 52) (cells' := 0) (slots' := 0) (W := 0) X35 hx hZ (rm_ixc l Z a0 hw (own_tp c0 c1) h0 n0 O) hown (ow76 hw) (ow77 hw) (ow36 hw) (ow78 hw) (by decide) (by rw [hml]; rfl) e35 opd_19 [(.int (own_tp c0 c1))] [] rfl rfl rfl rfl (by decide) (by decide) rfl rfl (by decide) (by decide) (hb hby d8_49) rfl (fun v40 T40 h40 L40 X40 e40 z40 => ?_)
    obtain ⟨rb40, rfl, Nq40, hq40, hb40⟩ := z40; replace e40 := e40.trans hq40; have N := Fr.app N Nq40
    refine og_if_ne (pc1 := 58) (pc2 := 55) X40 hx (hb hby d8_52) (by decide) (by decide) rfl (fun hc52 => ?_) (fun hc52 => ?_)
    ·
     have hX := own_b1 hb40 hc52
     refine og_iloadN X40 hx rfl (hb hby d8_58) rfl ?_
     refine og_iload X40 hx rfl (hb hby d8_59) rfl ?_
     refine og_static (pc' := 64) (cells' := 0) (slots' := 0) (W := 1) X40 hx hZ (rm_cct l Z a0 hw (own_tp c0 c1) h0 n0 O) hown (ow81 hw) (ow82 hw) (ow83 hw) (ow84 hw) (by decide) (by rw [hml]; rfl) e40 opd_0 [(.int (own_tp c0 c1))] [(.int 0)] rfl rfl rfl rfl (by decide) (by decide) rfl rfl (by decide) (by decide) (hb hby d8_61) rfl (fun v41 T41 h41 L41 X41 e41 z41 => ?_)
     obtain ⟨rc, rfl, Nq41, hq41, hrc⟩ := z41; replace e41 := e41.trans hq41; have N := Fr.app N Nq41
     have hrc : rc = 2 := own_cc2 hrc (own_tpb hH hL)
     subst hrc
     refine og_iadd X41 hx (hb hby d8_64) rfl ?_
     show OG p e below _ (T41.setTop (mkF m 65 #[.val (.ref a1), .val (.int (-1)), .val (.int 0), .val (.int c0), .val (.int (own_tp c0 c1))] [(.int 2)]))
     refine og_istoreN (L' := #[.val (.ref a1), .val (.int (-1)), .val (.int 2), .val (.int c0), .val (.int (own_tp c0 c1))]) X41 hx rfl (hb hby d8_65) rfl ?_
     refine og_goto (pc' := 4) X41 hx (hb hby d8_66) (by decide) (by decide) ?_
     exact J2 T41 _ X41 e41 N _ _ (Or.inr ⟨_, rfl⟩) (Or.inr ⟨_, rfl⟩) ((own_fpair hH hL).symm.trans hr)
    ·
     have hX := own_b0 hb40 hc52
     exact absurd (own_xtp hH hL) hX
  ·
   have q25 := own_i2 hc25 (show (32 : Int32).toInt = 32 by decide)
   have q31 := own_i1 hc31 (show (55296 : Int32).toInt = 55296 by decide)
   refine og_iinc (L' := #[.val (.ref a1), .val (.int (-1)), .val (.int 1), .val (.int c0), .unset]) (w := 1) X27 hx rfl rfl rfl (hb hby d8_34) rfl ?_
   refine og_goto (pc' := 66) X27 hx (hb hby d8_37) (by decide) (by decide) ?_
   refine og_goto (pc' := 4) X27 hx (hb hby d8_66) (by decide) (by decide) ?_
   exact J1 T27 _ X27 e27 N _ _ (Or.inr ⟨_, rfl⟩) (Or.inl rfl) ((own_fok (own_nHb q31) (own_okb q25 q31)).symm.trans hr)
theorem rm_ul3 (l : Launch) (Z : State) (a0 : Array Value) (hw : HW a0 Z) (ba : Addr) (kb : ClassId) (vs : List Value) (h0 : Heap) (n0 : Nat) (O : Old Z n0 h0) (V_ba : Arv Z h0 ba kb .byte (6 : Int32) vs (.int 0)) :
  Con l Z (⟨"java/lang/StringUTF16", "length", "([B)I"⟩ : MethodName) jdk_52_method_6_code 1 (some .int) ({ frames := 0, cells := 0, slots := 0, locals := 0 } : Room) #[(.ref ba)] h0 (fun v h L => v = some (.int 3) ∧ Fr n0 L ∧ h = h0) := by
 refine own_startC opn_31 ?_
 intro p e s m below meth c T0 X0 hx hby hml hZ hown hnm hret hlk e0
 have N := Fr.nil n0; have K := Keep.refl h0 []
 refine OG.cast (oef10 m ba) ?_
 refine og_aloadN X0 hx rfl rfl (hb hby d31_0) rfl ?_
 refine og_arraylength X0 hx hZ e0 V_ba (hb hby d31_1) rfl ?_
 refine og_iconst (v := 1) X0 hx rfl (hb hby d31_2) rfl ?_
 refine og_ishr X0 hx (hb hby d31_3) rfl ?_
 show OG p e below _ (T0.setTop (mkF m 4 #[.val (.ref ba)] [(.int 3)]))
 refine og_retI X0 hx hlk hret (hb hby d31_4) (by decide) (by decide) ?_
 rw [e0]; exact ⟨rfl, N, rfl⟩
theorem rm_lenU3 (l : Launch) (Z : State) (a0 : Array Value) (hw : HW a0 Z) (a1 ba : Addr) (kb : ClassId) (c0 c1 c2 : Int32) (hc0 : 0 ≤ c0.toInt ∧ c0.toInt ≤ 65535) (hc1 : 0 ≤ c1.toInt ∧ c1.toInt ≤ 65535) (hc2 : 0 ≤ c2.toInt ∧ c2.toInt ≤ 65535) (cs : Int32) (hcs : ¬ cs = 0) (h0 : Heap) (n0 : Nat) (O : Old Z n0 h0) (E_a1 : Exa Z h0 a1 "java/lang/String") (F_value_a1 : Fld Z h0 a1 "java/lang/String" "value" "[B" (.ref ba)) (F_coder_a1 : Fld Z h0 a1 "java/lang/String" "coder" "B" (.int 1)) (V_ba : Arv Z h0 ba kb .byte (6 : Int32) [(.int c0.toInt8.toInt32), (.int (c0 >>> ((8 : Int32) &&& 31)).toInt8.toInt32), (.int c1.toInt8.toInt32), (.int (c1 >>> ((8 : Int32) &&& 31)).toInt8.toInt32), (.int c2.toInt8.toInt32), (.int (c2 >>> ((8 : Int32) &&& 31)).toInt8.toInt32)] (.int 0)) (S_CS : Sta Z Z.heap "java/lang/String" "COMPACT_STRINGS" "Z" (.int cs)) :
  Con l Z (⟨"java/lang/String", "length", "()I"⟩ : MethodName) jdk_42_method_54_code 1 (some .int) ({ frames := 1, cells := 0, slots := 0, locals := 13 } : Room) #[(.ref a1)] h0 (fun v h L => v = some (.int 3) ∧ Fr n0 L ∧ h = h0) := by
 refine own_startC opn_9 ?_
 intro p e s m below meth c T0 X0 hx hby hml hZ hown hnm hret hlk e0
 have N := Fr.nil n0; have K := Keep.refl h0 []
 refine OG.cast (oef10 m a1) ?_
 refine og_aloadN X0 hx rfl rfl (hb hby d9_0) rfl ?_
 refine og_getfield X0 hx hZ (host := "") hown (Or.inl (ow32 hw)) Via.refl e0 F_value_a1 (hb hby d9_1) rfl (fun T11 X11 e11 => ?_)
 refine og_arraylength X11 hx hZ e11 V_ba (hb hby d9_4) rfl ?_
 refine og_aloadN X11 hx rfl rfl (hb hby d9_5) rfl ?_
 refine og_virtual (pc' := 9) (cells' := 0) (slots' := 0) (W := 1) X11 hx hZ (rm_codU l Z a0 hw a1 cs hcs h0 n0 O F_coder_a1 S_CS) hown (ow43 hw) (ow44 hw) (own_nf hZ (ow46 hw)) (ow46 hw) (ow45 hw) (ow7 hw) (ow47 hw) (by decide) (by rw [hml]; rfl) e11 opd_11 [] [(.int 6)] rfl rfl rfl rfl (by decide) (by decide) rfl rfl (by decide) (by decide) E_a1 (hb hby d9_6) rfl (fun v12 T12 h12 L12 X12 e12 z12 => ?_)
 obtain ⟨rfl, Nq12, hq12⟩ := z12; replace e12 := e12.trans hq12; have N := Fr.app N Nq12
 refine og_ishr X12 hx (hb hby d9_9) rfl ?_
 show OG p e below _ (T12.setTop (mkF m 10 #[.val (.ref a1)] [(.int 3)]))
 refine og_retI X12 hx hlk hret (hb hby d9_10) (by decide) (by decide) ?_
 rw [e12]; exact ⟨rfl, N, rfl⟩
theorem rm_uk3_0 (l : Launch) (Z : State) (a0 : Array Value) (hw : HW a0 Z) (ba : Addr) (kb : ClassId) (vs : List Value) (fm : Value) (hfm : fm.isRef = true) (h0 : Heap) (n0 : Nat) (O : Old Z n0 h0) (V_ba : Arv Z h0 ba kb .byte (6 : Int32) vs (.int 0)) (S_FM : Sta Z Z.heap "jdk/internal/util/Preconditions" "SIOOBE_FORMATTER" "Ljava/util/function/BiFunction;" fm) :
  Con l Z (⟨"java/lang/StringUTF16", "checkIndex", "(I[B)V"⟩ : MethodName) jdk_52_method_91_code 2 none ({ frames := 2, cells := 0, slots := 0, locals := 27 } : Room) #[(.int 0), (.ref ba)] h0 (fun v h L => v = none ∧ Fr n0 L ∧ h = h0) := by
 refine own_startC opn_30 ?_
 intro p e s m below meth c T0 X0 hx hby hml hZ hown hnm hret hlk e0
 have N := Fr.nil n0; have K := Keep.refl h0 []
 refine OG.cast (oef11 m (0 : Int32) ba) ?_
 refine og_iloadN X0 hx rfl (hb hby d30_0) rfl ?_
 refine og_aloadN X0 hx rfl rfl (hb hby d30_1) rfl ?_
 refine og_static (pc' := 5) (cells' := 0) (slots' := 0) (W := 1) X0 hx hZ (rm_ul3 l Z a0 hw ba kb _ h0 n0 O V_ba) hown (ow133 hw) (ow134 hw) (ow21 hw) (ow135 hw) (by decide) (by rw [hml]; rfl) e0 opd_12 [(.ref ba)] [(.int 0)] rfl rfl rfl rfl (by decide) (by decide) rfl rfl (by decide) (by decide) (hb hby d30_2) rfl (fun v11 T11 h11 L11 X11 e11 z11 => ?_)
 obtain ⟨rfl, Nq11, hq11⟩ := z11; replace e11 := e11.trans hq11; have N := Fr.app N Nq11
 refine og_static (pc' := 8) (cells' := 0) (slots' := 0) (W := 0) X11 hx hZ (rm_ci l Z a0 hw (3 : Int32) (0 : Int32) ⟨by decide, by decide⟩ fm hfm h0 n0 O S_FM) hown (ow136 hw) (ow63 hw) (ow7 hw) (ow64 hw) (by decide) (by rw [hml]; rfl) e11 opd_9 [(.int 0), (.int 3)] [] rfl rfl rfl rfl (by decide) (by decide) rfl rfl (by decide) (by decide) (hb hby d30_5) rfl (fun v12 T12 h12 L12 X12 e12 z12 => ?_)
 obtain ⟨rfl, Nq12, hq12⟩ := z12; replace e12 := e12.trans hq12; have N := Fr.app N Nq12
 refine og_retV X12 hx hlk hret (hb hby d30_8) (by decide) (by decide) ?_
 rw [e12]; exact ⟨rfl, N, rfl⟩
theorem rm_uca3_0 (l : Launch) (Z : State) (a0 : Array Value) (hw : HW a0 Z) (ba : Addr) (kb : ClassId) (c0 c1 c2 : Int32) (hc0 : 0 ≤ c0.toInt ∧ c0.toInt ≤ 65535) (hc1 : 0 ≤ c1.toInt ∧ c1.toInt ≤ 65535) (hc2 : 0 ≤ c2.toInt ∧ c2.toInt ≤ 65535) (fm : Value) (hfm : fm.isRef = true) (h0 : Heap) (n0 : Nat) (O : Old Z n0 h0) (V_ba : Arv Z h0 ba kb .byte (6 : Int32) [(.int c0.toInt8.toInt32), (.int (c0 >>> ((8 : Int32) &&& 31)).toInt8.toInt32), (.int c1.toInt8.toInt32), (.int (c1 >>> ((8 : Int32) &&& 31)).toInt8.toInt32), (.int c2.toInt8.toInt32), (.int (c2 >>> ((8 : Int32) &&& 31)).toInt8.toInt32)] (.int 0)) (S_FM : Sta Z Z.heap "jdk/internal/util/Preconditions" "SIOOBE_FORMATTER" "Ljava/util/function/BiFunction;" fm) (S__assertionsDisabled : Sta Z Z.heap "java/lang/StringUTF16" "$assertionsDisabled" "Z" (.int 1)) (S_HI_BYTE_SHIFT : Sta Z Z.heap "java/lang/StringUTF16" "HI_BYTE_SHIFT" "I" (.int 0)) (S_LO_BYTE_SHIFT : Sta Z Z.heap "java/lang/StringUTF16" "LO_BYTE_SHIFT" "I" (.int 8)) :
  Con l Z (⟨"java/lang/StringUTF16", "charAt", "([BI)C"⟩ : MethodName) jdk_52_method_83_code 2 (some .char) ({ frames := 3, cells := 0, slots := 0, locals := 40 } : Room) #[(.ref ba), (.int 0)] h0 (fun v h L => v = some (.int c0) ∧ Fr n0 L ∧ h = h0) := by
 refine own_startC opn_29 ?_
 intro p e s m below meth c T0 X0 hx hby hml hZ hown hnm hret hlk e0
 have N := Fr.nil n0; have K := Keep.refl h0 []
 refine OG.cast (oef3 m ba (0 : Int32)) ?_
 refine og_iloadN X0 hx rfl (hb hby d29_0) rfl ?_
 refine og_aloadN X0 hx rfl rfl (hb hby d29_1) rfl ?_
 refine og_static (pc' := 5) (cells' := 0) (slots' := 0) (W := 0) X0 hx hZ (rm_uk3_0 l Z a0 hw ba kb _ fm hfm h0 n0 O V_ba S_FM) hown (ow130 hw) (ow131 hw) (ow21 hw) (ow132 hw) (by decide) (by rw [hml]; rfl) e0 opd_13 [(.int 0), (.ref ba)] [] rfl rfl rfl rfl (by decide) (by decide) rfl rfl (by decide) (by decide) (hb hby d29_2) rfl (fun v11 T11 h11 L11 X11 e11 z11 => ?_)
 obtain ⟨rfl, Nq11, hq11⟩ := z11; replace e11 := e11.trans hq11; have N := Fr.app N Nq11
 refine og_aloadN X11 hx rfl rfl (hb hby d29_5) rfl ?_
 refine og_iloadN X11 hx rfl (hb hby d29_6) rfl ?_
 refine og_static (pc' := 10) (cells' := 0) (slots' := 0) (W := 0) X11 hx hZ (rm_gch_3_0 l Z a0 hw ba kb c0 c1 c2 hc0 hc1 hc2 h0 n0 O V_ba S__assertionsDisabled S_HI_BYTE_SHIFT S_LO_BYTE_SHIFT) hown (ow124 hw) (ow125 hw) (ow21 hw) (ow126 hw) (by decide) (by rw [hml]; rfl) e11 opd_5 [(.ref ba), (.int 0)] [] rfl rfl rfl rfl (by decide) (by decide) rfl rfl (by decide) (by decide) (hb hby d29_7) rfl (fun v12 T12 h12 L12 X12 e12 z12 => ?_)
 obtain ⟨rfl, Nq12, hq12⟩ := z12; replace e12 := e12.trans hq12; have N := Fr.app N Nq12
 refine og_retN X12 hx hlk hret (by simp) (hb hby d29_10) (by decide) (by decide) ?_
 rw [e12, own_nc2 hc0]; exact ⟨rfl, N, rfl⟩
theorem rm_cU3_0 (l : Launch) (Z : State) (a0 : Array Value) (hw : HW a0 Z) (a1 ba : Addr) (kb : ClassId) (c0 c1 c2 : Int32) (hc0 : 0 ≤ c0.toInt ∧ c0.toInt ≤ 65535) (hc1 : 0 ≤ c1.toInt ∧ c1.toInt ≤ 65535) (hc2 : 0 ≤ c2.toInt ∧ c2.toInt ≤ 65535) (cs : Int32) (hcs : ¬ cs = 0) (fm : Value) (hfm : fm.isRef = true) (h0 : Heap) (n0 : Nat) (O : Old Z n0 h0) (E_a1 : Exa Z h0 a1 "java/lang/String") (F_value_a1 : Fld Z h0 a1 "java/lang/String" "value" "[B" (.ref ba)) (F_coder_a1 : Fld Z h0 a1 "java/lang/String" "coder" "B" (.int 1)) (V_ba : Arv Z h0 ba kb .byte (6 : Int32) [(.int c0.toInt8.toInt32), (.int (c0 >>> ((8 : Int32) &&& 31)).toInt8.toInt32), (.int c1.toInt8.toInt32), (.int (c1 >>> ((8 : Int32) &&& 31)).toInt8.toInt32), (.int c2.toInt8.toInt32), (.int (c2 >>> ((8 : Int32) &&& 31)).toInt8.toInt32)] (.int 0)) (S_CS : Sta Z Z.heap "java/lang/String" "COMPACT_STRINGS" "Z" (.int cs)) (S_FM : Sta Z Z.heap "jdk/internal/util/Preconditions" "SIOOBE_FORMATTER" "Ljava/util/function/BiFunction;" fm) (S__assertionsDisabled : Sta Z Z.heap "java/lang/StringUTF16" "$assertionsDisabled" "Z" (.int 1)) (S_HI_BYTE_SHIFT : Sta Z Z.heap "java/lang/StringUTF16" "HI_BYTE_SHIFT" "I" (.int 0)) (S_LO_BYTE_SHIFT : Sta Z Z.heap "java/lang/StringUTF16" "LO_BYTE_SHIFT" "I" (.int 8)) :
  Con l Z (⟨"java/lang/String", "charAt", "(I)C"⟩ : MethodName) jdk_42_method_56_code 2 (some .char) ({ frames := 4, cells := 0, slots := 0, locals := 53 } : Room) #[(.ref a1), (.int 0)] h0 (fun v h L => v = some (.int c0) ∧ Fr n0 L ∧ h = h0) := by
 refine own_startC opn_11 ?_
 intro p e s m below meth c T0 X0 hx hby hml hZ hown hnm hret hlk e0
 have N := Fr.nil n0; have K := Keep.refl h0 []
 refine OG.cast (oef3 m a1 (0 : Int32)) ?_
 refine og_aloadN X0 hx rfl rfl (hb hby d11_0) rfl ?_
 refine og_virtual (pc' := 4) (cells' := 0) (slots' := 0) (W := 0) X0 hx hZ (rm_ilU l Z a0 hw a1 cs hcs h0 n0 O F_coder_a1 S_CS) hown (ow53 hw) (ow54 hw) (own_nf hZ (ow56 hw)) (ow56 hw) (ow55 hw) (ow7 hw) (ow57 hw) (by decide) (by rw [hml]; rfl) e0 opd_10 [] [] rfl rfl rfl rfl (by decide) (by decide) rfl rfl (by decide) (by decide) E_a1 (hb hby d11_1) rfl (fun v11 T11 h11 L11 X11 e11 z11 => ?_)
 obtain ⟨rfl, Nq11, hq11⟩ := z11; replace e11 := e11.trans hq11; have N := Fr.app N Nq11
 refine og_if_eq (pc1 := 16) (pc2 := 7) X11 hx (hb hby d11_4) (by decide) (by decide) rfl (fun _ => ?_) (fun q => absurd q (by decide))
 refine og_aloadN X11 hx rfl rfl (hb hby d11_16) rfl ?_
 refine og_getfield X11 hx hZ (host := "") hown (Or.inl (ow32 hw)) Via.refl e11 F_value_a1 (hb hby d11_17) rfl (fun T12 X12 e12 => ?_)
 refine og_iloadN X12 hx rfl (hb hby d11_20) rfl ?_
 refine og_static (pc' := 24) (cells' := 0) (slots' := 0) (W := 0) X12 hx hZ (rm_uca3_0 l Z a0 hw ba kb c0 c1 c2 hc0 hc1 hc2 fm hfm h0 n0 O V_ba S_FM S__assertionsDisabled S_HI_BYTE_SHIFT S_LO_BYTE_SHIFT) hown (ow127 hw) (ow128 hw) (ow21 hw) (ow129 hw) (by decide) (by rw [hml]; rfl) e12 opd_5 [(.ref ba), (.int 0)] [] rfl rfl rfl rfl (by decide) (by decide) rfl rfl (by decide) (by decide) (hb hby d11_21) rfl (fun v13 T13 h13 L13 X13 e13 z13 => ?_)
 obtain ⟨rfl, Nq13, hq13⟩ := z13; replace e13 := e13.trans hq13; have N := Fr.app N Nq13
 refine og_retN X13 hx hlk hret (by simp) (hb hby d11_24) (by decide) (by decide) ?_
 rw [e13, own_nc2 hc0]; exact ⟨rfl, N, rfl⟩
theorem rm_u43_0 (l : Launch) (Z : State) (a0 : Array Value) (hw : HW a0 Z) (ba : Addr) (kb : ClassId) (c0 c1 c2 : Int32) (hc0 : 0 ≤ c0.toInt ∧ c0.toInt ≤ 65535) (hc1 : 0 ≤ c1.toInt ∧ c1.toInt ≤ 65535) (hc2 : 0 ≤ c2.toInt ∧ c2.toInt ≤ 65535) (h0 : Heap) (n0 : Nat) (O : Old Z n0 h0) (V_ba : Arv Z h0 ba kb .byte (6 : Int32) [(.int c0.toInt8.toInt32), (.int (c0 >>> ((8 : Int32) &&& 31)).toInt8.toInt32), (.int c1.toInt8.toInt32), (.int (c1 >>> ((8 : Int32) &&& 31)).toInt8.toInt32), (.int c2.toInt8.toInt32), (.int (c2 >>> ((8 : Int32) &&& 31)).toInt8.toInt32)] (.int 0)) (S__assertionsDisabled : Sta Z Z.heap "java/lang/StringUTF16" "$assertionsDisabled" "Z" (.int 1)) (S_HI_BYTE_SHIFT : Sta Z Z.heap "java/lang/StringUTF16" "HI_BYTE_SHIFT" "I" (.int 0)) (S_LO_BYTE_SHIFT : Sta Z Z.heap "java/lang/StringUTF16" "LO_BYTE_SHIFT" "I" (.int 8)) :
  Con l Z (⟨"java/lang/StringUTF16", "codePointAt", "([BIIZ)I"⟩ : MethodName) jdk_52_method_7_code 6 (some .int) ({ frames := 1, cells := 0, slots := 0, locals := 13 } : Room) #[(.ref ba), (.int 0), (.int 3), (.int 0)] h0 (fun v h L => ∃ r : Int32, v = some (.int r) ∧ Fr n0 L ∧ h = h0 ∧ ((r = c0 ∧ ¬ (own_H c0 ∧ own_L c1)) ∨ (r = own_tp c0 c1 ∧ own_H c0 ∧ own_L c1))) := by
 refine own_startC opn_33 ?_
 intro p e s m below meth c T0 X0 hx hby hml hZ hown hnm hret hlk e0
 have N := Fr.nil n0; have K := Keep.refl h0 []
 refine OG.cast (oef12 m ba (0 : Int32) (3 : Int32) (0 : Int32)) ?_
 refine og_getstatic X0 hx hZ (host := "") hown (Or.inl (ow121 hw)) Via.refl e0 (S__assertionsDisabled.ext O.2) (hb hby d33_0) rfl (fun T11 X11 e11 => ?_)
 refine og_if_ne (pc1 := 19) (pc2 := 6) X11 hx (hb hby d33_3) (by decide) (by decide) rfl (fun _ => ?_) (fun q => absurd q (by decide))
 refine og_iloadN X11 hx rfl (hb hby d33_19) rfl ?_
 refine og_if_eq (pc1 := 28) (pc2 := 23) X11 hx (hb hby d33_20) (by decide) (by decide) rfl (fun _ => ?_) (fun q => absurd q (by decide))
 refine og_aloadN X11 hx rfl rfl (hb hby d33_28) rfl ?_
 refine og_iloadN X11 hx rfl (hb hby d33_29) rfl ?_
 refine og_static (pc' := 33) (cells' := 0) (slots' := 0) (W := 0) X11 hx hZ (rm_gch_3_0 l Z a0 hw ba kb c0 c1 c2 hc0 hc1 hc2 h0 n0 O V_ba S__assertionsDisabled S_HI_BYTE_SHIFT S_LO_BYTE_SHIFT) hown (ow124 hw) (ow125 hw) (ow21 hw) (ow126 hw) (by decide) (by rw [hml]; rfl) e11 opd_5 [(.ref ba), (.int 0)] [] rfl rfl rfl rfl (by decide) (by decide) rfl rfl (by decide) (by decide) (hb hby d33_30) rfl (fun v12 T12 h12 L12 X12 e12 z12 => ?_)
 obtain ⟨rfl, Nq12, hq12⟩ := z12; replace e12 := e12.trans hq12; have N := Fr.app N Nq12
 refine og_istore (L' := #[.val (.ref ba), .val (.int 0), .val (.int 3), .val (.int 0), .val (.int c0), .unset]) X12 hx rfl (hb hby d33_33) rfl ?_
 refine og_iload X12 hx rfl (hb hby d33_35) rfl ?_
 refine og_static (pc' := 40) (cells' := 0) (slots' := 0) (W := 0) X12 hx hZ (rm_ihs l Z a0 hw c0 h0 n0 O) hown (ow143 hw) (ow144 hw) (ow83 hw) (ow145 hw) (by decide) (by rw [hml]; rfl) e12 opd_14 [(.int c0)] [] rfl rfl rfl rfl (by decide) (by decide) rfl rfl (by decide) (by decide) (hb hby d33_37) rfl (fun v13 T13 h13 L13 X13 e13 z13 => ?_)
 obtain ⟨rb13, rfl, Nq13, hq13, hb13⟩ := z13; replace e13 := e13.trans hq13; have N := Fr.app N Nq13
 refine og_if_eq (pc1 := 83) (pc2 := 43) X13 hx (hb hby d33_40) (by decide) (by decide) rfl (fun hc40 => ?_) (fun hc40 => ?_)
 ·
  have hH := own_b0 hb13 hc40
  refine og_iload X13 hx rfl (hb hby d33_83) rfl ?_
  refine og_retI X13 hx hlk hret (hb hby d33_85) (by decide) (by decide) ?_
  rw [e13]; exact ⟨_, rfl, N, rfl, Or.inl ⟨rfl, fun q => hH q.1⟩⟩
 ·
  have hH := own_b1 hb13 hc40
  refine og_iinc (L' := #[.val (.ref ba), .val (.int 1), .val (.int 3), .val (.int 0), .val (.int c0), .unset]) (w := 1) X13 hx rfl rfl rfl (hb hby d33_43) rfl ?_
  refine og_iloadN X13 hx rfl (hb hby d33_46) rfl ?_
  refine og_iloadN X13 hx rfl (hb hby d33_47) rfl ?_
  refine og_icmp_ge (pc1 := 83) (pc2 := 51) X13 hx (hb hby d33_48) (by decide) (by decide) rfl (fun q => absurd q (by decide)) (fun _ => ?_)
  refine og_iloadN X13 hx rfl (hb hby d33_51) rfl ?_
  refine og_if_eq (pc1 := 60) (pc2 := 55) X13 hx (hb hby d33_52) (by decide) (by decide) rfl (fun _ => ?_) (fun q => absurd q (by decide))
  refine og_aloadN X13 hx rfl rfl (hb hby d33_60) rfl ?_
  refine og_iloadN X13 hx rfl (hb hby d33_61) rfl ?_
  refine og_static (pc' := 65) (cells' := 0) (slots' := 0) (W := 0) X13 hx hZ (rm_gch_3_1 l Z a0 hw ba kb c0 c1 c2 hc0 hc1 hc2 h0 n0 O V_ba S__assertionsDisabled S_HI_BYTE_SHIFT S_LO_BYTE_SHIFT) hown (ow124 hw) (ow125 hw) (ow21 hw) (ow126 hw) (by decide) (by rw [hml]; rfl) e13 opd_5 [(.ref ba), (.int 1)] [] rfl rfl rfl rfl (by decide) (by decide) rfl rfl (by decide) (by decide) (hb hby d33_62) rfl (fun v14 T14 h14 L14 X14 e14 z14 => ?_)
  obtain ⟨rfl, Nq14, hq14⟩ := z14; replace e14 := e14.trans hq14; have N := Fr.app N Nq14
  refine og_istore (L' := #[.val (.ref ba), .val (.int 1), .val (.int 3), .val (.int 0), .val (.int c0), .val (.int c1)]) X14 hx rfl (hb hby d33_65) rfl ?_
  refine og_iload X14 hx rfl (hb hby d33_67) rfl ?_
  refine og_static (pc' := 72) (cells' := 0) (slots' := 0) (W := 0) X14 hx hZ (rm_ils l Z a0 hw c1 h0 n0 O) hown (ow152 hw) (ow153 hw) (ow83 hw) (ow154 hw) (by decide) (by rw [hml]; rfl) e14 opd_14 [(.int c1)] [] rfl rfl rfl rfl (by decide) (by decide) rfl rfl (by decide) (by decide) (hb hby d33_69) rfl (fun v15 T15 h15 L15 X15 e15 z15 => ?_)
  obtain ⟨rb15, rfl, Nq15, hq15, hb15⟩ := z15; replace e15 := e15.trans hq15; have N := Fr.app N Nq15
  refine og_if_eq (pc1 := 83) (pc2 := 75) X15 hx (hb hby d33_72) (by decide) (by decide) rfl (fun hc72 => ?_) (fun hc72 => ?_)
  ·
   have hL := own_b0 hb15 hc72
   refine og_iload X15 hx rfl (hb hby d33_83) rfl ?_
   refine og_retI X15 hx hlk hret (hb hby d33_85) (by decide) (by decide) ?_
   rw [e15]; exact ⟨_, rfl, N, rfl, Or.inl ⟨rfl, fun q => hL q.2⟩⟩
  ·
   have hL := own_b1 hb15 hc72
   refine og_iload X15 hx rfl (hb hby d33_75) rfl ?_
   refine og_iload X15 hx rfl (hb hby d33_77) rfl ?_
   refine og_static (pc' := 82) (cells' := 0) (slots' := 0) (W := 0) X15 hx hZ (rm_tcp l Z a0 hw c0 c1 h0 n0 O) hown (ow157 hw) (ow158 hw) (ow83 hw) (ow159 hw) (by decide) (by rw [hml]; rfl) e15 opd_20 [(.int c0), (.int c1)] [] rfl rfl rfl rfl (by decide) (by decide) rfl rfl (by decide) (by decide) (hb hby d33_79) rfl (fun v16 T16 h16 L16 X16 e16 z16 => ?_)
   obtain ⟨rfl, Nq16, hq16⟩ := z16; replace e16 := e16.trans hq16; have N := Fr.app N Nq16
   refine og_retI X16 hx hlk hret (hb hby d33_82) (by decide) (by decide) ?_
   rw [e16]; exact ⟨_, rfl, N, rfl, Or.inr ⟨rfl, hH, hL⟩⟩
theorem rm_u33_0 (l : Launch) (Z : State) (a0 : Array Value) (hw : HW a0 Z) (ba : Addr) (kb : ClassId) (c0 c1 c2 : Int32) (hc0 : 0 ≤ c0.toInt ∧ c0.toInt ≤ 65535) (hc1 : 0 ≤ c1.toInt ∧ c1.toInt ≤ 65535) (hc2 : 0 ≤ c2.toInt ∧ c2.toInt ≤ 65535) (h0 : Heap) (n0 : Nat) (O : Old Z n0 h0) (V_ba : Arv Z h0 ba kb .byte (6 : Int32) [(.int c0.toInt8.toInt32), (.int (c0 >>> ((8 : Int32) &&& 31)).toInt8.toInt32), (.int c1.toInt8.toInt32), (.int (c1 >>> ((8 : Int32) &&& 31)).toInt8.toInt32), (.int c2.toInt8.toInt32), (.int (c2 >>> ((8 : Int32) &&& 31)).toInt8.toInt32)] (.int 0)) (S__assertionsDisabled : Sta Z Z.heap "java/lang/StringUTF16" "$assertionsDisabled" "Z" (.int 1)) (S_HI_BYTE_SHIFT : Sta Z Z.heap "java/lang/StringUTF16" "HI_BYTE_SHIFT" "I" (.int 0)) (S_LO_BYTE_SHIFT : Sta Z Z.heap "java/lang/StringUTF16" "LO_BYTE_SHIFT" "I" (.int 8)) :
  Con l Z (⟨"java/lang/StringUTF16", "codePointAt", "([BII)I"⟩ : MethodName) jdk_52_method_8_code 3 (some .int) ({ frames := 2, cells := 0, slots := 0, locals := 30 } : Room) #[(.ref ba), (.int 0), (.int 3)] h0 (fun v h L => ∃ r : Int32, v = some (.int r) ∧ Fr n0 L ∧ h = h0 ∧ ((r = c0 ∧ ¬ (own_H c0 ∧ own_L c1)) ∨ (r = own_tp c0 c1 ∧ own_H c0 ∧ own_L c1))) := by
 refine own_startC opn_32 ?_
 intro p e s m below meth c T0 X0 hx hby hml hZ hown hnm hret hlk e0
 have N := Fr.nil n0; have K := Keep.refl h0 []
 refine OG.cast (oef0 m ba (0 : Int32) (3 : Int32)) ?_
 refine og_aloadN X0 hx rfl rfl (hb hby d32_0) rfl ?_
 refine og_iloadN X0 hx rfl (hb hby d32_1) rfl ?_
 refine og_iloadN X0 hx rfl (hb hby d32_2) rfl ?_
 refine og_iconst (v := 0) X0 hx rfl (hb hby d32_3) rfl ?_
 refine og_static (pc' := 7) (cells' := 0) (slots' := 0) (W := 0) X0 hx hZ (rm_u43_0 l Z a0 hw ba kb c0 c1 c2 hc0 hc1 hc2 h0 n0 O V_ba S__assertionsDisabled S_HI_BYTE_SHIFT S_LO_BYTE_SHIFT) hown (ow140 hw) (ow141 hw) (ow21 hw) (ow142 hw) (by decide) (by rw [hml]; rfl) e0 opd_15 [(.ref ba), (.int 0), (.int 3), (.int 0)] [] rfl rfl rfl rfl (by decide) (by decide) rfl rfl (by decide) (by decide) (hb hby d32_4) rfl (fun v11 T11 h11 L11 X11 e11 z11 => ?_)
 obtain ⟨rp, rfl, Nq11, hq11, hrp⟩ := z11; replace e11 := e11.trans hq11; have N := Fr.app N Nq11
 refine og_retI X11 hx hlk hret (hb hby d32_7) (by decide) (by decide) ?_
 rw [e11]; exact ⟨_, rfl, N, rfl, hrp⟩
theorem rm_pU3_0 (l : Launch) (Z : State) (a0 : Array Value) (hw : HW a0 Z) (a1 ba : Addr) (kb : ClassId) (c0 c1 c2 : Int32) (hc0 : 0 ≤ c0.toInt ∧ c0.toInt ≤ 65535) (hc1 : 0 ≤ c1.toInt ∧ c1.toInt ≤ 65535) (hc2 : 0 ≤ c2.toInt ∧ c2.toInt ≤ 65535) (cs : Int32) (hcs : ¬ cs = 0) (fm : Value) (hfm : fm.isRef = true) (h0 : Heap) (n0 : Nat) (O : Old Z n0 h0) (E_a1 : Exa Z h0 a1 "java/lang/String") (F_value_a1 : Fld Z h0 a1 "java/lang/String" "value" "[B" (.ref ba)) (F_coder_a1 : Fld Z h0 a1 "java/lang/String" "coder" "B" (.int 1)) (V_ba : Arv Z h0 ba kb .byte (6 : Int32) [(.int c0.toInt8.toInt32), (.int (c0 >>> ((8 : Int32) &&& 31)).toInt8.toInt32), (.int c1.toInt8.toInt32), (.int (c1 >>> ((8 : Int32) &&& 31)).toInt8.toInt32), (.int c2.toInt8.toInt32), (.int (c2 >>> ((8 : Int32) &&& 31)).toInt8.toInt32)] (.int 0)) (S_CS : Sta Z Z.heap "java/lang/String" "COMPACT_STRINGS" "Z" (.int cs)) (S_FM : Sta Z Z.heap "jdk/internal/util/Preconditions" "SIOOBE_FORMATTER" "Ljava/util/function/BiFunction;" fm) (S__assertionsDisabled : Sta Z Z.heap "java/lang/StringUTF16" "$assertionsDisabled" "Z" (.int 1)) (S_HI_BYTE_SHIFT : Sta Z Z.heap "java/lang/StringUTF16" "HI_BYTE_SHIFT" "I" (.int 0)) (S_LO_BYTE_SHIFT : Sta Z Z.heap "java/lang/StringUTF16" "LO_BYTE_SHIFT" "I" (.int 8)) :
  Con l Z (⟨"java/lang/String", "codePointAt", "(I)I"⟩ : MethodName) jdk_42_method_57_code 3 (some .int) ({ frames := 3, cells := 0, slots := 0, locals := 44 } : Room) #[(.ref a1), (.int 0)] h0 (fun v h L => ∃ r : Int32, v = some (.int r) ∧ Fr n0 L ∧ h = h0 ∧ ((r = c0 ∧ ¬ (own_H c0 ∧ own_L c1)) ∨ (r = own_tp c0 c1 ∧ own_H c0 ∧ own_L c1))) := by
 refine own_startC opn_16 ?_
 intro p e s m below meth c T0 X0 hx hby hml hZ hown hnm hret hlk e0
 have N := Fr.nil n0; have K := Keep.refl h0 []
 refine OG.cast (oef13 m a1 (0 : Int32)) ?_
 refine og_aloadN X0 hx rfl rfl (hb hby d16_0) rfl ?_
 refine og_virtual (pc' := 4) (cells' := 0) (slots' := 0) (W := 0) X0 hx hZ (rm_ilU l Z a0 hw a1 cs hcs h0 n0 O F_coder_a1 S_CS) hown (ow53 hw) (ow54 hw) (own_nf hZ (ow56 hw)) (ow56 hw) (ow55 hw) (ow7 hw) (ow57 hw) (by decide) (by rw [hml]; rfl) e0 opd_10 [] [] rfl rfl rfl rfl (by decide) (by decide) rfl rfl (by decide) (by decide) E_a1 (hb hby d16_1) rfl (fun v11 T11 h11 L11 X11 e11 z11 => ?_)
 obtain ⟨rfl, Nq11, hq11⟩ := z11; replace e11 := e11.trans hq11; have N := Fr.app N Nq11
 refine og_if_eq (pc1 := 27) (pc2 := 7) X11 hx (hb hby d16_4) (by decide) (by decide) rfl (fun _ => ?_) (fun q => absurd q (by decide))
 refine og_aloadN X11 hx rfl rfl (hb hby d16_27) rfl ?_
 refine og_getfield X11 hx hZ (host := "") hown (Or.inl (ow32 hw)) Via.refl e11 F_value_a1 (hb hby d16_28) rfl (fun T12 X12 e12 => ?_)
 refine og_arraylength X12 hx hZ e12 V_ba (hb hby d16_31) rfl ?_
 refine og_iconst (v := 1) X12 hx rfl (hb hby d16_32) rfl ?_
 refine og_ishr X12 hx (hb hby d16_33) rfl ?_
 show OG p e below _ (T12.setTop (mkF m 34 #[.val (.ref a1), .val (.int 0), .unset] [(.int 3)]))
 refine og_istoreN (L' := #[.val (.ref a1), .val (.int 0), .val (.int 3)]) X12 hx rfl (hb hby d16_34) rfl ?_
 refine og_iloadN X12 hx rfl (hb hby d16_35) rfl ?_
 refine og_iloadN X12 hx rfl (hb hby d16_36) rfl ?_
 refine og_static (pc' := 40) (cells' := 0) (slots' := 0) (W := 0) X12 hx hZ (rm_ci l Z a0 hw (3 : Int32) (0 : Int32) ⟨by decide, by decide⟩ fm hfm h0 n0 O S_FM) hown (ow75 hw) (ow63 hw) (ow7 hw) (ow64 hw) (by decide) (by rw [hml]; rfl) e12 opd_9 [(.int 0), (.int 3)] [] rfl rfl rfl rfl (by decide) (by decide) rfl rfl (by decide) (by decide) (hb hby d16_37) rfl (fun v13 T13 h13 L13 X13 e13 z13 => ?_)
 obtain ⟨rfl, Nq13, hq13⟩ := z13; replace e13 := e13.trans hq13; have N := Fr.app N Nq13
 refine og_aloadN X13 hx rfl rfl (hb hby d16_40) rfl ?_
 refine og_getfield X13 hx hZ (host := "") hown (Or.inl (ow32 hw)) Via.refl e13 F_value_a1 (hb hby d16_41) rfl (fun T14 X14 e14 => ?_)
 refine og_iloadN X14 hx rfl (hb hby d16_44) rfl ?_
 refine og_iloadN X14 hx rfl (hb hby d16_45) rfl ?_
 refine og_static (pc' := 49) (cells' := 0) (slots' := 0) (W := 0) X14 hx hZ (rm_u33_0 l Z a0 hw ba kb c0 c1 c2 hc0 hc1 hc2 h0 n0 O V_ba S__assertionsDisabled S_HI_BYTE_SHIFT S_LO_BYTE_SHIFT) hown (ow137 hw) (ow138 hw) (ow21 hw) (ow139 hw) (by decide) (by rw [hml]; rfl) e14 opd_16 [(.ref ba), (.int 0), (.int 3)] [] rfl rfl rfl rfl (by decide) (by decide) rfl rfl (by decide) (by decide) (hb hby d16_46) rfl (fun v15 T15 h15 L15 X15 e15 z15 => ?_)
 obtain ⟨rp, rfl, Nq15, hq15, hrp⟩ := z15; replace e15 := e15.trans hq15; have N := Fr.app N Nq15
 refine og_retI X15 hx hlk hret (hb hby d16_49) (by decide) (by decide) ?_
 rw [e15]; exact ⟨_, rfl, N, rfl, hrp⟩
theorem rm_pL3_0 (l : Launch) (Z : State) (a0 : Array Value) (hw : HW a0 Z) (a1 ba : Addr) (kb : ClassId) (c0 c1 c2 : Int32) (hc0 : 0 ≤ c0.toInt ∧ c0.toInt ≤ 65535) (hc1 : 0 ≤ c1.toInt ∧ c1.toInt ≤ 65535) (hc2 : 0 ≤ c2.toInt ∧ c2.toInt ≤ 65535) (cs : Int32) (hcs : ¬ cs = 0) (fm : Value) (hfm : fm.isRef = true) (hsm : ¬ 255 < c0 ∧ ¬ 255 < c1 ∧ ¬ 255 < c2) (h0 : Heap) (n0 : Nat) (O : Old Z n0 h0) (E_a1 : Exa Z h0 a1 "java/lang/String") (F_value_a1 : Fld Z h0 a1 "java/lang/String" "value" "[B" (.ref ba)) (F_coder_a1 : Fld Z h0 a1 "java/lang/String" "coder" "B" (.int 0)) (V_ba : Arv Z h0 ba kb .byte (3 : Int32) [(.int c0.toInt8.toInt32), (.int c1.toInt8.toInt32), (.int c2.toInt8.toInt32)] (.int 0)) (S_CS : Sta Z Z.heap "java/lang/String" "COMPACT_STRINGS" "Z" (.int cs)) (S_FM : Sta Z Z.heap "jdk/internal/util/Preconditions" "SIOOBE_FORMATTER" "Ljava/util/function/BiFunction;" fm) :
  Con l Z (⟨"java/lang/String", "codePointAt", "(I)I"⟩ : MethodName) jdk_42_method_57_code 3 (some .int) ({ frames := 2, cells := 0, slots := 0, locals := 27 } : Room) #[(.ref a1), (.int 0)] h0 (fun v h L => v = some (.int c0) ∧ Fr n0 L ∧ h = h0) := by
 refine own_startC opn_16 ?_
 intro p e s m below meth c T0 X0 hx hby hml hZ hown hnm hret hlk e0
 have N := Fr.nil n0; have K := Keep.refl h0 []
 refine OG.cast (oef13 m a1 (0 : Int32)) ?_
 refine og_aloadN X0 hx rfl rfl (hb hby d16_0) rfl ?_
 refine og_virtual (pc' := 4) (cells' := 0) (slots' := 0) (W := 0) X0 hx hZ (rm_il l Z a0 hw a1 cs hcs h0 n0 O F_coder_a1 S_CS) hown (ow53 hw) (ow54 hw) (own_nf hZ (ow56 hw)) (ow56 hw) (ow55 hw) (ow7 hw) (ow57 hw) (by decide) (by rw [hml]; rfl) e0 opd_10 [] [] rfl rfl rfl rfl (by decide) (by decide) rfl rfl (by decide) (by decide) E_a1 (hb hby d16_1) rfl (fun v11 T11 h11 L11 X11 e11 z11 => ?_)
 obtain ⟨rfl, Nq11, hq11⟩ := z11; replace e11 := e11.trans hq11; have N := Fr.app N Nq11
 refine og_if_eq (pc1 := 27) (pc2 := 7) X11 hx (hb hby d16_4) (by decide) (by decide) rfl (fun q => absurd q (by decide)) (fun _ => ?_)
 refine og_iloadN X11 hx rfl (hb hby d16_7) rfl ?_
 refine og_aloadN X11 hx rfl rfl (hb hby d16_8) rfl ?_
 refine og_getfield X11 hx hZ (host := "") hown (Or.inl (ow32 hw)) Via.refl e11 F_value_a1 (hb hby d16_9) rfl (fun T12 X12 e12 => ?_)
 refine og_arraylength X12 hx hZ e12 V_ba (hb hby d16_12) rfl ?_
 refine og_static (pc' := 16) (cells' := 0) (slots' := 0) (W := 0) X12 hx hZ (rm_ci l Z a0 hw (3 : Int32) (0 : Int32) ⟨by decide, by decide⟩ fm hfm h0 n0 O S_FM) hown (ow75 hw) (ow63 hw) (ow7 hw) (ow64 hw) (by decide) (by rw [hml]; rfl) e12 opd_9 [(.int 0), (.int 3)] [] rfl rfl rfl rfl (by decide) (by decide) rfl rfl (by decide) (by decide) (hb hby d16_13) rfl (fun v13 T13 h13 L13 X13 e13 z13 => ?_)
 obtain ⟨rfl, Nq13, hq13⟩ := z13; replace e13 := e13.trans hq13; have N := Fr.app N Nq13
 refine og_aloadN X13 hx rfl rfl (hb hby d16_16) rfl ?_
 refine og_getfield X13 hx hZ (host := "") hown (Or.inl (ow32 hw)) Via.refl e13 F_value_a1 (hb hby d16_17) rfl (fun T14 X14 e14 => ?_)
 refine og_iloadN X14 hx rfl (hb hby d16_20) rfl ?_
 refine og_baload (v := (.int c0.toInt8.toInt32)) X14 hx hZ e14 V_ba ⟨by decide, by decide⟩ rfl (hb hby d16_21) rfl ?_
 refine og_sipush (v := 255) X14 hx rfl (hb hby d16_22) rfl ?_
 refine og_iand X14 hx (hb hby d16_25) rfl ?_
 refine og_retI X14 hx hlk hret (hb hby d16_26) (by decide) (by decide) ?_
 rw [e14, own_chL hc0 hsm.1]; exact ⟨rfl, N, rfl⟩
theorem rm_uk3_1 (l : Launch) (Z : State) (a0 : Array Value) (hw : HW a0 Z) (ba : Addr) (kb : ClassId) (vs : List Value) (fm : Value) (hfm : fm.isRef = true) (h0 : Heap) (n0 : Nat) (O : Old Z n0 h0) (V_ba : Arv Z h0 ba kb .byte (6 : Int32) vs (.int 0)) (S_FM : Sta Z Z.heap "jdk/internal/util/Preconditions" "SIOOBE_FORMATTER" "Ljava/util/function/BiFunction;" fm) :
  Con l Z (⟨"java/lang/StringUTF16", "checkIndex", "(I[B)V"⟩ : MethodName) jdk_52_method_91_code 2 none ({ frames := 2, cells := 0, slots := 0, locals := 27 } : Room) #[(.int 1), (.ref ba)] h0 (fun v h L => v = none ∧ Fr n0 L ∧ h = h0) := by
 refine own_startC opn_30 ?_
 intro p e s m below meth c T0 X0 hx hby hml hZ hown hnm hret hlk e0
 have N := Fr.nil n0; have K := Keep.refl h0 []
 refine OG.cast (oef11 m (1 : Int32) ba) ?_
 refine og_iloadN X0 hx rfl (hb hby d30_0) rfl ?_
 refine og_aloadN X0 hx rfl rfl (hb hby d30_1) rfl ?_
 refine og_static (pc' := 5) (cells' := 0) (slots' := 0) (W := 1) X0 hx hZ (rm_ul3 l Z a0 hw ba kb _ h0 n0 O V_ba) hown (ow133 hw) (ow134 hw) (ow21 hw) (ow135 hw) (by decide) (by rw [hml]; rfl) e0 opd_12 [(.ref ba)] [(.int 1)] rfl rfl rfl rfl (by decide) (by decide) rfl rfl (by decide) (by decide) (hb hby d30_2) rfl (fun v11 T11 h11 L11 X11 e11 z11 => ?_)
 obtain ⟨rfl, Nq11, hq11⟩ := z11; replace e11 := e11.trans hq11; have N := Fr.app N Nq11
 refine og_static (pc' := 8) (cells' := 0) (slots' := 0) (W := 0) X11 hx hZ (rm_ci l Z a0 hw (3 : Int32) (1 : Int32) ⟨by decide, by decide⟩ fm hfm h0 n0 O S_FM) hown (ow136 hw) (ow63 hw) (ow7 hw) (ow64 hw) (by decide) (by rw [hml]; rfl) e11 opd_9 [(.int 1), (.int 3)] [] rfl rfl rfl rfl (by decide) (by decide) rfl rfl (by decide) (by decide) (hb hby d30_5) rfl (fun v12 T12 h12 L12 X12 e12 z12 => ?_)
 obtain ⟨rfl, Nq12, hq12⟩ := z12; replace e12 := e12.trans hq12; have N := Fr.app N Nq12
 refine og_retV X12 hx hlk hret (hb hby d30_8) (by decide) (by decide) ?_
 rw [e12]; exact ⟨rfl, N, rfl⟩
theorem rm_uca3_1 (l : Launch) (Z : State) (a0 : Array Value) (hw : HW a0 Z) (ba : Addr) (kb : ClassId) (c0 c1 c2 : Int32) (hc0 : 0 ≤ c0.toInt ∧ c0.toInt ≤ 65535) (hc1 : 0 ≤ c1.toInt ∧ c1.toInt ≤ 65535) (hc2 : 0 ≤ c2.toInt ∧ c2.toInt ≤ 65535) (fm : Value) (hfm : fm.isRef = true) (h0 : Heap) (n0 : Nat) (O : Old Z n0 h0) (V_ba : Arv Z h0 ba kb .byte (6 : Int32) [(.int c0.toInt8.toInt32), (.int (c0 >>> ((8 : Int32) &&& 31)).toInt8.toInt32), (.int c1.toInt8.toInt32), (.int (c1 >>> ((8 : Int32) &&& 31)).toInt8.toInt32), (.int c2.toInt8.toInt32), (.int (c2 >>> ((8 : Int32) &&& 31)).toInt8.toInt32)] (.int 0)) (S_FM : Sta Z Z.heap "jdk/internal/util/Preconditions" "SIOOBE_FORMATTER" "Ljava/util/function/BiFunction;" fm) (S__assertionsDisabled : Sta Z Z.heap "java/lang/StringUTF16" "$assertionsDisabled" "Z" (.int 1)) (S_HI_BYTE_SHIFT : Sta Z Z.heap "java/lang/StringUTF16" "HI_BYTE_SHIFT" "I" (.int 0)) (S_LO_BYTE_SHIFT : Sta Z Z.heap "java/lang/StringUTF16" "LO_BYTE_SHIFT" "I" (.int 8)) :
  Con l Z (⟨"java/lang/StringUTF16", "charAt", "([BI)C"⟩ : MethodName) jdk_52_method_83_code 2 (some .char) ({ frames := 3, cells := 0, slots := 0, locals := 40 } : Room) #[(.ref ba), (.int 1)] h0 (fun v h L => v = some (.int c1) ∧ Fr n0 L ∧ h = h0) := by
 refine own_startC opn_29 ?_
 intro p e s m below meth c T0 X0 hx hby hml hZ hown hnm hret hlk e0
 have N := Fr.nil n0; have K := Keep.refl h0 []
 refine OG.cast (oef3 m ba (1 : Int32)) ?_
 refine og_iloadN X0 hx rfl (hb hby d29_0) rfl ?_
 refine og_aloadN X0 hx rfl rfl (hb hby d29_1) rfl ?_
 refine og_static (pc' := 5) (cells' := 0) (slots' := 0) (W := 0) X0 hx hZ (rm_uk3_1 l Z a0 hw ba kb _ fm hfm h0 n0 O V_ba S_FM) hown (ow130 hw) (ow131 hw) (ow21 hw) (ow132 hw) (by decide) (by rw [hml]; rfl) e0 opd_13 [(.int 1), (.ref ba)] [] rfl rfl rfl rfl (by decide) (by decide) rfl rfl (by decide) (by decide) (hb hby d29_2) rfl (fun v11 T11 h11 L11 X11 e11 z11 => ?_)
 obtain ⟨rfl, Nq11, hq11⟩ := z11; replace e11 := e11.trans hq11; have N := Fr.app N Nq11
 refine og_aloadN X11 hx rfl rfl (hb hby d29_5) rfl ?_
 refine og_iloadN X11 hx rfl (hb hby d29_6) rfl ?_
 refine og_static (pc' := 10) (cells' := 0) (slots' := 0) (W := 0) X11 hx hZ (rm_gch_3_1 l Z a0 hw ba kb c0 c1 c2 hc0 hc1 hc2 h0 n0 O V_ba S__assertionsDisabled S_HI_BYTE_SHIFT S_LO_BYTE_SHIFT) hown (ow124 hw) (ow125 hw) (ow21 hw) (ow126 hw) (by decide) (by rw [hml]; rfl) e11 opd_5 [(.ref ba), (.int 1)] [] rfl rfl rfl rfl (by decide) (by decide) rfl rfl (by decide) (by decide) (hb hby d29_7) rfl (fun v12 T12 h12 L12 X12 e12 z12 => ?_)
 obtain ⟨rfl, Nq12, hq12⟩ := z12; replace e12 := e12.trans hq12; have N := Fr.app N Nq12
 refine og_retN X12 hx hlk hret (by simp) (hb hby d29_10) (by decide) (by decide) ?_
 rw [e12, own_nc2 hc1]; exact ⟨rfl, N, rfl⟩
theorem rm_cU3_1 (l : Launch) (Z : State) (a0 : Array Value) (hw : HW a0 Z) (a1 ba : Addr) (kb : ClassId) (c0 c1 c2 : Int32) (hc0 : 0 ≤ c0.toInt ∧ c0.toInt ≤ 65535) (hc1 : 0 ≤ c1.toInt ∧ c1.toInt ≤ 65535) (hc2 : 0 ≤ c2.toInt ∧ c2.toInt ≤ 65535) (cs : Int32) (hcs : ¬ cs = 0) (fm : Value) (hfm : fm.isRef = true) (h0 : Heap) (n0 : Nat) (O : Old Z n0 h0) (E_a1 : Exa Z h0 a1 "java/lang/String") (F_value_a1 : Fld Z h0 a1 "java/lang/String" "value" "[B" (.ref ba)) (F_coder_a1 : Fld Z h0 a1 "java/lang/String" "coder" "B" (.int 1)) (V_ba : Arv Z h0 ba kb .byte (6 : Int32) [(.int c0.toInt8.toInt32), (.int (c0 >>> ((8 : Int32) &&& 31)).toInt8.toInt32), (.int c1.toInt8.toInt32), (.int (c1 >>> ((8 : Int32) &&& 31)).toInt8.toInt32), (.int c2.toInt8.toInt32), (.int (c2 >>> ((8 : Int32) &&& 31)).toInt8.toInt32)] (.int 0)) (S_CS : Sta Z Z.heap "java/lang/String" "COMPACT_STRINGS" "Z" (.int cs)) (S_FM : Sta Z Z.heap "jdk/internal/util/Preconditions" "SIOOBE_FORMATTER" "Ljava/util/function/BiFunction;" fm) (S__assertionsDisabled : Sta Z Z.heap "java/lang/StringUTF16" "$assertionsDisabled" "Z" (.int 1)) (S_HI_BYTE_SHIFT : Sta Z Z.heap "java/lang/StringUTF16" "HI_BYTE_SHIFT" "I" (.int 0)) (S_LO_BYTE_SHIFT : Sta Z Z.heap "java/lang/StringUTF16" "LO_BYTE_SHIFT" "I" (.int 8)) :
  Con l Z (⟨"java/lang/String", "charAt", "(I)C"⟩ : MethodName) jdk_42_method_56_code 2 (some .char) ({ frames := 4, cells := 0, slots := 0, locals := 53 } : Room) #[(.ref a1), (.int 1)] h0 (fun v h L => v = some (.int c1) ∧ Fr n0 L ∧ h = h0) := by
 refine own_startC opn_11 ?_
 intro p e s m below meth c T0 X0 hx hby hml hZ hown hnm hret hlk e0
 have N := Fr.nil n0; have K := Keep.refl h0 []
 refine OG.cast (oef3 m a1 (1 : Int32)) ?_
 refine og_aloadN X0 hx rfl rfl (hb hby d11_0) rfl ?_
 refine og_virtual (pc' := 4) (cells' := 0) (slots' := 0) (W := 0) X0 hx hZ (rm_ilU l Z a0 hw a1 cs hcs h0 n0 O F_coder_a1 S_CS) hown (ow53 hw) (ow54 hw) (own_nf hZ (ow56 hw)) (ow56 hw) (ow55 hw) (ow7 hw) (ow57 hw) (by decide) (by rw [hml]; rfl) e0 opd_10 [] [] rfl rfl rfl rfl (by decide) (by decide) rfl rfl (by decide) (by decide) E_a1 (hb hby d11_1) rfl (fun v11 T11 h11 L11 X11 e11 z11 => ?_)
 obtain ⟨rfl, Nq11, hq11⟩ := z11; replace e11 := e11.trans hq11; have N := Fr.app N Nq11
 refine og_if_eq (pc1 := 16) (pc2 := 7) X11 hx (hb hby d11_4) (by decide) (by decide) rfl (fun _ => ?_) (fun q => absurd q (by decide))
 refine og_aloadN X11 hx rfl rfl (hb hby d11_16) rfl ?_
 refine og_getfield X11 hx hZ (host := "") hown (Or.inl (ow32 hw)) Via.refl e11 F_value_a1 (hb hby d11_17) rfl (fun T12 X12 e12 => ?_)
 refine og_iloadN X12 hx rfl (hb hby d11_20) rfl ?_
 refine og_static (pc' := 24) (cells' := 0) (slots' := 0) (W := 0) X12 hx hZ (rm_uca3_1 l Z a0 hw ba kb c0 c1 c2 hc0 hc1 hc2 fm hfm h0 n0 O V_ba S_FM S__assertionsDisabled S_HI_BYTE_SHIFT S_LO_BYTE_SHIFT) hown (ow127 hw) (ow128 hw) (ow21 hw) (ow129 hw) (by decide) (by rw [hml]; rfl) e12 opd_5 [(.ref ba), (.int 1)] [] rfl rfl rfl rfl (by decide) (by decide) rfl rfl (by decide) (by decide) (hb hby d11_21) rfl (fun v13 T13 h13 L13 X13 e13 z13 => ?_)
 obtain ⟨rfl, Nq13, hq13⟩ := z13; replace e13 := e13.trans hq13; have N := Fr.app N Nq13
 refine og_retN X13 hx hlk hret (by simp) (hb hby d11_24) (by decide) (by decide) ?_
 rw [e13, own_nc2 hc1]; exact ⟨rfl, N, rfl⟩
theorem rm_u43_1 (l : Launch) (Z : State) (a0 : Array Value) (hw : HW a0 Z) (ba : Addr) (kb : ClassId) (c0 c1 c2 : Int32) (hc0 : 0 ≤ c0.toInt ∧ c0.toInt ≤ 65535) (hc1 : 0 ≤ c1.toInt ∧ c1.toInt ≤ 65535) (hc2 : 0 ≤ c2.toInt ∧ c2.toInt ≤ 65535) (h0 : Heap) (n0 : Nat) (O : Old Z n0 h0) (V_ba : Arv Z h0 ba kb .byte (6 : Int32) [(.int c0.toInt8.toInt32), (.int (c0 >>> ((8 : Int32) &&& 31)).toInt8.toInt32), (.int c1.toInt8.toInt32), (.int (c1 >>> ((8 : Int32) &&& 31)).toInt8.toInt32), (.int c2.toInt8.toInt32), (.int (c2 >>> ((8 : Int32) &&& 31)).toInt8.toInt32)] (.int 0)) (S__assertionsDisabled : Sta Z Z.heap "java/lang/StringUTF16" "$assertionsDisabled" "Z" (.int 1)) (S_HI_BYTE_SHIFT : Sta Z Z.heap "java/lang/StringUTF16" "HI_BYTE_SHIFT" "I" (.int 0)) (S_LO_BYTE_SHIFT : Sta Z Z.heap "java/lang/StringUTF16" "LO_BYTE_SHIFT" "I" (.int 8)) :
  Con l Z (⟨"java/lang/StringUTF16", "codePointAt", "([BIIZ)I"⟩ : MethodName) jdk_52_method_7_code 6 (some .int) ({ frames := 1, cells := 0, slots := 0, locals := 13 } : Room) #[(.ref ba), (.int 1), (.int 3), (.int 0)] h0 (fun v h L => ∃ r : Int32, v = some (.int r) ∧ Fr n0 L ∧ h = h0 ∧ ((r = c1 ∧ ¬ (own_H c1 ∧ own_L c2)) ∨ (r = own_tp c1 c2 ∧ own_H c1 ∧ own_L c2))) := by
 refine own_startC opn_33 ?_
 intro p e s m below meth c T0 X0 hx hby hml hZ hown hnm hret hlk e0
 have N := Fr.nil n0; have K := Keep.refl h0 []
 refine OG.cast (oef12 m ba (1 : Int32) (3 : Int32) (0 : Int32)) ?_
 refine og_getstatic X0 hx hZ (host := "") hown (Or.inl (ow121 hw)) Via.refl e0 (S__assertionsDisabled.ext O.2) (hb hby d33_0) rfl (fun T11 X11 e11 => ?_)
 refine og_if_ne (pc1 := 19) (pc2 := 6) X11 hx (hb hby d33_3) (by decide) (by decide) rfl (fun _ => ?_) (fun q => absurd q (by decide))
 refine og_iloadN X11 hx rfl (hb hby d33_19) rfl ?_
 refine og_if_eq (pc1 := 28) (pc2 := 23) X11 hx (hb hby d33_20) (by decide) (by decide) rfl (fun _ => ?_) (fun q => absurd q (by decide))
 refine og_aloadN X11 hx rfl rfl (hb hby d33_28) rfl ?_
 refine og_iloadN X11 hx rfl (hb hby d33_29) rfl ?_
 refine og_static (pc' := 33) (cells' := 0) (slots' := 0) (W := 0) X11 hx hZ (rm_gch_3_1 l Z a0 hw ba kb c0 c1 c2 hc0 hc1 hc2 h0 n0 O V_ba S__assertionsDisabled S_HI_BYTE_SHIFT S_LO_BYTE_SHIFT) hown (ow124 hw) (ow125 hw) (ow21 hw) (ow126 hw) (by decide) (by rw [hml]; rfl) e11 opd_5 [(.ref ba), (.int 1)] [] rfl rfl rfl rfl (by decide) (by decide) rfl rfl (by decide) (by decide) (hb hby d33_30) rfl (fun v12 T12 h12 L12 X12 e12 z12 => ?_)
 obtain ⟨rfl, Nq12, hq12⟩ := z12; replace e12 := e12.trans hq12; have N := Fr.app N Nq12
 refine og_istore (L' := #[.val (.ref ba), .val (.int 1), .val (.int 3), .val (.int 0), .val (.int c1), .unset]) X12 hx rfl (hb hby d33_33) rfl ?_
 refine og_iload X12 hx rfl (hb hby d33_35) rfl ?_
 refine og_static (pc' := 40) (cells' := 0) (slots' := 0) (W := 0) X12 hx hZ (rm_ihs l Z a0 hw c1 h0 n0 O) hown (ow143 hw) (ow144 hw) (ow83 hw) (ow145 hw) (by decide) (by rw [hml]; rfl) e12 opd_14 [(.int c1)] [] rfl rfl rfl rfl (by decide) (by decide) rfl rfl (by decide) (by decide) (hb hby d33_37) rfl (fun v13 T13 h13 L13 X13 e13 z13 => ?_)
 obtain ⟨rb13, rfl, Nq13, hq13, hb13⟩ := z13; replace e13 := e13.trans hq13; have N := Fr.app N Nq13
 refine og_if_eq (pc1 := 83) (pc2 := 43) X13 hx (hb hby d33_40) (by decide) (by decide) rfl (fun hc40 => ?_) (fun hc40 => ?_)
 ·
  have hH := own_b0 hb13 hc40
  refine og_iload X13 hx rfl (hb hby d33_83) rfl ?_
  refine og_retI X13 hx hlk hret (hb hby d33_85) (by decide) (by decide) ?_
  rw [e13]; exact ⟨_, rfl, N, rfl, Or.inl ⟨rfl, fun q => hH q.1⟩⟩
 ·
  have hH := own_b1 hb13 hc40
  refine og_iinc (L' := #[.val (.ref ba), .val (.int 2), .val (.int 3), .val (.int 0), .val (.int c1), .unset]) (w := 1) X13 hx rfl rfl rfl (hb hby d33_43) rfl ?_
  refine og_iloadN X13 hx rfl (hb hby d33_46) rfl ?_
  refine og_iloadN X13 hx rfl (hb hby d33_47) rfl ?_
  refine og_icmp_ge (pc1 := 83) (pc2 := 51) X13 hx (hb hby d33_48) (by decide) (by decide) rfl (fun q => absurd q (by decide)) (fun _ => ?_)
  refine og_iloadN X13 hx rfl (hb hby d33_51) rfl ?_
  refine og_if_eq (pc1 := 60) (pc2 := 55) X13 hx (hb hby d33_52) (by decide) (by decide) rfl (fun _ => ?_) (fun q => absurd q (by decide))
  refine og_aloadN X13 hx rfl rfl (hb hby d33_60) rfl ?_
  refine og_iloadN X13 hx rfl (hb hby d33_61) rfl ?_
  refine og_static (pc' := 65) (cells' := 0) (slots' := 0) (W := 0) X13 hx hZ (rm_gch_3_2 l Z a0 hw ba kb c0 c1 c2 hc0 hc1 hc2 h0 n0 O V_ba S__assertionsDisabled S_HI_BYTE_SHIFT S_LO_BYTE_SHIFT) hown (ow124 hw) (ow125 hw) (ow21 hw) (ow126 hw) (by decide) (by rw [hml]; rfl) e13 opd_5 [(.ref ba), (.int 2)] [] rfl rfl rfl rfl (by decide) (by decide) rfl rfl (by decide) (by decide) (hb hby d33_62) rfl (fun v14 T14 h14 L14 X14 e14 z14 => ?_)
  obtain ⟨rfl, Nq14, hq14⟩ := z14; replace e14 := e14.trans hq14; have N := Fr.app N Nq14
  refine og_istore (L' := #[.val (.ref ba), .val (.int 2), .val (.int 3), .val (.int 0), .val (.int c1), .val (.int c2)]) X14 hx rfl (hb hby d33_65) rfl ?_
  refine og_iload X14 hx rfl (hb hby d33_67) rfl ?_
  refine og_static (pc' := 72) (cells' := 0) (slots' := 0) (W := 0) X14 hx hZ (rm_ils l Z a0 hw c2 h0 n0 O) hown (ow152 hw) (ow153 hw) (ow83 hw) (ow154 hw) (by decide) (by rw [hml]; rfl) e14 opd_14 [(.int c2)] [] rfl rfl rfl rfl (by decide) (by decide) rfl rfl (by decide) (by decide) (hb hby d33_69) rfl (fun v15 T15 h15 L15 X15 e15 z15 => ?_)
  obtain ⟨rb15, rfl, Nq15, hq15, hb15⟩ := z15; replace e15 := e15.trans hq15; have N := Fr.app N Nq15
  refine og_if_eq (pc1 := 83) (pc2 := 75) X15 hx (hb hby d33_72) (by decide) (by decide) rfl (fun hc72 => ?_) (fun hc72 => ?_)
  ·
   have hL := own_b0 hb15 hc72
   refine og_iload X15 hx rfl (hb hby d33_83) rfl ?_
   refine og_retI X15 hx hlk hret (hb hby d33_85) (by decide) (by decide) ?_
   rw [e15]; exact ⟨_, rfl, N, rfl, Or.inl ⟨rfl, fun q => hL q.2⟩⟩
  ·
   have hL := own_b1 hb15 hc72
   refine og_iload X15 hx rfl (hb hby d33_75) rfl ?_
   refine og_iload X15 hx rfl (hb hby d33_77) rfl ?_
   refine og_static (pc' := 82) (cells' := 0) (slots' := 0) (W := 0) X15 hx hZ (rm_tcp l Z a0 hw c1 c2 h0 n0 O) hown (ow157 hw) (ow158 hw) (ow83 hw) (ow159 hw) (by decide) (by rw [hml]; rfl) e15 opd_20 [(.int c1), (.int c2)] [] rfl rfl rfl rfl (by decide) (by decide) rfl rfl (by decide) (by decide) (hb hby d33_79) rfl (fun v16 T16 h16 L16 X16 e16 z16 => ?_)
   obtain ⟨rfl, Nq16, hq16⟩ := z16; replace e16 := e16.trans hq16; have N := Fr.app N Nq16
   refine og_retI X16 hx hlk hret (hb hby d33_82) (by decide) (by decide) ?_
   rw [e16]; exact ⟨_, rfl, N, rfl, Or.inr ⟨rfl, hH, hL⟩⟩
theorem rm_u33_1 (l : Launch) (Z : State) (a0 : Array Value) (hw : HW a0 Z) (ba : Addr) (kb : ClassId) (c0 c1 c2 : Int32) (hc0 : 0 ≤ c0.toInt ∧ c0.toInt ≤ 65535) (hc1 : 0 ≤ c1.toInt ∧ c1.toInt ≤ 65535) (hc2 : 0 ≤ c2.toInt ∧ c2.toInt ≤ 65535) (h0 : Heap) (n0 : Nat) (O : Old Z n0 h0) (V_ba : Arv Z h0 ba kb .byte (6 : Int32) [(.int c0.toInt8.toInt32), (.int (c0 >>> ((8 : Int32) &&& 31)).toInt8.toInt32), (.int c1.toInt8.toInt32), (.int (c1 >>> ((8 : Int32) &&& 31)).toInt8.toInt32), (.int c2.toInt8.toInt32), (.int (c2 >>> ((8 : Int32) &&& 31)).toInt8.toInt32)] (.int 0)) (S__assertionsDisabled : Sta Z Z.heap "java/lang/StringUTF16" "$assertionsDisabled" "Z" (.int 1)) (S_HI_BYTE_SHIFT : Sta Z Z.heap "java/lang/StringUTF16" "HI_BYTE_SHIFT" "I" (.int 0)) (S_LO_BYTE_SHIFT : Sta Z Z.heap "java/lang/StringUTF16" "LO_BYTE_SHIFT" "I" (.int 8)) :
  Con l Z (⟨"java/lang/StringUTF16", "codePointAt", "([BII)I"⟩ : MethodName) jdk_52_method_8_code 3 (some .int) ({ frames := 2, cells := 0, slots := 0, locals := 30 } : Room) #[(.ref ba), (.int 1), (.int 3)] h0 (fun v h L => ∃ r : Int32, v = some (.int r) ∧ Fr n0 L ∧ h = h0 ∧ ((r = c1 ∧ ¬ (own_H c1 ∧ own_L c2)) ∨ (r = own_tp c1 c2 ∧ own_H c1 ∧ own_L c2))) := by
 refine own_startC opn_32 ?_
 intro p e s m below meth c T0 X0 hx hby hml hZ hown hnm hret hlk e0
 have N := Fr.nil n0; have K := Keep.refl h0 []
 refine OG.cast (oef0 m ba (1 : Int32) (3 : Int32)) ?_
 refine og_aloadN X0 hx rfl rfl (hb hby d32_0) rfl ?_
 refine og_iloadN X0 hx rfl (hb hby d32_1) rfl ?_
 refine og_iloadN X0 hx rfl (hb hby d32_2) rfl ?_
 refine og_iconst (v := 0) X0 hx rfl (hb hby d32_3) rfl ?_
 refine og_static (pc' := 7) (cells' := 0) (slots' := 0) (W := 0) X0 hx hZ (rm_u43_1 l Z a0 hw ba kb c0 c1 c2 hc0 hc1 hc2 h0 n0 O V_ba S__assertionsDisabled S_HI_BYTE_SHIFT S_LO_BYTE_SHIFT) hown (ow140 hw) (ow141 hw) (ow21 hw) (ow142 hw) (by decide) (by rw [hml]; rfl) e0 opd_15 [(.ref ba), (.int 1), (.int 3), (.int 0)] [] rfl rfl rfl rfl (by decide) (by decide) rfl rfl (by decide) (by decide) (hb hby d32_4) rfl (fun v11 T11 h11 L11 X11 e11 z11 => ?_)
 obtain ⟨rp, rfl, Nq11, hq11, hrp⟩ := z11; replace e11 := e11.trans hq11; have N := Fr.app N Nq11
 refine og_retI X11 hx hlk hret (hb hby d32_7) (by decide) (by decide) ?_
 rw [e11]; exact ⟨_, rfl, N, rfl, hrp⟩
theorem rm_pU3_1 (l : Launch) (Z : State) (a0 : Array Value) (hw : HW a0 Z) (a1 ba : Addr) (kb : ClassId) (c0 c1 c2 : Int32) (hc0 : 0 ≤ c0.toInt ∧ c0.toInt ≤ 65535) (hc1 : 0 ≤ c1.toInt ∧ c1.toInt ≤ 65535) (hc2 : 0 ≤ c2.toInt ∧ c2.toInt ≤ 65535) (cs : Int32) (hcs : ¬ cs = 0) (fm : Value) (hfm : fm.isRef = true) (h0 : Heap) (n0 : Nat) (O : Old Z n0 h0) (E_a1 : Exa Z h0 a1 "java/lang/String") (F_value_a1 : Fld Z h0 a1 "java/lang/String" "value" "[B" (.ref ba)) (F_coder_a1 : Fld Z h0 a1 "java/lang/String" "coder" "B" (.int 1)) (V_ba : Arv Z h0 ba kb .byte (6 : Int32) [(.int c0.toInt8.toInt32), (.int (c0 >>> ((8 : Int32) &&& 31)).toInt8.toInt32), (.int c1.toInt8.toInt32), (.int (c1 >>> ((8 : Int32) &&& 31)).toInt8.toInt32), (.int c2.toInt8.toInt32), (.int (c2 >>> ((8 : Int32) &&& 31)).toInt8.toInt32)] (.int 0)) (S_CS : Sta Z Z.heap "java/lang/String" "COMPACT_STRINGS" "Z" (.int cs)) (S_FM : Sta Z Z.heap "jdk/internal/util/Preconditions" "SIOOBE_FORMATTER" "Ljava/util/function/BiFunction;" fm) (S__assertionsDisabled : Sta Z Z.heap "java/lang/StringUTF16" "$assertionsDisabled" "Z" (.int 1)) (S_HI_BYTE_SHIFT : Sta Z Z.heap "java/lang/StringUTF16" "HI_BYTE_SHIFT" "I" (.int 0)) (S_LO_BYTE_SHIFT : Sta Z Z.heap "java/lang/StringUTF16" "LO_BYTE_SHIFT" "I" (.int 8)) :
  Con l Z (⟨"java/lang/String", "codePointAt", "(I)I"⟩ : MethodName) jdk_42_method_57_code 3 (some .int) ({ frames := 3, cells := 0, slots := 0, locals := 44 } : Room) #[(.ref a1), (.int 1)] h0 (fun v h L => ∃ r : Int32, v = some (.int r) ∧ Fr n0 L ∧ h = h0 ∧ ((r = c1 ∧ ¬ (own_H c1 ∧ own_L c2)) ∨ (r = own_tp c1 c2 ∧ own_H c1 ∧ own_L c2))) := by
 refine own_startC opn_16 ?_
 intro p e s m below meth c T0 X0 hx hby hml hZ hown hnm hret hlk e0
 have N := Fr.nil n0; have K := Keep.refl h0 []
 refine OG.cast (oef13 m a1 (1 : Int32)) ?_
 refine og_aloadN X0 hx rfl rfl (hb hby d16_0) rfl ?_
 refine og_virtual (pc' := 4) (cells' := 0) (slots' := 0) (W := 0) X0 hx hZ (rm_ilU l Z a0 hw a1 cs hcs h0 n0 O F_coder_a1 S_CS) hown (ow53 hw) (ow54 hw) (own_nf hZ (ow56 hw)) (ow56 hw) (ow55 hw) (ow7 hw) (ow57 hw) (by decide) (by rw [hml]; rfl) e0 opd_10 [] [] rfl rfl rfl rfl (by decide) (by decide) rfl rfl (by decide) (by decide) E_a1 (hb hby d16_1) rfl (fun v11 T11 h11 L11 X11 e11 z11 => ?_)
 obtain ⟨rfl, Nq11, hq11⟩ := z11; replace e11 := e11.trans hq11; have N := Fr.app N Nq11
 refine og_if_eq (pc1 := 27) (pc2 := 7) X11 hx (hb hby d16_4) (by decide) (by decide) rfl (fun _ => ?_) (fun q => absurd q (by decide))
 refine og_aloadN X11 hx rfl rfl (hb hby d16_27) rfl ?_
 refine og_getfield X11 hx hZ (host := "") hown (Or.inl (ow32 hw)) Via.refl e11 F_value_a1 (hb hby d16_28) rfl (fun T12 X12 e12 => ?_)
 refine og_arraylength X12 hx hZ e12 V_ba (hb hby d16_31) rfl ?_
 refine og_iconst (v := 1) X12 hx rfl (hb hby d16_32) rfl ?_
 refine og_ishr X12 hx (hb hby d16_33) rfl ?_
 show OG p e below _ (T12.setTop (mkF m 34 #[.val (.ref a1), .val (.int 1), .unset] [(.int 3)]))
 refine og_istoreN (L' := #[.val (.ref a1), .val (.int 1), .val (.int 3)]) X12 hx rfl (hb hby d16_34) rfl ?_
 refine og_iloadN X12 hx rfl (hb hby d16_35) rfl ?_
 refine og_iloadN X12 hx rfl (hb hby d16_36) rfl ?_
 refine og_static (pc' := 40) (cells' := 0) (slots' := 0) (W := 0) X12 hx hZ (rm_ci l Z a0 hw (3 : Int32) (1 : Int32) ⟨by decide, by decide⟩ fm hfm h0 n0 O S_FM) hown (ow75 hw) (ow63 hw) (ow7 hw) (ow64 hw) (by decide) (by rw [hml]; rfl) e12 opd_9 [(.int 1), (.int 3)] [] rfl rfl rfl rfl (by decide) (by decide) rfl rfl (by decide) (by decide) (hb hby d16_37) rfl (fun v13 T13 h13 L13 X13 e13 z13 => ?_)
 obtain ⟨rfl, Nq13, hq13⟩ := z13; replace e13 := e13.trans hq13; have N := Fr.app N Nq13
 refine og_aloadN X13 hx rfl rfl (hb hby d16_40) rfl ?_
 refine og_getfield X13 hx hZ (host := "") hown (Or.inl (ow32 hw)) Via.refl e13 F_value_a1 (hb hby d16_41) rfl (fun T14 X14 e14 => ?_)
 refine og_iloadN X14 hx rfl (hb hby d16_44) rfl ?_
 refine og_iloadN X14 hx rfl (hb hby d16_45) rfl ?_
 refine og_static (pc' := 49) (cells' := 0) (slots' := 0) (W := 0) X14 hx hZ (rm_u33_1 l Z a0 hw ba kb c0 c1 c2 hc0 hc1 hc2 h0 n0 O V_ba S__assertionsDisabled S_HI_BYTE_SHIFT S_LO_BYTE_SHIFT) hown (ow137 hw) (ow138 hw) (ow21 hw) (ow139 hw) (by decide) (by rw [hml]; rfl) e14 opd_16 [(.ref ba), (.int 1), (.int 3)] [] rfl rfl rfl rfl (by decide) (by decide) rfl rfl (by decide) (by decide) (hb hby d16_46) rfl (fun v15 T15 h15 L15 X15 e15 z15 => ?_)
 obtain ⟨rp, rfl, Nq15, hq15, hrp⟩ := z15; replace e15 := e15.trans hq15; have N := Fr.app N Nq15
 refine og_retI X15 hx hlk hret (hb hby d16_49) (by decide) (by decide) ?_
 rw [e15]; exact ⟨_, rfl, N, rfl, hrp⟩
theorem rm_pL3_1 (l : Launch) (Z : State) (a0 : Array Value) (hw : HW a0 Z) (a1 ba : Addr) (kb : ClassId) (c0 c1 c2 : Int32) (hc0 : 0 ≤ c0.toInt ∧ c0.toInt ≤ 65535) (hc1 : 0 ≤ c1.toInt ∧ c1.toInt ≤ 65535) (hc2 : 0 ≤ c2.toInt ∧ c2.toInt ≤ 65535) (cs : Int32) (hcs : ¬ cs = 0) (fm : Value) (hfm : fm.isRef = true) (hsm : ¬ 255 < c0 ∧ ¬ 255 < c1 ∧ ¬ 255 < c2) (h0 : Heap) (n0 : Nat) (O : Old Z n0 h0) (E_a1 : Exa Z h0 a1 "java/lang/String") (F_value_a1 : Fld Z h0 a1 "java/lang/String" "value" "[B" (.ref ba)) (F_coder_a1 : Fld Z h0 a1 "java/lang/String" "coder" "B" (.int 0)) (V_ba : Arv Z h0 ba kb .byte (3 : Int32) [(.int c0.toInt8.toInt32), (.int c1.toInt8.toInt32), (.int c2.toInt8.toInt32)] (.int 0)) (S_CS : Sta Z Z.heap "java/lang/String" "COMPACT_STRINGS" "Z" (.int cs)) (S_FM : Sta Z Z.heap "jdk/internal/util/Preconditions" "SIOOBE_FORMATTER" "Ljava/util/function/BiFunction;" fm) :
  Con l Z (⟨"java/lang/String", "codePointAt", "(I)I"⟩ : MethodName) jdk_42_method_57_code 3 (some .int) ({ frames := 2, cells := 0, slots := 0, locals := 27 } : Room) #[(.ref a1), (.int 1)] h0 (fun v h L => v = some (.int c1) ∧ Fr n0 L ∧ h = h0) := by
 refine own_startC opn_16 ?_
 intro p e s m below meth c T0 X0 hx hby hml hZ hown hnm hret hlk e0
 have N := Fr.nil n0; have K := Keep.refl h0 []
 refine OG.cast (oef13 m a1 (1 : Int32)) ?_
 refine og_aloadN X0 hx rfl rfl (hb hby d16_0) rfl ?_
 refine og_virtual (pc' := 4) (cells' := 0) (slots' := 0) (W := 0) X0 hx hZ (rm_il l Z a0 hw a1 cs hcs h0 n0 O F_coder_a1 S_CS) hown (ow53 hw) (ow54 hw) (own_nf hZ (ow56 hw)) (ow56 hw) (ow55 hw) (ow7 hw) (ow57 hw) (by decide) (by rw [hml]; rfl) e0 opd_10 [] [] rfl rfl rfl rfl (by decide) (by decide) rfl rfl (by decide) (by decide) E_a1 (hb hby d16_1) rfl (fun v11 T11 h11 L11 X11 e11 z11 => ?_)
 obtain ⟨rfl, Nq11, hq11⟩ := z11; replace e11 := e11.trans hq11; have N := Fr.app N Nq11
 refine og_if_eq (pc1 := 27) (pc2 := 7) X11 hx (hb hby d16_4) (by decide) (by decide) rfl (fun q => absurd q (by decide)) (fun _ => ?_)
 refine og_iloadN X11 hx rfl (hb hby d16_7) rfl ?_
 refine og_aloadN X11 hx rfl rfl (hb hby d16_8) rfl ?_
 refine og_getfield X11 hx hZ (host := "") hown (Or.inl (ow32 hw)) Via.refl e11 F_value_a1 (hb hby d16_9) rfl (fun T12 X12 e12 => ?_)
 refine og_arraylength X12 hx hZ e12 V_ba (hb hby d16_12) rfl ?_
 refine og_static (pc' := 16) (cells' := 0) (slots' := 0) (W := 0) X12 hx hZ (rm_ci l Z a0 hw (3 : Int32) (1 : Int32) ⟨by decide, by decide⟩ fm hfm h0 n0 O S_FM) hown (ow75 hw) (ow63 hw) (ow7 hw) (ow64 hw) (by decide) (by rw [hml]; rfl) e12 opd_9 [(.int 1), (.int 3)] [] rfl rfl rfl rfl (by decide) (by decide) rfl rfl (by decide) (by decide) (hb hby d16_13) rfl (fun v13 T13 h13 L13 X13 e13 z13 => ?_)
 obtain ⟨rfl, Nq13, hq13⟩ := z13; replace e13 := e13.trans hq13; have N := Fr.app N Nq13
 refine og_aloadN X13 hx rfl rfl (hb hby d16_16) rfl ?_
 refine og_getfield X13 hx hZ (host := "") hown (Or.inl (ow32 hw)) Via.refl e13 F_value_a1 (hb hby d16_17) rfl (fun T14 X14 e14 => ?_)
 refine og_iloadN X14 hx rfl (hb hby d16_20) rfl ?_
 refine og_baload (v := (.int c1.toInt8.toInt32)) X14 hx hZ e14 V_ba ⟨by decide, by decide⟩ rfl (hb hby d16_21) rfl ?_
 refine og_sipush (v := 255) X14 hx rfl (hb hby d16_22) rfl ?_
 refine og_iand X14 hx (hb hby d16_25) rfl ?_
 refine og_retI X14 hx hlk hret (hb hby d16_26) (by decide) (by decide) ?_
 rw [e14, own_chL hc1 hsm.2.1]; exact ⟨rfl, N, rfl⟩
theorem rm_uk3_2 (l : Launch) (Z : State) (a0 : Array Value) (hw : HW a0 Z) (ba : Addr) (kb : ClassId) (vs : List Value) (fm : Value) (hfm : fm.isRef = true) (h0 : Heap) (n0 : Nat) (O : Old Z n0 h0) (V_ba : Arv Z h0 ba kb .byte (6 : Int32) vs (.int 0)) (S_FM : Sta Z Z.heap "jdk/internal/util/Preconditions" "SIOOBE_FORMATTER" "Ljava/util/function/BiFunction;" fm) :
  Con l Z (⟨"java/lang/StringUTF16", "checkIndex", "(I[B)V"⟩ : MethodName) jdk_52_method_91_code 2 none ({ frames := 2, cells := 0, slots := 0, locals := 27 } : Room) #[(.int 2), (.ref ba)] h0 (fun v h L => v = none ∧ Fr n0 L ∧ h = h0) := by
 refine own_startC opn_30 ?_
 intro p e s m below meth c T0 X0 hx hby hml hZ hown hnm hret hlk e0
 have N := Fr.nil n0; have K := Keep.refl h0 []
 refine OG.cast (oef11 m (2 : Int32) ba) ?_
 refine og_iloadN X0 hx rfl (hb hby d30_0) rfl ?_
 refine og_aloadN X0 hx rfl rfl (hb hby d30_1) rfl ?_
 refine og_static (pc' := 5) (cells' := 0) (slots' := 0) (W := 1) X0 hx hZ (rm_ul3 l Z a0 hw ba kb _ h0 n0 O V_ba) hown (ow133 hw) (ow134 hw) (ow21 hw) (ow135 hw) (by decide) (by rw [hml]; rfl) e0 opd_12 [(.ref ba)] [(.int 2)] rfl rfl rfl rfl (by decide) (by decide) rfl rfl (by decide) (by decide) (hb hby d30_2) rfl (fun v11 T11 h11 L11 X11 e11 z11 => ?_)
 obtain ⟨rfl, Nq11, hq11⟩ := z11; replace e11 := e11.trans hq11; have N := Fr.app N Nq11
 refine og_static (pc' := 8) (cells' := 0) (slots' := 0) (W := 0) X11 hx hZ (rm_ci l Z a0 hw (3 : Int32) (2 : Int32) ⟨by decide, by decide⟩ fm hfm h0 n0 O S_FM) hown (ow136 hw) (ow63 hw) (ow7 hw) (ow64 hw) (by decide) (by rw [hml]; rfl) e11 opd_9 [(.int 2), (.int 3)] [] rfl rfl rfl rfl (by decide) (by decide) rfl rfl (by decide) (by decide) (hb hby d30_5) rfl (fun v12 T12 h12 L12 X12 e12 z12 => ?_)
 obtain ⟨rfl, Nq12, hq12⟩ := z12; replace e12 := e12.trans hq12; have N := Fr.app N Nq12
 refine og_retV X12 hx hlk hret (hb hby d30_8) (by decide) (by decide) ?_
 rw [e12]; exact ⟨rfl, N, rfl⟩
theorem rm_uca3_2 (l : Launch) (Z : State) (a0 : Array Value) (hw : HW a0 Z) (ba : Addr) (kb : ClassId) (c0 c1 c2 : Int32) (hc0 : 0 ≤ c0.toInt ∧ c0.toInt ≤ 65535) (hc1 : 0 ≤ c1.toInt ∧ c1.toInt ≤ 65535) (hc2 : 0 ≤ c2.toInt ∧ c2.toInt ≤ 65535) (fm : Value) (hfm : fm.isRef = true) (h0 : Heap) (n0 : Nat) (O : Old Z n0 h0) (V_ba : Arv Z h0 ba kb .byte (6 : Int32) [(.int c0.toInt8.toInt32), (.int (c0 >>> ((8 : Int32) &&& 31)).toInt8.toInt32), (.int c1.toInt8.toInt32), (.int (c1 >>> ((8 : Int32) &&& 31)).toInt8.toInt32), (.int c2.toInt8.toInt32), (.int (c2 >>> ((8 : Int32) &&& 31)).toInt8.toInt32)] (.int 0)) (S_FM : Sta Z Z.heap "jdk/internal/util/Preconditions" "SIOOBE_FORMATTER" "Ljava/util/function/BiFunction;" fm) (S__assertionsDisabled : Sta Z Z.heap "java/lang/StringUTF16" "$assertionsDisabled" "Z" (.int 1)) (S_HI_BYTE_SHIFT : Sta Z Z.heap "java/lang/StringUTF16" "HI_BYTE_SHIFT" "I" (.int 0)) (S_LO_BYTE_SHIFT : Sta Z Z.heap "java/lang/StringUTF16" "LO_BYTE_SHIFT" "I" (.int 8)) :
  Con l Z (⟨"java/lang/StringUTF16", "charAt", "([BI)C"⟩ : MethodName) jdk_52_method_83_code 2 (some .char) ({ frames := 3, cells := 0, slots := 0, locals := 40 } : Room) #[(.ref ba), (.int 2)] h0 (fun v h L => v = some (.int c2) ∧ Fr n0 L ∧ h = h0) := by
 refine own_startC opn_29 ?_
 intro p e s m below meth c T0 X0 hx hby hml hZ hown hnm hret hlk e0
 have N := Fr.nil n0; have K := Keep.refl h0 []
 refine OG.cast (oef3 m ba (2 : Int32)) ?_
 refine og_iloadN X0 hx rfl (hb hby d29_0) rfl ?_
 refine og_aloadN X0 hx rfl rfl (hb hby d29_1) rfl ?_
 refine og_static (pc' := 5) (cells' := 0) (slots' := 0) (W := 0) X0 hx hZ (rm_uk3_2 l Z a0 hw ba kb _ fm hfm h0 n0 O V_ba S_FM) hown (ow130 hw) (ow131 hw) (ow21 hw) (ow132 hw) (by decide) (by rw [hml]; rfl) e0 opd_13 [(.int 2), (.ref ba)] [] rfl rfl rfl rfl (by decide) (by decide) rfl rfl (by decide) (by decide) (hb hby d29_2) rfl (fun v11 T11 h11 L11 X11 e11 z11 => ?_)
 obtain ⟨rfl, Nq11, hq11⟩ := z11; replace e11 := e11.trans hq11; have N := Fr.app N Nq11
 refine og_aloadN X11 hx rfl rfl (hb hby d29_5) rfl ?_
 refine og_iloadN X11 hx rfl (hb hby d29_6) rfl ?_
 refine og_static (pc' := 10) (cells' := 0) (slots' := 0) (W := 0) X11 hx hZ (rm_gch_3_2 l Z a0 hw ba kb c0 c1 c2 hc0 hc1 hc2 h0 n0 O V_ba S__assertionsDisabled S_HI_BYTE_SHIFT S_LO_BYTE_SHIFT) hown (ow124 hw) (ow125 hw) (ow21 hw) (ow126 hw) (by decide) (by rw [hml]; rfl) e11 opd_5 [(.ref ba), (.int 2)] [] rfl rfl rfl rfl (by decide) (by decide) rfl rfl (by decide) (by decide) (hb hby d29_7) rfl (fun v12 T12 h12 L12 X12 e12 z12 => ?_)
 obtain ⟨rfl, Nq12, hq12⟩ := z12; replace e12 := e12.trans hq12; have N := Fr.app N Nq12
 refine og_retN X12 hx hlk hret (by simp) (hb hby d29_10) (by decide) (by decide) ?_
 rw [e12, own_nc2 hc2]; exact ⟨rfl, N, rfl⟩
theorem rm_cU3_2 (l : Launch) (Z : State) (a0 : Array Value) (hw : HW a0 Z) (a1 ba : Addr) (kb : ClassId) (c0 c1 c2 : Int32) (hc0 : 0 ≤ c0.toInt ∧ c0.toInt ≤ 65535) (hc1 : 0 ≤ c1.toInt ∧ c1.toInt ≤ 65535) (hc2 : 0 ≤ c2.toInt ∧ c2.toInt ≤ 65535) (cs : Int32) (hcs : ¬ cs = 0) (fm : Value) (hfm : fm.isRef = true) (h0 : Heap) (n0 : Nat) (O : Old Z n0 h0) (E_a1 : Exa Z h0 a1 "java/lang/String") (F_value_a1 : Fld Z h0 a1 "java/lang/String" "value" "[B" (.ref ba)) (F_coder_a1 : Fld Z h0 a1 "java/lang/String" "coder" "B" (.int 1)) (V_ba : Arv Z h0 ba kb .byte (6 : Int32) [(.int c0.toInt8.toInt32), (.int (c0 >>> ((8 : Int32) &&& 31)).toInt8.toInt32), (.int c1.toInt8.toInt32), (.int (c1 >>> ((8 : Int32) &&& 31)).toInt8.toInt32), (.int c2.toInt8.toInt32), (.int (c2 >>> ((8 : Int32) &&& 31)).toInt8.toInt32)] (.int 0)) (S_CS : Sta Z Z.heap "java/lang/String" "COMPACT_STRINGS" "Z" (.int cs)) (S_FM : Sta Z Z.heap "jdk/internal/util/Preconditions" "SIOOBE_FORMATTER" "Ljava/util/function/BiFunction;" fm) (S__assertionsDisabled : Sta Z Z.heap "java/lang/StringUTF16" "$assertionsDisabled" "Z" (.int 1)) (S_HI_BYTE_SHIFT : Sta Z Z.heap "java/lang/StringUTF16" "HI_BYTE_SHIFT" "I" (.int 0)) (S_LO_BYTE_SHIFT : Sta Z Z.heap "java/lang/StringUTF16" "LO_BYTE_SHIFT" "I" (.int 8)) :
  Con l Z (⟨"java/lang/String", "charAt", "(I)C"⟩ : MethodName) jdk_42_method_56_code 2 (some .char) ({ frames := 4, cells := 0, slots := 0, locals := 53 } : Room) #[(.ref a1), (.int 2)] h0 (fun v h L => v = some (.int c2) ∧ Fr n0 L ∧ h = h0) := by
 refine own_startC opn_11 ?_
 intro p e s m below meth c T0 X0 hx hby hml hZ hown hnm hret hlk e0
 have N := Fr.nil n0; have K := Keep.refl h0 []
 refine OG.cast (oef3 m a1 (2 : Int32)) ?_
 refine og_aloadN X0 hx rfl rfl (hb hby d11_0) rfl ?_
 refine og_virtual (pc' := 4) (cells' := 0) (slots' := 0) (W := 0) X0 hx hZ (rm_ilU l Z a0 hw a1 cs hcs h0 n0 O F_coder_a1 S_CS) hown (ow53 hw) (ow54 hw) (own_nf hZ (ow56 hw)) (ow56 hw) (ow55 hw) (ow7 hw) (ow57 hw) (by decide) (by rw [hml]; rfl) e0 opd_10 [] [] rfl rfl rfl rfl (by decide) (by decide) rfl rfl (by decide) (by decide) E_a1 (hb hby d11_1) rfl (fun v11 T11 h11 L11 X11 e11 z11 => ?_)
 obtain ⟨rfl, Nq11, hq11⟩ := z11; replace e11 := e11.trans hq11; have N := Fr.app N Nq11
 refine og_if_eq (pc1 := 16) (pc2 := 7) X11 hx (hb hby d11_4) (by decide) (by decide) rfl (fun _ => ?_) (fun q => absurd q (by decide))
 refine og_aloadN X11 hx rfl rfl (hb hby d11_16) rfl ?_
 refine og_getfield X11 hx hZ (host := "") hown (Or.inl (ow32 hw)) Via.refl e11 F_value_a1 (hb hby d11_17) rfl (fun T12 X12 e12 => ?_)
 refine og_iloadN X12 hx rfl (hb hby d11_20) rfl ?_
 refine og_static (pc' := 24) (cells' := 0) (slots' := 0) (W := 0) X12 hx hZ (rm_uca3_2 l Z a0 hw ba kb c0 c1 c2 hc0 hc1 hc2 fm hfm h0 n0 O V_ba S_FM S__assertionsDisabled S_HI_BYTE_SHIFT S_LO_BYTE_SHIFT) hown (ow127 hw) (ow128 hw) (ow21 hw) (ow129 hw) (by decide) (by rw [hml]; rfl) e12 opd_5 [(.ref ba), (.int 2)] [] rfl rfl rfl rfl (by decide) (by decide) rfl rfl (by decide) (by decide) (hb hby d11_21) rfl (fun v13 T13 h13 L13 X13 e13 z13 => ?_)
 obtain ⟨rfl, Nq13, hq13⟩ := z13; replace e13 := e13.trans hq13; have N := Fr.app N Nq13
 refine og_retN X13 hx hlk hret (by simp) (hb hby d11_24) (by decide) (by decide) ?_
 rw [e13, own_nc2 hc2]; exact ⟨rfl, N, rfl⟩
theorem rm_u43_2 (l : Launch) (Z : State) (a0 : Array Value) (hw : HW a0 Z) (ba : Addr) (kb : ClassId) (c0 c1 c2 : Int32) (hc0 : 0 ≤ c0.toInt ∧ c0.toInt ≤ 65535) (hc1 : 0 ≤ c1.toInt ∧ c1.toInt ≤ 65535) (hc2 : 0 ≤ c2.toInt ∧ c2.toInt ≤ 65535) (h0 : Heap) (n0 : Nat) (O : Old Z n0 h0) (V_ba : Arv Z h0 ba kb .byte (6 : Int32) [(.int c0.toInt8.toInt32), (.int (c0 >>> ((8 : Int32) &&& 31)).toInt8.toInt32), (.int c1.toInt8.toInt32), (.int (c1 >>> ((8 : Int32) &&& 31)).toInt8.toInt32), (.int c2.toInt8.toInt32), (.int (c2 >>> ((8 : Int32) &&& 31)).toInt8.toInt32)] (.int 0)) (S__assertionsDisabled : Sta Z Z.heap "java/lang/StringUTF16" "$assertionsDisabled" "Z" (.int 1)) (S_HI_BYTE_SHIFT : Sta Z Z.heap "java/lang/StringUTF16" "HI_BYTE_SHIFT" "I" (.int 0)) (S_LO_BYTE_SHIFT : Sta Z Z.heap "java/lang/StringUTF16" "LO_BYTE_SHIFT" "I" (.int 8)) :
  Con l Z (⟨"java/lang/StringUTF16", "codePointAt", "([BIIZ)I"⟩ : MethodName) jdk_52_method_7_code 6 (some .int) ({ frames := 1, cells := 0, slots := 0, locals := 13 } : Room) #[(.ref ba), (.int 2), (.int 3), (.int 0)] h0 (fun v h L => ∃ r : Int32, v = some (.int r) ∧ Fr n0 L ∧ h = h0 ∧ r = c2) := by
 refine own_startC opn_33 ?_
 intro p e s m below meth c T0 X0 hx hby hml hZ hown hnm hret hlk e0
 have N := Fr.nil n0; have K := Keep.refl h0 []
 refine OG.cast (oef12 m ba (2 : Int32) (3 : Int32) (0 : Int32)) ?_
 refine og_getstatic X0 hx hZ (host := "") hown (Or.inl (ow121 hw)) Via.refl e0 (S__assertionsDisabled.ext O.2) (hb hby d33_0) rfl (fun T11 X11 e11 => ?_)
 refine og_if_ne (pc1 := 19) (pc2 := 6) X11 hx (hb hby d33_3) (by decide) (by decide) rfl (fun _ => ?_) (fun q => absurd q (by decide))
 refine og_iloadN X11 hx rfl (hb hby d33_19) rfl ?_
 refine og_if_eq (pc1 := 28) (pc2 := 23) X11 hx (hb hby d33_20) (by decide) (by decide) rfl (fun _ => ?_) (fun q => absurd q (by decide))
 refine og_aloadN X11 hx rfl rfl (hb hby d33_28) rfl ?_
 refine og_iloadN X11 hx rfl (hb hby d33_29) rfl ?_
 refine og_static (pc' := 33) (cells' := 0) (slots' := 0) (W := 0) X11 hx hZ (rm_gch_3_2 l Z a0 hw ba kb c0 c1 c2 hc0 hc1 hc2 h0 n0 O V_ba S__assertionsDisabled S_HI_BYTE_SHIFT S_LO_BYTE_SHIFT) hown (ow124 hw) (ow125 hw) (ow21 hw) (ow126 hw) (by decide) (by rw [hml]; rfl) e11 opd_5 [(.ref ba), (.int 2)] [] rfl rfl rfl rfl (by decide) (by decide) rfl rfl (by decide) (by decide) (hb hby d33_30) rfl (fun v12 T12 h12 L12 X12 e12 z12 => ?_)
 obtain ⟨rfl, Nq12, hq12⟩ := z12; replace e12 := e12.trans hq12; have N := Fr.app N Nq12
 refine og_istore (L' := #[.val (.ref ba), .val (.int 2), .val (.int 3), .val (.int 0), .val (.int c2), .unset]) X12 hx rfl (hb hby d33_33) rfl ?_
 refine og_iload X12 hx rfl (hb hby d33_35) rfl ?_
 refine og_static (pc' := 40) (cells' := 0) (slots' := 0) (W := 0) X12 hx hZ (rm_ihs l Z a0 hw c2 h0 n0 O) hown (ow143 hw) (ow144 hw) (ow83 hw) (ow145 hw) (by decide) (by rw [hml]; rfl) e12 opd_14 [(.int c2)] [] rfl rfl rfl rfl (by decide) (by decide) rfl rfl (by decide) (by decide) (hb hby d33_37) rfl (fun v13 T13 h13 L13 X13 e13 z13 => ?_)
 obtain ⟨rb13, rfl, Nq13, hq13, hb13⟩ := z13; replace e13 := e13.trans hq13; have N := Fr.app N Nq13
 refine og_if_eq (pc1 := 83) (pc2 := 43) X13 hx (hb hby d33_40) (by decide) (by decide) rfl (fun hc40 => ?_) (fun hc40 => ?_)
 ·
  have hH := own_b0 hb13 hc40
  refine og_iload X13 hx rfl (hb hby d33_83) rfl ?_
  refine og_retI X13 hx hlk hret (hb hby d33_85) (by decide) (by decide) ?_
  rw [e13]; exact ⟨_, rfl, N, rfl, rfl⟩
 ·
  have hH := own_b1 hb13 hc40
  refine og_iinc (L' := #[.val (.ref ba), .val (.int 3), .val (.int 3), .val (.int 0), .val (.int c2), .unset]) (w := 1) X13 hx rfl rfl rfl (hb hby d33_43) rfl ?_
  refine og_iloadN X13 hx rfl (hb hby d33_46) rfl ?_
  refine og_iloadN X13 hx rfl (hb hby d33_47) rfl ?_
  refine og_icmp_ge (pc1 := 83) (pc2 := 51) X13 hx (hb hby d33_48) (by decide) (by decide) rfl (fun _ => ?_) (fun q => absurd q (by decide))
  refine og_iload X13 hx rfl (hb hby d33_83) rfl ?_
  refine og_retI X13 hx hlk hret (hb hby d33_85) (by decide) (by decide) ?_
  rw [e13]; exact ⟨_, rfl, N, rfl, rfl⟩
theorem rm_u33_2 (l : Launch) (Z : State) (a0 : Array Value) (hw : HW a0 Z) (ba : Addr) (kb : ClassId) (c0 c1 c2 : Int32) (hc0 : 0 ≤ c0.toInt ∧ c0.toInt ≤ 65535) (hc1 : 0 ≤ c1.toInt ∧ c1.toInt ≤ 65535) (hc2 : 0 ≤ c2.toInt ∧ c2.toInt ≤ 65535) (h0 : Heap) (n0 : Nat) (O : Old Z n0 h0) (V_ba : Arv Z h0 ba kb .byte (6 : Int32) [(.int c0.toInt8.toInt32), (.int (c0 >>> ((8 : Int32) &&& 31)).toInt8.toInt32), (.int c1.toInt8.toInt32), (.int (c1 >>> ((8 : Int32) &&& 31)).toInt8.toInt32), (.int c2.toInt8.toInt32), (.int (c2 >>> ((8 : Int32) &&& 31)).toInt8.toInt32)] (.int 0)) (S__assertionsDisabled : Sta Z Z.heap "java/lang/StringUTF16" "$assertionsDisabled" "Z" (.int 1)) (S_HI_BYTE_SHIFT : Sta Z Z.heap "java/lang/StringUTF16" "HI_BYTE_SHIFT" "I" (.int 0)) (S_LO_BYTE_SHIFT : Sta Z Z.heap "java/lang/StringUTF16" "LO_BYTE_SHIFT" "I" (.int 8)) :
  Con l Z (⟨"java/lang/StringUTF16", "codePointAt", "([BII)I"⟩ : MethodName) jdk_52_method_8_code 3 (some .int) ({ frames := 2, cells := 0, slots := 0, locals := 30 } : Room) #[(.ref ba), (.int 2), (.int 3)] h0 (fun v h L => ∃ r : Int32, v = some (.int r) ∧ Fr n0 L ∧ h = h0 ∧ r = c2) := by
 refine own_startC opn_32 ?_
 intro p e s m below meth c T0 X0 hx hby hml hZ hown hnm hret hlk e0
 have N := Fr.nil n0; have K := Keep.refl h0 []
 refine OG.cast (oef0 m ba (2 : Int32) (3 : Int32)) ?_
 refine og_aloadN X0 hx rfl rfl (hb hby d32_0) rfl ?_
 refine og_iloadN X0 hx rfl (hb hby d32_1) rfl ?_
 refine og_iloadN X0 hx rfl (hb hby d32_2) rfl ?_
 refine og_iconst (v := 0) X0 hx rfl (hb hby d32_3) rfl ?_
 refine og_static (pc' := 7) (cells' := 0) (slots' := 0) (W := 0) X0 hx hZ (rm_u43_2 l Z a0 hw ba kb c0 c1 c2 hc0 hc1 hc2 h0 n0 O V_ba S__assertionsDisabled S_HI_BYTE_SHIFT S_LO_BYTE_SHIFT) hown (ow140 hw) (ow141 hw) (ow21 hw) (ow142 hw) (by decide) (by rw [hml]; rfl) e0 opd_15 [(.ref ba), (.int 2), (.int 3), (.int 0)] [] rfl rfl rfl rfl (by decide) (by decide) rfl rfl (by decide) (by decide) (hb hby d32_4) rfl (fun v11 T11 h11 L11 X11 e11 z11 => ?_)
 obtain ⟨rp, rfl, Nq11, hq11, hrp⟩ := z11; replace e11 := e11.trans hq11; have N := Fr.app N Nq11
 refine og_retI X11 hx hlk hret (hb hby d32_7) (by decide) (by decide) ?_
 rw [e11]; exact ⟨_, rfl, N, rfl, hrp⟩
theorem rm_pU3_2 (l : Launch) (Z : State) (a0 : Array Value) (hw : HW a0 Z) (a1 ba : Addr) (kb : ClassId) (c0 c1 c2 : Int32) (hc0 : 0 ≤ c0.toInt ∧ c0.toInt ≤ 65535) (hc1 : 0 ≤ c1.toInt ∧ c1.toInt ≤ 65535) (hc2 : 0 ≤ c2.toInt ∧ c2.toInt ≤ 65535) (cs : Int32) (hcs : ¬ cs = 0) (fm : Value) (hfm : fm.isRef = true) (h0 : Heap) (n0 : Nat) (O : Old Z n0 h0) (E_a1 : Exa Z h0 a1 "java/lang/String") (F_value_a1 : Fld Z h0 a1 "java/lang/String" "value" "[B" (.ref ba)) (F_coder_a1 : Fld Z h0 a1 "java/lang/String" "coder" "B" (.int 1)) (V_ba : Arv Z h0 ba kb .byte (6 : Int32) [(.int c0.toInt8.toInt32), (.int (c0 >>> ((8 : Int32) &&& 31)).toInt8.toInt32), (.int c1.toInt8.toInt32), (.int (c1 >>> ((8 : Int32) &&& 31)).toInt8.toInt32), (.int c2.toInt8.toInt32), (.int (c2 >>> ((8 : Int32) &&& 31)).toInt8.toInt32)] (.int 0)) (S_CS : Sta Z Z.heap "java/lang/String" "COMPACT_STRINGS" "Z" (.int cs)) (S_FM : Sta Z Z.heap "jdk/internal/util/Preconditions" "SIOOBE_FORMATTER" "Ljava/util/function/BiFunction;" fm) (S__assertionsDisabled : Sta Z Z.heap "java/lang/StringUTF16" "$assertionsDisabled" "Z" (.int 1)) (S_HI_BYTE_SHIFT : Sta Z Z.heap "java/lang/StringUTF16" "HI_BYTE_SHIFT" "I" (.int 0)) (S_LO_BYTE_SHIFT : Sta Z Z.heap "java/lang/StringUTF16" "LO_BYTE_SHIFT" "I" (.int 8)) :
  Con l Z (⟨"java/lang/String", "codePointAt", "(I)I"⟩ : MethodName) jdk_42_method_57_code 3 (some .int) ({ frames := 3, cells := 0, slots := 0, locals := 44 } : Room) #[(.ref a1), (.int 2)] h0 (fun v h L => ∃ r : Int32, v = some (.int r) ∧ Fr n0 L ∧ h = h0 ∧ r = c2) := by
 refine own_startC opn_16 ?_
 intro p e s m below meth c T0 X0 hx hby hml hZ hown hnm hret hlk e0
 have N := Fr.nil n0; have K := Keep.refl h0 []
 refine OG.cast (oef13 m a1 (2 : Int32)) ?_
 refine og_aloadN X0 hx rfl rfl (hb hby d16_0) rfl ?_
 refine og_virtual (pc' := 4) (cells' := 0) (slots' := 0) (W := 0) X0 hx hZ (rm_ilU l Z a0 hw a1 cs hcs h0 n0 O F_coder_a1 S_CS) hown (ow53 hw) (ow54 hw) (own_nf hZ (ow56 hw)) (ow56 hw) (ow55 hw) (ow7 hw) (ow57 hw) (by decide) (by rw [hml]; rfl) e0 opd_10 [] [] rfl rfl rfl rfl (by decide) (by decide) rfl rfl (by decide) (by decide) E_a1 (hb hby d16_1) rfl (fun v11 T11 h11 L11 X11 e11 z11 => ?_)
 obtain ⟨rfl, Nq11, hq11⟩ := z11; replace e11 := e11.trans hq11; have N := Fr.app N Nq11
 refine og_if_eq (pc1 := 27) (pc2 := 7) X11 hx (hb hby d16_4) (by decide) (by decide) rfl (fun _ => ?_) (fun q => absurd q (by decide))
 refine og_aloadN X11 hx rfl rfl (hb hby d16_27) rfl ?_
 refine og_getfield X11 hx hZ (host := "") hown (Or.inl (ow32 hw)) Via.refl e11 F_value_a1 (hb hby d16_28) rfl (fun T12 X12 e12 => ?_)
 refine og_arraylength X12 hx hZ e12 V_ba (hb hby d16_31) rfl ?_
 refine og_iconst (v := 1) X12 hx rfl (hb hby d16_32) rfl ?_
 refine og_ishr X12 hx (hb hby d16_33) rfl ?_
 show OG p e below _ (T12.setTop (mkF m 34 #[.val (.ref a1), .val (.int 2), .unset] [(.int 3)]))
 refine og_istoreN (L' := #[.val (.ref a1), .val (.int 2), .val (.int 3)]) X12 hx rfl (hb hby d16_34) rfl ?_
 refine og_iloadN X12 hx rfl (hb hby d16_35) rfl ?_
 refine og_iloadN X12 hx rfl (hb hby d16_36) rfl ?_
 refine og_static (pc' := 40) (cells' := 0) (slots' := 0) (W := 0) X12 hx hZ (rm_ci l Z a0 hw (3 : Int32) (2 : Int32) ⟨by decide, by decide⟩ fm hfm h0 n0 O S_FM) hown (ow75 hw) (ow63 hw) (ow7 hw) (ow64 hw) (by decide) (by rw [hml]; rfl) e12 opd_9 [(.int 2), (.int 3)] [] rfl rfl rfl rfl (by decide) (by decide) rfl rfl (by decide) (by decide) (hb hby d16_37) rfl (fun v13 T13 h13 L13 X13 e13 z13 => ?_)
 obtain ⟨rfl, Nq13, hq13⟩ := z13; replace e13 := e13.trans hq13; have N := Fr.app N Nq13
 refine og_aloadN X13 hx rfl rfl (hb hby d16_40) rfl ?_
 refine og_getfield X13 hx hZ (host := "") hown (Or.inl (ow32 hw)) Via.refl e13 F_value_a1 (hb hby d16_41) rfl (fun T14 X14 e14 => ?_)
 refine og_iloadN X14 hx rfl (hb hby d16_44) rfl ?_
 refine og_iloadN X14 hx rfl (hb hby d16_45) rfl ?_
 refine og_static (pc' := 49) (cells' := 0) (slots' := 0) (W := 0) X14 hx hZ (rm_u33_2 l Z a0 hw ba kb c0 c1 c2 hc0 hc1 hc2 h0 n0 O V_ba S__assertionsDisabled S_HI_BYTE_SHIFT S_LO_BYTE_SHIFT) hown (ow137 hw) (ow138 hw) (ow21 hw) (ow139 hw) (by decide) (by rw [hml]; rfl) e14 opd_16 [(.ref ba), (.int 2), (.int 3)] [] rfl rfl rfl rfl (by decide) (by decide) rfl rfl (by decide) (by decide) (hb hby d16_46) rfl (fun v15 T15 h15 L15 X15 e15 z15 => ?_)
 obtain ⟨rp, rfl, Nq15, hq15, hrp⟩ := z15; replace e15 := e15.trans hq15; have N := Fr.app N Nq15
 refine og_retI X15 hx hlk hret (hb hby d16_49) (by decide) (by decide) ?_
 rw [e15]; exact ⟨_, rfl, N, rfl, hrp⟩
theorem rm_pL3_2 (l : Launch) (Z : State) (a0 : Array Value) (hw : HW a0 Z) (a1 ba : Addr) (kb : ClassId) (c0 c1 c2 : Int32) (hc0 : 0 ≤ c0.toInt ∧ c0.toInt ≤ 65535) (hc1 : 0 ≤ c1.toInt ∧ c1.toInt ≤ 65535) (hc2 : 0 ≤ c2.toInt ∧ c2.toInt ≤ 65535) (cs : Int32) (hcs : ¬ cs = 0) (fm : Value) (hfm : fm.isRef = true) (hsm : ¬ 255 < c0 ∧ ¬ 255 < c1 ∧ ¬ 255 < c2) (h0 : Heap) (n0 : Nat) (O : Old Z n0 h0) (E_a1 : Exa Z h0 a1 "java/lang/String") (F_value_a1 : Fld Z h0 a1 "java/lang/String" "value" "[B" (.ref ba)) (F_coder_a1 : Fld Z h0 a1 "java/lang/String" "coder" "B" (.int 0)) (V_ba : Arv Z h0 ba kb .byte (3 : Int32) [(.int c0.toInt8.toInt32), (.int c1.toInt8.toInt32), (.int c2.toInt8.toInt32)] (.int 0)) (S_CS : Sta Z Z.heap "java/lang/String" "COMPACT_STRINGS" "Z" (.int cs)) (S_FM : Sta Z Z.heap "jdk/internal/util/Preconditions" "SIOOBE_FORMATTER" "Ljava/util/function/BiFunction;" fm) :
  Con l Z (⟨"java/lang/String", "codePointAt", "(I)I"⟩ : MethodName) jdk_42_method_57_code 3 (some .int) ({ frames := 2, cells := 0, slots := 0, locals := 27 } : Room) #[(.ref a1), (.int 2)] h0 (fun v h L => v = some (.int c2) ∧ Fr n0 L ∧ h = h0) := by
 refine own_startC opn_16 ?_
 intro p e s m below meth c T0 X0 hx hby hml hZ hown hnm hret hlk e0
 have N := Fr.nil n0; have K := Keep.refl h0 []
 refine OG.cast (oef13 m a1 (2 : Int32)) ?_
 refine og_aloadN X0 hx rfl rfl (hb hby d16_0) rfl ?_
 refine og_virtual (pc' := 4) (cells' := 0) (slots' := 0) (W := 0) X0 hx hZ (rm_il l Z a0 hw a1 cs hcs h0 n0 O F_coder_a1 S_CS) hown (ow53 hw) (ow54 hw) (own_nf hZ (ow56 hw)) (ow56 hw) (ow55 hw) (ow7 hw) (ow57 hw) (by decide) (by rw [hml]; rfl) e0 opd_10 [] [] rfl rfl rfl rfl (by decide) (by decide) rfl rfl (by decide) (by decide) E_a1 (hb hby d16_1) rfl (fun v11 T11 h11 L11 X11 e11 z11 => ?_)
 obtain ⟨rfl, Nq11, hq11⟩ := z11; replace e11 := e11.trans hq11; have N := Fr.app N Nq11
 refine og_if_eq (pc1 := 27) (pc2 := 7) X11 hx (hb hby d16_4) (by decide) (by decide) rfl (fun q => absurd q (by decide)) (fun _ => ?_)
 refine og_iloadN X11 hx rfl (hb hby d16_7) rfl ?_
 refine og_aloadN X11 hx rfl rfl (hb hby d16_8) rfl ?_
 refine og_getfield X11 hx hZ (host := "") hown (Or.inl (ow32 hw)) Via.refl e11 F_value_a1 (hb hby d16_9) rfl (fun T12 X12 e12 => ?_)
 refine og_arraylength X12 hx hZ e12 V_ba (hb hby d16_12) rfl ?_
 refine og_static (pc' := 16) (cells' := 0) (slots' := 0) (W := 0) X12 hx hZ (rm_ci l Z a0 hw (3 : Int32) (2 : Int32) ⟨by decide, by decide⟩ fm hfm h0 n0 O S_FM) hown (ow75 hw) (ow63 hw) (ow7 hw) (ow64 hw) (by decide) (by rw [hml]; rfl) e12 opd_9 [(.int 2), (.int 3)] [] rfl rfl rfl rfl (by decide) (by decide) rfl rfl (by decide) (by decide) (hb hby d16_13) rfl (fun v13 T13 h13 L13 X13 e13 z13 => ?_)
 obtain ⟨rfl, Nq13, hq13⟩ := z13; replace e13 := e13.trans hq13; have N := Fr.app N Nq13
 refine og_aloadN X13 hx rfl rfl (hb hby d16_16) rfl ?_
 refine og_getfield X13 hx hZ (host := "") hown (Or.inl (ow32 hw)) Via.refl e13 F_value_a1 (hb hby d16_17) rfl (fun T14 X14 e14 => ?_)
 refine og_iloadN X14 hx rfl (hb hby d16_20) rfl ?_
 refine og_baload (v := (.int c2.toInt8.toInt32)) X14 hx hZ e14 V_ba ⟨by decide, by decide⟩ rfl (hb hby d16_21) rfl ?_
 refine og_sipush (v := 255) X14 hx rfl (hb hby d16_22) rfl ?_
 refine og_iand X14 hx (hb hby d16_25) rfl ?_
 refine og_retI X14 hx hlk hret (hb hby d16_26) (by decide) (by decide) ?_
 rw [e14, own_chL hc2 hsm.2.2]; exact ⟨rfl, N, rfl⟩
theorem rm_fcL3 (l : Launch) (Z : State) (a0 : Array Value) (hw : HW a0 Z) (a1 ba : Addr) (kb : ClassId) (c0 c1 c2 : Int32) (hc0 : 0 ≤ c0.toInt ∧ c0.toInt ≤ 65535) (hc1 : 0 ≤ c1.toInt ∧ c1.toInt ≤ 65535) (hc2 : 0 ≤ c2.toInt ∧ c2.toInt ≤ 65535) (cs : Int32) (hcs : ¬ cs = 0) (fm : Value) (hfm : fm.isRef = true) (r : Int32) (hr : own_fc [c0, c1, c2] = r) (hsm : ¬ 255 < c0 ∧ ¬ 255 < c1 ∧ ¬ 255 < c2) (h0 : Heap) (n0 : Nat) (O : Old Z n0 h0) (E_a1 : Exa Z h0 a1 "java/lang/String") (F_value_a1 : Fld Z h0 a1 "java/lang/String" "value" "[B" (.ref ba)) (F_coder_a1 : Fld Z h0 a1 "java/lang/String" "coder" "B" (.int 0)) (V_ba : Arv Z h0 ba kb .byte (3 : Int32) [(.int c0.toInt8.toInt32), (.int c1.toInt8.toInt32), (.int c2.toInt8.toInt32)] (.int 0)) (S_CS : Sta Z Z.heap "java/lang/String" "COMPACT_STRINGS" "Z" (.int cs)) (S_FM : Sta Z Z.heap "jdk/internal/util/Preconditions" "SIOOBE_FORMATTER" "Ljava/util/function/BiFunction;" fm) :
  Con l Z (⟨"com/example/neith/neith/io/XmlOutput", "forbiddenCharacter", "(Ljava/lang/String;)I"⟩ : MethodName) prog_18_method_3_code 5 (some .int) ({ frames := 4, cells := 0, slots := 0, locals := 53 } : Room) #[(.ref a1)] h0 (fun v h L => v = some (.int r) ∧ Fr n0 L ∧ h = h0) := by
 refine own_startC opn_8 ?_
 intro p e s m below meth c T0 X0 hx hby hml hZ hown hnm hret hlk e0
 have N := Fr.nil n0; have K := Keep.refl h0 []
 refine OG.cast (oef14 m a1) ?_
 refine og_iconst (v := -1) X0 hx rfl (hb hby d8_0) rfl ?_
 refine og_istoreN (L' := #[.val (.ref a1), .val (.int (-1)), .unset, .unset, .unset]) X0 hx rfl (hb hby d8_1) rfl ?_
 refine og_iconst (v := 0) X0 hx rfl (hb hby d8_2) rfl ?_
 refine og_istoreN (L' := #[.val (.ref a1), .val (.int (-1)), .val (.int 0), .unset, .unset]) X0 hx rfl (hb hby d8_3) rfl ?_
 have J3 : ∀ (T11 : State) (l11 : List Loc) (X11 : Stand p l e ({ frames := 4, cells := 0, slots := 0, locals := 53 } : Room) s m #[(.ref a1)] below meth c T11 l11 0 0) (e11 : T11.heap = h0) (N : Fr n0 l11) (x3 x4 : Slot) (hs_x3 : x3 = .unset ∨ ∃ v, x3 = .val (.int v)) (hs_x4 : x4 = .unset ∨ ∃ v, x4 = .val (.int v)) (hr : own_fc [] = r), OG p e below (OFin s (fun v h L => v = some (.int r) ∧ Fr n0 L ∧ h = h0) 0 0) (T11.setTop (mkF m 4 #[.val (.ref a1), .val (.int (-1)), .val (.int 3), x3, x4] [])) := by
  intro T11 l11 X11 e11 N x3 x4 hs_x3 hs_x4 hr
  refine og_iloadN X11 hx rfl (hb hby d8_4) rfl ?_
  refine og_aloadN X11 hx rfl rfl (hb hby d8_5) rfl ?_
  refine og_virtual (pc' := 9) (cells' := 0) (slots' := 0) (W := 1) X11 hx hZ (rm_len l Z a0 hw a1 ba kb (3 : Int32) _ cs hcs h0 n0 O E_a1 F_value_a1 F_coder_a1 V_ba S_CS) hown (ow38 hw) (ow39 hw) (own_nf hZ (ow41 hw)) (ow41 hw) (ow40 hw) (ow7 hw) (ow42 hw) (by decide) (by rw [hml]; rfl) e11 opd_17 [] [(.int 3)] rfl rfl rfl rfl (by decide) (by decide) rfl rfl (by decide) (by decide) E_a1 (hb hby d8_6) rfl (fun v12 T12 h12 L12 X12 e12 z12 => ?_)
  obtain ⟨rfl, Nq12, hq12⟩ := z12; replace e12 := e12.trans hq12; have N := Fr.app N Nq12
  refine og_icmp_ge (pc1 := 69) (pc2 := 12) X12 hx (hb hby d8_9) (by decide) (by decide) rfl (fun _ => ?_) (fun q => absurd q (by decide))
  refine og_iloadN X12 hx rfl (hb hby d8_69) rfl ?_
  refine og_retI X12 hx hlk hret (hb hby d8_70) (by decide) (by decide) ?_
  rw [e12]; exact ⟨by rw [← hr]; rfl, N, rfl⟩
 have J2 : ∀ (T13 : State) (l13 : List Loc) (X13 : Stand p l e ({ frames := 4, cells := 0, slots := 0, locals := 53 } : Room) s m #[(.ref a1)] below meth c T13 l13 0 0) (e13 : T13.heap = h0) (N : Fr n0 l13) (x3 x4 : Slot) (hs_x3 : x3 = .unset ∨ ∃ v, x3 = .val (.int v)) (hs_x4 : x4 = .unset ∨ ∃ v, x4 = .val (.int v)) (hr : own_fc [c2] = r), OG p e below (OFin s (fun v h L => v = some (.int r) ∧ Fr n0 L ∧ h = h0) 0 0) (T13.setTop (mkF m 4 #[.val (.ref a1), .val (.int (-1)), .val (.int 2), x3, x4] [])) := by
  intro T13 l13 X13 e13 N x3 x4 hs_x3 hs_x4 hr
  refine og_iloadN X13 hx rfl (hb hby d8_4) rfl ?_
  refine og_aloadN X13 hx rfl rfl (hb hby d8_5) rfl ?_
  refine og_virtual (pc' := 9) (cells' := 0) (slots' := 0) (W := 1) X13 hx hZ (rm_len l Z a0 hw a1 ba kb (3 : Int32) _ cs hcs h0 n0 O E_a1 F_value_a1 F_coder_a1 V_ba S_CS) hown (ow38 hw) (ow39 hw) (own_nf hZ (ow41 hw)) (ow41 hw) (ow40 hw) (ow7 hw) (ow42 hw) (by decide) (by rw [hml]; rfl) e13 opd_17 [] [(.int 2)] rfl rfl rfl rfl (by decide) (by decide) rfl rfl (by decide) (by decide) E_a1 (hb hby d8_6) rfl (fun v14 T14 h14 L14 X14 e14 z14 => ?_)
  obtain ⟨rfl, Nq14, hq14⟩ := z14; replace e14 := e14.trans hq14; have N := Fr.app N Nq14
  refine og_icmp_ge (pc1 := 69) (pc2 := 12) X14 hx (hb hby d8_9) (by decide) (by decide) rfl (fun q => absurd q (by decide)) (fun _ => ?_)
  refine og_iloadN X14 hx rfl (hb hby d8_12) rfl ?_
  refine og_if_ge (pc1 := 69) (pc2 := 16) X14 hx (hb hby d8_13) (by decide) (by decide) rfl (fun q => absurd q (by decide)) (fun _ => ?_)
  refine og_aloadN X14 hx rfl rfl (hb hby d8_16) rfl ?_
  refine og_iloadN X14 hx rfl (hb hby d8_17) rfl ?_
  refine og_virtual (pc' := 21) (cells' := 0) (slots' := 0) (W := 0) X14 hx hZ (rm_ch l Z a0 hw a1 ba kb (3 : Int32) (2 : Int32) ⟨by decide, by decide⟩ _ c2 rfl (own_sm hc2 hsm.2.2) cs hcs fm hfm h0 n0 O E_a1 F_value_a1 F_coder_a1 V_ba S_CS S_FM) hown (ow48 hw) (ow49 hw) (own_nf hZ (ow51 hw)) (ow51 hw) (ow50 hw) (ow7 hw) (ow52 hw) (by decide) (by rw [hml]; rfl) e14 opd_18 [(.int 2)] [] rfl rfl rfl rfl (by decide) (by decide) rfl rfl (by decide) (by decide) E_a1 (hb hby d8_18) rfl (fun v15 T15 h15 L15 X15 e15 z15 => ?_)
  obtain ⟨rfl, Nq15, hq15⟩ := z15; replace e15 := e15.trans hq15; have N := Fr.app N Nq15
  refine og_istoreN (L' := #[.val (.ref a1), .val (.int (-1)), .val (.int 2), .val (.int c2), x4]) X15 hx (by rcases hs_x3 with rfl | ⟨_, rfl⟩ <;> rfl) (hb hby d8_21) rfl ?_
  refine og_iloadN X15 hx rfl (hb hby d8_22) rfl ?_
  refine og_bipush (v := 32) X15 hx rfl (hb hby d8_23) rfl ?_
  refine og_icmp_lt (pc1 := 40) (pc2 := 28) X15 hx (hb hby d8_25) (by decide) (by decide) rfl (fun hc25 => ?_) (fun hc25 => ?_)
  ·
   refine og_aloadN X15 hx rfl rfl (hb hby d8_40) rfl ?_
   refine og_iloadN X15 hx rfl (hb hby d8_41) rfl ?_
   refine og_virtual (pc' := 45) (cells' := 0) (slots' := 0) (W := 0) X15 hx hZ (rm_pL3_2 l Z a0 hw a1 ba kb c0 c1 c2 hc0 hc1 hc2 cs hcs fm hfm hsm h0 n0 O E_a1 F_value_a1 F_coder_a1 V_ba S_CS S_FM) hown (ow70 hw) (ow71 hw) (own_nf hZ (ow73 hw)) (ow73 hw) (ow72 hw) (ow7 hw) (ow74 hw) (by decide) (by rw [hml]; rfl) e15 opd_0 [(.int 2)] [] rfl rfl rfl rfl (by decide) (by decide) rfl rfl (by decide) (by decide) E_a1 (hb hby d8_42) rfl (fun v16 T16 h16 L16 X16 e16 z16 => ?_)
   obtain ⟨rfl, Nq16, hq16⟩ := z16; replace e16 := e16.trans hq16; have N := Fr.app N Nq16
   refine og_istore (L' := #[.val (.ref a1), .val (.int (-1)), .val (.int 2), .val (.int c2), .val (.int c2)]) X16 hx (by rcases hs_x4 with rfl | ⟨_, rfl⟩ <;> rfl) (hb hby d8_45) rfl ?_
   refine og_iload X16 hx rfl (hb hby d8_47) rfl ?_
   refine og_static (pc' := 52) (cells' := 0) (slots' := 0) (W := 0) X16 hx hZ (rm_ixc l Z a0 hw c2 h0 n0 O) hown (ow76 hw) (ow77 hw) (ow36 hw) (ow78 hw) (by decide) (by rw [hml]; rfl) e16 opd_19 [(.int c2)] [] rfl rfl rfl rfl (by decide) (by decide) rfl rfl (by decide) (by decide) (hb hby d8_49) rfl (fun v17 T17 h17 L17 X17 e17 z17 => ?_)
   obtain ⟨rb17, rfl, Nq17, hq17, hb17⟩ := z17; replace e17 := e17.trans hq17; have N := Fr.app N Nq17
   refine og_if_ne (pc1 := 58) (pc2 := 55) X17 hx (hb hby d8_52) (by decide) (by decide) rfl (fun hc52 => ?_) (fun hc52 => ?_)
   ·
    have hX := own_b1 hb17 hc52
    refine og_iloadN X17 hx rfl (hb hby d8_58) rfl ?_
    refine og_iload X17 hx rfl (hb hby d8_59) rfl ?_
    refine og_static (pc' := 64) (cells' := 0) (slots' := 0) (W := 1) X17 hx hZ (rm_cct l Z a0 hw c2 h0 n0 O) hown (ow81 hw) (ow82 hw) (ow83 hw) (ow84 hw) (by decide) (by rw [hml]; rfl) e17 opd_0 [(.int c2)] [(.int 2)] rfl rfl rfl rfl (by decide) (by decide) rfl rfl (by decide) (by decide) (hb hby d8_61) rfl (fun v18 T18 h18 L18 X18 e18 z18 => ?_)
    obtain ⟨rc, rfl, Nq18, hq18, hrc⟩ := z18; replace e18 := e18.trans hq18; have N := Fr.app N Nq18
    have hrc : rc = 1 := own_cc1 hrc hc2
    subst hrc
    refine og_iadd X18 hx (hb hby d8_64) rfl ?_
    show OG p e below _ (T18.setTop (mkF m 65 #[.val (.ref a1), .val (.int (-1)), .val (.int 2), .val (.int c2), .val (.int c2)] [(.int 3)]))
    refine og_istoreN (L' := #[.val (.ref a1), .val (.int (-1)), .val (.int 3), .val (.int c2), .val (.int c2)]) X18 hx rfl (hb hby d8_65) rfl ?_
    refine og_goto (pc' := 4) X18 hx (hb hby d8_66) (by decide) (by decide) ?_
    exact J3 T18 _ X18 e18 N _ _ (Or.inr ⟨_, rfl⟩) (Or.inr ⟨_, rfl⟩) ((own_fok1 (own_xk hc2 hX)).symm.trans hr)
   ·
    have hX := own_b0 hb17 hc52
    refine og_iload X17 hx rfl (hb hby d8_55) rfl ?_
    refine og_istoreN (L' := #[.val (.ref a1), .val (.int c2), .val (.int 2), .val (.int c2), .val (.int c2)]) X17 hx rfl (hb hby d8_57) rfl ?_
    refine og_iloadN X17 hx rfl (hb hby d8_58) rfl ?_
    refine og_iload X17 hx rfl (hb hby d8_59) rfl ?_
    refine og_static (pc' := 64) (cells' := 0) (slots' := 0) (W := 1) X17 hx hZ (rm_cct l Z a0 hw c2 h0 n0 O) hown (ow81 hw) (ow82 hw) (ow83 hw) (ow84 hw) (by decide) (by rw [hml]; rfl) e17 opd_0 [(.int c2)] [(.int 2)] rfl rfl rfl rfl (by decide) (by decide) rfl rfl (by decide) (by decide) (hb hby d8_61) rfl (fun v19 T19 h19 L19 X19 e19 z19 => ?_)
    obtain ⟨rc, rfl, Nq19, hq19, hrc⟩ := z19; replace e19 := e19.trans hq19; have N := Fr.app N Nq19
    have hrc : rc = 1 := own_cc1 hrc hc2
    subst hrc
    refine og_iadd X19 hx (hb hby d8_64) rfl ?_
    show OG p e below _ (T19.setTop (mkF m 65 #[.val (.ref a1), .val (.int c2), .val (.int 2), .val (.int c2), .val (.int c2)] [(.int 3)]))
    refine og_istoreN (L' := #[.val (.ref a1), .val (.int c2), .val (.int 3), .val (.int c2), .val (.int c2)]) X19 hx rfl (hb hby d8_65) rfl ?_
    refine og_goto (pc' := 4) X19 hx (hb hby d8_66) (by decide) (by decide) ?_
    refine og_iloadN X19 hx rfl (hb hby d8_4) rfl ?_
    refine og_aloadN X19 hx rfl rfl (hb hby d8_5) rfl ?_
    refine og_virtual (pc' := 9) (cells' := 0) (slots' := 0) (W := 1) X19 hx hZ (rm_len l Z a0 hw a1 ba kb (3 : Int32) _ cs hcs h0 n0 O E_a1 F_value_a1 F_coder_a1 V_ba S_CS) hown (ow38 hw) (ow39 hw) (own_nf hZ (ow41 hw)) (ow41 hw) (ow40 hw) (ow7 hw) (ow42 hw) (by decide) (by rw [hml]; rfl) e19 opd_17 [] [(.int 3)] rfl rfl rfl rfl (by decide) (by decide) rfl rfl (by decide) (by decide) E_a1 (hb hby d8_6) rfl (fun v20 T20 h20 L20 X20 e20 z20 => ?_)
    obtain ⟨rfl, Nq20, hq20⟩ := z20; replace e20 := e20.trans hq20; have N := Fr.app N Nq20
    refine og_icmp_ge (pc1 := 69) (pc2 := 12) X20 hx (hb hby d8_9) (by decide) (by decide) rfl (fun _ => ?_) (fun q => absurd q (by decide))
    refine og_iloadN X20 hx rfl (hb hby d8_69) rfl ?_
    refine og_retI X20 hx hlk hret (hb hby d8_70) (by decide) (by decide) ?_
    rw [e20]; exact ⟨by rw [← hr, own_fbad1 (own_kx hc2 hX)], N, rfl⟩
  ·
   refine og_iloadN X15 hx rfl (hb hby d8_28) rfl ?_
   refine og_ldc X15 hx hZ hown (ow100 hw) (hb hby d8_29) rfl ?_
   refine og_icmp_ge (pc1 := 40) (pc2 := 34) X15 hx (hb hby d8_31) (by decide) (by decide) rfl (fun hc31 => ?_) (fun hc31 => ?_)
   ·
    have q25 := own_i2 hc25 (show (32 : Int32).toInt = 32 by decide)
    refine og_aloadN X15 hx rfl rfl (hb hby d8_40) rfl ?_
    refine og_iloadN X15 hx rfl (hb hby d8_41) rfl ?_
    refine og_virtual (pc' := 45) (cells' := 0) (slots' := 0) (W := 0) X15 hx hZ (rm_pL3_2 l Z a0 hw a1 ba kb c0 c1 c2 hc0 hc1 hc2 cs hcs fm hfm hsm h0 n0 O E_a1 F_value_a1 F_coder_a1 V_ba S_CS S_FM) hown (ow70 hw) (ow71 hw) (own_nf hZ (ow73 hw)) (ow73 hw) (ow72 hw) (ow7 hw) (ow74 hw) (by decide) (by rw [hml]; rfl) e15 opd_0 [(.int 2)] [] rfl rfl rfl rfl (by decide) (by decide) rfl rfl (by decide) (by decide) E_a1 (hb hby d8_42) rfl (fun v21 T21 h21 L21 X21 e21 z21 => ?_)
    obtain ⟨rfl, Nq21, hq21⟩ := z21; replace e21 := e21.trans hq21; have N := Fr.app N Nq21
    refine og_istore (L' := #[.val (.ref a1), .val (.int (-1)), .val (.int 2), .val (.int c2), .val (.int c2)]) X21 hx (by rcases hs_x4 with rfl | ⟨_, rfl⟩ <;> rfl) (hb hby d8_45) rfl ?_
    refine og_iload X21 hx rfl (hb hby d8_47) rfl ?_
    refine og_static (pc' := 52) (cells' := 0) (slots' := 0) (W := 0) X21 hx hZ (rm_ixc l Z a0 hw c2 h0 n0 O) hown (ow76 hw) (ow77 hw) (ow36 hw) (ow78 hw) (by decide) (by rw [hml]; rfl) e21 opd_19 [(.int c2)] [] rfl rfl rfl rfl (by decide) (by decide) rfl rfl (by decide) (by decide) (hb hby d8_49) rfl (fun v22 T22 h22 L22 X22 e22 z22 => ?_)
    obtain ⟨rb22, rfl, Nq22, hq22, hb22⟩ := z22; replace e22 := e22.trans hq22; have N := Fr.app N Nq22
    refine og_if_ne (pc1 := 58) (pc2 := 55) X22 hx (hb hby d8_52) (by decide) (by decide) rfl (fun hc52 => ?_) (fun hc52 => ?_)
    ·
     have hX := own_b1 hb22 hc52
     refine og_iloadN X22 hx rfl (hb hby d8_58) rfl ?_
     refine og_iload X22 hx rfl (hb hby d8_59) rfl ?_
     refine og_static (pc' := 64) (cells' := 0) (slots' := 0) (W := 1) X22 hx hZ (rm_cct l Z a0 hw c2 h0 n0 O) hown (ow81 hw) (ow82 hw) (ow83 hw) (ow84 hw) (by decide) (by rw [hml]; rfl) e22 opd_0 [(.int c2)] [(.int 2)] rfl rfl rfl rfl (by decide) (by decide) rfl rfl (by decide) (by decide) (hb hby d8_61) rfl (fun v23 T23 h23 L23 X23 e23 z23 => ?_)
     obtain ⟨rc, rfl, Nq23, hq23, hrc⟩ := z23; replace e23 := e23.trans hq23; have N := Fr.app N Nq23
     have hrc : rc = 1 := own_cc1 hrc hc2
     subst hrc
     refine og_iadd X23 hx (hb hby d8_64) rfl ?_
     show OG p e below _ (T23.setTop (mkF m 65 #[.val (.ref a1), .val (.int (-1)), .val (.int 2), .val (.int c2), .val (.int c2)] [(.int 3)]))
     refine og_istoreN (L' := #[.val (.ref a1), .val (.int (-1)), .val (.int 3), .val (.int c2), .val (.int c2)]) X23 hx rfl (hb hby d8_65) rfl ?_
     refine og_goto (pc' := 4) X23 hx (hb hby d8_66) (by decide) (by decide) ?_
     exact J3 T23 _ X23 e23 N _ _ (Or.inr ⟨_, rfl⟩) (Or.inr ⟨_, rfl⟩) ((own_fok1 (own_xk hc2 hX)).symm.trans hr)
    ·
     have hX := own_b0 hb22 hc52
     refine og_iload X22 hx rfl (hb hby d8_55) rfl ?_
     refine og_istoreN (L' := #[.val (.ref a1), .val (.int c2), .val (.int 2), .val (.int c2), .val (.int c2)]) X22 hx rfl (hb hby d8_57) rfl ?_
     refine og_iloadN X22 hx rfl (hb hby d8_58) rfl ?_
     refine og_iload X22 hx rfl (hb hby d8_59) rfl ?_
     refine og_static (pc' := 64) (cells' := 0) (slots' := 0) (W := 1) X22 hx hZ (rm_cct l Z a0 hw c2 h0 n0 O) hown (ow81 hw) (ow82 hw) (ow83 hw) (ow84 hw) (by decide) (by rw [hml]; rfl) e22 opd_0 [(.int c2)] [(.int 2)] rfl rfl rfl rfl (by decide) (by decide) rfl rfl (by decide) (by decide) (hb hby d8_61) rfl (fun v24 T24 h24 L24 X24 e24 z24 => ?_)
     obtain ⟨rc, rfl, Nq24, hq24, hrc⟩ := z24; replace e24 := e24.trans hq24; have N := Fr.app N Nq24
     have hrc : rc = 1 := own_cc1 hrc hc2
     subst hrc
     refine og_iadd X24 hx (hb hby d8_64) rfl ?_
     show OG p e below _ (T24.setTop (mkF m 65 #[.val (.ref a1), .val (.int c2), .val (.int 2), .val (.int c2), .val (.int c2)] [(.int 3)]))
     refine og_istoreN (L' := #[.val (.ref a1), .val (.int c2), .val (.int 3), .val (.int c2), .val (.int c2)]) X24 hx rfl (hb hby d8_65) rfl ?_
     refine og_goto (pc' := 4) X24 hx (hb hby d8_66) (by decide) (by decide) ?_
     refine og_iloadN X24 hx rfl (hb hby d8_4) rfl ?_
     refine og_aloadN X24 hx rfl rfl (hb hby d8_5) rfl ?_
     refine og_virtual (pc' := 9) (cells' := 0) (slots' := 0) (W := 1) X24 hx hZ (rm_len l Z a0 hw a1 ba kb (3 : Int32) _ cs hcs h0 n0 O E_a1 F_value_a1 F_coder_a1 V_ba S_CS) hown (ow38 hw) (ow39 hw) (own_nf hZ (ow41 hw)) (ow41 hw) (ow40 hw) (ow7 hw) (ow42 hw) (by decide) (by rw [hml]; rfl) e24 opd_17 [] [(.int 3)] rfl rfl rfl rfl (by decide) (by decide) rfl rfl (by decide) (by decide) E_a1 (hb hby d8_6) rfl (fun v25 T25 h25 L25 X25 e25 z25 => ?_)
     obtain ⟨rfl, Nq25, hq25⟩ := z25; replace e25 := e25.trans hq25; have N := Fr.app N Nq25
     refine og_icmp_ge (pc1 := 69) (pc2 := 12) X25 hx (hb hby d8_9) (by decide) (by decide) rfl (fun _ => ?_) (fun q => absurd q (by decide))
     refine og_iloadN X25 hx rfl (hb hby d8_69) rfl ?_
     refine og_retI X25 hx hlk hret (hb hby d8_70) (by decide) (by decide) ?_
     rw [e25]; exact ⟨by rw [← hr, own_fbad1 (own_kx hc2 hX)], N, rfl⟩
   ·
    have q25 := own_i2 hc25 (show (32 : Int32).toInt = 32 by decide)
    have q31 := own_i1 hc31 (show (55296 : Int32).toInt = 55296 by decide)
    refine og_iinc (L' := #[.val (.ref a1), .val (.int (-1)), .val (.int 3), .val (.int c2), x4]) (w := 1) X15 hx rfl rfl rfl (hb hby d8_34) rfl ?_
    refine og_goto (pc' := 66) X15 hx (hb hby d8_37) (by decide) (by decide) ?_
    refine og_goto (pc' := 4) X15 hx (hb hby d8_66) (by decide) (by decide) ?_
    exact J3 T15 _ X15 e15 N _ _ (Or.inr ⟨_, rfl⟩) hs_x4 ((own_fok1 (own_okb q25 q31)).symm.trans hr)
 have J1 : ∀ (T26 : State) (l26 : List Loc) (X26 : Stand p l e ({ frames := 4, cells := 0, slots := 0, locals := 53 } : Room) s m #[(.ref a1)] below meth c T26 l26 0 0) (e26 : T26.heap = h0) (N : Fr n0 l26) (x3 x4 : Slot) (hs_x3 : x3 = .unset ∨ ∃ v, x3 = .val (.int v)) (hs_x4 : x4 = .unset ∨ ∃ v, x4 = .val (.int v)) (hr : own_fc [c1, c2] = r), OG p e below (OFin s (fun v h L => v = some (.int r) ∧ Fr n0 L ∧ h = h0) 0 0) (T26.setTop (mkF m 4 #[.val (.ref a1), .val (.int (-1)), .val (.int 1), x3, x4] [])) := by
  intro T26 l26 X26 e26 N x3 x4 hs_x3 hs_x4 hr
  refine og_iloadN X26 hx rfl (hb hby d8_4) rfl ?_
  refine og_aloadN X26 hx rfl rfl (hb hby d8_5) rfl ?_
  refine og_virtual (pc' := 9) (cells' := 0) (slots' := 0) (W := 1) X26 hx hZ (rm_len l Z a0 hw a1 ba kb (3 : Int32) _ cs hcs h0 n0 O E_a1 F_value_a1 F_coder_a1 V_ba S_CS) hown (ow38 hw) (ow39 hw) (own_nf hZ (ow41 hw)) (ow41 hw) (ow40 hw) (ow7 hw) (ow42 hw) (by decide) (by rw [hml]; rfl) e26 opd_17 [] [(.int 1)] rfl rfl rfl rfl (by decide) (by decide) rfl rfl (by decide) (by decide) E_a1 (hb hby d8_6) rfl (fun v27 T27 h27 L27 X27 e27 z27 => ?_)
  obtain ⟨rfl, Nq27, hq27⟩ := z27; replace e27 := e27.trans hq27; have N := Fr.app N Nq27
  refine og_icmp_ge (pc1 := 69) (pc2 := 12) X27 hx (hb hby d8_9) (by decide) (by decide) rfl (fun q => absurd q (by decide)) (fun _ => ?_)
  refine og_iloadN X27 hx rfl (hb hby d8_12) rfl ?_
  refine og_if_ge (pc1 := 69) (pc2 := 16) X27 hx (hb hby d8_13) (by decide) (by decide) rfl (fun q => absurd q (by decide)) (fun _ => ?_)
  refine og_aloadN X27 hx rfl rfl (hb hby d8_16) rfl ?_
  refine og_iloadN X27 hx rfl (hb hby d8_17) rfl ?_
  refine og_virtual (pc' := 21) (cells' := 0) (slots' := 0) (W := 0) X27 hx hZ (rm_ch l Z a0 hw a1 ba kb (3 : Int32) (1 : Int32) ⟨by decide, by decide⟩ _ c1 rfl (own_sm hc1 hsm.2.1) cs hcs fm hfm h0 n0 O E_a1 F_value_a1 F_coder_a1 V_ba S_CS S_FM) hown (ow48 hw) (ow49 hw) (own_nf hZ (ow51 hw)) (ow51 hw) (ow50 hw) (ow7 hw) (ow52 hw) (by decide) (by rw [hml]; rfl) e27 opd_18 [(.int 1)] [] rfl rfl rfl rfl (by decide) (by decide) rfl rfl (by decide) (by decide) E_a1 (hb hby d8_18) rfl (fun v28 T28 h28 L28 X28 e28 z28 => ?_)
  obtain ⟨rfl, Nq28, hq28⟩ := z28; replace e28 := e28.trans hq28; have N := Fr.app N Nq28
  refine og_istoreN (L' := #[.val (.ref a1), .val (.int (-1)), .val (.int 1), .val (.int c1), x4]) X28 hx (by rcases hs_x3 with rfl | ⟨_, rfl⟩ <;> rfl) (hb hby d8_21) rfl ?_
  refine og_iloadN X28 hx rfl (hb hby d8_22) rfl ?_
  refine og_bipush (v := 32) X28 hx rfl (hb hby d8_23) rfl ?_
  refine og_icmp_lt (pc1 := 40) (pc2 := 28) X28 hx (hb hby d8_25) (by decide) (by decide) rfl (fun hc25 => ?_) (fun hc25 => ?_)
  ·
   refine og_aloadN X28 hx rfl rfl (hb hby d8_40) rfl ?_
   refine og_iloadN X28 hx rfl (hb hby d8_41) rfl ?_
   refine og_virtual (pc' := 45) (cells' := 0) (slots' := 0) (W := 0) X28 hx hZ (rm_pL3_1 l Z a0 hw a1 ba kb c0 c1 c2 hc0 hc1 hc2 cs hcs fm hfm hsm h0 n0 O E_a1 F_value_a1 F_coder_a1 V_ba S_CS S_FM) hown (ow70 hw) (ow71 hw) (own_nf hZ (ow73 hw)) (ow73 hw) (ow72 hw) (ow7 hw) (ow74 hw) (by decide) (by rw [hml]; rfl) e28 opd_0 [(.int 1)] [] rfl rfl rfl rfl (by decide) (by decide) rfl rfl (by decide) (by decide) E_a1 (hb hby d8_42) rfl (fun v29 T29 h29 L29 X29 e29 z29 => ?_)
   obtain ⟨rfl, Nq29, hq29⟩ := z29; replace e29 := e29.trans hq29; have N := Fr.app N Nq29
   refine og_istore (L' := #[.val (.ref a1), .val (.int (-1)), .val (.int 1), .val (.int c1), .val (.int c1)]) X29 hx (by rcases hs_x4 with rfl | ⟨_, rfl⟩ <;> rfl) (hb hby d8_45) rfl ?_
   refine og_iload X29 hx rfl (hb hby d8_47) rfl ?_
   refine og_static (pc' := 52) (cells' := 0) (slots' := 0) (W := 0) X29 hx hZ (rm_ixc l Z a0 hw c1 h0 n0 O) hown (ow76 hw) (ow77 hw) (ow36 hw) (ow78 hw) (by decide) (by rw [hml]; rfl) e29 opd_19 [(.int c1)] [] rfl rfl rfl rfl (by decide) (by decide) rfl rfl (by decide) (by decide) (hb hby d8_49) rfl (fun v30 T30 h30 L30 X30 e30 z30 => ?_)
   obtain ⟨rb30, rfl, Nq30, hq30, hb30⟩ := z30; replace e30 := e30.trans hq30; have N := Fr.app N Nq30
   refine og_if_ne (pc1 := 58) (pc2 := 55) X30 hx (hb hby d8_52) (by decide) (by decide) rfl (fun hc52 => ?_) (fun hc52 => ?_)
   ·
    have hX := own_b1 hb30 hc52
    refine og_iloadN X30 hx rfl (hb hby d8_58) rfl ?_
    refine og_iload X30 hx rfl (hb hby d8_59) rfl ?_
    refine og_static (pc' := 64) (cells' := 0) (slots' := 0) (W := 1) X30 hx hZ (rm_cct l Z a0 hw c1 h0 n0 O) hown (ow81 hw) (ow82 hw) (ow83 hw) (ow84 hw) (by decide) (by rw [hml]; rfl) e30 opd_0 [(.int c1)] [(.int 1)] rfl rfl rfl rfl (by decide) (by decide) rfl rfl (by decide) (by decide) (hb hby d8_61) rfl (fun v31 T31 h31 L31 X31 e31 z31 => ?_)
    obtain ⟨rc, rfl, Nq31, hq31, hrc⟩ := z31; replace e31 := e31.trans hq31; have N := Fr.app N Nq31
    have hrc : rc = 1 := own_cc1 hrc hc1
    subst hrc
    refine og_iadd X31 hx (hb hby d8_64) rfl ?_
    show OG p e below _ (T31.setTop (mkF m 65 #[.val (.ref a1), .val (.int (-1)), .val (.int 1), .val (.int c1), .val (.int c1)] [(.int 2)]))
    refine og_istoreN (L' := #[.val (.ref a1), .val (.int (-1)), .val (.int 2), .val (.int c1), .val (.int c1)]) X31 hx rfl (hb hby d8_65) rfl ?_
    refine og_goto (pc' := 4) X31 hx (hb hby d8_66) (by decide) (by decide) ?_
    exact J2 T31 _ X31 e31 N _ _ (Or.inr ⟨_, rfl⟩) (Or.inr ⟨_, rfl⟩) ((own_fok (own_nH hsm.2.1) (own_xk hc1 hX)).symm.trans hr)
   ·
    have hX := own_b0 hb30 hc52
    refine og_iload X30 hx rfl (hb hby d8_55) rfl ?_
    refine og_istoreN (L' := #[.val (.ref a1), .val (.int c1), .val (.int 1), .val (.int c1), .val (.int c1)]) X30 hx rfl (hb hby d8_57) rfl ?_
    refine og_iloadN X30 hx rfl (hb hby d8_58) rfl ?_
    refine og_iload X30 hx rfl (hb hby d8_59) rfl ?_
    refine og_static (pc' := 64) (cells' := 0) (slots' := 0) (W := 1) X30 hx hZ (rm_cct l Z a0 hw c1 h0 n0 O) hown (ow81 hw) (ow82 hw) (ow83 hw) (ow84 hw) (by decide) (by rw [hml]; rfl) e30 opd_0 [(.int c1)] [(.int 1)] rfl rfl rfl rfl (by decide) (by decide) rfl rfl (by decide) (by decide) (hb hby d8_61) rfl (fun v32 T32 h32 L32 X32 e32 z32 => ?_)
    obtain ⟨rc, rfl, Nq32, hq32, hrc⟩ := z32; replace e32 := e32.trans hq32; have N := Fr.app N Nq32
    have hrc : rc = 1 := own_cc1 hrc hc1
    subst hrc
    refine og_iadd X32 hx (hb hby d8_64) rfl ?_
    show OG p e below _ (T32.setTop (mkF m 65 #[.val (.ref a1), .val (.int c1), .val (.int 1), .val (.int c1), .val (.int c1)] [(.int 2)]))
    refine og_istoreN (L' := #[.val (.ref a1), .val (.int c1), .val (.int 2), .val (.int c1), .val (.int c1)]) X32 hx rfl (hb hby d8_65) rfl ?_
    refine og_goto (pc' := 4) X32 hx (hb hby d8_66) (by decide) (by decide) ?_
    refine og_iloadN X32 hx rfl (hb hby d8_4) rfl ?_
    refine og_aloadN X32 hx rfl rfl (hb hby d8_5) rfl ?_
    refine og_virtual (pc' := 9) (cells' := 0) (slots' := 0) (W := 1) X32 hx hZ (rm_len l Z a0 hw a1 ba kb (3 : Int32) _ cs hcs h0 n0 O E_a1 F_value_a1 F_coder_a1 V_ba S_CS) hown (ow38 hw) (ow39 hw) (own_nf hZ (ow41 hw)) (ow41 hw) (ow40 hw) (ow7 hw) (ow42 hw) (by decide) (by rw [hml]; rfl) e32 opd_17 [] [(.int 2)] rfl rfl rfl rfl (by decide) (by decide) rfl rfl (by decide) (by decide) E_a1 (hb hby d8_6) rfl (fun v33 T33 h33 L33 X33 e33 z33 => ?_)
    obtain ⟨rfl, Nq33, hq33⟩ := z33; replace e33 := e33.trans hq33; have N := Fr.app N Nq33
    refine og_icmp_ge (pc1 := 69) (pc2 := 12) X33 hx (hb hby d8_9) (by decide) (by decide) rfl (fun q => absurd q (by decide)) (fun _ => ?_)
    refine og_iloadN X33 hx rfl (hb hby d8_12) rfl ?_
    refine og_if_ge (pc1 := 69) (pc2 := 16) X33 hx (hb hby d8_13) (by decide) (by decide) rfl (fun _ => ?_) (fun q => absurd q (own_nn hc1))
    refine og_iloadN X33 hx rfl (hb hby d8_69) rfl ?_
    refine og_retI X33 hx hlk hret (hb hby d8_70) (by decide) (by decide) ?_
    rw [e33]; exact ⟨by rw [← hr, own_fbad (own_nH hsm.2.1) (own_kx hc1 hX)], N, rfl⟩
  ·
   refine og_iloadN X28 hx rfl (hb hby d8_28) rfl ?_
   refine og_ldc X28 hx hZ hown (ow100 hw) (hb hby d8_29) rfl ?_
   refine og_icmp_ge (pc1 := 40) (pc2 := 34) X28 hx (hb hby d8_31) (by decide) (by decide) rfl (fun hc31 => ?_) (fun hc31 => ?_)
   ·
    have q25 := own_i2 hc25 (show (32 : Int32).toInt = 32 by decide)
    refine og_aloadN X28 hx rfl rfl (hb hby d8_40) rfl ?_
    refine og_iloadN X28 hx rfl (hb hby d8_41) rfl ?_
    refine og_virtual (pc' := 45) (cells' := 0) (slots' := 0) (W := 0) X28 hx hZ (rm_pL3_1 l Z a0 hw a1 ba kb c0 c1 c2 hc0 hc1 hc2 cs hcs fm hfm hsm h0 n0 O E_a1 F_value_a1 F_coder_a1 V_ba S_CS S_FM) hown (ow70 hw) (ow71 hw) (own_nf hZ (ow73 hw)) (ow73 hw) (ow72 hw) (ow7 hw) (ow74 hw) (by decide) (by rw [hml]; rfl) e28 opd_0 [(.int 1)] [] rfl rfl rfl rfl (by decide) (by decide) rfl rfl (by decide) (by decide) E_a1 (hb hby d8_42) rfl (fun v34 T34 h34 L34 X34 e34 z34 => ?_)
    obtain ⟨rfl, Nq34, hq34⟩ := z34; replace e34 := e34.trans hq34; have N := Fr.app N Nq34
    refine og_istore (L' := #[.val (.ref a1), .val (.int (-1)), .val (.int 1), .val (.int c1), .val (.int c1)]) X34 hx (by rcases hs_x4 with rfl | ⟨_, rfl⟩ <;> rfl) (hb hby d8_45) rfl ?_
    refine og_iload X34 hx rfl (hb hby d8_47) rfl ?_
    refine og_static (pc' := 52) (cells' := 0) (slots' := 0) (W := 0) X34 hx hZ (rm_ixc l Z a0 hw c1 h0 n0 O) hown (ow76 hw) (ow77 hw) (ow36 hw) (ow78 hw) (by decide) (by rw [hml]; rfl) e34 opd_19 [(.int c1)] [] rfl rfl rfl rfl (by decide) (by decide) rfl rfl (by decide) (by decide) (hb hby d8_49) rfl (fun v35 T35 h35 L35 X35 e35 z35 => ?_)
    obtain ⟨rb35, rfl, Nq35, hq35, hb35⟩ := z35; replace e35 := e35.trans hq35; have N := Fr.app N Nq35
    refine og_if_ne (pc1 := 58) (pc2 := 55) X35 hx (hb hby d8_52) (by decide) (by decide) rfl (fun hc52 => ?_) (fun hc52 => ?_)
    ·
     have hX := own_b1 hb35 hc52
     refine og_iloadN X35 hx rfl (hb hby d8_58) rfl ?_
     refine og_iload X35 hx rfl (hb hby d8_59) rfl ?_
     refine og_static (pc' := 64) (cells' := 0) (slots' := 0) (W := 1) X35 hx hZ (rm_cct l Z a0 hw c1 h0 n0 O) hown (ow81 hw) (ow82 hw) (ow83 hw) (ow84 hw) (by decide) (by rw [hml]; rfl) e35 opd_0 [(.int c1)] [(.int 1)] rfl rfl rfl rfl (by decide) (by decide) rfl rfl (by decide) (by decide) (hb hby d8_61) rfl (fun v36 T36 h36 L36 X36 e36 z36 => ?_)
     obtain ⟨rc, rfl, Nq36, hq36, hrc⟩ := z36; replace e36 := e36.trans hq36; have N := Fr.app N Nq36
     have hrc : rc = 1 := own_cc1 hrc hc1
     subst hrc
     refine og_iadd X36 hx (hb hby d8_64) rfl ?_
     show OG p e below _ (T36.setTop (mkF m 65 #[.val (.ref a1), .val (.int (-1)), .val (.int 1), .val (.int c1), .val (.int c1)] [(.int 2)]))
     refine og_istoreN (L' := #[.val (.ref a1), .val (.int (-1)), .val (.int 2), .val (.int c1), .val (.int c1)]) X36 hx rfl (hb hby d8_65) rfl ?_
     refine og_goto (pc' := 4) X36 hx (hb hby d8_66) (by decide) (by decide) ?_
     exact J2 T36 _ X36 e36 N _ _ (Or.inr ⟨_, rfl⟩) (Or.inr ⟨_, rfl⟩) ((own_fok (own_nH hsm.2.1) (own_xk hc1 hX)).symm.trans hr)
    ·
     have hX := own_b0 hb35 hc52
     refine og_iload X35 hx rfl (hb hby d8_55) rfl ?_
     refine og_istoreN (L' := #[.val (.ref a1), .val (.int c1), .val (.int 1), .val (.int c1), .val (.int c1)]) X35 hx rfl (hb hby d8_57) rfl ?_
     refine og_iloadN X35 hx rfl (hb hby d8_58) rfl ?_
     refine og_iload X35 hx rfl (hb hby d8_59) rfl ?_
     refine og_static (pc' := 64) (cells' := 0) (slots' := 0) (W := 1) X35 hx hZ (rm_cct l Z a0 hw c1 h0 n0 O) hown (ow81 hw) (ow82 hw) (ow83 hw) (ow84 hw) (by decide) (by rw [hml]; rfl) e35 opd_0 [(.int c1)] [(.int 1)] rfl rfl rfl rfl (by decide) (by decide) rfl rfl (by decide) (by decide) (hb hby d8_61) rfl (fun v37 T37 h37 L37 X37 e37 z37 => ?_)
     obtain ⟨rc, rfl, Nq37, hq37, hrc⟩ := z37; replace e37 := e37.trans hq37; have N := Fr.app N Nq37
     have hrc : rc = 1 := own_cc1 hrc hc1
     subst hrc
     refine og_iadd X37 hx (hb hby d8_64) rfl ?_
     show OG p e below _ (T37.setTop (mkF m 65 #[.val (.ref a1), .val (.int c1), .val (.int 1), .val (.int c1), .val (.int c1)] [(.int 2)]))
     refine og_istoreN (L' := #[.val (.ref a1), .val (.int c1), .val (.int 2), .val (.int c1), .val (.int c1)]) X37 hx rfl (hb hby d8_65) rfl ?_
     refine og_goto (pc' := 4) X37 hx (hb hby d8_66) (by decide) (by decide) ?_
     refine og_iloadN X37 hx rfl (hb hby d8_4) rfl ?_
     refine og_aloadN X37 hx rfl rfl (hb hby d8_5) rfl ?_
     refine og_virtual (pc' := 9) (cells' := 0) (slots' := 0) (W := 1) X37 hx hZ (rm_len l Z a0 hw a1 ba kb (3 : Int32) _ cs hcs h0 n0 O E_a1 F_value_a1 F_coder_a1 V_ba S_CS) hown (ow38 hw) (ow39 hw) (own_nf hZ (ow41 hw)) (ow41 hw) (ow40 hw) (ow7 hw) (ow42 hw) (by decide) (by rw [hml]; rfl) e37 opd_17 [] [(.int 2)] rfl rfl rfl rfl (by decide) (by decide) rfl rfl (by decide) (by decide) E_a1 (hb hby d8_6) rfl (fun v38 T38 h38 L38 X38 e38 z38 => ?_)
     obtain ⟨rfl, Nq38, hq38⟩ := z38; replace e38 := e38.trans hq38; have N := Fr.app N Nq38
     refine og_icmp_ge (pc1 := 69) (pc2 := 12) X38 hx (hb hby d8_9) (by decide) (by decide) rfl (fun q => absurd q (by decide)) (fun _ => ?_)
     refine og_iloadN X38 hx rfl (hb hby d8_12) rfl ?_
     refine og_if_ge (pc1 := 69) (pc2 := 16) X38 hx (hb hby d8_13) (by decide) (by decide) rfl (fun _ => ?_) (fun q => absurd q (own_nn hc1))
     refine og_iloadN X38 hx rfl (hb hby d8_69) rfl ?_
     refine og_retI X38 hx hlk hret (hb hby d8_70) (by decide) (by decide) ?_
     rw [e38]; exact ⟨by rw [← hr, own_fbad (own_nH hsm.2.1) (own_kx hc1 hX)], N, rfl⟩
   ·
    have q25 := own_i2 hc25 (show (32 : Int32).toInt = 32 by decide)
    have q31 := own_i1 hc31 (show (55296 : Int32).toInt = 55296 by decide)
    refine og_iinc (L' := #[.val (.ref a1), .val (.int (-1)), .val (.int 2), .val (.int c1), x4]) (w := 1) X28 hx rfl rfl rfl (hb hby d8_34) rfl ?_
    refine og_goto (pc' := 66) X28 hx (hb hby d8_37) (by decide) (by decide) ?_
    refine og_goto (pc' := 4) X28 hx (hb hby d8_66) (by decide) (by decide) ?_
    exact J2 T28 _ X28 e28 N _ _ (Or.inr ⟨_, rfl⟩) hs_x4 ((own_fok (own_nHb q31) (own_okb q25 q31)).symm.trans hr)
 refine og_iloadN X0 hx rfl (hb hby d8_4) rfl ?_
 refine og_aloadN X0 hx rfl rfl (hb hby d8_5) rfl ?_
 refine og_virtual (pc' := 9) (cells' := 0) (slots' := 0) (W := 1) X0 hx hZ (rm_len l Z a0 hw a1 ba kb (3 : Int32) _ cs hcs h0 n0 O E_a1 F_value_a1 F_coder_a1 V_ba S_CS) hown (ow38 hw) (ow39 hw) (own_nf hZ (ow41 hw)) (ow41 hw) (ow40 hw) (ow7 hw) (ow42 hw) (by decide) (by rw [hml]; rfl) e0 opd_17 [] [(.int 0)] rfl rfl rfl rfl (by decide) (by decide) rfl rfl (by decide) (by decide) E_a1 (hb hby d8_6) rfl (fun v39 T39 h39 L39 X39 e39 z39 => ?_)
 obtain ⟨rfl, Nq39, hq39⟩ := z39; replace e39 := e39.trans hq39; have N := Fr.app N Nq39
 refine og_icmp_ge (pc1 := 69) (pc2 := 12) X39 hx (hb hby d8_9) (by decide) (by decide) rfl (fun q => absurd q (by decide)) (fun _ => ?_)
 refine og_iloadN X39 hx rfl (hb hby d8_12) rfl ?_
 refine og_if_ge (pc1 := 69) (pc2 := 16) X39 hx (hb hby d8_13) (by decide) (by decide) rfl (fun q => absurd q (by decide)) (fun _ => ?_)
 refine og_aloadN X39 hx rfl rfl (hb hby d8_16) rfl ?_
 refine og_iloadN X39 hx rfl (hb hby d8_17) rfl ?_
 refine og_virtual (pc' := 21) (cells' := 0) (slots' := 0) (W := 0) X39 hx hZ (rm_ch l Z a0 hw a1 ba kb (3 : Int32) (0 : Int32) ⟨by decide, by decide⟩ _ c0 rfl (own_sm hc0 hsm.1) cs hcs fm hfm h0 n0 O E_a1 F_value_a1 F_coder_a1 V_ba S_CS S_FM) hown (ow48 hw) (ow49 hw) (own_nf hZ (ow51 hw)) (ow51 hw) (ow50 hw) (ow7 hw) (ow52 hw) (by decide) (by rw [hml]; rfl) e39 opd_18 [(.int 0)] [] rfl rfl rfl rfl (by decide) (by decide) rfl rfl (by decide) (by decide) E_a1 (hb hby d8_18) rfl (fun v40 T40 h40 L40 X40 e40 z40 => ?_)
 obtain ⟨rfl, Nq40, hq40⟩ := z40; replace e40 := e40.trans hq40; have N := Fr.app N Nq40
 refine og_istoreN (L' := #[.val (.ref a1), .val (.int (-1)), .val (.int 0), .val (.int c0), .unset]) X40 hx rfl (hb hby d8_21) rfl ?_
 refine og_iloadN X40 hx rfl (hb hby d8_22) rfl ?_
 refine og_bipush (v := 32) X40 hx rfl (hb hby d8_23) rfl ?_
 refine og_icmp_lt (pc1 := 40) (pc2 := 28) X40 hx (hb hby d8_25) (by decide) (by decide) rfl (fun hc25 => ?_) (fun hc25 => ?_)
 ·
  refine og_aloadN X40 hx rfl rfl (hb hby d8_40) rfl ?_
  refine og_iloadN X40 hx rfl (hb hby d8_41) rfl ?_
  refine og_virtual (pc' := 45) (cells' := 0) (slots' := 0) (W := 0) X40 hx hZ (rm_pL3_0 l Z a0 hw a1 ba kb c0 c1 c2 hc0 hc1 hc2 cs hcs fm hfm hsm h0 n0 O E_a1 F_value_a1 F_coder_a1 V_ba S_CS S_FM) hown (ow70 hw) (ow71 hw) (own_nf hZ (ow73 hw)) (ow73 hw) (ow72 hw) (ow7 hw) (ow74 hw) (by decide) (by rw [hml]; rfl) e40 opd_0 [(.int 0)] [] rfl rfl rfl rfl (by decide) (by decide) rfl rfl (by decide) (by decide) E_a1 (hb hby d8_42) rfl (fun v41 T41 h41 L41 X41 e41 z41 => ?_)
  obtain ⟨rfl, Nq41, hq41⟩ := z41; replace e41 := e41.trans hq41; have N := Fr.app N Nq41
  refine og_istore (L' := #[.val (.ref a1), .val (.int (-1)), .val (.int 0), .val (.int c0), .val (.int c0)]) X41 hx rfl (hb hby d8_45) rfl ?_
  refine og_iload X41 hx rfl (hb hby d8_47) rfl ?_
  refine og_static (pc' := 52) (cells' := 0) (slots' := 0) (W := 0) X41 hx hZ (rm_ixc l Z a0 hw c0 h0 n0 O) hown (ow76 hw) (ow77 hw) (ow36 hw) (ow78 hw) (by decide) (by rw [hml]; rfl) e41 opd_19 [(.int c0)] [] rfl rfl rfl rfl (by decide) (by decide) rfl rfl (by decide) (by decide) (hb hby d8_49) rfl (fun v42 T42 h42 L42 X42 e42 z42 => ?_)
  obtain ⟨rb42, rfl, Nq42, hq42, hb42⟩ := z42; replace e42 := e42.trans hq42; have N := Fr.app N Nq42
  refine og_if_ne (pc1 := 58) (pc2 := 55) X42 hx (hb hby d8_52) (by decide) (by decide) rfl (fun hc52 => ?_) (fun hc52 => ?_)
  ·
   have hX := own_b1 hb42 hc52
   refine og_iloadN X42 hx rfl (hb hby d8_58) rfl ?_
   refine og_iload X42 hx rfl (hb hby d8_59) rfl ?_
   refine og_static (pc' := 64) (cells' := 0) (slots' := 0) (W := 1) X42 hx hZ (rm_cct l Z a0 hw c0 h0 n0 O) hown (ow81 hw) (ow82 hw) (ow83 hw) (ow84 hw) (by decide) (by rw [hml]; rfl) e42 opd_0 [(.int c0)] [(.int 0)] rfl rfl rfl rfl (by decide) (by decide) rfl rfl (by decide) (by decide) (hb hby d8_61) rfl (fun v43 T43 h43 L43 X43 e43 z43 => ?_)
   obtain ⟨rc, rfl, Nq43, hq43, hrc⟩ := z43; replace e43 := e43.trans hq43; have N := Fr.app N Nq43
   have hrc : rc = 1 := own_cc1 hrc hc0
   subst hrc
   refine og_iadd X43 hx (hb hby d8_64) rfl ?_
   show OG p e below _ (T43.setTop (mkF m 65 #[.val (.ref a1), .val (.int (-1)), .val (.int 0), .val (.int c0), .val (.int c0)] [(.int 1)]))
   refine og_istoreN (L' := #[.val (.ref a1), .val (.int (-1)), .val (.int 1), .val (.int c0), .val (.int c0)]) X43 hx rfl (hb hby d8_65) rfl ?_
   refine og_goto (pc' := 4) X43 hx (hb hby d8_66) (by decide) (by decide) ?_
   exact J1 T43 _ X43 e43 N _ _ (Or.inr ⟨_, rfl⟩) (Or.inr ⟨_, rfl⟩) ((own_fok (own_nH hsm.1) (own_xk hc0 hX)).symm.trans hr)
  ·
   have hX := own_b0 hb42 hc52
   refine og_iload X42 hx rfl (hb hby d8_55) rfl ?_
   refine og_istoreN (L' := #[.val (.ref a1), .val (.int c0), .val (.int 0), .val (.int c0), .val (.int c0)]) X42 hx rfl (hb hby d8_57) rfl ?_
   refine og_iloadN X42 hx rfl (hb hby d8_58) rfl ?_
   refine og_iload X42 hx rfl (hb hby d8_59) rfl ?_
   refine og_static (pc' := 64) (cells' := 0) (slots' := 0) (W := 1) X42 hx hZ (rm_cct l Z a0 hw c0 h0 n0 O) hown (ow81 hw) (ow82 hw) (ow83 hw) (ow84 hw) (by decide) (by rw [hml]; rfl) e42 opd_0 [(.int c0)] [(.int 0)] rfl rfl rfl rfl (by decide) (by decide) rfl rfl (by decide) (by decide) (hb hby d8_61) rfl (fun v44 T44 h44 L44 X44 e44 z44 => ?_)
   obtain ⟨rc, rfl, Nq44, hq44, hrc⟩ := z44; replace e44 := e44.trans hq44; have N := Fr.app N Nq44
   have hrc : rc = 1 := own_cc1 hrc hc0
   subst hrc
   refine og_iadd X44 hx (hb hby d8_64) rfl ?_
   show OG p e below _ (T44.setTop (mkF m 65 #[.val (.ref a1), .val (.int c0), .val (.int 0), .val (.int c0), .val (.int c0)] [(.int 1)]))
   refine og_istoreN (L' := #[.val (.ref a1), .val (.int c0), .val (.int 1), .val (.int c0), .val (.int c0)]) X44 hx rfl (hb hby d8_65) rfl ?_
   refine og_goto (pc' := 4) X44 hx (hb hby d8_66) (by decide) (by decide) ?_
   refine og_iloadN X44 hx rfl (hb hby d8_4) rfl ?_
   refine og_aloadN X44 hx rfl rfl (hb hby d8_5) rfl ?_
   refine og_virtual (pc' := 9) (cells' := 0) (slots' := 0) (W := 1) X44 hx hZ (rm_len l Z a0 hw a1 ba kb (3 : Int32) _ cs hcs h0 n0 O E_a1 F_value_a1 F_coder_a1 V_ba S_CS) hown (ow38 hw) (ow39 hw) (own_nf hZ (ow41 hw)) (ow41 hw) (ow40 hw) (ow7 hw) (ow42 hw) (by decide) (by rw [hml]; rfl) e44 opd_17 [] [(.int 1)] rfl rfl rfl rfl (by decide) (by decide) rfl rfl (by decide) (by decide) E_a1 (hb hby d8_6) rfl (fun v45 T45 h45 L45 X45 e45 z45 => ?_)
   obtain ⟨rfl, Nq45, hq45⟩ := z45; replace e45 := e45.trans hq45; have N := Fr.app N Nq45
   refine og_icmp_ge (pc1 := 69) (pc2 := 12) X45 hx (hb hby d8_9) (by decide) (by decide) rfl (fun q => absurd q (by decide)) (fun _ => ?_)
   refine og_iloadN X45 hx rfl (hb hby d8_12) rfl ?_
   refine og_if_ge (pc1 := 69) (pc2 := 16) X45 hx (hb hby d8_13) (by decide) (by decide) rfl (fun _ => ?_) (fun q => absurd q (own_nn hc0))
   refine og_iloadN X45 hx rfl (hb hby d8_69) rfl ?_
   refine og_retI X45 hx hlk hret (hb hby d8_70) (by decide) (by decide) ?_
   rw [e45]; exact ⟨by rw [← hr, own_fbad (own_nH hsm.1) (own_kx hc0 hX)], N, rfl⟩
 ·
  refine og_iloadN X40 hx rfl (hb hby d8_28) rfl ?_
  refine og_ldc X40 hx hZ hown (ow100 hw) (hb hby d8_29) rfl ?_
  refine og_icmp_ge (pc1 := 40) (pc2 := 34) X40 hx (hb hby d8_31) (by decide) (by decide) rfl (fun hc31 => ?_) (fun hc31 => ?_)
  ·
   have q25 := own_i2 hc25 (show (32 : Int32).toInt = 32 by decide)
   refine og_aloadN X40 hx rfl rfl (hb hby d8_40) rfl ?_
   refine og_iloadN X40 hx rfl (hb hby d8_41) rfl ?_
   refine og_virtual (pc' := 45) (cells' := 0) (slots' := 0) (W := 0) X40 hx hZ (rm_pL3_0 l Z a0 hw a1 ba kb c0 c1 c2 hc0 hc1 hc2 cs hcs fm hfm hsm h0 n0 O E_a1 F_value_a1 F_coder_a1 V_ba S_CS S_FM) hown (ow70 hw) (ow71 hw) (own_nf hZ (ow73 hw)) (ow73 hw) (ow72 hw) (ow7 hw) (ow74 hw) (by decide) (by rw [hml]; rfl) e40 opd_0 [(.int 0)] [] rfl rfl rfl rfl (by decide) (by decide) rfl rfl (by decide) (by decide) E_a1 (hb hby d8_42) rfl (fun v46 T46 h46 L46 X46 e46 z46 => ?_)
   obtain ⟨rfl, Nq46, hq46⟩ := z46; replace e46 := e46.trans hq46; have N := Fr.app N Nq46
   refine og_istore (L' := #[.val (.ref a1), .val (.int (-1)), .val (.int 0), .val (.int c0), .val (.int c0)]) X46 hx rfl (hb hby d8_45) rfl ?_
   refine og_iload X46 hx rfl (hb hby d8_47) rfl ?_
   refine og_static (pc' := 52) (cells' := 0) (slots' := 0) (W := 0) X46 hx hZ (rm_ixc l Z a0 hw c0 h0 n0 O) hown (ow76 hw) (ow77 hw) (ow36 hw) (ow78 hw) (by decide) (by rw [hml]; rfl) e46 opd_19 [(.int c0)] [] rfl rfl rfl rfl (by decide) (by decide) rfl rfl (by decide) (by decide) (hb hby d8_49) rfl (fun v47 T47 h47 L47 X47 e47 z47 => ?_)
   obtain ⟨rb47, rfl, Nq47, hq47, hb47⟩ := z47; replace e47 := e47.trans hq47; have N := Fr.app N Nq47
   refine og_if_ne (pc1 := 58) (pc2 := 55) X47 hx (hb hby d8_52) (by decide) (by decide) rfl (fun hc52 => ?_) (fun hc52 => ?_)
   ·
    have hX := own_b1 hb47 hc52
    refine og_iloadN X47 hx rfl (hb hby d8_58) rfl ?_
    refine og_iload X47 hx rfl (hb hby d8_59) rfl ?_
    refine og_static (pc' := 64) (cells' := 0) (slots' := 0) (W := 1) X47 hx hZ (rm_cct l Z a0 hw c0 h0 n0 O) hown (ow81 hw) (ow82 hw) (ow83 hw) (ow84 hw) (by decide) (by rw [hml]; rfl) e47 opd_0 [(.int c0)] [(.int 0)] rfl rfl rfl rfl (by decide) (by decide) rfl rfl (by decide) (by decide) (hb hby d8_61) rfl (fun v48 T48 h48 L48 X48 e48 z48 => ?_)
    obtain ⟨rc, rfl, Nq48, hq48, hrc⟩ := z48; replace e48 := e48.trans hq48; have N := Fr.app N Nq48
    have hrc : rc = 1 := own_cc1 hrc hc0
    subst hrc
    refine og_iadd X48 hx (hb hby d8_64) rfl ?_
    show OG p e below _ (T48.setTop (mkF m 65 #[.val (.ref a1), .val (.int (-1)), .val (.int 0), .val (.int c0), .val (.int c0)] [(.int 1)]))
    refine og_istoreN (L' := #[.val (.ref a1), .val (.int (-1)), .val (.int 1), .val (.int c0), .val (.int c0)]) X48 hx rfl (hb hby d8_65) rfl ?_
    refine og_goto (pc' := 4) X48 hx (hb hby d8_66) (by decide) (by decide) ?_
    exact J1 T48 _ X48 e48 N _ _ (Or.inr ⟨_, rfl⟩) (Or.inr ⟨_, rfl⟩) ((own_fok (own_nH hsm.1) (own_xk hc0 hX)).symm.trans hr)
   ·
    have hX := own_b0 hb47 hc52
    refine og_iload X47 hx rfl (hb hby d8_55) rfl ?_
    refine og_istoreN (L' := #[.val (.ref a1), .val (.int c0), .val (.int 0), .val (.int c0), .val (.int c0)]) X47 hx rfl (hb hby d8_57) rfl ?_
    refine og_iloadN X47 hx rfl (hb hby d8_58) rfl ?_
    refine og_iload X47 hx rfl (hb hby d8_59) rfl ?_
    refine og_static (pc' := 64) (cells' := 0) (slots' := 0) (W := 1) X47 hx hZ (rm_cct l Z a0 hw c0 h0 n0 O) hown (ow81 hw) (ow82 hw) (ow83 hw) (ow84 hw) (by decide) (by rw [hml]; rfl) e47 opd_0 [(.int c0)] [(.int 0)] rfl rfl rfl rfl (by decide) (by decide) rfl rfl (by decide) (by decide) (hb hby d8_61) rfl (fun v49 T49 h49 L49 X49 e49 z49 => ?_)
    obtain ⟨rc, rfl, Nq49, hq49, hrc⟩ := z49; replace e49 := e49.trans hq49; have N := Fr.app N Nq49
    have hrc : rc = 1 := own_cc1 hrc hc0
    subst hrc
    refine og_iadd X49 hx (hb hby d8_64) rfl ?_
    show OG p e below _ (T49.setTop (mkF m 65 #[.val (.ref a1), .val (.int c0), .val (.int 0), .val (.int c0), .val (.int c0)] [(.int 1)]))
    refine og_istoreN (L' := #[.val (.ref a1), .val (.int c0), .val (.int 1), .val (.int c0), .val (.int c0)]) X49 hx rfl (hb hby d8_65) rfl ?_
    refine og_goto (pc' := 4) X49 hx (hb hby d8_66) (by decide) (by decide) ?_
    refine og_iloadN X49 hx rfl (hb hby d8_4) rfl ?_
    refine og_aloadN X49 hx rfl rfl (hb hby d8_5) rfl ?_
    refine og_virtual (pc' := 9) (cells' := 0) (slots' := 0) (W := 1) X49 hx hZ (rm_len l Z a0 hw a1 ba kb (3 : Int32) _ cs hcs h0 n0 O E_a1 F_value_a1 F_coder_a1 V_ba S_CS) hown (ow38 hw) (ow39 hw) (own_nf hZ (ow41 hw)) (ow41 hw) (ow40 hw) (ow7 hw) (ow42 hw) (by decide) (by rw [hml]; rfl) e49 opd_17 [] [(.int 1)] rfl rfl rfl rfl (by decide) (by decide) rfl rfl (by decide) (by decide) E_a1 (hb hby d8_6) rfl (fun v50 T50 h50 L50 X50 e50 z50 => ?_)
    obtain ⟨rfl, Nq50, hq50⟩ := z50; replace e50 := e50.trans hq50; have N := Fr.app N Nq50
    refine og_icmp_ge (pc1 := 69) (pc2 := 12) X50 hx (hb hby d8_9) (by decide) (by decide) rfl (fun q => absurd q (by decide)) (fun _ => ?_)
    refine og_iloadN X50 hx rfl (hb hby d8_12) rfl ?_
    refine og_if_ge (pc1 := 69) (pc2 := 16) X50 hx (hb hby d8_13) (by decide) (by decide) rfl (fun _ => ?_) (fun q => absurd q (own_nn hc0))
    refine og_iloadN X50 hx rfl (hb hby d8_69) rfl ?_
    refine og_retI X50 hx hlk hret (hb hby d8_70) (by decide) (by decide) ?_
    rw [e50]; exact ⟨by rw [← hr, own_fbad (own_nH hsm.1) (own_kx hc0 hX)], N, rfl⟩
  ·
   have q25 := own_i2 hc25 (show (32 : Int32).toInt = 32 by decide)
   have q31 := own_i1 hc31 (show (55296 : Int32).toInt = 55296 by decide)
   refine og_iinc (L' := #[.val (.ref a1), .val (.int (-1)), .val (.int 1), .val (.int c0), .unset]) (w := 1) X40 hx rfl rfl rfl (hb hby d8_34) rfl ?_
   refine og_goto (pc' := 66) X40 hx (hb hby d8_37) (by decide) (by decide) ?_
   refine og_goto (pc' := 4) X40 hx (hb hby d8_66) (by decide) (by decide) ?_
   exact J1 T40 _ X40 e40 N _ _ (Or.inr ⟨_, rfl⟩) (Or.inl rfl) ((own_fok (own_nHb q31) (own_okb q25 q31)).symm.trans hr)
theorem rm_fcU3 (l : Launch) (Z : State) (a0 : Array Value) (hw : HW a0 Z) (a1 ba : Addr) (kb : ClassId) (c0 c1 c2 : Int32) (hc0 : 0 ≤ c0.toInt ∧ c0.toInt ≤ 65535) (hc1 : 0 ≤ c1.toInt ∧ c1.toInt ≤ 65535) (hc2 : 0 ≤ c2.toInt ∧ c2.toInt ≤ 65535) (cs : Int32) (hcs : ¬ cs = 0) (fm : Value) (hfm : fm.isRef = true) (r : Int32) (hr : own_fc [c0, c1, c2] = r) (h0 : Heap) (n0 : Nat) (O : Old Z n0 h0) (E_a1 : Exa Z h0 a1 "java/lang/String") (F_value_a1 : Fld Z h0 a1 "java/lang/String" "value" "[B" (.ref ba)) (F_coder_a1 : Fld Z h0 a1 "java/lang/String" "coder" "B" (.int 1)) (V_ba : Arv Z h0 ba kb .byte (6 : Int32) [(.int c0.toInt8.toInt32), (.int (c0 >>> ((8 : Int32) &&& 31)).toInt8.toInt32), (.int c1.toInt8.toInt32), (.int (c1 >>> ((8 : Int32) &&& 31)).toInt8.toInt32), (.int c2.toInt8.toInt32), (.int (c2 >>> ((8 : Int32) &&& 31)).toInt8.toInt32)] (.int 0)) (S_CS : Sta Z Z.heap "java/lang/String" "COMPACT_STRINGS" "Z" (.int cs)) (S_FM : Sta Z Z.heap "jdk/internal/util/Preconditions" "SIOOBE_FORMATTER" "Ljava/util/function/BiFunction;" fm) (S__assertionsDisabled : Sta Z Z.heap "java/lang/StringUTF16" "$assertionsDisabled" "Z" (.int 1)) (S_HI_BYTE_SHIFT : Sta Z Z.heap "java/lang/StringUTF16" "HI_BYTE_SHIFT" "I" (.int 0)) (S_LO_BYTE_SHIFT : Sta Z Z.heap "java/lang/StringUTF16" "LO_BYTE_SHIFT" "I" (.int 8)) :
  Con l Z (⟨"com/example/neith/neith/io/XmlOutput", "forbiddenCharacter", "(Ljava/lang/String;)I"⟩ : MethodName) prog_18_method_3_code 5 (some .int) ({ frames := 5, cells := 0, slots := 0, locals := 66 } : Room) #[(.ref a1)] h0 (fun v h L => v = some (.int r) ∧ Fr n0 L ∧ h = h0) := by
 refine own_startC opn_8 ?_
 intro p e s m below meth c T0 X0 hx hby hml hZ hown hnm hret hlk e0
 have N := Fr.nil n0; have K := Keep.refl h0 []
 refine OG.cast (oef14 m a1) ?_
 refine og_iconst (v := -1) X0 hx rfl (hb hby d8_0) rfl ?_
 refine og_istoreN (L' := #[.val (.ref a1), .val (.int (-1)), .unset, .unset, .unset]) X0 hx rfl (hb hby d8_1) rfl ?_
 refine og_iconst (v := 0) X0 hx rfl (hb hby d8_2) rfl ?_
 refine og_istoreN (L' := #[.val (.ref a1), .val (.int (-1)), .val (.int 0), .unset, .unset]) X0 hx rfl (hb hby d8_3) rfl ?_
 have J3 : ∀ (T11 : State) (l11 : List Loc) (X11 : Stand p l e ({ frames := 5, cells := 0, slots := 0, locals := 66 } : Room) s m #[(.ref a1)] below meth c T11 l11 0 0) (e11 : T11.heap = h0) (N : Fr n0 l11) (x3 x4 : Slot) (hs_x3 : x3 = .unset ∨ ∃ v, x3 = .val (.int v)) (hs_x4 : x4 = .unset ∨ ∃ v, x4 = .val (.int v)) (hr : own_fc [] = r), OG p e below (OFin s (fun v h L => v = some (.int r) ∧ Fr n0 L ∧ h = h0) 0 0) (T11.setTop (mkF m 4 #[.val (.ref a1), .val (.int (-1)), .val (.int 3), x3, x4] [])) := by
  intro T11 l11 X11 e11 N x3 x4 hs_x3 hs_x4 hr
  refine og_iloadN X11 hx rfl (hb hby d8_4) rfl ?_
  refine og_aloadN X11 hx rfl rfl (hb hby d8_5) rfl ?_
  refine og_virtual (pc' := 9) (cells' := 0) (slots' := 0) (W := 1) X11 hx hZ (rm_lenU3 l Z a0 hw a1 ba kb c0 c1 c2 hc0 hc1 hc2 cs hcs h0 n0 O E_a1 F_value_a1 F_coder_a1 V_ba S_CS) hown (ow38 hw) (ow39 hw) (own_nf hZ (ow41 hw)) (ow41 hw) (ow40 hw) (ow7 hw) (ow42 hw) (by decide) (by rw [hml]; rfl) e11 opd_17 [] [(.int 3)] rfl rfl rfl rfl (by decide) (by decide) rfl rfl (by decide) (by decide) E_a1 (hb hby d8_6) rfl (fun v12 T12 h12 L12 X12 e12 z12 => ?_)
  obtain ⟨rfl, Nq12, hq12⟩ := z12; replace e12 := e12.trans hq12; have N := Fr.app N Nq12
  refine og_icmp_ge (pc1 := 69) (pc2 := 12) X12 hx (hb hby d8_9) (by decide) (by decide) rfl (fun _ => ?_) (fun q => absurd q (by decide))
  refine og_iloadN X12 hx rfl (hb hby d8_69) rfl ?_
  refine og_retI X12 hx hlk hret (hb hby d8_70) (by decide) (by decide) ?_
  rw [e12]; exact ⟨by rw [← hr]; rfl, N, rfl⟩
 have J2 : ∀ (T13 : State) (l13 : List Loc) (X13 : Stand p l e ({ frames := 5, cells := 0, slots := 0, locals := 66 } : Room) s m #[(.ref a1)] below meth c T13 l13 0 0) (e13 : T13.heap = h0) (N : Fr n0 l13) (x3 x4 : Slot) (hs_x3 : x3 = .unset ∨ ∃ v, x3 = .val (.int v)) (hs_x4 : x4 = .unset ∨ ∃ v, x4 = .val (.int v)) (hr : own_fc [c2] = r), OG p e below (OFin s (fun v h L => v = some (.int r) ∧ Fr n0 L ∧ h = h0) 0 0) (T13.setTop (mkF m 4 #[.val (.ref a1), .val (.int (-1)), .val (.int 2), x3, x4] [])) := by
  intro T13 l13 X13 e13 N x3 x4 hs_x3 hs_x4 hr
  refine og_iloadN X13 hx rfl (hb hby d8_4) rfl ?_
  refine og_aloadN X13 hx rfl rfl (hb hby d8_5) rfl ?_
  refine og_virtual (pc' := 9) (cells' := 0) (slots' := 0) (W := 1) X13 hx hZ (rm_lenU3 l Z a0 hw a1 ba kb c0 c1 c2 hc0 hc1 hc2 cs hcs h0 n0 O E_a1 F_value_a1 F_coder_a1 V_ba S_CS) hown (ow38 hw) (ow39 hw) (own_nf hZ (ow41 hw)) (ow41 hw) (ow40 hw) (ow7 hw) (ow42 hw) (by decide) (by rw [hml]; rfl) e13 opd_17 [] [(.int 2)] rfl rfl rfl rfl (by decide) (by decide) rfl rfl (by decide) (by decide) E_a1 (hb hby d8_6) rfl (fun v14 T14 h14 L14 X14 e14 z14 => ?_)
  obtain ⟨rfl, Nq14, hq14⟩ := z14; replace e14 := e14.trans hq14; have N := Fr.app N Nq14
  refine og_icmp_ge (pc1 := 69) (pc2 := 12) X14 hx (hb hby d8_9) (by decide) (by decide) rfl (fun q => absurd q (by decide)) (fun _ => ?_)
  refine og_iloadN X14 hx rfl (hb hby d8_12) rfl ?_
  refine og_if_ge (pc1 := 69) (pc2 := 16) X14 hx (hb hby d8_13) (by decide) (by decide) rfl (fun q => absurd q (by decide)) (fun _ => ?_)
  refine og_aloadN X14 hx rfl rfl (hb hby d8_16) rfl ?_
  refine og_iloadN X14 hx rfl (hb hby d8_17) rfl ?_
  refine og_virtual (pc' := 21) (cells' := 0) (slots' := 0) (W := 0) X14 hx hZ (rm_cU3_2 l Z a0 hw a1 ba kb c0 c1 c2 hc0 hc1 hc2 cs hcs fm hfm h0 n0 O E_a1 F_value_a1 F_coder_a1 V_ba S_CS S_FM S__assertionsDisabled S_HI_BYTE_SHIFT S_LO_BYTE_SHIFT) hown (ow48 hw) (ow49 hw) (own_nf hZ (ow51 hw)) (ow51 hw) (ow50 hw) (ow7 hw) (ow52 hw) (by decide) (by rw [hml]; rfl) e14 opd_18 [(.int 2)] [] rfl rfl rfl rfl (by decide) (by decide) rfl rfl (by decide) (by decide) E_a1 (hb hby d8_18) rfl (fun v15 T15 h15 L15 X15 e15 z15 => ?_)
  obtain ⟨rfl, Nq15, hq15⟩ := z15; replace e15 := e15.trans hq15; have N := Fr.app N Nq15
  refine og_istoreN (L' := #[.val (.ref a1), .val (.int (-1)), .val (.int 2), .val (.int c2), x4]) X15 hx (by rcases hs_x3 with rfl | ⟨_, rfl⟩ <;> rfl) (hb hby d8_21) rfl ?_
  refine og_iloadN X15 hx rfl (hb hby d8_22) rfl ?_
  refine og_bipush (v := 32) X15 hx rfl (hb hby d8_23) rfl ?_
  refine og_icmp_lt (pc1 := 40) (pc2 := 28) X15 hx (hb hby d8_25) (by decide) (by decide) rfl (fun hc25 => ?_) (fun hc25 => ?_)
  ·
   refine og_aloadN X15 hx rfl rfl (hb hby d8_40) rfl ?_
   refine og_iloadN X15 hx rfl (hb hby d8_41) rfl ?_
   refine og_virtual (pc' := 45) (cells' := 0) (slots' := 0) (W := 0) X15 hx hZ (rm_pU3_2 l Z a0 hw a1 ba kb c0 c1 c2 hc0 hc1 hc2 cs hcs fm hfm h0 n0 O E_a1 F_value_a1 F_coder_a1 V_ba S_CS S_FM S__assertionsDisabled S_HI_BYTE_SHIFT S_LO_BYTE_SHIFT) hown (ow70 hw) (ow71 hw) (own_nf hZ (ow73 hw)) (ow73 hw) (ow72 hw) (ow7 hw) (ow74 hw) (by decide) (by rw [hml]; rfl) e15 opd_0 [(.int 2)] [] rfl rfl rfl rfl (by decide) (by decide) rfl rfl (by decide) (by decide) E_a1 (hb hby d8_42) rfl (fun v16 T16 h16 L16 X16 e16 z16 => ?_)
   obtain ⟨rp, rfl, Nq16, hq16, hrp⟩ := z16; replace e16 := e16.trans hq16; have N := Fr.app N Nq16
   subst rp
   refine og_istore (L' := #[.val (.ref a1), .val (.int (-1)), .val (.int 2), .val (.int c2), .val (.int c2)]) X16 hx (by rcases hs_x4 with rfl | ⟨_, rfl⟩ <;> rfl) (hb hby d8_45) rfl ?_
   refine og_iload X16 hx rfl (hb hby d8_47) rfl ?_
   refine og_static (pc' := 52) (cells' := 0) (slots' := 0) (W := 0) X16 hx hZ (rm_ixc l Z a0 hw c2 h0 n0 O) hown (ow76 hw) (ow77 hw) (ow36 hw) (ow78 hw) (by decide) (by rw [hml]; rfl) e16 opd_19 [(.int c2)] [] rfl rfl rfl rfl (by decide) (by decide) rfl rfl (by decide) (by decide) (hb hby d8_49) rfl (fun v17 T17 h17 L17 X17 e17 z17 => ?_)
   obtain ⟨rb17, rfl, Nq17, hq17, hb17⟩ := z17; replace e17 := e17.trans hq17; have N := Fr.app N Nq17
   refine og_if_ne (pc1 := 58) (pc2 := 55) X17 hx (hb hby d8_52) (by decide) (by decide) rfl (fun hc52 => ?_) (fun hc52 => ?_)
   ·
    have hX := own_b1 hb17 hc52
    refine og_iloadN X17 hx rfl (hb hby d8_58) rfl ?_
    refine og_iload X17 hx rfl (hb hby d8_59) rfl ?_
    refine og_static (pc' := 64) (cells' := 0) (slots' := 0) (W := 1) X17 hx hZ (rm_cct l Z a0 hw c2 h0 n0 O) hown (ow81 hw) (ow82 hw) (ow83 hw) (ow84 hw) (by decide) (by rw [hml]; rfl) e17 opd_0 [(.int c2)] [(.int 2)] rfl rfl rfl rfl (by decide) (by decide) rfl rfl (by decide) (by decide) (hb hby d8_61) rfl (fun v18 T18 h18 L18 X18 e18 z18 => ?_)
    obtain ⟨rc, rfl, Nq18, hq18, hrc⟩ := z18; replace e18 := e18.trans hq18; have N := Fr.app N Nq18
    have hrc : rc = 1 := own_cc1 hrc hc2
    subst hrc
    refine og_iadd X18 hx (hb hby d8_64) rfl ?_
    show OG p e below _ (T18.setTop (mkF m 65 #[.val (.ref a1), .val (.int (-1)), .val (.int 2), .val (.int c2), .val (.int c2)] [(.int 3)]))
    refine og_istoreN (L' := #[.val (.ref a1), .val (.int (-1)), .val (.int 3), .val (.int c2), .val (.int c2)]) X18 hx rfl (hb hby d8_65) rfl ?_
    refine og_goto (pc' := 4) X18 hx (hb hby d8_66) (by decide) (by decide) ?_
    exact J3 T18 _ X18 e18 N _ _ (Or.inr ⟨_, rfl⟩) (Or.inr ⟨_, rfl⟩) ((own_fok1 (own_xk hc2 hX)).symm.trans hr)
   ·
    have hX := own_b0 hb17 hc52
    refine og_iload X17 hx rfl (hb hby d8_55) rfl ?_
    refine og_istoreN (L' := #[.val (.ref a1), .val (.int c2), .val (.int 2), .val (.int c2), .val (.int c2)]) X17 hx rfl (hb hby d8_57) rfl ?_
    refine og_iloadN X17 hx rfl (hb hby d8_58) rfl ?_
    refine og_iload X17 hx rfl (hb hby d8_59) rfl ?_
    refine og_static (pc' := 64) (cells' := 0) (slots' := 0) (W := 1) X17 hx hZ (rm_cct l Z a0 hw c2 h0 n0 O) hown (ow81 hw) (ow82 hw) (ow83 hw) (ow84 hw) (by decide) (by rw [hml]; rfl) e17 opd_0 [(.int c2)] [(.int 2)] rfl rfl rfl rfl (by decide) (by decide) rfl rfl (by decide) (by decide) (hb hby d8_61) rfl (fun v19 T19 h19 L19 X19 e19 z19 => ?_)
    obtain ⟨rc, rfl, Nq19, hq19, hrc⟩ := z19; replace e19 := e19.trans hq19; have N := Fr.app N Nq19
    have hrc : rc = 1 := own_cc1 hrc hc2
    subst hrc
    refine og_iadd X19 hx (hb hby d8_64) rfl ?_
    show OG p e below _ (T19.setTop (mkF m 65 #[.val (.ref a1), .val (.int c2), .val (.int 2), .val (.int c2), .val (.int c2)] [(.int 3)]))
    refine og_istoreN (L' := #[.val (.ref a1), .val (.int c2), .val (.int 3), .val (.int c2), .val (.int c2)]) X19 hx rfl (hb hby d8_65) rfl ?_
    refine og_goto (pc' := 4) X19 hx (hb hby d8_66) (by decide) (by decide) ?_
    refine og_iloadN X19 hx rfl (hb hby d8_4) rfl ?_
    refine og_aloadN X19 hx rfl rfl (hb hby d8_5) rfl ?_
    refine og_virtual (pc' := 9) (cells' := 0) (slots' := 0) (W := 1) X19 hx hZ (rm_lenU3 l Z a0 hw a1 ba kb c0 c1 c2 hc0 hc1 hc2 cs hcs h0 n0 O E_a1 F_value_a1 F_coder_a1 V_ba S_CS) hown (ow38 hw) (ow39 hw) (own_nf hZ (ow41 hw)) (ow41 hw) (ow40 hw) (ow7 hw) (ow42 hw) (by decide) (by rw [hml]; rfl) e19 opd_17 [] [(.int 3)] rfl rfl rfl rfl (by decide) (by decide) rfl rfl (by decide) (by decide) E_a1 (hb hby d8_6) rfl (fun v20 T20 h20 L20 X20 e20 z20 => ?_)
    obtain ⟨rfl, Nq20, hq20⟩ := z20; replace e20 := e20.trans hq20; have N := Fr.app N Nq20
    refine og_icmp_ge (pc1 := 69) (pc2 := 12) X20 hx (hb hby d8_9) (by decide) (by decide) rfl (fun _ => ?_) (fun q => absurd q (by decide))
    refine og_iloadN X20 hx rfl (hb hby d8_69) rfl ?_
    refine og_retI X20 hx hlk hret (hb hby d8_70) (by decide) (by decide) ?_
    rw [e20]; exact ⟨by rw [← hr, own_fbad1 (own_kx hc2 hX)], N, rfl⟩
  ·
   refine og_iloadN X15 hx rfl (hb hby d8_28) rfl ?_
   refine og_ldc X15 hx hZ hown (ow100 hw) (hb hby d8_29) rfl ?_
   refine og_icmp_ge (pc1 := 40) (pc2 := 34) X15 hx (hb hby d8_31) (by decide) (by decide) rfl (fun hc31 => ?_) (fun hc31 => ?_)
   ·
    have q25 := own_i2 hc25 (show (32 : Int32).toInt = 32 by decide)
    refine og_aloadN X15 hx rfl rfl (hb hby d8_40) rfl ?_
    refine og_iloadN X15 hx rfl (hb hby d8_41) rfl ?_
    refine og_virtual (pc' := 45) (cells' := 0) (slots' := 0) (W := 0) X15 hx hZ (rm_pU3_2 l Z a0 hw a1 ba kb c0 c1 c2 hc0 hc1 hc2 cs hcs fm hfm h0 n0 O E_a1 F_value_a1 F_coder_a1 V_ba S_CS S_FM S__assertionsDisabled S_HI_BYTE_SHIFT S_LO_BYTE_SHIFT) hown (ow70 hw) (ow71 hw) (own_nf hZ (ow73 hw)) (ow73 hw) (ow72 hw) (ow7 hw) (ow74 hw) (by decide) (by rw [hml]; rfl) e15 opd_0 [(.int 2)] [] rfl rfl rfl rfl (by decide) (by decide) rfl rfl (by decide) (by decide) E_a1 (hb hby d8_42) rfl (fun v21 T21 h21 L21 X21 e21 z21 => ?_)
    obtain ⟨rp, rfl, Nq21, hq21, hrp⟩ := z21; replace e21 := e21.trans hq21; have N := Fr.app N Nq21
    subst rp
    refine og_istore (L' := #[.val (.ref a1), .val (.int (-1)), .val (.int 2), .val (.int c2), .val (.int c2)]) X21 hx (by rcases hs_x4 with rfl | ⟨_, rfl⟩ <;> rfl) (hb hby d8_45) rfl ?_
    refine og_iload X21 hx rfl (hb hby d8_47) rfl ?_
    refine og_static (pc' := 52) (cells' := 0) (slots' := 0) (W := 0) X21 hx hZ (rm_ixc l Z a0 hw c2 h0 n0 O) hown (ow76 hw) (ow77 hw) (ow36 hw) (ow78 hw) (by decide) (by rw [hml]; rfl) e21 opd_19 [(.int c2)] [] rfl rfl rfl rfl (by decide) (by decide) rfl rfl (by decide) (by decide) (hb hby d8_49) rfl (fun v22 T22 h22 L22 X22 e22 z22 => ?_)
    obtain ⟨rb22, rfl, Nq22, hq22, hb22⟩ := z22; replace e22 := e22.trans hq22; have N := Fr.app N Nq22
    refine og_if_ne (pc1 := 58) (pc2 := 55) X22 hx (hb hby d8_52) (by decide) (by decide) rfl (fun hc52 => ?_) (fun hc52 => ?_)
    ·
     have hX := own_b1 hb22 hc52
     refine og_iloadN X22 hx rfl (hb hby d8_58) rfl ?_
     refine og_iload X22 hx rfl (hb hby d8_59) rfl ?_
     refine og_static (pc' := 64) (cells' := 0) (slots' := 0) (W := 1) X22 hx hZ (rm_cct l Z a0 hw c2 h0 n0 O) hown (ow81 hw) (ow82 hw) (ow83 hw) (ow84 hw) (by decide) (by rw [hml]; rfl) e22 opd_0 [(.int c2)] [(.int 2)] rfl rfl rfl rfl (by decide) (by decide) rfl rfl (by decide) (by decide) (hb hby d8_61) rfl (fun v23 T23 h23 L23 X23 e23 z23 => ?_)
     obtain ⟨rc, rfl, Nq23, hq23, hrc⟩ := z23; replace e23 := e23.trans hq23; have N := Fr.app N Nq23
     have hrc : rc = 1 := own_cc1 hrc hc2
     subst hrc
     refine og_iadd X23 hx (hb hby d8_64) rfl ?_
     show OG p e below _ (T23.setTop (mkF m 65 #[.val (.ref a1), .val (.int (-1)), .val (.int 2), .val (.int c2), .val (.int c2)] [(.int 3)]))
     refine og_istoreN (L' := #[.val (.ref a1), .val (.int (-1)), .val (.int 3), .val (.int c2), .val (.int c2)]) X23 hx rfl (hb hby d8_65) rfl ?_
     refine og_goto (pc' := 4) X23 hx (hb hby d8_66) (by decide) (by decide) ?_
     exact J3 T23 _ X23 e23 N _ _ (Or.inr ⟨_, rfl⟩) (Or.inr ⟨_, rfl⟩) ((own_fok1 (own_xk hc2 hX)).symm.trans hr)
    ·
     have hX := own_b0 hb22 hc52
     refine og_iload X22 hx rfl (hb hby d8_55) rfl ?_
     refine og_istoreN (L' := #[.val (.ref a1), .val (.int c2), .val (.int 2), .val (.int c2), .val (.int c2)]) X22 hx rfl (hb hby d8_57) rfl ?_
     refine og_iloadN X22 hx rfl (hb hby d8_58) rfl ?_
     refine og_iload X22 hx rfl (hb hby d8_59) rfl ?_
     refine og_static (pc' := 64) (cells' := 0) (slots' := 0) (W := 1) X22 hx hZ (rm_cct l Z a0 hw c2 h0 n0 O) hown (ow81 hw) (ow82 hw) (ow83 hw) (ow84 hw) (by decide) (by rw [hml]; rfl) e22 opd_0 [(.int c2)] [(.int 2)] rfl rfl rfl rfl (by decide) (by decide) rfl rfl (by decide) (by decide) (hb hby d8_61) rfl (fun v24 T24 h24 L24 X24 e24 z24 => ?_)
     obtain ⟨rc, rfl, Nq24, hq24, hrc⟩ := z24; replace e24 := e24.trans hq24; have N := Fr.app N Nq24
     have hrc : rc = 1 := own_cc1 hrc hc2
     subst hrc
     refine og_iadd X24 hx (hb hby d8_64) rfl ?_
     show OG p e below _ (T24.setTop (mkF m 65 #[.val (.ref a1), .val (.int c2), .val (.int 2), .val (.int c2), .val (.int c2)] [(.int 3)]))
     refine og_istoreN (L' := #[.val (.ref a1), .val (.int c2), .val (.int 3), .val (.int c2), .val (.int c2)]) X24 hx rfl (hb hby d8_65) rfl ?_
     refine og_goto (pc' := 4) X24 hx (hb hby d8_66) (by decide) (by decide) ?_
     refine og_iloadN X24 hx rfl (hb hby d8_4) rfl ?_
     refine og_aloadN X24 hx rfl rfl (hb hby d8_5) rfl ?_
     refine og_virtual (pc' := 9) (cells' := 0) (slots' := 0) (W := 1) X24 hx hZ (rm_lenU3 l Z a0 hw a1 ba kb c0 c1 c2 hc0 hc1 hc2 cs hcs h0 n0 O E_a1 F_value_a1 F_coder_a1 V_ba S_CS) hown (ow38 hw) (ow39 hw) (own_nf hZ (ow41 hw)) (ow41 hw) (ow40 hw) (ow7 hw) (ow42 hw) (by decide) (by rw [hml]; rfl) e24 opd_17 [] [(.int 3)] rfl rfl rfl rfl (by decide) (by decide) rfl rfl (by decide) (by decide) E_a1 (hb hby d8_6) rfl (fun v25 T25 h25 L25 X25 e25 z25 => ?_)
     obtain ⟨rfl, Nq25, hq25⟩ := z25; replace e25 := e25.trans hq25; have N := Fr.app N Nq25
     refine og_icmp_ge (pc1 := 69) (pc2 := 12) X25 hx (hb hby d8_9) (by decide) (by decide) rfl (fun _ => ?_) (fun q => absurd q (by decide))
     refine og_iloadN X25 hx rfl (hb hby d8_69) rfl ?_
     refine og_retI X25 hx hlk hret (hb hby d8_70) (by decide) (by decide) ?_
     rw [e25]; exact ⟨by rw [← hr, own_fbad1 (own_kx hc2 hX)], N, rfl⟩
   ·
    have q25 := own_i2 hc25 (show (32 : Int32).toInt = 32 by decide)
    have q31 := own_i1 hc31 (show (55296 : Int32).toInt = 55296 by decide)
    refine og_iinc (L' := #[.val (.ref a1), .val (.int (-1)), .val (.int 3), .val (.int c2), x4]) (w := 1) X15 hx rfl rfl rfl (hb hby d8_34) rfl ?_
    refine og_goto (pc' := 66) X15 hx (hb hby d8_37) (by decide) (by decide) ?_
    refine og_goto (pc' := 4) X15 hx (hb hby d8_66) (by decide) (by decide) ?_
    exact J3 T15 _ X15 e15 N _ _ (Or.inr ⟨_, rfl⟩) hs_x4 ((own_fok1 (own_okb q25 q31)).symm.trans hr)
 have J1 : ∀ (T26 : State) (l26 : List Loc) (X26 : Stand p l e ({ frames := 5, cells := 0, slots := 0, locals := 66 } : Room) s m #[(.ref a1)] below meth c T26 l26 0 0) (e26 : T26.heap = h0) (N : Fr n0 l26) (x3 x4 : Slot) (hs_x3 : x3 = .unset ∨ ∃ v, x3 = .val (.int v)) (hs_x4 : x4 = .unset ∨ ∃ v, x4 = .val (.int v)) (hr : own_fc [c1, c2] = r), OG p e below (OFin s (fun v h L => v = some (.int r) ∧ Fr n0 L ∧ h = h0) 0 0) (T26.setTop (mkF m 4 #[.val (.ref a1), .val (.int (-1)), .val (.int 1), x3, x4] [])) := by
  intro T26 l26 X26 e26 N x3 x4 hs_x3 hs_x4 hr
  refine og_iloadN X26 hx rfl (hb hby d8_4) rfl ?_
  refine og_aloadN X26 hx rfl rfl (hb hby d8_5) rfl ?_
  refine og_virtual (pc' := 9) (cells' := 0) (slots' := 0) (W := 1) X26 hx hZ (rm_lenU3 l Z a0 hw a1 ba kb c0 c1 c2 hc0 hc1 hc2 cs hcs h0 n0 O E_a1 F_value_a1 F_coder_a1 V_ba S_CS) hown (ow38 hw) (ow39 hw) (own_nf hZ (ow41 hw)) (ow41 hw) (ow40 hw) (ow7 hw) (ow42 hw) (by decide) (by rw [hml]; rfl) e26 opd_17 [] [(.int 1)] rfl rfl rfl rfl (by decide) (by decide) rfl rfl (by decide) (by decide) E_a1 (hb hby d8_6) rfl (fun v27 T27 h27 L27 X27 e27 z27 => ?_)
  obtain ⟨rfl, Nq27, hq27⟩ := z27; replace e27 := e27.trans hq27; have N := Fr.app N Nq27
  refine og_icmp_ge (pc1 := 69) (pc2 := 12) X27 hx (hb hby d8_9) (by decide) (by decide) rfl (fun q => absurd q (by decide)) (fun _ => ?_)
  refine og_iloadN X27 hx rfl (hb hby d8_12) rfl ?_
  refine og_if_ge (pc1 := 69) (pc2 := 16) X27 hx (hb hby d8_13) (by decide) (by decide) rfl (fun q => absurd q (by decide)) (fun _ => ?_)
  refine og_aloadN X27 hx rfl rfl (hb hby d8_16) rfl ?_
  refine og_iloadN X27 hx rfl (hb hby d8_17) rfl ?_
  refine og_virtual (pc' := 21) (cells' := 0) (slots' := 0) (W := 0) X27 hx hZ (rm_cU3_1 l Z a0 hw a1 ba kb c0 c1 c2 hc0 hc1 hc2 cs hcs fm hfm h0 n0 O E_a1 F_value_a1 F_coder_a1 V_ba S_CS S_FM S__assertionsDisabled S_HI_BYTE_SHIFT S_LO_BYTE_SHIFT) hown (ow48 hw) (ow49 hw) (own_nf hZ (ow51 hw)) (ow51 hw) (ow50 hw) (ow7 hw) (ow52 hw) (by decide) (by rw [hml]; rfl) e27 opd_18 [(.int 1)] [] rfl rfl rfl rfl (by decide) (by decide) rfl rfl (by decide) (by decide) E_a1 (hb hby d8_18) rfl (fun v28 T28 h28 L28 X28 e28 z28 => ?_)
  obtain ⟨rfl, Nq28, hq28⟩ := z28; replace e28 := e28.trans hq28; have N := Fr.app N Nq28
  refine og_istoreN (L' := #[.val (.ref a1), .val (.int (-1)), .val (.int 1), .val (.int c1), x4]) X28 hx (by rcases hs_x3 with rfl | ⟨_, rfl⟩ <;> rfl) (hb hby d8_21) rfl ?_
  refine og_iloadN X28 hx rfl (hb hby d8_22) rfl ?_
  refine og_bipush (v := 32) X28 hx rfl (hb hby d8_23) rfl ?_
  refine og_icmp_lt (pc1 := 40) (pc2 := 28) X28 hx (hb hby d8_25) (by decide) (by decide) rfl (fun hc25 => ?_) (fun hc25 => ?_)
  ·
   refine og_aloadN X28 hx rfl rfl (hb hby d8_40) rfl ?_
   refine og_iloadN X28 hx rfl (hb hby d8_41) rfl ?_
   refine og_virtual (pc' := 45) (cells' := 0) (slots' := 0) (W := 0) X28 hx hZ (rm_pU3_1 l Z a0 hw a1 ba kb c0 c1 c2 hc0 hc1 hc2 cs hcs fm hfm h0 n0 O E_a1 F_value_a1 F_coder_a1 V_ba S_CS S_FM S__assertionsDisabled S_HI_BYTE_SHIFT S_LO_BYTE_SHIFT) hown (ow70 hw) (ow71 hw) (own_nf hZ (ow73 hw)) (ow73 hw) (ow72 hw) (ow7 hw) (ow74 hw) (by decide) (by rw [hml]; rfl) e28 opd_0 [(.int 1)] [] rfl rfl rfl rfl (by decide) (by decide) rfl rfl (by decide) (by decide) E_a1 (hb hby d8_42) rfl (fun v29 T29 h29 L29 X29 e29 z29 => ?_)
   obtain ⟨rp, rfl, Nq29, hq29, hrp⟩ := z29; replace e29 := e29.trans hq29; have N := Fr.app N Nq29
   rcases hrp with ⟨hrp, hnp⟩ | ⟨hrp, hH, hL⟩
   ·
    subst rp
    refine og_istore (L' := #[.val (.ref a1), .val (.int (-1)), .val (.int 1), .val (.int c1), .val (.int c1)]) X29 hx (by rcases hs_x4 with rfl | ⟨_, rfl⟩ <;> rfl) (hb hby d8_45) rfl ?_
    refine og_iload X29 hx rfl (hb hby d8_47) rfl ?_
    refine og_static (pc' := 52) (cells' := 0) (slots' := 0) (W := 0) X29 hx hZ (rm_ixc l Z a0 hw c1 h0 n0 O) hown (ow76 hw) (ow77 hw) (ow36 hw) (ow78 hw) (by decide) (by rw [hml]; rfl) e29 opd_19 [(.int c1)] [] rfl rfl rfl rfl (by decide) (by decide) rfl rfl (by decide) (by decide) (hb hby d8_49) rfl (fun v30 T30 h30 L30 X30 e30 z30 => ?_)
    obtain ⟨rb30, rfl, Nq30, hq30, hb30⟩ := z30; replace e30 := e30.trans hq30; have N := Fr.app N Nq30
    refine og_if_ne (pc1 := 58) (pc2 := 55) X30 hx (hb hby d8_52) (by decide) (by decide) rfl (fun hc52 => ?_) (fun hc52 => ?_)
    ·
     have hX := own_b1 hb30 hc52
     refine og_iloadN X30 hx rfl (hb hby d8_58) rfl ?_
     refine og_iload X30 hx rfl (hb hby d8_59) rfl ?_
     refine og_static (pc' := 64) (cells' := 0) (slots' := 0) (W := 1) X30 hx hZ (rm_cct l Z a0 hw c1 h0 n0 O) hown (ow81 hw) (ow82 hw) (ow83 hw) (ow84 hw) (by decide) (by rw [hml]; rfl) e30 opd_0 [(.int c1)] [(.int 1)] rfl rfl rfl rfl (by decide) (by decide) rfl rfl (by decide) (by decide) (hb hby d8_61) rfl (fun v31 T31 h31 L31 X31 e31 z31 => ?_)
     obtain ⟨rc, rfl, Nq31, hq31, hrc⟩ := z31; replace e31 := e31.trans hq31; have N := Fr.app N Nq31
     have hrc : rc = 1 := own_cc1 hrc hc1
     subst hrc
     refine og_iadd X31 hx (hb hby d8_64) rfl ?_
     show OG p e below _ (T31.setTop (mkF m 65 #[.val (.ref a1), .val (.int (-1)), .val (.int 1), .val (.int c1), .val (.int c1)] [(.int 2)]))
     refine og_istoreN (L' := #[.val (.ref a1), .val (.int (-1)), .val (.int 2), .val (.int c1), .val (.int c1)]) X31 hx rfl (hb hby d8_65) rfl ?_
     refine og_goto (pc' := 4) X31 hx (hb hby d8_66) (by decide) (by decide) ?_
     exact J2 T31 _ X31 e31 N _ _ (Or.inr ⟨_, rfl⟩) (Or.inr ⟨_, rfl⟩) ((own_fok hnp (own_xk hc1 hX)).symm.trans hr)
    ·
     have hX := own_b0 hb30 hc52
     refine og_iload X30 hx rfl (hb hby d8_55) rfl ?_
     refine og_istoreN (L' := #[.val (.ref a1), .val (.int c1), .val (.int 1), .val (.int c1), .val (.int c1)]) X30 hx rfl (hb hby d8_57) rfl ?_
     refine og_iloadN X30 hx rfl (hb hby d8_58) rfl ?_
     refine og_iload X30 hx rfl (hb hby d8_59) rfl ?_
     refine og_static (pc' := 64) (cells' := 0) (slots' := 0) (W := 1) X30 hx hZ (rm_cct l Z a0 hw c1 h0 n0 O) hown (ow81 hw) (ow82 hw) (ow83 hw) (ow84 hw) (by decide) (by rw [hml]; rfl) e30 opd_0 [(.int c1)] [(.int 1)] rfl rfl rfl rfl (by decide) (by decide) rfl rfl (by decide) (by decide) (hb hby d8_61) rfl (fun v32 T32 h32 L32 X32 e32 z32 => ?_)
     obtain ⟨rc, rfl, Nq32, hq32, hrc⟩ := z32; replace e32 := e32.trans hq32; have N := Fr.app N Nq32
     have hrc : rc = 1 := own_cc1 hrc hc1
     subst hrc
     refine og_iadd X32 hx (hb hby d8_64) rfl ?_
     show OG p e below _ (T32.setTop (mkF m 65 #[.val (.ref a1), .val (.int c1), .val (.int 1), .val (.int c1), .val (.int c1)] [(.int 2)]))
     refine og_istoreN (L' := #[.val (.ref a1), .val (.int c1), .val (.int 2), .val (.int c1), .val (.int c1)]) X32 hx rfl (hb hby d8_65) rfl ?_
     refine og_goto (pc' := 4) X32 hx (hb hby d8_66) (by decide) (by decide) ?_
     refine og_iloadN X32 hx rfl (hb hby d8_4) rfl ?_
     refine og_aloadN X32 hx rfl rfl (hb hby d8_5) rfl ?_
     refine og_virtual (pc' := 9) (cells' := 0) (slots' := 0) (W := 1) X32 hx hZ (rm_lenU3 l Z a0 hw a1 ba kb c0 c1 c2 hc0 hc1 hc2 cs hcs h0 n0 O E_a1 F_value_a1 F_coder_a1 V_ba S_CS) hown (ow38 hw) (ow39 hw) (own_nf hZ (ow41 hw)) (ow41 hw) (ow40 hw) (ow7 hw) (ow42 hw) (by decide) (by rw [hml]; rfl) e32 opd_17 [] [(.int 2)] rfl rfl rfl rfl (by decide) (by decide) rfl rfl (by decide) (by decide) E_a1 (hb hby d8_6) rfl (fun v33 T33 h33 L33 X33 e33 z33 => ?_)
     obtain ⟨rfl, Nq33, hq33⟩ := z33; replace e33 := e33.trans hq33; have N := Fr.app N Nq33
     refine og_icmp_ge (pc1 := 69) (pc2 := 12) X33 hx (hb hby d8_9) (by decide) (by decide) rfl (fun q => absurd q (by decide)) (fun _ => ?_)
     refine og_iloadN X33 hx rfl (hb hby d8_12) rfl ?_
     refine og_if_ge (pc1 := 69) (pc2 := 16) X33 hx (hb hby d8_13) (by decide) (by decide) rfl (fun _ => ?_) (fun q => absurd q (own_nn hc1))
     refine og_iloadN X33 hx rfl (hb hby d8_69) rfl ?_
     refine og_retI X33 hx hlk hret (hb hby d8_70) (by decide) (by decide) ?_
     rw [e33]; exact ⟨by rw [← hr, own_fbad hnp (own_kx hc1 hX)], N, rfl⟩
   ·
    subst rp
    refine og_istore (L' := #[.val (.ref a1), .val (.int (-1)), .val (.int 1), .val (.int c1), .val (.int (own_tp c1 c2))]) X29 hx (by rcases hs_x4 with rfl | ⟨_, rfl⟩ <;> rfl) (hb hby d8_45) rfl ?_
    refine og_iload X29 hx rfl (hb hby d8_47) rfl ?_
    refine og_static (pc' := 52) (cells' := 0) (slots' := 0) (W := 0) X29 hx hZ (rm_ixc l Z a0 hw (own_tp c1 c2) h0 n0 O) hown (ow76 hw) (ow77 hw) (ow36 hw) (ow78 hw) (by decide) (by rw [hml]; rfl) e29 opd_19 [(.int (own_tp c1 c2))] [] rfl rfl rfl rfl (by decide) (by decide) rfl rfl (by decide) (by decide) (hb hby d8_49) rfl (fun v34 T34 h34 L34 X34 e34 z34 => ?_)
    obtain ⟨rb34, rfl, Nq34, hq34, hb34⟩ := z34; replace e34 := e34.trans hq34; have N := Fr.app N Nq34
    refine og_if_ne (pc1 := 58) (pc2 := 55) X34 hx (hb hby d8_52) (by decide) (by decide) rfl (fun hc52 => ?_) (fun hc52 => ?_)
    ·
     have hX := own_b1 hb34 hc52
     refine og_iloadN X34 hx rfl (hb hby d8_58) rfl ?_
     refine og_iload X34 hx rfl (hb hby d8_59) rfl ?_
     refine og_static (pc' := 64) (cells' := 0) (slots' := 0) (W := 1) X34 hx hZ (rm_cct l Z a0 hw (own_tp c1 c2) h0 n0 O) hown (ow81 hw) (ow82 hw) (ow83 hw) (ow84 hw) (by decide) (by rw [hml]; rfl) e34 opd_0 [(.int (own_tp c1 c2))] [(.int 1)] rfl rfl rfl rfl (by decide) (by decide) rfl rfl (by decide) (by decide) (hb hby d8_61) rfl (fun v35 T35 h35 L35 X35 e35 z35 => ?_)
     obtain ⟨rc, rfl, Nq35, hq35, hrc⟩ := z35; replace e35 := e35.trans hq35; have N := Fr.app N Nq35
     have hrc : rc = 2 := own_cc2 hrc (own_tpb hH hL)
     subst hrc
     refine og_iadd X35 hx (hb hby d8_64) rfl ?_
     show OG p e below _ (T35.setTop (mkF m 65 #[.val (.ref a1), .val (.int (-1)), .val (.int 1), .val (.int c1), .val (.int (own_tp c1 c2))] [(.int 3)]))
     refine og_istoreN (L' := #[.val (.ref a1), .val (.int (-1)), .val (.int 3), .val (.int c1), .val (.int (own_tp c1 c2))]) X35 hx rfl (hb hby d8_65) rfl ?_
     refine og_goto (pc' := 4) X35 hx (hb hby d8_66) (by decide) (by decide) ?_
     exact J3 T35 _ X35 e35 N _ _ (Or.inr ⟨_, rfl⟩) (Or.inr ⟨_, rfl⟩) ((own_fpair hH hL).symm.trans hr)
    ·
     have hX := own_b0 hb34 hc52
     exact absurd (own_xtp hH hL) hX
  ·
   refine og_iloadN X28 hx rfl (hb hby d8_28) rfl ?_
   refine og_ldc X28 hx hZ hown (ow100 hw) (hb hby d8_29) rfl ?_
   refine og_icmp_ge (pc1 := 40) (pc2 := 34) X28 hx (hb hby d8_31) (by decide) (by decide) rfl (fun hc31 => ?_) (fun hc31 => ?_)
   ·
    have q25 := own_i2 hc25 (show (32 : Int32).toInt = 32 by decide)
    refine og_aloadN X28 hx rfl rfl (hb hby d8_40) rfl ?_
    refine og_iloadN X28 hx rfl (hb hby d8_41) rfl ?_
    refine og_virtual (pc' := 45) (cells' := 0) (slots' := 0) (W := 0) X28 hx hZ (rm_pU3_1 l Z a0 hw a1 ba kb c0 c1 c2 hc0 hc1 hc2 cs hcs fm hfm h0 n0 O E_a1 F_value_a1 F_coder_a1 V_ba S_CS S_FM S__assertionsDisabled S_HI_BYTE_SHIFT S_LO_BYTE_SHIFT) hown (ow70 hw) (ow71 hw) (own_nf hZ (ow73 hw)) (ow73 hw) (ow72 hw) (ow7 hw) (ow74 hw) (by decide) (by rw [hml]; rfl) e28 opd_0 [(.int 1)] [] rfl rfl rfl rfl (by decide) (by decide) rfl rfl (by decide) (by decide) E_a1 (hb hby d8_42) rfl (fun v36 T36 h36 L36 X36 e36 z36 => ?_)
    obtain ⟨rp, rfl, Nq36, hq36, hrp⟩ := z36; replace e36 := e36.trans hq36; have N := Fr.app N Nq36
    rcases hrp with ⟨hrp, hnp⟩ | ⟨hrp, hH, hL⟩
    ·
     subst rp
     refine og_istore (L' := #[.val (.ref a1), .val (.int (-1)), .val (.int 1), .val (.int c1), .val (.int c1)]) X36 hx (by rcases hs_x4 with rfl | ⟨_, rfl⟩ <;> rfl) (hb hby d8_45) rfl ?_
     refine og_iload X36 hx rfl (hb hby d8_47) rfl ?_
     refine og_static (pc' := 52) (cells' := 0) (slots' := 0) (W := 0) X36 hx hZ (rm_ixc l Z a0 hw c1 h0 n0 O) hown (ow76 hw) (ow77 hw) (ow36 hw) (ow78 hw) (by decide) (by rw [hml]; rfl) e36 opd_19 [(.int c1)] [] rfl rfl rfl rfl (by decide) (by decide) rfl rfl (by decide) (by decide) (hb hby d8_49) rfl (fun v37 T37 h37 L37 X37 e37 z37 => ?_)
     obtain ⟨rb37, rfl, Nq37, hq37, hb37⟩ := z37; replace e37 := e37.trans hq37; have N := Fr.app N Nq37
     refine og_if_ne (pc1 := 58) (pc2 := 55) X37 hx (hb hby d8_52) (by decide) (by decide) rfl (fun hc52 => ?_) (fun hc52 => ?_)
     ·
      have hX := own_b1 hb37 hc52
      refine og_iloadN X37 hx rfl (hb hby d8_58) rfl ?_
      refine og_iload X37 hx rfl (hb hby d8_59) rfl ?_
      refine og_static (pc' := 64) (cells' := 0) (slots' := 0) (W := 1) X37 hx hZ (rm_cct l Z a0 hw c1 h0 n0 O) hown (ow81 hw) (ow82 hw) (ow83 hw) (ow84 hw) (by decide) (by rw [hml]; rfl) e37 opd_0 [(.int c1)] [(.int 1)] rfl rfl rfl rfl (by decide) (by decide) rfl rfl (by decide) (by decide) (hb hby d8_61) rfl (fun v38 T38 h38 L38 X38 e38 z38 => ?_)
      obtain ⟨rc, rfl, Nq38, hq38, hrc⟩ := z38; replace e38 := e38.trans hq38; have N := Fr.app N Nq38
      have hrc : rc = 1 := own_cc1 hrc hc1
      subst hrc
      refine og_iadd X38 hx (hb hby d8_64) rfl ?_
      show OG p e below _ (T38.setTop (mkF m 65 #[.val (.ref a1), .val (.int (-1)), .val (.int 1), .val (.int c1), .val (.int c1)] [(.int 2)]))
      refine og_istoreN (L' := #[.val (.ref a1), .val (.int (-1)), .val (.int 2), .val (.int c1), .val (.int c1)]) X38 hx rfl (hb hby d8_65) rfl ?_
      refine og_goto (pc' := 4) X38 hx (hb hby d8_66) (by decide) (by decide) ?_
      exact J2 T38 _ X38 e38 N _ _ (Or.inr ⟨_, rfl⟩) (Or.inr ⟨_, rfl⟩) ((own_fok hnp (own_xk hc1 hX)).symm.trans hr)
     ·
      have hX := own_b0 hb37 hc52
      refine og_iload X37 hx rfl (hb hby d8_55) rfl ?_
      refine og_istoreN (L' := #[.val (.ref a1), .val (.int c1), .val (.int 1), .val (.int c1), .val (.int c1)]) X37 hx rfl (hb hby d8_57) rfl ?_
      refine og_iloadN X37 hx rfl (hb hby d8_58) rfl ?_
      refine og_iload X37 hx rfl (hb hby d8_59) rfl ?_
      refine og_static (pc' := 64) (cells' := 0) (slots' := 0) (W := 1) X37 hx hZ (rm_cct l Z a0 hw c1 h0 n0 O) hown (ow81 hw) (ow82 hw) (ow83 hw) (ow84 hw) (by decide) (by rw [hml]; rfl) e37 opd_0 [(.int c1)] [(.int 1)] rfl rfl rfl rfl (by decide) (by decide) rfl rfl (by decide) (by decide) (hb hby d8_61) rfl (fun v39 T39 h39 L39 X39 e39 z39 => ?_)
      obtain ⟨rc, rfl, Nq39, hq39, hrc⟩ := z39; replace e39 := e39.trans hq39; have N := Fr.app N Nq39
      have hrc : rc = 1 := own_cc1 hrc hc1
      subst hrc
      refine og_iadd X39 hx (hb hby d8_64) rfl ?_
      show OG p e below _ (T39.setTop (mkF m 65 #[.val (.ref a1), .val (.int c1), .val (.int 1), .val (.int c1), .val (.int c1)] [(.int 2)]))
      refine og_istoreN (L' := #[.val (.ref a1), .val (.int c1), .val (.int 2), .val (.int c1), .val (.int c1)]) X39 hx rfl (hb hby d8_65) rfl ?_
      refine og_goto (pc' := 4) X39 hx (hb hby d8_66) (by decide) (by decide) ?_
      refine og_iloadN X39 hx rfl (hb hby d8_4) rfl ?_
      refine og_aloadN X39 hx rfl rfl (hb hby d8_5) rfl ?_
      refine og_virtual (pc' := 9) (cells' := 0) (slots' := 0) (W := 1) X39 hx hZ (rm_lenU3 l Z a0 hw a1 ba kb c0 c1 c2 hc0 hc1 hc2 cs hcs h0 n0 O E_a1 F_value_a1 F_coder_a1 V_ba S_CS) hown (ow38 hw) (ow39 hw) (own_nf hZ (ow41 hw)) (ow41 hw) (ow40 hw) (ow7 hw) (ow42 hw) (by decide) (by rw [hml]; rfl) e39 opd_17 [] [(.int 2)] rfl rfl rfl rfl (by decide) (by decide) rfl rfl (by decide) (by decide) E_a1 (hb hby d8_6) rfl (fun v40 T40 h40 L40 X40 e40 z40 => ?_)
      obtain ⟨rfl, Nq40, hq40⟩ := z40; replace e40 := e40.trans hq40; have N := Fr.app N Nq40
      refine og_icmp_ge (pc1 := 69) (pc2 := 12) X40 hx (hb hby d8_9) (by decide) (by decide) rfl (fun q => absurd q (by decide)) (fun _ => ?_)
      refine og_iloadN X40 hx rfl (hb hby d8_12) rfl ?_
      refine og_if_ge (pc1 := 69) (pc2 := 16) X40 hx (hb hby d8_13) (by decide) (by decide) rfl (fun _ => ?_) (fun q => absurd q (own_nn hc1))
      refine og_iloadN X40 hx rfl (hb hby d8_69) rfl ?_
      refine og_retI X40 hx hlk hret (hb hby d8_70) (by decide) (by decide) ?_
      rw [e40]; exact ⟨by rw [← hr, own_fbad hnp (own_kx hc1 hX)], N, rfl⟩
    ·
     subst rp
     refine og_istore (L' := #[.val (.ref a1), .val (.int (-1)), .val (.int 1), .val (.int c1), .val (.int (own_tp c1 c2))]) X36 hx (by rcases hs_x4 with rfl | ⟨_, rfl⟩ <;> rfl) (hb hby d8_45) rfl ?_
     refine og_iload X36 hx rfl (hb hby d8_47) rfl ?_
     refine og_static (pc' := 52) (cells' := 0) (slots' := 0) (W := 0) X36 hx hZ (rm_ixc l Z a0 hw (own_tp c1 c2) h0 n0 O) hown (ow76 hw) (ow77 hw) (ow36 hw) (ow78 hw) (by decide) (by rw [hml]; rfl) e36 opd_19 [(.int (own_tp c1 c2))] [] rfl rfl rfl rfl (by decide) (by decide) rfl rfl (by decide) (by decide) (hb hby d8_49) rfl (fun v41 T41 h41 L41 X41 e41 z41 => ?_)
     obtain ⟨rb41, rfl, Nq41, hq41, hb41⟩ := z41; replace e41 := e41.trans hq41; have N := Fr.app N Nq41
     refine og_if_ne (pc1 := 58) (pc2 := 55) X41 hx (hb hby d8_52) (by decide) (by decide) rfl (fun hc52 => ?_) (fun hc52 => ?_)
     ·
      have hX := own_b1 hb41 hc52
      refine og_iloadN X41 hx rfl (hb hby d8_58) rfl ?_
      refine og_iload X41 hx rfl (hb hby d8_59) rfl ?_
      refine og_static (pc' := 64) (cells' := 0) (slots' := 0) (W := 1) X41 hx hZ (rm_cct l Z a0 hw (own_tp c1 c2) h0 n0 O) hown (ow81 hw) (ow82 hw) (ow83 hw) (ow84 hw) (by decide) (by rw [hml]; rfl) e41 opd_0 [(.int (own_tp c1 c2))] [(.int 1)] rfl rfl rfl rfl (by decide) (by decide) rfl rfl (by decide) (by decide) (hb hby d8_61) rfl (fun v42 T42 h42 L42 X42 e42 z42 => ?_)
      obtain ⟨rc, rfl, Nq42, hq42, hrc⟩ := z42; replace e42 := e42.trans hq42; have N := Fr.app N Nq42
      have hrc : rc = 2 := own_cc2 hrc (own_tpb hH hL)
      subst hrc
      refine og_iadd X42 hx (hb hby d8_64) rfl ?_
      show OG p e below _ (T42.setTop (mkF m 65 #[.val (.ref a1), .val (.int (-1)), .val (.int 1), .val (.int c1), .val (.int (own_tp c1 c2))] [(.int 3)]))
      refine og_istoreN (L' := #[.val (.ref a1), .val (.int (-1)), .val (.int 3), .val (.int c1), .val (.int (own_tp c1 c2))]) X42 hx rfl (hb hby d8_65) rfl ?_
      refine og_goto (pc' := 4) X42 hx (hb hby d8_66) (by decide) (by decide) ?_
      exact J3 T42 _ X42 e42 N _ _ (Or.inr ⟨_, rfl⟩) (Or.inr ⟨_, rfl⟩) ((own_fpair hH hL).symm.trans hr)
     ·
      have hX := own_b0 hb41 hc52
      exact absurd (own_xtp hH hL) hX
   ·
    have q25 := own_i2 hc25 (show (32 : Int32).toInt = 32 by decide)
    have q31 := own_i1 hc31 (show (55296 : Int32).toInt = 55296 by decide)
    refine og_iinc (L' := #[.val (.ref a1), .val (.int (-1)), .val (.int 2), .val (.int c1), x4]) (w := 1) X28 hx rfl rfl rfl (hb hby d8_34) rfl ?_
    refine og_goto (pc' := 66) X28 hx (hb hby d8_37) (by decide) (by decide) ?_
    refine og_goto (pc' := 4) X28 hx (hb hby d8_66) (by decide) (by decide) ?_
    exact J2 T28 _ X28 e28 N _ _ (Or.inr ⟨_, rfl⟩) hs_x4 ((own_fok (own_nHb q31) (own_okb q25 q31)).symm.trans hr)
 refine og_iloadN X0 hx rfl (hb hby d8_4) rfl ?_
 refine og_aloadN X0 hx rfl rfl (hb hby d8_5) rfl ?_
 refine og_virtual (pc' := 9) (cells' := 0) (slots' := 0) (W := 1) X0 hx hZ (rm_lenU3 l Z a0 hw a1 ba kb c0 c1 c2 hc0 hc1 hc2 cs hcs h0 n0 O E_a1 F_value_a1 F_coder_a1 V_ba S_CS) hown (ow38 hw) (ow39 hw) (own_nf hZ (ow41 hw)) (ow41 hw) (ow40 hw) (ow7 hw) (ow42 hw) (by decide) (by rw [hml]; rfl) e0 opd_17 [] [(.int 0)] rfl rfl rfl rfl (by decide) (by decide) rfl rfl (by decide) (by decide) E_a1 (hb hby d8_6) rfl (fun v43 T43 h43 L43 X43 e43 z43 => ?_)
 obtain ⟨rfl, Nq43, hq43⟩ := z43; replace e43 := e43.trans hq43; have N := Fr.app N Nq43
 refine og_icmp_ge (pc1 := 69) (pc2 := 12) X43 hx (hb hby d8_9) (by decide) (by decide) rfl (fun q => absurd q (by decide)) (fun _ => ?_)
 refine og_iloadN X43 hx rfl (hb hby d8_12) rfl ?_
 refine og_if_ge (pc1 := 69) (pc2 := 16) X43 hx (hb hby d8_13) (by decide) (by decide) rfl (fun q => absurd q (by decide)) (fun _ => ?_)
 refine og_aloadN X43 hx rfl rfl (hb hby d8_16) rfl ?_
 refine og_iloadN X43 hx rfl (hb hby d8_17) rfl ?_
 refine og_virtual (pc' := 21) (cells' := 0) (slots' := 0) (W := 0) X43 hx hZ (rm_cU3_0 l Z a0 hw a1 ba kb c0 c1 c2 hc0 hc1 hc2 cs hcs fm hfm h0 n0 O E_a1 F_value_a1 F_coder_a1 V_ba S_CS S_FM S__assertionsDisabled S_HI_BYTE_SHIFT S_LO_BYTE_SHIFT) hown (ow48 hw) (ow49 hw) (own_nf hZ (ow51 hw)) (ow51 hw) (ow50 hw) (ow7 hw) (ow52 hw) (by decide) (by rw [hml]; rfl) e43 opd_18 [(.int 0)] [] rfl rfl rfl rfl (by decide) (by decide) rfl rfl (by decide) (by decide) E_a1 (hb hby d8_18) rfl (fun v44 T44 h44 L44 X44 e44 z44 => ?_)
 obtain ⟨rfl, Nq44, hq44⟩ := z44; replace e44 := e44.trans hq44; have N := Fr.app N Nq44
 refine og_istoreN (L' := #[.val (.ref a1), .val (.int (-1)), .val (.int 0), .val (.int c0), .unset]) X44 hx rfl (hb hby d8_21) rfl ?_
 refine og_iloadN X44 hx rfl (hb hby d8_22) rfl ?_
 refine og_bipush (v := 32) X44 hx rfl (hb hby d8_23) rfl ?_
 refine og_icmp_lt (pc1 := 40) (pc2 := 28) X44 hx (hb hby d8_25) (by decide) (by decide) rfl (fun hc25 => ?_) (fun hc25 => ?_)
 ·
  refine og_aloadN X44 hx rfl rfl (hb hby d8_40) rfl ?_
  refine og_iloadN X44 hx rfl (hb hby d8_41) rfl ?_
  refine og_virtual (pc' := 45) (cells' := 0) (slots' := 0) (W := 0) X44 hx hZ (rm_pU3_0 l Z a0 hw a1 ba kb c0 c1 c2 hc0 hc1 hc2 cs hcs fm hfm h0 n0 O E_a1 F_value_a1 F_coder_a1 V_ba S_CS S_FM S__assertionsDisabled S_HI_BYTE_SHIFT S_LO_BYTE_SHIFT) hown (ow70 hw) (ow71 hw) (own_nf hZ (ow73 hw)) (ow73 hw) (ow72 hw) (ow7 hw) (ow74 hw) (by decide) (by rw [hml]; rfl) e44 opd_0 [(.int 0)] [] rfl rfl rfl rfl (by decide) (by decide) rfl rfl (by decide) (by decide) E_a1 (hb hby d8_42) rfl (fun v45 T45 h45 L45 X45 e45 z45 => ?_)
  obtain ⟨rp, rfl, Nq45, hq45, hrp⟩ := z45; replace e45 := e45.trans hq45; have N := Fr.app N Nq45
  rcases hrp with ⟨hrp, hnp⟩ | ⟨hrp, hH, hL⟩
  ·
   subst rp
   refine og_istore (L' := #[.val (.ref a1), .val (.int (-1)), .val (.int 0), .val (.int c0), .val (.int c0)]) X45 hx rfl (hb hby d8_45) rfl ?_
   refine og_iload X45 hx rfl (hb hby d8_47) rfl ?_
   refine og_static (pc' := 52) (cells' := 0) (slots' := 0) (W := 0) X45 hx hZ (rm_ixc l Z a0 hw c0 h0 n0 O) hown (ow76 hw) (ow77 hw) (ow36 hw) (ow78 hw) (by decide) (by rw [hml]; rfl) e45 opd_19 [(.int c0)] [] rfl rfl rfl rfl (by decide) (by decide) rfl rfl (by decide) (by decide) (hb hby d8_49) rfl (fun v46 T46 h46 L46 X46 e46 z46 => ?_)
   obtain ⟨rb46, rfl, Nq46, hq46, hb46⟩ := z46; replace e46 := e46.trans hq46; have N := Fr.app N Nq46
   refine og_if_ne (pc1 := 58) (pc2 := 55) X46 hx (hb hby d8_52) (by decide) (by decide) rfl (fun hc52 => ?_) (fun hc52 => ?_)
   ·
    have hX := own_b1 hb46 hc52
    refine og_iloadN X46 hx rfl (hb hby d8_58) rfl ?_
    refine og_iload X46 hx rfl (hb hby d8_59) rfl ?_
    refine og_static (pc' := 64) (cells' := 0) (slots' := 0) (W := 1) X46 hx hZ (rm_cct l Z a0 hw c0 h0 n0 O) hown (ow81 hw) (ow82 hw) (ow83 hw) (ow84 hw) (by decide) (by rw [hml]; rfl) e46 opd_0 [(.int c0)] [(.int 0)] rfl rfl rfl rfl (by decide) (by decide) rfl rfl (by decide) (by decide) (hb hby d8_61) rfl (fun v47 T47 h47 L47 X47 e47 z47 => ?_)
    obtain ⟨rc, rfl, Nq47, hq47, hrc⟩ := z47; replace e47 := e47.trans hq47; have N := Fr.app N Nq47
    have hrc : rc = 1 := own_cc1 hrc hc0
    subst hrc
    refine og_iadd X47 hx (hb hby d8_64) rfl ?_
    show OG p e below _ (T47.setTop (mkF m 65 #[.val (.ref a1), .val (.int (-1)), .val (.int 0), .val (.int c0), .val (.int c0)] [(.int 1)]))
    refine og_istoreN (L' := #[.val (.ref a1), .val (.int (-1)), .val (.int 1), .val (.int c0), .val (.int c0)]) X47 hx rfl (hb hby d8_65) rfl ?_
    refine og_goto (pc' := 4) X47 hx (hb hby d8_66) (by decide) (by decide) ?_
    exact J1 T47 _ X47 e47 N _ _ (Or.inr ⟨_, rfl⟩) (Or.inr ⟨_, rfl⟩) ((own_fok hnp (own_xk hc0 hX)).symm.trans hr)
   ·
    have hX := own_b0 hb46 hc52
    refine og_iload X46 hx rfl (hb hby d8_55) rfl ?_
    refine og_istoreN (L' := #[.val (.ref a1), .val (.int c0), .val (.int 0), .val (.int c0), .val (.int c0)]) X46 hx rfl (hb hby d8_57) rfl ?_
    refine og_iloadN X46 hx rfl (hb hby d8_58) rfl ?_
    refine og_iload X46 hx rfl (hb hby d8_59) rfl ?_
    refine og_static (pc' := 64) (cells' := 0) (slots' := 0) (W := 1) X46 hx hZ (rm_cct l Z a0 hw c0 h0 n0 O) hown (ow81 hw) (ow82 hw) (ow83 hw) (ow84 hw) (by decide) (by rw [hml]; rfl) e46 opd_0 [(.int c0)] [(.int 0)] rfl rfl rfl rfl (by decide) (by decide) rfl rfl (by decide) (by decide) (hb hby d8_61) rfl (fun v48 T48 h48 L48 X48 e48 z48 => ?_)
    obtain ⟨rc, rfl, Nq48, hq48, hrc⟩ := z48; replace e48 := e48.trans hq48; have N := Fr.app N Nq48
    have hrc : rc = 1 := own_cc1 hrc hc0
    subst hrc
    refine og_iadd X48 hx (hb hby d8_64) rfl ?_
    show OG p e below _ (T48.setTop (mkF m 65 #[.val (.ref a1), .val (.int c0), .val (.int 0), .val (.int c0), .val (.int c0)] [(.int 1)]))
    refine og_istoreN (L' := #[.val (.ref a1), .val (.int c0), .val (.int 1), .val (.int c0), .val (.int c0)]) X48 hx rfl (hb hby d8_65) rfl ?_
    refine og_goto (pc' := 4) X48 hx (hb hby d8_66) (by decide) (by decide) ?_
    refine og_iloadN X48 hx rfl (hb hby d8_4) rfl ?_
    refine og_aloadN X48 hx rfl rfl (hb hby d8_5) rfl ?_
    refine og_virtual (pc' := 9) (cells' := 0) (slots' := 0) (W := 1) X48 hx hZ (rm_lenU3 l Z a0 hw a1 ba kb c0 c1 c2 hc0 hc1 hc2 cs hcs h0 n0 O E_a1 F_value_a1 F_coder_a1 V_ba S_CS) hown (ow38 hw) (ow39 hw) (own_nf hZ (ow41 hw)) (ow41 hw) (ow40 hw) (ow7 hw) (ow42 hw) (by decide) (by rw [hml]; rfl) e48 opd_17 [] [(.int 1)] rfl rfl rfl rfl (by decide) (by decide) rfl rfl (by decide) (by decide) E_a1 (hb hby d8_6) rfl (fun v49 T49 h49 L49 X49 e49 z49 => ?_)
    obtain ⟨rfl, Nq49, hq49⟩ := z49; replace e49 := e49.trans hq49; have N := Fr.app N Nq49
    refine og_icmp_ge (pc1 := 69) (pc2 := 12) X49 hx (hb hby d8_9) (by decide) (by decide) rfl (fun q => absurd q (by decide)) (fun _ => ?_)
    refine og_iloadN X49 hx rfl (hb hby d8_12) rfl ?_
    refine og_if_ge (pc1 := 69) (pc2 := 16) X49 hx (hb hby d8_13) (by decide) (by decide) rfl (fun _ => ?_) (fun q => absurd q (own_nn hc0))
    refine og_iloadN X49 hx rfl (hb hby d8_69) rfl ?_
    refine og_retI X49 hx hlk hret (hb hby d8_70) (by decide) (by decide) ?_
    rw [e49]; exact ⟨by rw [← hr, own_fbad hnp (own_kx hc0 hX)], N, rfl⟩
  ·
   subst rp
   refine og_istore (L' := #[.val (.ref a1), .val (.int (-1)), .val (.int 0), .val (.int c0), .val (.int (own_tp c0 c1))]) X45 hx rfl (hb hby d8_45) rfl ?_
   refine og_iload X45 hx rfl (hb hby d8_47) rfl ?_
   refine og_static (pc' := 52) (cells' := 0) (slots' := 0) (W := 0) X45 hx hZ (rm_ixc l Z a0 hw (own_tp c0 c1) h0 n0 O) hown (ow76 hw) (ow77 hw) (ow36 hw) (ow78 hw) (by decide) (by rw [hml]; rfl) e45 opd_19 [(.int (own_tp c0 c1))] [] rfl rfl rfl rfl (by decide) (by decide) rfl rfl (by decide) (by decide) (hb hby d8_49) rfl (fun v50 T50 h50 L50 X50 e50 z50 => ?_)
   obtain ⟨rb50, rfl, Nq50, hq50, hb50⟩ := z50; replace e50 := e50.trans hq50; have N := Fr.app N Nq50
   refine og_if_ne (pc1 := 58) (pc2 := 55) X50 hx (hb hby d8_52) (by decide) (by decide) rfl (fun hc52 => ?_) (fun hc52 => ?_)
   ·
    have hX := own_b1 hb50 hc52
    refine og_iloadN X50 hx rfl (hb hby d8_58) rfl ?_
    refine og_iload X50 hx rfl (hb hby d8_59) rfl ?_
    refine og_static (pc' := 64) (cells' := 0) (slots' := 0) (W := 1) X50 hx hZ (rm_cct l Z a0 hw (own_tp c0 c1) h0 n0 O) hown (ow81 hw) (ow82 hw) (ow83 hw) (ow84 hw) (by decide) (by rw [hml]; rfl) e50 opd_0 [(.int (own_tp c0 c1))] [(.int 0)] rfl rfl rfl rfl (by decide) (by decide) rfl rfl (by decide) (by decide) (hb hby d8_61) rfl (fun v51 T51 h51 L51 X51 e51 z51 => ?_)
    obtain ⟨rc, rfl, Nq51, hq51, hrc⟩ := z51; replace e51 := e51.trans hq51; have N := Fr.app N Nq51
    have hrc : rc = 2 := own_cc2 hrc (own_tpb hH hL)
    subst hrc
    refine og_iadd X51 hx (hb hby d8_64) rfl ?_
    show OG p e below _ (T51.setTop (mkF m 65 #[.val (.ref a1), .val (.int (-1)), .val (.int 0), .val (.int c0), .val (.int (own_tp c0 c1))] [(.int 2)]))
    refine og_istoreN (L' := #[.val (.ref a1), .val (.int (-1)), .val (.int 2), .val (.int c0), .val (.int (own_tp c0 c1))]) X51 hx rfl (hb hby d8_65) rfl ?_
    refine og_goto (pc' := 4) X51 hx (hb hby d8_66) (by decide) (by decide) ?_
    exact J2 T51 _ X51 e51 N _ _ (Or.inr ⟨_, rfl⟩) (Or.inr ⟨_, rfl⟩) ((own_fpair hH hL).symm.trans hr)
   ·
    have hX := own_b0 hb50 hc52
    exact absurd (own_xtp hH hL) hX
 ·
  refine og_iloadN X44 hx rfl (hb hby d8_28) rfl ?_
  refine og_ldc X44 hx hZ hown (ow100 hw) (hb hby d8_29) rfl ?_
  refine og_icmp_ge (pc1 := 40) (pc2 := 34) X44 hx (hb hby d8_31) (by decide) (by decide) rfl (fun hc31 => ?_) (fun hc31 => ?_)
  ·
   have q25 := own_i2 hc25 (show (32 : Int32).toInt = 32 by decide)
   refine og_aloadN X44 hx rfl rfl (hb hby d8_40) rfl ?_
   refine og_iloadN X44 hx rfl (hb hby d8_41) rfl ?_
   refine og_virtual (pc' := 45) (cells' := 0) (slots' := 0) (W := 0) X44 hx hZ (rm_pU3_0 l Z a0 hw a1 ba kb c0 c1 c2 hc0 hc1 hc2 cs hcs fm hfm h0 n0 O E_a1 F_value_a1 F_coder_a1 V_ba S_CS S_FM S__assertionsDisabled S_HI_BYTE_SHIFT S_LO_BYTE_SHIFT) hown (ow70 hw) (ow71 hw) (own_nf hZ (ow73 hw)) (ow73 hw) (ow72 hw) (ow7 hw) (ow74 hw) (by decide) (by rw [hml]; rfl) e44 opd_0 [(.int 0)] [] rfl rfl rfl rfl (by decide) (by decide) rfl rfl (by decide) (by decide) E_a1 (hb hby d8_42) rfl (fun v52 T52 h52 L52 X52 e52 z52 => ?_)
   obtain ⟨rp, rfl, Nq52, hq52, hrp⟩ := z52; replace e52 := e52.trans hq52; have N := Fr.app N Nq52
   rcases hrp with ⟨hrp, hnp⟩ | ⟨hrp, hH, hL⟩
   ·
    subst rp
    refine og_istore (L' := #[.val (.ref a1), .val (.int (-1)), .val (.int 0), .val (.int c0), .val (.int c0)]) X52 hx rfl (hb hby d8_45) rfl ?_
    refine og_iload X52 hx rfl (hb hby d8_47) rfl ?_
    refine og_static (pc' := 52) (cells' := 0) (slots' := 0) (W := 0) X52 hx hZ (rm_ixc l Z a0 hw c0 h0 n0 O) hown (ow76 hw) (ow77 hw) (ow36 hw) (ow78 hw) (by decide) (by rw [hml]; rfl) e52 opd_19 [(.int c0)] [] rfl rfl rfl rfl (by decide) (by decide) rfl rfl (by decide) (by decide) (hb hby d8_49) rfl (fun v53 T53 h53 L53 X53 e53 z53 => ?_)
    obtain ⟨rb53, rfl, Nq53, hq53, hb53⟩ := z53; replace e53 := e53.trans hq53; have N := Fr.app N Nq53
    refine og_if_ne (pc1 := 58) (pc2 := 55) X53 hx (hb hby d8_52) (by decide) (by decide) rfl (fun hc52 => ?_) (fun hc52 => ?_)
    ·
     have hX := own_b1 hb53 hc52
     refine og_iloadN X53 hx rfl (hb hby d8_58) rfl ?_
     refine og_iload X53 hx rfl (hb hby d8_59) rfl ?_
     refine og_static (pc' := 64) (cells' := 0) (slots' := 0) (W := 1) X53 hx hZ (rm_cct l Z a0 hw c0 h0 n0 O) hown (ow81 hw) (ow82 hw) (ow83 hw) (ow84 hw) (by decide) (by rw [hml]; rfl) e53 opd_0 [(.int c0)] [(.int 0)] rfl rfl rfl rfl (by decide) (by decide) rfl rfl (by decide) (by decide) (hb hby d8_61) rfl (fun v54 T54 h54 L54 X54 e54 z54 => ?_)
     obtain ⟨rc, rfl, Nq54, hq54, hrc⟩ := z54; replace e54 := e54.trans hq54; have N := Fr.app N Nq54
     have hrc : rc = 1 := own_cc1 hrc hc0
     subst hrc
     refine og_iadd X54 hx (hb hby d8_64) rfl ?_
     show OG p e below _ (T54.setTop (mkF m 65 #[.val (.ref a1), .val (.int (-1)), .val (.int 0), .val (.int c0), .val (.int c0)] [(.int 1)]))
     refine og_istoreN (L' := #[.val (.ref a1), .val (.int (-1)), .val (.int 1), .val (.int c0), .val (.int c0)]) X54 hx rfl (hb hby d8_65) rfl ?_
     refine og_goto (pc' := 4) X54 hx (hb hby d8_66) (by decide) (by decide) ?_
     exact J1 T54 _ X54 e54 N _ _ (Or.inr ⟨_, rfl⟩) (Or.inr ⟨_, rfl⟩) ((own_fok hnp (own_xk hc0 hX)).symm.trans hr)
    ·
     have hX := own_b0 hb53 hc52
     refine og_iload X53 hx rfl (hb hby d8_55) rfl ?_
     refine og_istoreN (L' := #[.val (.ref a1), .val (.int c0), .val (.int 0), .val (.int c0), .val (.int c0)]) X53 hx rfl (hb hby d8_57) rfl ?_
     refine og_iloadN X53 hx rfl (hb hby d8_58) rfl ?_
     refine og_iload X53 hx rfl (hb hby d8_59) rfl ?_
     refine og_static (pc' := 64) (cells' := 0) (slots' := 0) (W := 1) X53 hx hZ (rm_cct l Z a0 hw c0 h0 n0 O) hown (ow81 hw) (ow82 hw) (ow83 hw) (ow84 hw) (by decide) (by rw [hml]; rfl) e53 opd_0 [(.int c0)] [(.int 0)] rfl rfl rfl rfl (by decide) (by decide) rfl rfl (by decide) (by decide) (hb hby d8_61) rfl (fun v55 T55 h55 L55 X55 e55 z55 => ?_)
     obtain ⟨rc, rfl, Nq55, hq55, hrc⟩ := z55; replace e55 := e55.trans hq55; have N := Fr.app N Nq55
     have hrc : rc = 1 := own_cc1 hrc hc0
     subst hrc
     refine og_iadd X55 hx (hb hby d8_64) rfl ?_
     show OG p e below _ (T55.setTop (mkF m 65 #[.val (.ref a1), .val (.int c0), .val (.int 0), .val (.int c0), .val (.int c0)] [(.int 1)]))
     refine og_istoreN (L' := #[.val (.ref a1), .val (.int c0), .val (.int 1), .val (.int c0), .val (.int c0)]) X55 hx rfl (hb hby d8_65) rfl ?_
     refine og_goto (pc' := 4) X55 hx (hb hby d8_66) (by decide) (by decide) ?_
     refine og_iloadN X55 hx rfl (hb hby d8_4) rfl ?_
     refine og_aloadN X55 hx rfl rfl (hb hby d8_5) rfl ?_
     refine og_virtual (pc' := 9) (cells' := 0) (slots' := 0) (W := 1) X55 hx hZ (rm_lenU3 l Z a0 hw a1 ba kb c0 c1 c2 hc0 hc1 hc2 cs hcs h0 n0 O E_a1 F_value_a1 F_coder_a1 V_ba S_CS) hown (ow38 hw) (ow39 hw) (own_nf hZ (ow41 hw)) (ow41 hw) (ow40 hw) (ow7 hw) (ow42 hw) (by decide) (by rw [hml]; rfl) e55 opd_17 [] [(.int 1)] rfl rfl rfl rfl (by decide) (by decide) rfl rfl (by decide) (by decide) E_a1 (hb hby d8_6) rfl (fun v56 T56 h56 L56 X56 e56 z56 => ?_)
     obtain ⟨rfl, Nq56, hq56⟩ := z56; replace e56 := e56.trans hq56; have N := Fr.app N Nq56
     refine og_icmp_ge (pc1 := 69) (pc2 := 12) X56 hx (hb hby d8_9) (by decide) (by decide) rfl (fun q => absurd q (by decide)) (fun _ => ?_)
     refine og_iloadN X56 hx rfl (hb hby d8_12) rfl ?_
     refine og_if_ge (pc1 := 69) (pc2 := 16) X56 hx (hb hby d8_13) (by decide) (by decide) rfl (fun _ => ?_) (fun q => absurd q (own_nn hc0))
     refine og_iloadN X56 hx rfl (hb hby d8_69) rfl ?_
     refine og_retI X56 hx hlk hret (hb hby d8_70) (by decide) (by decide) ?_
     rw [e56]; exact ⟨by rw [← hr, own_fbad hnp (own_kx hc0 hX)], N, rfl⟩
   ·
    subst rp
    refine og_istore (L' := #[.val (.ref a1), .val (.int (-1)), .val (.int 0), .val (.int c0), .val (.int (own_tp c0 c1))]) X52 hx rfl (hb hby d8_45) rfl ?_
    refine og_iload X52 hx rfl (hb hby d8_47) rfl ?_
    refine og_static (pc' := 52) (cells' := 0) (slots' := 0) (W := 0) X52 hx hZ (rm_ixc l Z a0 hw (own_tp c0 c1) h0 n0 O) hown (ow76 hw) (ow77 hw) (ow36 hw) (ow78 hw) (by decide) (by rw [hml]; rfl) e52 opd_19 [(.int (own_tp c0 c1))] [] rfl rfl rfl rfl (by decide) (by decide) rfl rfl (by decide) (by decide) (hb hby d8_49) rfl (fun v57 T57 h57 L57 X57 e57 z57 => ?_)
    obtain ⟨rb57, rfl, Nq57, hq57, hb57⟩ := z57; replace e57 := e57.trans hq57; have N := Fr.app N Nq57
    refine og_if_ne (pc1 := 58) (pc2 := 55) X57 hx (hb hby d8_52) (by decide) (by decide) rfl (fun hc52 => ?_) (fun hc52 => ?_)
    ·
     have hX := own_b1 hb57 hc52
     refine og_iloadN X57 hx rfl (hb hby d8_58) rfl ?_
     refine og_iload X57 hx rfl (hb hby d8_59) rfl ?_
     refine og_static (pc' := 64) (cells' := 0) (slots' := 0) (W := 1) X57 hx hZ (rm_cct l Z a0 hw (own_tp c0 c1) h0 n0 O) hown (ow81 hw) (ow82 hw) (ow83 hw) (ow84 hw) (by decide) (by rw [hml]; rfl) e57 opd_0 [(.int (own_tp c0 c1))] [(.int 0)] rfl rfl rfl rfl (by decide) (by decide) rfl rfl (by decide) (by decide) (hb hby d8_61) rfl (fun v58 T58 h58 L58 X58 e58 z58 => ?_)
     obtain ⟨rc, rfl, Nq58, hq58, hrc⟩ := z58; replace e58 := e58.trans hq58; have N := Fr.app N Nq58
     have hrc : rc = 2 := own_cc2 hrc (own_tpb hH hL)
     subst hrc
     refine og_iadd X58 hx (hb hby d8_64) rfl ?_
     show OG p e below _ (T58.setTop (mkF m 65 #[.val (.ref a1), .val (.int (-1)), .val (.int 0), .val (.int c0), .val (.int (own_tp c0 c1))] [(.int 2)]))
     refine og_istoreN (L' := #[.val (.ref a1), .val (.int (-1)), .val (.int 2), .val (.int c0), .val (.int (own_tp c0 c1))]) X58 hx rfl (hb hby d8_65) rfl ?_
     refine og_goto (pc' := 4) X58 hx (hb hby d8_66) (by decide) (by decide) ?_
     exact J2 T58 _ X58 e58 N _ _ (Or.inr ⟨_, rfl⟩) (Or.inr ⟨_, rfl⟩) ((own_fpair hH hL).symm.trans hr)
    ·
     have hX := own_b0 hb57 hc52
     exact absurd (own_xtp hH hL) hX
  ·
   have q25 := own_i2 hc25 (show (32 : Int32).toInt = 32 by decide)
   have q31 := own_i1 hc31 (show (55296 : Int32).toInt = 55296 by decide)
   refine og_iinc (L' := #[.val (.ref a1), .val (.int (-1)), .val (.int 1), .val (.int c0), .unset]) (w := 1) X44 hx rfl rfl rfl (hb hby d8_34) rfl ?_
   refine og_goto (pc' := 66) X44 hx (hb hby d8_37) (by decide) (by decide) ?_
   refine og_goto (pc' := 4) X44 hx (hb hby d8_66) (by decide) (by decide) ?_
   exact J1 T44 _ X44 e44 N _ _ (Or.inr ⟨_, rfl⟩) (Or.inl rfl) ((own_fok (own_nHb q31) (own_okb q25 q31)).symm.trans hr)
theorem rm_sv_0 (l : Launch) (Z : State) (a0 : Array Value) (hw : HW a0 Z) (a1 ca : Addr) (h0 : Heap) (n0 : Nat) (O : Old Z n0 h0) (hEL : EW Z a0 own_EL) (E_a1 : Exa Z h0 a1 "java/lang/String") (F_value_a1 : Fld Z h0 a1 "java/lang/String" "value" "[B" .null) (F_coder_a1 : Fld Z h0 a1 "java/lang/String" "coder" "B" (.int 0)) (g_a1 : n0 ≤ a1) :
  ConW l Z own_EL [a1] (⟨"java/lang/String", "<init>", "([CIILjava/lang/Void;)V"⟩ : MethodName) jdk_42_method_149_code 6 none ({ frames := 1, cells := 4, slots := 8, locals := 12 } : Room) #[(.ref a1), (.ref ca), (.int 0), (.int 0), .null] h0 (fun v h L => ∃ b k, v = none ∧ Fr n0 L ∧ Keep h0 h [a1] ∧ Exa Z h a1 "java/lang/String" ∧ Fld Z h a1 "java/lang/String" "value" "[B" (.ref b) ∧ Fld Z h a1 "java/lang/String" "coder" "B" (.int 0) ∧ Arv Z h b k .byte (0 : Int32) [] (.int 0)) := by
 refine own_startWC opn_3 ?_
 intro p e s m below meth c T0 X0 hx hby hml hZ hown hnm hret hlk e0 es hS CR hsf
 have N := Fr.nil n0; have K := Keep.refl h0 [a1]; have hk := Nat.le_refl h0.size; have Q_a1 := hsf _ (List.mem_of_getElem? (i := 0) rfl)
 refine OG.cast (oef6 m a1 ca (0 : Int32) (0 : Int32)) ?_
 refine og_aloadN X0 hx rfl rfl (hb hby d3_0) rfl ?_
 refine og_initO (pc' := 4) X0 hx hZ (W := 0) (by rw [hml]; rfl) hown (ow15 hw) (ow16 hw) (ow17 hw) e0 rfl (by decide) (by decide) (hb hby d3_1) rfl (fun T11 X11 e11 => ?_)
 refine og_iloadN X11 hx rfl (hb hby d3_4) rfl ?_
 refine og_if_ne (pc1 := 27) (pc2 := 8) X11 hx (hb hby d3_5) (by decide) (by decide) rfl (fun q => absurd q (by decide)) (fun _ => ?_)
 refine og_aloadN X11 hx rfl rfl (hb hby d3_8) rfl ?_
 refine og_ldcS (pc' := 11) (cells' := 2) (slots' := 4) (n := 0) (z := (0 : Int32)) (vs := []) X11 hx hZ hown (hw _ (List.mem_of_getElem? (i := 105) rfl)) (own_wS hw) e11 hS hk hEL (by decide) CR.1 ⟨by decide, by decide⟩ (by decide) (by decide) (by decide) (by decide) (hb hby d3_9) rfl rfl rfl (by decide) (by decide) (fun na12 T12 h12 kk12 nb12 k12 X12 e12 E12 hS hk hZ hown E_na12 F_coder_na12 F_value_na12 V_nb12 cr12 hne12 => ?_)
 have Q_a1 := cr12.safe E_a1.lt Q_a1; have E_a1 := E_a1.ext E12; have F_value_a1 := F_value_a1.ext E12; have F_coder_a1 := F_coder_a1.ext E12; have O := O.ext E12; have K := K.ext E12
 have CR := CR.trans cr12
 have ne_a1_na12 := (hne12 _ Q_a1).1; have ne_a1_nb12 := (hne12 _ Q_a1).2
 refine og_getfield X12 hx hZ (host := "") hown (Or.inl (ow32 hw)) Via.refl e12 F_value_na12 (hb hby d3_11) rfl (fun T13 X13 e13 => ?_)
 refine og_putfield X13 hx hZ (ty := (.array .byte)) (host := "") hown (Or.inl (ow32 hw)) Via.refl e13 F_value_a1 E_a1 (Or.inr ⟨(ow33 hw), rfl, hnm⟩) (ow6 hw) (by decide) rfl rfl (hb hby d3_14) rfl (fun T14 h14 X14 e14 W14 => ?_)
 have F_value_a1_ := F_value_a1.same W14
 have sf14 : Safe Z own_EL T12.vm h12 a1 := Q_a1; have Q_a1 := Safe.wr W14 sf14 CR.1 Q_a1; have E_a1 := E_a1.wr W14; have F_coder_a1 := F_coder_a1.other W14 (Or.inr (slot_ne (Or.inr (ow31 hw)) (Or.inr (ow33 hw)) (by decide) (t := .byte) (t' := (.array .byte)) (by decide) (by decide))); have E_na12 := E_na12.wr W14; have F_value_na12 := F_value_na12.other W14 (Or.inl (Ne.symm ne_a1_na12))
 have F_coder_na12 := F_coder_na12.other W14 (Or.inl (Ne.symm ne_a1_na12)); have V_nb12 := V_nb12.other W14 (Ne.symm ne_a1_nb12); have O := O.wr W14 g_a1; have K := K.wr W14 (Or.inl (List.mem_of_getElem? (i := 0) rfl)); have hk := Nat.le_trans hk (Keep.of_wr W14).1; have CR := CR.trans (CHr.wr W14 sf14 CR.1)
 have N := Fr.snoc X14 N g_a1; have F_value_a1 := F_value_a1_
 refine og_aloadN X14 hx rfl rfl (hb hby d3_17) rfl ?_
 refine og_ldcS (pc' := 20) (cells' := 4) (slots' := 8) (n := 0) (z := (0 : Int32)) (vs := []) X14 hx hZ hown (hw _ (List.mem_of_getElem? (i := 105) rfl)) (own_wS hw) e14 hS hk hEL (by decide) CR.1 ⟨by decide, by decide⟩ (by decide) (by decide) (by decide) (by decide) (hb hby d3_18) rfl rfl rfl (by decide) (by decide) (fun na15 T15 h15 kk15 nb15 k15 X15 e15 E15 hS hk hZ hown E_na15 F_coder_na15 F_value_na15 V_nb15 cr15 hne15 => ?_)
 have Q_a1 := cr15.safe E_a1.lt Q_a1; have E_a1 := E_a1.ext E15; have F_coder_a1 := F_coder_a1.ext E15; have E_na12 := E_na12.ext E15; have F_value_na12 := F_value_na12.ext E15; have F_coder_na12 := F_coder_na12.ext E15
 have V_nb12 := V_nb12.ext E15; have F_value_a1 := F_value_a1.ext E15; have O := O.ext E15; have K := K.ext E15; have CR := CR.trans cr15
 have ne_a1_na15 := (hne15 _ Q_a1).1; have ne_a1_nb15 := (hne15 _ Q_a1).2
 refine og_getfield X15 hx hZ (host := "") hown (Or.inl (ow30 hw)) Via.refl e15 F_coder_na15 (hb hby d3_20) rfl (fun T16 X16 e16 => ?_)
 refine og_putfield X16 hx hZ (ty := .byte) (host := "") hown (Or.inl (ow30 hw)) Via.refl e16 F_coder_a1 E_a1 (Or.inr ⟨(ow31 hw), rfl, hnm⟩) (ow6 hw) (by decide) rfl rfl (hb hby d3_23) rfl (fun T17 h17 X17 e17 W17 => ?_)
 have F_coder_a1_ := F_coder_a1.same W17
 have sf17 : Safe Z own_EL T15.vm h15 a1 := Q_a1; have Q_a1 := Safe.wr W17 sf17 CR.1 Q_a1; have E_a1 := E_a1.wr W17; have E_na12 := E_na12.wr W17; have F_value_na12 := F_value_na12.other W17 (Or.inl (Ne.symm ne_a1_na12)); have F_coder_na12 := F_coder_na12.other W17 (Or.inl (Ne.symm ne_a1_na12))
 have V_nb12 := V_nb12.other W17 (Ne.symm ne_a1_nb12); have F_value_a1 := F_value_a1.other W17 (Or.inr (slot_ne (Or.inr (ow33 hw)) (Or.inr (ow31 hw)) (by decide) (t := (.array .byte)) (t' := .byte) (by decide) (by decide))); have E_na15 := E_na15.wr W17; have F_value_na15 := F_value_na15.other W17 (Or.inl (Ne.symm ne_a1_na15)); have F_coder_na15 := F_coder_na15.other W17 (Or.inl (Ne.symm ne_a1_na15)); have V_nb15 := V_nb15.other W17 (Ne.symm ne_a1_nb15)
 have O := O.wr W17 g_a1; have K := K.wr W17 (Or.inl (List.mem_of_getElem? (i := 0) rfl)); have hk := Nat.le_trans hk (Keep.of_wr W17).1; have CR := CR.trans (CHr.wr W17 sf17 CR.1)
 have N := Fr.snoc X17 N g_a1; have F_coder_a1 := F_coder_a1_
 refine og_retVW X17 hx hZ hlk hEL hS e17 es hk CR hret (hb hby d3_26) (by decide) (by decide) ?_
 rw [e17]; exact ⟨_, _, rfl, N, K, E_a1, F_value_a1, F_coder_a1, V_nb12⟩
theorem rm_sn_0 (l : Launch) (Z : State) (a0 : Array Value) (hw : HW a0 Z) (a1 ca : Addr) (kc : ClassId) (h0 : Heap) (n0 : Nat) (O : Old Z n0 h0) (hEL : EW Z a0 own_EL) (E_a1 : Exa Z h0 a1 "java/lang/String") (F_value_a1 : Fld Z h0 a1 "java/lang/String" "value" "[B" .null) (F_coder_a1 : Fld Z h0 a1 "java/lang/String" "coder" "B" (.int 0)) (V_ca : Arv Z h0 ca kc .char (0 : Int32) [] (.int 0)) (g_a1 : n0 ≤ a1) (ne_ca_a1 : ca ≠ a1) :
  ConW l Z own_EL [a1] (⟨"java/lang/String", "<init>", "([C)V"⟩ : MethodName) jdk_42_method_3_code 2 none ({ frames := 2, cells := 4, slots := 8, locals := 29 } : Room) #[(.ref a1), (.ref ca)] h0 (fun v h L => ∃ b k, v = none ∧ Fr n0 L ∧ Keep h0 h [a1] ∧ Exa Z h a1 "java/lang/String" ∧ Fld Z h a1 "java/lang/String" "value" "[B" (.ref b) ∧ Fld Z h a1 "java/lang/String" "coder" "B" (.int 0) ∧ Arv Z h b k .byte (0 : Int32) [] (.int 0)) := by
 refine own_startWC opn_2 ?_
 intro p e s m below meth c T0 X0 hx hby hml hZ hown hnm hret hlk e0 es hS CR hsf
 have N := Fr.nil n0; have K := Keep.refl h0 [a1]; have hk := Nat.le_refl h0.size; have Q_a1 := hsf _ (List.mem_of_getElem? (i := 0) rfl)
 refine OG.cast (oef7 m a1 ca) ?_
 refine og_aloadN X0 hx rfl rfl (hb hby d2_0) rfl ?_
 refine og_aloadN X0 hx rfl rfl (hb hby d2_1) rfl ?_
 refine og_iconst (v := 0) X0 hx rfl (hb hby d2_2) rfl ?_
 refine og_aloadN X0 hx rfl rfl (hb hby d2_3) rfl ?_
 refine og_arraylength X0 hx hZ e0 V_ca (hb hby d2_4) rfl ?_
 refine og_aconst_null X0 hx (hb hby d2_5) rfl ?_
 refine og_specialW (pc' := 9) (cells' := 4) (slots' := 8) (W := 0) X0 hx hZ (rm_sv_0 l Z a0 hw a1 ca h0 n0 O hEL E_a1 F_value_a1 F_coder_a1 g_a1) hEL hS hk CR.1 (allS (P := fun x => x < _ ∧ Safe Z own_EL _ _ x) ⟨E_a1.lt, Q_a1⟩ all0) rfl hown (ow11 hw) (ow12 hw) (ow7 hw) (ow14 hw) (by decide) (by rw [hml]; rfl) e0 opd_7 [(.ref ca), (.int 0), (.int 0), .null] [] rfl rfl rfl rfl (by decide) (by decide) rfl rfl (by decide) (by decide) (hb hby d2_6) rfl (fun v11 T11 h11 L11 kk11 X11 e11 hS hk hZ hown cr11 z11 => ?_)
 obtain ⟨nb11, k11, rfl, Nq11, K11, E_a1', F_value_a1', F_coder_a1', V_nb11⟩ := z11; have N := Fr.app N Nq11
 have Q_a1 := cr11.safe E_a1.lt Q_a1; have E_a1 := E_a1.keep K11; have V_ca := V_ca.keep K11 (ninS ne_ca_a1 nin0); have O := O.keep K11 (allS g_a1 all0); have K := K.trans K11 (allS (Or.inl (List.mem_of_getElem? (i := 0) rfl)) all0); have CR := CR.trans cr11
 have E_a1 := E_a1'; have F_value_a1 := F_value_a1'; have F_coder_a1 := F_coder_a1'
 refine og_retVW X11 hx hZ hlk hEL hS e11 es hk CR hret (hb hby d2_9) (by decide) (by decide) ?_
 rw [e11]; exact ⟨_, _, rfl, N, K, E_a1, F_value_a1, F_coder_a1, V_nb11⟩
theorem rm_fc0 (l : Launch) (Z : State) (a0 : Array Value) (hw : HW a0 Z) (a1 ba : Addr) (kb : ClassId) (cs : Int32) (hcs : ¬ cs = 0) (h0 : Heap) (n0 : Nat) (O : Old Z n0 h0) (E_a1 : Exa Z h0 a1 "java/lang/String") (F_value_a1 : Fld Z h0 a1 "java/lang/String" "value" "[B" (.ref ba)) (F_coder_a1 : Fld Z h0 a1 "java/lang/String" "coder" "B" (.int 0)) (V_ba : Arv Z h0 ba kb .byte (0 : Int32) [] (.int 0)) (S_CS : Sta Z Z.heap "java/lang/String" "COMPACT_STRINGS" "Z" (.int cs)) :
  Con l Z (⟨"com/example/neith/neith/io/XmlOutput", "forbiddenCharacter", "(Ljava/lang/String;)I"⟩ : MethodName) prog_18_method_3_code 5 (some .int) ({ frames := 2, cells := 0, slots := 0, locals := 26 } : Room) #[(.ref a1)] h0 (fun v h L => v = some (.int (-1)) ∧ Fr n0 L ∧ h = h0) := by
 refine own_startC opn_8 ?_
 intro p e s m below meth c T0 X0 hx hby hml hZ hown hnm hret hlk e0
 have N := Fr.nil n0; have K := Keep.refl h0 []
 refine OG.cast (oef14 m a1) ?_
 refine og_iconst (v := -1) X0 hx rfl (hb hby d8_0) rfl ?_
 refine og_istoreN (L' := #[.val (.ref a1), .val (.int (-1)), .unset, .unset, .unset]) X0 hx rfl (hb hby d8_1) rfl ?_
 refine og_iconst (v := 0) X0 hx rfl (hb hby d8_2) rfl ?_
 refine og_istoreN (L' := #[.val (.ref a1), .val (.int (-1)), .val (.int 0), .unset, .unset]) X0 hx rfl (hb hby d8_3) rfl ?_
 refine og_iloadN X0 hx rfl (hb hby d8_4) rfl ?_
 refine og_aloadN X0 hx rfl rfl (hb hby d8_5) rfl ?_
 refine og_virtual (pc' := 9) (cells' := 0) (slots' := 0) (W := 1) X0 hx hZ (rm_len l Z a0 hw a1 ba kb (0 : Int32) _ cs hcs h0 n0 O E_a1 F_value_a1 F_coder_a1 V_ba S_CS) hown (ow38 hw) (ow39 hw) (own_nf hZ (ow41 hw)) (ow41 hw) (ow40 hw) (ow7 hw) (ow42 hw) (by decide) (by rw [hml]; rfl) e0 opd_17 [] [(.int 0)] rfl rfl rfl rfl (by decide) (by decide) rfl rfl (by decide) (by decide) E_a1 (hb hby d8_6) rfl (fun v11 T11 h11 L11 X11 e11 z11 => ?_)
 obtain ⟨rfl, Nq11, hq11⟩ := z11; replace e11 := e11.trans hq11; have N := Fr.app N Nq11
 refine og_icmp_ge (pc1 := 69) (pc2 := 12) X11 hx (hb hby d8_9) (by decide) (by decide) rfl (fun _ => ?_) (fun q => absurd q (by decide))
 refine og_iloadN X11 hx rfl (hb hby d8_69) rfl ?_
 refine og_retI X11 hx hlk hret (hb hby d8_70) (by decide) (by decide) ?_
 rw [e11]; exact ⟨rfl, N, rfl⟩
theorem rm_drw (l : Launch) (Z : State) (a0 : Array Value) (hw : HW a0 Z) (x : Int32) (h0 : Heap) (n0 : Nat) (O : Old Z n0 h0) :
  Con l Z (⟨"com/example/neith/neith/io/XmlOutputForbiddenCharacterPinLaw", "draw", "(I)C"⟩ : MethodName) method_2_code 2 (some .char) ({ frames := 0, cells := 0, slots := 0, locals := 0 } : Room) #[(.int x)] h0 (fun v h L => ∃ c : Int32, v = some (.int c) ∧ Fr n0 L ∧ h = h0 ∧ 0 ≤ c.toInt ∧ c.toInt ≤ 65535) := by
 refine own_startC opn_1 ?_
 intro p e s m below meth c T0 X0 hx hby hml hZ hown hnm hret hlk e0
 have N := Fr.nil n0; have K := Keep.refl h0 []
 refine OG.cast (oef15 m x) ?_
 refine og_iloadN X0 hx rfl (hb hby d1_0) rfl ?_
 refine og_bipush (v := 16) X0 hx rfl (hb hby d1_1) rfl ?_
 refine og_iushr X0 hx (hb hby d1_3) rfl ?_
 refine og_iconst (v := 3) X0 hx rfl (hb hby d1_4) rfl ?_
 refine og_iand X0 hx (hb hby d1_5) rfl ?_
 refine og_istoreN (L' := #[.val (.int x), .val (.int (((x.toUInt32 >>> ((16 : Int32) &&& 31).toUInt32).toInt32) &&& (3 : Int32)))]) X0 hx rfl (hb hby d1_6) rfl ?_
 refine og_iloadN X0 hx rfl (hb hby d1_7) rfl ?_
 refine og_if_ne (pc1 := 14) (pc2 := 11) X0 hx (hb hby d1_8) (by decide) (by decide) rfl (fun hc8 => ?_) (fun hc8 => ?_)
 ·
  refine og_iloadN X0 hx rfl (hb hby d1_14) rfl ?_
  refine og_iconst (v := 1) X0 hx rfl (hb hby d1_15) rfl ?_
  refine og_icmp_ne (pc1 := 29) (pc2 := 19) X0 hx (hb hby d1_16) (by decide) (by decide) rfl (fun hc16 => ?_) (fun hc16 => ?_)
  ·
   refine og_iloadN X0 hx rfl (hb hby d1_29) rfl ?_
   refine og_iconst (v := 2) X0 hx rfl (hb hby d1_30) rfl ?_
   refine og_icmp_ne (pc1 := 40) (pc2 := 34) X0 hx (hb hby d1_31) (by decide) (by decide) rfl (fun hc31 => ?_) (fun hc31 => ?_)
   ·
    refine og_ldc X0 hx hZ hown (ow104 hw) (hb hby d1_40) rfl ?_
    refine og_iloadN X0 hx rfl (hb hby d1_42) rfl ?_
    refine og_bipush (v := 15) X0 hx rfl (hb hby d1_43) rfl ?_
    refine og_iand X0 hx (hb hby d1_45) rfl ?_
    refine og_iadd X0 hx (hb hby d1_46) rfl ?_
    refine og_i2c X0 hx (hb hby d1_47) rfl ?_
    refine og_retN X0 hx hlk hret (by simp) (hb hby d1_48) (by decide) (by decide) ?_
    rw [e0]; exact ⟨_, rfl, N, rfl, own_chr _⟩
   ·
    refine og_iloadN X0 hx rfl (hb hby d1_34) rfl ?_
    refine og_bipush (v := 63) X0 hx rfl (hb hby d1_35) rfl ?_
    refine og_iand X0 hx (hb hby d1_37) rfl ?_
    refine og_i2c X0 hx (hb hby d1_38) rfl ?_
    refine og_retN X0 hx hlk hret (by simp) (hb hby d1_39) (by decide) (by decide) ?_
    rw [e0]; exact ⟨_, rfl, N, rfl, own_chr _⟩
  ·
   refine og_ldc X0 hx hZ hown (ow99 hw) (hb hby d1_19) rfl ?_
   refine og_iloadN X0 hx rfl (hb hby d1_21) rfl ?_
   refine og_sipush (v := 2047) X0 hx rfl (hb hby d1_22) rfl ?_
   refine og_iand X0 hx (hb hby d1_25) rfl ?_
   refine og_iadd X0 hx (hb hby d1_26) rfl ?_
   refine og_i2c X0 hx (hb hby d1_27) rfl ?_
   refine og_retN X0 hx hlk hret (by simp) (hb hby d1_28) (by decide) (by decide) ?_
   rw [e0]; exact ⟨_, rfl, N, rfl, own_chr _⟩
 ·
  refine og_iloadN X0 hx rfl (hb hby d1_11) rfl ?_
  refine og_i2c X0 hx (hb hby d1_12) rfl ?_
  refine og_retN X0 hx hlk hret (by simp) (hb hby d1_13) (by decide) (by decide) ?_
  rw [e0]; exact ⟨_, rfl, N, rfl, own_chr _⟩
theorem rm_okb (l : Launch) (Z : State) (a0 : Array Value) (hw : HW a0 Z) (x : Int32) (h0 : Heap) (n0 : Nat) (O : Old Z n0 h0) :
  Con l Z (⟨"com/example/neith/neith/io/XmlOutputForbiddenCharacterPinLaw", "okBmp", "(C)Z"⟩ : MethodName) method_3_code 1 (some .boolean) ({ frames := 0, cells := 0, slots := 0, locals := 0 } : Room) #[(.int x)] h0 (fun v h L => ∃ r : Int32, v = some (.int r) ∧ Fr n0 L ∧ h = h0 ∧ ((r = 1 ∧ own_ok x) ∨ (r = 0 ∧ ¬ own_ok x))) := by
 refine own_startC opn_22 ?_
 intro p e s m below meth c T0 X0 hx hby hml hZ hown hnm hret hlk e0
 have N := Fr.nil n0; have K := Keep.refl h0 []
 refine OG.cast (oef1 m x) ?_
 refine og_iloadN X0 hx rfl (hb hby d22_0) rfl ?_
 refine og_bipush (v := 9) X0 hx rfl (hb hby d22_1) rfl ?_
 refine og_icmp_eq (pc1 := 42) (pc2 := 6) X0 hx (hb hby d22_3) (by decide) (by decide) rfl (fun hc3 => ?_) (fun hc3 => ?_)
 ·
  refine og_iconst (v := 1) X0 hx rfl (hb hby d22_42) rfl ?_
  refine og_goto (pc' := 47) X0 hx (hb hby d22_43) (by decide) (by decide) ?_
  refine og_retN X0 hx hlk hret (by simp) (hb hby d22_47) (by decide) (by decide) ?_
  have q_hc3 := own_i5 hc3 (show (9 : Int32).toInt = 9 by decide)
  rw [e0]; exact ⟨_, rfl, N, rfl, Or.inl ⟨rfl, by unfold own_ok; omega⟩⟩
 ·
  refine og_iloadN X0 hx rfl (hb hby d22_6) rfl ?_
  refine og_bipush (v := 10) X0 hx rfl (hb hby d22_7) rfl ?_
  refine og_icmp_eq (pc1 := 42) (pc2 := 12) X0 hx (hb hby d22_9) (by decide) (by decide) rfl (fun hc9 => ?_) (fun hc9 => ?_)
  ·
   refine og_iconst (v := 1) X0 hx rfl (hb hby d22_42) rfl ?_
   refine og_goto (pc' := 47) X0 hx (hb hby d22_43) (by decide) (by decide) ?_
   refine og_retN X0 hx hlk hret (by simp) (hb hby d22_47) (by decide) (by decide) ?_
   have q_hc3 := own_i6 hc3 (show (9 : Int32).toInt = 9 by decide)
   have q_hc9 := own_i5 hc9 (show (10 : Int32).toInt = 10 by decide)
   rw [e0]; exact ⟨_, rfl, N, rfl, Or.inl ⟨rfl, by unfold own_ok; omega⟩⟩
  ·
   refine og_iloadN X0 hx rfl (hb hby d22_12) rfl ?_
   refine og_bipush (v := 13) X0 hx rfl (hb hby d22_13) rfl ?_
   refine og_icmp_eq (pc1 := 42) (pc2 := 18) X0 hx (hb hby d22_15) (by decide) (by decide) rfl (fun hc15 => ?_) (fun hc15 => ?_)
   ·
    refine og_iconst (v := 1) X0 hx rfl (hb hby d22_42) rfl ?_
    refine og_goto (pc' := 47) X0 hx (hb hby d22_43) (by decide) (by decide) ?_
    refine og_retN X0 hx hlk hret (by simp) (hb hby d22_47) (by decide) (by decide) ?_
    have q_hc3 := own_i6 hc3 (show (9 : Int32).toInt = 9 by decide)
    have q_hc9 := own_i6 hc9 (show (10 : Int32).toInt = 10 by decide)
    have q_hc15 := own_i5 hc15 (show (13 : Int32).toInt = 13 by decide)
    rw [e0]; exact ⟨_, rfl, N, rfl, Or.inl ⟨rfl, by unfold own_ok; omega⟩⟩
   ·
    refine og_iloadN X0 hx rfl (hb hby d22_18) rfl ?_
    refine og_bipush (v := 32) X0 hx rfl (hb hby d22_19) rfl ?_
    refine og_icmp_lt (pc1 := 30) (pc2 := 24) X0 hx (hb hby d22_21) (by decide) (by decide) rfl (fun hc21 => ?_) (fun hc21 => ?_)
    ·
     refine og_iloadN X0 hx rfl (hb hby d22_30) rfl ?_
     refine og_ldc X0 hx hZ hown (ow98 hw) (hb hby d22_31) rfl ?_
     refine og_icmp_lt (pc1 := 46) (pc2 := 36) X0 hx (hb hby d22_33) (by decide) (by decide) rfl (fun hc33 => ?_) (fun hc33 => ?_)
     ·
      refine og_iconst (v := 0) X0 hx rfl (hb hby d22_46) rfl ?_
      refine og_retN X0 hx hlk hret (by simp) (hb hby d22_47) (by decide) (by decide) ?_
      have q_hc3 := own_i6 hc3 (show (9 : Int32).toInt = 9 by decide)
      have q_hc9 := own_i6 hc9 (show (10 : Int32).toInt = 10 by decide)
      have q_hc15 := own_i6 hc15 (show (13 : Int32).toInt = 13 by decide)
      have q_hc21 := own_i1 hc21 (show (32 : Int32).toInt = 32 by decide)
      have q_hc33 := own_i1 hc33 (show (57344 : Int32).toInt = 57344 by decide)
      rw [e0]; exact ⟨_, rfl, N, rfl, Or.inr ⟨rfl, by unfold own_ok; omega⟩⟩
     ·
      refine og_iloadN X0 hx rfl (hb hby d22_36) rfl ?_
      refine og_ldc X0 hx hZ hown (ow150 hw) (hb hby d22_37) rfl ?_
      refine og_icmp_gt (pc1 := 46) (pc2 := 42) X0 hx (hb hby d22_39) (by decide) (by decide) rfl (fun hc39 => ?_) (fun hc39 => ?_)
      ·
       refine og_iconst (v := 0) X0 hx rfl (hb hby d22_46) rfl ?_
       refine og_retN X0 hx hlk hret (by simp) (hb hby d22_47) (by decide) (by decide) ?_
       have q_hc3 := own_i6 hc3 (show (9 : Int32).toInt = 9 by decide)
       have q_hc9 := own_i6 hc9 (show (10 : Int32).toInt = 10 by decide)
       have q_hc15 := own_i6 hc15 (show (13 : Int32).toInt = 13 by decide)
       have q_hc21 := own_i1 hc21 (show (32 : Int32).toInt = 32 by decide)
       have q_hc33 := own_i2 hc33 (show (57344 : Int32).toInt = 57344 by decide)
       have q_hc39 := own_i3 hc39 (show (65533 : Int32).toInt = 65533 by decide)
       rw [e0]; exact ⟨_, rfl, N, rfl, Or.inr ⟨rfl, by unfold own_ok; omega⟩⟩
      ·
       refine og_iconst (v := 1) X0 hx rfl (hb hby d22_42) rfl ?_
       refine og_goto (pc' := 47) X0 hx (hb hby d22_43) (by decide) (by decide) ?_
       refine og_retN X0 hx hlk hret (by simp) (hb hby d22_47) (by decide) (by decide) ?_
       have q_hc3 := own_i6 hc3 (show (9 : Int32).toInt = 9 by decide)
       have q_hc9 := own_i6 hc9 (show (10 : Int32).toInt = 10 by decide)
       have q_hc15 := own_i6 hc15 (show (13 : Int32).toInt = 13 by decide)
       have q_hc21 := own_i1 hc21 (show (32 : Int32).toInt = 32 by decide)
       have q_hc33 := own_i2 hc33 (show (57344 : Int32).toInt = 57344 by decide)
       have q_hc39 := own_i4 hc39 (show (65533 : Int32).toInt = 65533 by decide)
       rw [e0]; exact ⟨_, rfl, N, rfl, Or.inl ⟨rfl, by unfold own_ok; omega⟩⟩
    ·
     refine og_iloadN X0 hx rfl (hb hby d22_24) rfl ?_
     refine og_ldc X0 hx hZ hown (ow99 hw) (hb hby d22_25) rfl ?_
     refine og_icmp_lt (pc1 := 42) (pc2 := 30) X0 hx (hb hby d22_27) (by decide) (by decide) rfl (fun hc27 => ?_) (fun hc27 => ?_)
     ·
      refine og_iconst (v := 1) X0 hx rfl (hb hby d22_42) rfl ?_
      refine og_goto (pc' := 47) X0 hx (hb hby d22_43) (by decide) (by decide) ?_
      refine og_retN X0 hx hlk hret (by simp) (hb hby d22_47) (by decide) (by decide) ?_
      have q_hc3 := own_i6 hc3 (show (9 : Int32).toInt = 9 by decide)
      have q_hc9 := own_i6 hc9 (show (10 : Int32).toInt = 10 by decide)
      have q_hc15 := own_i6 hc15 (show (13 : Int32).toInt = 13 by decide)
      have q_hc21 := own_i2 hc21 (show (32 : Int32).toInt = 32 by decide)
      have q_hc27 := own_i1 hc27 (show (55296 : Int32).toInt = 55296 by decide)
      rw [e0]; exact ⟨_, rfl, N, rfl, Or.inl ⟨rfl, by unfold own_ok; omega⟩⟩
     ·
      refine og_iloadN X0 hx rfl (hb hby d22_30) rfl ?_
      refine og_ldc X0 hx hZ hown (ow98 hw) (hb hby d22_31) rfl ?_
      refine og_icmp_lt (pc1 := 46) (pc2 := 36) X0 hx (hb hby d22_33) (by decide) (by decide) rfl (fun hc33 => ?_) (fun hc33 => ?_)
      ·
       refine og_iconst (v := 0) X0 hx rfl (hb hby d22_46) rfl ?_
       refine og_retN X0 hx hlk hret (by simp) (hb hby d22_47) (by decide) (by decide) ?_
       have q_hc3 := own_i6 hc3 (show (9 : Int32).toInt = 9 by decide)
       have q_hc9 := own_i6 hc9 (show (10 : Int32).toInt = 10 by decide)
       have q_hc15 := own_i6 hc15 (show (13 : Int32).toInt = 13 by decide)
       have q_hc21 := own_i2 hc21 (show (32 : Int32).toInt = 32 by decide)
       have q_hc27 := own_i2 hc27 (show (55296 : Int32).toInt = 55296 by decide)
       have q_hc33 := own_i1 hc33 (show (57344 : Int32).toInt = 57344 by decide)
       rw [e0]; exact ⟨_, rfl, N, rfl, Or.inr ⟨rfl, by unfold own_ok; omega⟩⟩
      ·
       refine og_iloadN X0 hx rfl (hb hby d22_36) rfl ?_
       refine og_ldc X0 hx hZ hown (ow150 hw) (hb hby d22_37) rfl ?_
       refine og_icmp_gt (pc1 := 46) (pc2 := 42) X0 hx (hb hby d22_39) (by decide) (by decide) rfl (fun hc39 => ?_) (fun hc39 => ?_)
       ·
        refine og_iconst (v := 0) X0 hx rfl (hb hby d22_46) rfl ?_
        refine og_retN X0 hx hlk hret (by simp) (hb hby d22_47) (by decide) (by decide) ?_
        have q_hc3 := own_i6 hc3 (show (9 : Int32).toInt = 9 by decide)
        have q_hc9 := own_i6 hc9 (show (10 : Int32).toInt = 10 by decide)
        have q_hc15 := own_i6 hc15 (show (13 : Int32).toInt = 13 by decide)
        have q_hc21 := own_i2 hc21 (show (32 : Int32).toInt = 32 by decide)
        have q_hc27 := own_i2 hc27 (show (55296 : Int32).toInt = 55296 by decide)
        have q_hc33 := own_i2 hc33 (show (57344 : Int32).toInt = 57344 by decide)
        have q_hc39 := own_i3 hc39 (show (65533 : Int32).toInt = 65533 by decide)
        rw [e0]; exact ⟨_, rfl, N, rfl, Or.inr ⟨rfl, by unfold own_ok; omega⟩⟩
       ·
        refine og_iconst (v := 1) X0 hx rfl (hb hby d22_42) rfl ?_
        refine og_goto (pc' := 47) X0 hx (hb hby d22_43) (by decide) (by decide) ?_
        refine og_retN X0 hx hlk hret (by simp) (hb hby d22_47) (by decide) (by decide) ?_
        have q_hc3 := own_i6 hc3 (show (9 : Int32).toInt = 9 by decide)
        have q_hc9 := own_i6 hc9 (show (10 : Int32).toInt = 10 by decide)
        have q_hc15 := own_i6 hc15 (show (13 : Int32).toInt = 13 by decide)
        have q_hc21 := own_i2 hc21 (show (32 : Int32).toInt = 32 by decide)
        have q_hc27 := own_i2 hc27 (show (55296 : Int32).toInt = 55296 by decide)
        have q_hc33 := own_i2 hc33 (show (57344 : Int32).toInt = 57344 by decide)
        have q_hc39 := own_i4 hc39 (show (65533 : Int32).toInt = 65533 by decide)
        rw [e0]; exact ⟨_, rfl, N, rfl, Or.inl ⟨rfl, by unfold own_ok; omega⟩⟩
theorem rm_pr1_0 (l : Launch) (Z : State) (a0 : Array Value) (hw : HW a0 Z) (sa : Addr) (ka : ClassId) (c0 c1 c2 : Int32) (hc0 : 0 ≤ c0.toInt ∧ c0.toInt ≤ 65535) (hc1 : 0 ≤ c1.toInt ∧ c1.toInt ≤ 65535) (hc2 : 0 ≤ c2.toInt ∧ c2.toInt ≤ 65535) (h0 : Heap) (n0 : Nat) (O : Old Z n0 h0) (V_sa : Arv Z h0 sa ka .char (3 : Int32) [(.int c0), (.int c1), (.int c2)] (.int 0)) :
  Con l Z (⟨"com/example/neith/neith/io/XmlOutputForbiddenCharacterPinLaw", "pair", "([CII)Z"⟩ : MethodName) method_4_code 3 (some .boolean) ({ frames := 0, cells := 0, slots := 0, locals := 0 } : Room) #[(.ref sa), (.int 1), (.int 0)] h0 (fun v h L => ∃ r : Int32, v = some (.int r) ∧ Fr n0 L ∧ h = h0 ∧ ((r = 1 ∧ False) ∨ (r = 0 ∧ ¬ False))) := by
 refine own_startC opn_21 ?_
 intro p e s m below meth c T0 X0 hx hby hml hZ hown hnm hret hlk e0
 have N := Fr.nil n0; have K := Keep.refl h0 []
 refine OG.cast (oef0 m sa (1 : Int32) (0 : Int32)) ?_
 refine og_iloadN X0 hx rfl (hb hby d21_0) rfl ?_
 refine og_iconst (v := 1) X0 hx rfl (hb hby d21_1) rfl ?_
 refine og_iadd X0 hx (hb hby d21_2) rfl ?_
 show OG p e below _ (T0.setTop (mkF m 3 #[.val (.ref sa), .val (.int 1), .val (.int 0)] [(.int 1)]))
 refine og_iloadN X0 hx rfl (hb hby d21_3) rfl ?_
 refine og_icmp_ge (pc1 := 47) (pc2 := 7) X0 hx (hb hby d21_4) (by decide) (by decide) rfl (fun _ => ?_) (fun q => absurd q (by decide))
 refine og_iconst (v := 0) X0 hx rfl (hb hby d21_47) rfl ?_
 refine og_retN X0 hx hlk hret (by simp) (hb hby d21_48) (by decide) (by decide) ?_
 rw [e0]; exact ⟨_, rfl, N, rfl, Or.inr ⟨rfl, fun q => q⟩⟩
theorem rm_bd1_0 (l : Launch) (Z : State) (a0 : Array Value) (hw : HW a0 Z) (sa : Addr) (ka : ClassId) (c0 c1 c2 : Int32) (hc0 : 0 ≤ c0.toInt ∧ c0.toInt ≤ 65535) (hc1 : 0 ≤ c1.toInt ∧ c1.toInt ≤ 65535) (hc2 : 0 ≤ c2.toInt ∧ c2.toInt ≤ 65535) (h0 : Heap) (n0 : Nat) (O : Old Z n0 h0) (V_sa : Arv Z h0 sa ka .char (3 : Int32) [(.int c0), (.int c1), (.int c2)] (.int 0)) :
  Con l Z (⟨"com/example/neith/neith/io/XmlOutputForbiddenCharacterPinLaw", "bad", "([CII)I"⟩ : MethodName) method_5_code 3 (some .int) ({ frames := 1, cells := 0, slots := 0, locals := 14 } : Room) #[(.ref sa), (.int 1), (.int 0)] h0 (fun v h L => ∃ r : Int32, v = some (.int r) ∧ Fr n0 L ∧ h = h0 ∧ ((False ∧ r = -1) ∨ (¬ False ∧ own_ok c0 ∧ r = -1) ∨ (¬ False ∧ ¬ own_ok c0 ∧ r = c0))) := by
 refine own_startC opn_20 ?_
 intro p e s m below meth c T0 X0 hx hby hml hZ hown hnm hret hlk e0
 have N := Fr.nil n0; have K := Keep.refl h0 []
 refine OG.cast (oef0 m sa (1 : Int32) (0 : Int32)) ?_
 refine og_aloadN X0 hx rfl rfl (hb hby d20_0) rfl ?_
 refine og_iloadN X0 hx rfl (hb hby d20_1) rfl ?_
 refine og_iloadN X0 hx rfl (hb hby d20_2) rfl ?_
 refine og_static (pc' := 6) (cells' := 0) (slots' := 0) (W := 0) X0 hx hZ (rm_pr1_0 l Z a0 hw sa ka c0 c1 c2 hc0 hc1 hc2 h0 n0 O V_sa) hown (ow92 hw) (ow93 hw) (ow3 hw) (ow94 hw) (by decide) (by rw [hml]; rfl) e0 opd_21 [(.ref sa), (.int 1), (.int 0)] [] rfl rfl rfl rfl (by decide) (by decide) rfl rfl (by decide) (by decide) (hb hby d20_3) rfl (fun v11 T11 h11 L11 X11 e11 z11 => ?_)
 obtain ⟨rb11, rfl, Nq11, hq11, hb11⟩ := z11; replace e11 := e11.trans hq11; have N := Fr.app N Nq11
 refine og_if_eq (pc1 := 11) (pc2 := 9) X11 hx (hb hby d20_6) (by decide) (by decide) rfl (fun hc6 => ?_) (fun hc6 => ?_)
 ·
  have hp := own_b0 hb11 hc6
  refine og_aloadN X11 hx rfl rfl (hb hby d20_11) rfl ?_
  refine og_iloadN X11 hx rfl (hb hby d20_12) rfl ?_
  refine og_caload (v := (.int c0)) X11 hx hZ e11 V_sa ⟨by decide, by decide⟩ rfl (hb hby d20_13) rfl ?_
  refine og_static (pc' := 17) (cells' := 0) (slots' := 0) (W := 0) X11 hx hZ (rm_okb l Z a0 hw c0 h0 n0 O) hown (ow95 hw) (ow96 hw) (ow3 hw) (ow97 hw) (by decide) (by rw [hml]; rfl) e11 opd_14 [(.int c0)] [] rfl rfl rfl rfl (by decide) (by decide) rfl rfl (by decide) (by decide) (hb hby d20_14) rfl (fun v12 T12 h12 L12 X12 e12 z12 => ?_)
  obtain ⟨rb12, rfl, Nq12, hq12, hb12⟩ := z12; replace e12 := e12.trans hq12; have N := Fr.app N Nq12
  refine og_if_eq (pc1 := 24) (pc2 := 20) X12 hx (hb hby d20_17) (by decide) (by decide) rfl (fun hc17 => ?_) (fun hc17 => ?_)
  ·
   have ho := own_b0 hb12 hc17
   refine og_aloadN X12 hx rfl rfl (hb hby d20_24) rfl ?_
   refine og_iloadN X12 hx rfl (hb hby d20_25) rfl ?_
   refine og_caload (v := (.int c0)) X12 hx hZ e12 V_sa ⟨by decide, by decide⟩ rfl (hb hby d20_26) rfl ?_
   refine og_retI X12 hx hlk hret (hb hby d20_27) (by decide) (by decide) ?_
   rw [e12]; exact ⟨_, rfl, N, rfl, Or.inr (Or.inr ⟨hp, ho, rfl⟩)⟩
  ·
   have ho := own_b1 hb12 hc17
   refine og_iconst (v := -1) X12 hx rfl (hb hby d20_20) rfl ?_
   refine og_goto (pc' := 27) X12 hx (hb hby d20_21) (by decide) (by decide) ?_
   refine og_retI X12 hx hlk hret (hb hby d20_27) (by decide) (by decide) ?_
   rw [e12]; exact ⟨_, rfl, N, rfl, Or.inr (Or.inl ⟨hp, ho, rfl⟩)⟩
 ·
  have hp := own_b1 hb11 hc6
  refine og_iconst (v := -1) X11 hx rfl (hb hby d20_9) rfl ?_
  refine og_retI X11 hx hlk hret (hb hby d20_10) (by decide) (by decide) ?_
  rw [e11]; exact ⟨_, rfl, N, rfl, Or.inl ⟨hp, rfl⟩⟩
theorem rm_nx1_0 (l : Launch) (Z : State) (a0 : Array Value) (hw : HW a0 Z) (sa : Addr) (ka : ClassId) (c0 c1 c2 : Int32) (hc0 : 0 ≤ c0.toInt ∧ c0.toInt ≤ 65535) (hc1 : 0 ≤ c1.toInt ∧ c1.toInt ≤ 65535) (hc2 : 0 ≤ c2.toInt ∧ c2.toInt ≤ 65535) (h0 : Heap) (n0 : Nat) (O : Old Z n0 h0) (V_sa : Arv Z h0 sa ka .char (3 : Int32) [(.int c0), (.int c1), (.int c2)] (.int 0)) :
  Con l Z (⟨"com/example/neith/neith/io/XmlOutputForbiddenCharacterPinLaw", "next", "([CII)I"⟩ : MethodName) method_6_code 3 (some .int) ({ frames := 1, cells := 0, slots := 0, locals := 14 } : Room) #[(.ref sa), (.int 1), (.int 0)] h0 (fun v h L => ∃ r : Int32, v = some (.int r) ∧ Fr n0 L ∧ h = h0 ∧ ((False ∧ r = 2) ∨ (¬ False ∧ r = 1))) := by
 refine own_startC opn_23 ?_
 intro p e s m below meth c T0 X0 hx hby hml hZ hown hnm hret hlk e0
 have N := Fr.nil n0; have K := Keep.refl h0 []
 refine OG.cast (oef0 m sa (1 : Int32) (0 : Int32)) ?_
 refine og_aloadN X0 hx rfl rfl (hb hby d23_0) rfl ?_
 refine og_iloadN X0 hx rfl (hb hby d23_1) rfl ?_
 refine og_iloadN X0 hx rfl (hb hby d23_2) rfl ?_
 refine og_static (pc' := 6) (cells' := 0) (slots' := 0) (W := 0) X0 hx hZ (rm_pr1_0 l Z a0 hw sa ka c0 c1 c2 hc0 hc1 hc2 h0 n0 O V_sa) hown (ow92 hw) (ow93 hw) (ow3 hw) (ow94 hw) (by decide) (by rw [hml]; rfl) e0 opd_21 [(.ref sa), (.int 1), (.int 0)] [] rfl rfl rfl rfl (by decide) (by decide) rfl rfl (by decide) (by decide) (hb hby d23_3) rfl (fun v11 T11 h11 L11 X11 e11 z11 => ?_)
 obtain ⟨rb11, rfl, Nq11, hq11, hb11⟩ := z11; replace e11 := e11.trans hq11; have N := Fr.app N Nq11
 refine og_if_eq (pc1 := 15) (pc2 := 9) X11 hx (hb hby d23_6) (by decide) (by decide) rfl (fun hc6 => ?_) (fun hc6 => ?_)
 ·
  have hp := own_b0 hb11 hc6
  refine og_iloadN X11 hx rfl (hb hby d23_15) rfl ?_
  refine og_iconst (v := 1) X11 hx rfl (hb hby d23_16) rfl ?_
  refine og_iadd X11 hx (hb hby d23_17) rfl ?_
  show OG p e below _ (T11.setTop (mkF m 18 #[.val (.ref sa), .val (.int 1), .val (.int 0)] [(.int 1)]))
  refine og_retI X11 hx hlk hret (hb hby d23_18) (by decide) (by decide) ?_
  rw [e11]; exact ⟨_, rfl, N, rfl, Or.inr ⟨hp, rfl⟩⟩
 ·
  have hp := own_b1 hb11 hc6
  refine og_iloadN X11 hx rfl (hb hby d23_9) rfl ?_
  refine og_iconst (v := 2) X11 hx rfl (hb hby d23_10) rfl ?_
  refine og_iadd X11 hx (hb hby d23_11) rfl ?_
  show OG p e below _ (T11.setTop (mkF m 12 #[.val (.ref sa), .val (.int 1), .val (.int 0)] [(.int 2)]))
  refine og_goto (pc' := 18) X11 hx (hb hby d23_12) (by decide) (by decide) ?_
  refine og_retI X11 hx hlk hret (hb hby d23_18) (by decide) (by decide) ?_
  rw [e11]; exact ⟨_, rfl, N, rfl, Or.inl ⟨hp, rfl⟩⟩
theorem rm_ref1 (l : Launch) (Z : State) (a0 : Array Value) (hw : HW a0 Z) (sa : Addr) (ka : ClassId) (c0 c1 c2 : Int32) (hc0 : 0 ≤ c0.toInt ∧ c0.toInt ≤ 65535) (hc1 : 0 ≤ c1.toInt ∧ c1.toInt ≤ 65535) (hc2 : 0 ≤ c2.toInt ∧ c2.toInt ≤ 65535) (r : Int32) (hr : own_fc [c0] = r) (h0 : Heap) (n0 : Nat) (O : Old Z n0 h0) (V_sa : Arv Z h0 sa ka .char (3 : Int32) [(.int c0), (.int c1), (.int c2)] (.int 0)) :
  Con l Z (⟨"com/example/neith/neith/io/XmlOutputForbiddenCharacterPinLaw", "ref", "([CI)I"⟩ : MethodName) method_7_code 4 (some .int) ({ frames := 2, cells := 0, slots := 0, locals := 28 } : Room) #[(.ref sa), (.int 1)] h0 (fun v h L => v = some (.int r) ∧ Fr n0 L ∧ h = h0) := by
 refine own_startC opn_19 ?_
 intro p e s m below meth c T0 X0 hx hby hml hZ hown hnm hret hlk e0
 have N := Fr.nil n0; have K := Keep.refl h0 []
 refine OG.cast (oef16 m sa (1 : Int32)) ?_
 refine og_iconst (v := 0) X0 hx rfl (hb hby d19_0) rfl ?_
 refine og_istoreN (L' := #[.val (.ref sa), .val (.int 1), .val (.int 0), .unset]) X0 hx rfl (hb hby d19_1) rfl ?_
 refine og_iloadN X0 hx rfl (hb hby d19_2) rfl ?_
 refine og_iloadN X0 hx rfl (hb hby d19_3) rfl ?_
 refine og_icmp_ge (pc1 := 27) (pc2 := 7) X0 hx (hb hby d19_4) (by decide) (by decide) rfl (fun q => absurd q (by decide)) (fun _ => ?_)
 refine og_aloadN X0 hx rfl rfl (hb hby d19_7) rfl ?_
 refine og_iloadN X0 hx rfl (hb hby d19_8) rfl ?_
 refine og_iloadN X0 hx rfl (hb hby d19_9) rfl ?_
 refine og_static (pc' := 13) (cells' := 0) (slots' := 0) (W := 0) X0 hx hZ (rm_bd1_0 l Z a0 hw sa ka c0 c1 c2 hc0 hc1 hc2 h0 n0 O V_sa) hown (ow89 hw) (ow90 hw) (ow3 hw) (ow91 hw) (by decide) (by rw [hml]; rfl) e0 opd_22 [(.ref sa), (.int 1), (.int 0)] [] rfl rfl rfl rfl (by decide) (by decide) rfl rfl (by decide) (by decide) (hb hby d19_10) rfl (fun v11 T11 h11 L11 X11 e11 z11 => ?_)
 obtain ⟨rbd, rfl, Nq11, hq11, hbd⟩ := z11; replace e11 := e11.trans hq11; have N := Fr.app N Nq11
 rcases hbd with ⟨hp0, hbd⟩ | ⟨hp0, ho0, hbd⟩ | ⟨hp0, ho0, hbd⟩
 ·
  exact hp0.elim
 ·
  subst rbd
  refine og_istoreN (L' := #[.val (.ref sa), .val (.int 1), .val (.int 0), .val (.int (-1))]) X11 hx rfl (hb hby d19_13) rfl ?_
  refine og_iloadN X11 hx rfl (hb hby d19_14) rfl ?_
  refine og_if_lt (pc1 := 20) (pc2 := 18) X11 hx (hb hby d19_15) (by decide) (by decide) rfl (fun _ => ?_) (fun q => absurd q (by decide))
  refine og_aloadN X11 hx rfl rfl (hb hby d19_20) rfl ?_
  refine og_iloadN X11 hx rfl (hb hby d19_21) rfl ?_
  refine og_iloadN X11 hx rfl (hb hby d19_22) rfl ?_
  refine og_static (pc' := 26) (cells' := 0) (slots' := 0) (W := 0) X11 hx hZ (rm_nx1_0 l Z a0 hw sa ka c0 c1 c2 hc0 hc1 hc2 h0 n0 O V_sa) hown (ow101 hw) (ow102 hw) (ow3 hw) (ow103 hw) (by decide) (by rw [hml]; rfl) e11 opd_22 [(.ref sa), (.int 1), (.int 0)] [] rfl rfl rfl rfl (by decide) (by decide) rfl rfl (by decide) (by decide) (hb hby d19_23) rfl (fun v12 T12 h12 L12 X12 e12 z12 => ?_)
  obtain ⟨rnx, rfl, Nq12, hq12, hnx⟩ := z12; replace e12 := e12.trans hq12; have N := Fr.app N Nq12
  have hrn : rnx = 1 := own_p0 hnx hp0
  subst hrn
  refine og_istoreN (L' := #[.val (.ref sa), .val (.int 1), .val (.int 1), .val (.int (-1))]) X12 hx rfl (hb hby d19_26) rfl ?_
  refine og_iloadN X12 hx rfl (hb hby d19_27) rfl ?_
  refine og_iloadN X12 hx rfl (hb hby d19_28) rfl ?_
  refine og_icmp_ge (pc1 := 52) (pc2 := 32) X12 hx (hb hby d19_29) (by decide) (by decide) rfl (fun _ => ?_) (fun q => absurd q (by decide))
  refine og_iloadN X12 hx rfl (hb hby d19_52) rfl ?_
  refine og_iloadN X12 hx rfl (hb hby d19_53) rfl ?_
  refine og_icmp_ge (pc1 := 70) (pc2 := 57) X12 hx (hb hby d19_54) (by decide) (by decide) rfl (fun _ => ?_) (fun q => absurd q (by decide))
  refine og_iconst (v := -1) X12 hx rfl (hb hby d19_70) rfl ?_
  refine og_retI X12 hx hlk hret (hb hby d19_71) (by decide) (by decide) ?_
  rw [e12]; exact ⟨by rw [← hr, own_fok1 ho0]; rfl, N, rfl⟩
 ·
  subst rbd
  refine og_istoreN (L' := #[.val (.ref sa), .val (.int 1), .val (.int 0), .val (.int c0)]) X11 hx rfl (hb hby d19_13) rfl ?_
  refine og_iloadN X11 hx rfl (hb hby d19_14) rfl ?_
  refine og_if_lt (pc1 := 20) (pc2 := 18) X11 hx (hb hby d19_15) (by decide) (by decide) rfl (fun q => absurd q (own_nn hc0)) (fun _ => ?_)
  refine og_iloadN X11 hx rfl (hb hby d19_18) rfl ?_
  refine og_retI X11 hx hlk hret (hb hby d19_19) (by decide) (by decide) ?_
  rw [e11]; exact ⟨by rw [← hr, own_fbad1 ho0], N, rfl⟩
theorem rm_pr2_0 (l : Launch) (Z : State) (a0 : Array Value) (hw : HW a0 Z) (sa : Addr) (ka : ClassId) (c0 c1 c2 : Int32) (hc0 : 0 ≤ c0.toInt ∧ c0.toInt ≤ 65535) (hc1 : 0 ≤ c1.toInt ∧ c1.toInt ≤ 65535) (hc2 : 0 ≤ c2.toInt ∧ c2.toInt ≤ 65535) (h0 : Heap) (n0 : Nat) (O : Old Z n0 h0) (V_sa : Arv Z h0 sa ka .char (3 : Int32) [(.int c0), (.int c1), (.int c2)] (.int 0)) :
  Con l Z (⟨"com/example/neith/neith/io/XmlOutputForbiddenCharacterPinLaw", "pair", "([CII)Z"⟩ : MethodName) method_4_code 3 (some .boolean) ({ frames := 0, cells := 0, slots := 0, locals := 0 } : Room) #[(.ref sa), (.int 2), (.int 0)] h0 (fun v h L => ∃ r : Int32, v = some (.int r) ∧ Fr n0 L ∧ h = h0 ∧ ((r = 1 ∧ (own_H c0 ∧ own_L c1)) ∨ (r = 0 ∧ ¬ (own_H c0 ∧ own_L c1)))) := by
 refine own_startC opn_21 ?_
 intro p e s m below meth c T0 X0 hx hby hml hZ hown hnm hret hlk e0
 have N := Fr.nil n0; have K := Keep.refl h0 []
 refine OG.cast (oef0 m sa (2 : Int32) (0 : Int32)) ?_
 refine og_iloadN X0 hx rfl (hb hby d21_0) rfl ?_
 refine og_iconst (v := 1) X0 hx rfl (hb hby d21_1) rfl ?_
 refine og_iadd X0 hx (hb hby d21_2) rfl ?_
 show OG p e below _ (T0.setTop (mkF m 3 #[.val (.ref sa), .val (.int 2), .val (.int 0)] [(.int 1)]))
 refine og_iloadN X0 hx rfl (hb hby d21_3) rfl ?_
 refine og_icmp_ge (pc1 := 47) (pc2 := 7) X0 hx (hb hby d21_4) (by decide) (by decide) rfl (fun q => absurd q (by decide)) (fun _ => ?_)
 refine og_aloadN X0 hx rfl rfl (hb hby d21_7) rfl ?_
 refine og_iloadN X0 hx rfl (hb hby d21_8) rfl ?_
 refine og_caload (v := (.int c0)) X0 hx hZ e0 V_sa ⟨by decide, by decide⟩ rfl (hb hby d21_9) rfl ?_
 refine og_ldc X0 hx hZ hown (ow99 hw) (hb hby d21_10) rfl ?_
 refine og_icmp_lt (pc1 := 47) (pc2 := 15) X0 hx (hb hby d21_12) (by decide) (by decide) rfl (fun hc12 => ?_) (fun hc12 => ?_)
 ·
  refine og_iconst (v := 0) X0 hx rfl (hb hby d21_47) rfl ?_
  refine og_retN X0 hx hlk hret (by simp) (hb hby d21_48) (by decide) (by decide) ?_
  have q_hc12 := own_i1 hc12 (show (55296 : Int32).toInt = 55296 by decide)
  rw [e0]; exact ⟨_, rfl, N, rfl, Or.inr ⟨rfl, by rintro ⟨⟨a1, a2⟩, b1, b2⟩; omega⟩⟩
 ·
  refine og_aloadN X0 hx rfl rfl (hb hby d21_15) rfl ?_
  refine og_iloadN X0 hx rfl (hb hby d21_16) rfl ?_
  refine og_caload (v := (.int c0)) X0 hx hZ e0 V_sa ⟨by decide, by decide⟩ rfl (hb hby d21_17) rfl ?_
  refine og_ldc X0 hx hZ hown (ow151 hw) (hb hby d21_18) rfl ?_
  refine og_icmp_gt (pc1 := 47) (pc2 := 23) X0 hx (hb hby d21_20) (by decide) (by decide) rfl (fun hc20 => ?_) (fun hc20 => ?_)
  ·
   refine og_iconst (v := 0) X0 hx rfl (hb hby d21_47) rfl ?_
   refine og_retN X0 hx hlk hret (by simp) (hb hby d21_48) (by decide) (by decide) ?_
   have q_hc12 := own_i2 hc12 (show (55296 : Int32).toInt = 55296 by decide)
   have q_hc20 := own_i3 hc20 (show (56319 : Int32).toInt = 56319 by decide)
   rw [e0]; exact ⟨_, rfl, N, rfl, Or.inr ⟨rfl, by rintro ⟨⟨a1, a2⟩, b1, b2⟩; omega⟩⟩
  ·
   refine og_aloadN X0 hx rfl rfl (hb hby d21_23) rfl ?_
   refine og_iloadN X0 hx rfl (hb hby d21_24) rfl ?_
   refine og_iconst (v := 1) X0 hx rfl (hb hby d21_25) rfl ?_
   refine og_iadd X0 hx (hb hby d21_26) rfl ?_
   show OG p e below _ (T0.setTop (mkF m 27 #[.val (.ref sa), .val (.int 2), .val (.int 0)] [(.int 1), (.ref sa)]))
   refine og_caload (v := (.int c1)) X0 hx hZ e0 V_sa ⟨by decide, by decide⟩ rfl (hb hby d21_27) rfl ?_
   refine og_ldc X0 hx hZ hown (ow155 hw) (hb hby d21_28) rfl ?_
   refine og_icmp_lt (pc1 := 47) (pc2 := 33) X0 hx (hb hby d21_30) (by decide) (by decide) rfl (fun hc30 => ?_) (fun hc30 => ?_)
   ·
    refine og_iconst (v := 0) X0 hx rfl (hb hby d21_47) rfl ?_
    refine og_retN X0 hx hlk hret (by simp) (hb hby d21_48) (by decide) (by decide) ?_
    have q_hc12 := own_i2 hc12 (show (55296 : Int32).toInt = 55296 by decide)
    have q_hc20 := own_i4 hc20 (show (56319 : Int32).toInt = 56319 by decide)
    have q_hc30 := own_i1 hc30 (show (56320 : Int32).toInt = 56320 by decide)
    rw [e0]; exact ⟨_, rfl, N, rfl, Or.inr ⟨rfl, by rintro ⟨⟨a1, a2⟩, b1, b2⟩; omega⟩⟩
   ·
    refine og_aloadN X0 hx rfl rfl (hb hby d21_33) rfl ?_
    refine og_iloadN X0 hx rfl (hb hby d21_34) rfl ?_
    refine og_iconst (v := 1) X0 hx rfl (hb hby d21_35) rfl ?_
    refine og_iadd X0 hx (hb hby d21_36) rfl ?_
    show OG p e below _ (T0.setTop (mkF m 37 #[.val (.ref sa), .val (.int 2), .val (.int 0)] [(.int 1), (.ref sa)]))
    refine og_caload (v := (.int c1)) X0 hx hZ e0 V_sa ⟨by decide, by decide⟩ rfl (hb hby d21_37) rfl ?_
    refine og_ldc X0 hx hZ hown (ow162 hw) (hb hby d21_38) rfl ?_
    refine og_icmp_gt (pc1 := 47) (pc2 := 43) X0 hx (hb hby d21_40) (by decide) (by decide) rfl (fun hc40 => ?_) (fun hc40 => ?_)
    ·
     refine og_iconst (v := 0) X0 hx rfl (hb hby d21_47) rfl ?_
     refine og_retN X0 hx hlk hret (by simp) (hb hby d21_48) (by decide) (by decide) ?_
     have q_hc12 := own_i2 hc12 (show (55296 : Int32).toInt = 55296 by decide)
     have q_hc20 := own_i4 hc20 (show (56319 : Int32).toInt = 56319 by decide)
     have q_hc30 := own_i2 hc30 (show (56320 : Int32).toInt = 56320 by decide)
     have q_hc40 := own_i3 hc40 (show (57343 : Int32).toInt = 57343 by decide)
     rw [e0]; exact ⟨_, rfl, N, rfl, Or.inr ⟨rfl, by rintro ⟨⟨a1, a2⟩, b1, b2⟩; omega⟩⟩
    ·
     refine og_iconst (v := 1) X0 hx rfl (hb hby d21_43) rfl ?_
     refine og_goto (pc' := 48) X0 hx (hb hby d21_44) (by decide) (by decide) ?_
     refine og_retN X0 hx hlk hret (by simp) (hb hby d21_48) (by decide) (by decide) ?_
     have q_hc12 := own_i2 hc12 (show (55296 : Int32).toInt = 55296 by decide)
     have q_hc20 := own_i4 hc20 (show (56319 : Int32).toInt = 56319 by decide)
     have q_hc30 := own_i2 hc30 (show (56320 : Int32).toInt = 56320 by decide)
     have q_hc40 := own_i4 hc40 (show (57343 : Int32).toInt = 57343 by decide)
     rw [e0]; exact ⟨_, rfl, N, rfl, Or.inl ⟨rfl, ⟨by omega, by omega⟩, by omega, by omega⟩⟩
theorem rm_bd2_0 (l : Launch) (Z : State) (a0 : Array Value) (hw : HW a0 Z) (sa : Addr) (ka : ClassId) (c0 c1 c2 : Int32) (hc0 : 0 ≤ c0.toInt ∧ c0.toInt ≤ 65535) (hc1 : 0 ≤ c1.toInt ∧ c1.toInt ≤ 65535) (hc2 : 0 ≤ c2.toInt ∧ c2.toInt ≤ 65535) (h0 : Heap) (n0 : Nat) (O : Old Z n0 h0) (V_sa : Arv Z h0 sa ka .char (3 : Int32) [(.int c0), (.int c1), (.int c2)] (.int 0)) :
  Con l Z (⟨"com/example/neith/neith/io/XmlOutputForbiddenCharacterPinLaw", "bad", "([CII)I"⟩ : MethodName) method_5_code 3 (some .int) ({ frames := 1, cells := 0, slots := 0, locals := 14 } : Room) #[(.ref sa), (.int 2), (.int 0)] h0 (fun v h L => ∃ r : Int32, v = some (.int r) ∧ Fr n0 L ∧ h = h0 ∧ (((own_H c0 ∧ own_L c1) ∧ r = -1) ∨ (¬ (own_H c0 ∧ own_L c1) ∧ own_ok c0 ∧ r = -1) ∨ (¬ (own_H c0 ∧ own_L c1) ∧ ¬ own_ok c0 ∧ r = c0))) := by
 refine own_startC opn_20 ?_
 intro p e s m below meth c T0 X0 hx hby hml hZ hown hnm hret hlk e0
 have N := Fr.nil n0; have K := Keep.refl h0 []
 refine OG.cast (oef0 m sa (2 : Int32) (0 : Int32)) ?_
 refine og_aloadN X0 hx rfl rfl (hb hby d20_0) rfl ?_
 refine og_iloadN X0 hx rfl (hb hby d20_1) rfl ?_
 refine og_iloadN X0 hx rfl (hb hby d20_2) rfl ?_
 refine og_static (pc' := 6) (cells' := 0) (slots' := 0) (W := 0) X0 hx hZ (rm_pr2_0 l Z a0 hw sa ka c0 c1 c2 hc0 hc1 hc2 h0 n0 O V_sa) hown (ow92 hw) (ow93 hw) (ow3 hw) (ow94 hw) (by decide) (by rw [hml]; rfl) e0 opd_21 [(.ref sa), (.int 2), (.int 0)] [] rfl rfl rfl rfl (by decide) (by decide) rfl rfl (by decide) (by decide) (hb hby d20_3) rfl (fun v11 T11 h11 L11 X11 e11 z11 => ?_)
 obtain ⟨rb11, rfl, Nq11, hq11, hb11⟩ := z11; replace e11 := e11.trans hq11; have N := Fr.app N Nq11
 refine og_if_eq (pc1 := 11) (pc2 := 9) X11 hx (hb hby d20_6) (by decide) (by decide) rfl (fun hc6 => ?_) (fun hc6 => ?_)
 ·
  have hp := own_b0 hb11 hc6
  refine og_aloadN X11 hx rfl rfl (hb hby d20_11) rfl ?_
  refine og_iloadN X11 hx rfl (hb hby d20_12) rfl ?_
  refine og_caload (v := (.int c0)) X11 hx hZ e11 V_sa ⟨by decide, by decide⟩ rfl (hb hby d20_13) rfl ?_
  refine og_static (pc' := 17) (cells' := 0) (slots' := 0) (W := 0) X11 hx hZ (rm_okb l Z a0 hw c0 h0 n0 O) hown (ow95 hw) (ow96 hw) (ow3 hw) (ow97 hw) (by decide) (by rw [hml]; rfl) e11 opd_14 [(.int c0)] [] rfl rfl rfl rfl (by decide) (by decide) rfl rfl (by decide) (by decide) (hb hby d20_14) rfl (fun v12 T12 h12 L12 X12 e12 z12 => ?_)
  obtain ⟨rb12, rfl, Nq12, hq12, hb12⟩ := z12; replace e12 := e12.trans hq12; have N := Fr.app N Nq12
  refine og_if_eq (pc1 := 24) (pc2 := 20) X12 hx (hb hby d20_17) (by decide) (by decide) rfl (fun hc17 => ?_) (fun hc17 => ?_)
  ·
   have ho := own_b0 hb12 hc17
   refine og_aloadN X12 hx rfl rfl (hb hby d20_24) rfl ?_
   refine og_iloadN X12 hx rfl (hb hby d20_25) rfl ?_
   refine og_caload (v := (.int c0)) X12 hx hZ e12 V_sa ⟨by decide, by decide⟩ rfl (hb hby d20_26) rfl ?_
   refine og_retI X12 hx hlk hret (hb hby d20_27) (by decide) (by decide) ?_
   rw [e12]; exact ⟨_, rfl, N, rfl, Or.inr (Or.inr ⟨hp, ho, rfl⟩)⟩
  ·
   have ho := own_b1 hb12 hc17
   refine og_iconst (v := -1) X12 hx rfl (hb hby d20_20) rfl ?_
   refine og_goto (pc' := 27) X12 hx (hb hby d20_21) (by decide) (by decide) ?_
   refine og_retI X12 hx hlk hret (hb hby d20_27) (by decide) (by decide) ?_
   rw [e12]; exact ⟨_, rfl, N, rfl, Or.inr (Or.inl ⟨hp, ho, rfl⟩)⟩
 ·
  have hp := own_b1 hb11 hc6
  refine og_iconst (v := -1) X11 hx rfl (hb hby d20_9) rfl ?_
  refine og_retI X11 hx hlk hret (hb hby d20_10) (by decide) (by decide) ?_
  rw [e11]; exact ⟨_, rfl, N, rfl, Or.inl ⟨hp, rfl⟩⟩
theorem rm_nx2_0 (l : Launch) (Z : State) (a0 : Array Value) (hw : HW a0 Z) (sa : Addr) (ka : ClassId) (c0 c1 c2 : Int32) (hc0 : 0 ≤ c0.toInt ∧ c0.toInt ≤ 65535) (hc1 : 0 ≤ c1.toInt ∧ c1.toInt ≤ 65535) (hc2 : 0 ≤ c2.toInt ∧ c2.toInt ≤ 65535) (h0 : Heap) (n0 : Nat) (O : Old Z n0 h0) (V_sa : Arv Z h0 sa ka .char (3 : Int32) [(.int c0), (.int c1), (.int c2)] (.int 0)) :
  Con l Z (⟨"com/example/neith/neith/io/XmlOutputForbiddenCharacterPinLaw", "next", "([CII)I"⟩ : MethodName) method_6_code 3 (some .int) ({ frames := 1, cells := 0, slots := 0, locals := 14 } : Room) #[(.ref sa), (.int 2), (.int 0)] h0 (fun v h L => ∃ r : Int32, v = some (.int r) ∧ Fr n0 L ∧ h = h0 ∧ (((own_H c0 ∧ own_L c1) ∧ r = 2) ∨ (¬ (own_H c0 ∧ own_L c1) ∧ r = 1))) := by
 refine own_startC opn_23 ?_
 intro p e s m below meth c T0 X0 hx hby hml hZ hown hnm hret hlk e0
 have N := Fr.nil n0; have K := Keep.refl h0 []
 refine OG.cast (oef0 m sa (2 : Int32) (0 : Int32)) ?_
 refine og_aloadN X0 hx rfl rfl (hb hby d23_0) rfl ?_
 refine og_iloadN X0 hx rfl (hb hby d23_1) rfl ?_
 refine og_iloadN X0 hx rfl (hb hby d23_2) rfl ?_
 refine og_static (pc' := 6) (cells' := 0) (slots' := 0) (W := 0) X0 hx hZ (rm_pr2_0 l Z a0 hw sa ka c0 c1 c2 hc0 hc1 hc2 h0 n0 O V_sa) hown (ow92 hw) (ow93 hw) (ow3 hw) (ow94 hw) (by decide) (by rw [hml]; rfl) e0 opd_21 [(.ref sa), (.int 2), (.int 0)] [] rfl rfl rfl rfl (by decide) (by decide) rfl rfl (by decide) (by decide) (hb hby d23_3) rfl (fun v11 T11 h11 L11 X11 e11 z11 => ?_)
 obtain ⟨rb11, rfl, Nq11, hq11, hb11⟩ := z11; replace e11 := e11.trans hq11; have N := Fr.app N Nq11
 refine og_if_eq (pc1 := 15) (pc2 := 9) X11 hx (hb hby d23_6) (by decide) (by decide) rfl (fun hc6 => ?_) (fun hc6 => ?_)
 ·
  have hp := own_b0 hb11 hc6
  refine og_iloadN X11 hx rfl (hb hby d23_15) rfl ?_
  refine og_iconst (v := 1) X11 hx rfl (hb hby d23_16) rfl ?_
  refine og_iadd X11 hx (hb hby d23_17) rfl ?_
  show OG p e below _ (T11.setTop (mkF m 18 #[.val (.ref sa), .val (.int 2), .val (.int 0)] [(.int 1)]))
  refine og_retI X11 hx hlk hret (hb hby d23_18) (by decide) (by decide) ?_
  rw [e11]; exact ⟨_, rfl, N, rfl, Or.inr ⟨hp, rfl⟩⟩
 ·
  have hp := own_b1 hb11 hc6
  refine og_iloadN X11 hx rfl (hb hby d23_9) rfl ?_
  refine og_iconst (v := 2) X11 hx rfl (hb hby d23_10) rfl ?_
  refine og_iadd X11 hx (hb hby d23_11) rfl ?_
  show OG p e below _ (T11.setTop (mkF m 12 #[.val (.ref sa), .val (.int 2), .val (.int 0)] [(.int 2)]))
  refine og_goto (pc' := 18) X11 hx (hb hby d23_12) (by decide) (by decide) ?_
  refine og_retI X11 hx hlk hret (hb hby d23_18) (by decide) (by decide) ?_
  rw [e11]; exact ⟨_, rfl, N, rfl, Or.inl ⟨hp, rfl⟩⟩
theorem rm_pr2_1 (l : Launch) (Z : State) (a0 : Array Value) (hw : HW a0 Z) (sa : Addr) (ka : ClassId) (c0 c1 c2 : Int32) (hc0 : 0 ≤ c0.toInt ∧ c0.toInt ≤ 65535) (hc1 : 0 ≤ c1.toInt ∧ c1.toInt ≤ 65535) (hc2 : 0 ≤ c2.toInt ∧ c2.toInt ≤ 65535) (h0 : Heap) (n0 : Nat) (O : Old Z n0 h0) (V_sa : Arv Z h0 sa ka .char (3 : Int32) [(.int c0), (.int c1), (.int c2)] (.int 0)) :
  Con l Z (⟨"com/example/neith/neith/io/XmlOutputForbiddenCharacterPinLaw", "pair", "([CII)Z"⟩ : MethodName) method_4_code 3 (some .boolean) ({ frames := 0, cells := 0, slots := 0, locals := 0 } : Room) #[(.ref sa), (.int 2), (.int 1)] h0 (fun v h L => ∃ r : Int32, v = some (.int r) ∧ Fr n0 L ∧ h = h0 ∧ ((r = 1 ∧ False) ∨ (r = 0 ∧ ¬ False))) := by
 refine own_startC opn_21 ?_
 intro p e s m below meth c T0 X0 hx hby hml hZ hown hnm hret hlk e0
 have N := Fr.nil n0; have K := Keep.refl h0 []
 refine OG.cast (oef0 m sa (2 : Int32) (1 : Int32)) ?_
 refine og_iloadN X0 hx rfl (hb hby d21_0) rfl ?_
 refine og_iconst (v := 1) X0 hx rfl (hb hby d21_1) rfl ?_
 refine og_iadd X0 hx (hb hby d21_2) rfl ?_
 show OG p e below _ (T0.setTop (mkF m 3 #[.val (.ref sa), .val (.int 2), .val (.int 1)] [(.int 2)]))
 refine og_iloadN X0 hx rfl (hb hby d21_3) rfl ?_
 refine og_icmp_ge (pc1 := 47) (pc2 := 7) X0 hx (hb hby d21_4) (by decide) (by decide) rfl (fun _ => ?_) (fun q => absurd q (by decide))
 refine og_iconst (v := 0) X0 hx rfl (hb hby d21_47) rfl ?_
 refine og_retN X0 hx hlk hret (by simp) (hb hby d21_48) (by decide) (by decide) ?_
 rw [e0]; exact ⟨_, rfl, N, rfl, Or.inr ⟨rfl, fun q => q⟩⟩
theorem rm_bd2_1 (l : Launch) (Z : State) (a0 : Array Value) (hw : HW a0 Z) (sa : Addr) (ka : ClassId) (c0 c1 c2 : Int32) (hc0 : 0 ≤ c0.toInt ∧ c0.toInt ≤ 65535) (hc1 : 0 ≤ c1.toInt ∧ c1.toInt ≤ 65535) (hc2 : 0 ≤ c2.toInt ∧ c2.toInt ≤ 65535) (h0 : Heap) (n0 : Nat) (O : Old Z n0 h0) (V_sa : Arv Z h0 sa ka .char (3 : Int32) [(.int c0), (.int c1), (.int c2)] (.int 0)) :
  Con l Z (⟨"com/example/neith/neith/io/XmlOutputForbiddenCharacterPinLaw", "bad", "([CII)I"⟩ : MethodName) method_5_code 3 (some .int) ({ frames := 1, cells := 0, slots := 0, locals := 14 } : Room) #[(.ref sa), (.int 2), (.int 1)] h0 (fun v h L => ∃ r : Int32, v = some (.int r) ∧ Fr n0 L ∧ h = h0 ∧ ((False ∧ r = -1) ∨ (¬ False ∧ own_ok c1 ∧ r = -1) ∨ (¬ False ∧ ¬ own_ok c1 ∧ r = c1))) := by
 refine own_startC opn_20 ?_
 intro p e s m below meth c T0 X0 hx hby hml hZ hown hnm hret hlk e0
 have N := Fr.nil n0; have K := Keep.refl h0 []
 refine OG.cast (oef0 m sa (2 : Int32) (1 : Int32)) ?_
 refine og_aloadN X0 hx rfl rfl (hb hby d20_0) rfl ?_
 refine og_iloadN X0 hx rfl (hb hby d20_1) rfl ?_
 refine og_iloadN X0 hx rfl (hb hby d20_2) rfl ?_
 refine og_static (pc' := 6) (cells' := 0) (slots' := 0) (W := 0) X0 hx hZ (rm_pr2_1 l Z a0 hw sa ka c0 c1 c2 hc0 hc1 hc2 h0 n0 O V_sa) hown (ow92 hw) (ow93 hw) (ow3 hw) (ow94 hw) (by decide) (by rw [hml]; rfl) e0 opd_21 [(.ref sa), (.int 2), (.int 1)] [] rfl rfl rfl rfl (by decide) (by decide) rfl rfl (by decide) (by decide) (hb hby d20_3) rfl (fun v11 T11 h11 L11 X11 e11 z11 => ?_)
 obtain ⟨rb11, rfl, Nq11, hq11, hb11⟩ := z11; replace e11 := e11.trans hq11; have N := Fr.app N Nq11
 refine og_if_eq (pc1 := 11) (pc2 := 9) X11 hx (hb hby d20_6) (by decide) (by decide) rfl (fun hc6 => ?_) (fun hc6 => ?_)
 ·
  have hp := own_b0 hb11 hc6
  refine og_aloadN X11 hx rfl rfl (hb hby d20_11) rfl ?_
  refine og_iloadN X11 hx rfl (hb hby d20_12) rfl ?_
  refine og_caload (v := (.int c1)) X11 hx hZ e11 V_sa ⟨by decide, by decide⟩ rfl (hb hby d20_13) rfl ?_
  refine og_static (pc' := 17) (cells' := 0) (slots' := 0) (W := 0) X11 hx hZ (rm_okb l Z a0 hw c1 h0 n0 O) hown (ow95 hw) (ow96 hw) (ow3 hw) (ow97 hw) (by decide) (by rw [hml]; rfl) e11 opd_14 [(.int c1)] [] rfl rfl rfl rfl (by decide) (by decide) rfl rfl (by decide) (by decide) (hb hby d20_14) rfl (fun v12 T12 h12 L12 X12 e12 z12 => ?_)
  obtain ⟨rb12, rfl, Nq12, hq12, hb12⟩ := z12; replace e12 := e12.trans hq12; have N := Fr.app N Nq12
  refine og_if_eq (pc1 := 24) (pc2 := 20) X12 hx (hb hby d20_17) (by decide) (by decide) rfl (fun hc17 => ?_) (fun hc17 => ?_)
  ·
   have ho := own_b0 hb12 hc17
   refine og_aloadN X12 hx rfl rfl (hb hby d20_24) rfl ?_
   refine og_iloadN X12 hx rfl (hb hby d20_25) rfl ?_
   refine og_caload (v := (.int c1)) X12 hx hZ e12 V_sa ⟨by decide, by decide⟩ rfl (hb hby d20_26) rfl ?_
   refine og_retI X12 hx hlk hret (hb hby d20_27) (by decide) (by decide) ?_
   rw [e12]; exact ⟨_, rfl, N, rfl, Or.inr (Or.inr ⟨hp, ho, rfl⟩)⟩
  ·
   have ho := own_b1 hb12 hc17
   refine og_iconst (v := -1) X12 hx rfl (hb hby d20_20) rfl ?_
   refine og_goto (pc' := 27) X12 hx (hb hby d20_21) (by decide) (by decide) ?_
   refine og_retI X12 hx hlk hret (hb hby d20_27) (by decide) (by decide) ?_
   rw [e12]; exact ⟨_, rfl, N, rfl, Or.inr (Or.inl ⟨hp, ho, rfl⟩)⟩
 ·
  have hp := own_b1 hb11 hc6
  refine og_iconst (v := -1) X11 hx rfl (hb hby d20_9) rfl ?_
  refine og_retI X11 hx hlk hret (hb hby d20_10) (by decide) (by decide) ?_
  rw [e11]; exact ⟨_, rfl, N, rfl, Or.inl ⟨hp, rfl⟩⟩
theorem rm_nx2_1 (l : Launch) (Z : State) (a0 : Array Value) (hw : HW a0 Z) (sa : Addr) (ka : ClassId) (c0 c1 c2 : Int32) (hc0 : 0 ≤ c0.toInt ∧ c0.toInt ≤ 65535) (hc1 : 0 ≤ c1.toInt ∧ c1.toInt ≤ 65535) (hc2 : 0 ≤ c2.toInt ∧ c2.toInt ≤ 65535) (h0 : Heap) (n0 : Nat) (O : Old Z n0 h0) (V_sa : Arv Z h0 sa ka .char (3 : Int32) [(.int c0), (.int c1), (.int c2)] (.int 0)) :
  Con l Z (⟨"com/example/neith/neith/io/XmlOutputForbiddenCharacterPinLaw", "next", "([CII)I"⟩ : MethodName) method_6_code 3 (some .int) ({ frames := 1, cells := 0, slots := 0, locals := 14 } : Room) #[(.ref sa), (.int 2), (.int 1)] h0 (fun v h L => ∃ r : Int32, v = some (.int r) ∧ Fr n0 L ∧ h = h0 ∧ ((False ∧ r = 3) ∨ (¬ False ∧ r = 2))) := by
 refine own_startC opn_23 ?_
 intro p e s m below meth c T0 X0 hx hby hml hZ hown hnm hret hlk e0
 have N := Fr.nil n0; have K := Keep.refl h0 []
 refine OG.cast (oef0 m sa (2 : Int32) (1 : Int32)) ?_
 refine og_aloadN X0 hx rfl rfl (hb hby d23_0) rfl ?_
 refine og_iloadN X0 hx rfl (hb hby d23_1) rfl ?_
 refine og_iloadN X0 hx rfl (hb hby d23_2) rfl ?_
 refine og_static (pc' := 6) (cells' := 0) (slots' := 0) (W := 0) X0 hx hZ (rm_pr2_1 l Z a0 hw sa ka c0 c1 c2 hc0 hc1 hc2 h0 n0 O V_sa) hown (ow92 hw) (ow93 hw) (ow3 hw) (ow94 hw) (by decide) (by rw [hml]; rfl) e0 opd_21 [(.ref sa), (.int 2), (.int 1)] [] rfl rfl rfl rfl (by decide) (by decide) rfl rfl (by decide) (by decide) (hb hby d23_3) rfl (fun v11 T11 h11 L11 X11 e11 z11 => ?_)
 obtain ⟨rb11, rfl, Nq11, hq11, hb11⟩ := z11; replace e11 := e11.trans hq11; have N := Fr.app N Nq11
 refine og_if_eq (pc1 := 15) (pc2 := 9) X11 hx (hb hby d23_6) (by decide) (by decide) rfl (fun hc6 => ?_) (fun hc6 => ?_)
 ·
  have hp := own_b0 hb11 hc6
  refine og_iloadN X11 hx rfl (hb hby d23_15) rfl ?_
  refine og_iconst (v := 1) X11 hx rfl (hb hby d23_16) rfl ?_
  refine og_iadd X11 hx (hb hby d23_17) rfl ?_
  show OG p e below _ (T11.setTop (mkF m 18 #[.val (.ref sa), .val (.int 2), .val (.int 1)] [(.int 2)]))
  refine og_retI X11 hx hlk hret (hb hby d23_18) (by decide) (by decide) ?_
  rw [e11]; exact ⟨_, rfl, N, rfl, Or.inr ⟨hp, rfl⟩⟩
 ·
  have hp := own_b1 hb11 hc6
  refine og_iloadN X11 hx rfl (hb hby d23_9) rfl ?_
  refine og_iconst (v := 2) X11 hx rfl (hb hby d23_10) rfl ?_
  refine og_iadd X11 hx (hb hby d23_11) rfl ?_
  show OG p e below _ (T11.setTop (mkF m 12 #[.val (.ref sa), .val (.int 2), .val (.int 1)] [(.int 3)]))
  refine og_goto (pc' := 18) X11 hx (hb hby d23_12) (by decide) (by decide) ?_
  refine og_retI X11 hx hlk hret (hb hby d23_18) (by decide) (by decide) ?_
  rw [e11]; exact ⟨_, rfl, N, rfl, Or.inl ⟨hp, rfl⟩⟩
theorem rm_ref2 (l : Launch) (Z : State) (a0 : Array Value) (hw : HW a0 Z) (sa : Addr) (ka : ClassId) (c0 c1 c2 : Int32) (hc0 : 0 ≤ c0.toInt ∧ c0.toInt ≤ 65535) (hc1 : 0 ≤ c1.toInt ∧ c1.toInt ≤ 65535) (hc2 : 0 ≤ c2.toInt ∧ c2.toInt ≤ 65535) (r : Int32) (hr : own_fc [c0, c1] = r) (h0 : Heap) (n0 : Nat) (O : Old Z n0 h0) (V_sa : Arv Z h0 sa ka .char (3 : Int32) [(.int c0), (.int c1), (.int c2)] (.int 0)) :
  Con l Z (⟨"com/example/neith/neith/io/XmlOutputForbiddenCharacterPinLaw", "ref", "([CI)I"⟩ : MethodName) method_7_code 4 (some .int) ({ frames := 2, cells := 0, slots := 0, locals := 28 } : Room) #[(.ref sa), (.int 2)] h0 (fun v h L => v = some (.int r) ∧ Fr n0 L ∧ h = h0) := by
 refine own_startC opn_19 ?_
 intro p e s m below meth c T0 X0 hx hby hml hZ hown hnm hret hlk e0
 have N := Fr.nil n0; have K := Keep.refl h0 []
 refine OG.cast (oef16 m sa (2 : Int32)) ?_
 refine og_iconst (v := 0) X0 hx rfl (hb hby d19_0) rfl ?_
 refine og_istoreN (L' := #[.val (.ref sa), .val (.int 2), .val (.int 0), .unset]) X0 hx rfl (hb hby d19_1) rfl ?_
 refine og_iloadN X0 hx rfl (hb hby d19_2) rfl ?_
 refine og_iloadN X0 hx rfl (hb hby d19_3) rfl ?_
 refine og_icmp_ge (pc1 := 27) (pc2 := 7) X0 hx (hb hby d19_4) (by decide) (by decide) rfl (fun q => absurd q (by decide)) (fun _ => ?_)
 refine og_aloadN X0 hx rfl rfl (hb hby d19_7) rfl ?_
 refine og_iloadN X0 hx rfl (hb hby d19_8) rfl ?_
 refine og_iloadN X0 hx rfl (hb hby d19_9) rfl ?_
 refine og_static (pc' := 13) (cells' := 0) (slots' := 0) (W := 0) X0 hx hZ (rm_bd2_0 l Z a0 hw sa ka c0 c1 c2 hc0 hc1 hc2 h0 n0 O V_sa) hown (ow89 hw) (ow90 hw) (ow3 hw) (ow91 hw) (by decide) (by rw [hml]; rfl) e0 opd_22 [(.ref sa), (.int 2), (.int 0)] [] rfl rfl rfl rfl (by decide) (by decide) rfl rfl (by decide) (by decide) (hb hby d19_10) rfl (fun v11 T11 h11 L11 X11 e11 z11 => ?_)
 obtain ⟨rbd, rfl, Nq11, hq11, hbd⟩ := z11; replace e11 := e11.trans hq11; have N := Fr.app N Nq11
 rcases hbd with ⟨hp0, hbd⟩ | ⟨hp0, ho0, hbd⟩ | ⟨hp0, ho0, hbd⟩
 ·
  subst rbd
  refine og_istoreN (L' := #[.val (.ref sa), .val (.int 2), .val (.int 0), .val (.int (-1))]) X11 hx rfl (hb hby d19_13) rfl ?_
  refine og_iloadN X11 hx rfl (hb hby d19_14) rfl ?_
  refine og_if_lt (pc1 := 20) (pc2 := 18) X11 hx (hb hby d19_15) (by decide) (by decide) rfl (fun _ => ?_) (fun q => absurd q (by decide))
  refine og_aloadN X11 hx rfl rfl (hb hby d19_20) rfl ?_
  refine og_iloadN X11 hx rfl (hb hby d19_21) rfl ?_
  refine og_iloadN X11 hx rfl (hb hby d19_22) rfl ?_
  refine og_static (pc' := 26) (cells' := 0) (slots' := 0) (W := 0) X11 hx hZ (rm_nx2_0 l Z a0 hw sa ka c0 c1 c2 hc0 hc1 hc2 h0 n0 O V_sa) hown (ow101 hw) (ow102 hw) (ow3 hw) (ow103 hw) (by decide) (by rw [hml]; rfl) e11 opd_22 [(.ref sa), (.int 2), (.int 0)] [] rfl rfl rfl rfl (by decide) (by decide) rfl rfl (by decide) (by decide) (hb hby d19_23) rfl (fun v12 T12 h12 L12 X12 e12 z12 => ?_)
  obtain ⟨rnx, rfl, Nq12, hq12, hnx⟩ := z12; replace e12 := e12.trans hq12; have N := Fr.app N Nq12
  have hrn : rnx = 2 := own_p1 hnx hp0
  subst hrn
  refine og_istoreN (L' := #[.val (.ref sa), .val (.int 2), .val (.int 2), .val (.int (-1))]) X12 hx rfl (hb hby d19_26) rfl ?_
  refine og_iloadN X12 hx rfl (hb hby d19_27) rfl ?_
  refine og_iloadN X12 hx rfl (hb hby d19_28) rfl ?_
  refine og_icmp_ge (pc1 := 52) (pc2 := 32) X12 hx (hb hby d19_29) (by decide) (by decide) rfl (fun _ => ?_) (fun q => absurd q (by decide))
  refine og_iloadN X12 hx rfl (hb hby d19_52) rfl ?_
  refine og_iloadN X12 hx rfl (hb hby d19_53) rfl ?_
  refine og_icmp_ge (pc1 := 70) (pc2 := 57) X12 hx (hb hby d19_54) (by decide) (by decide) rfl (fun _ => ?_) (fun q => absurd q (by decide))
  refine og_iconst (v := -1) X12 hx rfl (hb hby d19_70) rfl ?_
  refine og_retI X12 hx hlk hret (hb hby d19_71) (by decide) (by decide) ?_
  rw [e12]; exact ⟨by rw [← hr, own_fpair hp0.1 hp0.2]; rfl, N, rfl⟩
 ·
  subst rbd
  refine og_istoreN (L' := #[.val (.ref sa), .val (.int 2), .val (.int 0), .val (.int (-1))]) X11 hx rfl (hb hby d19_13) rfl ?_
  refine og_iloadN X11 hx rfl (hb hby d19_14) rfl ?_
  refine og_if_lt (pc1 := 20) (pc2 := 18) X11 hx (hb hby d19_15) (by decide) (by decide) rfl (fun _ => ?_) (fun q => absurd q (by decide))
  refine og_aloadN X11 hx rfl rfl (hb hby d19_20) rfl ?_
  refine og_iloadN X11 hx rfl (hb hby d19_21) rfl ?_
  refine og_iloadN X11 hx rfl (hb hby d19_22) rfl ?_
  refine og_static (pc' := 26) (cells' := 0) (slots' := 0) (W := 0) X11 hx hZ (rm_nx2_0 l Z a0 hw sa ka c0 c1 c2 hc0 hc1 hc2 h0 n0 O V_sa) hown (ow101 hw) (ow102 hw) (ow3 hw) (ow103 hw) (by decide) (by rw [hml]; rfl) e11 opd_22 [(.ref sa), (.int 2), (.int 0)] [] rfl rfl rfl rfl (by decide) (by decide) rfl rfl (by decide) (by decide) (hb hby d19_23) rfl (fun v13 T13 h13 L13 X13 e13 z13 => ?_)
  obtain ⟨rnx, rfl, Nq13, hq13, hnx⟩ := z13; replace e13 := e13.trans hq13; have N := Fr.app N Nq13
  have hrn : rnx = 1 := own_p0 hnx hp0
  subst hrn
  refine og_istoreN (L' := #[.val (.ref sa), .val (.int 2), .val (.int 1), .val (.int (-1))]) X13 hx rfl (hb hby d19_26) rfl ?_
  refine og_iloadN X13 hx rfl (hb hby d19_27) rfl ?_
  refine og_iloadN X13 hx rfl (hb hby d19_28) rfl ?_
  refine og_icmp_ge (pc1 := 52) (pc2 := 32) X13 hx (hb hby d19_29) (by decide) (by decide) rfl (fun q => absurd q (by decide)) (fun _ => ?_)
  refine og_aloadN X13 hx rfl rfl (hb hby d19_32) rfl ?_
  refine og_iloadN X13 hx rfl (hb hby d19_33) rfl ?_
  refine og_iloadN X13 hx rfl (hb hby d19_34) rfl ?_
  refine og_static (pc' := 38) (cells' := 0) (slots' := 0) (W := 0) X13 hx hZ (rm_bd2_1 l Z a0 hw sa ka c0 c1 c2 hc0 hc1 hc2 h0 n0 O V_sa) hown (ow89 hw) (ow90 hw) (ow3 hw) (ow91 hw) (by decide) (by rw [hml]; rfl) e13 opd_22 [(.ref sa), (.int 2), (.int 1)] [] rfl rfl rfl rfl (by decide) (by decide) rfl rfl (by decide) (by decide) (hb hby d19_35) rfl (fun v14 T14 h14 L14 X14 e14 z14 => ?_)
  obtain ⟨rbd, rfl, Nq14, hq14, hbd⟩ := z14; replace e14 := e14.trans hq14; have N := Fr.app N Nq14
  rcases hbd with ⟨hp1, hbd⟩ | ⟨hp1, ho1, hbd⟩ | ⟨hp1, ho1, hbd⟩
  ·
   exact hp1.elim
  ·
   subst rbd
   refine og_istoreN (L' := #[.val (.ref sa), .val (.int 2), .val (.int 1), .val (.int (-1))]) X14 hx rfl (hb hby d19_38) rfl ?_
   refine og_iloadN X14 hx rfl (hb hby d19_39) rfl ?_
   refine og_if_lt (pc1 := 45) (pc2 := 43) X14 hx (hb hby d19_40) (by decide) (by decide) rfl (fun _ => ?_) (fun q => absurd q (by decide))
   refine og_aloadN X14 hx rfl rfl (hb hby d19_45) rfl ?_
   refine og_iloadN X14 hx rfl (hb hby d19_46) rfl ?_
   refine og_iloadN X14 hx rfl (hb hby d19_47) rfl ?_
   refine og_static (pc' := 51) (cells' := 0) (slots' := 0) (W := 0) X14 hx hZ (rm_nx2_1 l Z a0 hw sa ka c0 c1 c2 hc0 hc1 hc2 h0 n0 O V_sa) hown (ow101 hw) (ow102 hw) (ow3 hw) (ow103 hw) (by decide) (by rw [hml]; rfl) e14 opd_22 [(.ref sa), (.int 2), (.int 1)] [] rfl rfl rfl rfl (by decide) (by decide) rfl rfl (by decide) (by decide) (hb hby d19_48) rfl (fun v15 T15 h15 L15 X15 e15 z15 => ?_)
   obtain ⟨rnx, rfl, Nq15, hq15, hnx⟩ := z15; replace e15 := e15.trans hq15; have N := Fr.app N Nq15
   have hrn : rnx = 2 := own_p0 hnx hp1
   subst hrn
   refine og_istoreN (L' := #[.val (.ref sa), .val (.int 2), .val (.int 2), .val (.int (-1))]) X15 hx rfl (hb hby d19_51) rfl ?_
   refine og_iloadN X15 hx rfl (hb hby d19_52) rfl ?_
   refine og_iloadN X15 hx rfl (hb hby d19_53) rfl ?_
   refine og_icmp_ge (pc1 := 70) (pc2 := 57) X15 hx (hb hby d19_54) (by decide) (by decide) rfl (fun _ => ?_) (fun q => absurd q (by decide))
   refine og_iconst (v := -1) X15 hx rfl (hb hby d19_70) rfl ?_
   refine og_retI X15 hx hlk hret (hb hby d19_71) (by decide) (by decide) ?_
   rw [e15]; exact ⟨by rw [← hr, own_fok hp0 ho0, own_fok1 ho1]; rfl, N, rfl⟩
  ·
   subst rbd
   refine og_istoreN (L' := #[.val (.ref sa), .val (.int 2), .val (.int 1), .val (.int c1)]) X14 hx rfl (hb hby d19_38) rfl ?_
   refine og_iloadN X14 hx rfl (hb hby d19_39) rfl ?_
   refine og_if_lt (pc1 := 45) (pc2 := 43) X14 hx (hb hby d19_40) (by decide) (by decide) rfl (fun q => absurd q (own_nn hc1)) (fun _ => ?_)
   refine og_iloadN X14 hx rfl (hb hby d19_43) rfl ?_
   refine og_retI X14 hx hlk hret (hb hby d19_44) (by decide) (by decide) ?_
   rw [e14]; exact ⟨by rw [← hr, own_fok hp0 ho0, own_fbad1 ho1], N, rfl⟩
 ·
  subst rbd
  refine og_istoreN (L' := #[.val (.ref sa), .val (.int 2), .val (.int 0), .val (.int c0)]) X11 hx rfl (hb hby d19_13) rfl ?_
  refine og_iloadN X11 hx rfl (hb hby d19_14) rfl ?_
  refine og_if_lt (pc1 := 20) (pc2 := 18) X11 hx (hb hby d19_15) (by decide) (by decide) rfl (fun q => absurd q (own_nn hc0)) (fun _ => ?_)
  refine og_iloadN X11 hx rfl (hb hby d19_18) rfl ?_
  refine og_retI X11 hx hlk hret (hb hby d19_19) (by decide) (by decide) ?_
  rw [e11]; exact ⟨by rw [← hr, own_fbad hp0 ho0], N, rfl⟩
theorem rm_pr3_0 (l : Launch) (Z : State) (a0 : Array Value) (hw : HW a0 Z) (sa : Addr) (ka : ClassId) (c0 c1 c2 : Int32) (hc0 : 0 ≤ c0.toInt ∧ c0.toInt ≤ 65535) (hc1 : 0 ≤ c1.toInt ∧ c1.toInt ≤ 65535) (hc2 : 0 ≤ c2.toInt ∧ c2.toInt ≤ 65535) (h0 : Heap) (n0 : Nat) (O : Old Z n0 h0) (V_sa : Arv Z h0 sa ka .char (3 : Int32) [(.int c0), (.int c1), (.int c2)] (.int 0)) :
  Con l Z (⟨"com/example/neith/neith/io/XmlOutputForbiddenCharacterPinLaw", "pair", "([CII)Z"⟩ : MethodName) method_4_code 3 (some .boolean) ({ frames := 0, cells := 0, slots := 0, locals := 0 } : Room) #[(.ref sa), (.int 3), (.int 0)] h0 (fun v h L => ∃ r : Int32, v = some (.int r) ∧ Fr n0 L ∧ h = h0 ∧ ((r = 1 ∧ (own_H c0 ∧ own_L c1)) ∨ (r = 0 ∧ ¬ (own_H c0 ∧ own_L c1)))) := by
 refine own_startC opn_21 ?_
 intro p e s m below meth c T0 X0 hx hby hml hZ hown hnm hret hlk e0
 have N := Fr.nil n0; have K := Keep.refl h0 []
 refine OG.cast (oef0 m sa (3 : Int32) (0 : Int32)) ?_
 refine og_iloadN X0 hx rfl (hb hby d21_0) rfl ?_
 refine og_iconst (v := 1) X0 hx rfl (hb hby d21_1) rfl ?_
 refine og_iadd X0 hx (hb hby d21_2) rfl ?_
 show OG p e below _ (T0.setTop (mkF m 3 #[.val (.ref sa), .val (.int 3), .val (.int 0)] [(.int 1)]))
 refine og_iloadN X0 hx rfl (hb hby d21_3) rfl ?_
 refine og_icmp_ge (pc1 := 47) (pc2 := 7) X0 hx (hb hby d21_4) (by decide) (by decide) rfl (fun q => absurd q (by decide)) (fun _ => ?_)
 refine og_aloadN X0 hx rfl rfl (hb hby d21_7) rfl ?_
 refine og_iloadN X0 hx rfl (hb hby d21_8) rfl ?_
 refine og_caload (v := (.int c0)) X0 hx hZ e0 V_sa ⟨by decide, by decide⟩ rfl (hb hby d21_9) rfl ?_
 refine og_ldc X0 hx hZ hown (ow99 hw) (hb hby d21_10) rfl ?_
 refine og_icmp_lt (pc1 := 47) (pc2 := 15) X0 hx (hb hby d21_12) (by decide) (by decide) rfl (fun hc12 => ?_) (fun hc12 => ?_)
 ·
  refine og_iconst (v := 0) X0 hx rfl (hb hby d21_47) rfl ?_
  refine og_retN X0 hx hlk hret (by simp) (hb hby d21_48) (by decide) (by decide) ?_
  have q_hc12 := own_i1 hc12 (show (55296 : Int32).toInt = 55296 by decide)
  rw [e0]; exact ⟨_, rfl, N, rfl, Or.inr ⟨rfl, by rintro ⟨⟨a1, a2⟩, b1, b2⟩; omega⟩⟩
 ·
  refine og_aloadN X0 hx rfl rfl (hb hby d21_15) rfl ?_
  refine og_iloadN X0 hx rfl (hb hby d21_16) rfl ?_
  refine og_caload (v := (.int c0)) X0 hx hZ e0 V_sa ⟨by decide, by decide⟩ rfl (hb hby d21_17) rfl ?_
  refine og_ldc X0 hx hZ hown (ow151 hw) (hb hby d21_18) rfl ?_
  refine og_icmp_gt (pc1 := 47) (pc2 := 23) X0 hx (hb hby d21_20) (by decide) (by decide) rfl (fun hc20 => ?_) (fun hc20 => ?_)
  ·
   refine og_iconst (v := 0) X0 hx rfl (hb hby d21_47) rfl ?_
   refine og_retN X0 hx hlk hret (by simp) (hb hby d21_48) (by decide) (by decide) ?_
   have q_hc12 := own_i2 hc12 (show (55296 : Int32).toInt = 55296 by decide)
   have q_hc20 := own_i3 hc20 (show (56319 : Int32).toInt = 56319 by decide)
   rw [e0]; exact ⟨_, rfl, N, rfl, Or.inr ⟨rfl, by rintro ⟨⟨a1, a2⟩, b1, b2⟩; omega⟩⟩
  ·
   refine og_aloadN X0 hx rfl rfl (hb hby d21_23) rfl ?_
   refine og_iloadN X0 hx rfl (hb hby d21_24) rfl ?_
   refine og_iconst (v := 1) X0 hx rfl (hb hby d21_25) rfl ?_
   refine og_iadd X0 hx (hb hby d21_26) rfl ?_
   show OG p e below _ (T0.setTop (mkF m 27 #[.val (.ref sa), .val (.int 3), .val (.int 0)] [(.int 1), (.ref sa)]))
   refine og_caload (v := (.int c1)) X0 hx hZ e0 V_sa ⟨by decide, by decide⟩ rfl (hb hby d21_27) rfl ?_
   refine og_ldc X0 hx hZ hown (ow155 hw) (hb hby d21_28) rfl ?_
   refine og_icmp_lt (pc1 := 47) (pc2 := 33) X0 hx (hb hby d21_30) (by decide) (by decide) rfl (fun hc30 => ?_) (fun hc30 => ?_)
   ·
    refine og_iconst (v := 0) X0 hx rfl (hb hby d21_47) rfl ?_
    refine og_retN X0 hx hlk hret (by simp) (hb hby d21_48) (by decide) (by decide) ?_
    have q_hc12 := own_i2 hc12 (show (55296 : Int32).toInt = 55296 by decide)
    have q_hc20 := own_i4 hc20 (show (56319 : Int32).toInt = 56319 by decide)
    have q_hc30 := own_i1 hc30 (show (56320 : Int32).toInt = 56320 by decide)
    rw [e0]; exact ⟨_, rfl, N, rfl, Or.inr ⟨rfl, by rintro ⟨⟨a1, a2⟩, b1, b2⟩; omega⟩⟩
   ·
    refine og_aloadN X0 hx rfl rfl (hb hby d21_33) rfl ?_
    refine og_iloadN X0 hx rfl (hb hby d21_34) rfl ?_
    refine og_iconst (v := 1) X0 hx rfl (hb hby d21_35) rfl ?_
    refine og_iadd X0 hx (hb hby d21_36) rfl ?_
    show OG p e below _ (T0.setTop (mkF m 37 #[.val (.ref sa), .val (.int 3), .val (.int 0)] [(.int 1), (.ref sa)]))
    refine og_caload (v := (.int c1)) X0 hx hZ e0 V_sa ⟨by decide, by decide⟩ rfl (hb hby d21_37) rfl ?_
    refine og_ldc X0 hx hZ hown (ow162 hw) (hb hby d21_38) rfl ?_
    refine og_icmp_gt (pc1 := 47) (pc2 := 43) X0 hx (hb hby d21_40) (by decide) (by decide) rfl (fun hc40 => ?_) (fun hc40 => ?_)
    ·
     refine og_iconst (v := 0) X0 hx rfl (hb hby d21_47) rfl ?_
     refine og_retN X0 hx hlk hret (by simp) (hb hby d21_48) (by decide) (by decide) ?_
     have q_hc12 := own_i2 hc12 (show (55296 : Int32).toInt = 55296 by decide)
     have q_hc20 := own_i4 hc20 (show (56319 : Int32).toInt = 56319 by decide)
     have q_hc30 := own_i2 hc30 (show (56320 : Int32).toInt = 56320 by decide)
     have q_hc40 := own_i3 hc40 (show (57343 : Int32).toInt = 57343 by decide)
     rw [e0]; exact ⟨_, rfl, N, rfl, Or.inr ⟨rfl, by rintro ⟨⟨a1, a2⟩, b1, b2⟩; omega⟩⟩
    ·
     refine og_iconst (v := 1) X0 hx rfl (hb hby d21_43) rfl ?_
     refine og_goto (pc' := 48) X0 hx (hb hby d21_44) (by decide) (by decide) ?_
     refine og_retN X0 hx hlk hret (by simp) (hb hby d21_48) (by decide) (by decide) ?_
     have q_hc12 := own_i2 hc12 (show (55296 : Int32).toInt = 55296 by decide)
     have q_hc20 := own_i4 hc20 (show (56319 : Int32).toInt = 56319 by decide)
     have q_hc30 := own_i2 hc30 (show (56320 : Int32).toInt = 56320 by decide)
     have q_hc40 := own_i4 hc40 (show (57343 : Int32).toInt = 57343 by decide)
     rw [e0]; exact ⟨_, rfl, N, rfl, Or.inl ⟨rfl, ⟨by omega, by omega⟩, by omega, by omega⟩⟩
theorem rm_bd3_0 (l : Launch) (Z : State) (a0 : Array Value) (hw : HW a0 Z) (sa : Addr) (ka : ClassId) (c0 c1 c2 : Int32) (hc0 : 0 ≤ c0.toInt ∧ c0.toInt ≤ 65535) (hc1 : 0 ≤ c1.toInt ∧ c1.toInt ≤ 65535) (hc2 : 0 ≤ c2.toInt ∧ c2.toInt ≤ 65535) (h0 : Heap) (n0 : Nat) (O : Old Z n0 h0) (V_sa : Arv Z h0 sa ka .char (3 : Int32) [(.int c0), (.int c1), (.int c2)] (.int 0)) :
  Con l Z (⟨"com/example/neith/neith/io/XmlOutputForbiddenCharacterPinLaw", "bad", "([CII)I"⟩ : MethodName) method_5_code 3 (some .int) ({ frames := 1, cells := 0, slots := 0, locals := 14 } : Room) #[(.ref sa), (.int 3), (.int 0)] h0 (fun v h L => ∃ r : Int32, v = some (.int r) ∧ Fr n0 L ∧ h = h0 ∧ (((own_H c0 ∧ own_L c1) ∧ r = -1) ∨ (¬ (own_H c0 ∧ own_L c1) ∧ own_ok c0 ∧ r = -1) ∨ (¬ (own_H c0 ∧ own_L c1) ∧ ¬ own_ok c0 ∧ r = c0))) := by
 refine own_startC opn_20 ?_
 intro p e s m below meth c T0 X0 hx hby hml hZ hown hnm hret hlk e0
 have N := Fr.nil n0; have K := Keep.refl h0 []
 refine OG.cast (oef0 m sa (3 : Int32) (0 : Int32)) ?_
 refine og_aloadN X0 hx rfl rfl (hb hby d20_0) rfl ?_
 refine og_iloadN X0 hx rfl (hb hby d20_1) rfl ?_
 refine og_iloadN X0 hx rfl (hb hby d20_2) rfl ?_
 refine og_static (pc' := 6) (cells' := 0) (slots' := 0) (W := 0) X0 hx hZ (rm_pr3_0 l Z a0 hw sa ka c0 c1 c2 hc0 hc1 hc2 h0 n0 O V_sa) hown (ow92 hw) (ow93 hw) (ow3 hw) (ow94 hw) (by decide) (by rw [hml]; rfl) e0 opd_21 [(.ref sa), (.int 3), (.int 0)] [] rfl rfl rfl rfl (by decide) (by decide) rfl rfl (by decide) (by decide) (hb hby d20_3) rfl (fun v11 T11 h11 L11 X11 e11 z11 => ?_)
 obtain ⟨rb11, rfl, Nq11, hq11, hb11⟩ := z11; replace e11 := e11.trans hq11; have N := Fr.app N Nq11
 refine og_if_eq (pc1 := 11) (pc2 := 9) X11 hx (hb hby d20_6) (by decide) (by decide) rfl (fun hc6 => ?_) (fun hc6 => ?_)
 ·
  have hp := own_b0 hb11 hc6
  refine og_aloadN X11 hx rfl rfl (hb hby d20_11) rfl ?_
  refine og_iloadN X11 hx rfl (hb hby d20_12) rfl ?_
  refine og_caload (v := (.int c0)) X11 hx hZ e11 V_sa ⟨by decide, by decide⟩ rfl (hb hby d20_13) rfl ?_
  refine og_static (pc' := 17) (cells' := 0) (slots' := 0) (W := 0) X11 hx hZ (rm_okb l Z a0 hw c0 h0 n0 O) hown (ow95 hw) (ow96 hw) (ow3 hw) (ow97 hw) (by decide) (by rw [hml]; rfl) e11 opd_14 [(.int c0)] [] rfl rfl rfl rfl (by decide) (by decide) rfl rfl (by decide) (by decide) (hb hby d20_14) rfl (fun v12 T12 h12 L12 X12 e12 z12 => ?_)
  obtain ⟨rb12, rfl, Nq12, hq12, hb12⟩ := z12; replace e12 := e12.trans hq12; have N := Fr.app N Nq12
  refine og_if_eq (pc1 := 24) (pc2 := 20) X12 hx (hb hby d20_17) (by decide) (by decide) rfl (fun hc17 => ?_) (fun hc17 => ?_)
  ·
   have ho := own_b0 hb12 hc17
   refine og_aloadN X12 hx rfl rfl (hb hby d20_24) rfl ?_
   refine og_iloadN X12 hx rfl (hb hby d20_25) rfl ?_
   refine og_caload (v := (.int c0)) X12 hx hZ e12 V_sa ⟨by decide, by decide⟩ rfl (hb hby d20_26) rfl ?_
   refine og_retI X12 hx hlk hret (hb hby d20_27) (by decide) (by decide) ?_
   rw [e12]; exact ⟨_, rfl, N, rfl, Or.inr (Or.inr ⟨hp, ho, rfl⟩)⟩
  ·
   have ho := own_b1 hb12 hc17
   refine og_iconst (v := -1) X12 hx rfl (hb hby d20_20) rfl ?_
   refine og_goto (pc' := 27) X12 hx (hb hby d20_21) (by decide) (by decide) ?_
   refine og_retI X12 hx hlk hret (hb hby d20_27) (by decide) (by decide) ?_
   rw [e12]; exact ⟨_, rfl, N, rfl, Or.inr (Or.inl ⟨hp, ho, rfl⟩)⟩
 ·
  have hp := own_b1 hb11 hc6
  refine og_iconst (v := -1) X11 hx rfl (hb hby d20_9) rfl ?_
  refine og_retI X11 hx hlk hret (hb hby d20_10) (by decide) (by decide) ?_
  rw [e11]; exact ⟨_, rfl, N, rfl, Or.inl ⟨hp, rfl⟩⟩
theorem rm_nx3_0 (l : Launch) (Z : State) (a0 : Array Value) (hw : HW a0 Z) (sa : Addr) (ka : ClassId) (c0 c1 c2 : Int32) (hc0 : 0 ≤ c0.toInt ∧ c0.toInt ≤ 65535) (hc1 : 0 ≤ c1.toInt ∧ c1.toInt ≤ 65535) (hc2 : 0 ≤ c2.toInt ∧ c2.toInt ≤ 65535) (h0 : Heap) (n0 : Nat) (O : Old Z n0 h0) (V_sa : Arv Z h0 sa ka .char (3 : Int32) [(.int c0), (.int c1), (.int c2)] (.int 0)) :
  Con l Z (⟨"com/example/neith/neith/io/XmlOutputForbiddenCharacterPinLaw", "next", "([CII)I"⟩ : MethodName) method_6_code 3 (some .int) ({ frames := 1, cells := 0, slots := 0, locals := 14 } : Room) #[(.ref sa), (.int 3), (.int 0)] h0 (fun v h L => ∃ r : Int32, v = some (.int r) ∧ Fr n0 L ∧ h = h0 ∧ (((own_H c0 ∧ own_L c1) ∧ r = 2) ∨ (¬ (own_H c0 ∧ own_L c1) ∧ r = 1))) := by
 refine own_startC opn_23 ?_
 intro p e s m below meth c T0 X0 hx hby hml hZ hown hnm hret hlk e0
 have N := Fr.nil n0; have K := Keep.refl h0 []
 refine OG.cast (oef0 m sa (3 : Int32) (0 : Int32)) ?_
 refine og_aloadN X0 hx rfl rfl (hb hby d23_0) rfl ?_
 refine og_iloadN X0 hx rfl (hb hby d23_1) rfl ?_
 refine og_iloadN X0 hx rfl (hb hby d23_2) rfl ?_
 refine og_static (pc' := 6) (cells' := 0) (slots' := 0) (W := 0) X0 hx hZ (rm_pr3_0 l Z a0 hw sa ka c0 c1 c2 hc0 hc1 hc2 h0 n0 O V_sa) hown (ow92 hw) (ow93 hw) (ow3 hw) (ow94 hw) (by decide) (by rw [hml]; rfl) e0 opd_21 [(.ref sa), (.int 3), (.int 0)] [] rfl rfl rfl rfl (by decide) (by decide) rfl rfl (by decide) (by decide) (hb hby d23_3) rfl (fun v11 T11 h11 L11 X11 e11 z11 => ?_)
 obtain ⟨rb11, rfl, Nq11, hq11, hb11⟩ := z11; replace e11 := e11.trans hq11; have N := Fr.app N Nq11
 refine og_if_eq (pc1 := 15) (pc2 := 9) X11 hx (hb hby d23_6) (by decide) (by decide) rfl (fun hc6 => ?_) (fun hc6 => ?_)
 ·
  have hp := own_b0 hb11 hc6
  refine og_iloadN X11 hx rfl (hb hby d23_15) rfl ?_
  refine og_iconst (v := 1) X11 hx rfl (hb hby d23_16) rfl ?_
  refine og_iadd X11 hx (hb hby d23_17) rfl ?_
  show OG p e below _ (T11.setTop (mkF m 18 #[.val (.ref sa), .val (.int 3), .val (.int 0)] [(.int 1)]))
  refine og_retI X11 hx hlk hret (hb hby d23_18) (by decide) (by decide) ?_
  rw [e11]; exact ⟨_, rfl, N, rfl, Or.inr ⟨hp, rfl⟩⟩
 ·
  have hp := own_b1 hb11 hc6
  refine og_iloadN X11 hx rfl (hb hby d23_9) rfl ?_
  refine og_iconst (v := 2) X11 hx rfl (hb hby d23_10) rfl ?_
  refine og_iadd X11 hx (hb hby d23_11) rfl ?_
  show OG p e below _ (T11.setTop (mkF m 12 #[.val (.ref sa), .val (.int 3), .val (.int 0)] [(.int 2)]))
  refine og_goto (pc' := 18) X11 hx (hb hby d23_12) (by decide) (by decide) ?_
  refine og_retI X11 hx hlk hret (hb hby d23_18) (by decide) (by decide) ?_
  rw [e11]; exact ⟨_, rfl, N, rfl, Or.inl ⟨hp, rfl⟩⟩
theorem rm_pr3_1 (l : Launch) (Z : State) (a0 : Array Value) (hw : HW a0 Z) (sa : Addr) (ka : ClassId) (c0 c1 c2 : Int32) (hc0 : 0 ≤ c0.toInt ∧ c0.toInt ≤ 65535) (hc1 : 0 ≤ c1.toInt ∧ c1.toInt ≤ 65535) (hc2 : 0 ≤ c2.toInt ∧ c2.toInt ≤ 65535) (h0 : Heap) (n0 : Nat) (O : Old Z n0 h0) (V_sa : Arv Z h0 sa ka .char (3 : Int32) [(.int c0), (.int c1), (.int c2)] (.int 0)) :
  Con l Z (⟨"com/example/neith/neith/io/XmlOutputForbiddenCharacterPinLaw", "pair", "([CII)Z"⟩ : MethodName) method_4_code 3 (some .boolean) ({ frames := 0, cells := 0, slots := 0, locals := 0 } : Room) #[(.ref sa), (.int 3), (.int 1)] h0 (fun v h L => ∃ r : Int32, v = some (.int r) ∧ Fr n0 L ∧ h = h0 ∧ ((r = 1 ∧ (own_H c1 ∧ own_L c2)) ∨ (r = 0 ∧ ¬ (own_H c1 ∧ own_L c2)))) := by
 refine own_startC opn_21 ?_
 intro p e s m below meth c T0 X0 hx hby hml hZ hown hnm hret hlk e0
 have N := Fr.nil n0; have K := Keep.refl h0 []
 refine OG.cast (oef0 m sa (3 : Int32) (1 : Int32)) ?_
 refine og_iloadN X0 hx rfl (hb hby d21_0) rfl ?_
 refine og_iconst (v := 1) X0 hx rfl (hb hby d21_1) rfl ?_
 refine og_iadd X0 hx (hb hby d21_2) rfl ?_
 show OG p e below _ (T0.setTop (mkF m 3 #[.val (.ref sa), .val (.int 3), .val (.int 1)] [(.int 2)]))
 refine og_iloadN X0 hx rfl (hb hby d21_3) rfl ?_
 refine og_icmp_ge (pc1 := 47) (pc2 := 7) X0 hx (hb hby d21_4) (by decide) (by decide) rfl (fun q => absurd q (by decide)) (fun _ => ?_)
 refine og_aloadN X0 hx rfl rfl (hb hby d21_7) rfl ?_
 refine og_iloadN X0 hx rfl (hb hby d21_8) rfl ?_
 refine og_caload (v := (.int c1)) X0 hx hZ e0 V_sa ⟨by decide, by decide⟩ rfl (hb hby d21_9) rfl ?_
 refine og_ldc X0 hx hZ hown (ow99 hw) (hb hby d21_10) rfl ?_
 refine og_icmp_lt (pc1 := 47) (pc2 := 15) X0 hx (hb hby d21_12) (by decide) (by decide) rfl (fun hc12 => ?_) (fun hc12 => ?_)
 ·
  refine og_iconst (v := 0) X0 hx rfl (hb hby d21_47) rfl ?_
  refine og_retN X0 hx hlk hret (by simp) (hb hby d21_48) (by decide) (by decide) ?_
  have q_hc12 := own_i1 hc12 (show (55296 : Int32).toInt = 55296 by decide)
  rw [e0]; exact ⟨_, rfl, N, rfl, Or.inr ⟨rfl, by rintro ⟨⟨a1, a2⟩, b1, b2⟩; omega⟩⟩
 ·
  refine og_aloadN X0 hx rfl rfl (hb hby d21_15) rfl ?_
  refine og_iloadN X0 hx rfl (hb hby d21_16) rfl ?_
  refine og_caload (v := (.int c1)) X0 hx hZ e0 V_sa ⟨by decide, by decide⟩ rfl (hb hby d21_17) rfl ?_
  refine og_ldc X0 hx hZ hown (ow151 hw) (hb hby d21_18) rfl ?_
  refine og_icmp_gt (pc1 := 47) (pc2 := 23) X0 hx (hb hby d21_20) (by decide) (by decide) rfl (fun hc20 => ?_) (fun hc20 => ?_)
  ·
   refine og_iconst (v := 0) X0 hx rfl (hb hby d21_47) rfl ?_
   refine og_retN X0 hx hlk hret (by simp) (hb hby d21_48) (by decide) (by decide) ?_
   have q_hc12 := own_i2 hc12 (show (55296 : Int32).toInt = 55296 by decide)
   have q_hc20 := own_i3 hc20 (show (56319 : Int32).toInt = 56319 by decide)
   rw [e0]; exact ⟨_, rfl, N, rfl, Or.inr ⟨rfl, by rintro ⟨⟨a1, a2⟩, b1, b2⟩; omega⟩⟩
  ·
   refine og_aloadN X0 hx rfl rfl (hb hby d21_23) rfl ?_
   refine og_iloadN X0 hx rfl (hb hby d21_24) rfl ?_
   refine og_iconst (v := 1) X0 hx rfl (hb hby d21_25) rfl ?_
   refine og_iadd X0 hx (hb hby d21_26) rfl ?_
   show OG p e below _ (T0.setTop (mkF m 27 #[.val (.ref sa), .val (.int 3), .val (.int 1)] [(.int 2), (.ref sa)]))
   refine og_caload (v := (.int c2)) X0 hx hZ e0 V_sa ⟨by decide, by decide⟩ rfl (hb hby d21_27) rfl ?_
   refine og_ldc X0 hx hZ hown (ow155 hw) (hb hby d21_28) rfl ?_
   refine og_icmp_lt (pc1 := 47) (pc2 := 33) X0 hx (hb hby d21_30) (by decide) (by decide) rfl (fun hc30 => ?_) (fun hc30 => ?_)
   ·
    refine og_iconst (v := 0) X0 hx rfl (hb hby d21_47) rfl ?_
    refine og_retN X0 hx hlk hret (by simp) (hb hby d21_48) (by decide) (by decide) ?_
    have q_hc12 := own_i2 hc12 (show (55296 : Int32).toInt = 55296 by decide)
    have q_hc20 := own_i4 hc20 (show (56319 : Int32).toInt = 56319 by decide)
    have q_hc30 := own_i1 hc30 (show (56320 : Int32).toInt = 56320 by decide)
    rw [e0]; exact ⟨_, rfl, N, rfl, Or.inr ⟨rfl, by rintro ⟨⟨a1, a2⟩, b1, b2⟩; omega⟩⟩
   ·
    refine og_aloadN X0 hx rfl rfl (hb hby d21_33) rfl ?_
    refine og_iloadN X0 hx rfl (hb hby d21_34) rfl ?_
    refine og_iconst (v := 1) X0 hx rfl (hb hby d21_35) rfl ?_
    refine og_iadd X0 hx (hb hby d21_36) rfl ?_
    show OG p e below _ (T0.setTop (mkF m 37 #[.val (.ref sa), .val (.int 3), .val (.int 1)] [(.int 2), (.ref sa)]))
    refine og_caload (v := (.int c2)) X0 hx hZ e0 V_sa ⟨by decide, by decide⟩ rfl (hb hby d21_37) rfl ?_
    refine og_ldc X0 hx hZ hown (ow162 hw) (hb hby d21_38) rfl ?_
    refine og_icmp_gt (pc1 := 47) (pc2 := 43) X0 hx (hb hby d21_40) (by decide) (by decide) rfl (fun hc40 => ?_) (fun hc40 => ?_)
    ·
     refine og_iconst (v := 0) X0 hx rfl (hb hby d21_47) rfl ?_
     refine og_retN X0 hx hlk hret (by simp) (hb hby d21_48) (by decide) (by decide) ?_
     have q_hc12 := own_i2 hc12 (show (55296 : Int32).toInt = 55296 by decide)
     have q_hc20 := own_i4 hc20 (show (56319 : Int32).toInt = 56319 by decide)
     have q_hc30 := own_i2 hc30 (show (56320 : Int32).toInt = 56320 by decide)
     have q_hc40 := own_i3 hc40 (show (57343 : Int32).toInt = 57343 by decide)
     rw [e0]; exact ⟨_, rfl, N, rfl, Or.inr ⟨rfl, by rintro ⟨⟨a1, a2⟩, b1, b2⟩; omega⟩⟩
    ·
     refine og_iconst (v := 1) X0 hx rfl (hb hby d21_43) rfl ?_
     refine og_goto (pc' := 48) X0 hx (hb hby d21_44) (by decide) (by decide) ?_
     refine og_retN X0 hx hlk hret (by simp) (hb hby d21_48) (by decide) (by decide) ?_
     have q_hc12 := own_i2 hc12 (show (55296 : Int32).toInt = 55296 by decide)
     have q_hc20 := own_i4 hc20 (show (56319 : Int32).toInt = 56319 by decide)
     have q_hc30 := own_i2 hc30 (show (56320 : Int32).toInt = 56320 by decide)
     have q_hc40 := own_i4 hc40 (show (57343 : Int32).toInt = 57343 by decide)
     rw [e0]; exact ⟨_, rfl, N, rfl, Or.inl ⟨rfl, ⟨by omega, by omega⟩, by omega, by omega⟩⟩
theorem rm_bd3_1 (l : Launch) (Z : State) (a0 : Array Value) (hw : HW a0 Z) (sa : Addr) (ka : ClassId) (c0 c1 c2 : Int32) (hc0 : 0 ≤ c0.toInt ∧ c0.toInt ≤ 65535) (hc1 : 0 ≤ c1.toInt ∧ c1.toInt ≤ 65535) (hc2 : 0 ≤ c2.toInt ∧ c2.toInt ≤ 65535) (h0 : Heap) (n0 : Nat) (O : Old Z n0 h0) (V_sa : Arv Z h0 sa ka .char (3 : Int32) [(.int c0), (.int c1), (.int c2)] (.int 0)) :
  Con l Z (⟨"com/example/neith/neith/io/XmlOutputForbiddenCharacterPinLaw", "bad", "([CII)I"⟩ : MethodName) method_5_code 3 (some .int) ({ frames := 1, cells := 0, slots := 0, locals := 14 } : Room) #[(.ref sa), (.int 3), (.int 1)] h0 (fun v h L => ∃ r : Int32, v = some (.int r) ∧ Fr n0 L ∧ h = h0 ∧ (((own_H c1 ∧ own_L c2) ∧ r = -1) ∨ (¬ (own_H c1 ∧ own_L c2) ∧ own_ok c1 ∧ r = -1) ∨ (¬ (own_H c1 ∧ own_L c2) ∧ ¬ own_ok c1 ∧ r = c1))) := by
 refine own_startC opn_20 ?_
 intro p e s m below meth c T0 X0 hx hby hml hZ hown hnm hret hlk e0
 have N := Fr.nil n0; have K := Keep.refl h0 []
 refine OG.cast (oef0 m sa (3 : Int32) (1 : Int32)) ?_
 refine og_aloadN X0 hx rfl rfl (hb hby d20_0) rfl ?_
 refine og_iloadN X0 hx rfl (hb hby d20_1) rfl ?_
 refine og_iloadN X0 hx rfl (hb hby d20_2) rfl ?_
 refine og_static (pc' := 6) (cells' := 0) (slots' := 0) (W := 0) X0 hx hZ (rm_pr3_1 l Z a0 hw sa ka c0 c1 c2 hc0 hc1 hc2 h0 n0 O V_sa) hown (ow92 hw) (ow93 hw) (ow3 hw) (ow94 hw) (by decide) (by rw [hml]; rfl) e0 opd_21 [(.ref sa), (.int 3), (.int 1)] [] rfl rfl rfl rfl (by decide) (by decide) rfl rfl (by decide) (by decide) (hb hby d20_3) rfl (fun v11 T11 h11 L11 X11 e11 z11 => ?_)
 obtain ⟨rb11, rfl, Nq11, hq11, hb11⟩ := z11; replace e11 := e11.trans hq11; have N := Fr.app N Nq11
 refine og_if_eq (pc1 := 11) (pc2 := 9) X11 hx (hb hby d20_6) (by decide) (by decide) rfl (fun hc6 => ?_) (fun hc6 => ?_)
 ·
  have hp := own_b0 hb11 hc6
  refine og_aloadN X11 hx rfl rfl (hb hby d20_11) rfl ?_
  refine og_iloadN X11 hx rfl (hb hby d20_12) rfl ?_
  refine og_caload (v := (.int c1)) X11 hx hZ e11 V_sa ⟨by decide, by decide⟩ rfl (hb hby d20_13) rfl ?_
  refine og_static (pc' := 17) (cells' := 0) (slots' := 0) (W := 0) X11 hx hZ (rm_okb l Z a0 hw c1 h0 n0 O) hown (ow95 hw) (ow96 hw) (ow3 hw) (ow97 hw) (by decide) (by rw [hml]; rfl) e11 opd_14 [(.int c1)] [] rfl rfl rfl rfl (by decide) (by decide) rfl rfl (by decide) (by decide) (hb hby d20_14) rfl (fun v12 T12 h12 L12 X12 e12 z12 => ?_)
  obtain ⟨rb12, rfl, Nq12, hq12, hb12⟩ := z12; replace e12 := e12.trans hq12; have N := Fr.app N Nq12
  refine og_if_eq (pc1 := 24) (pc2 := 20) X12 hx (hb hby d20_17) (by decide) (by decide) rfl (fun hc17 => ?_) (fun hc17 => ?_)
  ·
   have ho := own_b0 hb12 hc17
   refine og_aloadN X12 hx rfl rfl (hb hby d20_24) rfl ?_
   refine og_iloadN X12 hx rfl (hb hby d20_25) rfl ?_
   refine og_caload (v := (.int c1)) X12 hx hZ e12 V_sa ⟨by decide, by decide⟩ rfl (hb hby d20_26) rfl ?_
   refine og_retI X12 hx hlk hret (hb hby d20_27) (by decide) (by decide) ?_
   rw [e12]; exact ⟨_, rfl, N, rfl, Or.inr (Or.inr ⟨hp, ho, rfl⟩)⟩
  ·
   have ho := own_b1 hb12 hc17
   refine og_iconst (v := -1) X12 hx rfl (hb hby d20_20) rfl ?_
   refine og_goto (pc' := 27) X12 hx (hb hby d20_21) (by decide) (by decide) ?_
   refine og_retI X12 hx hlk hret (hb hby d20_27) (by decide) (by decide) ?_
   rw [e12]; exact ⟨_, rfl, N, rfl, Or.inr (Or.inl ⟨hp, ho, rfl⟩)⟩
 ·
  have hp := own_b1 hb11 hc6
  refine og_iconst (v := -1) X11 hx rfl (hb hby d20_9) rfl ?_
  refine og_retI X11 hx hlk hret (hb hby d20_10) (by decide) (by decide) ?_
  rw [e11]; exact ⟨_, rfl, N, rfl, Or.inl ⟨hp, rfl⟩⟩
theorem rm_nx3_1 (l : Launch) (Z : State) (a0 : Array Value) (hw : HW a0 Z) (sa : Addr) (ka : ClassId) (c0 c1 c2 : Int32) (hc0 : 0 ≤ c0.toInt ∧ c0.toInt ≤ 65535) (hc1 : 0 ≤ c1.toInt ∧ c1.toInt ≤ 65535) (hc2 : 0 ≤ c2.toInt ∧ c2.toInt ≤ 65535) (h0 : Heap) (n0 : Nat) (O : Old Z n0 h0) (V_sa : Arv Z h0 sa ka .char (3 : Int32) [(.int c0), (.int c1), (.int c2)] (.int 0)) :
  Con l Z (⟨"com/example/neith/neith/io/XmlOutputForbiddenCharacterPinLaw", "next", "([CII)I"⟩ : MethodName) method_6_code 3 (some .int) ({ frames := 1, cells := 0, slots := 0, locals := 14 } : Room) #[(.ref sa), (.int 3), (.int 1)] h0 (fun v h L => ∃ r : Int32, v = some (.int r) ∧ Fr n0 L ∧ h = h0 ∧ (((own_H c1 ∧ own_L c2) ∧ r = 3) ∨ (¬ (own_H c1 ∧ own_L c2) ∧ r = 2))) := by
 refine own_startC opn_23 ?_
 intro p e s m below meth c T0 X0 hx hby hml hZ hown hnm hret hlk e0
 have N := Fr.nil n0; have K := Keep.refl h0 []
 refine OG.cast (oef0 m sa (3 : Int32) (1 : Int32)) ?_
 refine og_aloadN X0 hx rfl rfl (hb hby d23_0) rfl ?_
 refine og_iloadN X0 hx rfl (hb hby d23_1) rfl ?_
 refine og_iloadN X0 hx rfl (hb hby d23_2) rfl ?_
 refine og_static (pc' := 6) (cells' := 0) (slots' := 0) (W := 0) X0 hx hZ (rm_pr3_1 l Z a0 hw sa ka c0 c1 c2 hc0 hc1 hc2 h0 n0 O V_sa) hown (ow92 hw) (ow93 hw) (ow3 hw) (ow94 hw) (by decide) (by rw [hml]; rfl) e0 opd_21 [(.ref sa), (.int 3), (.int 1)] [] rfl rfl rfl rfl (by decide) (by decide) rfl rfl (by decide) (by decide) (hb hby d23_3) rfl (fun v11 T11 h11 L11 X11 e11 z11 => ?_)
 obtain ⟨rb11, rfl, Nq11, hq11, hb11⟩ := z11; replace e11 := e11.trans hq11; have N := Fr.app N Nq11
 refine og_if_eq (pc1 := 15) (pc2 := 9) X11 hx (hb hby d23_6) (by decide) (by decide) rfl (fun hc6 => ?_) (fun hc6 => ?_)
 ·
  have hp := own_b0 hb11 hc6
  refine og_iloadN X11 hx rfl (hb hby d23_15) rfl ?_
  refine og_iconst (v := 1) X11 hx rfl (hb hby d23_16) rfl ?_
  refine og_iadd X11 hx (hb hby d23_17) rfl ?_
  show OG p e below _ (T11.setTop (mkF m 18 #[.val (.ref sa), .val (.int 3), .val (.int 1)] [(.int 2)]))
  refine og_retI X11 hx hlk hret (hb hby d23_18) (by decide) (by decide) ?_
  rw [e11]; exact ⟨_, rfl, N, rfl, Or.inr ⟨hp, rfl⟩⟩
 ·
  have hp := own_b1 hb11 hc6
  refine og_iloadN X11 hx rfl (hb hby d23_9) rfl ?_
  refine og_iconst (v := 2) X11 hx rfl (hb hby d23_10) rfl ?_
  refine og_iadd X11 hx (hb hby d23_11) rfl ?_
  show OG p e below _ (T11.setTop (mkF m 12 #[.val (.ref sa), .val (.int 3), .val (.int 1)] [(.int 3)]))
  refine og_goto (pc' := 18) X11 hx (hb hby d23_12) (by decide) (by decide) ?_
  refine og_retI X11 hx hlk hret (hb hby d23_18) (by decide) (by decide) ?_
  rw [e11]; exact ⟨_, rfl, N, rfl, Or.inl ⟨hp, rfl⟩⟩
theorem rm_pr3_2 (l : Launch) (Z : State) (a0 : Array Value) (hw : HW a0 Z) (sa : Addr) (ka : ClassId) (c0 c1 c2 : Int32) (hc0 : 0 ≤ c0.toInt ∧ c0.toInt ≤ 65535) (hc1 : 0 ≤ c1.toInt ∧ c1.toInt ≤ 65535) (hc2 : 0 ≤ c2.toInt ∧ c2.toInt ≤ 65535) (h0 : Heap) (n0 : Nat) (O : Old Z n0 h0) (V_sa : Arv Z h0 sa ka .char (3 : Int32) [(.int c0), (.int c1), (.int c2)] (.int 0)) :
  Con l Z (⟨"com/example/neith/neith/io/XmlOutputForbiddenCharacterPinLaw", "pair", "([CII)Z"⟩ : MethodName) method_4_code 3 (some .boolean) ({ frames := 0, cells := 0, slots := 0, locals := 0 } : Room) #[(.ref sa), (.int 3), (.int 2)] h0 (fun v h L => ∃ r : Int32, v = some (.int r) ∧ Fr n0 L ∧ h = h0 ∧ ((r = 1 ∧ False) ∨ (r = 0 ∧ ¬ False))) := by
 refine own_startC opn_21 ?_
 intro p e s m below meth c T0 X0 hx hby hml hZ hown hnm hret hlk e0
 have N := Fr.nil n0; have K := Keep.refl h0 []
 refine OG.cast (oef0 m sa (3 : Int32) (2 : Int32)) ?_
 refine og_iloadN X0 hx rfl (hb hby d21_0) rfl ?_
 refine og_iconst (v := 1) X0 hx rfl (hb hby d21_1) rfl ?_
 refine og_iadd X0 hx (hb hby d21_2) rfl ?_
 show OG p e below _ (T0.setTop (mkF m 3 #[.val (.ref sa), .val (.int 3), .val (.int 2)] [(.int 3)]))
 refine og_iloadN X0 hx rfl (hb hby d21_3) rfl ?_
 refine og_icmp_ge (pc1 := 47) (pc2 := 7) X0 hx (hb hby d21_4) (by decide) (by decide) rfl (fun _ => ?_) (fun q => absurd q (by decide))
 refine og_iconst (v := 0) X0 hx rfl (hb hby d21_47) rfl ?_
 refine og_retN X0 hx hlk hret (by simp) (hb hby d21_48) (by decide) (by decide) ?_
 rw [e0]; exact ⟨_, rfl, N, rfl, Or.inr ⟨rfl, fun q => q⟩⟩
theorem rm_bd3_2 (l : Launch) (Z : State) (a0 : Array Value) (hw : HW a0 Z) (sa : Addr) (ka : ClassId) (c0 c1 c2 : Int32) (hc0 : 0 ≤ c0.toInt ∧ c0.toInt ≤ 65535) (hc1 : 0 ≤ c1.toInt ∧ c1.toInt ≤ 65535) (hc2 : 0 ≤ c2.toInt ∧ c2.toInt ≤ 65535) (h0 : Heap) (n0 : Nat) (O : Old Z n0 h0) (V_sa : Arv Z h0 sa ka .char (3 : Int32) [(.int c0), (.int c1), (.int c2)] (.int 0)) :
  Con l Z (⟨"com/example/neith/neith/io/XmlOutputForbiddenCharacterPinLaw", "bad", "([CII)I"⟩ : MethodName) method_5_code 3 (some .int) ({ frames := 1, cells := 0, slots := 0, locals := 14 } : Room) #[(.ref sa), (.int 3), (.int 2)] h0 (fun v h L => ∃ r : Int32, v = some (.int r) ∧ Fr n0 L ∧ h = h0 ∧ ((False ∧ r = -1) ∨ (¬ False ∧ own_ok c2 ∧ r = -1) ∨ (¬ False ∧ ¬ own_ok c2 ∧ r = c2))) := by
 refine own_startC opn_20 ?_
 intro p e s m below meth c T0 X0 hx hby hml hZ hown hnm hret hlk e0
 have N := Fr.nil n0; have K := Keep.refl h0 []
 refine OG.cast (oef0 m sa (3 : Int32) (2 : Int32)) ?_
 refine og_aloadN X0 hx rfl rfl (hb hby d20_0) rfl ?_
 refine og_iloadN X0 hx rfl (hb hby d20_1) rfl ?_
 refine og_iloadN X0 hx rfl (hb hby d20_2) rfl ?_
 refine og_static (pc' := 6) (cells' := 0) (slots' := 0) (W := 0) X0 hx hZ (rm_pr3_2 l Z a0 hw sa ka c0 c1 c2 hc0 hc1 hc2 h0 n0 O V_sa) hown (ow92 hw) (ow93 hw) (ow3 hw) (ow94 hw) (by decide) (by rw [hml]; rfl) e0 opd_21 [(.ref sa), (.int 3), (.int 2)] [] rfl rfl rfl rfl (by decide) (by decide) rfl rfl (by decide) (by decide) (hb hby d20_3) rfl (fun v11 T11 h11 L11 X11 e11 z11 => ?_)
 obtain ⟨rb11, rfl, Nq11, hq11, hb11⟩ := z11; replace e11 := e11.trans hq11; have N := Fr.app N Nq11
 refine og_if_eq (pc1 := 11) (pc2 := 9) X11 hx (hb hby d20_6) (by decide) (by decide) rfl (fun hc6 => ?_) (fun hc6 => ?_)
 ·
  have hp := own_b0 hb11 hc6
  refine og_aloadN X11 hx rfl rfl (hb hby d20_11) rfl ?_
  refine og_iloadN X11 hx rfl (hb hby d20_12) rfl ?_
  refine og_caload (v := (.int c2)) X11 hx hZ e11 V_sa ⟨by decide, by decide⟩ rfl (hb hby d20_13) rfl ?_
  refine og_static (pc' := 17) (cells' := 0) (slots' := 0) (W := 0) X11 hx hZ (rm_okb l Z a0 hw c2 h0 n0 O) hown (ow95 hw) (ow96 hw) (ow3 hw) (ow97 hw) (by decide) (by rw [hml]; rfl) e11 opd_14 [(.int c2)] [] rfl rfl rfl rfl (by decide) (by decide) rfl rfl (by decide) (by decide) (hb hby d20_14) rfl (fun v12 T12 h12 L12 X12 e12 z12 => ?_)
  obtain ⟨rb12, rfl, Nq12, hq12, hb12⟩ := z12; replace e12 := e12.trans hq12; have N := Fr.app N Nq12
  refine og_if_eq (pc1 := 24) (pc2 := 20) X12 hx (hb hby d20_17) (by decide) (by decide) rfl (fun hc17 => ?_) (fun hc17 => ?_)
  ·
   have ho := own_b0 hb12 hc17
   refine og_aloadN X12 hx rfl rfl (hb hby d20_24) rfl ?_
   refine og_iloadN X12 hx rfl (hb hby d20_25) rfl ?_
   refine og_caload (v := (.int c2)) X12 hx hZ e12 V_sa ⟨by decide, by decide⟩ rfl (hb hby d20_26) rfl ?_
   refine og_retI X12 hx hlk hret (hb hby d20_27) (by decide) (by decide) ?_
   rw [e12]; exact ⟨_, rfl, N, rfl, Or.inr (Or.inr ⟨hp, ho, rfl⟩)⟩
  ·
   have ho := own_b1 hb12 hc17
   refine og_iconst (v := -1) X12 hx rfl (hb hby d20_20) rfl ?_
   refine og_goto (pc' := 27) X12 hx (hb hby d20_21) (by decide) (by decide) ?_
   refine og_retI X12 hx hlk hret (hb hby d20_27) (by decide) (by decide) ?_
   rw [e12]; exact ⟨_, rfl, N, rfl, Or.inr (Or.inl ⟨hp, ho, rfl⟩)⟩
 ·
  have hp := own_b1 hb11 hc6
  refine og_iconst (v := -1) X11 hx rfl (hb hby d20_9) rfl ?_
  refine og_retI X11 hx hlk hret (hb hby d20_10) (by decide) (by decide) ?_
  rw [e11]; exact ⟨_, rfl, N, rfl, Or.inl ⟨hp, rfl⟩⟩
theorem rm_nx3_2 (l : Launch) (Z : State) (a0 : Array Value) (hw : HW a0 Z) (sa : Addr) (ka : ClassId) (c0 c1 c2 : Int32) (hc0 : 0 ≤ c0.toInt ∧ c0.toInt ≤ 65535) (hc1 : 0 ≤ c1.toInt ∧ c1.toInt ≤ 65535) (hc2 : 0 ≤ c2.toInt ∧ c2.toInt ≤ 65535) (h0 : Heap) (n0 : Nat) (O : Old Z n0 h0) (V_sa : Arv Z h0 sa ka .char (3 : Int32) [(.int c0), (.int c1), (.int c2)] (.int 0)) :
  Con l Z (⟨"com/example/neith/neith/io/XmlOutputForbiddenCharacterPinLaw", "next", "([CII)I"⟩ : MethodName) method_6_code 3 (some .int) ({ frames := 1, cells := 0, slots := 0, locals := 14 } : Room) #[(.ref sa), (.int 3), (.int 2)] h0 (fun v h L => ∃ r : Int32, v = some (.int r) ∧ Fr n0 L ∧ h = h0 ∧ ((False ∧ r = 4) ∨ (¬ False ∧ r = 3))) := by
 refine own_startC opn_23 ?_
 intro p e s m below meth c T0 X0 hx hby hml hZ hown hnm hret hlk e0
 have N := Fr.nil n0; have K := Keep.refl h0 []
 refine OG.cast (oef0 m sa (3 : Int32) (2 : Int32)) ?_
 refine og_aloadN X0 hx rfl rfl (hb hby d23_0) rfl ?_
 refine og_iloadN X0 hx rfl (hb hby d23_1) rfl ?_
 refine og_iloadN X0 hx rfl (hb hby d23_2) rfl ?_
 refine og_static (pc' := 6) (cells' := 0) (slots' := 0) (W := 0) X0 hx hZ (rm_pr3_2 l Z a0 hw sa ka c0 c1 c2 hc0 hc1 hc2 h0 n0 O V_sa) hown (ow92 hw) (ow93 hw) (ow3 hw) (ow94 hw) (by decide) (by rw [hml]; rfl) e0 opd_21 [(.ref sa), (.int 3), (.int 2)] [] rfl rfl rfl rfl (by decide) (by decide) rfl rfl (by decide) (by decide) (hb hby d23_3) rfl (fun v11 T11 h11 L11 X11 e11 z11 => ?_)
 obtain ⟨rb11, rfl, Nq11, hq11, hb11⟩ := z11; replace e11 := e11.trans hq11; have N := Fr.app N Nq11
 refine og_if_eq (pc1 := 15) (pc2 := 9) X11 hx (hb hby d23_6) (by decide) (by decide) rfl (fun hc6 => ?_) (fun hc6 => ?_)
 ·
  have hp := own_b0 hb11 hc6
  refine og_iloadN X11 hx rfl (hb hby d23_15) rfl ?_
  refine og_iconst (v := 1) X11 hx rfl (hb hby d23_16) rfl ?_
  refine og_iadd X11 hx (hb hby d23_17) rfl ?_
  show OG p e below _ (T11.setTop (mkF m 18 #[.val (.ref sa), .val (.int 3), .val (.int 2)] [(.int 3)]))
  refine og_retI X11 hx hlk hret (hb hby d23_18) (by decide) (by decide) ?_
  rw [e11]; exact ⟨_, rfl, N, rfl, Or.inr ⟨hp, rfl⟩⟩
 ·
  have hp := own_b1 hb11 hc6
  refine og_iloadN X11 hx rfl (hb hby d23_9) rfl ?_
  refine og_iconst (v := 2) X11 hx rfl (hb hby d23_10) rfl ?_
  refine og_iadd X11 hx (hb hby d23_11) rfl ?_
  show OG p e below _ (T11.setTop (mkF m 12 #[.val (.ref sa), .val (.int 3), .val (.int 2)] [(.int 4)]))
  refine og_goto (pc' := 18) X11 hx (hb hby d23_12) (by decide) (by decide) ?_
  refine og_retI X11 hx hlk hret (hb hby d23_18) (by decide) (by decide) ?_
  rw [e11]; exact ⟨_, rfl, N, rfl, Or.inl ⟨hp, rfl⟩⟩
theorem rm_ref3 (l : Launch) (Z : State) (a0 : Array Value) (hw : HW a0 Z) (sa : Addr) (ka : ClassId) (c0 c1 c2 : Int32) (hc0 : 0 ≤ c0.toInt ∧ c0.toInt ≤ 65535) (hc1 : 0 ≤ c1.toInt ∧ c1.toInt ≤ 65535) (hc2 : 0 ≤ c2.toInt ∧ c2.toInt ≤ 65535) (r : Int32) (hr : own_fc [c0, c1, c2] = r) (h0 : Heap) (n0 : Nat) (O : Old Z n0 h0) (V_sa : Arv Z h0 sa ka .char (3 : Int32) [(.int c0), (.int c1), (.int c2)] (.int 0)) :
  Con l Z (⟨"com/example/neith/neith/io/XmlOutputForbiddenCharacterPinLaw", "ref", "([CI)I"⟩ : MethodName) method_7_code 4 (some .int) ({ frames := 2, cells := 0, slots := 0, locals := 28 } : Room) #[(.ref sa), (.int 3)] h0 (fun v h L => v = some (.int r) ∧ Fr n0 L ∧ h = h0) := by
 refine own_startC opn_19 ?_
 intro p e s m below meth c T0 X0 hx hby hml hZ hown hnm hret hlk e0
 have N := Fr.nil n0; have K := Keep.refl h0 []
 refine OG.cast (oef16 m sa (3 : Int32)) ?_
 refine og_iconst (v := 0) X0 hx rfl (hb hby d19_0) rfl ?_
 refine og_istoreN (L' := #[.val (.ref sa), .val (.int 3), .val (.int 0), .unset]) X0 hx rfl (hb hby d19_1) rfl ?_
 refine og_iloadN X0 hx rfl (hb hby d19_2) rfl ?_
 refine og_iloadN X0 hx rfl (hb hby d19_3) rfl ?_
 refine og_icmp_ge (pc1 := 27) (pc2 := 7) X0 hx (hb hby d19_4) (by decide) (by decide) rfl (fun q => absurd q (by decide)) (fun _ => ?_)
 refine og_aloadN X0 hx rfl rfl (hb hby d19_7) rfl ?_
 refine og_iloadN X0 hx rfl (hb hby d19_8) rfl ?_
 refine og_iloadN X0 hx rfl (hb hby d19_9) rfl ?_
 refine og_static (pc' := 13) (cells' := 0) (slots' := 0) (W := 0) X0 hx hZ (rm_bd3_0 l Z a0 hw sa ka c0 c1 c2 hc0 hc1 hc2 h0 n0 O V_sa) hown (ow89 hw) (ow90 hw) (ow3 hw) (ow91 hw) (by decide) (by rw [hml]; rfl) e0 opd_22 [(.ref sa), (.int 3), (.int 0)] [] rfl rfl rfl rfl (by decide) (by decide) rfl rfl (by decide) (by decide) (hb hby d19_10) rfl (fun v11 T11 h11 L11 X11 e11 z11 => ?_)
 obtain ⟨rbd, rfl, Nq11, hq11, hbd⟩ := z11; replace e11 := e11.trans hq11; have N := Fr.app N Nq11
 rcases hbd with ⟨hp0, hbd⟩ | ⟨hp0, ho0, hbd⟩ | ⟨hp0, ho0, hbd⟩
 ·
  subst rbd
  refine og_istoreN (L' := #[.val (.ref sa), .val (.int 3), .val (.int 0), .val (.int (-1))]) X11 hx rfl (hb hby d19_13) rfl ?_
  refine og_iloadN X11 hx rfl (hb hby d19_14) rfl ?_
  refine og_if_lt (pc1 := 20) (pc2 := 18) X11 hx (hb hby d19_15) (by decide) (by decide) rfl (fun _ => ?_) (fun q => absurd q (by decide))
  refine og_aloadN X11 hx rfl rfl (hb hby d19_20) rfl ?_
  refine og_iloadN X11 hx rfl (hb hby d19_21) rfl ?_
  refine og_iloadN X11 hx rfl (hb hby d19_22) rfl ?_
  refine og_static (pc' := 26) (cells' := 0) (slots' := 0) (W := 0) X11 hx hZ (rm_nx3_0 l Z a0 hw sa ka c0 c1 c2 hc0 hc1 hc2 h0 n0 O V_sa) hown (ow101 hw) (ow102 hw) (ow3 hw) (ow103 hw) (by decide) (by rw [hml]; rfl) e11 opd_22 [(.ref sa), (.int 3), (.int 0)] [] rfl rfl rfl rfl (by decide) (by decide) rfl rfl (by decide) (by decide) (hb hby d19_23) rfl (fun v12 T12 h12 L12 X12 e12 z12 => ?_)
  obtain ⟨rnx, rfl, Nq12, hq12, hnx⟩ := z12; replace e12 := e12.trans hq12; have N := Fr.app N Nq12
  have hrn : rnx = 2 := own_p1 hnx hp0
  subst hrn
  refine og_istoreN (L' := #[.val (.ref sa), .val (.int 3), .val (.int 2), .val (.int (-1))]) X12 hx rfl (hb hby d19_26) rfl ?_
  refine og_iloadN X12 hx rfl (hb hby d19_27) rfl ?_
  refine og_iloadN X12 hx rfl (hb hby d19_28) rfl ?_
  refine og_icmp_ge (pc1 := 52) (pc2 := 32) X12 hx (hb hby d19_29) (by decide) (by decide) rfl (fun q => absurd q (by decide)) (fun _ => ?_)
  refine og_aloadN X12 hx rfl rfl (hb hby d19_32) rfl ?_
  refine og_iloadN X12 hx rfl (hb hby d19_33) rfl ?_
  refine og_iloadN X12 hx rfl (hb hby d19_34) rfl ?_
  refine og_static (pc' := 38) (cells' := 0) (slots' := 0) (W := 0) X12 hx hZ (rm_bd3_2 l Z a0 hw sa ka c0 c1 c2 hc0 hc1 hc2 h0 n0 O V_sa) hown (ow89 hw) (ow90 hw) (ow3 hw) (ow91 hw) (by decide) (by rw [hml]; rfl) e12 opd_22 [(.ref sa), (.int 3), (.int 2)] [] rfl rfl rfl rfl (by decide) (by decide) rfl rfl (by decide) (by decide) (hb hby d19_35) rfl (fun v13 T13 h13 L13 X13 e13 z13 => ?_)
  obtain ⟨rbd, rfl, Nq13, hq13, hbd⟩ := z13; replace e13 := e13.trans hq13; have N := Fr.app N Nq13
  rcases hbd with ⟨hp2, hbd⟩ | ⟨hp2, ho2, hbd⟩ | ⟨hp2, ho2, hbd⟩
  ·
   exact hp2.elim
  ·
   subst rbd
   refine og_istoreN (L' := #[.val (.ref sa), .val (.int 3), .val (.int 2), .val (.int (-1))]) X13 hx rfl (hb hby d19_38) rfl ?_
   refine og_iloadN X13 hx rfl (hb hby d19_39) rfl ?_
   refine og_if_lt (pc1 := 45) (pc2 := 43) X13 hx (hb hby d19_40) (by decide) (by decide) rfl (fun _ => ?_) (fun q => absurd q (by decide))
   refine og_aloadN X13 hx rfl rfl (hb hby d19_45) rfl ?_
   refine og_iloadN X13 hx rfl (hb hby d19_46) rfl ?_
   refine og_iloadN X13 hx rfl (hb hby d19_47) rfl ?_
   refine og_static (pc' := 51) (cells' := 0) (slots' := 0) (W := 0) X13 hx hZ (rm_nx3_2 l Z a0 hw sa ka c0 c1 c2 hc0 hc1 hc2 h0 n0 O V_sa) hown (ow101 hw) (ow102 hw) (ow3 hw) (ow103 hw) (by decide) (by rw [hml]; rfl) e13 opd_22 [(.ref sa), (.int 3), (.int 2)] [] rfl rfl rfl rfl (by decide) (by decide) rfl rfl (by decide) (by decide) (hb hby d19_48) rfl (fun v14 T14 h14 L14 X14 e14 z14 => ?_)
   obtain ⟨rnx, rfl, Nq14, hq14, hnx⟩ := z14; replace e14 := e14.trans hq14; have N := Fr.app N Nq14
   have hrn : rnx = 3 := own_p0 hnx hp2
   subst hrn
   refine og_istoreN (L' := #[.val (.ref sa), .val (.int 3), .val (.int 3), .val (.int (-1))]) X14 hx rfl (hb hby d19_51) rfl ?_
   refine og_iloadN X14 hx rfl (hb hby d19_52) rfl ?_
   refine og_iloadN X14 hx rfl (hb hby d19_53) rfl ?_
   refine og_icmp_ge (pc1 := 70) (pc2 := 57) X14 hx (hb hby d19_54) (by decide) (by decide) rfl (fun _ => ?_) (fun q => absurd q (by decide))
   refine og_iconst (v := -1) X14 hx rfl (hb hby d19_70) rfl ?_
   refine og_retI X14 hx hlk hret (hb hby d19_71) (by decide) (by decide) ?_
   rw [e14]; exact ⟨by rw [← hr, own_fpair hp0.1 hp0.2, own_fok1 ho2]; rfl, N, rfl⟩
  ·
   subst rbd
   refine og_istoreN (L' := #[.val (.ref sa), .val (.int 3), .val (.int 2), .val (.int c2)]) X13 hx rfl (hb hby d19_38) rfl ?_
   refine og_iloadN X13 hx rfl (hb hby d19_39) rfl ?_
   refine og_if_lt (pc1 := 45) (pc2 := 43) X13 hx (hb hby d19_40) (by decide) (by decide) rfl (fun q => absurd q (own_nn hc2)) (fun _ => ?_)
   refine og_iloadN X13 hx rfl (hb hby d19_43) rfl ?_
   refine og_retI X13 hx hlk hret (hb hby d19_44) (by decide) (by decide) ?_
   rw [e13]; exact ⟨by rw [← hr, own_fpair hp0.1 hp0.2, own_fbad1 ho2], N, rfl⟩
 ·
  subst rbd
  refine og_istoreN (L' := #[.val (.ref sa), .val (.int 3), .val (.int 0), .val (.int (-1))]) X11 hx rfl (hb hby d19_13) rfl ?_
  refine og_iloadN X11 hx rfl (hb hby d19_14) rfl ?_
  refine og_if_lt (pc1 := 20) (pc2 := 18) X11 hx (hb hby d19_15) (by decide) (by decide) rfl (fun _ => ?_) (fun q => absurd q (by decide))
  refine og_aloadN X11 hx rfl rfl (hb hby d19_20) rfl ?_
  refine og_iloadN X11 hx rfl (hb hby d19_21) rfl ?_
  refine og_iloadN X11 hx rfl (hb hby d19_22) rfl ?_
  refine og_static (pc' := 26) (cells' := 0) (slots' := 0) (W := 0) X11 hx hZ (rm_nx3_0 l Z a0 hw sa ka c0 c1 c2 hc0 hc1 hc2 h0 n0 O V_sa) hown (ow101 hw) (ow102 hw) (ow3 hw) (ow103 hw) (by decide) (by rw [hml]; rfl) e11 opd_22 [(.ref sa), (.int 3), (.int 0)] [] rfl rfl rfl rfl (by decide) (by decide) rfl rfl (by decide) (by decide) (hb hby d19_23) rfl (fun v15 T15 h15 L15 X15 e15 z15 => ?_)
  obtain ⟨rnx, rfl, Nq15, hq15, hnx⟩ := z15; replace e15 := e15.trans hq15; have N := Fr.app N Nq15
  have hrn : rnx = 1 := own_p0 hnx hp0
  subst hrn
  refine og_istoreN (L' := #[.val (.ref sa), .val (.int 3), .val (.int 1), .val (.int (-1))]) X15 hx rfl (hb hby d19_26) rfl ?_
  refine og_iloadN X15 hx rfl (hb hby d19_27) rfl ?_
  refine og_iloadN X15 hx rfl (hb hby d19_28) rfl ?_
  refine og_icmp_ge (pc1 := 52) (pc2 := 32) X15 hx (hb hby d19_29) (by decide) (by decide) rfl (fun q => absurd q (by decide)) (fun _ => ?_)
  refine og_aloadN X15 hx rfl rfl (hb hby d19_32) rfl ?_
  refine og_iloadN X15 hx rfl (hb hby d19_33) rfl ?_
  refine og_iloadN X15 hx rfl (hb hby d19_34) rfl ?_
  refine og_static (pc' := 38) (cells' := 0) (slots' := 0) (W := 0) X15 hx hZ (rm_bd3_1 l Z a0 hw sa ka c0 c1 c2 hc0 hc1 hc2 h0 n0 O V_sa) hown (ow89 hw) (ow90 hw) (ow3 hw) (ow91 hw) (by decide) (by rw [hml]; rfl) e15 opd_22 [(.ref sa), (.int 3), (.int 1)] [] rfl rfl rfl rfl (by decide) (by decide) rfl rfl (by decide) (by decide) (hb hby d19_35) rfl (fun v16 T16 h16 L16 X16 e16 z16 => ?_)
  obtain ⟨rbd, rfl, Nq16, hq16, hbd⟩ := z16; replace e16 := e16.trans hq16; have N := Fr.app N Nq16
  rcases hbd with ⟨hp1, hbd⟩ | ⟨hp1, ho1, hbd⟩ | ⟨hp1, ho1, hbd⟩
  ·
   subst rbd
   refine og_istoreN (L' := #[.val (.ref sa), .val (.int 3), .val (.int 1), .val (.int (-1))]) X16 hx rfl (hb hby d19_38) rfl ?_
   refine og_iloadN X16 hx rfl (hb hby d19_39) rfl ?_
   refine og_if_lt (pc1 := 45) (pc2 := 43) X16 hx (hb hby d19_40) (by decide) (by decide) rfl (fun _ => ?_) (fun q => absurd q (by decide))
   refine og_aloadN X16 hx rfl rfl (hb hby d19_45) rfl ?_
   refine og_iloadN X16 hx rfl (hb hby d19_46) rfl ?_
   refine og_iloadN X16 hx rfl (hb hby d19_47) rfl ?_
   refine og_static (pc' := 51) (cells' := 0) (slots' := 0) (W := 0) X16 hx hZ (rm_nx3_1 l Z a0 hw sa ka c0 c1 c2 hc0 hc1 hc2 h0 n0 O V_sa) hown (ow101 hw) (ow102 hw) (ow3 hw) (ow103 hw) (by decide) (by rw [hml]; rfl) e16 opd_22 [(.ref sa), (.int 3), (.int 1)] [] rfl rfl rfl rfl (by decide) (by decide) rfl rfl (by decide) (by decide) (hb hby d19_48) rfl (fun v17 T17 h17 L17 X17 e17 z17 => ?_)
   obtain ⟨rnx, rfl, Nq17, hq17, hnx⟩ := z17; replace e17 := e17.trans hq17; have N := Fr.app N Nq17
   have hrn : rnx = 3 := own_p1 hnx hp1
   subst hrn
   refine og_istoreN (L' := #[.val (.ref sa), .val (.int 3), .val (.int 3), .val (.int (-1))]) X17 hx rfl (hb hby d19_51) rfl ?_
   refine og_iloadN X17 hx rfl (hb hby d19_52) rfl ?_
   refine og_iloadN X17 hx rfl (hb hby d19_53) rfl ?_
   refine og_icmp_ge (pc1 := 70) (pc2 := 57) X17 hx (hb hby d19_54) (by decide) (by decide) rfl (fun _ => ?_) (fun q => absurd q (by decide))
   refine og_iconst (v := -1) X17 hx rfl (hb hby d19_70) rfl ?_
   refine og_retI X17 hx hlk hret (hb hby d19_71) (by decide) (by decide) ?_
   rw [e17]; exact ⟨by rw [← hr, own_fok hp0 ho0, own_fpair hp1.1 hp1.2]; rfl, N, rfl⟩
  ·
   subst rbd
   refine og_istoreN (L' := #[.val (.ref sa), .val (.int 3), .val (.int 1), .val (.int (-1))]) X16 hx rfl (hb hby d19_38) rfl ?_
   refine og_iloadN X16 hx rfl (hb hby d19_39) rfl ?_
   refine og_if_lt (pc1 := 45) (pc2 := 43) X16 hx (hb hby d19_40) (by decide) (by decide) rfl (fun _ => ?_) (fun q => absurd q (by decide))
   refine og_aloadN X16 hx rfl rfl (hb hby d19_45) rfl ?_
   refine og_iloadN X16 hx rfl (hb hby d19_46) rfl ?_
   refine og_iloadN X16 hx rfl (hb hby d19_47) rfl ?_
   refine og_static (pc' := 51) (cells' := 0) (slots' := 0) (W := 0) X16 hx hZ (rm_nx3_1 l Z a0 hw sa ka c0 c1 c2 hc0 hc1 hc2 h0 n0 O V_sa) hown (ow101 hw) (ow102 hw) (ow3 hw) (ow103 hw) (by decide) (by rw [hml]; rfl) e16 opd_22 [(.ref sa), (.int 3), (.int 1)] [] rfl rfl rfl rfl (by decide) (by decide) rfl rfl (by decide) (by decide) (hb hby d19_48) rfl (fun v18 T18 h18 L18 X18 e18 z18 => ?_)
   obtain ⟨rnx, rfl, Nq18, hq18, hnx⟩ := z18; replace e18 := e18.trans hq18; have N := Fr.app N Nq18
   have hrn : rnx = 2 := own_p0 hnx hp1
   subst hrn
   refine og_istoreN (L' := #[.val (.ref sa), .val (.int 3), .val (.int 2), .val (.int (-1))]) X18 hx rfl (hb hby d19_51) rfl ?_
   refine og_iloadN X18 hx rfl (hb hby d19_52) rfl ?_
   refine og_iloadN X18 hx rfl (hb hby d19_53) rfl ?_
   refine og_icmp_ge (pc1 := 70) (pc2 := 57) X18 hx (hb hby d19_54) (by decide) (by decide) rfl (fun q => absurd q (by decide)) (fun _ => ?_)
   refine og_aloadN X18 hx rfl rfl (hb hby d19_57) rfl ?_
   refine og_iloadN X18 hx rfl (hb hby d19_58) rfl ?_
   refine og_iloadN X18 hx rfl (hb hby d19_59) rfl ?_
   refine og_static (pc' := 63) (cells' := 0) (slots' := 0) (W := 0) X18 hx hZ (rm_bd3_2 l Z a0 hw sa ka c0 c1 c2 hc0 hc1 hc2 h0 n0 O V_sa) hown (ow89 hw) (ow90 hw) (ow3 hw) (ow91 hw) (by decide) (by rw [hml]; rfl) e18 opd_22 [(.ref sa), (.int 3), (.int 2)] [] rfl rfl rfl rfl (by decide) (by decide) rfl rfl (by decide) (by decide) (hb hby d19_60) rfl (fun v19 T19 h19 L19 X19 e19 z19 => ?_)
   obtain ⟨rbd, rfl, Nq19, hq19, hbd⟩ := z19; replace e19 := e19.trans hq19; have N := Fr.app N Nq19
   rcases hbd with ⟨hp2, hbd⟩ | ⟨hp2, ho2, hbd⟩ | ⟨hp2, ho2, hbd⟩
   ·
    exact hp2.elim
   ·
    subst rbd
    refine og_istoreN (L' := #[.val (.ref sa), .val (.int 3), .val (.int 2), .val (.int (-1))]) X19 hx rfl (hb hby d19_63) rfl ?_
    refine og_iloadN X19 hx rfl (hb hby d19_64) rfl ?_
    refine og_if_lt (pc1 := 70) (pc2 := 68) X19 hx (hb hby d19_65) (by decide) (by decide) rfl (fun _ => ?_) (fun q => absurd q (by decide))
    refine og_iconst (v := -1) X19 hx rfl (hb hby d19_70) rfl ?_
    refine og_retI X19 hx hlk hret (hb hby d19_71) (by decide) (by decide) ?_
    rw [e19]; exact ⟨by rw [← hr, own_fok hp0 ho0, own_fok hp1 ho1, own_fok1 ho2]; rfl, N, rfl⟩
   ·
    subst rbd
    refine og_istoreN (L' := #[.val (.ref sa), .val (.int 3), .val (.int 2), .val (.int c2)]) X19 hx rfl (hb hby d19_63) rfl ?_
    refine og_iloadN X19 hx rfl (hb hby d19_64) rfl ?_
    refine og_if_lt (pc1 := 70) (pc2 := 68) X19 hx (hb hby d19_65) (by decide) (by decide) rfl (fun q => absurd q (own_nn hc2)) (fun _ => ?_)
    refine og_iloadN X19 hx rfl (hb hby d19_68) rfl ?_
    refine og_retI X19 hx hlk hret (hb hby d19_69) (by decide) (by decide) ?_
    rw [e19]; exact ⟨by rw [← hr, own_fok hp0 ho0, own_fok hp1 ho1, own_fbad1 ho2], N, rfl⟩
  ·
   subst rbd
   refine og_istoreN (L' := #[.val (.ref sa), .val (.int 3), .val (.int 1), .val (.int c1)]) X16 hx rfl (hb hby d19_38) rfl ?_
   refine og_iloadN X16 hx rfl (hb hby d19_39) rfl ?_
   refine og_if_lt (pc1 := 45) (pc2 := 43) X16 hx (hb hby d19_40) (by decide) (by decide) rfl (fun q => absurd q (own_nn hc1)) (fun _ => ?_)
   refine og_iloadN X16 hx rfl (hb hby d19_43) rfl ?_
   refine og_retI X16 hx hlk hret (hb hby d19_44) (by decide) (by decide) ?_
   rw [e16]; exact ⟨by rw [← hr, own_fok hp0 ho0, own_fbad hp1 ho1], N, rfl⟩
 ·
  subst rbd
  refine og_istoreN (L' := #[.val (.ref sa), .val (.int 3), .val (.int 0), .val (.int c0)]) X11 hx rfl (hb hby d19_13) rfl ?_
  refine og_iloadN X11 hx rfl (hb hby d19_14) rfl ?_
  refine og_if_lt (pc1 := 20) (pc2 := 18) X11 hx (hb hby d19_15) (by decide) (by decide) rfl (fun q => absurd q (own_nn hc0)) (fun _ => ?_)
  refine og_iloadN X11 hx rfl (hb hby d19_18) rfl ?_
  refine og_retI X11 hx hlk hret (hb hby d19_19) (by decide) (by decide) ?_
  rw [e11]; exact ⟨by rw [← hr, own_fbad hp0 ho0], N, rfl⟩
theorem rm_ref0 (l : Launch) (Z : State) (a0 : Array Value) (hw : HW a0 Z) (sa : Addr) (h0 : Heap) (n0 : Nat) (O : Old Z n0 h0) :
  Con l Z (⟨"com/example/neith/neith/io/XmlOutputForbiddenCharacterPinLaw", "ref", "([CI)I"⟩ : MethodName) method_7_code 4 (some .int) ({ frames := 0, cells := 0, slots := 0, locals := 0 } : Room) #[(.ref sa), (.int 0)] h0 (fun v h L => v = some (.int (-1)) ∧ Fr n0 L ∧ h = h0) := by
 refine own_startC opn_19 ?_
 intro p e s m below meth c T0 X0 hx hby hml hZ hown hnm hret hlk e0
 have N := Fr.nil n0; have K := Keep.refl h0 []
 refine OG.cast (oef16 m sa (0 : Int32)) ?_
 refine og_iconst (v := 0) X0 hx rfl (hb hby d19_0) rfl ?_
 refine og_istoreN (L' := #[.val (.ref sa), .val (.int 0), .val (.int 0), .unset]) X0 hx rfl (hb hby d19_1) rfl ?_
 refine og_iloadN X0 hx rfl (hb hby d19_2) rfl ?_
 refine og_iloadN X0 hx rfl (hb hby d19_3) rfl ?_
 refine og_icmp_ge (pc1 := 27) (pc2 := 7) X0 hx (hb hby d19_4) (by decide) (by decide) rfl (fun _ => ?_) (fun q => absurd q (by decide))
 refine og_iloadN X0 hx rfl (hb hby d19_27) rfl ?_
 refine og_iloadN X0 hx rfl (hb hby d19_28) rfl ?_
 refine og_icmp_ge (pc1 := 52) (pc2 := 32) X0 hx (hb hby d19_29) (by decide) (by decide) rfl (fun _ => ?_) (fun q => absurd q (by decide))
 refine og_iloadN X0 hx rfl (hb hby d19_52) rfl ?_
 refine og_iloadN X0 hx rfl (hb hby d19_53) rfl ?_
 refine og_icmp_ge (pc1 := 70) (pc2 := 57) X0 hx (hb hby d19_54) (by decide) (by decide) rfl (fun _ => ?_) (fun q => absurd q (by decide))
 refine og_iconst (v := -1) X0 hx rfl (hb hby d19_70) rfl ?_
 refine og_retI X0 hx hlk hret (hb hby d19_71) (by decide) (by decide) ?_
 rw [e0]; exact ⟨rfl, N, rfl⟩
theorem rm0 (l : Launch) (Z : State) (a0 : Array Value) (hw : HW a0 Z) (ws : List Jvm.Cond) (p0 p1 p2 p3 : Int32) (cs : Int32) (hcs : ¬ cs = 0) (fm : Value) (hfm : fm.isRef = true) (h0 : Heap) (n0 : Nat) (O : Old Z n0 h0) (hEL : EW Z a0 own_EL) (S_CS : Sta Z Z.heap "java/lang/String" "COMPACT_STRINGS" "Z" (.int cs)) (S_FM : Sta Z Z.heap "jdk/internal/util/Preconditions" "SIOOBE_FORMATTER" "Ljava/util/function/BiFunction;" fm) (S__assertionsDisabled : Sta Z Z.heap "java/lang/StringUTF16" "$assertionsDisabled" "Z" (.int 1)) (S_HI_BYTE_SHIFT : Sta Z Z.heap "java/lang/StringUTF16" "HI_BYTE_SHIFT" "I" (.int 0)) (S_LO_BYTE_SHIFT : Sta Z Z.heap "java/lang/StringUTF16" "LO_BYTE_SHIFT" "I" (.int 8)) :
  MetFree l x (head1 (Jvm.Cond.code x code maxLocals ret :: ws) room_1) (fun a U => a = #[(.int p0), (.int p1), (.int p2), (.int p3)] ∧ Z.Warmed39 U.vm ∧ U.heap = h0 ∧ CHv Z own_EL U.vm h0 ∧ ∀ x ∈ ([] : List Addr), Safe Z own_EL U.vm h0 x) (fun _ _ _ _ _ => True) (fun _ U o U' => ∃ v L, o = .returned v ∧ (fun v h L => v = some (.int 1) ∧ Fr n0 L) v U'.heap L ∧ CHr Z own_EL U.vm U.heap U'.vm U'.heap ∧ ReturnedEndW U o U' L 24 1152) := by
 refine own_startW (Q := fun v h L => v = some (.int 1) ∧ Fr n0 L) opn_0 ?_
 intro p e s m below meth c T0 X0 hx hby hml hZ hown hnm hret hlk e0 es hS CR hsf
 have N := Fr.nil n0; have K := Keep.refl h0 []; have hk := Nat.le_refl h0.size
 refine OG.cast (oef17 m p0 p1 p2 p3) ?_
 refine og_iloadN X0 hx rfl (hb hby at_0) rfl ?_
 refine og_iconst (v := 3) X0 hx rfl (hb hby at_1) rfl ?_
 refine og_iand X0 hx (hb hby at_2) rfl ?_
 refine og_istore (L' := #[.val (.int p0), .val (.int p1), .val (.int p2), .val (.int p3), .val (.int (p3 &&& (3 : Int32))), .unset, .unset, .unset]) X0 hx rfl (hb hby at_3) rfl ?_
 obtain ⟨nn, h_nn⟩ : ∃ z, z = (p3 &&& (3 : Int32)) := ⟨_, rfl⟩
 rw [← h_nn]
 rcases own_and3 h_nn with rfl | rfl | rfl | rfl
 ·
  refine og_iconst (v := 3) X0 hx rfl (hb hby at_5) rfl ?_
  refine og_newarray (pc' := 8) (cells' := 1) (slots' := 3) (cap := 3) (ty := .char) X0 hx hZ rfl (ow0 hw) e0 (by decide) (by decide) (by decide) (hb hby at_6) rfl rfl rfl (by decide) (by decide) (fun T11 h11 nb11 kA11 X11 e11 E11 q11 V_nb11 => ?_)
  have s_nb11 : h0.size ≤ nb11 := Nat.le_of_eq q11.symm; have g_nb11 : n0 ≤ nb11 := Nat.le_trans (own_n0 O) s_nb11; have sz_nb11 : h0.size ≤ nb11 := Nat.le_trans K.1 s_nb11; have Q_nb11 : Safe Z own_EL _ _ nb11 := Safe.new (Z := Z) (EL := own_EL) (vm := s.vm) s_nb11
  have Q_nb11 := Safe.ext E11 CR.1 Q_nb11; have O := O.ext E11; have K := K.ext E11; have hk := Nat.le_trans hk E11.1; have CR := CR.trans (CHr.ext E11 CR.1)
  have V_nb11 : Arv Z h11 nb11 kA11 .char (3 : Int32) [(.int 0), (.int 0), (.int 0)] (.int 0) := V_nb11.pad (pad_rep [] (.int 0) 3)
  refine og_astore (L' := #[.val (.int p0), .val (.int p1), .val (.int p2), .val (.int p3), .val (.int 0), .val (.ref nb11), .unset, .unset]) X11 hx rfl rfl (hb hby at_8) rfl ?_
  refine og_aload X11 hx rfl rfl (hb hby at_10) rfl ?_
  refine og_iconst (v := 0) X11 hx rfl (hb hby at_12) rfl ?_
  refine og_iloadN X11 hx rfl (hb hby at_13) rfl ?_
  refine og_static (pc' := 17) (cells' := 1) (slots' := 3) (W := 2) X11 hx hZ (rm_drw l Z a0 hw p0 h11 n0 O) hown (ow1 hw) (ow2 hw) (ow3 hw) (ow4 hw) (by decide) (by rw [hml]; rfl) e11 opd_18 [(.int p0)] [(.int 0), (.ref nb11)] rfl rfl rfl rfl (by decide) (by decide) rfl rfl (by decide) (by decide) (hb hby at_14) rfl (fun v12 T12 h12 L12 X12 e12 z12 => ?_)
  obtain ⟨c0, rfl, Nq12, hq12, hc0⟩ := z12; replace e12 := e12.trans hq12; have N := Fr.app N Nq12
  refine og_castore X12 hx hZ e12 V_nb11 ⟨by decide, by decide⟩ 0 (by decide) (Nat.le_of_ble_eq_true rfl) (hb hby at_17) rfl (fun T13 h13 X13 e13 W13 V13 => ?_)
  have sf13 : Safe Z own_EL s.vm h11 nb11 := Q_nb11; have Q_nb11 := Safe.wr W13 sf13 CR.1 Q_nb11; have O := O.wr W13 g_nb11; have K := K.wr W13 (Or.inr sz_nb11); have hk := Nat.le_trans hk (Keep.of_wr W13).1; have CR := CR.trans (CHr.wr W13 sf13 CR.1)
  have N := Fr.snoc X13 N g_nb11
  have V_nb11 : Arv Z h13 nb11 kA11 .char (3 : Int32) [(.int (nar .char c0)), (.int 0), (.int 0)] (.int 0) := V13
  rw [own_nc2 hc0] at V_nb11
  refine og_aload X13 hx rfl rfl (hb hby at_18) rfl ?_
  refine og_iconst (v := 1) X13 hx rfl (hb hby at_20) rfl ?_
  refine og_iloadN X13 hx rfl (hb hby at_21) rfl ?_
  refine og_static (pc' := 25) (cells' := 1) (slots' := 3) (W := 2) X13 hx hZ (rm_drw l Z a0 hw p1 h13 n0 O) hown (ow1 hw) (ow2 hw) (ow3 hw) (ow4 hw) (by decide) (by rw [hml]; rfl) e13 opd_18 [(.int p1)] [(.int 1), (.ref nb11)] rfl rfl rfl rfl (by decide) (by decide) rfl rfl (by decide) (by decide) (hb hby at_22) rfl (fun v14 T14 h14 L14 X14 e14 z14 => ?_)
  obtain ⟨c1, rfl, Nq14, hq14, hc1⟩ := z14; replace e14 := e14.trans hq14; have N := Fr.app N Nq14
  refine og_castore X14 hx hZ e14 V_nb11 ⟨by decide, by decide⟩ 1 (by decide) (Nat.le_of_ble_eq_true rfl) (hb hby at_25) rfl (fun T15 h15 X15 e15 W15 V15 => ?_)
  have sf15 : Safe Z own_EL s.vm h13 nb11 := Q_nb11; have Q_nb11 := Safe.wr W15 sf15 CR.1 Q_nb11; have O := O.wr W15 g_nb11; have K := K.wr W15 (Or.inr sz_nb11); have hk := Nat.le_trans hk (Keep.of_wr W15).1; have CR := CR.trans (CHr.wr W15 sf15 CR.1)
  have N := Fr.snoc X15 N g_nb11
  have V_nb11 : Arv Z h15 nb11 kA11 .char (3 : Int32) [(.int c0), (.int (nar .char c1)), (.int 0)] (.int 0) := V15
  rw [own_nc2 hc1] at V_nb11
  refine og_aload X15 hx rfl rfl (hb hby at_26) rfl ?_
  refine og_iconst (v := 2) X15 hx rfl (hb hby at_28) rfl ?_
  refine og_iloadN X15 hx rfl (hb hby at_29) rfl ?_
  refine og_static (pc' := 33) (cells' := 1) (slots' := 3) (W := 2) X15 hx hZ (rm_drw l Z a0 hw p2 h15 n0 O) hown (ow1 hw) (ow2 hw) (ow3 hw) (ow4 hw) (by decide) (by rw [hml]; rfl) e15 opd_18 [(.int p2)] [(.int 2), (.ref nb11)] rfl rfl rfl rfl (by decide) (by decide) rfl rfl (by decide) (by decide) (hb hby at_30) rfl (fun v16 T16 h16 L16 X16 e16 z16 => ?_)
  obtain ⟨c2, rfl, Nq16, hq16, hc2⟩ := z16; replace e16 := e16.trans hq16; have N := Fr.app N Nq16
  refine og_castore X16 hx hZ e16 V_nb11 ⟨by decide, by decide⟩ 2 (by decide) (Nat.le_of_ble_eq_true rfl) (hb hby at_33) rfl (fun T17 h17 X17 e17 W17 V17 => ?_)
  have sf17 : Safe Z own_EL s.vm h15 nb11 := Q_nb11; have Q_nb11 := Safe.wr W17 sf17 CR.1 Q_nb11; have O := O.wr W17 g_nb11; have K := K.wr W17 (Or.inr sz_nb11); have hk := Nat.le_trans hk (Keep.of_wr W17).1; have CR := CR.trans (CHr.wr W17 sf17 CR.1)
  have N := Fr.snoc X17 N g_nb11
  have V_nb11 : Arv Z h17 nb11 kA11 .char (3 : Int32) [(.int c0), (.int c1), (.int (nar .char c2))] (.int 0) := V17
  rw [own_nc2 hc2] at V_nb11
  refine og_iload X17 hx rfl (hb hby at_34) rfl ?_
  refine og_newarray (pc' := 38) (cells' := 2) (slots' := 3) (cap := 0) (ty := .char) X17 hx hZ rfl (ow0 hw) e17 (by decide) (by decide) (by decide) (hb hby at_36) rfl rfl rfl (by decide) (by decide) (fun T18 h18 nb18 kA18 X18 e18 E18 q18 V_nb18 => ?_)
  have s_nb18 : h17.size ≤ nb18 := Nat.le_of_eq q18.symm; have g_nb18 : n0 ≤ nb18 := Nat.le_trans (own_n0 O) s_nb18; have sz_nb18 : h0.size ≤ nb18 := Nat.le_trans K.1 s_nb18; have ne_nb11_nb18 : nb11 ≠ nb18 := Nat.ne_of_lt (Nat.lt_of_lt_of_le V_nb11.lt s_nb18); have Q_nb18 : Safe Z own_EL _ _ nb18 := Safe.new (Z := Z) (EL := own_EL) (vm := s.vm) s_nb18
  have Q_nb11 := Safe.ext E18 CR.1 Q_nb11; have Q_nb18 := Safe.ext E18 CR.1 Q_nb18; have V_nb11 := V_nb11.ext E18; have O := O.ext E18; have K := K.ext E18; have hk := Nat.le_trans hk E18.1
  have CR := CR.trans (CHr.ext E18 CR.1)
  refine og_astore (L' := #[.val (.int p0), .val (.int p1), .val (.int p2), .val (.int p3), .val (.int 0), .val (.ref nb11), .val (.ref nb18), .unset]) X18 hx rfl rfl (hb hby at_38) rfl ?_
  refine og_iload X18 hx rfl (hb hby at_40) rfl ?_
  refine og_if_le (pc1 := 53) (pc2 := 45) X18 hx (hb hby at_42) (by decide) (by decide) rfl (fun _ => ?_) (fun q => absurd q (by decide))
  refine og_iload X18 hx rfl (hb hby at_53) rfl ?_
  refine og_iconst (v := 1) X18 hx rfl (hb hby at_55) rfl ?_
  refine og_icmp_le (pc1 := 67) (pc2 := 59) X18 hx (hb hby at_56) (by decide) (by decide) rfl (fun _ => ?_) (fun q => absurd q (by decide))
  refine og_iload X18 hx rfl (hb hby at_67) rfl ?_
  refine og_iconst (v := 2) X18 hx rfl (hb hby at_69) rfl ?_
  refine og_icmp_le (pc1 := 81) (pc2 := 73) X18 hx (hb hby at_70) (by decide) (by decide) rfl (fun _ => ?_) (fun q => absurd q (by decide))
  refine og_new (pc' := 84) (cells' := 3) (slots' := 7) X18 hx hZ hown (ow5 hw) (ow6 hw) (ow7 hw) e18 (hb hby at_81) rfl rfl rfl (by decide) (by decide) (fun T19 h19 nb19 X19 e19 E19 q19 E_nb19 D19 B19 => ?_)
  have s_nb19 : h18.size ≤ nb19 := Nat.le_of_eq q19.symm; have g_nb19 : n0 ≤ nb19 := Nat.le_trans (own_n0 O) s_nb19; have sz_nb19 : h0.size ≤ nb19 := Nat.le_trans K.1 s_nb19; have ne_nb11_nb19 : nb11 ≠ nb19 := Nat.ne_of_lt (Nat.lt_of_lt_of_le V_nb11.lt s_nb19); have ne_nb18_nb19 : nb18 ≠ nb19 := Nat.ne_of_lt (Nat.lt_of_lt_of_le V_nb18.lt s_nb19); have Q_nb19 : Safe Z own_EL _ _ nb19 := Safe.new (Z := Z) (EL := own_EL) (vm := s.vm) s_nb19
  have Q_nb11 := Safe.ext E19 CR.1 Q_nb11; have Q_nb18 := Safe.ext E19 CR.1 Q_nb18; have Q_nb19 := Safe.ext E19 CR.1 Q_nb19; have V_nb11 := V_nb11.ext E19; have V_nb18 := V_nb18.ext E19; have O := O.ext E19
  have K := K.ext E19; have hk := Nat.le_trans hk E19.1; have CR := CR.trans (CHr.ext E19 CR.1)
  have F_coder_nb19 : Fld Z h19 nb19 "java/lang/String" "coder" "B" (.int 0) := D19 (Or.inr (ow31 hw)) (ty := .byte) (by decide)
  have F_value_nb19 : Fld Z h19 nb19 "java/lang/String" "value" "[B" .null := D19 (Or.inr (ow33 hw)) (ty := (.array .byte)) (by decide)
  refine og_dup X19 hx rfl (hb hby at_84) rfl ?_
  refine og_aload X19 hx rfl rfl (hb hby at_85) rfl ?_
  refine og_specialW (pc' := 90) (cells' := 7) (slots' := 15) (W := 1) X19 hx hZ (rm_sn_0 l Z a0 hw nb19 nb18 kA18 h19 n0 O hEL E_nb19 F_value_nb19 F_coder_nb19 V_nb18 g_nb19 ne_nb18_nb19) hEL hS hk CR.1 (allS (P := fun x => x < _ ∧ Safe Z own_EL _ _ x) ⟨E_nb19.lt, Q_nb19⟩ all0) rfl hown (ow8 hw) (ow9 hw) (ow7 hw) (ow10 hw) (by decide) (by rw [hml]; rfl) e19 opd_23 [(.ref nb18)] [(.ref nb19)] rfl rfl rfl rfl (by decide) (by decide) rfl rfl (by decide) (by decide) (hb hby at_87) rfl (fun v20 T20 h20 L20 kk20 X20 e20 hS hk hZ hown cr20 z20 => ?_)
  obtain ⟨nb20, k20, rfl, Nq20, K20, E_nb19', F_value_nb19', F_coder_nb19', V_nb20⟩ := z20; have N := Fr.app N Nq20
  have Q_nb11 := cr20.safe V_nb11.lt Q_nb11; have Q_nb18 := cr20.safe V_nb18.lt Q_nb18; have Q_nb19 := cr20.safe E_nb19.lt Q_nb19; have V_nb11 := V_nb11.keep K20 (ninS ne_nb11_nb19 nin0); have V_nb18 := V_nb18.keep K20 (ninS ne_nb18_nb19 nin0); have E_nb19 := E_nb19.keep K20
  have O := O.keep K20 (allS g_nb19 all0); have K := K.trans K20 (allS (Or.inr sz_nb19) all0); have CR := CR.trans cr20
  have E_nb19 := E_nb19'; have F_value_nb19 := F_value_nb19'; have F_coder_nb19 := F_coder_nb19'
  refine og_static (pc' := 93) (cells' := 7) (slots' := 15) (W := 0) X20 hx hZ (rm_fc0 l Z a0 hw nb19 nb20 k20 cs hcs h20 n0 O E_nb19 F_value_nb19 F_coder_nb19 V_nb20 S_CS) hown (ow34 hw) (ow35 hw) (ow36 hw) (ow37 hw) (by decide) (by rw [hml]; rfl) e20 opd_24 [(.ref nb19)] [] rfl rfl rfl rfl (by decide) (by decide) rfl rfl (by decide) (by decide) (hb hby at_90) rfl (fun v21 T21 h21 L21 X21 e21 z21 => ?_)
  obtain ⟨rfl, Nq21, hq21⟩ := z21; replace e21 := e21.trans hq21; have N := Fr.app N Nq21
  refine og_istore (L' := #[.val (.int p0), .val (.int p1), .val (.int p2), .val (.int p3), .val (.int 0), .val (.ref nb11), .val (.ref nb18), .val (.int (-1))]) X21 hx rfl (hb hby at_93) rfl ?_
  refine og_iload X21 hx rfl (hb hby at_95) rfl ?_
  refine og_aload X21 hx rfl rfl (hb hby at_97) rfl ?_
  refine og_iload X21 hx rfl (hb hby at_99) rfl ?_
  refine og_static (pc' := 104) (cells' := 7) (slots' := 15) (W := 1) X21 hx hZ (rm_ref0 l Z a0 hw nb11 h20 n0 O) hown (ow86 hw) (ow87 hw) (ow3 hw) (ow88 hw) (by decide) (by rw [hml]; rfl) e21 opd_25 [(.ref nb11), (.int 0)] [(.int (-1))] rfl rfl rfl rfl (by decide) (by decide) rfl rfl (by decide) (by decide) (hb hby at_101) rfl (fun v22 T22 h22 L22 X22 e22 z22 => ?_)
  obtain ⟨rfl, Nq22, hq22⟩ := z22; replace e22 := e22.trans hq22; have N := Fr.app N Nq22
  refine og_icmp_ne (pc1 := 111) (pc2 := 107) X22 hx (hb hby at_104) (by decide) (by decide) rfl (fun q => absurd q (by decide)) (fun _ => ?_)
  refine og_iconst (v := 1) X22 hx rfl (hb hby at_107) rfl ?_
  refine og_goto (pc' := 112) X22 hx (hb hby at_108) (by decide) (by decide) ?_
  refine og_retNW X22 hx hZ hlk hEL hS e22 es hk CR hret (by simp) (hb hby at_112) (by decide) (by decide) ?_
  exact ⟨rfl, N⟩
 ·
  refine og_iconst (v := 3) X0 hx rfl (hb hby at_5) rfl ?_
  refine og_newarray (pc' := 8) (cells' := 1) (slots' := 3) (cap := 3) (ty := .char) X0 hx hZ rfl (ow0 hw) e0 (by decide) (by decide) (by decide) (hb hby at_6) rfl rfl rfl (by decide) (by decide) (fun T23 h23 nb23 kA23 X23 e23 E23 q23 V_nb23 => ?_)
  have s_nb23 : h0.size ≤ nb23 := Nat.le_of_eq q23.symm; have g_nb23 : n0 ≤ nb23 := Nat.le_trans (own_n0 O) s_nb23; have sz_nb23 : h0.size ≤ nb23 := Nat.le_trans K.1 s_nb23; have Q_nb23 : Safe Z own_EL _ _ nb23 := Safe.new (Z := Z) (EL := own_EL) (vm := s.vm) s_nb23
  have Q_nb23 := Safe.ext E23 CR.1 Q_nb23; have O := O.ext E23; have K := K.ext E23; have hk := Nat.le_trans hk E23.1; have CR := CR.trans (CHr.ext E23 CR.1)
  have V_nb23 : Arv Z h23 nb23 kA23 .char (3 : Int32) [(.int 0), (.int 0), (.int 0)] (.int 0) := V_nb23.pad (pad_rep [] (.int 0) 3)
  refine og_astore (L' := #[.val (.int p0), .val (.int p1), .val (.int p2), .val (.int p3), .val (.int 1), .val (.ref nb23), .unset, .unset]) X23 hx rfl rfl (hb hby at_8) rfl ?_
  refine og_aload X23 hx rfl rfl (hb hby at_10) rfl ?_
  refine og_iconst (v := 0) X23 hx rfl (hb hby at_12) rfl ?_
  refine og_iloadN X23 hx rfl (hb hby at_13) rfl ?_
  refine og_static (pc' := 17) (cells' := 1) (slots' := 3) (W := 2) X23 hx hZ (rm_drw l Z a0 hw p0 h23 n0 O) hown (ow1 hw) (ow2 hw) (ow3 hw) (ow4 hw) (by decide) (by rw [hml]; rfl) e23 opd_18 [(.int p0)] [(.int 0), (.ref nb23)] rfl rfl rfl rfl (by decide) (by decide) rfl rfl (by decide) (by decide) (hb hby at_14) rfl (fun v24 T24 h24 L24 X24 e24 z24 => ?_)
  obtain ⟨c0, rfl, Nq24, hq24, hc0⟩ := z24; replace e24 := e24.trans hq24; have N := Fr.app N Nq24
  refine og_castore X24 hx hZ e24 V_nb23 ⟨by decide, by decide⟩ 0 (by decide) (Nat.le_of_ble_eq_true rfl) (hb hby at_17) rfl (fun T25 h25 X25 e25 W25 V25 => ?_)
  have sf25 : Safe Z own_EL s.vm h23 nb23 := Q_nb23; have Q_nb23 := Safe.wr W25 sf25 CR.1 Q_nb23; have O := O.wr W25 g_nb23; have K := K.wr W25 (Or.inr sz_nb23); have hk := Nat.le_trans hk (Keep.of_wr W25).1; have CR := CR.trans (CHr.wr W25 sf25 CR.1)
  have N := Fr.snoc X25 N g_nb23
  have V_nb23 : Arv Z h25 nb23 kA23 .char (3 : Int32) [(.int (nar .char c0)), (.int 0), (.int 0)] (.int 0) := V25
  rw [own_nc2 hc0] at V_nb23
  refine og_aload X25 hx rfl rfl (hb hby at_18) rfl ?_
  refine og_iconst (v := 1) X25 hx rfl (hb hby at_20) rfl ?_
  refine og_iloadN X25 hx rfl (hb hby at_21) rfl ?_
  refine og_static (pc' := 25) (cells' := 1) (slots' := 3) (W := 2) X25 hx hZ (rm_drw l Z a0 hw p1 h25 n0 O) hown (ow1 hw) (ow2 hw) (ow3 hw) (ow4 hw) (by decide) (by rw [hml]; rfl) e25 opd_18 [(.int p1)] [(.int 1), (.ref nb23)] rfl rfl rfl rfl (by decide) (by decide) rfl rfl (by decide) (by decide) (hb hby at_22) rfl (fun v26 T26 h26 L26 X26 e26 z26 => ?_)
  obtain ⟨c1, rfl, Nq26, hq26, hc1⟩ := z26; replace e26 := e26.trans hq26; have N := Fr.app N Nq26
  refine og_castore X26 hx hZ e26 V_nb23 ⟨by decide, by decide⟩ 1 (by decide) (Nat.le_of_ble_eq_true rfl) (hb hby at_25) rfl (fun T27 h27 X27 e27 W27 V27 => ?_)
  have sf27 : Safe Z own_EL s.vm h25 nb23 := Q_nb23; have Q_nb23 := Safe.wr W27 sf27 CR.1 Q_nb23; have O := O.wr W27 g_nb23; have K := K.wr W27 (Or.inr sz_nb23); have hk := Nat.le_trans hk (Keep.of_wr W27).1; have CR := CR.trans (CHr.wr W27 sf27 CR.1)
  have N := Fr.snoc X27 N g_nb23
  have V_nb23 : Arv Z h27 nb23 kA23 .char (3 : Int32) [(.int c0), (.int (nar .char c1)), (.int 0)] (.int 0) := V27
  rw [own_nc2 hc1] at V_nb23
  refine og_aload X27 hx rfl rfl (hb hby at_26) rfl ?_
  refine og_iconst (v := 2) X27 hx rfl (hb hby at_28) rfl ?_
  refine og_iloadN X27 hx rfl (hb hby at_29) rfl ?_
  refine og_static (pc' := 33) (cells' := 1) (slots' := 3) (W := 2) X27 hx hZ (rm_drw l Z a0 hw p2 h27 n0 O) hown (ow1 hw) (ow2 hw) (ow3 hw) (ow4 hw) (by decide) (by rw [hml]; rfl) e27 opd_18 [(.int p2)] [(.int 2), (.ref nb23)] rfl rfl rfl rfl (by decide) (by decide) rfl rfl (by decide) (by decide) (hb hby at_30) rfl (fun v28 T28 h28 L28 X28 e28 z28 => ?_)
  obtain ⟨c2, rfl, Nq28, hq28, hc2⟩ := z28; replace e28 := e28.trans hq28; have N := Fr.app N Nq28
  refine og_castore X28 hx hZ e28 V_nb23 ⟨by decide, by decide⟩ 2 (by decide) (Nat.le_of_ble_eq_true rfl) (hb hby at_33) rfl (fun T29 h29 X29 e29 W29 V29 => ?_)
  have sf29 : Safe Z own_EL s.vm h27 nb23 := Q_nb23; have Q_nb23 := Safe.wr W29 sf29 CR.1 Q_nb23; have O := O.wr W29 g_nb23; have K := K.wr W29 (Or.inr sz_nb23); have hk := Nat.le_trans hk (Keep.of_wr W29).1; have CR := CR.trans (CHr.wr W29 sf29 CR.1)
  have N := Fr.snoc X29 N g_nb23
  have V_nb23 : Arv Z h29 nb23 kA23 .char (3 : Int32) [(.int c0), (.int c1), (.int (nar .char c2))] (.int 0) := V29
  rw [own_nc2 hc2] at V_nb23
  refine og_iload X29 hx rfl (hb hby at_34) rfl ?_
  refine og_newarray (pc' := 38) (cells' := 2) (slots' := 4) (cap := 1) (ty := .char) X29 hx hZ rfl (ow0 hw) e29 (by decide) (by decide) (by decide) (hb hby at_36) rfl rfl rfl (by decide) (by decide) (fun T30 h30 nb30 kA30 X30 e30 E30 q30 V_nb30 => ?_)
  have s_nb30 : h29.size ≤ nb30 := Nat.le_of_eq q30.symm; have g_nb30 : n0 ≤ nb30 := Nat.le_trans (own_n0 O) s_nb30; have sz_nb30 : h0.size ≤ nb30 := Nat.le_trans K.1 s_nb30; have ne_nb23_nb30 : nb23 ≠ nb30 := Nat.ne_of_lt (Nat.lt_of_lt_of_le V_nb23.lt s_nb30); have Q_nb30 : Safe Z own_EL _ _ nb30 := Safe.new (Z := Z) (EL := own_EL) (vm := s.vm) s_nb30
  have Q_nb23 := Safe.ext E30 CR.1 Q_nb23; have Q_nb30 := Safe.ext E30 CR.1 Q_nb30; have V_nb23 := V_nb23.ext E30; have O := O.ext E30; have K := K.ext E30; have hk := Nat.le_trans hk E30.1
  have CR := CR.trans (CHr.ext E30 CR.1)
  have V_nb30 : Arv Z h30 nb30 kA30 .char (1 : Int32) [(.int 0)] (.int 0) := V_nb30.pad (pad_rep [] (.int 0) 1)
  refine og_astore (L' := #[.val (.int p0), .val (.int p1), .val (.int p2), .val (.int p3), .val (.int 1), .val (.ref nb23), .val (.ref nb30), .unset]) X30 hx rfl rfl (hb hby at_38) rfl ?_
  refine og_iload X30 hx rfl (hb hby at_40) rfl ?_
  refine og_if_le (pc1 := 53) (pc2 := 45) X30 hx (hb hby at_42) (by decide) (by decide) rfl (fun q => absurd q (by decide)) (fun _ => ?_)
  refine og_aload X30 hx rfl rfl (hb hby at_45) rfl ?_
  refine og_iconst (v := 0) X30 hx rfl (hb hby at_47) rfl ?_
  refine og_aload X30 hx rfl rfl (hb hby at_48) rfl ?_
  refine og_iconst (v := 0) X30 hx rfl (hb hby at_50) rfl ?_
  refine og_caload (v := (.int c0)) X30 hx hZ e30 V_nb23 ⟨by decide, by decide⟩ rfl (hb hby at_51) rfl ?_
  refine og_castore X30 hx hZ e30 V_nb30 ⟨by decide, by decide⟩ 0 (by decide) (Nat.le_of_ble_eq_true rfl) (hb hby at_52) rfl (fun T31 h31 X31 e31 W31 V31 => ?_)
  have sf31 : Safe Z own_EL s.vm h30 nb30 := Q_nb30; have Q_nb23 := Safe.wr W31 sf31 CR.1 Q_nb23; have Q_nb30 := Safe.wr W31 sf31 CR.1 Q_nb30; have V_nb23 := V_nb23.other W31 ne_nb23_nb30; have O := O.wr W31 g_nb30; have K := K.wr W31 (Or.inr sz_nb30)
  have hk := Nat.le_trans hk (Keep.of_wr W31).1; have CR := CR.trans (CHr.wr W31 sf31 CR.1)
  have N := Fr.snoc X31 N g_nb30
  have V_nb30 : Arv Z h31 nb30 kA30 .char (1 : Int32) [(.int (nar .char c0))] (.int 0) := V31
  rw [own_nc2 hc0] at V_nb30
  refine og_iload X31 hx rfl (hb hby at_53) rfl ?_
  refine og_iconst (v := 1) X31 hx rfl (hb hby at_55) rfl ?_
  refine og_icmp_le (pc1 := 67) (pc2 := 59) X31 hx (hb hby at_56) (by decide) (by decide) rfl (fun _ => ?_) (fun q => absurd q (by decide))
  refine og_iload X31 hx rfl (hb hby at_67) rfl ?_
  refine og_iconst (v := 2) X31 hx rfl (hb hby at_69) rfl ?_
  refine og_icmp_le (pc1 := 81) (pc2 := 73) X31 hx (hb hby at_70) (by decide) (by decide) rfl (fun _ => ?_) (fun q => absurd q (by decide))
  refine og_new (pc' := 84) (cells' := 3) (slots' := 8) X31 hx hZ hown (ow5 hw) (ow6 hw) (ow7 hw) e31 (hb hby at_81) rfl rfl rfl (by decide) (by decide) (fun T32 h32 nb32 X32 e32 E32 q32 E_nb32 D32 B32 => ?_)
  have s_nb32 : h31.size ≤ nb32 := Nat.le_of_eq q32.symm; have g_nb32 : n0 ≤ nb32 := Nat.le_trans (own_n0 O) s_nb32; have sz_nb32 : h0.size ≤ nb32 := Nat.le_trans K.1 s_nb32; have ne_nb23_nb32 : nb23 ≠ nb32 := Nat.ne_of_lt (Nat.lt_of_lt_of_le V_nb23.lt s_nb32); have ne_nb30_nb32 : nb30 ≠ nb32 := Nat.ne_of_lt (Nat.lt_of_lt_of_le V_nb30.lt s_nb32); have Q_nb32 : Safe Z own_EL _ _ nb32 := Safe.new (Z := Z) (EL := own_EL) (vm := s.vm) s_nb32
  have Q_nb23 := Safe.ext E32 CR.1 Q_nb23; have Q_nb30 := Safe.ext E32 CR.1 Q_nb30; have Q_nb32 := Safe.ext E32 CR.1 Q_nb32; have V_nb23 := V_nb23.ext E32; have V_nb30 := V_nb30.ext E32; have O := O.ext E32
  have K := K.ext E32; have hk := Nat.le_trans hk E32.1; have CR := CR.trans (CHr.ext E32 CR.1)
  have F_coder_nb32 : Fld Z h32 nb32 "java/lang/String" "coder" "B" (.int 0) := D32 (Or.inr (ow31 hw)) (ty := .byte) (by decide)
  have F_value_nb32 : Fld Z h32 nb32 "java/lang/String" "value" "[B" .null := D32 (Or.inr (ow33 hw)) (ty := (.array .byte)) (by decide)
  refine og_dup X32 hx rfl (hb hby at_84) rfl ?_
  refine og_aload X32 hx rfl rfl (hb hby at_85) rfl ?_
  refine og_special (pc' := 90) (cells' := 5) (slots' := 11) (W := 1) X32 hx hZ (rm_un1 l Z a0 hw nb32 nb30 kA30 c0 hc0 cs hcs h32 n0 O E_nb32 F_value_nb32 F_coder_nb32 V_nb30 S_CS S__assertionsDisabled S_HI_BYTE_SHIFT S_LO_BYTE_SHIFT g_nb32 ne_nb30_nb32) rfl hown (ow8 hw) (ow9 hw) (ow7 hw) (ow10 hw) (by decide) (by rw [hml]; rfl) e32 opd_23 [(.ref nb30)] [(.ref nb32)] rfl rfl rfl rfl (by decide) (by decide) rfl rfl (by decide) (by decide) (hb hby at_87) rfl (fun v33 T33 h33 L33 X33 e33 z33 => ?_)
  obtain ⟨nb33, k33, rfl, Nq33, K33, sb33, E_nb32', F_value_nb32', hd⟩ := z33; have N := Fr.app N Nq33
  have s_nb33 : h32.size ≤ nb33 := sb33; have g_nb33 : n0 ≤ nb33 := Nat.le_trans (own_n0 O) s_nb33; have sz_nb33 : h0.size ≤ nb33 := Nat.le_trans K.1 s_nb33; have ne_nb23_nb33 : nb23 ≠ nb33 := Nat.ne_of_lt (Nat.lt_of_lt_of_le V_nb23.lt s_nb33); have ne_nb30_nb33 : nb30 ≠ nb33 := Nat.ne_of_lt (Nat.lt_of_lt_of_le V_nb30.lt s_nb33); have ne_nb32_nb33 : nb32 ≠ nb33 := Nat.ne_of_lt (Nat.lt_of_lt_of_le E_nb32.lt s_nb33)
  have Q_nb33 : Safe Z own_EL _ _ nb33 := Safe.new (Z := Z) (EL := own_EL) (vm := s.vm) s_nb33
  have sf33 : ∀ x ∈ ([nb32] : List Addr), Safe Z own_EL s.vm h32 x := (sfS Q_nb32 sf0); have Q_nb23 := Safe.keep K33 sf33 CR.1 Q_nb23; have Q_nb30 := Safe.keep K33 sf33 CR.1 Q_nb30; have Q_nb32 := Safe.keep K33 sf33 CR.1 Q_nb32; have Q_nb33 := Safe.keep K33 sf33 CR.1 Q_nb33; have V_nb23 := V_nb23.keep K33 (ninS ne_nb23_nb32 nin0)
  have V_nb30 := V_nb30.keep K33 (ninS ne_nb30_nb32 nin0); have E_nb32 := E_nb32.keep K33; have O := O.keep K33 (allS g_nb32 all0); have K := K.trans K33 (allS (Or.inr sz_nb32) all0); have hk := Nat.le_trans hk K33.1; have CR := CR.trans (CHr.keep K33 sf33 CR.1)
  have E_nb32 := E_nb32'; have F_value_nb32 := F_value_nb32'
  rcases hd with ⟨F_coder_nb32, V_nb33, hsm⟩ | ⟨F_coder_nb32, V_nb33, hsm⟩
  ·
   refine og_static (pc' := 93) (cells' := 5) (slots' := 11) (W := 0) X33 hx hZ (rm_fcL1 l Z a0 hw nb32 nb33 k33 c0 hc0 cs hcs fm hfm _ rfl hsm h33 n0 O E_nb32 F_value_nb32 F_coder_nb32 V_nb33 S_CS S_FM ) hown (ow34 hw) (ow35 hw) (ow36 hw) (ow37 hw) (by decide) (by rw [hml]; rfl) e33 opd_24 [(.ref nb32)] [] rfl rfl rfl rfl (by decide) (by decide) rfl rfl (by decide) (by decide) (hb hby at_90) rfl (fun v34 T34 h34 L34 X34 e34 z34 => ?_)
   obtain ⟨rfl, Nq34, hq34⟩ := z34; replace e34 := e34.trans hq34; have N := Fr.app N Nq34
   refine og_istore (L' := #[.val (.int p0), .val (.int p1), .val (.int p2), .val (.int p3), .val (.int 1), .val (.ref nb23), .val (.ref nb30), .val (.int (own_fc [c0]))]) X34 hx rfl (hb hby at_93) rfl ?_
   refine og_iload X34 hx rfl (hb hby at_95) rfl ?_
   refine og_aload X34 hx rfl rfl (hb hby at_97) rfl ?_
   refine og_iload X34 hx rfl (hb hby at_99) rfl ?_
   refine og_static (pc' := 104) (cells' := 5) (slots' := 11) (W := 1) X34 hx hZ (rm_ref1 l Z a0 hw nb23 kA23 c0 c1 c2 hc0 hc1 hc2 _ rfl h33 n0 O V_nb23) hown (ow86 hw) (ow87 hw) (ow3 hw) (ow88 hw) (by decide) (by rw [hml]; rfl) e34 opd_25 [(.ref nb23), (.int 1)] [(.int (own_fc [c0]))] rfl rfl rfl rfl (by decide) (by decide) rfl rfl (by decide) (by decide) (hb hby at_101) rfl (fun v35 T35 h35 L35 X35 e35 z35 => ?_)
   obtain ⟨rfl, Nq35, hq35⟩ := z35; replace e35 := e35.trans hq35; have N := Fr.app N Nq35
   refine og_icmp_ne (pc1 := 111) (pc2 := 107) X35 hx (hb hby at_104) (by decide) (by decide) rfl (fun q => absurd rfl q) (fun _ => ?_)
   refine og_iconst (v := 1) X35 hx rfl (hb hby at_107) rfl ?_
   refine og_goto (pc' := 112) X35 hx (hb hby at_108) (by decide) (by decide) ?_
   refine og_retNW X35 hx hZ hlk hEL hS e35 es hk CR hret (by simp) (hb hby at_112) (by decide) (by decide) ?_
   exact ⟨rfl, N⟩
  ·
   refine og_static (pc' := 93) (cells' := 5) (slots' := 11) (W := 0) X33 hx hZ (rm_fcU1 l Z a0 hw nb32 nb33 k33 c0 hc0 cs hcs fm hfm _ rfl h33 n0 O E_nb32 F_value_nb32 F_coder_nb32 V_nb33 S_CS S_FM S__assertionsDisabled S_HI_BYTE_SHIFT S_LO_BYTE_SHIFT) hown (ow34 hw) (ow35 hw) (ow36 hw) (ow37 hw) (by decide) (by rw [hml]; rfl) e33 opd_24 [(.ref nb32)] [] rfl rfl rfl rfl (by decide) (by decide) rfl rfl (by decide) (by decide) (hb hby at_90) rfl (fun v36 T36 h36 L36 X36 e36 z36 => ?_)
   obtain ⟨rfl, Nq36, hq36⟩ := z36; replace e36 := e36.trans hq36; have N := Fr.app N Nq36
   refine og_istore (L' := #[.val (.int p0), .val (.int p1), .val (.int p2), .val (.int p3), .val (.int 1), .val (.ref nb23), .val (.ref nb30), .val (.int (own_fc [c0]))]) X36 hx rfl (hb hby at_93) rfl ?_
   refine og_iload X36 hx rfl (hb hby at_95) rfl ?_
   refine og_aload X36 hx rfl rfl (hb hby at_97) rfl ?_
   refine og_iload X36 hx rfl (hb hby at_99) rfl ?_
   refine og_static (pc' := 104) (cells' := 5) (slots' := 11) (W := 1) X36 hx hZ (rm_ref1 l Z a0 hw nb23 kA23 c0 c1 c2 hc0 hc1 hc2 _ rfl h33 n0 O V_nb23) hown (ow86 hw) (ow87 hw) (ow3 hw) (ow88 hw) (by decide) (by rw [hml]; rfl) e36 opd_25 [(.ref nb23), (.int 1)] [(.int (own_fc [c0]))] rfl rfl rfl rfl (by decide) (by decide) rfl rfl (by decide) (by decide) (hb hby at_101) rfl (fun v37 T37 h37 L37 X37 e37 z37 => ?_)
   obtain ⟨rfl, Nq37, hq37⟩ := z37; replace e37 := e37.trans hq37; have N := Fr.app N Nq37
   refine og_icmp_ne (pc1 := 111) (pc2 := 107) X37 hx (hb hby at_104) (by decide) (by decide) rfl (fun q => absurd rfl q) (fun _ => ?_)
   refine og_iconst (v := 1) X37 hx rfl (hb hby at_107) rfl ?_
   refine og_goto (pc' := 112) X37 hx (hb hby at_108) (by decide) (by decide) ?_
   refine og_retNW X37 hx hZ hlk hEL hS e37 es hk CR hret (by simp) (hb hby at_112) (by decide) (by decide) ?_
   exact ⟨rfl, N⟩
 ·
  refine og_iconst (v := 3) X0 hx rfl (hb hby at_5) rfl ?_
  refine og_newarray (pc' := 8) (cells' := 1) (slots' := 3) (cap := 3) (ty := .char) X0 hx hZ rfl (ow0 hw) e0 (by decide) (by decide) (by decide) (hb hby at_6) rfl rfl rfl (by decide) (by decide) (fun T38 h38 nb38 kA38 X38 e38 E38 q38 V_nb38 => ?_)
  have s_nb38 : h0.size ≤ nb38 := Nat.le_of_eq q38.symm; have g_nb38 : n0 ≤ nb38 := Nat.le_trans (own_n0 O) s_nb38; have sz_nb38 : h0.size ≤ nb38 := Nat.le_trans K.1 s_nb38; have Q_nb38 : Safe Z own_EL _ _ nb38 := Safe.new (Z := Z) (EL := own_EL) (vm := s.vm) s_nb38
  have Q_nb38 := Safe.ext E38 CR.1 Q_nb38; have O := O.ext E38; have K := K.ext E38; have hk := Nat.le_trans hk E38.1; have CR := CR.trans (CHr.ext E38 CR.1)
  have V_nb38 : Arv Z h38 nb38 kA38 .char (3 : Int32) [(.int 0), (.int 0), (.int 0)] (.int 0) := V_nb38.pad (pad_rep [] (.int 0) 3)
  refine og_astore (L' := #[.val (.int p0), .val (.int p1), .val (.int p2), .val (.int p3), .val (.int 2), .val (.ref nb38), .unset, .unset]) X38 hx rfl rfl (hb hby at_8) rfl ?_
  refine og_aload X38 hx rfl rfl (hb hby at_10) rfl ?_
  refine og_iconst (v := 0) X38 hx rfl (hb hby at_12) rfl ?_
  refine og_iloadN X38 hx rfl (hb hby at_13) rfl ?_
  refine og_static (pc' := 17) (cells' := 1) (slots' := 3) (W := 2) X38 hx hZ (rm_drw l Z a0 hw p0 h38 n0 O) hown (ow1 hw) (ow2 hw) (ow3 hw) (ow4 hw) (by decide) (by rw [hml]; rfl) e38 opd_18 [(.int p0)] [(.int 0), (.ref nb38)] rfl rfl rfl rfl (by decide) (by decide) rfl rfl (by decide) (by decide) (hb hby at_14) rfl (fun v39 T39 h39 L39 X39 e39 z39 => ?_)
  obtain ⟨c0, rfl, Nq39, hq39, hc0⟩ := z39; replace e39 := e39.trans hq39; have N := Fr.app N Nq39
  refine og_castore X39 hx hZ e39 V_nb38 ⟨by decide, by decide⟩ 0 (by decide) (Nat.le_of_ble_eq_true rfl) (hb hby at_17) rfl (fun T40 h40 X40 e40 W40 V40 => ?_)
  have sf40 : Safe Z own_EL s.vm h38 nb38 := Q_nb38; have Q_nb38 := Safe.wr W40 sf40 CR.1 Q_nb38; have O := O.wr W40 g_nb38; have K := K.wr W40 (Or.inr sz_nb38); have hk := Nat.le_trans hk (Keep.of_wr W40).1; have CR := CR.trans (CHr.wr W40 sf40 CR.1)
  have N := Fr.snoc X40 N g_nb38
  have V_nb38 : Arv Z h40 nb38 kA38 .char (3 : Int32) [(.int (nar .char c0)), (.int 0), (.int 0)] (.int 0) := V40
  rw [own_nc2 hc0] at V_nb38
  refine og_aload X40 hx rfl rfl (hb hby at_18) rfl ?_
  refine og_iconst (v := 1) X40 hx rfl (hb hby at_20) rfl ?_
  refine og_iloadN X40 hx rfl (hb hby at_21) rfl ?_
  refine og_static (pc' := 25) (cells' := 1) (slots' := 3) (W := 2) X40 hx hZ (rm_drw l Z a0 hw p1 h40 n0 O) hown (ow1 hw) (ow2 hw) (ow3 hw) (ow4 hw) (by decide) (by rw [hml]; rfl) e40 opd_18 [(.int p1)] [(.int 1), (.ref nb38)] rfl rfl rfl rfl (by decide) (by decide) rfl rfl (by decide) (by decide) (hb hby at_22) rfl (fun v41 T41 h41 L41 X41 e41 z41 => ?_)
  obtain ⟨c1, rfl, Nq41, hq41, hc1⟩ := z41; replace e41 := e41.trans hq41; have N := Fr.app N Nq41
  refine og_castore X41 hx hZ e41 V_nb38 ⟨by decide, by decide⟩ 1 (by decide) (Nat.le_of_ble_eq_true rfl) (hb hby at_25) rfl (fun T42 h42 X42 e42 W42 V42 => ?_)
  have sf42 : Safe Z own_EL s.vm h40 nb38 := Q_nb38; have Q_nb38 := Safe.wr W42 sf42 CR.1 Q_nb38; have O := O.wr W42 g_nb38; have K := K.wr W42 (Or.inr sz_nb38); have hk := Nat.le_trans hk (Keep.of_wr W42).1; have CR := CR.trans (CHr.wr W42 sf42 CR.1)
  have N := Fr.snoc X42 N g_nb38
  have V_nb38 : Arv Z h42 nb38 kA38 .char (3 : Int32) [(.int c0), (.int (nar .char c1)), (.int 0)] (.int 0) := V42
  rw [own_nc2 hc1] at V_nb38
  refine og_aload X42 hx rfl rfl (hb hby at_26) rfl ?_
  refine og_iconst (v := 2) X42 hx rfl (hb hby at_28) rfl ?_
  refine og_iloadN X42 hx rfl (hb hby at_29) rfl ?_
  refine og_static (pc' := 33) (cells' := 1) (slots' := 3) (W := 2) X42 hx hZ (rm_drw l Z a0 hw p2 h42 n0 O) hown (ow1 hw) (ow2 hw) (ow3 hw) (ow4 hw) (by decide) (by rw [hml]; rfl) e42 opd_18 [(.int p2)] [(.int 2), (.ref nb38)] rfl rfl rfl rfl (by decide) (by decide) rfl rfl (by decide) (by decide) (hb hby at_30) rfl (fun v43 T43 h43 L43 X43 e43 z43 => ?_)
  obtain ⟨c2, rfl, Nq43, hq43, hc2⟩ := z43; replace e43 := e43.trans hq43; have N := Fr.app N Nq43
  refine og_castore X43 hx hZ e43 V_nb38 ⟨by decide, by decide⟩ 2 (by decide) (Nat.le_of_ble_eq_true rfl) (hb hby at_33) rfl (fun T44 h44 X44 e44 W44 V44 => ?_)
  have sf44 : Safe Z own_EL s.vm h42 nb38 := Q_nb38; have Q_nb38 := Safe.wr W44 sf44 CR.1 Q_nb38; have O := O.wr W44 g_nb38; have K := K.wr W44 (Or.inr sz_nb38); have hk := Nat.le_trans hk (Keep.of_wr W44).1; have CR := CR.trans (CHr.wr W44 sf44 CR.1)
  have N := Fr.snoc X44 N g_nb38
  have V_nb38 : Arv Z h44 nb38 kA38 .char (3 : Int32) [(.int c0), (.int c1), (.int (nar .char c2))] (.int 0) := V44
  rw [own_nc2 hc2] at V_nb38
  refine og_iload X44 hx rfl (hb hby at_34) rfl ?_
  refine og_newarray (pc' := 38) (cells' := 2) (slots' := 5) (cap := 2) (ty := .char) X44 hx hZ rfl (ow0 hw) e44 (by decide) (by decide) (by decide) (hb hby at_36) rfl rfl rfl (by decide) (by decide) (fun T45 h45 nb45 kA45 X45 e45 E45 q45 V_nb45 => ?_)
  have s_nb45 : h44.size ≤ nb45 := Nat.le_of_eq q45.symm; have g_nb45 : n0 ≤ nb45 := Nat.le_trans (own_n0 O) s_nb45; have sz_nb45 : h0.size ≤ nb45 := Nat.le_trans K.1 s_nb45; have ne_nb38_nb45 : nb38 ≠ nb45 := Nat.ne_of_lt (Nat.lt_of_lt_of_le V_nb38.lt s_nb45); have Q_nb45 : Safe Z own_EL _ _ nb45 := Safe.new (Z := Z) (EL := own_EL) (vm := s.vm) s_nb45
  have Q_nb38 := Safe.ext E45 CR.1 Q_nb38; have Q_nb45 := Safe.ext E45 CR.1 Q_nb45; have V_nb38 := V_nb38.ext E45; have O := O.ext E45; have K := K.ext E45; have hk := Nat.le_trans hk E45.1
  have CR := CR.trans (CHr.ext E45 CR.1)
  have V_nb45 : Arv Z h45 nb45 kA45 .char (2 : Int32) [(.int 0), (.int 0)] (.int 0) := V_nb45.pad (pad_rep [] (.int 0) 2)
  refine og_astore (L' := #[.val (.int p0), .val (.int p1), .val (.int p2), .val (.int p3), .val (.int 2), .val (.ref nb38), .val (.ref nb45), .unset]) X45 hx rfl rfl (hb hby at_38) rfl ?_
  refine og_iload X45 hx rfl (hb hby at_40) rfl ?_
  refine og_if_le (pc1 := 53) (pc2 := 45) X45 hx (hb hby at_42) (by decide) (by decide) rfl (fun q => absurd q (by decide)) (fun _ => ?_)
  refine og_aload X45 hx rfl rfl (hb hby at_45) rfl ?_
  refine og_iconst (v := 0) X45 hx rfl (hb hby at_47) rfl ?_
  refine og_aload X45 hx rfl rfl (hb hby at_48) rfl ?_
  refine og_iconst (v := 0) X45 hx rfl (hb hby at_50) rfl ?_
  refine og_caload (v := (.int c0)) X45 hx hZ e45 V_nb38 ⟨by decide, by decide⟩ rfl (hb hby at_51) rfl ?_
  refine og_castore X45 hx hZ e45 V_nb45 ⟨by decide, by decide⟩ 0 (by decide) (Nat.le_of_ble_eq_true rfl) (hb hby at_52) rfl (fun T46 h46 X46 e46 W46 V46 => ?_)
  have sf46 : Safe Z own_EL s.vm h45 nb45 := Q_nb45; have Q_nb38 := Safe.wr W46 sf46 CR.1 Q_nb38; have Q_nb45 := Safe.wr W46 sf46 CR.1 Q_nb45; have V_nb38 := V_nb38.other W46 ne_nb38_nb45; have O := O.wr W46 g_nb45; have K := K.wr W46 (Or.inr sz_nb45)
  have hk := Nat.le_trans hk (Keep.of_wr W46).1; have CR := CR.trans (CHr.wr W46 sf46 CR.1)
  have N := Fr.snoc X46 N g_nb45
  have V_nb45 : Arv Z h46 nb45 kA45 .char (2 : Int32) [(.int (nar .char c0)), (.int 0)] (.int 0) := V46
  rw [own_nc2 hc0] at V_nb45
  refine og_iload X46 hx rfl (hb hby at_53) rfl ?_
  refine og_iconst (v := 1) X46 hx rfl (hb hby at_55) rfl ?_
  refine og_icmp_le (pc1 := 67) (pc2 := 59) X46 hx (hb hby at_56) (by decide) (by decide) rfl (fun q => absurd q (by decide)) (fun _ => ?_)
  refine og_aload X46 hx rfl rfl (hb hby at_59) rfl ?_
  refine og_iconst (v := 1) X46 hx rfl (hb hby at_61) rfl ?_
  refine og_aload X46 hx rfl rfl (hb hby at_62) rfl ?_
  refine og_iconst (v := 1) X46 hx rfl (hb hby at_64) rfl ?_
  refine og_caload (v := (.int c1)) X46 hx hZ e46 V_nb38 ⟨by decide, by decide⟩ rfl (hb hby at_65) rfl ?_
  refine og_castore X46 hx hZ e46 V_nb45 ⟨by decide, by decide⟩ 1 (by decide) (Nat.le_of_ble_eq_true rfl) (hb hby at_66) rfl (fun T47 h47 X47 e47 W47 V47 => ?_)
  have sf47 : Safe Z own_EL s.vm h46 nb45 := Q_nb45; have Q_nb38 := Safe.wr W47 sf47 CR.1 Q_nb38; have Q_nb45 := Safe.wr W47 sf47 CR.1 Q_nb45; have V_nb38 := V_nb38.other W47 ne_nb38_nb45; have O := O.wr W47 g_nb45; have K := K.wr W47 (Or.inr sz_nb45)
  have hk := Nat.le_trans hk (Keep.of_wr W47).1; have CR := CR.trans (CHr.wr W47 sf47 CR.1)
  have N := Fr.snoc X47 N g_nb45
  have V_nb45 : Arv Z h47 nb45 kA45 .char (2 : Int32) [(.int c0), (.int (nar .char c1))] (.int 0) := V47
  rw [own_nc2 hc1] at V_nb45
  refine og_iload X47 hx rfl (hb hby at_67) rfl ?_
  refine og_iconst (v := 2) X47 hx rfl (hb hby at_69) rfl ?_
  refine og_icmp_le (pc1 := 81) (pc2 := 73) X47 hx (hb hby at_70) (by decide) (by decide) rfl (fun _ => ?_) (fun q => absurd q (by decide))
  refine og_new (pc' := 84) (cells' := 3) (slots' := 9) X47 hx hZ hown (ow5 hw) (ow6 hw) (ow7 hw) e47 (hb hby at_81) rfl rfl rfl (by decide) (by decide) (fun T48 h48 nb48 X48 e48 E48 q48 E_nb48 D48 B48 => ?_)
  have s_nb48 : h47.size ≤ nb48 := Nat.le_of_eq q48.symm; have g_nb48 : n0 ≤ nb48 := Nat.le_trans (own_n0 O) s_nb48; have sz_nb48 : h0.size ≤ nb48 := Nat.le_trans K.1 s_nb48; have ne_nb38_nb48 : nb38 ≠ nb48 := Nat.ne_of_lt (Nat.lt_of_lt_of_le V_nb38.lt s_nb48); have ne_nb45_nb48 : nb45 ≠ nb48 := Nat.ne_of_lt (Nat.lt_of_lt_of_le V_nb45.lt s_nb48); have Q_nb48 : Safe Z own_EL _ _ nb48 := Safe.new (Z := Z) (EL := own_EL) (vm := s.vm) s_nb48
  have Q_nb38 := Safe.ext E48 CR.1 Q_nb38; have Q_nb45 := Safe.ext E48 CR.1 Q_nb45; have Q_nb48 := Safe.ext E48 CR.1 Q_nb48; have V_nb38 := V_nb38.ext E48; have V_nb45 := V_nb45.ext E48; have O := O.ext E48
  have K := K.ext E48; have hk := Nat.le_trans hk E48.1; have CR := CR.trans (CHr.ext E48 CR.1)
  have F_coder_nb48 : Fld Z h48 nb48 "java/lang/String" "coder" "B" (.int 0) := D48 (Or.inr (ow31 hw)) (ty := .byte) (by decide)
  have F_value_nb48 : Fld Z h48 nb48 "java/lang/String" "value" "[B" .null := D48 (Or.inr (ow33 hw)) (ty := (.array .byte)) (by decide)
  refine og_dup X48 hx rfl (hb hby at_84) rfl ?_
  refine og_aload X48 hx rfl rfl (hb hby at_85) rfl ?_
  refine og_special (pc' := 90) (cells' := 5) (slots' := 15) (W := 1) X48 hx hZ (rm_un2 l Z a0 hw nb48 nb45 kA45 c0 c1 hc0 hc1 cs hcs h48 n0 O E_nb48 F_value_nb48 F_coder_nb48 V_nb45 S_CS S__assertionsDisabled S_HI_BYTE_SHIFT S_LO_BYTE_SHIFT g_nb48 ne_nb45_nb48) rfl hown (ow8 hw) (ow9 hw) (ow7 hw) (ow10 hw) (by decide) (by rw [hml]; rfl) e48 opd_23 [(.ref nb45)] [(.ref nb48)] rfl rfl rfl rfl (by decide) (by decide) rfl rfl (by decide) (by decide) (hb hby at_87) rfl (fun v49 T49 h49 L49 X49 e49 z49 => ?_)
  obtain ⟨nb49, k49, rfl, Nq49, K49, sb49, E_nb48', F_value_nb48', hd⟩ := z49; have N := Fr.app N Nq49
  have s_nb49 : h48.size ≤ nb49 := sb49; have g_nb49 : n0 ≤ nb49 := Nat.le_trans (own_n0 O) s_nb49; have sz_nb49 : h0.size ≤ nb49 := Nat.le_trans K.1 s_nb49; have ne_nb38_nb49 : nb38 ≠ nb49 := Nat.ne_of_lt (Nat.lt_of_lt_of_le V_nb38.lt s_nb49); have ne_nb45_nb49 : nb45 ≠ nb49 := Nat.ne_of_lt (Nat.lt_of_lt_of_le V_nb45.lt s_nb49); have ne_nb48_nb49 : nb48 ≠ nb49 := Nat.ne_of_lt (Nat.lt_of_lt_of_le E_nb48.lt s_nb49)
  have Q_nb49 : Safe Z own_EL _ _ nb49 := Safe.new (Z := Z) (EL := own_EL) (vm := s.vm) s_nb49
  have sf49 : ∀ x ∈ ([nb48] : List Addr), Safe Z own_EL s.vm h48 x := (sfS Q_nb48 sf0); have Q_nb38 := Safe.keep K49 sf49 CR.1 Q_nb38; have Q_nb45 := Safe.keep K49 sf49 CR.1 Q_nb45; have Q_nb48 := Safe.keep K49 sf49 CR.1 Q_nb48; have Q_nb49 := Safe.keep K49 sf49 CR.1 Q_nb49; have V_nb38 := V_nb38.keep K49 (ninS ne_nb38_nb48 nin0)
  have V_nb45 := V_nb45.keep K49 (ninS ne_nb45_nb48 nin0); have E_nb48 := E_nb48.keep K49; have O := O.keep K49 (allS g_nb48 all0); have K := K.trans K49 (allS (Or.inr sz_nb48) all0); have hk := Nat.le_trans hk K49.1; have CR := CR.trans (CHr.keep K49 sf49 CR.1)
  have E_nb48 := E_nb48'; have F_value_nb48 := F_value_nb48'
  rcases hd with ⟨F_coder_nb48, V_nb49, hsm⟩ | ⟨F_coder_nb48, V_nb49, hsm⟩
  ·
   refine og_static (pc' := 93) (cells' := 5) (slots' := 15) (W := 0) X49 hx hZ (rm_fcL2 l Z a0 hw nb48 nb49 k49 c0 c1 hc0 hc1 cs hcs fm hfm _ rfl hsm h49 n0 O E_nb48 F_value_nb48 F_coder_nb48 V_nb49 S_CS S_FM ) hown (ow34 hw) (ow35 hw) (ow36 hw) (ow37 hw) (by decide) (by rw [hml]; rfl) e49 opd_24 [(.ref nb48)] [] rfl rfl rfl rfl (by decide) (by decide) rfl rfl (by decide) (by decide) (hb hby at_90) rfl (fun v50 T50 h50 L50 X50 e50 z50 => ?_)
   obtain ⟨rfl, Nq50, hq50⟩ := z50; replace e50 := e50.trans hq50; have N := Fr.app N Nq50
   refine og_istore (L' := #[.val (.int p0), .val (.int p1), .val (.int p2), .val (.int p3), .val (.int 2), .val (.ref nb38), .val (.ref nb45), .val (.int (own_fc [c0, c1]))]) X50 hx rfl (hb hby at_93) rfl ?_
   refine og_iload X50 hx rfl (hb hby at_95) rfl ?_
   refine og_aload X50 hx rfl rfl (hb hby at_97) rfl ?_
   refine og_iload X50 hx rfl (hb hby at_99) rfl ?_
   refine og_static (pc' := 104) (cells' := 5) (slots' := 15) (W := 1) X50 hx hZ (rm_ref2 l Z a0 hw nb38 kA38 c0 c1 c2 hc0 hc1 hc2 _ rfl h49 n0 O V_nb38) hown (ow86 hw) (ow87 hw) (ow3 hw) (ow88 hw) (by decide) (by rw [hml]; rfl) e50 opd_25 [(.ref nb38), (.int 2)] [(.int (own_fc [c0, c1]))] rfl rfl rfl rfl (by decide) (by decide) rfl rfl (by decide) (by decide) (hb hby at_101) rfl (fun v51 T51 h51 L51 X51 e51 z51 => ?_)
   obtain ⟨rfl, Nq51, hq51⟩ := z51; replace e51 := e51.trans hq51; have N := Fr.app N Nq51
   refine og_icmp_ne (pc1 := 111) (pc2 := 107) X51 hx (hb hby at_104) (by decide) (by decide) rfl (fun q => absurd rfl q) (fun _ => ?_)
   refine og_iconst (v := 1) X51 hx rfl (hb hby at_107) rfl ?_
   refine og_goto (pc' := 112) X51 hx (hb hby at_108) (by decide) (by decide) ?_
   refine og_retNW X51 hx hZ hlk hEL hS e51 es hk CR hret (by simp) (hb hby at_112) (by decide) (by decide) ?_
   exact ⟨rfl, N⟩
  ·
   refine og_static (pc' := 93) (cells' := 5) (slots' := 15) (W := 0) X49 hx hZ (rm_fcU2 l Z a0 hw nb48 nb49 k49 c0 c1 hc0 hc1 cs hcs fm hfm _ rfl h49 n0 O E_nb48 F_value_nb48 F_coder_nb48 V_nb49 S_CS S_FM S__assertionsDisabled S_HI_BYTE_SHIFT S_LO_BYTE_SHIFT) hown (ow34 hw) (ow35 hw) (ow36 hw) (ow37 hw) (by decide) (by rw [hml]; rfl) e49 opd_24 [(.ref nb48)] [] rfl rfl rfl rfl (by decide) (by decide) rfl rfl (by decide) (by decide) (hb hby at_90) rfl (fun v52 T52 h52 L52 X52 e52 z52 => ?_)
   obtain ⟨rfl, Nq52, hq52⟩ := z52; replace e52 := e52.trans hq52; have N := Fr.app N Nq52
   refine og_istore (L' := #[.val (.int p0), .val (.int p1), .val (.int p2), .val (.int p3), .val (.int 2), .val (.ref nb38), .val (.ref nb45), .val (.int (own_fc [c0, c1]))]) X52 hx rfl (hb hby at_93) rfl ?_
   refine og_iload X52 hx rfl (hb hby at_95) rfl ?_
   refine og_aload X52 hx rfl rfl (hb hby at_97) rfl ?_
   refine og_iload X52 hx rfl (hb hby at_99) rfl ?_
   refine og_static (pc' := 104) (cells' := 5) (slots' := 15) (W := 1) X52 hx hZ (rm_ref2 l Z a0 hw nb38 kA38 c0 c1 c2 hc0 hc1 hc2 _ rfl h49 n0 O V_nb38) hown (ow86 hw) (ow87 hw) (ow3 hw) (ow88 hw) (by decide) (by rw [hml]; rfl) e52 opd_25 [(.ref nb38), (.int 2)] [(.int (own_fc [c0, c1]))] rfl rfl rfl rfl (by decide) (by decide) rfl rfl (by decide) (by decide) (hb hby at_101) rfl (fun v53 T53 h53 L53 X53 e53 z53 => ?_)
   obtain ⟨rfl, Nq53, hq53⟩ := z53; replace e53 := e53.trans hq53; have N := Fr.app N Nq53
   refine og_icmp_ne (pc1 := 111) (pc2 := 107) X53 hx (hb hby at_104) (by decide) (by decide) rfl (fun q => absurd rfl q) (fun _ => ?_)
   refine og_iconst (v := 1) X53 hx rfl (hb hby at_107) rfl ?_
   refine og_goto (pc' := 112) X53 hx (hb hby at_108) (by decide) (by decide) ?_
   refine og_retNW X53 hx hZ hlk hEL hS e53 es hk CR hret (by simp) (hb hby at_112) (by decide) (by decide) ?_
   exact ⟨rfl, N⟩
 ·
  refine og_iconst (v := 3) X0 hx rfl (hb hby at_5) rfl ?_
  refine og_newarray (pc' := 8) (cells' := 1) (slots' := 3) (cap := 3) (ty := .char) X0 hx hZ rfl (ow0 hw) e0 (by decide) (by decide) (by decide) (hb hby at_6) rfl rfl rfl (by decide) (by decide) (fun T54 h54 nb54 kA54 X54 e54 E54 q54 V_nb54 => ?_)
  have s_nb54 : h0.size ≤ nb54 := Nat.le_of_eq q54.symm; have g_nb54 : n0 ≤ nb54 := Nat.le_trans (own_n0 O) s_nb54; have sz_nb54 : h0.size ≤ nb54 := Nat.le_trans K.1 s_nb54; have Q_nb54 : Safe Z own_EL _ _ nb54 := Safe.new (Z := Z) (EL := own_EL) (vm := s.vm) s_nb54
  have Q_nb54 := Safe.ext E54 CR.1 Q_nb54; have O := O.ext E54; have K := K.ext E54; have hk := Nat.le_trans hk E54.1; have CR := CR.trans (CHr.ext E54 CR.1)
  have V_nb54 : Arv Z h54 nb54 kA54 .char (3 : Int32) [(.int 0), (.int 0), (.int 0)] (.int 0) := V_nb54.pad (pad_rep [] (.int 0) 3)
  refine og_astore (L' := #[.val (.int p0), .val (.int p1), .val (.int p2), .val (.int p3), .val (.int 3), .val (.ref nb54), .unset, .unset]) X54 hx rfl rfl (hb hby at_8) rfl ?_
  refine og_aload X54 hx rfl rfl (hb hby at_10) rfl ?_
  refine og_iconst (v := 0) X54 hx rfl (hb hby at_12) rfl ?_
  refine og_iloadN X54 hx rfl (hb hby at_13) rfl ?_
  refine og_static (pc' := 17) (cells' := 1) (slots' := 3) (W := 2) X54 hx hZ (rm_drw l Z a0 hw p0 h54 n0 O) hown (ow1 hw) (ow2 hw) (ow3 hw) (ow4 hw) (by decide) (by rw [hml]; rfl) e54 opd_18 [(.int p0)] [(.int 0), (.ref nb54)] rfl rfl rfl rfl (by decide) (by decide) rfl rfl (by decide) (by decide) (hb hby at_14) rfl (fun v55 T55 h55 L55 X55 e55 z55 => ?_)
  obtain ⟨c0, rfl, Nq55, hq55, hc0⟩ := z55; replace e55 := e55.trans hq55; have N := Fr.app N Nq55
  refine og_castore X55 hx hZ e55 V_nb54 ⟨by decide, by decide⟩ 0 (by decide) (Nat.le_of_ble_eq_true rfl) (hb hby at_17) rfl (fun T56 h56 X56 e56 W56 V56 => ?_)
  have sf56 : Safe Z own_EL s.vm h54 nb54 := Q_nb54; have Q_nb54 := Safe.wr W56 sf56 CR.1 Q_nb54; have O := O.wr W56 g_nb54; have K := K.wr W56 (Or.inr sz_nb54); have hk := Nat.le_trans hk (Keep.of_wr W56).1; have CR := CR.trans (CHr.wr W56 sf56 CR.1)
  have N := Fr.snoc X56 N g_nb54
  have V_nb54 : Arv Z h56 nb54 kA54 .char (3 : Int32) [(.int (nar .char c0)), (.int 0), (.int 0)] (.int 0) := V56
  rw [own_nc2 hc0] at V_nb54
  refine og_aload X56 hx rfl rfl (hb hby at_18) rfl ?_
  refine og_iconst (v := 1) X56 hx rfl (hb hby at_20) rfl ?_
  refine og_iloadN X56 hx rfl (hb hby at_21) rfl ?_
  refine og_static (pc' := 25) (cells' := 1) (slots' := 3) (W := 2) X56 hx hZ (rm_drw l Z a0 hw p1 h56 n0 O) hown (ow1 hw) (ow2 hw) (ow3 hw) (ow4 hw) (by decide) (by rw [hml]; rfl) e56 opd_18 [(.int p1)] [(.int 1), (.ref nb54)] rfl rfl rfl rfl (by decide) (by decide) rfl rfl (by decide) (by decide) (hb hby at_22) rfl (fun v57 T57 h57 L57 X57 e57 z57 => ?_)
  obtain ⟨c1, rfl, Nq57, hq57, hc1⟩ := z57; replace e57 := e57.trans hq57; have N := Fr.app N Nq57
  refine og_castore X57 hx hZ e57 V_nb54 ⟨by decide, by decide⟩ 1 (by decide) (Nat.le_of_ble_eq_true rfl) (hb hby at_25) rfl (fun T58 h58 X58 e58 W58 V58 => ?_)
  have sf58 : Safe Z own_EL s.vm h56 nb54 := Q_nb54; have Q_nb54 := Safe.wr W58 sf58 CR.1 Q_nb54; have O := O.wr W58 g_nb54; have K := K.wr W58 (Or.inr sz_nb54); have hk := Nat.le_trans hk (Keep.of_wr W58).1; have CR := CR.trans (CHr.wr W58 sf58 CR.1)
  have N := Fr.snoc X58 N g_nb54
  have V_nb54 : Arv Z h58 nb54 kA54 .char (3 : Int32) [(.int c0), (.int (nar .char c1)), (.int 0)] (.int 0) := V58
  rw [own_nc2 hc1] at V_nb54
  refine og_aload X58 hx rfl rfl (hb hby at_26) rfl ?_
  refine og_iconst (v := 2) X58 hx rfl (hb hby at_28) rfl ?_
  refine og_iloadN X58 hx rfl (hb hby at_29) rfl ?_
  refine og_static (pc' := 33) (cells' := 1) (slots' := 3) (W := 2) X58 hx hZ (rm_drw l Z a0 hw p2 h58 n0 O) hown (ow1 hw) (ow2 hw) (ow3 hw) (ow4 hw) (by decide) (by rw [hml]; rfl) e58 opd_18 [(.int p2)] [(.int 2), (.ref nb54)] rfl rfl rfl rfl (by decide) (by decide) rfl rfl (by decide) (by decide) (hb hby at_30) rfl (fun v59 T59 h59 L59 X59 e59 z59 => ?_)
  obtain ⟨c2, rfl, Nq59, hq59, hc2⟩ := z59; replace e59 := e59.trans hq59; have N := Fr.app N Nq59
  refine og_castore X59 hx hZ e59 V_nb54 ⟨by decide, by decide⟩ 2 (by decide) (Nat.le_of_ble_eq_true rfl) (hb hby at_33) rfl (fun T60 h60 X60 e60 W60 V60 => ?_)
  have sf60 : Safe Z own_EL s.vm h58 nb54 := Q_nb54; have Q_nb54 := Safe.wr W60 sf60 CR.1 Q_nb54; have O := O.wr W60 g_nb54; have K := K.wr W60 (Or.inr sz_nb54); have hk := Nat.le_trans hk (Keep.of_wr W60).1; have CR := CR.trans (CHr.wr W60 sf60 CR.1)
  have N := Fr.snoc X60 N g_nb54
  have V_nb54 : Arv Z h60 nb54 kA54 .char (3 : Int32) [(.int c0), (.int c1), (.int (nar .char c2))] (.int 0) := V60
  rw [own_nc2 hc2] at V_nb54
  refine og_iload X60 hx rfl (hb hby at_34) rfl ?_
  refine og_newarray (pc' := 38) (cells' := 2) (slots' := 6) (cap := 3) (ty := .char) X60 hx hZ rfl (ow0 hw) e60 (by decide) (by decide) (by decide) (hb hby at_36) rfl rfl rfl (by decide) (by decide) (fun T61 h61 nb61 kA61 X61 e61 E61 q61 V_nb61 => ?_)
  have s_nb61 : h60.size ≤ nb61 := Nat.le_of_eq q61.symm; have g_nb61 : n0 ≤ nb61 := Nat.le_trans (own_n0 O) s_nb61; have sz_nb61 : h0.size ≤ nb61 := Nat.le_trans K.1 s_nb61; have ne_nb54_nb61 : nb54 ≠ nb61 := Nat.ne_of_lt (Nat.lt_of_lt_of_le V_nb54.lt s_nb61); have Q_nb61 : Safe Z own_EL _ _ nb61 := Safe.new (Z := Z) (EL := own_EL) (vm := s.vm) s_nb61
  have Q_nb54 := Safe.ext E61 CR.1 Q_nb54; have Q_nb61 := Safe.ext E61 CR.1 Q_nb61; have V_nb54 := V_nb54.ext E61; have O := O.ext E61; have K := K.ext E61; have hk := Nat.le_trans hk E61.1
  have CR := CR.trans (CHr.ext E61 CR.1)
  have V_nb61 : Arv Z h61 nb61 kA61 .char (3 : Int32) [(.int 0), (.int 0), (.int 0)] (.int 0) := V_nb61.pad (pad_rep [] (.int 0) 3)
  refine og_astore (L' := #[.val (.int p0), .val (.int p1), .val (.int p2), .val (.int p3), .val (.int 3), .val (.ref nb54), .val (.ref nb61), .unset]) X61 hx rfl rfl (hb hby at_38) rfl ?_
  refine og_iload X61 hx rfl (hb hby at_40) rfl ?_
  refine og_if_le (pc1 := 53) (pc2 := 45) X61 hx (hb hby at_42) (by decide) (by decide) rfl (fun q => absurd q (by decide)) (fun _ => ?_)
  refine og_aload X61 hx rfl rfl (hb hby at_45) rfl ?_
  refine og_iconst (v := 0) X61 hx rfl (hb hby at_47) rfl ?_
  refine og_aload X61 hx rfl rfl (hb hby at_48) rfl ?_
  refine og_iconst (v := 0) X61 hx rfl (hb hby at_50) rfl ?_
  refine og_caload (v := (.int c0)) X61 hx hZ e61 V_nb54 ⟨by decide, by decide⟩ rfl (hb hby at_51) rfl ?_
  refine og_castore X61 hx hZ e61 V_nb61 ⟨by decide, by decide⟩ 0 (by decide) (Nat.le_of_ble_eq_true rfl) (hb hby at_52) rfl (fun T62 h62 X62 e62 W62 V62 => ?_)
  have sf62 : Safe Z own_EL s.vm h61 nb61 := Q_nb61; have Q_nb54 := Safe.wr W62 sf62 CR.1 Q_nb54; have Q_nb61 := Safe.wr W62 sf62 CR.1 Q_nb61; have V_nb54 := V_nb54.other W62 ne_nb54_nb61; have O := O.wr W62 g_nb61; have K := K.wr W62 (Or.inr sz_nb61)
  have hk := Nat.le_trans hk (Keep.of_wr W62).1; have CR := CR.trans (CHr.wr W62 sf62 CR.1)
  have N := Fr.snoc X62 N g_nb61
  have V_nb61 : Arv Z h62 nb61 kA61 .char (3 : Int32) [(.int (nar .char c0)), (.int 0), (.int 0)] (.int 0) := V62
  rw [own_nc2 hc0] at V_nb61
  refine og_iload X62 hx rfl (hb hby at_53) rfl ?_
  refine og_iconst (v := 1) X62 hx rfl (hb hby at_55) rfl ?_
  refine og_icmp_le (pc1 := 67) (pc2 := 59) X62 hx (hb hby at_56) (by decide) (by decide) rfl (fun q => absurd q (by decide)) (fun _ => ?_)
  refine og_aload X62 hx rfl rfl (hb hby at_59) rfl ?_
  refine og_iconst (v := 1) X62 hx rfl (hb hby at_61) rfl ?_
  refine og_aload X62 hx rfl rfl (hb hby at_62) rfl ?_
  refine og_iconst (v := 1) X62 hx rfl (hb hby at_64) rfl ?_
  refine og_caload (v := (.int c1)) X62 hx hZ e62 V_nb54 ⟨by decide, by decide⟩ rfl (hb hby at_65) rfl ?_
  refine og_castore X62 hx hZ e62 V_nb61 ⟨by decide, by decide⟩ 1 (by decide) (Nat.le_of_ble_eq_true rfl) (hb hby at_66) rfl (fun T63 h63 X63 e63 W63 V63 => ?_)
  have sf63 : Safe Z own_EL s.vm h62 nb61 := Q_nb61; have Q_nb54 := Safe.wr W63 sf63 CR.1 Q_nb54; have Q_nb61 := Safe.wr W63 sf63 CR.1 Q_nb61; have V_nb54 := V_nb54.other W63 ne_nb54_nb61; have O := O.wr W63 g_nb61; have K := K.wr W63 (Or.inr sz_nb61)
  have hk := Nat.le_trans hk (Keep.of_wr W63).1; have CR := CR.trans (CHr.wr W63 sf63 CR.1)
  have N := Fr.snoc X63 N g_nb61
  have V_nb61 : Arv Z h63 nb61 kA61 .char (3 : Int32) [(.int c0), (.int (nar .char c1)), (.int 0)] (.int 0) := V63
  rw [own_nc2 hc1] at V_nb61
  refine og_iload X63 hx rfl (hb hby at_67) rfl ?_
  refine og_iconst (v := 2) X63 hx rfl (hb hby at_69) rfl ?_
  refine og_icmp_le (pc1 := 81) (pc2 := 73) X63 hx (hb hby at_70) (by decide) (by decide) rfl (fun q => absurd q (by decide)) (fun _ => ?_)
  refine og_aload X63 hx rfl rfl (hb hby at_73) rfl ?_
  refine og_iconst (v := 2) X63 hx rfl (hb hby at_75) rfl ?_
  refine og_aload X63 hx rfl rfl (hb hby at_76) rfl ?_
  refine og_iconst (v := 2) X63 hx rfl (hb hby at_78) rfl ?_
  refine og_caload (v := (.int c2)) X63 hx hZ e63 V_nb54 ⟨by decide, by decide⟩ rfl (hb hby at_79) rfl ?_
  refine og_castore X63 hx hZ e63 V_nb61 ⟨by decide, by decide⟩ 2 (by decide) (Nat.le_of_ble_eq_true rfl) (hb hby at_80) rfl (fun T64 h64 X64 e64 W64 V64 => ?_)
  have sf64 : Safe Z own_EL s.vm h63 nb61 := Q_nb61; have Q_nb54 := Safe.wr W64 sf64 CR.1 Q_nb54; have Q_nb61 := Safe.wr W64 sf64 CR.1 Q_nb61; have V_nb54 := V_nb54.other W64 ne_nb54_nb61; have O := O.wr W64 g_nb61; have K := K.wr W64 (Or.inr sz_nb61)
  have hk := Nat.le_trans hk (Keep.of_wr W64).1; have CR := CR.trans (CHr.wr W64 sf64 CR.1)
  have N := Fr.snoc X64 N g_nb61
  have V_nb61 : Arv Z h64 nb61 kA61 .char (3 : Int32) [(.int c0), (.int c1), (.int (nar .char c2))] (.int 0) := V64
  rw [own_nc2 hc2] at V_nb61
  refine og_new (pc' := 84) (cells' := 3) (slots' := 10) X64 hx hZ hown (ow5 hw) (ow6 hw) (ow7 hw) e64 (hb hby at_81) rfl rfl rfl (by decide) (by decide) (fun T65 h65 nb65 X65 e65 E65 q65 E_nb65 D65 B65 => ?_)
  have s_nb65 : h64.size ≤ nb65 := Nat.le_of_eq q65.symm; have g_nb65 : n0 ≤ nb65 := Nat.le_trans (own_n0 O) s_nb65; have sz_nb65 : h0.size ≤ nb65 := Nat.le_trans K.1 s_nb65; have ne_nb54_nb65 : nb54 ≠ nb65 := Nat.ne_of_lt (Nat.lt_of_lt_of_le V_nb54.lt s_nb65); have ne_nb61_nb65 : nb61 ≠ nb65 := Nat.ne_of_lt (Nat.lt_of_lt_of_le V_nb61.lt s_nb65); have Q_nb65 : Safe Z own_EL _ _ nb65 := Safe.new (Z := Z) (EL := own_EL) (vm := s.vm) s_nb65
  have Q_nb54 := Safe.ext E65 CR.1 Q_nb54; have Q_nb61 := Safe.ext E65 CR.1 Q_nb61; have Q_nb65 := Safe.ext E65 CR.1 Q_nb65; have V_nb54 := V_nb54.ext E65; have V_nb61 := V_nb61.ext E65; have O := O.ext E65
  have K := K.ext E65; have hk := Nat.le_trans hk E65.1; have CR := CR.trans (CHr.ext E65 CR.1)
  have F_coder_nb65 : Fld Z h65 nb65 "java/lang/String" "coder" "B" (.int 0) := D65 (Or.inr (ow31 hw)) (ty := .byte) (by decide)
  have F_value_nb65 : Fld Z h65 nb65 "java/lang/String" "value" "[B" .null := D65 (Or.inr (ow33 hw)) (ty := (.array .byte)) (by decide)
  refine og_dup X65 hx rfl (hb hby at_84) rfl ?_
  refine og_aload X65 hx rfl rfl (hb hby at_85) rfl ?_
  refine og_special (pc' := 90) (cells' := 5) (slots' := 19) (W := 1) X65 hx hZ (rm_un3 l Z a0 hw nb65 nb61 kA61 c0 c1 c2 hc0 hc1 hc2 cs hcs h65 n0 O E_nb65 F_value_nb65 F_coder_nb65 V_nb61 S_CS S__assertionsDisabled S_HI_BYTE_SHIFT S_LO_BYTE_SHIFT g_nb65 ne_nb61_nb65) rfl hown (ow8 hw) (ow9 hw) (ow7 hw) (ow10 hw) (by decide) (by rw [hml]; rfl) e65 opd_23 [(.ref nb61)] [(.ref nb65)] rfl rfl rfl rfl (by decide) (by decide) rfl rfl (by decide) (by decide) (hb hby at_87) rfl (fun v66 T66 h66 L66 X66 e66 z66 => ?_)
  obtain ⟨nb66, k66, rfl, Nq66, K66, sb66, E_nb65', F_value_nb65', hd⟩ := z66; have N := Fr.app N Nq66
  have s_nb66 : h65.size ≤ nb66 := sb66; have g_nb66 : n0 ≤ nb66 := Nat.le_trans (own_n0 O) s_nb66; have sz_nb66 : h0.size ≤ nb66 := Nat.le_trans K.1 s_nb66; have ne_nb54_nb66 : nb54 ≠ nb66 := Nat.ne_of_lt (Nat.lt_of_lt_of_le V_nb54.lt s_nb66); have ne_nb61_nb66 : nb61 ≠ nb66 := Nat.ne_of_lt (Nat.lt_of_lt_of_le V_nb61.lt s_nb66); have ne_nb65_nb66 : nb65 ≠ nb66 := Nat.ne_of_lt (Nat.lt_of_lt_of_le E_nb65.lt s_nb66)
  have Q_nb66 : Safe Z own_EL _ _ nb66 := Safe.new (Z := Z) (EL := own_EL) (vm := s.vm) s_nb66
  have sf66 : ∀ x ∈ ([nb65] : List Addr), Safe Z own_EL s.vm h65 x := (sfS Q_nb65 sf0); have Q_nb54 := Safe.keep K66 sf66 CR.1 Q_nb54; have Q_nb61 := Safe.keep K66 sf66 CR.1 Q_nb61; have Q_nb65 := Safe.keep K66 sf66 CR.1 Q_nb65; have Q_nb66 := Safe.keep K66 sf66 CR.1 Q_nb66; have V_nb54 := V_nb54.keep K66 (ninS ne_nb54_nb65 nin0)
  have V_nb61 := V_nb61.keep K66 (ninS ne_nb61_nb65 nin0); have E_nb65 := E_nb65.keep K66; have O := O.keep K66 (allS g_nb65 all0); have K := K.trans K66 (allS (Or.inr sz_nb65) all0); have hk := Nat.le_trans hk K66.1; have CR := CR.trans (CHr.keep K66 sf66 CR.1)
  have E_nb65 := E_nb65'; have F_value_nb65 := F_value_nb65'
  rcases hd with ⟨F_coder_nb65, V_nb66, hsm⟩ | ⟨F_coder_nb65, V_nb66, hsm⟩
  ·
   refine og_static (pc' := 93) (cells' := 5) (slots' := 19) (W := 0) X66 hx hZ (rm_fcL3 l Z a0 hw nb65 nb66 k66 c0 c1 c2 hc0 hc1 hc2 cs hcs fm hfm _ rfl hsm h66 n0 O E_nb65 F_value_nb65 F_coder_nb65 V_nb66 S_CS S_FM ) hown (ow34 hw) (ow35 hw) (ow36 hw) (ow37 hw) (by decide) (by rw [hml]; rfl) e66 opd_24 [(.ref nb65)] [] rfl rfl rfl rfl (by decide) (by decide) rfl rfl (by decide) (by decide) (hb hby at_90) rfl (fun v67 T67 h67 L67 X67 e67 z67 => ?_)
   obtain ⟨rfl, Nq67, hq67⟩ := z67; replace e67 := e67.trans hq67; have N := Fr.app N Nq67
   refine og_istore (L' := #[.val (.int p0), .val (.int p1), .val (.int p2), .val (.int p3), .val (.int 3), .val (.ref nb54), .val (.ref nb61), .val (.int (own_fc [c0, c1, c2]))]) X67 hx rfl (hb hby at_93) rfl ?_
   refine og_iload X67 hx rfl (hb hby at_95) rfl ?_
   refine og_aload X67 hx rfl rfl (hb hby at_97) rfl ?_
   refine og_iload X67 hx rfl (hb hby at_99) rfl ?_
   refine og_static (pc' := 104) (cells' := 5) (slots' := 19) (W := 1) X67 hx hZ (rm_ref3 l Z a0 hw nb54 kA54 c0 c1 c2 hc0 hc1 hc2 _ rfl h66 n0 O V_nb54) hown (ow86 hw) (ow87 hw) (ow3 hw) (ow88 hw) (by decide) (by rw [hml]; rfl) e67 opd_25 [(.ref nb54), (.int 3)] [(.int (own_fc [c0, c1, c2]))] rfl rfl rfl rfl (by decide) (by decide) rfl rfl (by decide) (by decide) (hb hby at_101) rfl (fun v68 T68 h68 L68 X68 e68 z68 => ?_)
   obtain ⟨rfl, Nq68, hq68⟩ := z68; replace e68 := e68.trans hq68; have N := Fr.app N Nq68
   refine og_icmp_ne (pc1 := 111) (pc2 := 107) X68 hx (hb hby at_104) (by decide) (by decide) rfl (fun q => absurd rfl q) (fun _ => ?_)
   refine og_iconst (v := 1) X68 hx rfl (hb hby at_107) rfl ?_
   refine og_goto (pc' := 112) X68 hx (hb hby at_108) (by decide) (by decide) ?_
   refine og_retNW X68 hx hZ hlk hEL hS e68 es hk CR hret (by simp) (hb hby at_112) (by decide) (by decide) ?_
   exact ⟨rfl, N⟩
  ·
   refine og_static (pc' := 93) (cells' := 5) (slots' := 19) (W := 0) X66 hx hZ (rm_fcU3 l Z a0 hw nb65 nb66 k66 c0 c1 c2 hc0 hc1 hc2 cs hcs fm hfm _ rfl h66 n0 O E_nb65 F_value_nb65 F_coder_nb65 V_nb66 S_CS S_FM S__assertionsDisabled S_HI_BYTE_SHIFT S_LO_BYTE_SHIFT) hown (ow34 hw) (ow35 hw) (ow36 hw) (ow37 hw) (by decide) (by rw [hml]; rfl) e66 opd_24 [(.ref nb65)] [] rfl rfl rfl rfl (by decide) (by decide) rfl rfl (by decide) (by decide) (hb hby at_90) rfl (fun v69 T69 h69 L69 X69 e69 z69 => ?_)
   obtain ⟨rfl, Nq69, hq69⟩ := z69; replace e69 := e69.trans hq69; have N := Fr.app N Nq69
   refine og_istore (L' := #[.val (.int p0), .val (.int p1), .val (.int p2), .val (.int p3), .val (.int 3), .val (.ref nb54), .val (.ref nb61), .val (.int (own_fc [c0, c1, c2]))]) X69 hx rfl (hb hby at_93) rfl ?_
   refine og_iload X69 hx rfl (hb hby at_95) rfl ?_
   refine og_aload X69 hx rfl rfl (hb hby at_97) rfl ?_
   refine og_iload X69 hx rfl (hb hby at_99) rfl ?_
   refine og_static (pc' := 104) (cells' := 5) (slots' := 19) (W := 1) X69 hx hZ (rm_ref3 l Z a0 hw nb54 kA54 c0 c1 c2 hc0 hc1 hc2 _ rfl h66 n0 O V_nb54) hown (ow86 hw) (ow87 hw) (ow3 hw) (ow88 hw) (by decide) (by rw [hml]; rfl) e69 opd_25 [(.ref nb54), (.int 3)] [(.int (own_fc [c0, c1, c2]))] rfl rfl rfl rfl (by decide) (by decide) rfl rfl (by decide) (by decide) (hb hby at_101) rfl (fun v70 T70 h70 L70 X70 e70 z70 => ?_)
   obtain ⟨rfl, Nq70, hq70⟩ := z70; replace e70 := e70.trans hq70; have N := Fr.app N Nq70
   refine og_icmp_ne (pc1 := 111) (pc2 := 107) X70 hx (hb hby at_104) (by decide) (by decide) rfl (fun q => absurd rfl q) (fun _ => ?_)
   refine og_iconst (v := 1) X70 hx rfl (hb hby at_107) rfl ?_
   refine og_goto (pc' := 112) X70 hx (hb hby at_108) (by decide) (by decide) ?_
   refine og_retNW X70 hx hZ hlk hEL hS e70 es hk CR hret (by simp) (hb hby at_112) (by decide) (by decide) ?_
   exact ⟨rfl, N⟩
theorem comes_1 {Post : Tables → Env → Array Value → State → Outcome → State → Prop} (hpost : ∀ tb e args s v u, (limb_1_1.after args s (.returned v) u = true ∧ limb_1_2.after args s (.returned v) u = true ∧ True) → ReturnedEndW s (.returned v) u (Jvm.fieldLocs frame_1_writes args s ++ Jvm.arrayLocs frame_1_arrays args s ++ Jvm.staticLocs frame_1_statics s) 24 1152 → Post tb e args s (.returned v) u) :
    ArmFor flags0 classFile x code maxLocals ret World_1 tables_1 room_1 Calls_1 rest_1 Pre_1 Post := by
  intro l hfl _ _ p e ha hc hk s m args below hf hA hF happ hP
  obtain ⟨hcalls, hrest, hpre⟩ := hP
  obtain ⟨-, -, -, hnamed, -, -, -, hat⟩ := (Spec.applies_iff hf).mp happ
  obtain ⟨hg, hn⟩ := and_e (Cond.before_iff.mp (show (Jvm.Cond.and given_1 narrow_1).before args s = true from hpre))
  obtain ⟨g2, g3⟩ := and_e hg
  obtain ⟨g4, g5⟩ := and_e g3
  obtain ⟨g6, g7⟩ := and_e g5
  obtain ⟨g8, g9⟩ := and_e g7
  obtain ⟨w0, w1, w2, w3, rfl⟩ : ∃ w0 w1 w2 w3 : Value, args = #[w0, w1, w2, w3] := by
    have hs : args.size = 4 := by simpa [Cond.value, given_1] using g2
    obtain ⟨L⟩ := args
    match L, hs with
    | [w0, w1, w2, w3], _ => exact ⟨w0, w1, w2, w3, rfl⟩
  have hw := fun d (hd : d ∈ tables_1) => atoms_spec (ws := Jvm.Cond.code x code maxLocals ret :: tables_1) hat d (List.mem_cons_of_mem _ hd)
  have hfit : Fit s := fun {y c} hc i hi => by
    obtain ⟨ha, rfl⟩ := Array.getElem?_eq_some_iff.mp hc
    have q := List.all_eq_true.mp ((Array.all_eq_true_iff_forall_mem.mp hF) _ (Array.getElem_mem ha)) i (List.mem_range.mpr hi)
    simpa [Array.getElem?_eq_getElem hi] using q
  obtain ⟨hsets, hown0⟩ := atoms_of _ (rest_1_c_eq ▸ (show rest_1_c.before _ s = true from hrest))
  obtain ⟨i0, ei0⟩ := is_v g4
  obtain rfl : w0 = (.int i0) := Option.some.inj ei0
  obtain ⟨i1, ei1⟩ := is_v g6
  obtain rfl : w1 = (.int i1) := Option.some.inj ei1
  obtain ⟨i2, ei2⟩ := is_v g8
  obtain rfl : w2 = (.int i2) := Option.some.inj ei2
  obtain ⟨i3, ei3⟩ := is_v g9
  obtain rfl : w3 = (.int i3) := Option.some.inj ei3
  obtain ⟨cs, ecs⟩ := is_v (Cond.before_iff.mp (hsets _ (List.mem_of_getElem? (i := 1) rfl)))
  have S_CS := Sta.start ecs (Or.inl (hsets _ (List.mem_of_getElem? (i := 0) rfl)))
  have hcs : ¬ cs = 0 := own_ne0 ecs (Cond.before_iff.mp (hsets _ (List.mem_of_getElem? (i := 2) rfl)))
  obtain ⟨fm, efm, hfm⟩ := isR_v (Cond.before_iff.mp (hsets _ (List.mem_of_getElem? (i := 8) rfl)))
  have S_FM := Sta.start efm (Or.inl (hsets _ (List.mem_of_getElem? (i := 7) rfl)))
  have S__assertionsDisabled := Sta.start (own_eqint (Cond.before_iff.mp (hsets _ (List.mem_of_getElem? (i := 12) rfl)))) (Or.inl (hsets _ (List.mem_of_getElem? (i := 11) rfl)))
  have S_HI_BYTE_SHIFT := Sta.start (own_eqint (Cond.before_iff.mp (hsets _ (List.mem_of_getElem? (i := 15) rfl)))) (Or.inl (hsets _ (List.mem_of_getElem? (i := 14) rfl)))
  have S_LO_BYTE_SHIFT := Sta.start (own_eqint (Cond.before_iff.mp (hsets _ (List.mem_of_getElem? (i := 18) rfl)))) (Or.inl (hsets _ (List.mem_of_getElem? (i := 17) rfl)))
  obtain ⟨n, o, h1, h2, h3, _, L, rfl, ⟨rfl, N⟩, -, hq⟩ := rm0 l s _ hw tables_1 i0 i1 i2 i3 cs hcs fm hfm s.heap s.heap.size (Old.start s) (own_hEL hw) S_CS S_FM S__assertionsDisabled S_HI_BYTE_SHIFT S_LO_BYTE_SHIFT p e ha hc hk s m _ below hf ((Spec.applies_iff_loose hf).mp happ).1 ⟨rfl, State.Warmed39.refl s, rfl, (CHv.start (own_hEL hw) (fun p hp => own_held hcalls.1 p hp) (hsets _ (List.mem_of_getElem? (i := 2) rfl)) (ow23 hw) (ow6 hw)), all0⟩ trivial
  refine ⟨n, _, h1, h2, h3, hpost _ _ _ _ _ _ ⟨Cond.after_iff.mpr rfl, Cond.after_iff.mpr (eq_i res_at (Term.int_eval (1)) rfl), trivial⟩ ⟨hq.1, hq.2.1, hq.2.2.1, (hq.2.2.2.sift fun y hy => Or.inr (N y hy)).mono (by decide) (by decide)⟩⟩
theorem main_1_1 : Claimed_1_1 := comes_1 fun _ _ _ _ _ _ h hF => ⟨h.1, hF⟩
theorem main_1_2 : Claimed_1_2 := comes_1 fun _ _ _ _ _ _ h hF => ⟨h.2.1, hF⟩
end Jvm.Pilot.@@N@@
namespace Jvm.Pilot.@@N@@
open Jvm Jvm.ClassFile Sem Op Lib Jvm.Free Jvm.Stand Jvm.Pilot.@@N@@.Jvm.D
/-! MADE BY PROGRAM (witnessworld.py) out of the Statement's table words and the real class files: 21 classes; the members and pool entries that the words name. The judged class is class 1, her method 7. -/
namespace start1
open Jvm.ClassFile
def u (s : String) : CpInfo := .utf8 (stringToUtf16 s)
/-- a pool by its gaps: so many unusable entries, then the entry; so many at the end -/
def gap : Nat → List CpInfo → List CpInfo
  | 0, r => r
  | n + 1, r => .unusable :: gap n r
def poolList (es : List (Nat × CpInfo)) (last : Nat) : List CpInfo := es.foldr (fun e r => gap e.1 (e.2 :: r)) (gap last [])
def pool (es : List (Nat × CpInfo)) (last : Nat) : Array CpInfo := ⟨poolList es last⟩
def fileOf (pool : Array CpInfo) (this : Nat) (attrs : Array Attribute := #[]) (ms : Array MethodInfo := #[]) (fl : Nat := 33) (sup : Nat := 0) (ifs : Array Nat := #[]) (fds : Array FieldInfo := #[]) : ClassFile where
  minorVersion := 0
  majorVersion := 65
  constantPool := pool
  accessFlags := fl
  thisClass := this
  superClass := sup
  interfaces := ifs
  fields := fds
  methods := ms
  attributes := attrs
def plain (name : String) (sup : Option ClassId) : Class where
  name := name
  kind := .ordinary
  loader := none
  accessFlags := 33
  super := sup
  interfaces := #[]
  cf := none
  fields := #[]
  methods := #[]
  instanceTypes := #[]
  staticTypes := #[]
  resolved := #[]
  callSites := []
  init := .initialized
  statics := none
  mirror := none

def pool0 : Array CpInfo := pool [(5, u "<init>"), (0, u "()V"), (1, .class_ 10), (1, u "java/lang/Object")] 113

def k0c0 : Code := { maxStack := 0, maxLocals := 1, code := object_method_1_code, exceptionTable := #[], attributes := #[] }
def k0m0 : Method := { name := "<init>", desc := "()V", sig := { parameters := [], returnType := none }, accessFlags := 1, code := some k0c0 }
/-- java/lang/Object -/
def k0 : Class := { plain "java/lang/Object" none with
  accessFlags := 33
  interfaces := #[]
  cf := some (fileOf pool0 8 #[] #[{ accessFlags := 1, nameIndex := 5, descriptorIndex := 6, attributes := #[] }] 33 0 #[] #[])
  fields := #[]
  methods := #[k0m0]
  instanceTypes := #[]
  staticTypes := #[]
  resolved := Array.replicate 124 none
  statics := none }

def pool1 : Array CpInfo := pool [(2, .class_ 4), (1, u "java/lang/Object"), (0, u "<init>"), (0, u "()V"), (0, .integer 55296), (0, .integer 65520), (0, .integer 57344), (0, .integer 65533), (0, .integer 56319), (0, .integer 56320), (0, .integer 57343), (0, .methodref 15 16), (0, .class_ 17), (0, .nameAndType 18 19), (0, u "com/example/neith/neith/io/XmlOutputForbiddenCharacterPinLaw"), (0, u "pair"), (0, u "([CII)Z"), (0, .methodref 15 21), (0, .nameAndType 22 23), (0, u "okBmp"), (0, u "(C)Z"), (0, .methodref 15 25), (0, .nameAndType 26 27), (0, u "bad"), (0, u "([CII)I"), (0, .methodref 15 29), (0, .nameAndType 30 27), (0, u "next"), (0, .methodref 15 32), (0, .nameAndType 33 34), (0, u "draw"), (0, u "(I)C"), (0, .class_ 36), (0, u "java/lang/String"), (0, .methodref 35 38), (0, .nameAndType 5 39), (0, u "([C)V"), (0, .methodref 41 42), (0, .class_ 43), (0, .nameAndType 44 45), (0, u "com/example/neith/neith/io/XmlOutput"), (0, u "forbiddenCharacter"), (0, u "(Ljava/lang/String;)I"), (0, .methodref 15 47), (0, .nameAndType 48 49), (0, u "ref"), (0, u "([CI)I"), (3, u "law"), (0, u "(IIII)Z")] 4

def k1m0 : Method := { name := "<init>", desc := "()V", sig := { parameters := [], returnType := none }, accessFlags := 1, code := none }
def k1c1 : Code := { maxStack := 3, maxLocals := 2, code := method_2_code, exceptionTable := #[], attributes := #[] }
def k1m1 : Method := { name := "draw", desc := "(I)C", sig := { parameters := [.int], returnType := some .char }, accessFlags := 10, code := some k1c1 }
def k1c2 : Code := { maxStack := 2, maxLocals := 1, code := method_3_code, exceptionTable := #[], attributes := #[] }
def k1m2 : Method := { name := "okBmp", desc := "(C)Z", sig := { parameters := [.char], returnType := some .boolean }, accessFlags := 10, code := some k1c2 }
def k1c3 : Code := { maxStack := 3, maxLocals := 3, code := method_4_code, exceptionTable := #[], attributes := #[] }
def k1m3 : Method := { name := "pair", desc := "([CII)Z", sig := { parameters := [(.array .char), .int, .int], returnType := some .boolean }, accessFlags := 10, code := some k1c3 }
def k1c4 : Code := { maxStack := 3, maxLocals := 3, code := method_5_code, exceptionTable := #[], attributes := #[] }
def k1m4 : Method := { name := "bad", desc := "([CII)I", sig := { parameters := [(.array .char), .int, .int], returnType := some .int }, accessFlags := 10, code := some k1c4 }
def k1c5 : Code := { maxStack := 3, maxLocals := 3, code := method_6_code, exceptionTable := #[], attributes := #[] }
def k1m5 : Method := { name := "next", desc := "([CII)I", sig := { parameters := [(.array .char), .int, .int], returnType := some .int }, accessFlags := 10, code := some k1c5 }
def k1c6 : Code := { maxStack := 3, maxLocals := 4, code := method_7_code, exceptionTable := #[], attributes := #[] }
def k1m6 : Method := { name := "ref", desc := "([CI)I", sig := { parameters := [(.array .char), .int], returnType := some .int }, accessFlags := 10, code := some k1c6 }
def k1c7 : Code := { maxStack := 4, maxLocals := 8, code := code, exceptionTable := #[], attributes := #[] }
def k1m7 : Method := { name := "law", desc := "(IIII)Z", sig := { parameters := [.int, .int, .int, .int], returnType := some .boolean }, accessFlags := 9, code := some k1c7 }
/-- com/example/neith/neith/io/XmlOutputForbiddenCharacterPinLaw -/
def k1 : Class := { plain "com/example/neith/neith/io/XmlOutputForbiddenCharacterPinLaw" (some 0) with
  accessFlags := 49
  interfaces := #[]
  cf := some (fileOf pool1 15 #[] #[{ accessFlags := 1, nameIndex := 5, descriptorIndex := 6, attributes := #[] }, { accessFlags := 10, nameIndex := 33, descriptorIndex := 34, attributes := #[] }, { accessFlags := 10, nameIndex := 22, descriptorIndex := 23, attributes := #[] }, { accessFlags := 10, nameIndex := 18, descriptorIndex := 19, attributes := #[] }, { accessFlags := 10, nameIndex := 26, descriptorIndex := 27, attributes := #[] }, { accessFlags := 10, nameIndex := 30, descriptorIndex := 27, attributes := #[] }, { accessFlags := 10, nameIndex := 48, descriptorIndex := 49, attributes := #[] }, { accessFlags := 9, nameIndex := 53, descriptorIndex := 54, attributes := #[] }] 49 2 #[] #[])
  fields := #[]
  methods := #[k1m0, k1m1, k1m2, k1m3, k1m4, k1m5, k1m6, k1m7]
  instanceTypes := #[]
  staticTypes := #[]
  resolved := Array.replicate 59 none
  statics := none }

def pool2 : Array CpInfo := pool [(1, .class_ 2), (0, u "java/io/Serializable"), (0, .class_ 4), (0, u "java/lang/Object")] 2

/-- java/io/Serializable -/
def k2 : Class := { plain "java/io/Serializable" (some 0) with
  accessFlags := 1537
  interfaces := #[]
  cf := some (fileOf pool2 1 #[] #[] 1537 3 #[] #[])
  fields := #[]
  methods := #[]
  instanceTypes := #[]
  staticTypes := #[]
  resolved := Array.replicate 7 none
  statics := none }

def pool3 : Array CpInfo := pool [(1, .class_ 2), (0, u "java/lang/Comparable"), (0, .class_ 4), (0, u "java/lang/Object")] 7

/-- java/lang/Comparable -/
def k3 : Class := { plain "java/lang/Comparable" (some 0) with
  accessFlags := 1537
  interfaces := #[]
  cf := some (fileOf pool3 1 #[] #[] 1537 3 #[] #[])
  fields := #[]
  methods := #[]
  instanceTypes := #[]
  staticTypes := #[]
  resolved := Array.replicate 12 none
  statics := none }

def pool4 : Array CpInfo := pool [(2, .class_ 4), (1, u "java/lang/CharSequence"), (42, .class_ 48), (0, u "java/lang/CharSequence$1CodePointIterator"), (10, .class_ 60), (0, u "java/lang/CharSequence$1CharIterator"), (5, .class_ 67), (0, u "java/lang/Object")] 63

/-- java/lang/CharSequence -/
def k4 : Class := { plain "java/lang/CharSequence" (some 0) with
  accessFlags := 1537
  interfaces := #[]
  cf := some (fileOf pool4 2 #[.nestMembers #[47, 59]] #[] 1537 66 #[] #[])
  fields := #[]
  methods := #[]
  instanceTypes := #[]
  staticTypes := #[]
  resolved := Array.replicate 131 none
  statics := none }

def pool5 : Array CpInfo := pool [(1, .class_ 2), (0, u "java/lang/constant/Constable"), (0, .class_ 4), (0, u "java/lang/Object")] 6

/-- java/lang/constant/Constable -/
def k5 : Class := { plain "java/lang/constant/Constable" (some 0) with
  accessFlags := 1537
  interfaces := #[]
  cf := some (fileOf pool5 1 #[] #[] 1537 3 #[] #[])
  fields := #[]
  methods := #[]
  instanceTypes := #[]
  staticTypes := #[]
  resolved := Array.replicate 11 none
  statics := none }

def pool6 : Array CpInfo := pool [(1, .class_ 2), (0, u "java/lang/constant/ConstantDesc"), (0, .class_ 4), (0, u "java/lang/Object")] 32

/-- java/lang/constant/ConstantDesc -/
def k6 : Class := { plain "java/lang/constant/ConstantDesc" (some 0) with
  accessFlags := 1537
  interfaces := #[]
  cf := some (fileOf pool6 1 #[] #[] 1537 3 #[] #[])
  fields := #[]
  methods := #[]
  instanceTypes := #[]
  staticTypes := #[]
  resolved := Array.replicate 37 none
  statics := none }

def pool7 : Array CpInfo := pool [(1, .methodref 2 3), (0, .class_ 4), (0, .nameAndType 5 6), (0, u "java/lang/Object"), (0, u "<init>"), (0, u "()V"), (0, .string 8), (0, u ""), (0, .fieldref 10 11), (0, .class_ 12), (0, .nameAndType 13 14), (0, u "java/lang/String"), (0, u "value"), (0, u "[B"), (0, .fieldref 10 16), (0, .nameAndType 17 18), (0, u "coder"), (0, u "B"), (2, u "hash"), (0, u "I"), (2, u "hashIsZero"), (0, u "Z"), (0, .methodref 10 28), (0, .nameAndType 5 29), (0, u "([CIILjava/lang/Void;)V"), (8, .fieldref 10 39), (0, .nameAndType 40 26), (0, u "COMPACT_STRINGS"), (1, .class_ 44), (1, u "java/lang/StringUTF16"), (0, u "compress"), (1, .methodref 42 48), (0, .nameAndType 49 50), (0, u "coderFromArrayLen"), (0, u "([BI)B"), (46, u "([BII)I"), (9, .class_ 109), (1, u "java/lang/StringLatin1"), (32, u "()Z"), (34, .methodref 42 178), (0, .nameAndType 45 179), (0, u "([CII)[B"), (154, u "()I"), (0, .methodref 10 336), (0, .nameAndType 17 337), (0, u "()B"), (25, u "([BI)C"), (27, u "(II)V"), (35, u "(I)C"), (64, .methodref 10 493), (0, .nameAndType 494 142), (0, u "isLatin1"), (0, .methodref 107 496), (0, .nameAndType 497 363), (0, u "charAt"), (0, .methodref 42 496), (0, .methodref 10 500), (0, .nameAndType 501 391), (0, u "checkIndex"), (0, .methodref 42 503), (0, .nameAndType 504 97), (0, u "codePointAt"), (2, u "length"), (67, .class_ 576), (0, u "java/lang/CharSequence"), (22, u "CASE_INSENSITIVE_ORDER"), (0, u "Ljava/util/Comparator;"), (164, u "(I)I"), (244, u "([C)V"), (42, .fieldref 1054 1055), (0, .class_ 1056), (0, .nameAndType 1057 1058), (0, u "jdk/internal/util/Preconditions"), (0, u "SIOOBE_FORMATTER"), (0, u "Ljava/util/function/BiFunction;"), (0, .methodref 1054 1060), (0, .nameAndType 501 1061), (0, u "(IILjava/util/function/BiFunction;)I"), (39, u "serialPersistentFields"), (0, u "[Ljava/io/ObjectStreamField;"), (0, .class_ 1104), (0, u "java/lang/String$CaseInsensitiveComparator"), (1, .class_ 1107), (0, u "java/io/Serializable"), (0, .class_ 1109), (0, u "java/lang/Comparable"), (0, .class_ 1111), (0, u "java/lang/constant/Constable"), (0, .class_ 1113), (0, u "java/lang/constant/ConstantDesc"), (2, u "serialVersionUID"), (0, u "J"), (3, u "REPL"), (0, u "C"), (2, u "LATIN1"), (1, u "UTF16")] 323

def k7m0 : Method := { name := "<init>", desc := "()V", sig := { parameters := [], returnType := none }, accessFlags := 1, code := none }
def k7c1 : Code := { maxStack := 5, maxLocals := 2, code := jdk_42_method_3_code, exceptionTable := #[], attributes := #[] }
def k7m1 : Method := { name := "<init>", desc := "([C)V", sig := { parameters := [(.array .char)], returnType := none }, accessFlags := 1, code := some k7c1 }
def k7c2 : Code := { maxStack := 2, maxLocals := 1, code := jdk_42_method_54_code, exceptionTable := #[], attributes := #[] }
def k7m2 : Method := { name := "length", desc := "()I", sig := { parameters := [], returnType := some .int }, accessFlags := 1, code := some k7c2 }
def k7c3 : Code := { maxStack := 2, maxLocals := 2, code := jdk_42_method_56_code, exceptionTable := #[], attributes := #[] }
def k7m3 : Method := { name := "charAt", desc := "(I)C", sig := { parameters := [.int], returnType := some .char }, accessFlags := 1, code := some k7c3 }
def k7c4 : Code := { maxStack := 3, maxLocals := 3, code := jdk_42_method_57_code, exceptionTable := #[], attributes := #[] }
def k7m4 : Method := { name := "codePointAt", desc := "(I)I", sig := { parameters := [.int], returnType := some .int }, accessFlags := 1, code := some k7c4 }
def k7c5 : Code := { maxStack := 4, maxLocals := 6, code := jdk_42_method_149_code, exceptionTable := #[], attributes := #[] }
def k7m5 : Method := { name := "<init>", desc := "([CIILjava/lang/Void;)V", sig := { parameters := [(.array .char), .int, .int, (.object "java/lang/Void")], returnType := none }, accessFlags := 2, code := some k7c5 }
def k7c6 : Code := { maxStack := 1, maxLocals := 1, code := jdk_42_method_152_code, exceptionTable := #[], attributes := #[] }
def k7m6 : Method := { name := "coder", desc := "()B", sig := { parameters := [], returnType := some .byte }, accessFlags := 0, code := some k7c6 }
def k7c7 : Code := { maxStack := 1, maxLocals := 1, code := jdk_42_method_154_code, exceptionTable := #[], attributes := #[] }
def k7m7 : Method := { name := "isLatin1", desc := "()Z", sig := { parameters := [], returnType := some .boolean }, accessFlags := 0, code := some k7c7 }
def k7c8 : Code := { maxStack := 3, maxLocals := 2, code := jdk_42_method_155_code, exceptionTable := #[], attributes := #[] }
def k7m8 : Method := { name := "checkIndex", desc := "(II)V", sig := { parameters := [.int, .int], returnType := none }, accessFlags := 8, code := some k7c8 }
/-- java/lang/String -/
def k7 : Class := { plain "java/lang/String" (some 0) with
  accessFlags := 49
  interfaces := #[2, 3, 4, 5, 6]
  cf := some (fileOf pool7 10 #[.nestMembers #[1103]] #[{ accessFlags := 1, nameIndex := 5, descriptorIndex := 6, attributes := #[] }, { accessFlags := 1, nameIndex := 5, descriptorIndex := 1010, attributes := #[] }, { accessFlags := 1, nameIndex := 507, descriptorIndex := 334, attributes := #[] }, { accessFlags := 1, nameIndex := 497, descriptorIndex := 427, attributes := #[] }, { accessFlags := 1, nameIndex := 504, descriptorIndex := 765, attributes := #[] }, { accessFlags := 2, nameIndex := 5, descriptorIndex := 29, attributes := #[] }, { accessFlags := 0, nameIndex := 17, descriptorIndex := 337, attributes := #[] }, { accessFlags := 0, nameIndex := 494, descriptorIndex := 142, attributes := #[] }, { accessFlags := 8, nameIndex := 501, descriptorIndex := 391, attributes := #[] }] 49 2 #[1106, 1108, 575, 1110, 1112] #[{ accessFlags := 18, nameIndex := 13, descriptorIndex := 14, attributes := #[] }, { accessFlags := 18, nameIndex := 17, descriptorIndex := 18, attributes := #[] }, { accessFlags := 2, nameIndex := 21, descriptorIndex := 22, attributes := #[] }, { accessFlags := 2, nameIndex := 25, descriptorIndex := 26, attributes := #[] }, { accessFlags := 26, nameIndex := 1116, descriptorIndex := 1117, attributes := #[] }, { accessFlags := 24, nameIndex := 40, descriptorIndex := 26, attributes := #[] }, { accessFlags := 26, nameIndex := 1101, descriptorIndex := 1102, attributes := #[] }, { accessFlags := 26, nameIndex := 1121, descriptorIndex := 1122, attributes := #[] }, { accessFlags := 25, nameIndex := 599, descriptorIndex := 600, attributes := #[] }, { accessFlags := 24, nameIndex := 1125, descriptorIndex := 18, attributes := #[] }, { accessFlags := 24, nameIndex := 1127, descriptorIndex := 18, attributes := #[] }])
  fields := #[{ name := "value", type := (.array .byte), accessFlags := 18, slot := 0, constantValue := 0 }, { name := "coder", type := .byte, accessFlags := 18, slot := 1, constantValue := 0 }, { name := "hash", type := .int, accessFlags := 2, slot := 2, constantValue := 0 }, { name := "hashIsZero", type := .boolean, accessFlags := 2, slot := 3, constantValue := 0 }, { name := "serialVersionUID", type := .long, accessFlags := 26, slot := 0, constantValue := 0 }, { name := "COMPACT_STRINGS", type := .boolean, accessFlags := 24, slot := 1, constantValue := 0 }, { name := "serialPersistentFields", type := (.array (.object "java/io/ObjectStreamField")), accessFlags := 26, slot := 2, constantValue := 0 }, { name := "REPL", type := .char, accessFlags := 26, slot := 3, constantValue := 0 }, { name := "CASE_INSENSITIVE_ORDER", type := (.object "java/util/Comparator"), accessFlags := 25, slot := 4, constantValue := 0 }, { name := "LATIN1", type := .byte, accessFlags := 24, slot := 5, constantValue := 0 }, { name := "UTF16", type := .byte, accessFlags := 24, slot := 6, constantValue := 0 }]
  methods := #[k7m0, k7m1, k7m2, k7m3, k7m4, k7m5, k7m6, k7m7, k7m8]
  instanceTypes := #[(.array .byte), .byte, .int, .boolean]
  staticTypes := #[.long, .boolean, (.array (.object "java/io/ObjectStreamField")), .char, (.object "java/util/Comparator"), .byte, .byte]
  resolved := Array.replicate 1451 none
  statics := some 0 }

def pool8 : Array CpInfo := pool [(3, .class_ 4), (0, u "java/lang/String"), (1, .class_ 8), (1, u "java/lang/Object"), (0, u "<init>"), (0, u "()V"), (0, .methodref 12 13), (0, .class_ 14), (0, .nameAndType 15 16), (0, u "java/lang/StringUTF16"), (0, u "newBytesLength"), (0, u "(I)I"), (3, .integer 1073741823), (23, .fieldref 12 45), (0, .nameAndType 46 47), (0, u "$assertionsDisabled"), (0, u "Z"), (0, .methodref 12 49), (0, .nameAndType 50 51), (0, u "length"), (0, u "([B)I"), (7, .fieldref 12 60), (0, .nameAndType 61 62), (0, u "HI_BYTE_SHIFT"), (0, u "I"), (0, .fieldref 12 64), (0, .nameAndType 65 62), (0, u "LO_BYTE_SHIFT"), (1, .methodref 12 68), (0, .nameAndType 69 70), (0, u "checkIndex"), (0, u "(I[B)V"), (0, .methodref 12 72), (0, .nameAndType 73 74), (0, u "getChar"), (0, u "([BI)C"), (0, .methodref 76 77), (0, .class_ 78), (0, .nameAndType 79 80), (0, u "java/lang/Character"), (0, u "isHighSurrogate"), (0, u "(C)Z"), (0, .methodref 76 82), (0, .nameAndType 83 80), (0, u "isLowSurrogate"), (0, .methodref 76 85), (0, .nameAndType 86 87), (0, u "toCodePoint"), (0, u "(CC)I"), (0, .methodref 12 89), (0, .nameAndType 90 91), (0, u "codePointAt"), (0, u "([BIIZ)I"), (15, .methodref 12 108), (0, .nameAndType 109 110), (0, u "newBytesFor"), (0, u "(I)[B"), (0, .methodref 12 112), (0, .nameAndType 113 114), (0, u "putChar"), (0, u "([BII)V"), (0, .methodref 12 116), (0, .nameAndType 117 118), (0, u "compress"), (0, u "([CI[BII)I"), (0, .methodref 12 120), (0, .nameAndType 121 122), (0, u "toBytes"), (0, u "([CII)[B"), (127, u "([BII)I"), (10, u "coderFromArrayLen"), (0, u "([BI)B"), (106, .class_ 371), (1, u "java/lang/StringUTF16$LinesSpliterator"), (20, u "charAt"), (21, .methodref 3 415), (0, .nameAndType 69 416), (0, u "(II)V"), (13, u "MAX_LENGTH"), (196, .class_ 628), (0, u "java/lang/StringUTF16$CodePointsSpliterator"), (0, .class_ 630), (0, u "java/lang/StringUTF16$CharsSpliterator")] 4

def k8m0 : Method := { name := "<init>", desc := "()V", sig := { parameters := [], returnType := none }, accessFlags := 0, code := none }
def k8c1 : Code := { maxStack := 1, maxLocals := 1, code := jdk_52_method_2_code, exceptionTable := #[], attributes := #[] }
def k8m1 : Method := { name := "newBytesFor", desc := "(I)[B", sig := { parameters := [.int], returnType := some (.array .byte) }, accessFlags := 9, code := some k8c1 }
def k8c2 : Code := { maxStack := 4, maxLocals := 1, code := jdk_52_method_3_code, exceptionTable := #[], attributes := #[] }
def k8m2 : Method := { name := "newBytesLength", desc := "(I)I", sig := { parameters := [.int], returnType := some .int }, accessFlags := 9, code := some k8c2 }
def k8c3 : Code := { maxStack := 4, maxLocals := 3, code := jdk_52_method_4_code, exceptionTable := #[], attributes := #[] }
def k8m3 : Method := { name := "putChar", desc := "([BII)V", sig := { parameters := [(.array .byte), .int, .int], returnType := none }, accessFlags := 8, code := some k8c3 }
def k8c4 : Code := { maxStack := 3, maxLocals := 2, code := jdk_52_method_5_code, exceptionTable := #[], attributes := #[] }
def k8m4 : Method := { name := "getChar", desc := "([BI)C", sig := { parameters := [(.array .byte), .int], returnType := some .char }, accessFlags := 8, code := some k8c4 }
def k8c5 : Code := { maxStack := 2, maxLocals := 1, code := jdk_52_method_6_code, exceptionTable := #[], attributes := #[] }
def k8m5 : Method := { name := "length", desc := "([B)I", sig := { parameters := [(.array .byte)], returnType := some .int }, accessFlags := 9, code := some k8c5 }
def k8c6 : Code := { maxStack := 2, maxLocals := 6, code := jdk_52_method_7_code, exceptionTable := #[], attributes := #[] }
def k8m6 : Method := { name := "codePointAt", desc := "([BIIZ)I", sig := { parameters := [(.array .byte), .int, .int, .boolean], returnType := some .int }, accessFlags := 10, code := some k8c6 }
def k8c7 : Code := { maxStack := 4, maxLocals := 3, code := jdk_52_method_8_code, exceptionTable := #[], attributes := #[] }
def k8m7 : Method := { name := "codePointAt", desc := "([BII)I", sig := { parameters := [(.array .byte), .int, .int], returnType := some .int }, accessFlags := 9, code := some k8c7 }
def k8c8 : Code := { maxStack := 4, maxLocals := 5, code := jdk_52_method_14_code, exceptionTable := #[], attributes := #[] }
def k8m8 : Method := { name := "toBytes", desc := "([CII)[B", sig := { parameters := [(.array .char), .int, .int], returnType := some (.array .byte) }, accessFlags := 9, code := some k8c8 }
def k8c9 : Code := { maxStack := 2, maxLocals := 2, code := jdk_52_method_15_code, exceptionTable := #[], attributes := #[] }
def k8m9 : Method := { name := "coderFromArrayLen", desc := "([BI)B", sig := { parameters := [(.array .byte), .int], returnType := some .byte }, accessFlags := 8, code := some k8c9 }
def k8c10 : Code := { maxStack := 5, maxLocals := 6, code := jdk_52_method_16_code, exceptionTable := #[], attributes := #[] }
def k8m10 : Method := { name := "compress", desc := "([CII)[B", sig := { parameters := [(.array .char), .int, .int], returnType := some (.array .byte) }, accessFlags := 9, code := some k8c10 }
def k8c11 : Code := { maxStack := 3, maxLocals := 7, code := jdk_52_method_21_code, exceptionTable := #[], attributes := #[] }
def k8m11 : Method := { name := "compress", desc := "([CI[BII)I", sig := { parameters := [(.array .char), .int, (.array .byte), .int, .int], returnType := some .int }, accessFlags := 9, code := some k8c11 }
def k8c12 : Code := { maxStack := 2, maxLocals := 2, code := jdk_52_method_83_code, exceptionTable := #[], attributes := #[] }
def k8m12 : Method := { name := "charAt", desc := "([BI)C", sig := { parameters := [(.array .byte), .int], returnType := some .char }, accessFlags := 9, code := some k8c12 }
def k8c13 : Code := { maxStack := 2, maxLocals := 2, code := jdk_52_method_91_code, exceptionTable := #[], attributes := #[] }
def k8m13 : Method := { name := "checkIndex", desc := "(I[B)V", sig := { parameters := [.int, (.array .byte)], returnType := none }, accessFlags := 9, code := some k8c13 }
/-- java/lang/StringUTF16 -/
def k8 : Class := { plain "java/lang/StringUTF16" (some 0) with
  accessFlags := 48
  interfaces := #[]
  cf := some (fileOf pool8 12 #[.nestMembers #[627, 629, 369]] #[{ accessFlags := 0, nameIndex := 9, descriptorIndex := 10, attributes := #[] }, { accessFlags := 9, nameIndex := 109, descriptorIndex := 110, attributes := #[] }, { accessFlags := 9, nameIndex := 15, descriptorIndex := 16, attributes := #[] }, { accessFlags := 8, nameIndex := 113, descriptorIndex := 114, attributes := #[] }, { accessFlags := 8, nameIndex := 73, descriptorIndex := 74, attributes := #[] }, { accessFlags := 9, nameIndex := 50, descriptorIndex := 51, attributes := #[] }, { accessFlags := 10, nameIndex := 90, descriptorIndex := 91, attributes := #[] }, { accessFlags := 9, nameIndex := 90, descriptorIndex := 250, attributes := #[] }, { accessFlags := 9, nameIndex := 121, descriptorIndex := 122, attributes := #[] }, { accessFlags := 8, nameIndex := 261, descriptorIndex := 262, attributes := #[] }, { accessFlags := 9, nameIndex := 117, descriptorIndex := 122, attributes := #[] }, { accessFlags := 9, nameIndex := 117, descriptorIndex := 118, attributes := #[] }, { accessFlags := 9, nameIndex := 392, descriptorIndex := 74, attributes := #[] }, { accessFlags := 9, nameIndex := 69, descriptorIndex := 70, attributes := #[] }] 48 6 #[] #[{ accessFlags := 26, nameIndex := 61, descriptorIndex := 62, attributes := #[] }, { accessFlags := 26, nameIndex := 65, descriptorIndex := 62, attributes := #[] }, { accessFlags := 24, nameIndex := 430, descriptorIndex := 62, attributes := #[] }, { accessFlags := 4120, nameIndex := 46, descriptorIndex := 47, attributes := #[] }])
  fields := #[{ name := "HI_BYTE_SHIFT", type := .int, accessFlags := 26, slot := 0, constantValue := 0 }, { name := "LO_BYTE_SHIFT", type := .int, accessFlags := 26, slot := 1, constantValue := 0 }, { name := "MAX_LENGTH", type := .int, accessFlags := 24, slot := 2, constantValue := 0 }, { name := "$assertionsDisabled", type := .boolean, accessFlags := 4120, slot := 3, constantValue := 0 }]
  methods := #[k8m0, k8m1, k8m2, k8m3, k8m4, k8m5, k8m6, k8m7, k8m8, k8m9, k8m10, k8m11, k8m12, k8m13]
  instanceTypes := #[]
  staticTypes := #[.int, .int, .int, .boolean]
  resolved := Array.replicate 635 none
  statics := some 1 }

def pool9 : Array CpInfo := pool [(2, .class_ 4), (1, u "com/example/neith/neith/io/XmlOutput"), (3, .class_ 10), (1, u "java/lang/Object"), (4, u "buffer"), (0, u "[C"), (5, u "open"), (0, u "Ljava/util/Deque;"), (2, u "out"), (0, u "Ljava/io/Writer;"), (2, u "declaresXsi"), (0, u "Z"), (0, .methodref 33 34), (0, .class_ 35), (0, .nameAndType 36 37), (0, u "java/lang/String"), (0, u "length"), (0, u "()I"), (0, .methodref 33 39), (0, .nameAndType 40 41), (0, u "charAt"), (0, u "(I)C"), (0, .class_ 43), (0, u "java/lang/Character"), (0, .integer 55296), (0, .methodref 33 46), (0, .nameAndType 47 48), (0, u "codePointAt"), (0, u "(I)I"), (0, .methodref 2 50), (0, .nameAndType 51 52), (0, u "isXmlChar"), (0, u "(I)Z"), (0, .methodref 42 54), (0, .nameAndType 55 48), (0, u "charCount"), (22, u "inStartTag"), (22, u "ATTRIBUTE_REFERENCES"), (0, u "[[C"), (8, u "buffered"), (0, u "I"), (3, u "TEXT_REFERENCES"), (32, u "LONGEST_REFERENCE"), (5, u "PIECE"), (57, u "forbiddenCharacter"), (0, u "(Ljava/lang/String;)I"), (13, .integer 55295), (0, .integer 57344), (0, .integer 65533), (0, .integer 65536), (0, .integer 1114111), (46, u "BUFFER"), (1, u "XSI_NAMESPACE"), (0, u "Ljava/lang/String;")] 66

def k9c0 : Code := { maxStack := 2, maxLocals := 5, code := prog_18_method_3_code, exceptionTable := #[], attributes := #[] }
def k9m0 : Method := { name := "forbiddenCharacter", desc := "(Ljava/lang/String;)I", sig := { parameters := [(.object "java/lang/String")], returnType := some .int }, accessFlags := 9, code := some k9c0 }
def k9c1 : Code := { maxStack := 2, maxLocals := 1, code := prog_18_method_22_code, exceptionTable := #[], attributes := #[] }
def k9m1 : Method := { name := "isXmlChar", desc := "(I)Z", sig := { parameters := [.int], returnType := some .boolean }, accessFlags := 10, code := some k9c1 }
/-- com/example/neith/neith/io/XmlOutput -/
def k9 : Class := { plain "com/example/neith/neith/io/XmlOutput" (some 0) with
  accessFlags := 33
  interfaces := #[]
  cf := some (fileOf pool9 2 #[] #[{ accessFlags := 9, nameIndex := 213, descriptorIndex := 214, attributes := #[] }, { accessFlags := 10, nameIndex := 51, descriptorIndex := 52, attributes := #[] }] 33 8 #[] #[{ accessFlags := 26, nameIndex := 101, descriptorIndex := 102, attributes := #[] }, { accessFlags := 26, nameIndex := 116, descriptorIndex := 102, attributes := #[] }, { accessFlags := 26, nameIndex := 149, descriptorIndex := 112, attributes := #[] }, { accessFlags := 26, nameIndex := 279, descriptorIndex := 112, attributes := #[] }, { accessFlags := 26, nameIndex := 155, descriptorIndex := 112, attributes := #[] }, { accessFlags := 26, nameIndex := 281, descriptorIndex := 282, attributes := #[] }, { accessFlags := 18, nameIndex := 26, descriptorIndex := 27, attributes := #[] }, { accessFlags := 18, nameIndex := 30, descriptorIndex := 31, attributes := #[] }, { accessFlags := 18, nameIndex := 15, descriptorIndex := 16, attributes := #[] }, { accessFlags := 2, nameIndex := 111, descriptorIndex := 112, attributes := #[] }, { accessFlags := 18, nameIndex := 22, descriptorIndex := 23, attributes := #[] }, { accessFlags := 2, nameIndex := 78, descriptorIndex := 31, attributes := #[] }])
  fields := #[{ name := "ATTRIBUTE_REFERENCES", type := (.array (.array .char)), accessFlags := 26, slot := 0, constantValue := 0 }, { name := "TEXT_REFERENCES", type := (.array (.array .char)), accessFlags := 26, slot := 1, constantValue := 0 }, { name := "LONGEST_REFERENCE", type := .int, accessFlags := 26, slot := 2, constantValue := 0 }, { name := "BUFFER", type := .int, accessFlags := 26, slot := 3, constantValue := 0 }, { name := "PIECE", type := .int, accessFlags := 26, slot := 4, constantValue := 0 }, { name := "XSI_NAMESPACE", type := (.object "java/lang/String"), accessFlags := 26, slot := 5, constantValue := 0 }, { name := "out", type := (.object "java/io/Writer"), accessFlags := 18, slot := 0, constantValue := 0 }, { name := "declaresXsi", type := .boolean, accessFlags := 18, slot := 1, constantValue := 0 }, { name := "buffer", type := (.array .char), accessFlags := 18, slot := 2, constantValue := 0 }, { name := "buffered", type := .int, accessFlags := 2, slot := 3, constantValue := 0 }, { name := "open", type := (.object "java/util/Deque"), accessFlags := 18, slot := 4, constantValue := 0 }, { name := "inStartTag", type := .boolean, accessFlags := 2, slot := 5, constantValue := 0 }]
  methods := #[k9m0, k9m1]
  instanceTypes := #[(.object "java/io/Writer"), .boolean, (.array .char), .int, (.object "java/util/Deque"), .boolean]
  staticTypes := #[(.array (.array .char)), (.array (.array .char)), .int, .int, .int, (.object "java/lang/String")]
  resolved := Array.replicate 349 none
  statics := none }

def pool10 : Array CpInfo := pool [(1, .class_ 2), (0, u "java/lang/String"), (1, .class_ 6), (1, u "java/lang/Object"), (0, u "<init>"), (0, u "()V"), (0, .methodref 1 10), (0, .nameAndType 11 12), (0, u "checkIndex"), (0, u "(II)V"), (1, .class_ 16), (1, u "java/lang/StringLatin1"), (36, u "([BI)C"), (67, u "$assertionsDisabled"), (0, u "Z"), (98, .class_ 223), (1, u "java/lang/StringLatin1$LinesSpliterator"), (28, u "charAt"), (137, .class_ 391), (0, u "java/lang/StringLatin1$CharsSpliterator")] 3

def k10m0 : Method := { name := "<init>", desc := "()V", sig := { parameters := [], returnType := none }, accessFlags := 0, code := none }
def k10c1 : Code := { maxStack := 2, maxLocals := 2, code := jdk_43_method_2_code, exceptionTable := #[], attributes := #[] }
def k10m1 : Method := { name := "charAt", desc := "([BI)C", sig := { parameters := [(.array .byte), .int], returnType := some .char }, accessFlags := 9, code := some k10c1 }
/-- java/lang/StringLatin1 -/
def k10 : Class := { plain "java/lang/StringLatin1" (some 0) with
  accessFlags := 48
  interfaces := #[]
  cf := some (fileOf pool10 14 #[.nestMembers #[390, 221]] #[{ accessFlags := 0, nameIndex := 7, descriptorIndex := 8, attributes := #[] }, { accessFlags := 9, nameIndex := 252, descriptorIndex := 53, attributes := #[] }] 48 4 #[] #[{ accessFlags := 4120, nameIndex := 121, descriptorIndex := 122, attributes := #[] }])
  fields := #[{ name := "$assertionsDisabled", type := .boolean, accessFlags := 4120, slot := 0, constantValue := 0 }]
  methods := #[k10m0, k10m1]
  instanceTypes := #[]
  staticTypes := #[.boolean]
  resolved := Array.replicate 395 none
  statics := none }

def pool11 : Array CpInfo := pool [(2, .class_ 4), (1, u "java/lang/Object"), (0, u "<init>"), (0, u "()V"), (17, .class_ 26), (1, u "jdk/internal/util/Preconditions"), (6, u "checkIndex"), (21, .class_ 56), (0, u "jdk/internal/util/Preconditions$4"), (57, .class_ 115), (0, u "jdk/internal/util/Preconditions$1"), (7, u "SIOOBE_FORMATTER"), (0, u "Ljava/util/function/BiFunction;"), (0, .class_ 126), (0, u "jdk/internal/util/Preconditions$2"), (3, u "AIOOBE_FORMATTER"), (0, .class_ 132), (0, u "jdk/internal/util/Preconditions$3"), (3, u "IOOBE_FORMATTER"), (41, u "(IILjava/util/function/BiFunction;)I")] 15

def k11m0 : Method := { name := "<init>", desc := "()V", sig := { parameters := [], returnType := none }, accessFlags := 1, code := none }
def k11c1 : Code := { maxStack := 3, maxLocals := 3, code := jdk_41_method_11_code, exceptionTable := #[], attributes := #[] }
def k11m1 : Method := { name := "checkIndex", desc := "(IILjava/util/function/BiFunction;)I", sig := { parameters := [.int, .int, (.object "java/util/function/BiFunction")], returnType := some .int }, accessFlags := 9, code := some k11c1 }
/-- jdk/internal/util/Preconditions -/
def k11 : Class := { plain "jdk/internal/util/Preconditions" (some 0) with
  accessFlags := 33
  interfaces := #[]
  cf := some (fileOf pool11 24 #[.nestMembers #[55, 131, 125, 114]] #[{ accessFlags := 1, nameIndex := 5, descriptorIndex := 6, attributes := #[] }, { accessFlags := 9, nameIndex := 33, descriptorIndex := 178, attributes := #[] }] 33 2 #[] #[{ accessFlags := 25, nameIndex := 123, descriptorIndex := 124, attributes := #[] }, { accessFlags := 25, nameIndex := 130, descriptorIndex := 124, attributes := #[] }, { accessFlags := 25, nameIndex := 136, descriptorIndex := 124, attributes := #[] }])
  fields := #[{ name := "SIOOBE_FORMATTER", type := (.object "java/util/function/BiFunction"), accessFlags := 25, slot := 0, constantValue := 0 }, { name := "AIOOBE_FORMATTER", type := (.object "java/util/function/BiFunction"), accessFlags := 25, slot := 1, constantValue := 0 }, { name := "IOOBE_FORMATTER", type := (.object "java/util/function/BiFunction"), accessFlags := 25, slot := 2, constantValue := 0 }]
  methods := #[k11m0, k11m1]
  instanceTypes := #[]
  staticTypes := #[(.object "java/util/function/BiFunction"), (.object "java/util/function/BiFunction"), (.object "java/util/function/BiFunction")]
  resolved := Array.replicate 194 none
  statics := some 2 }

def pool12 : Array CpInfo := pool [(1, .class_ 2), (0, u "java/lang/Character"), (18, u "value"), (0, u "C"), (19, .class_ 44), (1, u "java/lang/Object"), (3, .class_ 50), (1, u "java/lang/Character$CharacterCache"), (22, .integer 65536), (1, .integer 55296), (0, .integer 56320), (0, .integer 57344), (2, u "isHighSurrogate"), (0, u "(C)Z"), (2, u "isLowSurrogate"), (0, .integer 4238353408), (12, u "toCodePoint"), (0, u "(CC)I"), (74, u "(I)I"), (109, u "$assertionsDisabled"), (0, u "Z"), (21, .class_ 309), (1, u "java/lang/Character$UnicodeBlock"), (73, u "TYPE"), (0, u "Ljava/lang/Class;"), (0, .class_ 386), (0, u "java/io/Serializable"), (0, .class_ 388), (0, u "java/lang/Comparable"), (0, .class_ 390), (0, u "java/lang/constant/Constable"), (0, u "MIN_RADIX"), (0, u "I"), (2, u "MAX_RADIX"), (1, u "MIN_VALUE"), (1, u "MAX_VALUE"), (3, u "UNASSIGNED"), (0, u "B"), (0, u "UPPERCASE_LETTER"), (1, u "LOWERCASE_LETTER"), (0, u "TITLECASE_LETTER"), (1, u "MODIFIER_LETTER"), (1, u "OTHER_LETTER"), (1, u "NON_SPACING_MARK"), (1, u "ENCLOSING_MARK"), (1, u "COMBINING_SPACING_MARK"), (1, u "DECIMAL_DIGIT_NUMBER"), (1, u "LETTER_NUMBER"), (1, u "OTHER_NUMBER"), (1, u "SPACE_SEPARATOR"), (1, u "LINE_SEPARATOR"), (1, u "PARAGRAPH_SEPARATOR"), (1, u "CONTROL"), (1, u "FORMAT"), (1, u "PRIVATE_USE"), (1, u "SURROGATE"), (1, u "DASH_PUNCTUATION"), (1, u "START_PUNCTUATION"), (1, u "END_PUNCTUATION"), (1, u "CONNECTOR_PUNCTUATION"), (1, u "OTHER_PUNCTUATION"), (1, u "MATH_SYMBOL"), (1, u "CURRENCY_SYMBOL"), (1, u "MODIFIER_SYMBOL"), (1, u "OTHER_SYMBOL"), (1, u "INITIAL_QUOTE_PUNCTUATION"), (1, u "FINAL_QUOTE_PUNCTUATION"), (1, u "ERROR"), (1, u "DIRECTIONALITY_UNDEFINED"), (0, u "DIRECTIONALITY_LEFT_TO_RIGHT"), (0, u "DIRECTIONALITY_RIGHT_TO_LEFT"), (0, u "DIRECTIONALITY_RIGHT_TO_LEFT_ARABIC"), (0, u "DIRECTIONALITY_EUROPEAN_NUMBER"), (0, u "DIRECTIONALITY_EUROPEAN_NUMBER_SEPARATOR"), (0, u "DIRECTIONALITY_EUROPEAN_NUMBER_TERMINATOR"), (0, u "DIRECTIONALITY_ARABIC_NUMBER"), (0, u "DIRECTIONALITY_COMMON_NUMBER_SEPARATOR"), (0, u "DIRECTIONALITY_NONSPACING_MARK"), (0, u "DIRECTIONALITY_BOUNDARY_NEUTRAL"), (0, u "DIRECTIONALITY_PARAGRAPH_SEPARATOR"), (0, u "DIRECTIONALITY_SEGMENT_SEPARATOR"), (0, u "DIRECTIONALITY_WHITESPACE"), (0, u "DIRECTIONALITY_OTHER_NEUTRALS"), (0, u "DIRECTIONALITY_LEFT_TO_RIGHT_EMBEDDING"), (0, u "DIRECTIONALITY_LEFT_TO_RIGHT_OVERRIDE"), (0, u "DIRECTIONALITY_RIGHT_TO_LEFT_EMBEDDING"), (0, u "DIRECTIONALITY_RIGHT_TO_LEFT_OVERRIDE"), (1, u "DIRECTIONALITY_POP_DIRECTIONAL_FORMAT"), (0, u "DIRECTIONALITY_LEFT_TO_RIGHT_ISOLATE"), (0, u "DIRECTIONALITY_RIGHT_TO_LEFT_ISOLATE"), (0, u "DIRECTIONALITY_FIRST_STRONG_ISOLATE"), (0, u "DIRECTIONALITY_POP_DIRECTIONAL_ISOLATE"), (0, u "MIN_HIGH_SURROGATE"), (0, u "MAX_HIGH_SURROGATE"), (1, u "MIN_LOW_SURROGATE"), (0, u "MAX_LOW_SURROGATE"), (1, u "MIN_SURROGATE"), (0, u "MAX_SURROGATE"), (0, u "MIN_SUPPLEMENTARY_CODE_POINT"), (0, u "MIN_CODE_POINT"), (0, u "MAX_CODE_POINT"), (1, u "serialVersionUID"), (0, u "J"), (2, u "SIZE"), (0, u "BYTES"), (29, u "charCount"), (58, .class_ 596), (0, u "java/lang/Character$UnicodeScript"), (0, .class_ 598), (0, u "java/lang/Character$Subset")] 5

def k12c0 : Code := { maxStack := 2, maxLocals := 1, code := jdk_89_method_14_code, exceptionTable := #[], attributes := #[] }
def k12m0 : Method := { name := "isHighSurrogate", desc := "(C)Z", sig := { parameters := [.char], returnType := some .boolean }, accessFlags := 9, code := some k12c0 }
def k12c1 : Code := { maxStack := 2, maxLocals := 1, code := jdk_89_method_15_code, exceptionTable := #[], attributes := #[] }
def k12m1 : Method := { name := "isLowSurrogate", desc := "(C)Z", sig := { parameters := [.char], returnType := some .boolean }, accessFlags := 9, code := some k12c1 }
def k12c2 : Code := { maxStack := 2, maxLocals := 1, code := jdk_89_method_18_code, exceptionTable := #[], attributes := #[] }
def k12m2 : Method := { name := "charCount", desc := "(I)I", sig := { parameters := [.int], returnType := some .int }, accessFlags := 9, code := some k12c2 }
def k12c3 : Code := { maxStack := 2, maxLocals := 2, code := jdk_89_method_19_code, exceptionTable := #[], attributes := #[] }
def k12m3 : Method := { name := "toCodePoint", desc := "(CC)I", sig := { parameters := [.char, .char], returnType := some .int }, accessFlags := 9, code := some k12c3 }
/-- java/lang/Character -/
def k12 : Class := { plain "java/lang/Character" (some 0) with
  accessFlags := 49
  interfaces := #[2, 3, 5]
  cf := some (fileOf pool12 1 #[.nestMembers #[48, 595, 307, 597]] #[{ accessFlags := 9, nameIndex := 80, descriptorIndex := 81, attributes := #[] }, { accessFlags := 9, nameIndex := 84, descriptorIndex := 81, attributes := #[] }, { accessFlags := 9, nameIndex := 536, descriptorIndex := 174, attributes := #[] }, { accessFlags := 9, nameIndex := 98, descriptorIndex := 99, attributes := #[] }] 49 42 #[385, 387, 389] #[{ accessFlags := 25, nameIndex := 391, descriptorIndex := 392, attributes := #[] }, { accessFlags := 25, nameIndex := 395, descriptorIndex := 392, attributes := #[] }, { accessFlags := 25, nameIndex := 397, descriptorIndex := 22, attributes := #[] }, { accessFlags := 25, nameIndex := 399, descriptorIndex := 22, attributes := #[] }, { accessFlags := 25, nameIndex := 383, descriptorIndex := 384, attributes := #[] }, { accessFlags := 25, nameIndex := 403, descriptorIndex := 404, attributes := #[] }, { accessFlags := 25, nameIndex := 405, descriptorIndex := 404, attributes := #[] }, { accessFlags := 25, nameIndex := 407, descriptorIndex := 404, attributes := #[] }, { accessFlags := 25, nameIndex := 408, descriptorIndex := 404, attributes := #[] }, { accessFlags := 25, nameIndex := 410, descriptorIndex := 404, attributes := #[] }, { accessFlags := 25, nameIndex := 412, descriptorIndex := 404, attributes := #[] }, { accessFlags := 25, nameIndex := 414, descriptorIndex := 404, attributes := #[] }, { accessFlags := 25, nameIndex := 416, descriptorIndex := 404, attributes := #[] }, { accessFlags := 25, nameIndex := 418, descriptorIndex := 404, attributes := #[] }, { accessFlags := 25, nameIndex := 420, descriptorIndex := 404, attributes := #[] }, { accessFlags := 25, nameIndex := 422, descriptorIndex := 404, attributes := #[] }, { accessFlags := 25, nameIndex := 424, descriptorIndex := 404, attributes := #[] }, { accessFlags := 25, nameIndex := 426, descriptorIndex := 404, attributes := #[] }, { accessFlags := 25, nameIndex := 428, descriptorIndex := 404, attributes := #[] }, { accessFlags := 25, nameIndex := 430, descriptorIndex := 404, attributes := #[] }, { accessFlags := 25, nameIndex := 432, descriptorIndex := 404, attributes := #[] }, { accessFlags := 25, nameIndex := 434, descriptorIndex := 404, attributes := #[] }, { accessFlags := 25, nameIndex := 436, descriptorIndex := 404, attributes := #[] }, { accessFlags := 25, nameIndex := 438, descriptorIndex := 404, attributes := #[] }, { accessFlags := 25, nameIndex := 440, descriptorIndex := 404, attributes := #[] }, { accessFlags := 25, nameIndex := 442, descriptorIndex := 404, attributes := #[] }, { accessFlags := 25, nameIndex := 444, descriptorIndex := 404, attributes := #[] }, { accessFlags := 25, nameIndex := 446, descriptorIndex := 404, attributes := #[] }, { accessFlags := 25, nameIndex := 448, descriptorIndex := 404, attributes := #[] }, { accessFlags := 25, nameIndex := 450, descriptorIndex := 404, attributes := #[] }, { accessFlags := 25, nameIndex := 452, descriptorIndex := 404, attributes := #[] }, { accessFlags := 25, nameIndex := 454, descriptorIndex := 404, attributes := #[] }, { accessFlags := 25, nameIndex := 456, descriptorIndex := 404, attributes := #[] }, { accessFlags := 25, nameIndex := 458, descriptorIndex := 404, attributes := #[] }, { accessFlags := 25, nameIndex := 460, descriptorIndex := 404, attributes := #[] }, { accessFlags := 24, nameIndex := 462, descriptorIndex := 392, attributes := #[] }, { accessFlags := 25, nameIndex := 464, descriptorIndex := 404, attributes := #[] }, { accessFlags := 25, nameIndex := 465, descriptorIndex := 404, attributes := #[] }, { accessFlags := 25, nameIndex := 466, descriptorIndex := 404, attributes := #[] }, { accessFlags := 25, nameIndex := 467, descriptorIndex := 404, attributes := #[] }, { accessFlags := 25, nameIndex := 468, descriptorIndex := 404, attributes := #[] }, { accessFlags := 25, nameIndex := 469, descriptorIndex := 404, attributes := #[] }, { accessFlags := 25, nameIndex := 470, descriptorIndex := 404, attributes := #[] }, { accessFlags := 25, nameIndex := 471, descriptorIndex := 404, attributes := #[] }, { accessFlags := 25, nameIndex := 472, descriptorIndex := 404, attributes := #[] }, { accessFlags := 25, nameIndex := 473, descriptorIndex := 404, attributes := #[] }, { accessFlags := 25, nameIndex := 474, descriptorIndex := 404, attributes := #[] }, { accessFlags := 25, nameIndex := 475, descriptorIndex := 404, attributes := #[] }, { accessFlags := 25, nameIndex := 476, descriptorIndex := 404, attributes := #[] }, { accessFlags := 25, nameIndex := 477, descriptorIndex := 404, attributes := #[] }, { accessFlags := 25, nameIndex := 478, descriptorIndex := 404, attributes := #[] }, { accessFlags := 25, nameIndex := 479, descriptorIndex := 404, attributes := #[] }, { accessFlags := 25, nameIndex := 480, descriptorIndex := 404, attributes := #[] }, { accessFlags := 25, nameIndex := 481, descriptorIndex := 404, attributes := #[] }, { accessFlags := 25, nameIndex := 482, descriptorIndex := 404, attributes := #[] }, { accessFlags := 25, nameIndex := 484, descriptorIndex := 404, attributes := #[] }, { accessFlags := 25, nameIndex := 485, descriptorIndex := 404, attributes := #[] }, { accessFlags := 25, nameIndex := 486, descriptorIndex := 404, attributes := #[] }, { accessFlags := 25, nameIndex := 487, descriptorIndex := 404, attributes := #[] }, { accessFlags := 25, nameIndex := 488, descriptorIndex := 404, attributes := #[] }, { accessFlags := 25, nameIndex := 489, descriptorIndex := 22, attributes := #[] }, { accessFlags := 25, nameIndex := 490, descriptorIndex := 22, attributes := #[] }, { accessFlags := 25, nameIndex := 492, descriptorIndex := 22, attributes := #[] }, { accessFlags := 25, nameIndex := 493, descriptorIndex := 22, attributes := #[] }, { accessFlags := 25, nameIndex := 495, descriptorIndex := 22, attributes := #[] }, { accessFlags := 25, nameIndex := 496, descriptorIndex := 22, attributes := #[] }, { accessFlags := 25, nameIndex := 497, descriptorIndex := 392, attributes := #[] }, { accessFlags := 25, nameIndex := 498, descriptorIndex := 392, attributes := #[] }, { accessFlags := 25, nameIndex := 499, descriptorIndex := 392, attributes := #[] }, { accessFlags := 18, nameIndex := 21, descriptorIndex := 22, attributes := #[] }, { accessFlags := 26, nameIndex := 501, descriptorIndex := 502, attributes := #[] }, { accessFlags := 25, nameIndex := 505, descriptorIndex := 392, attributes := #[] }, { accessFlags := 25, nameIndex := 506, descriptorIndex := 392, attributes := #[] }, { accessFlags := 4120, nameIndex := 284, descriptorIndex := 285, attributes := #[] }])
  fields := #[{ name := "MIN_RADIX", type := .int, accessFlags := 25, slot := 0, constantValue := 0 }, { name := "MAX_RADIX", type := .int, accessFlags := 25, slot := 1, constantValue := 0 }, { name := "MIN_VALUE", type := .char, accessFlags := 25, slot := 2, constantValue := 0 }, { name := "MAX_VALUE", type := .char, accessFlags := 25, slot := 3, constantValue := 0 }, { name := "TYPE", type := (.object "java/lang/Class"), accessFlags := 25, slot := 4, constantValue := 0 }, { name := "UNASSIGNED", type := .byte, accessFlags := 25, slot := 5, constantValue := 0 }, { name := "UPPERCASE_LETTER", type := .byte, accessFlags := 25, slot := 6, constantValue := 0 }, { name := "LOWERCASE_LETTER", type := .byte, accessFlags := 25, slot := 7, constantValue := 0 }, { name := "TITLECASE_LETTER", type := .byte, accessFlags := 25, slot := 8, constantValue := 0 }, { name := "MODIFIER_LETTER", type := .byte, accessFlags := 25, slot := 9, constantValue := 0 }, { name := "OTHER_LETTER", type := .byte, accessFlags := 25, slot := 10, constantValue := 0 }, { name := "NON_SPACING_MARK", type := .byte, accessFlags := 25, slot := 11, constantValue := 0 }, { name := "ENCLOSING_MARK", type := .byte, accessFlags := 25, slot := 12, constantValue := 0 }, { name := "COMBINING_SPACING_MARK", type := .byte, accessFlags := 25, slot := 13, constantValue := 0 }, { name := "DECIMAL_DIGIT_NUMBER", type := .byte, accessFlags := 25, slot := 14, constantValue := 0 }, { name := "LETTER_NUMBER", type := .byte, accessFlags := 25, slot := 15, constantValue := 0 }, { name := "OTHER_NUMBER", type := .byte, accessFlags := 25, slot := 16, constantValue := 0 }, { name := "SPACE_SEPARATOR", type := .byte, accessFlags := 25, slot := 17, constantValue := 0 }, { name := "LINE_SEPARATOR", type := .byte, accessFlags := 25, slot := 18, constantValue := 0 }, { name := "PARAGRAPH_SEPARATOR", type := .byte, accessFlags := 25, slot := 19, constantValue := 0 }, { name := "CONTROL", type := .byte, accessFlags := 25, slot := 20, constantValue := 0 }, { name := "FORMAT", type := .byte, accessFlags := 25, slot := 21, constantValue := 0 }, { name := "PRIVATE_USE", type := .byte, accessFlags := 25, slot := 22, constantValue := 0 }, { name := "SURROGATE", type := .byte, accessFlags := 25, slot := 23, constantValue := 0 }, { name := "DASH_PUNCTUATION", type := .byte, accessFlags := 25, slot := 24, constantValue := 0 }, { name := "START_PUNCTUATION", type := .byte, accessFlags := 25, slot := 25, constantValue := 0 }, { name := "END_PUNCTUATION", type := .byte, accessFlags := 25, slot := 26, constantValue := 0 }, { name := "CONNECTOR_PUNCTUATION", type := .byte, accessFlags := 25, slot := 27, constantValue := 0 }, { name := "OTHER_PUNCTUATION", type := .byte, accessFlags := 25, slot := 28, constantValue := 0 }, { name := "MATH_SYMBOL", type := .byte, accessFlags := 25, slot := 29, constantValue := 0 }, { name := "CURRENCY_SYMBOL", type := .byte, accessFlags := 25, slot := 30, constantValue := 0 }, { name := "MODIFIER_SYMBOL", type := .byte, accessFlags := 25, slot := 31, constantValue := 0 }, { name := "OTHER_SYMBOL", type := .byte, accessFlags := 25, slot := 32, constantValue := 0 }, { name := "INITIAL_QUOTE_PUNCTUATION", type := .byte, accessFlags := 25, slot := 33, constantValue := 0 }, { name := "FINAL_QUOTE_PUNCTUATION", type := .byte, accessFlags := 25, slot := 34, constantValue := 0 }, { name := "ERROR", type := .int, accessFlags := 24, slot := 35, constantValue := 0 }, { name := "DIRECTIONALITY_UNDEFINED", type := .byte, accessFlags := 25, slot := 36, constantValue := 0 }, { name := "DIRECTIONALITY_LEFT_TO_RIGHT", type := .byte, accessFlags := 25, slot := 37, constantValue := 0 }, { name := "DIRECTIONALITY_RIGHT_TO_LEFT", type := .byte, accessFlags := 25, slot := 38, constantValue := 0 }, { name := "DIRECTIONALITY_RIGHT_TO_LEFT_ARABIC", type := .byte, accessFlags := 25, slot := 39, constantValue := 0 }, { name := "DIRECTIONALITY_EUROPEAN_NUMBER", type := .byte, accessFlags := 25, slot := 40, constantValue := 0 }, { name := "DIRECTIONALITY_EUROPEAN_NUMBER_SEPARATOR", type := .byte, accessFlags := 25, slot := 41, constantValue := 0 }, { name := "DIRECTIONALITY_EUROPEAN_NUMBER_TERMINATOR", type := .byte, accessFlags := 25, slot := 42, constantValue := 0 }, { name := "DIRECTIONALITY_ARABIC_NUMBER", type := .byte, accessFlags := 25, slot := 43, constantValue := 0 }, { name := "DIRECTIONALITY_COMMON_NUMBER_SEPARATOR", type := .byte, accessFlags := 25, slot := 44, constantValue := 0 }, { name := "DIRECTIONALITY_NONSPACING_MARK", type := .byte, accessFlags := 25, slot := 45, constantValue := 0 }, { name := "DIRECTIONALITY_BOUNDARY_NEUTRAL", type := .byte, accessFlags := 25, slot := 46, constantValue := 0 }, { name := "DIRECTIONALITY_PARAGRAPH_SEPARATOR", type := .byte, accessFlags := 25, slot := 47, constantValue := 0 }, { name := "DIRECTIONALITY_SEGMENT_SEPARATOR", type := .byte, accessFlags := 25, slot := 48, constantValue := 0 }, { name := "DIRECTIONALITY_WHITESPACE", type := .byte, accessFlags := 25, slot := 49, constantValue := 0 }, { name := "DIRECTIONALITY_OTHER_NEUTRALS", type := .byte, accessFlags := 25, slot := 50, constantValue := 0 }, { name := "DIRECTIONALITY_LEFT_TO_RIGHT_EMBEDDING", type := .byte, accessFlags := 25, slot := 51, constantValue := 0 }, { name := "DIRECTIONALITY_LEFT_TO_RIGHT_OVERRIDE", type := .byte, accessFlags := 25, slot := 52, constantValue := 0 }, { name := "DIRECTIONALITY_RIGHT_TO_LEFT_EMBEDDING", type := .byte, accessFlags := 25, slot := 53, constantValue := 0 }, { name := "DIRECTIONALITY_RIGHT_TO_LEFT_OVERRIDE", type := .byte, accessFlags := 25, slot := 54, constantValue := 0 }, { name := "DIRECTIONALITY_POP_DIRECTIONAL_FORMAT", type := .byte, accessFlags := 25, slot := 55, constantValue := 0 }, { name := "DIRECTIONALITY_LEFT_TO_RIGHT_ISOLATE", type := .byte, accessFlags := 25, slot := 56, constantValue := 0 }, { name := "DIRECTIONALITY_RIGHT_TO_LEFT_ISOLATE", type := .byte, accessFlags := 25, slot := 57, constantValue := 0 }, { name := "DIRECTIONALITY_FIRST_STRONG_ISOLATE", type := .byte, accessFlags := 25, slot := 58, constantValue := 0 }, { name := "DIRECTIONALITY_POP_DIRECTIONAL_ISOLATE", type := .byte, accessFlags := 25, slot := 59, constantValue := 0 }, { name := "MIN_HIGH_SURROGATE", type := .char, accessFlags := 25, slot := 60, constantValue := 0 }, { name := "MAX_HIGH_SURROGATE", type := .char, accessFlags := 25, slot := 61, constantValue := 0 }, { name := "MIN_LOW_SURROGATE", type := .char, accessFlags := 25, slot := 62, constantValue := 0 }, { name := "MAX_LOW_SURROGATE", type := .char, accessFlags := 25, slot := 63, constantValue := 0 }, { name := "MIN_SURROGATE", type := .char, accessFlags := 25, slot := 64, constantValue := 0 }, { name := "MAX_SURROGATE", type := .char, accessFlags := 25, slot := 65, constantValue := 0 }, { name := "MIN_SUPPLEMENTARY_CODE_POINT", type := .int, accessFlags := 25, slot := 66, constantValue := 0 }, { name := "MIN_CODE_POINT", type := .int, accessFlags := 25, slot := 67, constantValue := 0 }, { name := "MAX_CODE_POINT", type := .int, accessFlags := 25, slot := 68, constantValue := 0 }, { name := "value", type := .char, accessFlags := 18, slot := 0, constantValue := 0 }, { name := "serialVersionUID", type := .long, accessFlags := 26, slot := 69, constantValue := 0 }, { name := "SIZE", type := .int, accessFlags := 25, slot := 70, constantValue := 0 }, { name := "BYTES", type := .int, accessFlags := 25, slot := 71, constantValue := 0 }, { name := "$assertionsDisabled", type := .boolean, accessFlags := 4120, slot := 72, constantValue := 0 }]
  methods := #[k12m0, k12m1, k12m2, k12m3]
  instanceTypes := #[.char]
  staticTypes := #[.int, .int, .char, .char, (.object "java/lang/Class"), .byte, .byte, .byte, .byte, .byte, .byte, .byte, .byte, .byte, .byte, .byte, .byte, .byte, .byte, .byte, .byte, .byte, .byte, .byte, .byte, .byte, .byte, .byte, .byte, .byte, .byte, .byte, .byte, .byte, .byte, .int, .byte, .byte, .byte, .byte, .byte, .byte, .byte, .byte, .byte, .byte, .byte, .byte, .byte, .byte, .byte, .byte, .byte, .byte, .byte, .byte, .byte, .byte, .byte, .byte, .char, .char, .char, .char, .char, .char, .int, .int, .int, .long, .int, .int, .boolean]
  resolved := Array.replicate 604 none
  statics := none }

def pool13 : Array CpInfo := pool [(9, u "<init>"), (6, .class_ 18), (1, u "java/lang/Object"), (0, u "()V"), (1, .class_ 23), (1, u "jdk/internal/util/ArraysSupport"), (0, u "LOG2_ARRAY_LONG_INDEX_SCALE"), (0, u "I"), (2, u "U"), (0, u "Ljdk/internal/misc/Unsafe;"), (8, u "BIG_ENDIAN"), (0, u "Z"), (8, u "LOG2_BYTE_BIT_SIZE"), (4, u "LOG2_ARRAY_INT_INDEX_SCALE"), (54, u "JLA"), (0, u "Ljdk/internal/access/JavaLangAccess;"), (11, u "LOG2_ARRAY_BOOLEAN_INDEX_SCALE"), (9, u "LOG2_ARRAY_BYTE_INDEX_SCALE"), (5, u "LOG2_ARRAY_CHAR_INDEX_SCALE"), (5, u "LOG2_ARRAY_SHORT_INDEX_SCALE"), (18, u "LOG2_ARRAY_FLOAT_INDEX_SCALE"), (24, u "LOG2_ARRAY_DOUBLE_INDEX_SCALE"), (89, u "T_BOOLEAN"), (2, u "T_CHAR"), (1, u "T_FLOAT"), (1, u "T_DOUBLE"), (1, u "T_BYTE"), (1, u "T_SHORT"), (1, u "T_INT"), (1, u "T_LONG"), (1, u "SOFT_MAX_ARRAY_LENGTH")] 83

def k13m0 : Method := { name := "<init>", desc := "()V", sig := { parameters := [], returnType := none }, accessFlags := 2, code := none }
/-- jdk/internal/util/ArraysSupport -/
def k13 : Class := { plain "jdk/internal/util/ArraysSupport" (some 0) with
  accessFlags := 33
  interfaces := #[]
  cf := some (fileOf pool13 21 #[] #[{ accessFlags := 2, nameIndex := 9, descriptorIndex := 19, attributes := #[] }] 33 16 #[] #[{ accessFlags := 24, nameIndex := 28, descriptorIndex := 29, attributes := #[] }, { accessFlags := 26, nameIndex := 38, descriptorIndex := 39, attributes := #[] }, { accessFlags := 25, nameIndex := 121, descriptorIndex := 25, attributes := #[] }, { accessFlags := 25, nameIndex := 131, descriptorIndex := 25, attributes := #[] }, { accessFlags := 25, nameIndex := 137, descriptorIndex := 25, attributes := #[] }, { accessFlags := 25, nameIndex := 143, descriptorIndex := 25, attributes := #[] }, { accessFlags := 25, nameIndex := 53, descriptorIndex := 25, attributes := #[] }, { accessFlags := 25, nameIndex := 24, descriptorIndex := 25, attributes := #[] }, { accessFlags := 25, nameIndex := 162, descriptorIndex := 25, attributes := #[] }, { accessFlags := 25, nameIndex := 187, descriptorIndex := 25, attributes := #[] }, { accessFlags := 26, nameIndex := 48, descriptorIndex := 25, attributes := #[] }, { accessFlags := 25, nameIndex := 277, descriptorIndex := 25, attributes := #[] }, { accessFlags := 25, nameIndex := 280, descriptorIndex := 25, attributes := #[] }, { accessFlags := 25, nameIndex := 282, descriptorIndex := 25, attributes := #[] }, { accessFlags := 25, nameIndex := 284, descriptorIndex := 25, attributes := #[] }, { accessFlags := 25, nameIndex := 286, descriptorIndex := 25, attributes := #[] }, { accessFlags := 25, nameIndex := 288, descriptorIndex := 25, attributes := #[] }, { accessFlags := 25, nameIndex := 290, descriptorIndex := 25, attributes := #[] }, { accessFlags := 25, nameIndex := 292, descriptorIndex := 25, attributes := #[] }, { accessFlags := 26, nameIndex := 108, descriptorIndex := 109, attributes := #[] }, { accessFlags := 25, nameIndex := 294, descriptorIndex := 25, attributes := #[] }])
  fields := #[{ name := "U", type := (.object "jdk/internal/misc/Unsafe"), accessFlags := 24, slot := 0, constantValue := 0 }, { name := "BIG_ENDIAN", type := .boolean, accessFlags := 26, slot := 1, constantValue := 0 }, { name := "LOG2_ARRAY_BOOLEAN_INDEX_SCALE", type := .int, accessFlags := 25, slot := 2, constantValue := 0 }, { name := "LOG2_ARRAY_BYTE_INDEX_SCALE", type := .int, accessFlags := 25, slot := 3, constantValue := 0 }, { name := "LOG2_ARRAY_CHAR_INDEX_SCALE", type := .int, accessFlags := 25, slot := 4, constantValue := 0 }, { name := "LOG2_ARRAY_SHORT_INDEX_SCALE", type := .int, accessFlags := 25, slot := 5, constantValue := 0 }, { name := "LOG2_ARRAY_INT_INDEX_SCALE", type := .int, accessFlags := 25, slot := 6, constantValue := 0 }, { name := "LOG2_ARRAY_LONG_INDEX_SCALE", type := .int, accessFlags := 25, slot := 7, constantValue := 0 }, { name := "LOG2_ARRAY_FLOAT_INDEX_SCALE", type := .int, accessFlags := 25, slot := 8, constantValue := 0 }, { name := "LOG2_ARRAY_DOUBLE_INDEX_SCALE", type := .int, accessFlags := 25, slot := 9, constantValue := 0 }, { name := "LOG2_BYTE_BIT_SIZE", type := .int, accessFlags := 26, slot := 10, constantValue := 0 }, { name := "T_BOOLEAN", type := .int, accessFlags := 25, slot := 11, constantValue := 0 }, { name := "T_CHAR", type := .int, accessFlags := 25, slot := 12, constantValue := 0 }, { name := "T_FLOAT", type := .int, accessFlags := 25, slot := 13, constantValue := 0 }, { name := "T_DOUBLE", type := .int, accessFlags := 25, slot := 14, constantValue := 0 }, { name := "T_BYTE", type := .int, accessFlags := 25, slot := 15, constantValue := 0 }, { name := "T_SHORT", type := .int, accessFlags := 25, slot := 16, constantValue := 0 }, { name := "T_INT", type := .int, accessFlags := 25, slot := 17, constantValue := 0 }, { name := "T_LONG", type := .int, accessFlags := 25, slot := 18, constantValue := 0 }, { name := "JLA", type := (.object "jdk/internal/access/JavaLangAccess"), accessFlags := 26, slot := 19, constantValue := 0 }, { name := "SOFT_MAX_ARRAY_LENGTH", type := .int, accessFlags := 25, slot := 20, constantValue := 0 }]
  methods := #[k13m0]
  instanceTypes := #[]
  staticTypes := #[(.object "jdk/internal/misc/Unsafe"), .boolean, .int, .int, .int, .int, .int, .int, .int, .int, .int, .int, .int, .int, .int, .int, .int, .int, .int, (.object "jdk/internal/access/JavaLangAccess"), .int]
  resolved := Array.replicate 378 none
  statics := none }

def pool14 : Array CpInfo := pool [(1, u "java/lang/Cloneable"), (0, .class_ 1), (0, u "java/lang/Object"), (0, .class_ 3)] 3

/-- java/lang/Cloneable -/
def k14 : Class := { plain "java/lang/Cloneable" (some 0) with
  accessFlags := 1537
  interfaces := #[]
  cf := some (fileOf pool14 2 #[] #[] 1537 4 #[] #[])
  fields := #[]
  methods := #[]
  instanceTypes := #[]
  staticTypes := #[]
  resolved := Array.replicate 8 none
  statics := none }

/-- the primitive byte -/
def k15 : Class := { plain "byte" none with kind := .primitive 'B', accessFlags := 0x411 }
/-- [B -/
def k16 : Class := { plain "[B" (some 0) with kind := .array 15 .byte, interfaces := #[14, 2], accessFlags := 1041 }

/-- the primitive char -/
def k17 : Class := { plain "char" none with kind := .primitive 'C', accessFlags := 0x411 }
/-- [C -/
def k18 : Class := { plain "[C" (some 0) with kind := .array 17 .char, interfaces := #[14, 2], accessFlags := 1041 }

/-- the primitive int -/
def k19 : Class := { plain "int" none with kind := .primitive 'I', accessFlags := 0x411 }
/-- [I -/
def k20 : Class := { plain "[I" (some 0) with kind := .array 19 .int, interfaces := #[14, 2], accessFlags := 1041 }

def heap : Heap := #[{ cls := 7, slots := #[.long 0, .int 1, .null, .int 0, .null, .int 0, .int 0], vm := .statics 7 },
  { cls := 8, slots := #[.int 0, .int 8, .int 0, .int 1], vm := .statics 8 },
  { cls := 11, slots := #[.null, .null, .null], vm := .statics 11 }]
def classes : Array Class := #[k0, k1, k2, k3, k4, k5, k6, k7, k8, k9, k10, k11, k12, k13, k14, k15, k16, k17, k18, k19, k20]
def interned : List (Array UInt16 × Addr) := []
def slotsUsed : Nat := 14
def theMethod : MethodId := ⟨1, 7⟩
def args0 : Array Value := #[.int 5, .int 5, .int 5, .int 5]
def aboutOver (below : List Frame) : State where
  vm := { classes := classes, interned := interned.toArray }
  heap := heap
  slotsUsed := slotsUsed
  threads := #[{ frames := .invoking theMethod args0 :: below }]
def below0 : List Frame := [.native { method := ⟨0, 0⟩, args := #[] }]
def about1 : State := aboutOver below0
def p0 : Program := .bare "" "" ""
def e0 : Env := launch0.env 0 0 0
theorem w_frames : about1.frames = Frame.invoking theMethod args0 :: below0 := rfl
set_option maxRecDepth 65536 in
theorem w_args : argsFit about1.vm theMethod args0 = true := by decide +kernel
set_option maxRecDepth 65536 in
theorem w_heap : heapFits about1 = true := by decide +kernel
set_option maxRecDepth 65536 in
theorem w_runnable : about1.curStatus? = some .runnable := by decide +kernel
set_option maxRecDepth 65536 in
theorem w_alone : about1.alone = true := by decide +kernel
set_option maxRecDepth 65536 in
theorem w_named : about1.methodNamed? x = some theMethod := by decide +kernel
set_option maxRecDepth 65536 in
theorem w_hears : about1.hears theMethod below0 = true := by decide +kernel
set_option maxRecDepth 65536 in
theorem w_ripe : about1.ripe theMethod args0 below0 = true := by decide +kernel
theorem w_running : about1.status = .running := rfl
set_option maxRecDepth 65536 in
theorem w_room : about1.hasRoom e0.platform room_1 = true :=
  launch0.hasRoom_least _ room_1 (by decide +kernel) (by decide +kernel) (by decide +kernel) (by decide +kernel) (by decide +kernel) (by decide +kernel)
theorem allAtoms_all (ts : List Jvm.Cond) (a : Array Jvm.Value) (st : Jvm.State) : (allAtoms ts).before a st = ts.all (fun c => c.before a st) := by
  induction ts with
  | nil => rfl
  | cons c t ih =>
    show (Jvm.Cond.and c (allAtoms t)).before a st = _
    rw [Jvm.Cond.before_and, ih, List.all_cons]
def words1 : List Jvm.Cond := Jvm.Cond.code x code maxLocals ret :: tables_1
/-- a 'code' word, met by the world's own term for the bytes: nothing is compared byte by byte -/
theorem code_word {y : MethodName} {bytes : ByteArray} {mx : Nat} {rt : Option FieldType} {a : Array Value} {s : State} {m : MethodId} {meth : Method} {c : Code} (h1 : s.methodNamed? y = some m) (h2 : s.vm.method? m = some meth) (h3 : meth.code = some c) (h4 : c.code = bytes)
    (h5 : (c.maxLocals == mx && c.exceptionTable.isEmpty && decide (c.maxStack ≤ mostOperands) && decide (meth.sig.returnType = rt) && !meth.locks && decide (parseMethodDescriptor y.desc = some meth.sig)) = true) : (Jvm.Cond.code y bytes mx rt).before a s = true := by
  simp only [Bool.and_eq_true, beq_iff_eq, Bool.not_eq_true', decide_eq_true_eq] at h5
  obtain ⟨⟨⟨⟨⟨g1, g2⟩, g3⟩, g4⟩, g5⟩, g6⟩ := h5
  simp [Cond.before, Cond.holds, Cond.value, h1, h2, h3, h4, g1, g2, g3, g4, g5, g6]
def isCode : Jvm.Cond → Bool
  | .code _ _ _ _ => true
  | _ => false
theorem all_split {L : List Jvm.Cond} {P : Jvm.Cond → Bool} (h1 : L.all (fun c => isCode c || P c) = true) (h2 : ∀ c ∈ L.filter isCode, P c = true) : L.all P = true := by
  refine List.all_eq_true.mpr fun c hc => ?_
  have h := List.all_eq_true.mp h1 c hc
  rcases Bool.eq_false_or_eq_true (isCode c) with hi | hi
  · exact h2 c (List.mem_filter.mpr ⟨hc, hi⟩)
  · simpa [hi] using h
set_option maxRecDepth 65536 in
theorem w_c0 : (Jvm.Cond.code x code maxLocals ret).before args0 about1 = true := code_word (m := ⟨1, 7⟩) (meth := k1m7) (c := k1c7) (by decide +kernel) rfl rfl rfl (by decide +kernel)
set_option maxRecDepth 65536 in
theorem w_c1 : (Jvm.Cond.code ({ cls := "com/example/neith/neith/io/XmlOutputForbiddenCharacterPinLaw", name := "draw", desc := "(I)C" } : Jvm.MethodName) method_2_code (2 : Nat) (Option.some Jvm.ClassFile.FieldType.char)).before args0 about1 = true := code_word (m := ⟨1, 1⟩) (meth := k1m1) (c := k1c1) (by decide +kernel) rfl rfl rfl (by decide +kernel)
set_option maxRecDepth 65536 in
theorem w_c2 : (Jvm.Cond.code ({ cls := "java/lang/String", name := "<init>", desc := "([C)V" } : Jvm.MethodName) jdk_42_method_3_code (2 : Nat) (Option.none : Option Jvm.ClassFile.FieldType)).before args0 about1 = true := code_word (m := ⟨7, 1⟩) (meth := k7m1) (c := k7c1) (by decide +kernel) rfl rfl rfl (by decide +kernel)
set_option maxRecDepth 65536 in
theorem w_c3 : (Jvm.Cond.code ({ cls := "java/lang/String", name := "<init>", desc := "([CIILjava/lang/Void;)V" } : Jvm.MethodName) jdk_42_method_149_code (6 : Nat) (Option.none : Option Jvm.ClassFile.FieldType)).before args0 about1 = true := code_word (m := ⟨7, 5⟩) (meth := k7m5) (c := k7c5) (by decide +kernel) rfl rfl rfl (by decide +kernel)
set_option maxRecDepth 65536 in
theorem w_c4 : (Jvm.Cond.code ({ cls := "java/lang/Object", name := "<init>", desc := "()V" } : Jvm.MethodName) object_method_1_code (1 : Nat) (Option.none : Option Jvm.ClassFile.FieldType)).before args0 about1 = true := code_word (m := ⟨0, 0⟩) (meth := k0m0) (c := k0c0) (by decide +kernel) rfl rfl rfl (by decide +kernel)
set_option maxRecDepth 65536 in
theorem w_c5 : (Jvm.Cond.code ({ cls := "java/lang/StringUTF16", name := "compress", desc := "([CII)[B" } : Jvm.MethodName) jdk_52_method_16_code (6 : Nat) (Option.some (Jvm.ClassFile.FieldType.array Jvm.ClassFile.FieldType.byte))).before args0 about1 = true := code_word (m := ⟨8, 10⟩) (meth := k8m10) (c := k8c10) (by decide +kernel) rfl rfl rfl (by decide +kernel)
set_option maxRecDepth 65536 in
theorem w_c6 : (Jvm.Cond.code ({ cls := "java/lang/StringUTF16", name := "compress", desc := "([CI[BII)I" } : Jvm.MethodName) jdk_52_method_21_code (7 : Nat) (Option.some Jvm.ClassFile.FieldType.int)).before args0 about1 = true := code_word (m := ⟨8, 11⟩) (meth := k8m11) (c := k8c11) (by decide +kernel) rfl rfl rfl (by decide +kernel)
set_option maxRecDepth 65536 in
theorem w_c7 : (Jvm.Cond.code ({ cls := "java/lang/StringUTF16", name := "coderFromArrayLen", desc := "([BI)B" } : Jvm.MethodName) jdk_52_method_15_code (2 : Nat) (Option.some Jvm.ClassFile.FieldType.byte)).before args0 about1 = true := code_word (m := ⟨8, 9⟩) (meth := k8m9) (c := k8c9) (by decide +kernel) rfl rfl rfl (by decide +kernel)
set_option maxRecDepth 65536 in
theorem w_c8 : (Jvm.Cond.code ({ cls := "com/example/neith/neith/io/XmlOutput", name := "forbiddenCharacter", desc := "(Ljava/lang/String;)I" } : Jvm.MethodName) prog_18_method_3_code (5 : Nat) (Option.some Jvm.ClassFile.FieldType.int)).before args0 about1 = true := code_word (m := ⟨9, 0⟩) (meth := k9m0) (c := k9c0) (by decide +kernel) rfl rfl rfl (by decide +kernel)
set_option maxRecDepth 65536 in
theorem w_c9 : (Jvm.Cond.code ({ cls := "java/lang/String", name := "length", desc := "()I" } : Jvm.MethodName) jdk_42_method_54_code (1 : Nat) (Option.some Jvm.ClassFile.FieldType.int)).before args0 about1 = true := code_word (m := ⟨7, 2⟩) (meth := k7m2) (c := k7c2) (by decide +kernel) rfl rfl rfl (by decide +kernel)
set_option maxRecDepth 65536 in
theorem w_c10 : (Jvm.Cond.code ({ cls := "java/lang/String", name := "coder", desc := "()B" } : Jvm.MethodName) jdk_42_method_152_code (1 : Nat) (Option.some Jvm.ClassFile.FieldType.byte)).before args0 about1 = true := code_word (m := ⟨7, 6⟩) (meth := k7m6) (c := k7c6) (by decide +kernel) rfl rfl rfl (by decide +kernel)
set_option maxRecDepth 65536 in
theorem w_c11 : (Jvm.Cond.code ({ cls := "java/lang/String", name := "charAt", desc := "(I)C" } : Jvm.MethodName) jdk_42_method_56_code (2 : Nat) (Option.some Jvm.ClassFile.FieldType.char)).before args0 about1 = true := code_word (m := ⟨7, 3⟩) (meth := k7m3) (c := k7c3) (by decide +kernel) rfl rfl rfl (by decide +kernel)
set_option maxRecDepth 65536 in
theorem w_c12 : (Jvm.Cond.code ({ cls := "java/lang/String", name := "isLatin1", desc := "()Z" } : Jvm.MethodName) jdk_42_method_154_code (1 : Nat) (Option.some Jvm.ClassFile.FieldType.boolean)).before args0 about1 = true := code_word (m := ⟨7, 7⟩) (meth := k7m7) (c := k7c7) (by decide +kernel) rfl rfl rfl (by decide +kernel)
set_option maxRecDepth 65536 in
theorem w_c13 : (Jvm.Cond.code ({ cls := "java/lang/StringLatin1", name := "charAt", desc := "([BI)C" } : Jvm.MethodName) jdk_43_method_2_code (2 : Nat) (Option.some Jvm.ClassFile.FieldType.char)).before args0 about1 = true := code_word (m := ⟨10, 1⟩) (meth := k10m1) (c := k10c1) (by decide +kernel) rfl rfl rfl (by decide +kernel)
set_option maxRecDepth 65536 in
theorem w_c14 : (Jvm.Cond.code ({ cls := "java/lang/String", name := "checkIndex", desc := "(II)V" } : Jvm.MethodName) jdk_42_method_155_code (2 : Nat) (Option.none : Option Jvm.ClassFile.FieldType)).before args0 about1 = true := code_word (m := ⟨7, 8⟩) (meth := k7m8) (c := k7c8) (by decide +kernel) rfl rfl rfl (by decide +kernel)
set_option maxRecDepth 65536 in
theorem w_c15 : (Jvm.Cond.code ({ cls := "jdk/internal/util/Preconditions", name := "checkIndex", desc := "(IILjava/util/function/BiFunction;)I" } : Jvm.MethodName) jdk_41_method_11_code (3 : Nat) (Option.some Jvm.ClassFile.FieldType.int)).before args0 about1 = true := code_word (m := ⟨11, 1⟩) (meth := k11m1) (c := k11c1) (by decide +kernel) rfl rfl rfl (by decide +kernel)
set_option maxRecDepth 65536 in
theorem w_c16 : (Jvm.Cond.code ({ cls := "java/lang/String", name := "codePointAt", desc := "(I)I" } : Jvm.MethodName) jdk_42_method_57_code (3 : Nat) (Option.some Jvm.ClassFile.FieldType.int)).before args0 about1 = true := code_word (m := ⟨7, 4⟩) (meth := k7m4) (c := k7c4) (by decide +kernel) rfl rfl rfl (by decide +kernel)
set_option maxRecDepth 65536 in
theorem w_c17 : (Jvm.Cond.code ({ cls := "com/example/neith/neith/io/XmlOutput", name := "isXmlChar", desc := "(I)Z" } : Jvm.MethodName) prog_18_method_22_code (1 : Nat) (Option.some Jvm.ClassFile.FieldType.boolean)).before args0 about1 = true := code_word (m := ⟨9, 1⟩) (meth := k9m1) (c := k9c1) (by decide +kernel) rfl rfl rfl (by decide +kernel)
set_option maxRecDepth 65536 in
theorem w_c18 : (Jvm.Cond.code ({ cls := "java/lang/Character", name := "charCount", desc := "(I)I" } : Jvm.MethodName) jdk_89_method_18_code (1 : Nat) (Option.some Jvm.ClassFile.FieldType.int)).before args0 about1 = true := code_word (m := ⟨12, 2⟩) (meth := k12m2) (c := k12c2) (by decide +kernel) rfl rfl rfl (by decide +kernel)
set_option maxRecDepth 65536 in
theorem w_c19 : (Jvm.Cond.code ({ cls := "com/example/neith/neith/io/XmlOutputForbiddenCharacterPinLaw", name := "ref", desc := "([CI)I" } : Jvm.MethodName) method_7_code (4 : Nat) (Option.some Jvm.ClassFile.FieldType.int)).before args0 about1 = true := code_word (m := ⟨1, 6⟩) (meth := k1m6) (c := k1c6) (by decide +kernel) rfl rfl rfl (by decide +kernel)
set_option maxRecDepth 65536 in
theorem w_c20 : (Jvm.Cond.code ({ cls := "com/example/neith/neith/io/XmlOutputForbiddenCharacterPinLaw", name := "bad", desc := "([CII)I" } : Jvm.MethodName) method_5_code (3 : Nat) (Option.some Jvm.ClassFile.FieldType.int)).before args0 about1 = true := code_word (m := ⟨1, 4⟩) (meth := k1m4) (c := k1c4) (by decide +kernel) rfl rfl rfl (by decide +kernel)
set_option maxRecDepth 65536 in
theorem w_c21 : (Jvm.Cond.code ({ cls := "com/example/neith/neith/io/XmlOutputForbiddenCharacterPinLaw", name := "pair", desc := "([CII)Z" } : Jvm.MethodName) method_4_code (3 : Nat) (Option.some Jvm.ClassFile.FieldType.boolean)).before args0 about1 = true := code_word (m := ⟨1, 3⟩) (meth := k1m3) (c := k1c3) (by decide +kernel) rfl rfl rfl (by decide +kernel)
set_option maxRecDepth 65536 in
theorem w_c22 : (Jvm.Cond.code ({ cls := "com/example/neith/neith/io/XmlOutputForbiddenCharacterPinLaw", name := "okBmp", desc := "(C)Z" } : Jvm.MethodName) method_3_code (1 : Nat) (Option.some Jvm.ClassFile.FieldType.boolean)).before args0 about1 = true := code_word (m := ⟨1, 2⟩) (meth := k1m2) (c := k1c2) (by decide +kernel) rfl rfl rfl (by decide +kernel)
set_option maxRecDepth 65536 in
theorem w_c23 : (Jvm.Cond.code ({ cls := "com/example/neith/neith/io/XmlOutputForbiddenCharacterPinLaw", name := "next", desc := "([CII)I" } : Jvm.MethodName) method_6_code (3 : Nat) (Option.some Jvm.ClassFile.FieldType.int)).before args0 about1 = true := code_word (m := ⟨1, 5⟩) (meth := k1m5) (c := k1c5) (by decide +kernel) rfl rfl rfl (by decide +kernel)
set_option maxRecDepth 65536 in
theorem w_c24 : (Jvm.Cond.code ({ cls := "java/lang/StringUTF16", name := "toBytes", desc := "([CII)[B" } : Jvm.MethodName) jdk_52_method_14_code (5 : Nat) (Option.some (Jvm.ClassFile.FieldType.array Jvm.ClassFile.FieldType.byte))).before args0 about1 = true := code_word (m := ⟨8, 8⟩) (meth := k8m8) (c := k8c8) (by decide +kernel) rfl rfl rfl (by decide +kernel)
set_option maxRecDepth 65536 in
theorem w_c25 : (Jvm.Cond.code ({ cls := "java/lang/StringUTF16", name := "newBytesFor", desc := "(I)[B" } : Jvm.MethodName) jdk_52_method_2_code (1 : Nat) (Option.some (Jvm.ClassFile.FieldType.array Jvm.ClassFile.FieldType.byte))).before args0 about1 = true := code_word (m := ⟨8, 1⟩) (meth := k8m1) (c := k8c1) (by decide +kernel) rfl rfl rfl (by decide +kernel)
set_option maxRecDepth 65536 in
theorem w_c26 : (Jvm.Cond.code ({ cls := "java/lang/StringUTF16", name := "newBytesLength", desc := "(I)I" } : Jvm.MethodName) jdk_52_method_3_code (1 : Nat) (Option.some Jvm.ClassFile.FieldType.int)).before args0 about1 = true := code_word (m := ⟨8, 2⟩) (meth := k8m2) (c := k8c2) (by decide +kernel) rfl rfl rfl (by decide +kernel)
set_option maxRecDepth 65536 in
theorem w_c27 : (Jvm.Cond.code ({ cls := "java/lang/StringUTF16", name := "putChar", desc := "([BII)V" } : Jvm.MethodName) jdk_52_method_4_code (3 : Nat) (Option.none : Option Jvm.ClassFile.FieldType)).before args0 about1 = true := code_word (m := ⟨8, 3⟩) (meth := k8m3) (c := k8c3) (by decide +kernel) rfl rfl rfl (by decide +kernel)
set_option maxRecDepth 65536 in
theorem w_c28 : (Jvm.Cond.code ({ cls := "java/lang/StringUTF16", name := "getChar", desc := "([BI)C" } : Jvm.MethodName) jdk_52_method_5_code (2 : Nat) (Option.some Jvm.ClassFile.FieldType.char)).before args0 about1 = true := code_word (m := ⟨8, 4⟩) (meth := k8m4) (c := k8c4) (by decide +kernel) rfl rfl rfl (by decide +kernel)
set_option maxRecDepth 65536 in
theorem w_c29 : (Jvm.Cond.code ({ cls := "java/lang/StringUTF16", name := "charAt", desc := "([BI)C" } : Jvm.MethodName) jdk_52_method_83_code (2 : Nat) (Option.some Jvm.ClassFile.FieldType.char)).before args0 about1 = true := code_word (m := ⟨8, 12⟩) (meth := k8m12) (c := k8c12) (by decide +kernel) rfl rfl rfl (by decide +kernel)
set_option maxRecDepth 65536 in
theorem w_c30 : (Jvm.Cond.code ({ cls := "java/lang/StringUTF16", name := "checkIndex", desc := "(I[B)V" } : Jvm.MethodName) jdk_52_method_91_code (2 : Nat) (Option.none : Option Jvm.ClassFile.FieldType)).before args0 about1 = true := code_word (m := ⟨8, 13⟩) (meth := k8m13) (c := k8c13) (by decide +kernel) rfl rfl rfl (by decide +kernel)
set_option maxRecDepth 65536 in
theorem w_c31 : (Jvm.Cond.code ({ cls := "java/lang/StringUTF16", name := "length", desc := "([B)I" } : Jvm.MethodName) jdk_52_method_6_code (1 : Nat) (Option.some Jvm.ClassFile.FieldType.int)).before args0 about1 = true := code_word (m := ⟨8, 5⟩) (meth := k8m5) (c := k8c5) (by decide +kernel) rfl rfl rfl (by decide +kernel)
set_option maxRecDepth 65536 in
theorem w_c32 : (Jvm.Cond.code ({ cls := "java/lang/StringUTF16", name := "codePointAt", desc := "([BII)I" } : Jvm.MethodName) jdk_52_method_8_code (3 : Nat) (Option.some Jvm.ClassFile.FieldType.int)).before args0 about1 = true := code_word (m := ⟨8, 7⟩) (meth := k8m7) (c := k8c7) (by decide +kernel) rfl rfl rfl (by decide +kernel)
set_option maxRecDepth 65536 in
theorem w_c33 : (Jvm.Cond.code ({ cls := "java/lang/StringUTF16", name := "codePointAt", desc := "([BIIZ)I" } : Jvm.MethodName) jdk_52_method_7_code (6 : Nat) (Option.some Jvm.ClassFile.FieldType.int)).before args0 about1 = true := code_word (m := ⟨8, 6⟩) (meth := k8m6) (c := k8c6) (by decide +kernel) rfl rfl rfl (by decide +kernel)
set_option maxRecDepth 65536 in
theorem w_c34 : (Jvm.Cond.code ({ cls := "java/lang/Character", name := "isHighSurrogate", desc := "(C)Z" } : Jvm.MethodName) jdk_89_method_14_code (1 : Nat) (Option.some Jvm.ClassFile.FieldType.boolean)).before args0 about1 = true := code_word (m := ⟨12, 0⟩) (meth := k12m0) (c := k12c0) (by decide +kernel) rfl rfl rfl (by decide +kernel)
set_option maxRecDepth 65536 in
theorem w_c35 : (Jvm.Cond.code ({ cls := "java/lang/Character", name := "isLowSurrogate", desc := "(C)Z" } : Jvm.MethodName) jdk_89_method_15_code (1 : Nat) (Option.some Jvm.ClassFile.FieldType.boolean)).before args0 about1 = true := code_word (m := ⟨12, 1⟩) (meth := k12m1) (c := k12c1) (by decide +kernel) rfl rfl rfl (by decide +kernel)
set_option maxRecDepth 65536 in
theorem w_c36 : (Jvm.Cond.code ({ cls := "java/lang/Character", name := "toCodePoint", desc := "(CC)I" } : Jvm.MethodName) jdk_89_method_19_code (2 : Nat) (Option.some Jvm.ClassFile.FieldType.int)).before args0 about1 = true := code_word (m := ⟨12, 3⟩) (meth := k12m3) (c := k12c3) (by decide +kernel) rfl rfl rfl (by decide +kernel)
def codes1 : List Jvm.Cond := [Jvm.Cond.code x code maxLocals ret, Jvm.Cond.code ({ cls := "com/example/neith/neith/io/XmlOutputForbiddenCharacterPinLaw", name := "draw", desc := "(I)C" } : Jvm.MethodName) method_2_code (2 : Nat) (Option.some Jvm.ClassFile.FieldType.char), Jvm.Cond.code ({ cls := "java/lang/String", name := "<init>", desc := "([C)V" } : Jvm.MethodName) jdk_42_method_3_code (2 : Nat) (Option.none : Option Jvm.ClassFile.FieldType), Jvm.Cond.code ({ cls := "java/lang/String", name := "<init>", desc := "([CIILjava/lang/Void;)V" } : Jvm.MethodName) jdk_42_method_149_code (6 : Nat) (Option.none : Option Jvm.ClassFile.FieldType), Jvm.Cond.code ({ cls := "java/lang/Object", name := "<init>", desc := "()V" } : Jvm.MethodName) object_method_1_code (1 : Nat) (Option.none : Option Jvm.ClassFile.FieldType), Jvm.Cond.code ({ cls := "java/lang/StringUTF16", name := "compress", desc := "([CII)[B" } : Jvm.MethodName) jdk_52_method_16_code (6 : Nat) (Option.some (Jvm.ClassFile.FieldType.array Jvm.ClassFile.FieldType.byte)), Jvm.Cond.code ({ cls := "java/lang/StringUTF16", name := "compress", desc := "([CI[BII)I" } : Jvm.MethodName) jdk_52_method_21_code (7 : Nat) (Option.some Jvm.ClassFile.FieldType.int), Jvm.Cond.code ({ cls := "java/lang/StringUTF16", name := "coderFromArrayLen", desc := "([BI)B" } : Jvm.MethodName) jdk_52_method_15_code (2 : Nat) (Option.some Jvm.ClassFile.FieldType.byte), Jvm.Cond.code ({ cls := "com/example/neith/neith/io/XmlOutput", name := "forbiddenCharacter", desc := "(Ljava/lang/String;)I" } : Jvm.MethodName) prog_18_method_3_code (5 : Nat) (Option.some Jvm.ClassFile.FieldType.int), Jvm.Cond.code ({ cls := "java/lang/String", name := "length", desc := "()I" } : Jvm.MethodName) jdk_42_method_54_code (1 : Nat) (Option.some Jvm.ClassFile.FieldType.int), Jvm.Cond.code ({ cls := "java/lang/String", name := "coder", desc := "()B" } : Jvm.MethodName) jdk_42_method_152_code (1 : Nat) (Option.some Jvm.ClassFile.FieldType.byte), Jvm.Cond.code ({ cls := "java/lang/String", name := "charAt", desc := "(I)C" } : Jvm.MethodName) jdk_42_method_56_code (2 : Nat) (Option.some Jvm.ClassFile.FieldType.char), Jvm.Cond.code ({ cls := "java/lang/String", name := "isLatin1", desc := "()Z" } : Jvm.MethodName) jdk_42_method_154_code (1 : Nat) (Option.some Jvm.ClassFile.FieldType.boolean), Jvm.Cond.code ({ cls := "java/lang/StringLatin1", name := "charAt", desc := "([BI)C" } : Jvm.MethodName) jdk_43_method_2_code (2 : Nat) (Option.some Jvm.ClassFile.FieldType.char), Jvm.Cond.code ({ cls := "java/lang/String", name := "checkIndex", desc := "(II)V" } : Jvm.MethodName) jdk_42_method_155_code (2 : Nat) (Option.none : Option Jvm.ClassFile.FieldType), Jvm.Cond.code ({ cls := "jdk/internal/util/Preconditions", name := "checkIndex", desc := "(IILjava/util/function/BiFunction;)I" } : Jvm.MethodName) jdk_41_method_11_code (3 : Nat) (Option.some Jvm.ClassFile.FieldType.int), Jvm.Cond.code ({ cls := "java/lang/String", name := "codePointAt", desc := "(I)I" } : Jvm.MethodName) jdk_42_method_57_code (3 : Nat) (Option.some Jvm.ClassFile.FieldType.int), Jvm.Cond.code ({ cls := "com/example/neith/neith/io/XmlOutput", name := "isXmlChar", desc := "(I)Z" } : Jvm.MethodName) prog_18_method_22_code (1 : Nat) (Option.some Jvm.ClassFile.FieldType.boolean), Jvm.Cond.code ({ cls := "java/lang/Character", name := "charCount", desc := "(I)I" } : Jvm.MethodName) jdk_89_method_18_code (1 : Nat) (Option.some Jvm.ClassFile.FieldType.int), Jvm.Cond.code ({ cls := "com/example/neith/neith/io/XmlOutputForbiddenCharacterPinLaw", name := "ref", desc := "([CI)I" } : Jvm.MethodName) method_7_code (4 : Nat) (Option.some Jvm.ClassFile.FieldType.int), Jvm.Cond.code ({ cls := "com/example/neith/neith/io/XmlOutputForbiddenCharacterPinLaw", name := "bad", desc := "([CII)I" } : Jvm.MethodName) method_5_code (3 : Nat) (Option.some Jvm.ClassFile.FieldType.int), Jvm.Cond.code ({ cls := "com/example/neith/neith/io/XmlOutputForbiddenCharacterPinLaw", name := "pair", desc := "([CII)Z" } : Jvm.MethodName) method_4_code (3 : Nat) (Option.some Jvm.ClassFile.FieldType.boolean), Jvm.Cond.code ({ cls := "com/example/neith/neith/io/XmlOutputForbiddenCharacterPinLaw", name := "okBmp", desc := "(C)Z" } : Jvm.MethodName) method_3_code (1 : Nat) (Option.some Jvm.ClassFile.FieldType.boolean), Jvm.Cond.code ({ cls := "com/example/neith/neith/io/XmlOutputForbiddenCharacterPinLaw", name := "next", desc := "([CII)I" } : Jvm.MethodName) method_6_code (3 : Nat) (Option.some Jvm.ClassFile.FieldType.int), Jvm.Cond.code ({ cls := "java/lang/StringUTF16", name := "toBytes", desc := "([CII)[B" } : Jvm.MethodName) jdk_52_method_14_code (5 : Nat) (Option.some (Jvm.ClassFile.FieldType.array Jvm.ClassFile.FieldType.byte)), Jvm.Cond.code ({ cls := "java/lang/StringUTF16", name := "newBytesFor", desc := "(I)[B" } : Jvm.MethodName) jdk_52_method_2_code (1 : Nat) (Option.some (Jvm.ClassFile.FieldType.array Jvm.ClassFile.FieldType.byte)), Jvm.Cond.code ({ cls := "java/lang/StringUTF16", name := "newBytesLength", desc := "(I)I" } : Jvm.MethodName) jdk_52_method_3_code (1 : Nat) (Option.some Jvm.ClassFile.FieldType.int), Jvm.Cond.code ({ cls := "java/lang/StringUTF16", name := "putChar", desc := "([BII)V" } : Jvm.MethodName) jdk_52_method_4_code (3 : Nat) (Option.none : Option Jvm.ClassFile.FieldType), Jvm.Cond.code ({ cls := "java/lang/StringUTF16", name := "getChar", desc := "([BI)C" } : Jvm.MethodName) jdk_52_method_5_code (2 : Nat) (Option.some Jvm.ClassFile.FieldType.char), Jvm.Cond.code ({ cls := "java/lang/StringUTF16", name := "charAt", desc := "([BI)C" } : Jvm.MethodName) jdk_52_method_83_code (2 : Nat) (Option.some Jvm.ClassFile.FieldType.char), Jvm.Cond.code ({ cls := "java/lang/StringUTF16", name := "checkIndex", desc := "(I[B)V" } : Jvm.MethodName) jdk_52_method_91_code (2 : Nat) (Option.none : Option Jvm.ClassFile.FieldType), Jvm.Cond.code ({ cls := "java/lang/StringUTF16", name := "length", desc := "([B)I" } : Jvm.MethodName) jdk_52_method_6_code (1 : Nat) (Option.some Jvm.ClassFile.FieldType.int), Jvm.Cond.code ({ cls := "java/lang/StringUTF16", name := "codePointAt", desc := "([BII)I" } : Jvm.MethodName) jdk_52_method_8_code (3 : Nat) (Option.some Jvm.ClassFile.FieldType.int), Jvm.Cond.code ({ cls := "java/lang/StringUTF16", name := "codePointAt", desc := "([BIIZ)I" } : Jvm.MethodName) jdk_52_method_7_code (6 : Nat) (Option.some Jvm.ClassFile.FieldType.int), Jvm.Cond.code ({ cls := "java/lang/Character", name := "isHighSurrogate", desc := "(C)Z" } : Jvm.MethodName) jdk_89_method_14_code (1 : Nat) (Option.some Jvm.ClassFile.FieldType.boolean), Jvm.Cond.code ({ cls := "java/lang/Character", name := "isLowSurrogate", desc := "(C)Z" } : Jvm.MethodName) jdk_89_method_15_code (1 : Nat) (Option.some Jvm.ClassFile.FieldType.boolean), Jvm.Cond.code ({ cls := "java/lang/Character", name := "toCodePoint", desc := "(CC)I" } : Jvm.MethodName) jdk_89_method_19_code (2 : Nat) (Option.some Jvm.ClassFile.FieldType.int)]
set_option maxRecDepth 65536 in
theorem codes_eq : words1.filter isCode = codes1 := rfl
theorem w_codes : ∀ c ∈ words1.filter isCode, c.before args0 about1 = true := by
  rw [codes_eq]
  intro c hc
  simp only [codes1, List.mem_cons, List.not_mem_nil, or_false] at hc
  rcases hc with rfl | rfl | rfl | rfl | rfl | rfl | rfl | rfl | rfl | rfl | rfl | rfl | rfl | rfl | rfl | rfl | rfl | rfl | rfl | rfl | rfl | rfl | rfl | rfl | rfl | rfl | rfl | rfl | rfl | rfl | rfl | rfl | rfl | rfl | rfl | rfl | rfl
  · exact w_c0
  · exact w_c1
  · exact w_c2
  · exact w_c3
  · exact w_c4
  · exact w_c5
  · exact w_c6
  · exact w_c7
  · exact w_c8
  · exact w_c9
  · exact w_c10
  · exact w_c11
  · exact w_c12
  · exact w_c13
  · exact w_c14
  · exact w_c15
  · exact w_c16
  · exact w_c17
  · exact w_c18
  · exact w_c19
  · exact w_c20
  · exact w_c21
  · exact w_c22
  · exact w_c23
  · exact w_c24
  · exact w_c25
  · exact w_c26
  · exact w_c27
  · exact w_c28
  · exact w_c29
  · exact w_c30
  · exact w_c31
  · exact w_c32
  · exact w_c33
  · exact w_c34
  · exact w_c35
  · exact w_c36
set_option maxRecDepth 65536 in
theorem w_t1 : (words1.take 24).all (fun c => isCode c || c.before args0 about1) = true := by decide +kernel
set_option maxRecDepth 65536 in
theorem w_t2 : ((words1.drop 24).take 24).all (fun c => isCode c || c.before args0 about1) = true := by decide +kernel
set_option maxRecDepth 65536 in
theorem w_t3 : (((words1.drop 24).drop 24).take 24).all (fun c => isCode c || c.before args0 about1) = true := by decide +kernel
set_option maxRecDepth 65536 in
theorem w_t4 : ((((words1.drop 24).drop 24).drop 24).take 24).all (fun c => isCode c || c.before args0 about1) = true := by decide +kernel
set_option maxRecDepth 65536 in
theorem w_t5 : (((((words1.drop 24).drop 24).drop 24).drop 24).take 24).all (fun c => isCode c || c.before args0 about1) = true := by decide +kernel
set_option maxRecDepth 65536 in
theorem w_t6 : ((((((words1.drop 24).drop 24).drop 24).drop 24).drop 24).take 24).all (fun c => isCode c || c.before args0 about1) = true := by decide +kernel
set_option maxRecDepth 65536 in
theorem w_t7 : ((((((words1.drop 24).drop 24).drop 24).drop 24).drop 24).drop 24).all (fun c => isCode c || c.before args0 about1) = true := by decide +kernel
theorem w_tables : (allAtoms (Jvm.Cond.code x code maxLocals ret :: tables_1)).before args0 about1 = true := by
  rw [allAtoms_all]
  show words1.all (fun c => c.before args0 about1) = true
  refine all_split ?_ w_codes
  rw [← List.take_append_drop 24 words1, List.all_append, w_t1, ← List.take_append_drop 24 (words1.drop 24), List.all_append, w_t2, ← List.take_append_drop 24 ((words1.drop 24).drop 24), List.all_append, w_t3, ← List.take_append_drop 24 (((words1.drop 24).drop 24).drop 24), List.all_append, w_t4, ← List.take_append_drop 24 ((((words1.drop 24).drop 24).drop 24).drop 24), List.all_append, w_t5, ← List.take_append_drop 24 (((((words1.drop 24).drop 24).drop 24).drop 24).drop 24), List.all_append, w_t6, w_t7]
  rfl
set_option maxRecDepth 65536 in
theorem w_rest : rest_1_c.before args0 about1 = true := by decide +kernel
set_option maxRecDepth 65536 in
theorem w_case : (Jvm.Cond.and given_1 narrow_1).before args0 about1 = true := by decide +kernel
set_option maxRecDepth 65536 in
theorem w_consts : constsHeld consts_1 about1 := Jvm.Lit.constsHeldB_iff.mp (by decide +kernel)
theorem w_applies : (headSpec (Jvm.Cond.code x code maxLocals ret :: tables_1) room_1).applies x e0.platform about1 = true :=
  (Spec.applies_iff w_frames).mpr ⟨w_running, w_runnable, w_alone, w_named, w_hears, w_ripe, w_room, w_tables⟩
theorem atStart : AtStart classFile x code maxLocals ret World_1 tables_1 room_1 Calls_1 rest_1 Pre_1 launch0 p0 e0 about1 theMethod args0 below0 :=
  ⟨lists_1, trivial, launch0.admits_env _ _ _, launch0.least_env, fairChoices_fair.cas, fairChoices_fair.clock, w_frames, w_args, w_heap, w_applies, ⟨w_consts, trivial⟩, w_rest, w_case⟩
end start1
theorem witness_1 : WitnessClaimed_1 := ⟨start1.p0, start1.e0, start1.about1, start1.theMethod, start1.args0, start1.below0, start1.atStart⟩
end Jvm.Pilot.@@N@@
