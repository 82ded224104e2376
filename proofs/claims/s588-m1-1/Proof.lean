import JvmDerived
import JvmDerived.Pilot.@@N@@Statement
import JvmDerived.Pilot.@@N@@Code
set_option linter.unusedVariables false
set_option linter.unusedSimpArgs false
namespace Jvm.RoadKit
open Sem ClassFile Op Lib Jvm.Stand Jvm.Free Jvm.LawKit
section New
variable {p : Program} {l : Launch} {e : Env} {R : Room} {s : State} {m : MethodId} {args : Array Value} {below : List Frame} {meth : Method} {c : Code} {T : State} {locs : List Loc} {cells slots : Nat}
theorem retI (X : Stand p l e R s m args below meth c T locs cells slots) (hx : p.tables.exec = Jvm.exec) {pc : Nat} {Ls : Array Slot} {z : Int32} {rest : List Value} (hret : meth.sig.returnType = some .int) (hd : decode c.code pc = .ok (.ireturn, 1)) {fs : List Frame}
    (hl : ∀ (f : JFrame) (acts : List Action), f.method = m → f.locked = none → f.entered = [] → (doReturn e (T.setTop f) acts (some (.int z))).1 = T.setFrames fs) : Steps p.tables e below (T.setTop (mkF m pc Ls (.int z :: rest))) (T.setFrames fs) := by
  have hm' : T.vm.method? m = some meth := X.method'
  have hn : narrow .int (.int z) = .int z := rfl
  show Steps p.tables e below (T.setTop { method := m, pc := pc, locals := Ls, stack := _ :: rest, locked := none }) _
  jvm_step X.here [X.here.top, hx, hd, hm', hret, hn]
  first | (intro acts; rw [hl _ acts rfl rfl rfl]) | rw [hl _ _ rfl rfl rfl]
  exact Steps.refl _
end New
end Jvm.RoadKit
namespace Jvm.Pilot.@@N@@
set_option maxRecDepth 65536
set_option maxHeartbeats 40000000
open Jvm Jvm.ClassFile Sem Op Lib Jvm.Free Jvm.Stand Jvm.LawKit Jvm.RoadKit Bundle Jvm.Pilot.@@N@@.Jvm.D
section OwnKit
variable {p : Program} {l : Launch} {e : Env} {R : Room} {s : State} {m : MethodId} {args : Array Value} {below : List Frame} {meth : Method} {c : Code} {T : State} {locs : List Loc} {cells slots : Nat} {Z : State} {a0 : Array Value} {h : Heap} {P : Outcome → State → Prop} {pc pc' pc1 pc2 : Nat} {L L' : Array Slot} {S : List Value}
/-- the run from U comes to an end that P holds of -/
def OG (p : Program) (e : Env) (below : List Frame) (P : Outcome → State → Prop) (U : State) : Prop := ∃ s₂ o, Steps p.tables e below U s₂ ∧ s₂.status = .running ∧ Ended s₂ below o ∧ P o s₂
theorem OG.of {U U' : State} (k : ∀ t, Steps p.tables e below U' t → Steps p.tables e below U t) (h : OG p e below P U') : OG p e below P U := by
  obtain ⟨t, o, h1, h2⟩ := h; exact ⟨t, o, k t h1, h2⟩
theorem OG.cast {g g' : JFrame} (q : g = g') (k : OG p e below P (T.setTop g')) : OG p e below P (T.setTop g) := q ▸ k
theorem og_isub (X : Stand p l e R s m args below meth c T locs cells slots) (hx : p.tables.exec = Jvm.exec) {x y : Int32} (hd : decode c.code pc = .ok (.isub, 1)) (hp : pc + 1 = pc') (k : OG p e below P (T.setTop (mkF m pc' L (.int (x - y) :: S)))) : OG p e below P (T.setTop (mkF m pc L (.int y :: .int x :: S))) := by
  subst hp; exact OG.of (fun t k => XS.isub X.here hx rfl hd rfl k) k
theorem og_iand (X : Stand p l e R s m args below meth c T locs cells slots) (hx : p.tables.exec = Jvm.exec) {x y : Int32} (hd : decode c.code pc = .ok (.iand, 1)) (hp : pc + 1 = pc') (k : OG p e below P (T.setTop (mkF m pc' L (.int (x &&& y) :: S)))) : OG p e below P (T.setTop (mkF m pc L (.int y :: .int x :: S))) := by
  subst hp; exact OG.of (fun t k => XS.iand X.here hx rfl hd rfl k) k
theorem og_ishr (X : Stand p l e R s m args below meth c T locs cells slots) (hx : p.tables.exec = Jvm.exec) {x y : Int32} (hd : decode c.code pc = .ok (.ishr, 1)) (hp : pc + 1 = pc') (k : OG p e below P (T.setTop (mkF m pc' L (.int (x >>> (y &&& 31)) :: S)))) : OG p e below P (T.setTop (mkF m pc L (.int y :: .int x :: S))) := by
  subst hp; exact OG.of (fun t k => XS.ishr X.here hx rfl hd rfl k) k
theorem og_iushr (X : Stand p l e R s m args below meth c T locs cells slots) (hx : p.tables.exec = Jvm.exec) {x y : Int32} (hd : decode c.code pc = .ok (.iushr, 1)) (hp : pc + 1 = pc') (k : OG p e below P (T.setTop (mkF m pc' L (.int ((x.toUInt32 >>> (y &&& 31).toUInt32).toInt32) :: S)))) : OG p e below P (T.setTop (mkF m pc L (.int y :: .int x :: S))) := by
  subst hp; exact OG.of (fun t k => XS.iushr X.here hx rfl hd rfl k) k
theorem og_i2b (X : Stand p l e R s m args below meth c T locs cells slots) (hx : p.tables.exec = Jvm.exec) {x : Int32} (hd : decode c.code pc = .ok (.i2b, 1)) (hp : pc + 1 = pc') (k : OG p e below P (T.setTop (mkF m pc' L (.int (x.toInt8.toInt32) :: S)))) : OG p e below P (T.setTop (mkF m pc L (.int x :: S))) := by
  subst hp; exact OG.of (fun t k => XS.i2b X.here hx rfl hd rfl k) k
theorem og_i2c (X : Stand p l e R s m args below meth c T locs cells slots) (hx : p.tables.exec = Jvm.exec) {x : Int32} (hd : decode c.code pc = .ok (.i2c, 1)) (hp : pc + 1 = pc') (k : OG p e below P (T.setTop (mkF m pc' L (.int (x.toUInt32.toUInt16.toUInt32.toInt32) :: S)))) : OG p e below P (T.setTop (mkF m pc L (.int x :: S))) := by
  subst hp; exact OG.of (fun t k => XS.i2c X.here hx rfl hd rfl k) k
theorem og_iconst (X : Stand p l e R s m args below meth c T locs cells slots) (hx : p.tables.exec = Jvm.exec) {i : Int} {v : Int32} (hv : Int32.ofInt i = v) (hd : decode c.code pc = .ok (.iconst i, 1)) (hp : pc + 1 = pc') (k : OG p e below P (T.setTop (mkF m pc' L (.int v :: S)))) : OG p e below P (T.setTop (mkF m pc L S)) := by
  subst hp; exact OG.of (fun t k => XS.iconst X.here hx rfl hd (hv ▸ k)) k
theorem og_bipush (X : Stand p l e R s m args below meth c T locs cells slots) (hx : p.tables.exec = Jvm.exec) {i : Int} {v : Int32} (hv : (Int8.ofInt i).toInt32 = v) (hd : decode c.code pc = .ok (.bipush i, 2)) (hp : pc + 2 = pc') (k : OG p e below P (T.setTop (mkF m pc' L (.int v :: S)))) : OG p e below P (T.setTop (mkF m pc L S)) := by
  subst hp; exact OG.of (fun t k => XS.bipush X.here hx rfl hd (hv ▸ k)) k
theorem og_sipush (X : Stand p l e R s m args below meth c T locs cells slots) (hx : p.tables.exec = Jvm.exec) {i : Int} {v : Int32} (hv : (Int16.ofInt i).toInt32 = v) (hd : decode c.code pc = .ok (.sipush i, 3)) (hp : pc + 3 = pc') (k : OG p e below P (T.setTop (mkF m pc' L (.int v :: S)))) : OG p e below P (T.setTop (mkF m pc L S)) := by
  subst hp; exact OG.of (fun t k => XS.sipush X.here hx rfl hd (hv ▸ k)) k
theorem og_aconst_null (X : Stand p l e R s m args below meth c T locs cells slots) (hx : p.tables.exec = Jvm.exec)  (hd : decode c.code pc = .ok (.aconst_null, 1)) (hp : pc + 1 = pc') (k : OG p e below P (T.setTop (mkF m pc' L (.null :: S)))) : OG p e below P (T.setTop (mkF m pc L S)) := by
  subst hp; exact OG.of (fun t k => XS.aconstNull X.here hx rfl hd k) k
theorem og_iload (X : Stand p l e R s m args below meth c T locs cells slots) (hx : p.tables.exec = Jvm.exec) {j : Nat} {v : Int32} (hl : L[j]? = some (.val (.int v))) (hd : decode c.code pc = .ok (.iload j, 2)) (hp : pc + 2 = pc') (k : OG p e below P (T.setTop (mkF m pc' L (.int v :: S)))) : OG p e below P (T.setTop (mkF m pc L S)) := by
  subst hp; exact OG.of (fun t k => XS.iload X.here hx rfl hd hl k) k
theorem og_iloadN (X : Stand p l e R s m args below meth c T locs cells slots) (hx : p.tables.exec = Jvm.exec) {j : Fin 4} {v : Int32} (hl : L[j.val]? = some (.val (.int v))) (hd : decode c.code pc = .ok (.iload_n j, 1)) (hp : pc + 1 = pc') (k : OG p e below P (T.setTop (mkF m pc' L (.int v :: S)))) : OG p e below P (T.setTop (mkF m pc L S)) := by
  subst hp; exact OG.of (fun t k => XS.iloadN X.here hx rfl hd hl k) k
theorem og_istore (X : Stand p l e R s m args below meth c T locs cells slots) (hx : p.tables.exec = Jvm.exec) {j : Nat} {v : Int32} (hl : storeLocals L j (.int v) = some L') (hd : decode c.code pc = .ok (.istore j, 2)) (hp : pc + 2 = pc') (k : OG p e below P (T.setTop (mkF m pc' L' S))) : OG p e below P (T.setTop (mkF m pc L (.int v :: S))) := by
  subst hp; exact OG.of (fun t k => XS.istore X.here hx rfl hd rfl hl k) k
theorem og_istoreN (X : Stand p l e R s m args below meth c T locs cells slots) (hx : p.tables.exec = Jvm.exec) {j : Fin 4} {v : Int32} (hl : storeLocals L j.val (.int v) = some L') (hd : decode c.code pc = .ok (.istore_n j, 1)) (hp : pc + 1 = pc') (k : OG p e below P (T.setTop (mkF m pc' L' S))) : OG p e below P (T.setTop (mkF m pc L (.int v :: S))) := by
  subst hp; exact OG.of (fun t k => XS.istoreN X.here hx rfl hd rfl hl k) k
theorem og_aload (X : Stand p l e R s m args below meth c T locs cells slots) (hx : p.tables.exec = Jvm.exec) {j : Nat} {v : Value} (hl : L[j]? = some (.val v)) (hv : v.isRef = true) (hd : decode c.code pc = .ok (.aload j, 2)) (hp : pc + 2 = pc') (k : OG p e below P (T.setTop (mkF m pc' L (v :: S)))) : OG p e below P (T.setTop (mkF m pc L S)) := by
  subst hp; exact OG.of (fun t k => XS.aload X.here hx rfl hd hl hv k) k
theorem og_aloadN (X : Stand p l e R s m args below meth c T locs cells slots) (hx : p.tables.exec = Jvm.exec) {j : Fin 4} {v : Value} (hl : L[j.val]? = some (.val v)) (hv : v.isRef = true) (hd : decode c.code pc = .ok (.aload_n j, 1)) (hp : pc + 1 = pc') (k : OG p e below P (T.setTop (mkF m pc' L (v :: S)))) : OG p e below P (T.setTop (mkF m pc L S)) := by
  subst hp; exact OG.of (fun t k => XS.aloadN X.here hx rfl hd hl hv k) k
theorem og_astore (X : Stand p l e R s m args below meth c T locs cells slots) (hx : p.tables.exec = Jvm.exec) {j : Nat} {v : Value} (hv : v.isRef = true) (hl : storeLocals L j v = some L') (hd : decode c.code pc = .ok (.astore j, 2)) (hp : pc + 2 = pc') (k : OG p e below P (T.setTop (mkF m pc' L' S))) : OG p e below P (T.setTop (mkF m pc L (v :: S))) := by
  subst hp; exact OG.of (fun t k => XS.astore X.here hx rfl hd rfl hv hl k) k
theorem og_astoreN (X : Stand p l e R s m args below meth c T locs cells slots) (hx : p.tables.exec = Jvm.exec) {j : Fin 4} {v : Value} (hv : v.isRef = true) (hl : storeLocals L j.val v = some L') (hd : decode c.code pc = .ok (.astore_n j, 1)) (hp : pc + 1 = pc') (k : OG p e below P (T.setTop (mkF m pc' L' S))) : OG p e below P (T.setTop (mkF m pc L (v :: S))) := by
  subst hp; exact OG.of (fun t k => XS.astoreN X.here hx rfl hd rfl hv hl k) k
theorem og_iinc (X : Stand p l e R s m args below meth c T locs cells slots) (hx : p.tables.exec = Jvm.exec) {j : Nat} {i : Int} {v w : Int32} (h1 : L[j]? = some (.val (.int v))) (hv : Int32.ofInt i = w) (hl : storeLocals L j (.int (v + w)) = some L') (hd : decode c.code pc = .ok (.iinc j i, 3)) (hp : pc + 3 = pc') (k : OG p e below P (T.setTop (mkF m pc' L' S))) : OG p e below P (T.setTop (mkF m pc L S)) := by
  subst hp; exact OG.of (fun t k => XS.iinc X.here hx rfl hd h1 (hv.symm ▸ hl) k) k
theorem og_dup (X : Stand p l e R s m args below meth c T locs cells slots) (hx : p.tables.exec = Jvm.exec) {v : Value} (hv : v.category = 1) (hd : decode c.code pc = .ok (.dup, 1)) (hp : pc + 1 = pc') (k : OG p e below P (T.setTop (mkF m pc' L (v :: v :: S)))) : OG p e below P (T.setTop (mkF m pc L (v :: S))) := by
  subst hp; exact OG.of (fun t k => XS.dup X.here hx rfl hd rfl hv k) k
theorem og_pop (X : Stand p l e R s m args below meth c T locs cells slots) (hx : p.tables.exec = Jvm.exec) {v : Value} (hv : v.category = 1) (hd : decode c.code pc = .ok (.pop, 1)) (hp : pc + 1 = pc') (k : OG p e below P (T.setTop (mkF m pc' L S))) : OG p e below P (T.setTop (mkF m pc L (v :: S))) := by
  subst hp; exact OG.of (fun t k => XS.pop X.here hx rfl hd rfl hv k) k
theorem og_goto (X : Stand p l e R s m args below meth c T locs cells slots) (hx : p.tables.exec = Jvm.exec) {o : Int} (hd : decode c.code pc = .ok (.goto o, 3)) (ho : 0 ≤ (pc : Int) + o) (hp : ((pc : Int) + o).toNat = pc') (k : OG p e below P (T.setTop (mkF m pc' L S))) : OG p e below P (T.setTop (mkF m pc L S)) :=
  OG.of (fun t k => XS.goto X.here hx rfl rfl hd ho hp k) k
theorem og_icmp_lt (X : Stand p l e R s m args below meth c T locs cells slots) (hx : p.tables.exec = Jvm.exec) {x y : Int32} {o : Int} (hd : decode c.code pc = .ok (.if_icmp .lt o, 3)) (ho : 0 ≤ (pc : Int) + o) (hp1 : ((pc : Int) + o).toNat = pc1) (hp2 : pc + 3 = pc2) (k1 : x < y → OG p e below P (T.setTop (mkF m pc1 L S))) (k2 : ¬ x < y → OG p e below P (T.setTop (mkF m pc2 L S))) : OG p e below P (T.setTop (mkF m pc L (.int y :: .int x :: S))) := by
  subst hp2; by_cases q : x < y
  · exact OG.of (fun t k => XS.icmpYes X.here hx rfl rfl hd rfl ((tlt q).1) ho hp1 k) (k1 q)
  · exact OG.of (fun t k => XS.icmpNo X.here hx rfl hd rfl ((flt q).1) k) (k2 q)
theorem og_if_lt (X : Stand p l e R s m args below meth c T locs cells slots) (hx : p.tables.exec = Jvm.exec) {x : Int32} {o : Int} (hd : decode c.code pc = .ok (.ifCond .lt o, 3)) (ho : 0 ≤ (pc : Int) + o) (hp1 : ((pc : Int) + o).toNat = pc1) (hp2 : pc + 3 = pc2) (k1 : x < (0 : Int32) → OG p e below P (T.setTop (mkF m pc1 L S))) (k2 : ¬ x < (0 : Int32) → OG p e below P (T.setTop (mkF m pc2 L S))) : OG p e below P (T.setTop (mkF m pc L (.int x :: S))) := by
  subst hp2; by_cases q : x < (0 : Int32)
  · exact OG.of (fun t k => XS.ifYes X.here hx rfl rfl hd rfl ((if0 _ _).trans (tlt q).1) ho hp1 k) (k1 q)
  · exact OG.of (fun t k => XS.ifNo X.here hx rfl hd rfl ((if0 _ _).trans (flt q).1) k) (k2 q)
theorem og_icmp_ge (X : Stand p l e R s m args below meth c T locs cells slots) (hx : p.tables.exec = Jvm.exec) {x y : Int32} {o : Int} (hd : decode c.code pc = .ok (.if_icmp .ge o, 3)) (ho : 0 ≤ (pc : Int) + o) (hp1 : ((pc : Int) + o).toNat = pc1) (hp2 : pc + 3 = pc2) (k1 : ¬ x < y → OG p e below P (T.setTop (mkF m pc1 L S))) (k2 : x < y → OG p e below P (T.setTop (mkF m pc2 L S))) : OG p e below P (T.setTop (mkF m pc L (.int y :: .int x :: S))) := by
  subst hp2; by_cases q : x < y
  · exact OG.of (fun t k => XS.icmpNo X.here hx rfl hd rfl ((tlt q).2.1) k) (k2 q)
  · exact OG.of (fun t k => XS.icmpYes X.here hx rfl rfl hd rfl ((flt q).2.1) ho hp1 k) (k1 q)
theorem og_if_ge (X : Stand p l e R s m args below meth c T locs cells slots) (hx : p.tables.exec = Jvm.exec) {x : Int32} {o : Int} (hd : decode c.code pc = .ok (.ifCond .ge o, 3)) (ho : 0 ≤ (pc : Int) + o) (hp1 : ((pc : Int) + o).toNat = pc1) (hp2 : pc + 3 = pc2) (k1 : ¬ x < (0 : Int32) → OG p e below P (T.setTop (mkF m pc1 L S))) (k2 : x < (0 : Int32) → OG p e below P (T.setTop (mkF m pc2 L S))) : OG p e below P (T.setTop (mkF m pc L (.int x :: S))) := by
  subst hp2; by_cases q : x < (0 : Int32)
  · exact OG.of (fun t k => XS.ifNo X.here hx rfl hd rfl ((if0 _ _).trans (tlt q).2.1) k) (k2 q)
  · exact OG.of (fun t k => XS.ifYes X.here hx rfl rfl hd rfl ((if0 _ _).trans (flt q).2.1) ho hp1 k) (k1 q)
theorem og_icmp_gt (X : Stand p l e R s m args below meth c T locs cells slots) (hx : p.tables.exec = Jvm.exec) {x y : Int32} {o : Int} (hd : decode c.code pc = .ok (.if_icmp .gt o, 3)) (ho : 0 ≤ (pc : Int) + o) (hp1 : ((pc : Int) + o).toNat = pc1) (hp2 : pc + 3 = pc2) (k1 : y < x → OG p e below P (T.setTop (mkF m pc1 L S))) (k2 : ¬ y < x → OG p e below P (T.setTop (mkF m pc2 L S))) : OG p e below P (T.setTop (mkF m pc L (.int y :: .int x :: S))) := by
  subst hp2; by_cases q : y < x
  · exact OG.of (fun t k => XS.icmpYes X.here hx rfl rfl hd rfl ((tlt q).2.2.1) ho hp1 k) (k1 q)
  · exact OG.of (fun t k => XS.icmpNo X.here hx rfl hd rfl ((flt q).2.2.1) k) (k2 q)
theorem og_icmp_le (X : Stand p l e R s m args below meth c T locs cells slots) (hx : p.tables.exec = Jvm.exec) {x y : Int32} {o : Int} (hd : decode c.code pc = .ok (.if_icmp .le o, 3)) (ho : 0 ≤ (pc : Int) + o) (hp1 : ((pc : Int) + o).toNat = pc1) (hp2 : pc + 3 = pc2) (k1 : ¬ y < x → OG p e below P (T.setTop (mkF m pc1 L S))) (k2 : y < x → OG p e below P (T.setTop (mkF m pc2 L S))) : OG p e below P (T.setTop (mkF m pc L (.int y :: .int x :: S))) := by
  subst hp2; by_cases q : y < x
  · exact OG.of (fun t k => XS.icmpNo X.here hx rfl hd rfl ((tlt q).2.2.2) k) (k2 q)
  · exact OG.of (fun t k => XS.icmpYes X.here hx rfl rfl hd rfl ((flt q).2.2.2) ho hp1 k) (k1 q)
theorem og_icmp_eq (X : Stand p l e R s m args below meth c T locs cells slots) (hx : p.tables.exec = Jvm.exec) {x y : Int32} {o : Int} (hd : decode c.code pc = .ok (.if_icmp .eq o, 3)) (ho : 0 ≤ (pc : Int) + o) (hp1 : ((pc : Int) + o).toNat = pc1) (hp2 : pc + 3 = pc2) (k1 : x = y → OG p e below P (T.setTop (mkF m pc1 L S))) (k2 : ¬ x = y → OG p e below P (T.setTop (mkF m pc2 L S))) : OG p e below P (T.setTop (mkF m pc L (.int y :: .int x :: S))) := by
  subst hp2; by_cases q : x = y
  · exact OG.of (fun t k => XS.icmpYes X.here hx rfl rfl hd rfl ((teq q).1) ho hp1 k) (k1 q)
  · exact OG.of (fun t k => XS.icmpNo X.here hx rfl hd rfl ((feq q).1) k) (k2 q)
theorem og_if_eq (X : Stand p l e R s m args below meth c T locs cells slots) (hx : p.tables.exec = Jvm.exec) {x : Int32} {o : Int} (hd : decode c.code pc = .ok (.ifCond .eq o, 3)) (ho : 0 ≤ (pc : Int) + o) (hp1 : ((pc : Int) + o).toNat = pc1) (hp2 : pc + 3 = pc2) (k1 : x = (0 : Int32) → OG p e below P (T.setTop (mkF m pc1 L S))) (k2 : ¬ x = (0 : Int32) → OG p e below P (T.setTop (mkF m pc2 L S))) : OG p e below P (T.setTop (mkF m pc L (.int x :: S))) := by
  subst hp2; by_cases q : x = (0 : Int32)
  · exact OG.of (fun t k => XS.ifYes X.here hx rfl rfl hd rfl ((if0 _ _).trans (teq q).1) ho hp1 k) (k1 q)
  · exact OG.of (fun t k => XS.ifNo X.here hx rfl hd rfl ((if0 _ _).trans (feq q).1) k) (k2 q)
theorem og_icmp_ne (X : Stand p l e R s m args below meth c T locs cells slots) (hx : p.tables.exec = Jvm.exec) {x y : Int32} {o : Int} (hd : decode c.code pc = .ok (.if_icmp .ne o, 3)) (ho : 0 ≤ (pc : Int) + o) (hp1 : ((pc : Int) + o).toNat = pc1) (hp2 : pc + 3 = pc2) (k1 : ¬ x = y → OG p e below P (T.setTop (mkF m pc1 L S))) (k2 : x = y → OG p e below P (T.setTop (mkF m pc2 L S))) : OG p e below P (T.setTop (mkF m pc L (.int y :: .int x :: S))) := by
  subst hp2; by_cases q : x = y
  · exact OG.of (fun t k => XS.icmpNo X.here hx rfl hd rfl ((teq q).2) k) (k2 q)
  · exact OG.of (fun t k => XS.icmpYes X.here hx rfl rfl hd rfl ((feq q).2) ho hp1 k) (k1 q)
theorem og_if_ne (X : Stand p l e R s m args below meth c T locs cells slots) (hx : p.tables.exec = Jvm.exec) {x : Int32} {o : Int} (hd : decode c.code pc = .ok (.ifCond .ne o, 3)) (ho : 0 ≤ (pc : Int) + o) (hp1 : ((pc : Int) + o).toNat = pc1) (hp2 : pc + 3 = pc2) (k1 : ¬ x = (0 : Int32) → OG p e below P (T.setTop (mkF m pc1 L S))) (k2 : x = (0 : Int32) → OG p e below P (T.setTop (mkF m pc2 L S))) : OG p e below P (T.setTop (mkF m pc L (.int x :: S))) := by
  subst hp2; by_cases q : x = (0 : Int32)
  · exact OG.of (fun t k => XS.ifNo X.here hx rfl hd rfl ((if0 _ _).trans (teq q).2) k) (k2 q)
  · exact OG.of (fun t k => XS.ifYes X.here hx rfl rfl hd rfl ((if0 _ _).trans (feq q).2) ho hp1 k) (k1 q)
theorem og_ifnonnull (X : Stand p l e R s m args below meth c T locs cells slots) (hx : p.tables.exec = Jvm.exec) {v : Value} (hv : v.isRef = true) {o : Int} (hd : decode c.code pc = .ok (.ifnonnull o, 3)) (ho : 0 ≤ (pc : Int) + o) (hp1 : ((pc : Int) + o).toNat = pc1) (hp2 : pc + 3 = pc2) (k1 : v ≠ .null → OG p e below P (T.setTop (mkF m pc1 L S))) (k2 : v = .null → OG p e below P (T.setTop (mkF m pc2 L S))) : OG p e below P (T.setTop (mkF m pc L (v :: S))) := by
  subst hp2; rcases ref_cases hv with rfl | ⟨b, rfl⟩
  · exact OG.of (fun t k => XS.ifnonnullNo X.here hx rfl hd rfl k) (k2 rfl)
  · exact OG.of (fun t k => XS.ifnonnullYes X.here hx rfl rfl hd rfl ho hp1 k) (k1 nofun)
theorem og_getstatic (X : Stand p l e R s m args below meth c T locs cells slots) (hx : p.tables.exec = Jvm.exec) (hZ : Z.Warmed39 s.vm) {own R0 O n d host : String} {index : Nat} (hown : s.vm.findClass own = some m.cls) (w : (Cond.fieldLink own index R0 n d).before a0 Z = true ∨ (Cond.fieldLinkNest own index R0 n d host).before a0 Z = true) (via : Via Z R0 O n d) (eT : T.heap = h) {v : Value} (F : Sta Z h O n d v) (hd : decode c.code pc = .ok (.getstatic index, 3)) (hp : pc + 3 = pc') (k : ∀ T', Stand p l e R s m args below meth c T' locs cells slots → T'.heap = h → OG p e below P (T'.setTop (mkF m pc' L (v :: S)))) : OG p e below P (T.setTop (mkF m pc L S)) := by
  subst hp; obtain ⟨T', X', e', st⟩ := getS2 X hx hZ hown w via eT F (g := mkF m pc L S) rfl hd
  exact OG.of st (k T' X' e')
theorem og_getfield (X : Stand p l e R s m args below meth c T locs cells slots) (hx : p.tables.exec = Jvm.exec) (hZ : Z.Warmed39 s.vm) {own R0 O n d host : String} {index : Nat} (hown : s.vm.findClass own = some m.cls) (w : (Cond.fieldLink own index R0 n d).before a0 Z = true ∨ (Cond.fieldLinkNest own index R0 n d host).before a0 Z = true) (via : Via Z R0 O n d) (eT : T.heap = h) {a : Addr} {v : Value} (F : Fld Z h a O n d v) (hd : decode c.code pc = .ok (.getfield index, 3)) (hp : pc + 3 = pc') (k : ∀ T', Stand p l e R s m args below meth c T' locs cells slots → T'.heap = h → OG p e below P (T'.setTop (mkF m pc' L (v :: S)))) : OG p e below P (T.setTop (mkF m pc L (.ref a :: S))) := by
  subst hp; obtain ⟨T', X', e', st⟩ := getF X hx hZ hown w via eT F (g := mkF m pc L (.ref a :: S)) rfl rfl hd
  exact OG.of st (k T' X' e')
theorem og_putfield (X : Stand p l e R s m args below meth c T locs cells slots) (hx : p.tables.exec = Jvm.exec) (hZ : Z.Warmed39 s.vm) {C : String} {kk : Nat} {ty : FieldType} {own R0 O n d host : String} {index : Nat} (hown : s.vm.findClass own = some m.cls) (w : (Cond.fieldLink own index R0 n d).before a0 Z = true ∨ (Cond.fieldLinkNest own index R0 n d host).before a0 Z = true) (via : Via Z R0 O n d) (eT : T.heap = h) {a : Addr} {v old : Value} (F : Fld Z h a O n d old) (E : Exa Z h a C) (Ly : (Cond.lays C O n d).before a0 Z = true ∨ ((Cond.laysFinal C O n d).before a0 Z = true ∧ own = O ∧ meth.name = "<init>")) (wi : (Cond.instantiable C kk).before a0 Z = true) (hty : parseFieldDescriptor d = some ty) (hn : narrow ty v = v) (hf : fits ty v = true) (hd : decode c.code pc = .ok (.putfield index, 3)) (hp : pc + 3 = pc') (k : ∀ T' h', Stand p l e R s m args below meth c T' (locs ++ [⟨a, Jvm.RoadKit.slotOf Z O n d⟩]) cells slots → T'.heap = h' → Wr h h' a (Jvm.RoadKit.slotOf Z O n d) v → OG p e below P (T'.setTop (mkF m pc' L S))) : OG p e below P (T.setTop (mkF m pc L (v :: .ref a :: S))) := by
  subst hp; obtain ⟨T', h', X', e', W', st⟩ := putF X hx hZ hown w via eT F E Ly wi hty hn hf (g := mkF m pc L (v :: .ref a :: S)) rfl rfl hd
  exact OG.of st (k T' h' X' e' W')
theorem og_new (X : Stand p l e R s m args below meth c T locs cells slots) (hx : p.tables.exec = Jvm.exec) (hZ : Z.Warmed39 s.vm) {own C : String} {index n : Nat} {cells' slots' : Nat} (hown : s.vm.findClass own = some m.cls) (w : (Cond.classLink own index C).before a0 Z = true) (wi : (Cond.instantiable C n).before a0 Z = true) (wz : (Cond.initialized C).before a0 Z = true) (eT : T.heap = h) (hd : decode c.code pc = .ok (.new index, 3)) (hp : pc + 3 = pc') (hc' : cells + 1 = cells') (hs' : slots + n = slots') (hc : cells' ≤ R.cells) (hl : slots' ≤ R.slots) (k : ∀ T' h' a, Stand p l e R s m args below meth c T' locs cells' slots' → T'.heap = h' → Ext h h' → a = h.size → Exa Z h' a C → (∀ {O nm d : String} {ty : FieldType}, Laid Z a0 C O nm d → parseFieldDescriptor d = some ty → Fld Z h' a O nm d (defaultValue ty)) → (∃ cell : Cell, h'[a]? = some cell ∧ cell.vm = .none ∧ cell.monitor = {}) → OG p e below P (T'.setTop (mkF m pc' L (.ref a :: S)))) : OG p e below P (T.setTop (mkF m pc L S)) := by
  subst hp hc' hs'; obtain ⟨T', h', X', e', E', A', D', B', st⟩ := newO X hx hZ hown w wi wz eT (g := mkF m pc L S) rfl hd hc hl
  exact OG.of st (k T' h' _ X' e' E' rfl A' D' B')
theorem og_newarray (X : Stand p l e R s m args below meth c T locs cells slots) (hx : p.tables.exec = Jvm.exec) (hZ : Z.Warmed39 s.vm) {aty : ArrayType} {ty : FieldType} {cells' slots' : Nat} (hty : newarray.typeOf aty = ty) (w : (Cond.arrayClass ty).before a0 Z = true) (eT : T.heap = h) {n : Int32} (hn : ¬ n < 0) {cap : Nat} (hcap : n.toNatClampNeg ≤ cap) (hb : cap * 8 ≤ 536870912) (hd : decode c.code pc = .ok (.newarray aty, 2)) (hp : pc + 2 = pc') (hc' : cells + 1 = cells') (hs' : slots + cap = slots') (hc : cells' ≤ R.cells) (hl : slots' ≤ R.slots) (k : ∀ T' h' a kA, Stand p l e R s m args below meth c T' locs cells' slots' → T'.heap = h' → Ext h h' → a = h.size → Arv Z h' a kA ty n [] (defaultValue ty) → OG p e below P (T'.setTop (mkF m pc' L (.ref a :: S)))) : OG p e below P (T.setTop (mkF m pc L (.int n :: S))) := by
  subst hp hc' hs' hty; obtain ⟨T', h', kA, X', e', E', A', st⟩ := newP X hx hZ w eT (g := mkF m pc L (.int n :: S)) rfl hd rfl hn hcap hb hc hl
  exact OG.of st (k T' h' _ kA X' e' E' rfl (Arv.new A' hn))
theorem og_castore (X : Stand p l e R s m args below meth c T locs cells slots) (hx : p.tables.exec = Jvm.exec) (hZ : Z.Warmed39 s.vm) (eT : T.heap = h) {a : Addr} {kA : ClassId} {j x z : Int32} {vs : List Value} {dv : Value} (F : Arv Z h a kA .char z vs dv) (q : ¬ j < 0 ∧ j < z) (i : Nat) (hj : j.toNatClampNeg = i) (hi : i < vs.length) (hd : decode c.code pc = .ok (.castore, 1)) (hp : pc + 1 = pc') (k : ∀ T' h', Stand p l e R s m args below meth c T' (locs ++ [⟨a, j.toNatClampNeg⟩]) cells slots → T'.heap = h' → Wr h h' a j.toNatClampNeg (.int (nar .char x)) → Arv Z h' a kA .char z (vs.set i (.int (nar .char x))) dv → OG p e below P (T'.setTop (mkF m pc' L S))) : OG p e below P (T.setTop (mkF m pc L (.int x :: .int j :: .ref a :: S))) := by
  subst hp; obtain ⟨cl, A, q1, S1, q3, H, G⟩ := F
  obtain ⟨T', h', X', e', W', st⟩ := stC X hx hZ eT A (j := j) (inb_of S1 q) (g := mkF m pc L (.int x :: .int j :: .ref a :: S)) rfl rfl hd
  exact OG.of st (k T' h' X' e' W' (Arv.set A q1 S1 q3 H G (fits_nar_char _) W' i hj hi))
theorem og_bastore (X : Stand p l e R s m args below meth c T locs cells slots) (hx : p.tables.exec = Jvm.exec) (hZ : Z.Warmed39 s.vm) (eT : T.heap = h) {a : Addr} {kA : ClassId} {j x z : Int32} {vs : List Value} {dv : Value} (F : Arv Z h a kA .byte z vs dv) (q : ¬ j < 0 ∧ j < z) (i : Nat) (hj : j.toNatClampNeg = i) (hi : i < vs.length) (hd : decode c.code pc = .ok (.bastore, 1)) (hp : pc + 1 = pc') (k : ∀ T' h', Stand p l e R s m args below meth c T' (locs ++ [⟨a, j.toNatClampNeg⟩]) cells slots → T'.heap = h' → Wr h h' a j.toNatClampNeg (.int (nar .byte x)) → Arv Z h' a kA .byte z (vs.set i (.int (nar .byte x))) dv → OG p e below P (T'.setTop (mkF m pc' L S))) : OG p e below P (T.setTop (mkF m pc L (.int x :: .int j :: .ref a :: S))) := by
  subst hp; obtain ⟨cl, A, q1, S1, q3, H, G⟩ := F
  obtain ⟨T', h', X', e', W', st⟩ := stB X hx hZ eT A (j := j) (inb_of S1 q) (g := mkF m pc L (.int x :: .int j :: .ref a :: S)) rfl rfl hd
  exact OG.of st (k T' h' X' e' W' (Arv.set A q1 S1 q3 H G (fits_nar_byte _) W' i hj hi))
theorem og_caload (X : Stand p l e R s m args below meth c T locs cells slots) (hx : p.tables.exec = Jvm.exec) (hZ : Z.Warmed39 s.vm) (eT : T.heap = h) {a : Addr} {kA : ClassId} {j z : Int32} {vs : List Value} {dv v : Value} (F : Arv Z h a kA .char z vs dv) (q : ¬ j < 0 ∧ j < z) (hv : vs.getD j.toNatClampNeg dv = v) (hd : decode c.code pc = .ok (.caload, 1)) (hp : pc + 1 = pc') (k : OG p e below P (T.setTop (mkF m pc' L (v :: S)))) : OG p e below P (T.setTop (mkF m pc L (.int j :: .ref a :: S))) := by
  subst hp; obtain ⟨cl, A, q1, S1, q3, H, G⟩ := F
  exact OG.of (fun t k => X.caload hx (j := j) (v := v) (by rw [eT]; exact A.1) (State.isArrayOf_alike hZ.alike A.2.1) A.2.2 (inb_of S1 q) (H.at (inb_of S1 q) hv) (g := mkF m pc L (.int j :: .ref a :: S)) rfl rfl hd t k) k
theorem og_baload (X : Stand p l e R s m args below meth c T locs cells slots) (hx : p.tables.exec = Jvm.exec) (hZ : Z.Warmed39 s.vm) (eT : T.heap = h) {a : Addr} {kA : ClassId} {j z : Int32} {vs : List Value} {dv v : Value} (F : Arv Z h a kA .byte z vs dv) (q : ¬ j < 0 ∧ j < z) (hv : vs.getD j.toNatClampNeg dv = v) (hd : decode c.code pc = .ok (.baload, 1)) (hp : pc + 1 = pc') (k : OG p e below P (T.setTop (mkF m pc' L (v :: S)))) : OG p e below P (T.setTop (mkF m pc L (.int j :: .ref a :: S))) := by
  subst hp; obtain ⟨cl, A, q1, S1, q3, H, G⟩ := F
  exact OG.of (fun t k => X.baloadBytes hx (j := j) (v := v) (by rw [eT]; exact A.1) (State.isArrayOf_alike hZ.alike A.2.1) A.2.2 (inb_of S1 q) (H.at (inb_of S1 q) hv) (g := mkF m pc L (.int j :: .ref a :: S)) rfl rfl hd t k) k
theorem og_arraylength (X : Stand p l e R s m args below meth c T locs cells slots) (hx : p.tables.exec = Jvm.exec) (hZ : Z.Warmed39 s.vm) (eT : T.heap = h) {a : Addr} {kA : ClassId} {z : Int32} {vs : List Value} {dv : Value} {ty : FieldType} (F : Arv Z h a kA ty z vs dv) (hd : decode c.code pc = .ok (.arraylength, 1)) (hp : pc + 1 = pc') (k : OG p e below P (T.setTop (mkF m pc' L (.int z :: S)))) : OG p e below P (T.setTop (mkF m pc L (.ref a :: S))) := by
  subst hp; obtain ⟨cl, A, q1, S1, q3, H, G⟩ := F
  refine OG.of (fun t k => X.arraylength hx (by rw [eT]; exact A.1) (State.isArrayOf_alike hZ.alike A.2.1) (g := mkF m pc L (.ref a :: S)) rfl rfl hd t k) ?_
  rw [len_of S1 q3]; exact k
theorem og_initO (X : Stand p l e R s m args below meth c T locs cells slots) (hx : p.tables.exec = Jvm.exec) (hZ : Z.Warmed39 s.vm) {own : String} {idx : Nat} (hml : L.size = c.maxLocals) (hown : s.vm.findClass own = some m.cls) (w1 : (Cond.methodLink own idx Lib.objectInit).before a0 Z = true) (w2 : (Cond.instanceMethod Lib.objectInit).before a0 Z = true) (w3 : (Cond.code Lib.objectInit ⟨#[0xb1]⟩ 1 none).before a0 Z = true) (eT : T.heap = h) {a : Addr} {W : Nat} (hW : (S.map fun v => v.category).sum = W) (hf : 1 ≤ R.frames) (hl : W + 12 ≤ R.locals) (hd : decode c.code pc = .ok (.invokespecial idx, 3)) (hp : pc + 3 = pc') (k : ∀ T', Stand p l e R s m args below meth c T' locs cells slots → T'.heap = h → OG p e below P (T'.setTop (mkF m pc' L S))) : OG p e below P (T.setTop (mkF m pc L (.ref a :: S))) := by
  subst hp; obtain ⟨T', X', e', st⟩ := initO X hx hZ hown w1 w2 w3 eT (g := mkF m pc L (.ref a :: S)) rfl hml rfl hd hf (W := W) (by show 2 * 0 + _ ≤ _; rw [hW]; omega) hl
  exact OG.of st (k T' X' e')
def Con (l : Launch) (Z : State) (y : MethodName) (bytes : ByteArray) (maxL : Nat) (ret : Option FieldType) (rm : Room) (as' : Array Value) (h : Heap) (Q : Option Value → Heap → List Loc → Prop) : Prop :=
  MetFree l y (head1 [Cond.code y bytes maxL ret] rm) (fun a U => a = as' ∧ Z.Warmed39 U.vm ∧ U.heap = h) (fun _ _ _ _ _ => True) (fun _ U o U' => ∃ v L, o = .returned v ∧ Q v U'.heap L ∧ FrameEnd U o U' L rm.cells rm.slots)
abbrev OFin (s : State) (Q : Option Value → Heap → List Loc → Prop) (k n : Nat) (o : Outcome) (t : State) : Prop := ∃ v L, o = .returned v ∧ Q v t.heap L ∧ FrameEnd s o t L k n
theorem own_start {y : MethodName} {bytes : ByteArray} {maxL : Nat} {ret : Option FieldType} {rm : Room} {as' : Array Value} {ws : List Cond} {Q : Option Value → Heap → List Loc → Prop} {kc ks : Nat} (hpn : plainFor y = true)
    (body : ∀ (p : Program) (e : Env) (s : State) (m : MethodId) (below : List Frame) (meth : Method) (c : Code) (T : State), Stand p l e rm s m as' below meth c T [] 0 0 → p.tables.exec = Jvm.exec → c.code = bytes → c.maxLocals = maxL → Z.Warmed39 s.vm → s.vm.findClass y.cls = some m.cls → meth.name = y.name → meth.sig.returnType = ret → meth.locks = false → T.heap = h → OG p e below (OFin s Q kc ks) (T.setTop (entryFrame m as' maxL))) :
    MetFree l y (head1 (Cond.code y bytes maxL ret :: ws) rm) (fun a U => a = as' ∧ Z.Warmed39 U.vm ∧ U.heap = h) (fun _ _ _ _ _ => True) (fun _ U o U' => ∃ v L, o = .returned v ∧ Q v U'.heap L ∧ FrameEnd U o U' L kc ks) := by
  refine MetFree.of_bodySF hpn hisR ?_
  intro p e s m args below meth c s₁ Bd hml0 hP hK
  obtain ⟨rfl, hZ, hh⟩ := hP
  exact body p e s m below meth c s₁ (Stand.of_body Bd) Bd.exec Bd.bytes hml0 hZ (findClass_of_methodNamed Bd.named) (name_of_methodNamed Bd.named Bd.method).1 Bd.returns Bd.notSynchronized (by rw [← hh, Bd.state]; rfl)
theorem own_startC {y : MethodName} {bytes : ByteArray} {maxL : Nat} {ret : Option FieldType} {rm : Room} {as' : Array Value} {Q : Option Value → Heap → List Loc → Prop} (hpn : plainFor y = true)
    (body : ∀ (p : Program) (e : Env) (s : State) (m : MethodId) (below : List Frame) (meth : Method) (c : Code) (T : State), Stand p l e rm s m as' below meth c T [] 0 0 → p.tables.exec = Jvm.exec → c.code = bytes → c.maxLocals = maxL → Z.Warmed39 s.vm → s.vm.findClass y.cls = some m.cls → meth.name = y.name → meth.sig.returnType = ret → meth.locks = false → T.heap = h → OG p e below (OFin s Q rm.cells rm.slots) (T.setTop (entryFrame m as' maxL))) : Con l Z y bytes maxL ret rm as' h Q := own_start (Q := Q) hpn body
theorem og_ret (X : Stand p l e R s m args below meth c T locs cells slots) (hlk : meth.locks = false) {Q : Option Value → Heap → List Loc → Prop} {kc ks : Nat} {g : JFrame} (v : Option Value) (hv : meth.sig.returnType = none → v = none)
    (st : ∀ fs, (∀ (f : JFrame) (acts : List Action), f.method = m → f.locked = none → f.entered = [] → (doReturn e (T.setTop f) acts v).1 = T.setFrames fs) → Steps p.tables e below (T.setTop g) (T.setFrames fs)) (hc : cells ≤ kc) (hs : slots ≤ ks) (hQ : Q v T.heap locs) : OG p e below (OFin s Q kc ks) (T.setTop g) := by
  obtain ⟨fs, hr, hrun, hended, hW, hsame⟩ := X.leave hv hlk
  exact ⟨_, _, st fs hr, hrun, hended, v, locs, rfl, hQ, ⟨_, rfl⟩, hW, hsame.mono hc hs⟩
theorem og_retI (X : Stand p l e R s m args below meth c T locs cells slots) (hx : p.tables.exec = Jvm.exec) (hlk : meth.locks = false) (hret : meth.sig.returnType = some .int) {Q : Option Value → Heap → List Loc → Prop} {kc ks : Nat} {z : Int32} (hd : decode c.code pc = .ok (.ireturn, 1)) (hc : cells ≤ kc) (hs : slots ≤ ks) (hQ : Q (some (.int z)) T.heap locs) : OG p e below (OFin s Q kc ks) (T.setTop (mkF m pc L (.int z :: S))) :=
  og_ret X hlk (some (.int z)) (fun q => by rw [hret] at q; cases q) (fun fs hr => retI X hx hret hd hr) hc hs hQ
theorem og_retN (X : Stand p l e R s m args below meth c T locs cells slots) (hx : p.tables.exec = Jvm.exec) (hlk : meth.locks = false) {t : FieldType} (hret : meth.sig.returnType = some t) (ht : t = .boolean ∨ t = .byte ∨ t = .char ∨ t = .short) {Q : Option Value → Heap → List Loc → Prop} {kc ks : Nat} {z : Int32} (hd : decode c.code pc = .ok (.ireturn, 1)) (hc : cells ≤ kc) (hs : slots ≤ ks) (hQ : Q (some (.int (nar t z))) T.heap locs) : OG p e below (OFin s Q kc ks) (T.setTop (mkF m pc L (.int z :: S))) :=
  og_ret X hlk (some (.int (nar t z))) (fun q => by rw [hret] at q; cases q) (fun fs hr => retN X hx hret ht hd hr) hc hs hQ
theorem og_retR (X : Stand p l e R s m args below meth c T locs cells slots) (hx : p.tables.exec = Jvm.exec) (hlk : meth.locks = false) {t : FieldType} (hret : meth.sig.returnType = some t) (ht : t.isReference = true) {Q : Option Value → Heap → List Loc → Prop} {kc ks : Nat} {v : Value} (hv : v.isRef = true) (hn : narrow t v = v) (hd : decode c.code pc = .ok (.areturn, 1)) (hc : cells ≤ kc) (hs : slots ≤ ks) (hQ : Q (some v) T.heap locs) : OG p e below (OFin s Q kc ks) (T.setTop (mkF m pc L (v :: S))) :=
  og_ret X hlk (some v) (fun q => by rw [hret] at q; cases q) (fun fs hr => retOut X hx hret hn (Or.inr (Or.inr (Or.inr (Or.inr ⟨rfl, ht, hv⟩)))) hd hr) hc hs hQ
theorem og_retV (X : Stand p l e R s m args below meth c T locs cells slots) (hx : p.tables.exec = Jvm.exec) (hlk : meth.locks = false) (hret : meth.sig.returnType = none) {Q : Option Value → Heap → List Loc → Prop} {kc ks : Nat} (hd : decode c.code pc = .ok (.return_, 1)) (hc : cells ≤ kc) (hs : slots ≤ ks) (hQ : Q none T.heap locs) : OG p e below (OFin s Q kc ks) (T.setTop (mkF m pc L [])) :=
  og_ret X hlk none (fun _ => rfl) (fun fs hr => X.returnOut hx hret hd hr) hc hs hQ
theorem og_static (X : Stand p l e R s m args below meth c T locs cells slots) (hx : p.tables.exec = Jvm.exec) (hZ : Z.Warmed39 s.vm) {own : String} {index : Nat} {y : MethodName} {bytes : ByteArray} {maxL : Nat} {ret : Option FieldType} {rm : Room} {as' : Array Value} {Q : Option Value → Heap → List Loc → Prop} {W cells' slots' : Nat} (hM : Con l Z y bytes maxL ret rm as' h Q) (hown : s.vm.findClass own = some m.cls) (w1 : (Cond.methodLink own index y).before a0 Z = true) (w2 : (Cond.static y).before a0 Z = true) (wz : (Cond.initialized y.cls).before a0 Z = true) (wc : (Cond.code y bytes maxL ret).before a0 Z = true) (hy : y.cls ≠ "java/lang/invoke/MethodHandle" ∧ y.cls ≠ "java/lang/invoke/VarHandle") (hml : L.size = c.maxLocals) (eT : T.heap = h) {ps : List FieldType} {rt : Option FieldType} (hpd : parseMethodDescriptor y.desc = some ⟨ps, rt⟩) (argsL rest : List Value) (hll : argsL.length = ps.length) (has : argsL.toArray = as') (hst : S = argsL.reverse ++ rest) (hW : (rest.map fun v => v.category).sum = W) (hf : rm.frames + 1 ≤ R.frames) (hl : W + (maxL + 11) + rm.locals ≤ R.locals) (hc' : cells + rm.cells = cells') (hs' : slots + rm.slots = slots') (hc : cells' ≤ R.cells) (hs : slots' ≤ R.slots) (hd : decode c.code pc = .ok (.invokestatic index, 3)) (hp : pc + 3 = pc') (k : ∀ v T' h' Lc, Stand p l e R s m args below meth c T' (locs ++ Lc) cells' slots' → T'.heap = h' → Q v h' Lc → OG p e below P (T'.setTop (mkF m pc' L (v.toList ++ rest)))) : OG p e below P (T.setTop (mkF m pc L S)) := by
  subst hp hst hc' hs' has
  obtain ⟨v, _, ⟨T1, L1, k1, n1⟩, -, X1, ⟨Lc, hQ, l1, y1, z1⟩, st⟩ := Jvm.LawKit.callS X hx (y := y) hown (mvT hZ w1) (mvT hZ w2) (mvT hZ wz) (mvT hZ wc) hy (backOf (W := W) hM hZ wc wz hf hl) (g := mkF m pc L (argsL.reverse ++ rest)) rfl hml (argsL := argsL) (rest := rest) (lenOf hpd hll) rfl (by show 2 * 0 + _ ≤ _; rw [hW]; omega) hd (fun _ _ => ⟨rfl, eT, hc, hs⟩)
  dsimp only [Pt.U, Pt.locs, Pt.cells, Pt.slots] at X1 l1 y1 z1 st hQ
  subst l1 y1 z1
  exact OG.of st (k v T1 _ Lc X1 rfl hQ)
theorem og_special (X : Stand p l e R s m args below meth c T locs cells slots) (hx : p.tables.exec = Jvm.exec) (hZ : Z.Warmed39 s.vm) {own : String} {index : Nat} {y : MethodName} {bytes : ByteArray} {maxL : Nat} {rm : Room} {as' : Array Value} {Q : Option Value → Heap → List Loc → Prop} {W cells' slots' : Nat} (hM : Con l Z y bytes maxL none rm as' h Q) (hin : y.name = "<init>") (hown : s.vm.findClass own = some m.cls) (w1 : (Cond.methodLink own index y).before a0 Z = true) (w2 : (Cond.instanceMethod y).before a0 Z = true) (wz : (Cond.initialized y.cls).before a0 Z = true) (wc : (Cond.code y bytes maxL none).before a0 Z = true) (hy : y.cls ≠ "java/lang/invoke/MethodHandle" ∧ y.cls ≠ "java/lang/invoke/VarHandle") (hml : L.size = c.maxLocals) (eT : T.heap = h) {ps : List FieldType} {rt : Option FieldType} (hpd : parseMethodDescriptor y.desc = some ⟨ps, rt⟩) {a : Addr} (argsL rest : List Value) (hll : argsL.length = ps.length) (has : (.ref a :: argsL).toArray = as') (hst : S = argsL.reverse ++ .ref a :: rest) (hW : (rest.map fun v => v.category).sum = W) (hf : rm.frames + 1 ≤ R.frames) (hl : W + (maxL + 11) + rm.locals ≤ R.locals) (hc' : cells + rm.cells = cells') (hs' : slots + rm.slots = slots') (hc : cells' ≤ R.cells) (hs : slots' ≤ R.slots) (hd : decode c.code pc = .ok (.invokespecial index, 3)) (hp : pc + 3 = pc') (k : ∀ v T' h' Lc, Stand p l e R s m args below meth c T' (locs ++ Lc) cells' slots' → T'.heap = h' → Q v h' Lc → OG p e below P (T'.setTop (mkF m pc' L (v.toList ++ rest)))) : OG p e below P (T.setTop (mkF m pc L S)) := by
  subst hp hst hc' hs' has
  obtain ⟨v, _, ⟨T1, L1, k1, n1⟩, -, X1, ⟨Lc, hQ, l1, y1, z1⟩, st⟩ := X.specialBack hx (y := y) hin hown (mvT hZ w1) (mvT hZ w2) (mvT hZ wc) hy (backOf (W := W) hM hZ wc wz hf hl) (g := mkF m pc L (argsL.reverse ++ .ref a :: rest)) rfl hml (Steps.refl _) (a := a) (argsL := argsL) (rest := rest) (lenOf hpd hll) rfl (by show 2 * 0 + _ ≤ _; rw [hW]; omega) hd (fun _ _ => ⟨rfl, eT, hc, hs⟩)
  dsimp only [Pt.U, Pt.locs, Pt.cells, Pt.slots] at X1 l1 y1 z1 st hQ
  subst l1 y1 z1
  exact OG.of (fun t k => st.trans k) (k v T1 _ Lc X1 rfl hQ)
theorem og_virtual (X : Stand p l e R s m args below meth c T locs cells slots) (hx : p.tables.exec = Jvm.exec) (hZ : Z.Warmed39 s.vm) {own C : String} {index : Nat} {y z : MethodName} {bytes : ByteArray} {maxL : Nat} {ret : Option FieldType} {rm : Room} {as' : Array Value} {Q : Option Value → Heap → List Loc → Prop} {W cells' slots' : Nat} (hM : Con l Z z bytes maxL ret rm as' h Q) (hown : s.vm.findClass own = some m.cls) (w1 : (Cond.methodLink own index y).before a0 Z = true) (w2 : (Cond.declares y).before a0 Z = true) (hnf : NotFace s y) (w3 : (Cond.selects C y z).before a0 Z = true) (w4 : (Cond.instanceMethod z).before a0 Z = true) (wz : (Cond.initialized z.cls).before a0 Z = true) (wc : (Cond.code z bytes maxL ret).before a0 Z = true) (hy : y.cls ≠ "java/lang/invoke/MethodHandle" ∧ y.cls ≠ "java/lang/invoke/VarHandle") (hml : L.size = c.maxLocals) (eT : T.heap = h) {ps : List FieldType} {rt : Option FieldType} (hpd : parseMethodDescriptor y.desc = some ⟨ps, rt⟩) {a : Addr} (argsL rest : List Value) (hll : argsL.length = ps.length) (has : (.ref a :: argsL).toArray = as') (hst : S = argsL.reverse ++ .ref a :: rest) (hW : (rest.map fun v => v.category).sum = W) (hf : rm.frames + 1 ≤ R.frames) (hl : W + (maxL + 11) + rm.locals ≤ R.locals) (hc' : cells + rm.cells = cells') (hs' : slots + rm.slots = slots') (hc : cells' ≤ R.cells) (hs : slots' ≤ R.slots) (E : Exa Z h a C) (hd : decode c.code pc = .ok (.invokevirtual index, 3)) (hp : pc + 3 = pc') (k : ∀ v T' h' Lc, Stand p l e R s m args below meth c T' (locs ++ Lc) cells' slots' → T'.heap = h' → Q v h' Lc → OG p e below P (T'.setTop (mkF m pc' L (v.toList ++ rest)))) : OG p e below P (T.setTop (mkF m pc L S)) := by
  subst hp hst hc' hs' has
  obtain ⟨cq, kq, qa, qb, qc⟩ := isOf hZ eT E
  obtain ⟨v, _, ⟨T1, L1, k1, n1⟩, -, X1, ⟨Lc, hQ, l1, y1, z1⟩, st⟩ := X.virtualBack hx (y := y) (z := z) hown (mvT hZ w1) (mvT hZ w2) hnf (mvT hZ w3) (mvT hZ w4) hy (backOf (W := W) hM hZ wc wz hf hl) qa qc (g := mkF m pc L (argsL.reverse ++ .ref a :: rest)) rfl hml (Steps.refl _) (argsL := argsL) (rest := rest) (lenOf hpd hll) rfl (by show 2 * 0 + _ ≤ _; rw [hW]; omega) hd (fun _ _ => ⟨rfl, eT, hc, hs⟩)
  dsimp only [Pt.U, Pt.locs, Pt.cells, Pt.slots] at X1 l1 y1 z1 st hQ
  subst l1 y1 z1
  exact OG.of (fun t k => st.trans k) (k v T1 _ Lc X1 rfl hQ)
theorem own_nf (hZ : Z.Warmed39 s.vm) {C : String} {y : MethodName} (w : (Cond.selects C y y).before a0 Z = true) : NotFace s y := notFace_of_selects (args := #[]) (mvT hZ w)
theorem own_n0 {n0 : Nat} (O : Old Z n0 h) : n0 ≤ h.size := O.1 ▸ O.2.1
end OwnKit
section OwnKitW
variable {p : Program} {l : Launch} {e : Env} {R : Room} {s : State} {m : MethodId} {args : Array Value} {below : List Frame} {meth : Method} {c : Code} {T : State} {locs : List Loc} {cells slots : Nat} {Z : State} {a0 : Array Value} {h : Heap} {P : Outcome → State → Prop} {pc pc' pc1 pc2 : Nat} {L L' : Array Slot} {S : List Value} {vm : Vm} {EL : List (String × Nat)} {k0 : Nat}
abbrev FinW (s Z : State) (EL : List (String × Nat)) (Q : Option Value → Heap → List Loc → Prop) (k n : Nat) (o : Outcome) (t : State) : Prop := ∃ v L, o = .returned v ∧ Q v t.heap L ∧ CHr Z EL s.vm s.heap t.vm t.heap ∧ ReturnedEndW s o t L k n
def ConW (l : Launch) (Z : State) (EL : List (String × Nat)) (sw : List Addr) (y : MethodName) (bytes : ByteArray) (maxL : Nat) (ret : Option FieldType) (rm : Room) (as' : Array Value) (h : Heap) (Q : Option Value → Heap → List Loc → Prop) : Prop :=
  MetFree l y (head1 [Cond.code y bytes maxL ret] rm) (fun a U => a = as' ∧ Z.Warmed39 U.vm ∧ U.heap = h ∧ CHv Z EL U.vm h ∧ ∀ x ∈ sw, Safe Z EL U.vm h x) (fun _ _ _ _ _ => True) (fun _ U o U' => ∃ v L, o = .returned v ∧ Q v U'.heap L ∧ CHr Z EL U.vm U.heap U'.vm U'.heap ∧ ReturnedEndW U o U' L rm.cells rm.slots)
theorem own_since (s : State) (n : Nat) : s.Since s.vm n := ⟨State.Warmed39.refl s, by first | exact State.Booked.refl _ _ | (intro j q h1 h2; exact absurd (Array.getElem?_eq_some_iff.mp h2).1 (Nat.not_lt.mpr h1)) | simp [State.Booked]⟩
theorem own_backW {sw : List Addr} {y : MethodName} {bytes : ByteArray} {maxL : Nat} {ret : Option FieldType} {rm : Room} {len W : Nat} {as' : Array Value} {Q : Option Value → Heap → List Loc → Prop} (hM : ConW l Z EL sw y bytes maxL ret rm as' h Q) (hZ : Z.Warmed39 vm) (wc : (Cond.code y bytes maxL ret).before a0 Z = true) (wz : (Cond.initialized y.cls).before a0 Z = true) (hf : rm.frames + 1 ≤ R.frames) (hl : W + (maxL + 11) + rm.locals ≤ R.locals) (hEL : EW Z a0 EL) (H : CHv Z EL vm h) (hsw : ∀ x ∈ sw, x < h.size ∧ Safe Z EL vm h x) :
    BackS l R p e below (s.setVm vm) args y len W (fun A a => a = as' ∧ A.U.heap = h ∧ A.cells + rm.cells ≤ R.cells ∧ A.slots + rm.slots ≤ R.slots) (fun A _ v B => ∃ L, Q v B.U.heap L ∧ B.locs = A.locs ++ L ∧ B.cells = A.cells + rm.cells ∧ B.slots = A.slots + rm.slots ∧ CHr Z EL vm h B.U.vm B.U.heap) := by
  refine BackS.of_freeW (bytes := bytes) (maxL := maxL) (ret := ret) (E := fun _ first o t L k n => k = rm.cells ∧ n = rm.slots ∧ (∃ v, o = .returned v ∧ Q v t.heap L) ∧ CHr Z EL first.vm first.heap t.vm t.heap) hM hf hl ?_ ?_ (fun _ _ _ _ _ _ _ _ _ => trivial) ?_ ?_
  · intro m meth c A a Y hp
    have hU : Z.Warmed39 A.U.vm := wtrans (s := s.setVm vm) hZ Y.warmed
    exact ⟨by show (Cond.and _ .tt).before a A.U = true; rw [Cond.before_and, mv hU wc]; rfl, mv hU wc, mv hU wz, hp.2.2.1, hp.2.2.2⟩
  · intro m meth c A a g mk Y hp
    have q := CHv.at Y hZ hEL H
    exact ⟨hp.1, wtrans (s := s.setVm vm) hZ Y.warmed, hp.2.1, q.1, fun x hx => q.safe (hsw x hx).1 (hsw x hx).2⟩
  · rintro _ _ _ _ ⟨v, L, h1, h2, h3, h4⟩
    exact ⟨L, _, _, h4, rfl, rfl, ⟨v, h1, h2⟩, h3⟩
  · rintro m meth c A a g mk v t L k n Y hp _ _ ⟨e1, e2, ⟨v', e3, e4⟩, e5⟩
    cases e3; subst e1 e2
    refine ⟨L, e4, rfl, rfl, rfl, (CHv.at Y hZ hEL H).trans ?_⟩
    rw [← hp.2.1]; exact e5
theorem own_startW {sw : List Addr} {y : MethodName} {bytes : ByteArray} {maxL : Nat} {ret : Option FieldType} {rm : Room} {as' : Array Value} {ws : List Cond} {Q : Option Value → Heap → List Loc → Prop} {kc ks : Nat} (hpn : plainFor y = true)
    (body : ∀ (p : Program) (e : Env) (s : State) (m : MethodId) (below : List Frame) (meth : Method) (c : Code) (T : State), Stand p l e rm (s.setVm s.vm) m as' below meth c T [] 0 0 → p.tables.exec = Jvm.exec → c.code = bytes → c.maxLocals = maxL → Z.Warmed39 s.vm → s.vm.findClass y.cls = some m.cls → meth.name = y.name → meth.sig.returnType = ret → meth.locks = false → T.heap = h → s.heap = h → s.Since s.vm h.size → CHr Z EL s.vm h s.vm h → (∀ x ∈ sw, Safe Z EL s.vm h x) → OG p e below (FinW s Z EL Q kc ks) (T.setTop (entryFrame m as' maxL))) :
    MetFree l y (head1 (Cond.code y bytes maxL ret :: ws) rm) (fun a U => a = as' ∧ Z.Warmed39 U.vm ∧ U.heap = h ∧ CHv Z EL U.vm h ∧ ∀ x ∈ sw, Safe Z EL U.vm h x) (fun _ _ _ _ _ => True) (fun _ U o U' => ∃ v L, o = .returned v ∧ Q v U'.heap L ∧ CHr Z EL U.vm U.heap U'.vm U'.heap ∧ ReturnedEndW U o U' L kc ks) := by
  refine MetFree.of_bodySF hpn hisR ?_
  intro p e s m args below meth c s₁ Bd hml0 hP hK
  obtain ⟨rfl, hZ, hh, hC, hQ⟩ := hP
  exact body p e s m below meth c s₁ (Stand.of_body Bd) Bd.exec Bd.bytes hml0 hZ (findClass_of_methodNamed Bd.named) (name_of_methodNamed Bd.named Bd.method).1 Bd.returns Bd.notSynchronized (by rw [← hh, Bd.state]; rfl) hh (own_since s _) (CHr.refl hC) hQ
theorem own_startWC {sw : List Addr} {y : MethodName} {bytes : ByteArray} {maxL : Nat} {ret : Option FieldType} {rm : Room} {as' : Array Value} {Q : Option Value → Heap → List Loc → Prop} (hpn : plainFor y = true)
    (body : ∀ (p : Program) (e : Env) (s : State) (m : MethodId) (below : List Frame) (meth : Method) (c : Code) (T : State), Stand p l e rm (s.setVm s.vm) m as' below meth c T [] 0 0 → p.tables.exec = Jvm.exec → c.code = bytes → c.maxLocals = maxL → Z.Warmed39 s.vm → s.vm.findClass y.cls = some m.cls → meth.name = y.name → meth.sig.returnType = ret → meth.locks = false → T.heap = h → s.heap = h → s.Since s.vm h.size → CHr Z EL s.vm h s.vm h → (∀ x ∈ sw, Safe Z EL s.vm h x) → OG p e below (FinW s Z EL Q rm.cells rm.slots) (T.setTop (entryFrame m as' maxL))) : ConW l Z EL sw y bytes maxL ret rm as' h Q := own_startW (Q := Q) hpn body
theorem og_retW (X : Stand p l e R (s.setVm vm) m args below meth c T locs cells slots) (hZ : Z.Warmed39 vm) (hlk : meth.locks = false) {Q : Option Value → Heap → List Loc → Prop} {kc ks : Nat} {g : JFrame} (hEL : EW Z a0 EL) (hS : s.Since vm k0) (eT : T.heap = h) {h' : Heap} (e0 : s.heap = h') (hk : k0 ≤ h.size) (hR : CHr Z EL s.vm h' vm h) (v : Option Value) (hv : meth.sig.returnType = none → v = none)
    (st : ∀ fs, (∀ (f : JFrame) (acts : List Action), f.method = m → f.locked = none → f.entered = [] → (doReturn e (T.setTop f) acts v).1 = T.setFrames fs) → Steps p.tables e below (T.setTop g) (T.setFrames fs)) (hc : cells ≤ kc) (hs : slots ≤ ks) (hQ : Q v T.heap locs) : OG p e below (FinW s Z EL Q kc ks) (T.setTop g) := by
  subst eT e0
  obtain ⟨fs, hr, hrun, hended, hW⟩ := X.leaveW hS hk hv hlk
  have q := CHv.at X hZ hEL hR.1
  exact ⟨_, _, st fs hr, hrun, hended, v, locs, rfl, hQ, hR.trans q, hW.1, hW.2.1, hW.2.2.1, hW.2.2.2.mono hc hs⟩
theorem og_retNW (X : Stand p l e R (s.setVm vm) m args below meth c T locs cells slots) (hx : p.tables.exec = Jvm.exec) (hZ : Z.Warmed39 vm) (hlk : meth.locks = false) (hEL : EW Z a0 EL) (hS : s.Since vm k0) (eT : T.heap = h) {h' : Heap} (e0 : s.heap = h') (hk : k0 ≤ h.size) (hR : CHr Z EL s.vm h' vm h) {t : FieldType} (hret : meth.sig.returnType = some t) (ht : t = .boolean ∨ t = .byte ∨ t = .char ∨ t = .short) {Q : Option Value → Heap → List Loc → Prop} {kc ks : Nat} {z : Int32} (hd : decode c.code pc = .ok (.ireturn, 1)) (hc : cells ≤ kc) (hs : slots ≤ ks) (hQ : Q (some (.int (nar t z))) T.heap locs) : OG p e below (FinW s Z EL Q kc ks) (T.setTop (mkF m pc L (.int z :: S))) :=
  og_retW X hZ hlk hEL hS eT e0 hk hR (some (.int (nar t z))) (fun q => by rw [hret] at q; cases q) (fun fs hr => retN X hx hret ht hd hr) hc hs hQ
theorem og_retVW (X : Stand p l e R (s.setVm vm) m args below meth c T locs cells slots) (hx : p.tables.exec = Jvm.exec) (hZ : Z.Warmed39 vm) (hlk : meth.locks = false) (hEL : EW Z a0 EL) (hS : s.Since vm k0) (eT : T.heap = h) {h' : Heap} (e0 : s.heap = h') (hk : k0 ≤ h.size) (hR : CHr Z EL s.vm h' vm h) (hret : meth.sig.returnType = none) {Q : Option Value → Heap → List Loc → Prop} {kc ks : Nat}  (hd : decode c.code pc = .ok (.return_, 1)) (hc : cells ≤ kc) (hs : slots ≤ ks) (hQ : Q none T.heap locs) : OG p e below (FinW s Z EL Q kc ks) (T.setTop (mkF m pc L [])) :=
  og_retW X hZ hlk hEL hS eT e0 hk hR none (fun _ => rfl) (fun fs hr => X.returnOut hx hret hd hr) hc hs hQ
theorem og_ldcO (X : Stand p l e R (s.setVm vm) m args below meth c T locs cells slots) (hx : p.tables.exec = Jvm.exec) (hZ : Z.Warmed39 vm) {own text : String} {index : Nat} (hown : vm.findClass own = some m.cls) (w : (Cond.stringLink own index text).before a0 Z = true) (wS : ∀ a ∈ Bundle.stringAtoms, a.before a0 Z = true) (eT : T.heap = h) (hS : s.Since vm k0) (hk : k0 ≤ h.size) (hEL : EW Z a0 EL) (H : CHv Z EL vm h) {n cells' slots' : Nat} (hn : 4 * text.toList.length ≤ n) (hbig : n ≤ 536870912) (hd : decode c.code pc = .ok (.ldc index, 2)) (hp : pc + 2 = pc') (hc' : cells + 2 = cells') (hs' : slots + (n + 4) = slots') (hc : cells' ≤ R.cells) (hsl : slots' ≤ R.slots) (k : ∀ a T' h' k1, Stand p l e R (s.setVm T'.vm) m args below meth c T' locs cells' slots' → T'.heap = h' → Ext h h' → s.Since T'.vm k1 → k1 ≤ h'.size → Z.Warmed39 T'.vm → T'.vm.findClass own = some m.cls → CHr Z EL vm h T'.vm h' → OG p e below P (T'.setTop (mkF m pc' L (.ref a :: S)))) : OG p e below P (T.setTop (mkF m pc L S)) := by
  subst hp hc' hs'
  obtain ⟨a, T', h', k1, X', e', E', S', hk', hZ', ho', hC', -, st⟩ := ldcOH X hx hZ hown w wS eT hS hk hEL H (g := mkF m pc L S) rfl hd hn hbig hc hsl
  exact OG.of st (k a T' h' k1 X' e' E' S' hk' hZ' ho' hC')
theorem og_specialW (X : Stand p l e R (s.setVm vm) m args below meth c T locs cells slots) (hx : p.tables.exec = Jvm.exec) (hZ : Z.Warmed39 vm) {own : String} {index : Nat} {y : MethodName} {bytes : ByteArray} {maxL : Nat} {sw : List Addr} {rm : Room} {as' : Array Value} {Q : Option Value → Heap → List Loc → Prop} {W cells' slots' : Nat} (hM : ConW l Z EL sw y bytes maxL none rm as' h Q) (hEL : EW Z a0 EL) (hS : s.Since vm k0) (hk : k0 ≤ h.size) (H : CHv Z EL vm h) (hsw : ∀ x ∈ sw, x < h.size ∧ Safe Z EL vm h x) (hin : y.name = "<init>") (hown : vm.findClass own = some m.cls) (w1 : (Cond.methodLink own index y).before a0 Z = true) (w2 : (Cond.instanceMethod y).before a0 Z = true) (wz : (Cond.initialized y.cls).before a0 Z = true) (wc : (Cond.code y bytes maxL none).before a0 Z = true) (hy : y.cls ≠ "java/lang/invoke/MethodHandle" ∧ y.cls ≠ "java/lang/invoke/VarHandle") (hml : L.size = c.maxLocals) (eT : T.heap = h) {ps : List FieldType} {rt : Option FieldType} (hpd : parseMethodDescriptor y.desc = some ⟨ps, rt⟩) {a : Addr} (argsL rest : List Value) (hll : argsL.length = ps.length) (has : (.ref a :: argsL).toArray = as') (hst : S = argsL.reverse ++ .ref a :: rest) (hW : (rest.map fun v => v.category).sum = W) (hf : rm.frames + 1 ≤ R.frames) (hl : W + (maxL + 11) + rm.locals ≤ R.locals) (hc' : cells + rm.cells = cells') (hs' : slots + rm.slots = slots') (hc : cells' ≤ R.cells) (hs : slots' ≤ R.slots) (hd : decode c.code pc = .ok (.invokespecial index, 3)) (hp : pc + 3 = pc') (k : ∀ v T' h' Lc k1, Stand p l e R (s.setVm T'.vm) m args below meth c T' (locs ++ Lc) cells' slots' → T'.heap = h' → s.Since T'.vm k1 → k1 ≤ h'.size → Z.Warmed39 T'.vm → T'.vm.findClass own = some m.cls → CHr Z EL vm h T'.vm h' → Q v h' Lc → OG p e below P (T'.setTop (mkF m pc' L (v.toList ++ rest)))) : OG p e below P (T.setTop (mkF m pc L S)) := by
  subst hp hst hc' hs' has
  obtain ⟨v, _, ⟨T1, L1, k1, n1⟩, -, X1, hS1, hg1, ⟨Lc, hQ, l1, y1, z1, hC1⟩, st⟩ := X.specialBackS hx (y := y) hin hown (mvT (s := s.setVm vm) hZ w1) (mvT (s := s.setVm vm) hZ w2) (mvT (s := s.setVm vm) hZ wc) hy (own_backW (s := s) (vm := vm) (W := W) hM hZ wc wz hf hl hEL H hsw) (g := mkF m pc L (argsL.reverse ++ .ref a :: rest)) rfl hml (Steps.refl _) (a := a) (argsL := argsL) (rest := rest) (lenOf hpd hll) rfl (by show 2 * 0 + _ ≤ _; rw [hW]; omega) hd (fun _ _ => ⟨rfl, eT, hc, hs⟩)
  dsimp only [Pt.U, Pt.locs, Pt.cells, Pt.slots] at X1 l1 y1 z1 st hQ hS1 hg1 hC1
  subst l1 y1 z1 eT
  exact OG.of (fun t k => st.trans k) (k v T1 _ Lc _ X1 rfl (hS.trans hS1 (Nat.le_trans hk hg1)) (Nat.le_refl _) (State.Warmed39.trans (t := s.setVm vm) hZ hS1.1) (by rw [hS1.1.alike.findClass]; exact hown) hC1 hQ)
end OwnKitW
def own_EL : List (String × Nat) := []
abbrev HW (a0 : Array Value) (Z : State) : Prop := ∀ d ∈ tables_1, d.before a0 Z = true
def ow0 {a0 : Array Value} {Z : State} (hw : HW a0 Z) := hw _ (List.mem_of_getElem? (i := 0) rfl)
def ow1 {a0 : Array Value} {Z : State} (hw : HW a0 Z) := hw _ (List.mem_of_getElem? (i := 1) rfl)
def ow2 {a0 : Array Value} {Z : State} (hw : HW a0 Z) := hw _ (List.mem_of_getElem? (i := 2) rfl)
def ow3 {a0 : Array Value} {Z : State} (hw : HW a0 Z) := hw _ (List.mem_of_getElem? (i := 3) rfl)
def ow4 {a0 : Array Value} {Z : State} (hw : HW a0 Z) := hw _ (List.mem_of_getElem? (i := 4) rfl)
def ow5 {a0 : Array Value} {Z : State} (hw : HW a0 Z) := hw _ (List.mem_of_getElem? (i := 5) rfl)
def ow6 {a0 : Array Value} {Z : State} (hw : HW a0 Z) := hw _ (List.mem_of_getElem? (i := 6) rfl)
def ow7 {a0 : Array Value} {Z : State} (hw : HW a0 Z) := hw _ (List.mem_of_getElem? (i := 7) rfl)
def ow8 {a0 : Array Value} {Z : State} (hw : HW a0 Z) := hw _ (List.mem_of_getElem? (i := 8) rfl)
def ow9 {a0 : Array Value} {Z : State} (hw : HW a0 Z) := hw _ (List.mem_of_getElem? (i := 9) rfl)
def ow10 {a0 : Array Value} {Z : State} (hw : HW a0 Z) := hw _ (List.mem_of_getElem? (i := 10) rfl)
def ow11 {a0 : Array Value} {Z : State} (hw : HW a0 Z) := hw _ (List.mem_of_getElem? (i := 11) rfl)
def ow12 {a0 : Array Value} {Z : State} (hw : HW a0 Z) := hw _ (List.mem_of_getElem? (i := 12) rfl)
def ow13 {a0 : Array Value} {Z : State} (hw : HW a0 Z) := hw _ (List.mem_of_getElem? (i := 13) rfl)
def ow14 {a0 : Array Value} {Z : State} (hw : HW a0 Z) := hw _ (List.mem_of_getElem? (i := 14) rfl)
def ow15 {a0 : Array Value} {Z : State} (hw : HW a0 Z) := hw _ (List.mem_of_getElem? (i := 15) rfl)
def ow16 {a0 : Array Value} {Z : State} (hw : HW a0 Z) := hw _ (List.mem_of_getElem? (i := 16) rfl)
def ow17 {a0 : Array Value} {Z : State} (hw : HW a0 Z) := hw _ (List.mem_of_getElem? (i := 17) rfl)
def ow18 {a0 : Array Value} {Z : State} (hw : HW a0 Z) := hw _ (List.mem_of_getElem? (i := 18) rfl)
def ow19 {a0 : Array Value} {Z : State} (hw : HW a0 Z) := hw _ (List.mem_of_getElem? (i := 19) rfl)
def ow20 {a0 : Array Value} {Z : State} (hw : HW a0 Z) := hw _ (List.mem_of_getElem? (i := 20) rfl)
def ow22 {a0 : Array Value} {Z : State} (hw : HW a0 Z) := hw _ (List.mem_of_getElem? (i := 22) rfl)
def ow23 {a0 : Array Value} {Z : State} (hw : HW a0 Z) := hw _ (List.mem_of_getElem? (i := 23) rfl)
def ow24 {a0 : Array Value} {Z : State} (hw : HW a0 Z) := hw _ (List.mem_of_getElem? (i := 24) rfl)
def ow25 {a0 : Array Value} {Z : State} (hw : HW a0 Z) := hw _ (List.mem_of_getElem? (i := 25) rfl)
def ow26 {a0 : Array Value} {Z : State} (hw : HW a0 Z) := hw _ (List.mem_of_getElem? (i := 26) rfl)
def ow27 {a0 : Array Value} {Z : State} (hw : HW a0 Z) := hw _ (List.mem_of_getElem? (i := 27) rfl)
def ow28 {a0 : Array Value} {Z : State} (hw : HW a0 Z) := hw _ (List.mem_of_getElem? (i := 28) rfl)
def ow29 {a0 : Array Value} {Z : State} (hw : HW a0 Z) := hw _ (List.mem_of_getElem? (i := 29) rfl)
def ow30 {a0 : Array Value} {Z : State} (hw : HW a0 Z) := hw _ (List.mem_of_getElem? (i := 30) rfl)
def ow31 {a0 : Array Value} {Z : State} (hw : HW a0 Z) := hw _ (List.mem_of_getElem? (i := 31) rfl)
def ow32 {a0 : Array Value} {Z : State} (hw : HW a0 Z) := hw _ (List.mem_of_getElem? (i := 32) rfl)
def ow33 {a0 : Array Value} {Z : State} (hw : HW a0 Z) := hw _ (List.mem_of_getElem? (i := 33) rfl)
def ow34 {a0 : Array Value} {Z : State} (hw : HW a0 Z) := hw _ (List.mem_of_getElem? (i := 34) rfl)
def ow35 {a0 : Array Value} {Z : State} (hw : HW a0 Z) := hw _ (List.mem_of_getElem? (i := 35) rfl)
def ow36 {a0 : Array Value} {Z : State} (hw : HW a0 Z) := hw _ (List.mem_of_getElem? (i := 36) rfl)
def ow37 {a0 : Array Value} {Z : State} (hw : HW a0 Z) := hw _ (List.mem_of_getElem? (i := 37) rfl)
def ow39 {a0 : Array Value} {Z : State} (hw : HW a0 Z) := hw _ (List.mem_of_getElem? (i := 39) rfl)
def ow40 {a0 : Array Value} {Z : State} (hw : HW a0 Z) := hw _ (List.mem_of_getElem? (i := 40) rfl)
def ow41 {a0 : Array Value} {Z : State} (hw : HW a0 Z) := hw _ (List.mem_of_getElem? (i := 41) rfl)
def ow43 {a0 : Array Value} {Z : State} (hw : HW a0 Z) := hw _ (List.mem_of_getElem? (i := 43) rfl)
def ow44 {a0 : Array Value} {Z : State} (hw : HW a0 Z) := hw _ (List.mem_of_getElem? (i := 44) rfl)
def ow45 {a0 : Array Value} {Z : State} (hw : HW a0 Z) := hw _ (List.mem_of_getElem? (i := 45) rfl)
def ow46 {a0 : Array Value} {Z : State} (hw : HW a0 Z) := hw _ (List.mem_of_getElem? (i := 46) rfl)
def ow47 {a0 : Array Value} {Z : State} (hw : HW a0 Z) := hw _ (List.mem_of_getElem? (i := 47) rfl)
def ow48 {a0 : Array Value} {Z : State} (hw : HW a0 Z) := hw _ (List.mem_of_getElem? (i := 48) rfl)
def ow50 {a0 : Array Value} {Z : State} (hw : HW a0 Z) := hw _ (List.mem_of_getElem? (i := 50) rfl)
def ow51 {a0 : Array Value} {Z : State} (hw : HW a0 Z) := hw _ (List.mem_of_getElem? (i := 51) rfl)
def ow52 {a0 : Array Value} {Z : State} (hw : HW a0 Z) := hw _ (List.mem_of_getElem? (i := 52) rfl)
def ow53 {a0 : Array Value} {Z : State} (hw : HW a0 Z) := hw _ (List.mem_of_getElem? (i := 53) rfl)
def ow54 {a0 : Array Value} {Z : State} (hw : HW a0 Z) := hw _ (List.mem_of_getElem? (i := 54) rfl)
def ow55 {a0 : Array Value} {Z : State} (hw : HW a0 Z) := hw _ (List.mem_of_getElem? (i := 55) rfl)
def ow56 {a0 : Array Value} {Z : State} (hw : HW a0 Z) := hw _ (List.mem_of_getElem? (i := 56) rfl)
def ow57 {a0 : Array Value} {Z : State} (hw : HW a0 Z) := hw _ (List.mem_of_getElem? (i := 57) rfl)
def ow58 {a0 : Array Value} {Z : State} (hw : HW a0 Z) := hw _ (List.mem_of_getElem? (i := 58) rfl)
def ow59 {a0 : Array Value} {Z : State} (hw : HW a0 Z) := hw _ (List.mem_of_getElem? (i := 59) rfl)
def ow60 {a0 : Array Value} {Z : State} (hw : HW a0 Z) := hw _ (List.mem_of_getElem? (i := 60) rfl)
def ow61 {a0 : Array Value} {Z : State} (hw : HW a0 Z) := hw _ (List.mem_of_getElem? (i := 61) rfl)
def ow62 {a0 : Array Value} {Z : State} (hw : HW a0 Z) := hw _ (List.mem_of_getElem? (i := 62) rfl)
def ow63 {a0 : Array Value} {Z : State} (hw : HW a0 Z) := hw _ (List.mem_of_getElem? (i := 63) rfl)
def ow64 {a0 : Array Value} {Z : State} (hw : HW a0 Z) := hw _ (List.mem_of_getElem? (i := 64) rfl)
def ow65 {a0 : Array Value} {Z : State} (hw : HW a0 Z) := hw _ (List.mem_of_getElem? (i := 65) rfl)
def ow66 {a0 : Array Value} {Z : State} (hw : HW a0 Z) := hw _ (List.mem_of_getElem? (i := 66) rfl)
def ow67 {a0 : Array Value} {Z : State} (hw : HW a0 Z) := hw _ (List.mem_of_getElem? (i := 67) rfl)
def ow68 {a0 : Array Value} {Z : State} (hw : HW a0 Z) := hw _ (List.mem_of_getElem? (i := 68) rfl)
def ow69 {a0 : Array Value} {Z : State} (hw : HW a0 Z) := hw _ (List.mem_of_getElem? (i := 69) rfl)
def ow70 {a0 : Array Value} {Z : State} (hw : HW a0 Z) := hw _ (List.mem_of_getElem? (i := 70) rfl)
def ow71 {a0 : Array Value} {Z : State} (hw : HW a0 Z) := hw _ (List.mem_of_getElem? (i := 71) rfl)
def ow72 {a0 : Array Value} {Z : State} (hw : HW a0 Z) := hw _ (List.mem_of_getElem? (i := 72) rfl)
def ow73 {a0 : Array Value} {Z : State} (hw : HW a0 Z) := hw _ (List.mem_of_getElem? (i := 73) rfl)
def ow74 {a0 : Array Value} {Z : State} (hw : HW a0 Z) := hw _ (List.mem_of_getElem? (i := 74) rfl)
def ow75 {a0 : Array Value} {Z : State} (hw : HW a0 Z) := hw _ (List.mem_of_getElem? (i := 75) rfl)
def ow76 {a0 : Array Value} {Z : State} (hw : HW a0 Z) := hw _ (List.mem_of_getElem? (i := 76) rfl)
def ow77 {a0 : Array Value} {Z : State} (hw : HW a0 Z) := hw _ (List.mem_of_getElem? (i := 77) rfl)
def ow78 {a0 : Array Value} {Z : State} (hw : HW a0 Z) := hw _ (List.mem_of_getElem? (i := 78) rfl)
def ow79 {a0 : Array Value} {Z : State} (hw : HW a0 Z) := hw _ (List.mem_of_getElem? (i := 79) rfl)
def ow80 {a0 : Array Value} {Z : State} (hw : HW a0 Z) := hw _ (List.mem_of_getElem? (i := 80) rfl)
def ow81 {a0 : Array Value} {Z : State} (hw : HW a0 Z) := hw _ (List.mem_of_getElem? (i := 81) rfl)
def ow82 {a0 : Array Value} {Z : State} (hw : HW a0 Z) := hw _ (List.mem_of_getElem? (i := 82) rfl)
def ow83 {a0 : Array Value} {Z : State} (hw : HW a0 Z) := hw _ (List.mem_of_getElem? (i := 83) rfl)
def ow84 {a0 : Array Value} {Z : State} (hw : HW a0 Z) := hw _ (List.mem_of_getElem? (i := 84) rfl)
def ow85 {a0 : Array Value} {Z : State} (hw : HW a0 Z) := hw _ (List.mem_of_getElem? (i := 85) rfl)
def ow86 {a0 : Array Value} {Z : State} (hw : HW a0 Z) := hw _ (List.mem_of_getElem? (i := 86) rfl)
def ow87 {a0 : Array Value} {Z : State} (hw : HW a0 Z) := hw _ (List.mem_of_getElem? (i := 87) rfl)
def ow88 {a0 : Array Value} {Z : State} (hw : HW a0 Z) := hw _ (List.mem_of_getElem? (i := 88) rfl)
def ow89 {a0 : Array Value} {Z : State} (hw : HW a0 Z) := hw _ (List.mem_of_getElem? (i := 89) rfl)
def ow90 {a0 : Array Value} {Z : State} (hw : HW a0 Z) := hw _ (List.mem_of_getElem? (i := 90) rfl)
def ow91 {a0 : Array Value} {Z : State} (hw : HW a0 Z) := hw _ (List.mem_of_getElem? (i := 91) rfl)
def ow92 {a0 : Array Value} {Z : State} (hw : HW a0 Z) := hw _ (List.mem_of_getElem? (i := 92) rfl)
def ow93 {a0 : Array Value} {Z : State} (hw : HW a0 Z) := hw _ (List.mem_of_getElem? (i := 93) rfl)
def ow94 {a0 : Array Value} {Z : State} (hw : HW a0 Z) := hw _ (List.mem_of_getElem? (i := 94) rfl)
def ow95 {a0 : Array Value} {Z : State} (hw : HW a0 Z) := hw _ (List.mem_of_getElem? (i := 95) rfl)
def ow96 {a0 : Array Value} {Z : State} (hw : HW a0 Z) := hw _ (List.mem_of_getElem? (i := 96) rfl)
def ow97 {a0 : Array Value} {Z : State} (hw : HW a0 Z) := hw _ (List.mem_of_getElem? (i := 97) rfl)
def ow98 {a0 : Array Value} {Z : State} (hw : HW a0 Z) := hw _ (List.mem_of_getElem? (i := 98) rfl)
def ow99 {a0 : Array Value} {Z : State} (hw : HW a0 Z) := hw _ (List.mem_of_getElem? (i := 99) rfl)
def ow100 {a0 : Array Value} {Z : State} (hw : HW a0 Z) := hw _ (List.mem_of_getElem? (i := 100) rfl)
def ow101 {a0 : Array Value} {Z : State} (hw : HW a0 Z) := hw _ (List.mem_of_getElem? (i := 101) rfl)
def ow102 {a0 : Array Value} {Z : State} (hw : HW a0 Z) := hw _ (List.mem_of_getElem? (i := 102) rfl)
def ow103 {a0 : Array Value} {Z : State} (hw : HW a0 Z) := hw _ (List.mem_of_getElem? (i := 103) rfl)
def ow104 {a0 : Array Value} {Z : State} (hw : HW a0 Z) := hw _ (List.mem_of_getElem? (i := 104) rfl)
def ow105 {a0 : Array Value} {Z : State} (hw : HW a0 Z) := hw _ (List.mem_of_getElem? (i := 105) rfl)
def ow106 {a0 : Array Value} {Z : State} (hw : HW a0 Z) := hw _ (List.mem_of_getElem? (i := 106) rfl)
def ow107 {a0 : Array Value} {Z : State} (hw : HW a0 Z) := hw _ (List.mem_of_getElem? (i := 107) rfl)
def ow108 {a0 : Array Value} {Z : State} (hw : HW a0 Z) := hw _ (List.mem_of_getElem? (i := 108) rfl)
def ow109 {a0 : Array Value} {Z : State} (hw : HW a0 Z) := hw _ (List.mem_of_getElem? (i := 109) rfl)
def ow110 {a0 : Array Value} {Z : State} (hw : HW a0 Z) := hw _ (List.mem_of_getElem? (i := 110) rfl)
def ow111 {a0 : Array Value} {Z : State} (hw : HW a0 Z) := hw _ (List.mem_of_getElem? (i := 111) rfl)
def ow112 {a0 : Array Value} {Z : State} (hw : HW a0 Z) := hw _ (List.mem_of_getElem? (i := 112) rfl)
def ow113 {a0 : Array Value} {Z : State} (hw : HW a0 Z) := hw _ (List.mem_of_getElem? (i := 113) rfl)
def ow114 {a0 : Array Value} {Z : State} (hw : HW a0 Z) := hw _ (List.mem_of_getElem? (i := 114) rfl)
def ow115 {a0 : Array Value} {Z : State} (hw : HW a0 Z) := hw _ (List.mem_of_getElem? (i := 115) rfl)
def ow116 {a0 : Array Value} {Z : State} (hw : HW a0 Z) := hw _ (List.mem_of_getElem? (i := 116) rfl)
def ow117 {a0 : Array Value} {Z : State} (hw : HW a0 Z) := hw _ (List.mem_of_getElem? (i := 117) rfl)
def ow118 {a0 : Array Value} {Z : State} (hw : HW a0 Z) := hw _ (List.mem_of_getElem? (i := 118) rfl)
def ow119 {a0 : Array Value} {Z : State} (hw : HW a0 Z) := hw _ (List.mem_of_getElem? (i := 119) rfl)
def ow120 {a0 : Array Value} {Z : State} (hw : HW a0 Z) := hw _ (List.mem_of_getElem? (i := 120) rfl)
def ow121 {a0 : Array Value} {Z : State} (hw : HW a0 Z) := hw _ (List.mem_of_getElem? (i := 121) rfl)
def ow122 {a0 : Array Value} {Z : State} (hw : HW a0 Z) := hw _ (List.mem_of_getElem? (i := 122) rfl)
theorem opd_0 : parseMethodDescriptor "(C)Z" = some ⟨[.char], some .boolean⟩ := by decide +kernel
theorem opd_1 : parseMethodDescriptor "(C)[B" = some ⟨[.char], some (.array .byte)⟩ := by decide +kernel
theorem opd_2 : parseMethodDescriptor "([BB)V" = some ⟨[(.array .byte), .byte], none⟩ := by decide +kernel
theorem opd_3 : parseMethodDescriptor "([CI[BII)I" = some ⟨[(.array .char), .int, (.array .byte), .int, .int], some .int⟩ := by decide +kernel
theorem opd_4 : parseMethodDescriptor "([CII)[B" = some ⟨[(.array .char), .int, .int], some (.array .byte)⟩ := by decide +kernel
theorem opd_5 : parseMethodDescriptor "([BI)B" = some ⟨[(.array .byte), .int], some .byte⟩ := by decide +kernel
theorem opd_6 : parseMethodDescriptor "([CIILjava/lang/Void;)V" = some ⟨[(.array .char), .int, .int, (.object "java/lang/Void")], none⟩ := by decide +kernel
theorem opd_7 : parseMethodDescriptor "()B" = some ⟨[], some .byte⟩ := by decide +kernel
theorem opd_8 : parseMethodDescriptor "(I)Z" = some ⟨[.int], some .boolean⟩ := by decide +kernel
theorem opd_9 : parseMethodDescriptor "(II)I" = some ⟨[.int, .int], some .int⟩ := by decide +kernel
theorem opd_10 : parseMethodDescriptor "([BIII)I" = some ⟨[(.array .byte), .int, .int, .int], some .int⟩ := by decide +kernel
theorem opd_11 : parseMethodDescriptor "()Z" = some ⟨[], some .boolean⟩ := by decide +kernel
theorem opd_12 : parseMethodDescriptor "()I" = some ⟨[], some .int⟩ := by decide +kernel
theorem opd_13 : parseMethodDescriptor "()V" = some ⟨[], none⟩ := by decide +kernel
theorem opd_14 : parseMethodDescriptor "(Ljava/lang/Object;Ljava/lang/String;)Ljava/lang/Object;" = some ⟨[(.object "java/lang/Object"), (.object "java/lang/String")], some (.object "java/lang/Object")⟩ := by decide +kernel
theorem opd_15 : parseMethodDescriptor "(I)I" = some ⟨[.int], some .int⟩ := by decide +kernel
theorem opd_16 : parseMethodDescriptor "(I)C" = some ⟨[.int], some .char⟩ := by decide +kernel
theorem opd_17 : parseMethodDescriptor "(C)Ljava/lang/String;" = some ⟨[.char], some (.object "java/lang/String")⟩ := by decide +kernel
theorem opd_18 : parseMethodDescriptor "(Ljava/lang/String;Ljava/lang/String;)V" = some ⟨[(.object "java/lang/String"), (.object "java/lang/String")], none⟩ := by decide +kernel
theorem opd_19 : parseMethodDescriptor "([C)V" = some ⟨[(.array .char)], none⟩ := by decide +kernel
theorem d1_0 : decode method_2_code 0 = .ok (.iload_n 0, 1) := by decide +kernel
theorem d1_1 : decode method_2_code 1 = .ok (.iconst 1, 1) := by decide +kernel
theorem d1_2 : decode method_2_code 2 = .ok (.iand, 1) := by decide +kernel
theorem d1_3 : decode method_2_code 3 = .ok (.ifCond .eq 8, 3) := by decide +kernel
theorem d1_6 : decode method_2_code 6 = .ok (.bipush 46, 2) := by decide +kernel
theorem d1_8 : decode method_2_code 8 = .ok (.goto 11, 3) := by decide +kernel
theorem d1_11 : decode method_2_code 11 = .ok (.iload_n 0, 1) := by decide +kernel
theorem d1_12 : decode method_2_code 12 = .ok (.iconst 1, 1) := by decide +kernel
theorem d1_13 : decode method_2_code 13 = .ok (.iushr, 1) := by decide +kernel
theorem d1_14 : decode method_2_code 14 = .ok (.sipush 255, 3) := by decide +kernel
theorem d1_17 : decode method_2_code 17 = .ok (.iand, 1) := by decide +kernel
theorem d1_18 : decode method_2_code 18 = .ok (.i2c, 1) := by decide +kernel
theorem d1_19 : decode method_2_code 19 = .ok (.ireturn, 1) := by decide +kernel
theorem d2_0 : decode jdk_42_method_139_code 0 = .ok (.getstatic 38, 3) := by decide +kernel
theorem d2_3 : decode jdk_42_method_139_code 3 = .ok (.ifCond .eq 23, 3) := by decide +kernel
theorem d2_6 : decode jdk_42_method_139_code 6 = .ok (.iload_n 0, 1) := by decide +kernel
theorem d2_7 : decode jdk_42_method_139_code 7 = .ok (.invokestatic 1015, 3) := by decide +kernel
theorem d2_10 : decode jdk_42_method_139_code 10 = .ok (.ifCond .eq 16, 3) := by decide +kernel
theorem d2_13 : decode jdk_42_method_139_code 13 = .ok (.new 10, 3) := by decide +kernel
theorem d2_16 : decode jdk_42_method_139_code 16 = .ok (.dup, 1) := by decide +kernel
theorem d2_17 : decode jdk_42_method_139_code 17 = .ok (.iload_n 0, 1) := by decide +kernel
theorem d2_18 : decode jdk_42_method_139_code 18 = .ok (.invokestatic 1018, 3) := by decide +kernel
theorem d2_21 : decode jdk_42_method_139_code 21 = .ok (.iconst 0, 1) := by decide +kernel
theorem d2_22 : decode jdk_42_method_139_code 22 = .ok (.invokespecial 209, 3) := by decide +kernel
theorem d2_25 : decode jdk_42_method_139_code 25 = .ok (.areturn, 1) := by decide +kernel
theorem d3_0 : decode jdk_43_method_3_code 0 = .ok (.iload_n 0, 1) := by decide +kernel
theorem d3_1 : decode jdk_43_method_3_code 1 = .ok (.sipush 255, 3) := by decide +kernel
theorem d3_4 : decode jdk_43_method_3_code 4 = .ok (.if_icmp .gt 7, 3) := by decide +kernel
theorem d3_7 : decode jdk_43_method_3_code 7 = .ok (.iconst 1, 1) := by decide +kernel
theorem d3_8 : decode jdk_43_method_3_code 8 = .ok (.goto 4, 3) := by decide +kernel
theorem d3_12 : decode jdk_43_method_3_code 12 = .ok (.ireturn, 1) := by decide +kernel
theorem d4_0 : decode jdk_43_method_46_code 0 = .ok (.iconst 1, 1) := by decide +kernel
theorem d4_1 : decode jdk_43_method_46_code 1 = .ok (.newarray .byte, 2) := by decide +kernel
theorem d4_3 : decode jdk_43_method_46_code 3 = .ok (.dup, 1) := by decide +kernel
theorem d4_4 : decode jdk_43_method_46_code 4 = .ok (.iconst 0, 1) := by decide +kernel
theorem d4_5 : decode jdk_43_method_46_code 5 = .ok (.iload_n 0, 1) := by decide +kernel
theorem d4_6 : decode jdk_43_method_46_code 6 = .ok (.i2b, 1) := by decide +kernel
theorem d4_7 : decode jdk_43_method_46_code 7 = .ok (.bastore, 1) := by decide +kernel
theorem d4_8 : decode jdk_43_method_46_code 8 = .ok (.areturn, 1) := by decide +kernel
theorem d5_0 : decode jdk_42_method_151_code 0 = .ok (.aload_n 0, 1) := by decide +kernel
theorem d5_1 : decode jdk_42_method_151_code 1 = .ok (.invokespecial 1, 3) := by decide +kernel
theorem d5_4 : decode jdk_42_method_151_code 4 = .ok (.aload_n 0, 1) := by decide +kernel
theorem d5_5 : decode jdk_42_method_151_code 5 = .ok (.aload_n 1, 1) := by decide +kernel
theorem d5_6 : decode jdk_42_method_151_code 6 = .ok (.putfield 9, 3) := by decide +kernel
theorem d5_9 : decode jdk_42_method_151_code 9 = .ok (.aload_n 0, 1) := by decide +kernel
theorem d5_10 : decode jdk_42_method_151_code 10 = .ok (.iload_n 2, 1) := by decide +kernel
theorem d5_11 : decode jdk_42_method_151_code 11 = .ok (.putfield 15, 3) := by decide +kernel
theorem d5_14 : decode jdk_42_method_151_code 14 = .ok (.return_, 1) := by decide +kernel
theorem d7_0 : decode prog_8_method_1_code 0 = .ok (.aload_n 0, 1) := by decide +kernel
theorem d7_1 : decode prog_8_method_1_code 1 = .ok (.invokespecial 1, 3) := by decide +kernel
theorem d7_4 : decode prog_8_method_1_code 4 = .ok (.aload_n 1, 1) := by decide +kernel
theorem d7_5 : decode prog_8_method_1_code 5 = .ok (.ldc 7, 2) := by decide +kernel
theorem d7_7 : decode prog_8_method_1_code 7 = .ok (.invokestatic 9, 3) := by decide +kernel
theorem d7_10 : decode prog_8_method_1_code 10 = .ok (.pop, 1) := by decide +kernel
theorem d7_11 : decode prog_8_method_1_code 11 = .ok (.aload_n 2, 1) := by decide +kernel
theorem d7_12 : decode prog_8_method_1_code 12 = .ok (.ldc 15, 2) := by decide +kernel
theorem d7_14 : decode prog_8_method_1_code 14 = .ok (.invokestatic 9, 3) := by decide +kernel
theorem d7_17 : decode prog_8_method_1_code 17 = .ok (.pop, 1) := by decide +kernel
theorem d7_18 : decode prog_8_method_1_code 18 = .ok (.aload_n 1, 1) := by decide +kernel
theorem d7_19 : decode prog_8_method_1_code 19 = .ok (.invokevirtual 17, 3) := by decide +kernel
theorem d7_22 : decode prog_8_method_1_code 22 = .ok (.ifCond .ne 10, 3) := by decide +kernel
theorem d7_25 : decode prog_8_method_1_code 25 = .ok (.aload_n 2, 1) := by decide +kernel
theorem d7_26 : decode prog_8_method_1_code 26 = .ok (.invokevirtual 17, 3) := by decide +kernel
theorem d7_29 : decode prog_8_method_1_code 29 = .ok (.ifCond .eq 13, 3) := by decide +kernel
theorem d7_42 : decode prog_8_method_1_code 42 = .ok (.aload_n 0, 1) := by decide +kernel
theorem d7_43 : decode prog_8_method_1_code 43 = .ok (.aload_n 1, 1) := by decide +kernel
theorem d7_44 : decode prog_8_method_1_code 44 = .ok (.putfield 30, 3) := by decide +kernel
theorem d7_47 : decode prog_8_method_1_code 47 = .ok (.aload_n 0, 1) := by decide +kernel
theorem d7_48 : decode prog_8_method_1_code 48 = .ok (.aload_n 2, 1) := by decide +kernel
theorem d7_49 : decode prog_8_method_1_code 49 = .ok (.putfield 35, 3) := by decide +kernel
theorem d7_52 : decode prog_8_method_1_code 52 = .ok (.return_, 1) := by decide +kernel
theorem d8_0 : decode jdk_30_method_1_code 0 = .ok (.aload_n 0, 1) := by decide +kernel
theorem d8_1 : decode jdk_30_method_1_code 1 = .ok (.invokespecial 1, 3) := by decide +kernel
theorem d8_4 : decode jdk_30_method_1_code 4 = .ok (.return_, 1) := by decide +kernel
theorem d9_0 : decode jdk_31_method_11_code 0 = .ok (.aload_n 0, 1) := by decide +kernel
theorem d9_1 : decode jdk_31_method_11_code 1 = .ok (.ifnonnull 12, 3) := by decide +kernel
theorem d9_13 : decode jdk_31_method_11_code 13 = .ok (.aload_n 0, 1) := by decide +kernel
theorem d9_14 : decode jdk_31_method_11_code 14 = .ok (.areturn, 1) := by decide +kernel
theorem d10_0 : decode jdk_42_method_55_code 0 = .ok (.aload_n 0, 1) := by decide +kernel
theorem d10_1 : decode jdk_42_method_55_code 1 = .ok (.getfield 9, 3) := by decide +kernel
theorem d10_4 : decode jdk_42_method_55_code 4 = .ok (.arraylength, 1) := by decide +kernel
theorem d10_5 : decode jdk_42_method_55_code 5 = .ok (.ifCond .ne 7, 3) := by decide +kernel
theorem d10_12 : decode jdk_42_method_55_code 12 = .ok (.iconst 0, 1) := by decide +kernel
theorem d10_13 : decode jdk_42_method_55_code 13 = .ok (.ireturn, 1) := by decide +kernel
theorem d11_0 : decode prog_8_method_4_code 0 = .ok (.aload_n 0, 1) := by decide +kernel
theorem d11_1 : decode prog_8_method_4_code 1 = .ok (.getfield 30, 3) := by decide +kernel
theorem d11_4 : decode prog_8_method_4_code 4 = .ok (.bipush 46, 2) := by decide +kernel
theorem d11_6 : decode prog_8_method_4_code 6 = .ok (.invokevirtual 39, 3) := by decide +kernel
theorem d11_9 : decode prog_8_method_4_code 9 = .ok (.ifCond .ge 19, 3) := by decide +kernel
theorem d11_12 : decode prog_8_method_4_code 12 = .ok (.aload_n 0, 1) := by decide +kernel
theorem d11_13 : decode prog_8_method_4_code 13 = .ok (.getfield 35, 3) := by decide +kernel
theorem d11_16 : decode prog_8_method_4_code 16 = .ok (.bipush 46, 2) := by decide +kernel
theorem d11_18 : decode prog_8_method_4_code 18 = .ok (.invokevirtual 39, 3) := by decide +kernel
theorem d11_21 : decode prog_8_method_4_code 21 = .ok (.ifCond .ge 7, 3) := by decide +kernel
theorem d11_24 : decode prog_8_method_4_code 24 = .ok (.iconst 1, 1) := by decide +kernel
theorem d11_25 : decode prog_8_method_4_code 25 = .ok (.goto 4, 3) := by decide +kernel
theorem d11_28 : decode prog_8_method_4_code 28 = .ok (.iconst 0, 1) := by decide +kernel
theorem d11_29 : decode prog_8_method_4_code 29 = .ok (.ireturn, 1) := by decide +kernel
theorem d12_0 : decode jdk_42_method_79_code 0 = .ok (.aload_n 0, 1) := by decide +kernel
theorem d12_1 : decode jdk_42_method_79_code 1 = .ok (.iload_n 1, 1) := by decide +kernel
theorem d12_2 : decode jdk_42_method_79_code 2 = .ok (.iconst 0, 1) := by decide +kernel
theorem d12_3 : decode jdk_42_method_79_code 3 = .ok (.invokevirtual 633, 3) := by decide +kernel
theorem d12_6 : decode jdk_42_method_79_code 6 = .ok (.ireturn, 1) := by decide +kernel
theorem d13_0 : decode jdk_42_method_80_code 0 = .ok (.aload_n 0, 1) := by decide +kernel
theorem d13_1 : decode jdk_42_method_80_code 1 = .ok (.invokevirtual 492, 3) := by decide +kernel
theorem d13_4 : decode jdk_42_method_80_code 4 = .ok (.ifCond .eq 19, 3) := by decide +kernel
theorem d13_7 : decode jdk_42_method_80_code 7 = .ok (.aload_n 0, 1) := by decide +kernel
theorem d13_8 : decode jdk_42_method_80_code 8 = .ok (.getfield 9, 3) := by decide +kernel
theorem d13_11 : decode jdk_42_method_80_code 11 = .ok (.iload_n 1, 1) := by decide +kernel
theorem d13_12 : decode jdk_42_method_80_code 12 = .ok (.iload_n 2, 1) := by decide +kernel
theorem d13_13 : decode jdk_42_method_80_code 13 = .ok (.aload_n 0, 1) := by decide +kernel
theorem d13_14 : decode jdk_42_method_80_code 14 = .ok (.invokevirtual 505, 3) := by decide +kernel
theorem d13_17 : decode jdk_42_method_80_code 17 = .ok (.invokestatic 637, 3) := by decide +kernel
theorem d13_20 : decode jdk_42_method_80_code 20 = .ok (.goto 16, 3) := by decide +kernel
theorem d13_36 : decode jdk_42_method_80_code 36 = .ok (.ireturn, 1) := by decide +kernel
theorem d14_0 : decode jdk_42_method_154_code 0 = .ok (.getstatic 38, 3) := by decide +kernel
theorem d14_3 : decode jdk_42_method_154_code 3 = .ok (.ifCond .eq 14, 3) := by decide +kernel
theorem d14_6 : decode jdk_42_method_154_code 6 = .ok (.aload_n 0, 1) := by decide +kernel
theorem d14_7 : decode jdk_42_method_154_code 7 = .ok (.getfield 15, 3) := by decide +kernel
theorem d14_10 : decode jdk_42_method_154_code 10 = .ok (.ifCond .ne 7, 3) := by decide +kernel
theorem d14_13 : decode jdk_42_method_154_code 13 = .ok (.iconst 1, 1) := by decide +kernel
theorem d14_14 : decode jdk_42_method_154_code 14 = .ok (.goto 4, 3) := by decide +kernel
theorem d14_18 : decode jdk_42_method_154_code 18 = .ok (.ireturn, 1) := by decide +kernel
theorem d15_0 : decode jdk_42_method_54_code 0 = .ok (.aload_n 0, 1) := by decide +kernel
theorem d15_1 : decode jdk_42_method_54_code 1 = .ok (.getfield 9, 3) := by decide +kernel
theorem d15_4 : decode jdk_42_method_54_code 4 = .ok (.arraylength, 1) := by decide +kernel
theorem d15_5 : decode jdk_42_method_54_code 5 = .ok (.aload_n 0, 1) := by decide +kernel
theorem d15_6 : decode jdk_42_method_54_code 6 = .ok (.invokevirtual 335, 3) := by decide +kernel
theorem d15_9 : decode jdk_42_method_54_code 9 = .ok (.ishr, 1) := by decide +kernel
theorem d15_10 : decode jdk_42_method_54_code 10 = .ok (.ireturn, 1) := by decide +kernel
theorem d16_0 : decode jdk_42_method_152_code 0 = .ok (.getstatic 38, 3) := by decide +kernel
theorem d16_3 : decode jdk_42_method_152_code 3 = .ok (.ifCond .eq 10, 3) := by decide +kernel
theorem d16_6 : decode jdk_42_method_152_code 6 = .ok (.aload_n 0, 1) := by decide +kernel
theorem d16_7 : decode jdk_42_method_152_code 7 = .ok (.getfield 15, 3) := by decide +kernel
theorem d16_10 : decode jdk_42_method_152_code 10 = .ok (.goto 4, 3) := by decide +kernel
theorem d16_14 : decode jdk_42_method_152_code 14 = .ok (.ireturn, 1) := by decide +kernel
theorem d17_0 : decode jdk_43_method_22_code 0 = .ok (.iload_n 1, 1) := by decide +kernel
theorem d17_1 : decode jdk_43_method_22_code 1 = .ok (.invokestatic 88, 3) := by decide +kernel
theorem d17_4 : decode jdk_43_method_22_code 4 = .ok (.ifCond .ne 5, 3) := by decide +kernel
theorem d17_9 : decode jdk_43_method_22_code 9 = .ok (.iload_n 2, 1) := by decide +kernel
theorem d17_10 : decode jdk_43_method_22_code 10 = .ok (.iconst 0, 1) := by decide +kernel
theorem d17_11 : decode jdk_43_method_22_code 11 = .ok (.invokestatic 92, 3) := by decide +kernel
theorem d17_14 : decode jdk_43_method_22_code 14 = .ok (.istore_n 2, 1) := by decide +kernel
theorem d17_15 : decode jdk_43_method_22_code 15 = .ok (.iload_n 3, 1) := by decide +kernel
theorem d17_16 : decode jdk_43_method_22_code 16 = .ok (.aload_n 0, 1) := by decide +kernel
theorem d17_17 : decode jdk_43_method_22_code 17 = .ok (.arraylength, 1) := by decide +kernel
theorem d17_18 : decode jdk_43_method_22_code 18 = .ok (.invokestatic 38, 3) := by decide +kernel
theorem d17_21 : decode jdk_43_method_22_code 21 = .ok (.istore_n 3, 1) := by decide +kernel
theorem d17_22 : decode jdk_43_method_22_code 22 = .ok (.iload_n 2, 1) := by decide +kernel
theorem d17_23 : decode jdk_43_method_22_code 23 = .ok (.iload_n 3, 1) := by decide +kernel
theorem d17_24 : decode jdk_43_method_22_code 24 = .ok (.if_icmp .lt 5, 3) := by decide +kernel
theorem d17_29 : decode jdk_43_method_22_code 29 = .ok (.aload_n 0, 1) := by decide +kernel
theorem d17_30 : decode jdk_43_method_22_code 30 = .ok (.iload_n 1, 1) := by decide +kernel
theorem d17_31 : decode jdk_43_method_22_code 31 = .ok (.iload_n 2, 1) := by decide +kernel
theorem d17_32 : decode jdk_43_method_22_code 32 = .ok (.iload_n 3, 1) := by decide +kernel
theorem d17_33 : decode jdk_43_method_22_code 33 = .ok (.invokestatic 95, 3) := by decide +kernel
theorem d17_36 : decode jdk_43_method_22_code 36 = .ok (.ireturn, 1) := by decide +kernel
theorem d18_0 : decode jdk_43_method_4_code 0 = .ok (.iload_n 0, 1) := by decide +kernel
theorem d18_1 : decode jdk_43_method_4_code 1 = .ok (.ifCond .lt 14, 3) := by decide +kernel
theorem d18_4 : decode jdk_43_method_4_code 4 = .ok (.iload_n 0, 1) := by decide +kernel
theorem d18_5 : decode jdk_43_method_4_code 5 = .ok (.sipush 255, 3) := by decide +kernel
theorem d18_8 : decode jdk_43_method_4_code 8 = .ok (.if_icmp .gt 7, 3) := by decide +kernel
theorem d18_11 : decode jdk_43_method_4_code 11 = .ok (.iconst 1, 1) := by decide +kernel
theorem d18_12 : decode jdk_43_method_4_code 12 = .ok (.goto 4, 3) := by decide +kernel
theorem d18_16 : decode jdk_43_method_4_code 16 = .ok (.ireturn, 1) := by decide +kernel
theorem d19_0 : decode jdk_29_method_65_code 0 = .ok (.iload_n 0, 1) := by decide +kernel
theorem d19_1 : decode jdk_29_method_65_code 1 = .ok (.iload_n 1, 1) := by decide +kernel
theorem d19_2 : decode jdk_29_method_65_code 2 = .ok (.if_icmp .lt 7, 3) := by decide +kernel
theorem d19_5 : decode jdk_29_method_65_code 5 = .ok (.iload_n 0, 1) := by decide +kernel
theorem d19_6 : decode jdk_29_method_65_code 6 = .ok (.goto 4, 3) := by decide +kernel
theorem d19_10 : decode jdk_29_method_65_code 10 = .ok (.ireturn, 1) := by decide +kernel
theorem d20_0 : decode jdk_29_method_69_code 0 = .ok (.iload_n 0, 1) := by decide +kernel
theorem d20_1 : decode jdk_29_method_69_code 1 = .ok (.iload_n 1, 1) := by decide +kernel
theorem d20_2 : decode jdk_29_method_69_code 2 = .ok (.if_icmp .gt 7, 3) := by decide +kernel
theorem d20_5 : decode jdk_29_method_69_code 5 = .ok (.iload_n 0, 1) := by decide +kernel
theorem d20_6 : decode jdk_29_method_69_code 6 = .ok (.goto 4, 3) := by decide +kernel
theorem d20_10 : decode jdk_29_method_69_code 10 = .ok (.ireturn, 1) := by decide +kernel
theorem d21_0 : decode jdk_43_method_23_code 0 = .ok (.iload_n 1, 1) := by decide +kernel
theorem d21_1 : decode jdk_43_method_23_code 1 = .ok (.i2b, 1) := by decide +kernel
theorem d21_2 : decode jdk_43_method_23_code 2 = .ok (.istore 4, 2) := by decide +kernel
theorem d21_4 : decode jdk_43_method_23_code 4 = .ok (.iload_n 2, 1) := by decide +kernel
theorem d21_5 : decode jdk_43_method_23_code 5 = .ok (.istore 5, 2) := by decide +kernel
theorem d21_7 : decode jdk_43_method_23_code 7 = .ok (.iload 5, 2) := by decide +kernel
theorem d21_9 : decode jdk_43_method_23_code 9 = .ok (.iload_n 3, 1) := by decide +kernel
theorem d21_10 : decode jdk_43_method_23_code 10 = .ok (.if_icmp .ge 21, 3) := by decide +kernel
theorem d21_13 : decode jdk_43_method_23_code 13 = .ok (.aload_n 0, 1) := by decide +kernel
theorem d21_14 : decode jdk_43_method_23_code 14 = .ok (.iload 5, 2) := by decide +kernel
theorem d21_16 : decode jdk_43_method_23_code 16 = .ok (.baload, 1) := by decide +kernel
theorem d21_17 : decode jdk_43_method_23_code 17 = .ok (.iload 4, 2) := by decide +kernel
theorem d21_19 : decode jdk_43_method_23_code 19 = .ok (.if_icmp .ne 6, 3) := by decide +kernel
theorem d21_22 : decode jdk_43_method_23_code 22 = .ok (.iload 5, 2) := by decide +kernel
theorem d21_24 : decode jdk_43_method_23_code 24 = .ok (.ireturn, 1) := by decide +kernel
theorem d21_25 : decode jdk_43_method_23_code 25 = .ok (.iinc 5 1, 3) := by decide +kernel
theorem d21_28 : decode jdk_43_method_23_code 28 = .ok (.goto (-21), 3) := by decide +kernel
theorem d21_31 : decode jdk_43_method_23_code 31 = .ok (.iconst (-1), 1) := by decide +kernel
theorem d21_32 : decode jdk_43_method_23_code 32 = .ok (.ireturn, 1) := by decide +kernel
theorem d22_0 : decode jdk_42_method_3_code 0 = .ok (.aload_n 0, 1) := by decide +kernel
theorem d22_1 : decode jdk_42_method_3_code 1 = .ok (.aload_n 1, 1) := by decide +kernel
theorem d22_2 : decode jdk_42_method_3_code 2 = .ok (.iconst 0, 1) := by decide +kernel
theorem d22_3 : decode jdk_42_method_3_code 3 = .ok (.aload_n 1, 1) := by decide +kernel
theorem d22_4 : decode jdk_42_method_3_code 4 = .ok (.arraylength, 1) := by decide +kernel
theorem d22_5 : decode jdk_42_method_3_code 5 = .ok (.aconst_null, 1) := by decide +kernel
theorem d22_6 : decode jdk_42_method_3_code 6 = .ok (.invokespecial 27, 3) := by decide +kernel
theorem d22_9 : decode jdk_42_method_3_code 9 = .ok (.return_, 1) := by decide +kernel
theorem d23_0 : decode jdk_42_method_149_code 0 = .ok (.aload_n 0, 1) := by decide +kernel
theorem d23_1 : decode jdk_42_method_149_code 1 = .ok (.invokespecial 1, 3) := by decide +kernel
theorem d23_4 : decode jdk_42_method_149_code 4 = .ok (.iload_n 3, 1) := by decide +kernel
theorem d23_5 : decode jdk_42_method_149_code 5 = .ok (.ifCond .ne 22, 3) := by decide +kernel
theorem d23_27 : decode jdk_42_method_149_code 27 = .ok (.getstatic 38, 3) := by decide +kernel
theorem d23_30 : decode jdk_42_method_149_code 30 = .ok (.ifCond .eq 28, 3) := by decide +kernel
theorem d23_33 : decode jdk_42_method_149_code 33 = .ok (.aload_n 1, 1) := by decide +kernel
theorem d23_34 : decode jdk_42_method_149_code 34 = .ok (.iload_n 2, 1) := by decide +kernel
theorem d23_35 : decode jdk_42_method_149_code 35 = .ok (.iload_n 3, 1) := by decide +kernel
theorem d23_36 : decode jdk_42_method_149_code 36 = .ok (.invokestatic 177, 3) := by decide +kernel
theorem d23_39 : decode jdk_42_method_149_code 39 = .ok (.astore 5, 2) := by decide +kernel
theorem d23_41 : decode jdk_42_method_149_code 41 = .ok (.aload_n 0, 1) := by decide +kernel
theorem d23_42 : decode jdk_42_method_149_code 42 = .ok (.aload 5, 2) := by decide +kernel
theorem d23_44 : decode jdk_42_method_149_code 44 = .ok (.iload_n 3, 1) := by decide +kernel
theorem d23_45 : decode jdk_42_method_149_code 45 = .ok (.invokestatic 47, 3) := by decide +kernel
theorem d23_48 : decode jdk_42_method_149_code 48 = .ok (.putfield 15, 3) := by decide +kernel
theorem d23_51 : decode jdk_42_method_149_code 51 = .ok (.aload_n 0, 1) := by decide +kernel
theorem d23_52 : decode jdk_42_method_149_code 52 = .ok (.aload 5, 2) := by decide +kernel
theorem d23_54 : decode jdk_42_method_149_code 54 = .ok (.putfield 9, 3) := by decide +kernel
theorem d23_57 : decode jdk_42_method_149_code 57 = .ok (.return_, 1) := by decide +kernel
theorem d24_0 : decode jdk_52_method_16_code 0 = .ok (.iload_n 2, 1) := by decide +kernel
theorem d24_1 : decode jdk_52_method_16_code 1 = .ok (.newarray .byte, 2) := by decide +kernel
theorem d24_3 : decode jdk_52_method_16_code 3 = .ok (.astore_n 3, 1) := by decide +kernel
theorem d24_4 : decode jdk_52_method_16_code 4 = .ok (.aload_n 0, 1) := by decide +kernel
theorem d24_5 : decode jdk_52_method_16_code 5 = .ok (.iload_n 1, 1) := by decide +kernel
theorem d24_6 : decode jdk_52_method_16_code 6 = .ok (.aload_n 3, 1) := by decide +kernel
theorem d24_7 : decode jdk_52_method_16_code 7 = .ok (.iconst 0, 1) := by decide +kernel
theorem d24_8 : decode jdk_52_method_16_code 8 = .ok (.iload_n 2, 1) := by decide +kernel
theorem d24_9 : decode jdk_52_method_16_code 9 = .ok (.invokestatic 115, 3) := by decide +kernel
theorem d24_12 : decode jdk_52_method_16_code 12 = .ok (.istore 4, 2) := by decide +kernel
theorem d24_14 : decode jdk_52_method_16_code 14 = .ok (.iload 4, 2) := by decide +kernel
theorem d24_16 : decode jdk_52_method_16_code 16 = .ok (.iload_n 2, 1) := by decide +kernel
theorem d24_17 : decode jdk_52_method_16_code 17 = .ok (.if_icmp .eq 40, 3) := by decide +kernel
theorem d24_57 : decode jdk_52_method_16_code 57 = .ok (.aload_n 3, 1) := by decide +kernel
theorem d24_58 : decode jdk_52_method_16_code 58 = .ok (.areturn, 1) := by decide +kernel
theorem d25_0 : decode jdk_52_method_21_code 0 = .ok (.iconst 0, 1) := by decide +kernel
theorem d25_1 : decode jdk_52_method_21_code 1 = .ok (.istore 5, 2) := by decide +kernel
theorem d25_3 : decode jdk_52_method_21_code 3 = .ok (.iload 5, 2) := by decide +kernel
theorem d25_5 : decode jdk_52_method_21_code 5 = .ok (.iload 4, 2) := by decide +kernel
theorem d25_7 : decode jdk_52_method_21_code 7 = .ok (.if_icmp .ge 37, 3) := by decide +kernel
theorem d25_10 : decode jdk_52_method_21_code 10 = .ok (.aload_n 0, 1) := by decide +kernel
theorem d25_11 : decode jdk_52_method_21_code 11 = .ok (.iload_n 1, 1) := by decide +kernel
theorem d25_12 : decode jdk_52_method_21_code 12 = .ok (.caload, 1) := by decide +kernel
theorem d25_13 : decode jdk_52_method_21_code 13 = .ok (.istore 6, 2) := by decide +kernel
theorem d25_15 : decode jdk_52_method_21_code 15 = .ok (.iload 6, 2) := by decide +kernel
theorem d25_17 : decode jdk_52_method_21_code 17 = .ok (.sipush 255, 3) := by decide +kernel
theorem d25_20 : decode jdk_52_method_21_code 20 = .ok (.if_icmp .le 6, 3) := by decide +kernel
theorem d25_26 : decode jdk_52_method_21_code 26 = .ok (.aload_n 2, 1) := by decide +kernel
theorem d25_27 : decode jdk_52_method_21_code 27 = .ok (.iload_n 3, 1) := by decide +kernel
theorem d25_28 : decode jdk_52_method_21_code 28 = .ok (.iload 6, 2) := by decide +kernel
theorem d25_30 : decode jdk_52_method_21_code 30 = .ok (.i2b, 1) := by decide +kernel
theorem d25_31 : decode jdk_52_method_21_code 31 = .ok (.bastore, 1) := by decide +kernel
theorem d25_32 : decode jdk_52_method_21_code 32 = .ok (.iinc 1 1, 3) := by decide +kernel
theorem d25_35 : decode jdk_52_method_21_code 35 = .ok (.iinc 3 1, 3) := by decide +kernel
theorem d25_38 : decode jdk_52_method_21_code 38 = .ok (.iinc 5 1, 3) := by decide +kernel
theorem d25_41 : decode jdk_52_method_21_code 41 = .ok (.goto (-38), 3) := by decide +kernel
theorem d25_44 : decode jdk_52_method_21_code 44 = .ok (.iload 4, 2) := by decide +kernel
theorem d25_46 : decode jdk_52_method_21_code 46 = .ok (.ireturn, 1) := by decide +kernel
theorem d26_0 : decode jdk_52_method_15_code 0 = .ok (.iload_n 1, 1) := by decide +kernel
theorem d26_1 : decode jdk_52_method_15_code 1 = .ok (.aload_n 0, 1) := by decide +kernel
theorem d26_2 : decode jdk_52_method_15_code 2 = .ok (.arraylength, 1) := by decide +kernel
theorem d26_3 : decode jdk_52_method_15_code 3 = .ok (.isub, 1) := by decide +kernel
theorem d26_4 : decode jdk_52_method_15_code 4 = .ok (.bipush 31, 2) := by decide +kernel
theorem d26_6 : decode jdk_52_method_15_code 6 = .ok (.iushr, 1) := by decide +kernel
theorem d26_7 : decode jdk_52_method_15_code 7 = .ok (.i2b, 1) := by decide +kernel
theorem d26_8 : decode jdk_52_method_15_code 8 = .ok (.ireturn, 1) := by decide +kernel
theorem opn_0 : plainFor x = true := plainFor_of_name (by first | (simp [plainName, overriddenIn]; done) | decide +kernel)
theorem opn_1 : plainFor (⟨"com/example/tombstone/tombstone/config/TableNameWritablePinLaw", "ch", "(I)C"⟩ : MethodName) = true := plainFor_of_name (by first | (simp [plainName, overriddenIn]; done) | decide +kernel)
theorem opn_2 : plainFor (⟨"java/lang/String", "valueOf", "(C)Ljava/lang/String;"⟩ : MethodName) = true := plainFor_of_name (by first | (simp [plainName, overriddenIn]; done) | decide +kernel)
theorem opn_3 : plainFor (⟨"java/lang/StringLatin1", "canEncode", "(C)Z"⟩ : MethodName) = true := plainFor_of_name (by first | (simp [plainName, overriddenIn]; done) | decide +kernel)
theorem opn_4 : plainFor (⟨"java/lang/StringLatin1", "toBytes", "(C)[B"⟩ : MethodName) = true := plainFor_of_name (by first | (simp [plainName, overriddenIn]; done) | decide +kernel)
theorem opn_5 : plainFor (⟨"java/lang/String", "<init>", "([BB)V"⟩ : MethodName) = true := plainFor_of_name (by first | (simp [plainName, overriddenIn]; done) | decide +kernel)
theorem opn_7 : plainFor (⟨"com/example/tombstone/tombstone/config/TableName", "<init>", "(Ljava/lang/String;Ljava/lang/String;)V"⟩ : MethodName) = true := plainFor_of_name (by first | (simp [plainName, overriddenIn]; done) | decide +kernel)
theorem opn_8 : plainFor (⟨"java/lang/Record", "<init>", "()V"⟩ : MethodName) = true := plainFor_of_name (by first | (simp [plainName, overriddenIn]; done) | decide +kernel)
theorem opn_9 : plainFor (⟨"java/util/Objects", "requireNonNull", "(Ljava/lang/Object;Ljava/lang/String;)Ljava/lang/Object;"⟩ : MethodName) = true := plainFor_of_name (by first | (simp [plainName, overriddenIn]; done) | decide +kernel)
theorem opn_10 : plainFor (⟨"java/lang/String", "isEmpty", "()Z"⟩ : MethodName) = true := plainFor_of_name (by first | (simp [plainName, overriddenIn]; done) | decide +kernel)
theorem opn_11 : plainFor (⟨"com/example/tombstone/tombstone/config/TableName", "writable", "()Z"⟩ : MethodName) = true := plainFor_of_name (by first | (simp [plainName, overriddenIn]; done) | decide +kernel)
theorem opn_12 : plainFor (⟨"java/lang/String", "indexOf", "(I)I"⟩ : MethodName) = true := plainFor_of_name (by first | (simp [plainName, overriddenIn]; done) | decide +kernel)
theorem opn_13 : plainFor (⟨"java/lang/String", "indexOf", "(II)I"⟩ : MethodName) = true := plainFor_of_name (by first | (simp [plainName, overriddenIn]; done) | decide +kernel)
theorem opn_14 : plainFor (⟨"java/lang/String", "isLatin1", "()Z"⟩ : MethodName) = true := plainFor_of_name (by first | (simp [plainName, overriddenIn]; done) | decide +kernel)
theorem opn_15 : plainFor (⟨"java/lang/String", "length", "()I"⟩ : MethodName) = true := plainFor_of_name (by first | (simp [plainName, overriddenIn]; done) | decide +kernel)
theorem opn_16 : plainFor (⟨"java/lang/String", "coder", "()B"⟩ : MethodName) = true := plainFor_of_name (by first | (simp [plainName, overriddenIn]; done) | decide +kernel)
theorem opn_17 : plainFor (⟨"java/lang/StringLatin1", "indexOf", "([BIII)I"⟩ : MethodName) = true := plainFor_of_name (by first | (simp [plainName, overriddenIn]; done) | decide +kernel)
theorem opn_18 : plainFor (⟨"java/lang/StringLatin1", "canEncode", "(I)Z"⟩ : MethodName) = true := plainFor_of_name (by first | (simp [plainName, overriddenIn]; done) | decide +kernel)
theorem opn_19 : plainFor (⟨"java/lang/Math", "max", "(II)I"⟩ : MethodName) = true := Jvm.Free.JP.mathPlain rfl (by decide +kernel)
theorem opn_20 : plainFor (⟨"java/lang/Math", "min", "(II)I"⟩ : MethodName) = true := Jvm.Free.JP.mathPlain rfl (by decide +kernel)
theorem opn_21 : plainFor (⟨"java/lang/StringLatin1", "indexOfChar", "([BIII)I"⟩ : MethodName) = true := plainFor_of_name (by first | (simp [plainName, overriddenIn]; done) | decide +kernel)
theorem opn_22 : plainFor (⟨"java/lang/String", "<init>", "([C)V"⟩ : MethodName) = true := plainFor_of_name (by first | (simp [plainName, overriddenIn]; done) | decide +kernel)
theorem opn_23 : plainFor (⟨"java/lang/String", "<init>", "([CIILjava/lang/Void;)V"⟩ : MethodName) = true := plainFor_of_name (by first | (simp [plainName, overriddenIn]; done) | decide +kernel)
theorem opn_24 : plainFor (⟨"java/lang/StringUTF16", "compress", "([CII)[B"⟩ : MethodName) = true := plainFor_of_name (by first | (simp [plainName, overriddenIn]; done) | decide +kernel)
theorem opn_25 : plainFor (⟨"java/lang/StringUTF16", "compress", "([CI[BII)I"⟩ : MethodName) = true := plainFor_of_name (by first | (simp [plainName, overriddenIn]; done) | decide +kernel)
theorem opn_26 : plainFor (⟨"java/lang/StringUTF16", "coderFromArrayLen", "([BI)B"⟩ : MethodName) = true := plainFor_of_name (by first | (simp [plainName, overriddenIn]; done) | decide +kernel)
theorem own_hEL {a0 : Array Value} {Z : State} (hw : HW a0 Z) : EW Z a0 own_EL := EW.nil
theorem own_wS {a0 : Array Value} {Z : State} (hw : HW a0 Z) : ∀ a ∈ Bundle.stringAtoms, a.before a0 Z = true := by
  intro a ha
  simp only [Bundle.stringAtoms, List.mem_cons, List.not_mem_nil, or_false] at ha
  rcases ha with rfl | rfl | rfl | rfl | rfl | rfl | rfl
  · exact (ow6 hw)
  · exact (ow14 hw)
  · exact (ow18 hw)
  · exact (ow27 hw)
  · exact (ow29 hw)
  · exact (ow43 hw)
  · exact (ow44 hw)
theorem own_safe0 {Z : State} {vm : Vm} {h : Heap} {x : Addr} : Safe Z own_EL vm h x := fun ⟨_, q, _⟩ => nomatch q
theorem own_nb (x : Int32) : nar .byte (x.toInt8.toInt32) = x.toInt8.toInt32 := by
  show x.toInt8.toInt32.toInt8.toInt32 = x.toInt8.toInt32
  simp
theorem own_strarr {Z : State} {h : Heap} {a b : Addr} {C : String} {k : ClassId} {ty : FieldType} {z : Int32} {vs : List Value} {dv : Value} {a0 : Array Value} {n : Nat} (E : Exa Z h a C) (A : Arv Z h b k ty z vs dv) (w : (Cond.instantiable C n).before a0 Z = true) (q : a = b) : False := by
  obtain ⟨cl, A, -⟩ := A
  exact ne_arr E w A q
theorem own_ne0 {args : Array Value} {s : State} {t : Term} {x : Int32} (e : t.eval args s none [] s = some (.int x)) (h : (Cond.not (Cond.eq t (Term.int (0 : Int32)))).value args s none s [] = some true) : ¬ x = 0 := by
  have h := not_v h
  simp only [Cond.value, Term.eval, e] at h
  simpa using h
theorem own_byte {c : Int32} (h : 0 ≤ c.toInt ∧ c.toInt ≤ 255) : ∃ n : Fin 256, c = Int32.ofNat n.val := by
  refine ⟨⟨c.toInt.toNat, by omega⟩, ?_⟩
  apply Int32.toInt_inj.mp
  rw [Int32.toInt_ofNat_of_lt (by omega)]
  show c.toInt = ((c.toInt.toNat : Nat) : Int)
  omega
theorem own_ch {c : Int32} (h : 0 ≤ c.toInt ∧ c.toInt ≤ 255) : nar .char ((c.toInt8.toInt32 &&& 255).toUInt32.toUInt16.toUInt32.toInt32) = c := by
  obtain ⟨n, rfl⟩ := own_byte h
  revert n; decide +kernel
theorem own_nc {c : Int32} (h : 0 ≤ c.toInt ∧ c.toInt ≤ 255) : nar .char c = c := by
  obtain ⟨n, rfl⟩ := own_byte h
  revert n; decide +kernel
theorem own_shr0 (x : Int32) : x >>> ((0 : Int32) &&& 31) = x := by
  have h := c_ishr x 0 0 (by decide)
  apply Int32.toInt_inj.mp
  rw [h]; simp
theorem own_le255 {c : Int32} (h : 0 ≤ c.toInt ∧ c.toInt ≤ 255) : ¬ (255 : Int32) < c := by
  rw [Int32.lt_iff_toInt_lt]
  have e : (255 : Int32).toInt = 255 := by decide
  omega
theorem own_b46 {c : Int32} (h : 0 ≤ c.toInt ∧ c.toInt ≤ 255) (q : c.toInt8.toInt32 = 46) : c = 46 := by
  obtain ⟨n, rfl⟩ := own_byte h
  revert n; decide +kernel
theorem own_chb (x : Int32) : 0 ≤ (nar .char ((x &&& 255).toUInt32.toUInt16.toUInt32.toInt32)).toInt ∧ (nar .char ((x &&& 255).toUInt32.toUInt16.toUInt32.toInt32)).toInt ≤ 255 := by
  have h1 := c_mask x 255 8 (by decide) (by decide)
  have h : 0 ≤ (x &&& 255).toInt ∧ (x &&& 255).toInt ≤ 255 := by omega
  have e : (x &&& 255).toUInt32.toUInt16.toUInt32.toInt32 = x &&& 255 := own_nc h
  rw [e, own_nc h]; exact h
theorem oef0 (m : MethodId) (x0 : Int32) : entryFrame m #[(.int x0)] 1 = mkF m 0 #[.val (.int x0)] [] := by first | (simp [entryFrame, mkF, argsToLocals, Value.category]; done) | rfl
theorem rm_can (l : Launch) (Z : State) (a0 : Array Value) (hw : HW a0 Z) (cc : Int32) (hcc : ¬ 255 < cc) (h0 : Heap) (n0 : Nat) (O : Old Z n0 h0) :
    Con l Z (⟨"java/lang/StringLatin1", "canEncode", "(C)Z"⟩ : MethodName) jdk_43_method_3_code 1 (some .boolean) ({ frames := 0, cells := 0, slots := 0, locals := 0 } : Room) #[(.int cc)] h0 (fun v h L => v = some (.int 1) ∧ Fr n0 L ∧ h = h0) := by
  refine own_startC opn_3 ?_
  intro p e s m below meth c T0 X0 hx hby hml hZ hown hnm hret hlk e0
  have N := Fr.nil n0; have K := Keep.refl h0 []
  refine OG.cast (oef0 m cc) ?_
  refine og_iloadN (pc' := 1) X0 hx rfl (hb hby d3_0) rfl ?_
  refine og_sipush (pc' := 4) (v := (255 : Int32)) X0 hx rfl (hb hby d3_1) rfl ?_
  refine og_icmp_gt (pc1 := 11) (pc2 := 7) X0 hx (hb hby d3_4) (by decide) (by decide) rfl (fun q => absurd q hcc) (fun _ => ?_)
  refine og_iconst (pc' := 8) (v := (1 : Int32)) X0 hx rfl (hb hby d3_7) rfl ?_
  refine og_goto (pc' := 12) X0 hx (hb hby d3_8) (by decide) (by decide) ?_
  refine og_retN X0 hx hlk hret (by simp) (hb hby d3_12) (by decide) (by decide) ?_
  rw [e0]; exact ⟨rfl, N, rfl⟩
theorem rm_tb (l : Launch) (Z : State) (a0 : Array Value) (hw : HW a0 Z) (cc : Int32) (h0 : Heap) (n0 : Nat) (O : Old Z n0 h0) :
    Con l Z (⟨"java/lang/StringLatin1", "toBytes", "(C)[B"⟩ : MethodName) jdk_43_method_46_code 1 (some (.array .byte)) ({ frames := 0, cells := 1, slots := 1, locals := 0 } : Room) #[(.int cc)] h0 (fun v h L => ∃ b k, v = some (.ref b) ∧ Fr n0 L ∧ Keep h0 h [] ∧ h0.size ≤ b ∧ Arv Z h b k .byte 1 [.int cc.toInt8.toInt32] (.int 0)) := by
  refine own_startC opn_4 ?_
  intro p e s m below meth c T0 X0 hx hby hml hZ hown hnm hret hlk e0
  have N := Fr.nil n0; have K := Keep.refl h0 []
  refine OG.cast (oef0 m cc) ?_
  refine og_iconst (pc' := 1) (v := (1 : Int32)) X0 hx rfl (hb hby d4_0) rfl ?_
  refine og_newarray (pc' := 3) (cells' := 1) (slots' := 1) (cap := 1) (ty := .byte) X0 hx hZ rfl (ow18 hw) e0 (by decide) (by decide) (by decide) (hb hby d4_1) rfl rfl rfl (by decide) (by decide) (fun T11 h11 nb11 kA11 X11 e11 E11 q11 V_nb11 => ?_)
  have s_nb11 : h0.size ≤ nb11 := Nat.le_of_eq q11.symm; have g_nb11 : n0 ≤ nb11 := Nat.le_trans (own_n0 O) s_nb11; have sz_nb11 : h0.size ≤ nb11 := Nat.le_trans K.1 s_nb11
  have O := O.ext E11; have K := K.ext E11
  have V_nb11 : Arv Z h11 nb11 kA11 .byte (1 : Int32) [(.int (0 : Int32))] (.int (0 : Int32)) := V_nb11.pad (pad_rep [] (.int (0 : Int32)) 1)
  refine og_dup (pc' := 4) X11 hx rfl (hb hby d4_3) rfl ?_
  refine og_iconst (pc' := 5) (v := (0 : Int32)) X11 hx rfl (hb hby d4_4) rfl ?_
  refine og_iloadN (pc' := 6) X11 hx rfl (hb hby d4_5) rfl ?_
  refine og_i2b (pc' := 7) X11 hx (hb hby d4_6) rfl ?_
  refine og_bastore (pc' := 8) X11 hx hZ e11 V_nb11 ⟨by decide, by decide⟩ 0 (by decide) (Nat.le_of_ble_eq_true rfl) (hb hby d4_7) rfl (fun T12 h12 X12 e12 W12 V12 => ?_)
  have O := O.wr W12 g_nb11; have K := K.wr W12 (Or.inr sz_nb11)
  have N := Fr.snoc X12 N g_nb11
  have V_nb11 : Arv Z h12 nb11 kA11 .byte (1 : Int32) [(.int (nar .byte (cc.toInt8.toInt32)))] (.int (0 : Int32)) := V12
  rw [own_nb] at V_nb11
  refine og_retR X12 hx hlk hret rfl rfl rfl (hb hby d4_8) (by decide) (by decide) ?_
  rw [e12]; exact ⟨_, _, rfl, N, K, sz_nb11, V_nb11⟩
theorem oef1 (m : MethodId) (x0 : Addr) (x1 : Addr) (x2 : Int32) : entryFrame m #[(.ref x0), (.ref x1), (.int x2)] 3 = mkF m 0 #[.val (.ref x0), .val (.ref x1), .val (.int x2)] [] := by first | (simp [entryFrame, mkF, argsToLocals, Value.category]; done) | rfl
theorem rm_si (l : Launch) (Z : State) (a0 : Array Value) (hw : HW a0 Z) (a1 b1 : Addr) (h0 : Heap) (n0 : Nat) (O : Old Z n0 h0) (E_a1 : Exa Z h0 a1 "java/lang/String") (F_value_a1 : Fld Z h0 a1 "java/lang/String" "value" "[B" .null) (F_coder_a1 : Fld Z h0 a1 "java/lang/String" "coder" "B" (.int (0 : Int32))) (g_a1 : n0 ≤ a1) :
    Con l Z (⟨"java/lang/String", "<init>", "([BB)V"⟩ : MethodName) jdk_42_method_151_code 3 none ({ frames := 1, cells := 0, slots := 0, locals := 12 } : Room) #[(.ref a1), (.ref b1), (.int (0 : Int32))] h0 (fun v h L => v = none ∧ Fr n0 L ∧ Keep h0 h [a1] ∧ Exa Z h a1 "java/lang/String" ∧ Fld Z h a1 "java/lang/String" "value" "[B" (.ref b1) ∧ Fld Z h a1 "java/lang/String" "coder" "B" (.int (0 : Int32))) := by
  refine own_startC opn_5 ?_
  intro p e s m below meth c T0 X0 hx hby hml hZ hown hnm hret hlk e0
  have N := Fr.nil n0; have K := Keep.refl h0 [a1]
  refine OG.cast (oef1 m a1 b1 (0 : Int32)) ?_
  refine og_aloadN (pc' := 1) X0 hx rfl rfl (hb hby d5_0) rfl ?_
  refine og_initO (pc' := 4) X0 hx hZ (W := 0) (by rw [hml]; rfl) hown (ow23 hw) (ow24 hw) (ow25 hw) e0 rfl (by decide) (by decide) (hb hby d5_1) rfl (fun T11 X11 e11 => ?_)
  refine og_aloadN (pc' := 5) X11 hx rfl rfl (hb hby d5_4) rfl ?_
  refine og_aloadN (pc' := 6) X11 hx rfl rfl (hb hby d5_5) rfl ?_
  refine og_putfield (pc' := 9) X11 hx hZ (ty := (.array .byte)) (host := "") hown (Or.inl (ow26 hw)) Via.refl e11 F_value_a1 E_a1 (Or.inr ⟨(ow27 hw), rfl, hnm⟩) (ow14 hw) (by decide) rfl rfl (hb hby d5_6) rfl (fun T12 h12 X12 e12 W12 => ?_)
  have F_value_a1_ := F_value_a1.same W12
  have E_a1 := E_a1.wr W12; have F_coder_a1 := F_coder_a1.other W12 (Or.inr (slot_ne (Or.inr (ow29 hw)) (Or.inr (ow27 hw)) (by decide) (t := .byte) (t' := (.array .byte)) (by decide) (by decide))); have O := O.wr W12 g_a1; have K := K.wr W12 (Or.inl (List.mem_of_getElem? (i := 0) rfl))
  have N := Fr.snoc X12 N g_a1; have F_value_a1 := F_value_a1_
  refine og_aloadN (pc' := 10) X12 hx rfl rfl (hb hby d5_9) rfl ?_
  refine og_iloadN (pc' := 11) X12 hx rfl (hb hby d5_10) rfl ?_
  refine og_putfield (pc' := 14) X12 hx hZ (ty := .byte) (host := "") hown (Or.inl (ow28 hw)) Via.refl e12 F_coder_a1 E_a1 (Or.inr ⟨(ow29 hw), rfl, hnm⟩) (ow14 hw) (by decide) rfl rfl (hb hby d5_11) rfl (fun T13 h13 X13 e13 W13 => ?_)
  have F_coder_a1_ := F_coder_a1.same W13
  have E_a1 := E_a1.wr W13; have F_value_a1 := F_value_a1.other W13 (Or.inr (slot_ne (Or.inr (ow27 hw)) (Or.inr (ow29 hw)) (by decide) (t := (.array .byte)) (t' := .byte) (by decide) (by decide))); have O := O.wr W13 g_a1; have K := K.wr W13 (Or.inl (List.mem_of_getElem? (i := 0) rfl))
  have N := Fr.snoc X13 N g_a1; have F_coder_a1 := F_coder_a1_
  refine og_retV X13 hx hlk hret (hb hby d5_14) (by decide) (by decide) ?_
  rw [e13]; exact ⟨rfl, N, K, E_a1, F_value_a1, F_coder_a1⟩
theorem rm_vo (l : Launch) (Z : State) (a0 : Array Value) (hw : HW a0 Z) (cc : Int32) (hcc : ¬ 255 < cc) (cs : Int32) (hcs : ¬ cs = 0) (h0 : Heap) (n0 : Nat) (O : Old Z n0 h0) (S_CS : Sta Z Z.heap "java/lang/String" "COMPACT_STRINGS" "Z" (.int cs)) :
    Con l Z (⟨"java/lang/String", "valueOf", "(C)Ljava/lang/String;"⟩ : MethodName) jdk_42_method_139_code 1 (some (.object "java/lang/String")) ({ frames := 2, cells := 2, slots := 5, locals := 27 } : Room) #[(.int cc)] h0 (fun v h L => ∃ a b k, v = some (.ref a) ∧ Fr n0 L ∧ Keep h0 h [] ∧ h0.size ≤ a ∧ h0.size ≤ b ∧ Exa Z h a "java/lang/String" ∧ Fld Z h a "java/lang/String" "value" "[B" (.ref b) ∧ Fld Z h a "java/lang/String" "coder" "B" (.int (0 : Int32)) ∧ Arv Z h b k .byte 1 [.int cc.toInt8.toInt32] (.int (0 : Int32))) := by
  refine own_startC opn_2 ?_
  intro p e s m below meth c T0 X0 hx hby hml hZ hown hnm hret hlk e0
  have N := Fr.nil n0; have K := Keep.refl h0 []
  refine OG.cast (oef0 m cc) ?_
  refine og_getstatic (pc' := 3) X0 hx hZ (host := "") hown (Or.inl (ow8 hw)) Via.refl e0 (S_CS.ext O.2) (hb hby d2_0) rfl (fun T11 X11 e11 => ?_)
  refine og_if_eq (pc1 := 26) (pc2 := 6) X11 hx (hb hby d2_3) (by decide) (by decide) rfl (fun q => absurd q hcs) (fun _ => ?_)
  refine og_iloadN (pc' := 7) X11 hx rfl (hb hby d2_6) rfl ?_
  refine og_static (pc' := 10) (cells' := 0) (slots' := 0) (W := 0) X11 hx hZ (rm_can l Z a0 hw cc hcc h0 n0 O) hown (ow9 hw) (ow10 hw) (ow11 hw) (ow12 hw) (by decide) (by rw [hml]; rfl) e11 opd_0 [(.int cc)] [] rfl rfl rfl rfl (by decide) (by decide) rfl rfl (by decide) (by decide) (hb hby d2_7) rfl (fun v12 T12 h12 L12 X12 e12 z12 => ?_)
  obtain ⟨rfl, Nq12, hq12⟩ := z12; replace e12 := e12.trans hq12; have N := Fr.app N Nq12
  show OG p e below _ (T12.setTop (mkF m 10 #[.val (.int cc)] [(.int (1 : Int32))]))
  refine og_if_eq (pc1 := 26) (pc2 := 13) X12 hx (hb hby d2_10) (by decide) (by decide) rfl (fun q => absurd q (by decide)) (fun _ => ?_)
  refine og_new (pc' := 16) (cells' := 1) (slots' := 4) X12 hx hZ hown (ow13 hw) (ow14 hw) (ow6 hw) e12 (hb hby d2_13) rfl rfl rfl (by decide) (by decide) (fun T13 h13 nb13 X13 e13 E13 q13 E_nb13 D13 B13 => ?_)
  have s_nb13 : h0.size ≤ nb13 := Nat.le_of_eq q13.symm; have g_nb13 : n0 ≤ nb13 := Nat.le_trans (own_n0 O) s_nb13; have sz_nb13 : h0.size ≤ nb13 := Nat.le_trans K.1 s_nb13
  have O := O.ext E13; have K := K.ext E13
  have F_value_nb13 : Fld Z h13 nb13 "java/lang/String" "value" "[B" .null := D13 (Or.inr (ow27 hw)) (ty := (.array .byte)) (by decide)
  have F_coder_nb13 : Fld Z h13 nb13 "java/lang/String" "coder" "B" (.int (0 : Int32)) := D13 (Or.inr (ow29 hw)) (ty := .byte) (by decide)
  refine og_dup (pc' := 17) X13 hx rfl (hb hby d2_16) rfl ?_
  refine og_iloadN (pc' := 18) X13 hx rfl (hb hby d2_17) rfl ?_
  refine og_static (pc' := 21) (cells' := 2) (slots' := 5) (W := 2) X13 hx hZ (rm_tb l Z a0 hw cc h13 n0 O) hown (ow15 hw) (ow16 hw) (ow11 hw) (ow17 hw) (by decide) (by rw [hml]; rfl) e13 opd_1 [(.int cc)] [(.ref nb13), (.ref nb13)] rfl rfl rfl rfl (by decide) (by decide) rfl rfl (by decide) (by decide) (hb hby d2_18) rfl (fun v14 T14 h14 L14 X14 e14 z14 => ?_)
  obtain ⟨nb14, k14, rfl, Nq14, K14, sb14, V_nb14⟩ := z14; have N := Fr.app N Nq14
  have s_nb14 : h13.size ≤ nb14 := sb14; have g_nb14 : n0 ≤ nb14 := Nat.le_trans (own_n0 O) s_nb14; have sz_nb14 : h0.size ≤ nb14 := Nat.le_trans K.1 s_nb14; have ne_nb13_nb14 : nb13 ≠ nb14 := Nat.ne_of_lt (Nat.lt_of_lt_of_le E_nb13.lt s_nb14)
  have E_nb13 := E_nb13.keep K14; have F_value_nb13 := F_value_nb13.keep K14 nin0; have F_coder_nb13 := F_coder_nb13.keep K14 nin0; have O := O.keep K14 all0; have K := K.trans K14 all0
  show OG p e below _ (T14.setTop (mkF m 21 #[.val (.int cc)] [(.ref nb14), (.ref nb13), (.ref nb13)]))
  refine og_iconst (pc' := 22) (v := (0 : Int32)) X14 hx rfl (hb hby d2_21) rfl ?_
  refine og_special (pc' := 25) (cells' := 2) (slots' := 5) (W := 1) X14 hx hZ (rm_si l Z a0 hw nb13 nb14 h14 n0 O E_nb13 F_value_nb13 F_coder_nb13 g_nb13) rfl hown (ow19 hw) (ow20 hw) (ow6 hw) (ow22 hw) (by decide) (by rw [hml]; rfl) e14 opd_2 [(.ref nb14), (.int (0 : Int32))] [(.ref nb13)] rfl rfl rfl rfl (by decide) (by decide) rfl rfl (by decide) (by decide) (hb hby d2_22) rfl (fun v15 T15 h15 L15 X15 e15 z15 => ?_)
  obtain ⟨rfl, Nq15, K15, E_nb13', F_value_nb13', F_coder_nb13'⟩ := z15; have N := Fr.app N Nq15
  have E_nb13 := E_nb13.keep K15; have V_nb14 := V_nb14.keep K15 (ninS (Ne.symm ne_nb13_nb14) nin0); have O := O.keep K15 (allS g_nb13 all0); have K := K.trans K15 (allS (Or.inr sz_nb13) all0)
  have E_nb13 := E_nb13'; have F_value_nb13 := F_value_nb13'; have F_coder_nb13 := F_coder_nb13'
  show OG p e below _ (T15.setTop (mkF m 25 #[.val (.int cc)] [(.ref nb13)]))
  refine og_retR X15 hx hlk hret rfl rfl rfl (hb hby d2_25) (by decide) (by decide) ?_
  rw [e15]; exact ⟨_, _, _, rfl, N, K, sz_nb13, sz_nb14, E_nb13, F_value_nb13, F_coder_nb13, V_nb14⟩
theorem oef2 (m : MethodId) (x0 : Addr) (x1 : Int32) (x2 : Addr) (x3 : Int32) (x4 : Int32) : entryFrame m #[(.ref x0), (.int x1), (.ref x2), (.int x3), (.int x4)] 7 = mkF m 0 #[.val (.ref x0), .val (.int x1), .val (.ref x2), .val (.int x3), .val (.int x4), .unset, .unset] [] := by first | (simp [entryFrame, mkF, argsToLocals, Value.category]; done) | rfl
theorem rm_c2_2 (l : Launch) (Z : State) (a0 : Array Value) (hw : HW a0 Z) (ca ba : Addr) (kc kb : ClassId) (c0 c1 : Int32) (hb0 : ¬ 255 < c0) (hb1 : ¬ 255 < c1) (h0 : Heap) (n0 : Nat) (O : Old Z n0 h0) (V_ca : Arv Z h0 ca kc .char (2 : Int32) [(.int c0), (.int c1)] (.int (0 : Int32))) (V_ba : Arv Z h0 ba kb .byte (2 : Int32) [(.int (0 : Int32)), (.int (0 : Int32))] (.int (0 : Int32))) (g_ba : n0 ≤ ba) (ne_ca_ba : ca ≠ ba) :
    Con l Z (⟨"java/lang/StringUTF16", "compress", "([CI[BII)I"⟩ : MethodName) jdk_52_method_21_code 7 (some .int) ({ frames := 0, cells := 0, slots := 0, locals := 0 } : Room) #[(.ref ca), (.int (0 : Int32)), (.ref ba), (.int (0 : Int32)), (.int (2 : Int32))] h0 (fun v h L => v = some (.int (2 : Int32)) ∧ Fr n0 L ∧ Keep h0 h [ba] ∧ Arv Z h ba kb .byte (2 : Int32) [(.int c0.toInt8.toInt32), (.int c1.toInt8.toInt32)] (.int (0 : Int32))) := by
  refine own_startC opn_25 ?_
  intro p e s m below meth c T0 X0 hx hby hml hZ hown hnm hret hlk e0
  have N := Fr.nil n0; have K := Keep.refl h0 [ba]
  refine OG.cast (oef2 m ca (0 : Int32) ba (0 : Int32) (2 : Int32)) ?_
  refine og_iconst (pc' := 1) (v := (0 : Int32)) X0 hx rfl (hb hby d25_0) rfl ?_
  refine og_istore (pc' := 3) (L' := #[.val (.ref ca), .val (.int (0 : Int32)), .val (.ref ba), .val (.int (0 : Int32)), .val (.int (2 : Int32)), .val (.int (0 : Int32)), .unset]) X0 hx rfl (hb hby d25_1) rfl ?_
  refine og_iload (pc' := 5) X0 hx rfl (hb hby d25_3) rfl ?_
  refine og_iload (pc' := 7) X0 hx rfl (hb hby d25_5) rfl ?_
  refine og_icmp_ge (pc1 := 44) (pc2 := 10) X0 hx (hb hby d25_7) (by decide) (by decide) rfl (fun q => absurd q (by decide)) (fun _ => ?_)
  refine og_aloadN (pc' := 11) X0 hx rfl rfl (hb hby d25_10) rfl ?_
  refine og_iloadN (pc' := 12) X0 hx rfl (hb hby d25_11) rfl ?_
  refine og_caload (pc' := 13) (v := (.int c0)) X0 hx hZ e0 V_ca ⟨by decide, by decide⟩ rfl (hb hby d25_12) rfl ?_
  refine og_istore (pc' := 15) (L' := #[.val (.ref ca), .val (.int (0 : Int32)), .val (.ref ba), .val (.int (0 : Int32)), .val (.int (2 : Int32)), .val (.int (0 : Int32)), .val (.int c0)]) X0 hx rfl (hb hby d25_13) rfl ?_
  refine og_iload (pc' := 17) X0 hx rfl (hb hby d25_15) rfl ?_
  refine og_sipush (pc' := 20) (v := (255 : Int32)) X0 hx rfl (hb hby d25_17) rfl ?_
  refine og_icmp_le (pc1 := 26) (pc2 := 23) X0 hx (hb hby d25_20) (by decide) (by decide) rfl (fun _ => ?_) (fun q => absurd q hb0)
  refine og_aloadN (pc' := 27) X0 hx rfl rfl (hb hby d25_26) rfl ?_
  refine og_iloadN (pc' := 28) X0 hx rfl (hb hby d25_27) rfl ?_
  refine og_iload (pc' := 30) X0 hx rfl (hb hby d25_28) rfl ?_
  refine og_i2b (pc' := 31) X0 hx (hb hby d25_30) rfl ?_
  refine og_bastore (pc' := 32) X0 hx hZ e0 V_ba ⟨by decide, by decide⟩ 0 (by decide) (Nat.le_of_ble_eq_true rfl) (hb hby d25_31) rfl (fun T11 h11 X11 e11 W11 V11 => ?_)
  have V_ca := V_ca.other W11 ne_ca_ba; have O := O.wr W11 g_ba; have K := K.wr W11 (Or.inl (List.mem_of_getElem? (i := 0) rfl))
  have N := Fr.snoc X11 N g_ba
  have V_ba : Arv Z h11 ba kb .byte (2 : Int32) [(.int (nar .byte (c0.toInt8.toInt32))), (.int (0 : Int32))] (.int (0 : Int32)) := V11
  rw [own_nb] at V_ba
  refine og_iinc (pc' := 35) (L' := #[.val (.ref ca), .val (.int (1 : Int32)), .val (.ref ba), .val (.int (0 : Int32)), .val (.int (2 : Int32)), .val (.int (0 : Int32)), .val (.int c0)]) (w := (1 : Int32)) X11 hx rfl rfl rfl (hb hby d25_32) rfl ?_
  refine og_iinc (pc' := 38) (L' := #[.val (.ref ca), .val (.int (1 : Int32)), .val (.ref ba), .val (.int (1 : Int32)), .val (.int (2 : Int32)), .val (.int (0 : Int32)), .val (.int c0)]) (w := (1 : Int32)) X11 hx rfl rfl rfl (hb hby d25_35) rfl ?_
  refine og_iinc (pc' := 41) (L' := #[.val (.ref ca), .val (.int (1 : Int32)), .val (.ref ba), .val (.int (1 : Int32)), .val (.int (2 : Int32)), .val (.int (1 : Int32)), .val (.int c0)]) (w := (1 : Int32)) X11 hx rfl rfl rfl (hb hby d25_38) rfl ?_
  refine og_goto (pc' := 3) X11 hx (hb hby d25_41) (by decide) (by decide) ?_
  refine og_iload (pc' := 5) X11 hx rfl (hb hby d25_3) rfl ?_
  refine og_iload (pc' := 7) X11 hx rfl (hb hby d25_5) rfl ?_
  refine og_icmp_ge (pc1 := 44) (pc2 := 10) X11 hx (hb hby d25_7) (by decide) (by decide) rfl (fun q => absurd q (by decide)) (fun _ => ?_)
  refine og_aloadN (pc' := 11) X11 hx rfl rfl (hb hby d25_10) rfl ?_
  refine og_iloadN (pc' := 12) X11 hx rfl (hb hby d25_11) rfl ?_
  refine og_caload (pc' := 13) (v := (.int c1)) X11 hx hZ e11 V_ca ⟨by decide, by decide⟩ rfl (hb hby d25_12) rfl ?_
  refine og_istore (pc' := 15) (L' := #[.val (.ref ca), .val (.int (1 : Int32)), .val (.ref ba), .val (.int (1 : Int32)), .val (.int (2 : Int32)), .val (.int (1 : Int32)), .val (.int c1)]) X11 hx rfl (hb hby d25_13) rfl ?_
  refine og_iload (pc' := 17) X11 hx rfl (hb hby d25_15) rfl ?_
  refine og_sipush (pc' := 20) (v := (255 : Int32)) X11 hx rfl (hb hby d25_17) rfl ?_
  refine og_icmp_le (pc1 := 26) (pc2 := 23) X11 hx (hb hby d25_20) (by decide) (by decide) rfl (fun _ => ?_) (fun q => absurd q hb1)
  refine og_aloadN (pc' := 27) X11 hx rfl rfl (hb hby d25_26) rfl ?_
  refine og_iloadN (pc' := 28) X11 hx rfl (hb hby d25_27) rfl ?_
  refine og_iload (pc' := 30) X11 hx rfl (hb hby d25_28) rfl ?_
  refine og_i2b (pc' := 31) X11 hx (hb hby d25_30) rfl ?_
  refine og_bastore (pc' := 32) X11 hx hZ e11 V_ba ⟨by decide, by decide⟩ 1 (by decide) (Nat.le_of_ble_eq_true rfl) (hb hby d25_31) rfl (fun T12 h12 X12 e12 W12 V12 => ?_)
  have V_ca := V_ca.other W12 ne_ca_ba; have O := O.wr W12 g_ba; have K := K.wr W12 (Or.inl (List.mem_of_getElem? (i := 0) rfl))
  have N := Fr.snoc X12 N g_ba
  have V_ba : Arv Z h12 ba kb .byte (2 : Int32) [(.int c0.toInt8.toInt32), (.int (nar .byte (c1.toInt8.toInt32)))] (.int (0 : Int32)) := V12
  rw [own_nb] at V_ba
  refine og_iinc (pc' := 35) (L' := #[.val (.ref ca), .val (.int (2 : Int32)), .val (.ref ba), .val (.int (1 : Int32)), .val (.int (2 : Int32)), .val (.int (1 : Int32)), .val (.int c1)]) (w := (1 : Int32)) X12 hx rfl rfl rfl (hb hby d25_32) rfl ?_
  refine og_iinc (pc' := 38) (L' := #[.val (.ref ca), .val (.int (2 : Int32)), .val (.ref ba), .val (.int (2 : Int32)), .val (.int (2 : Int32)), .val (.int (1 : Int32)), .val (.int c1)]) (w := (1 : Int32)) X12 hx rfl rfl rfl (hb hby d25_35) rfl ?_
  refine og_iinc (pc' := 41) (L' := #[.val (.ref ca), .val (.int (2 : Int32)), .val (.ref ba), .val (.int (2 : Int32)), .val (.int (2 : Int32)), .val (.int (2 : Int32)), .val (.int c1)]) (w := (1 : Int32)) X12 hx rfl rfl rfl (hb hby d25_38) rfl ?_
  refine og_goto (pc' := 3) X12 hx (hb hby d25_41) (by decide) (by decide) ?_
  refine og_iload (pc' := 5) X12 hx rfl (hb hby d25_3) rfl ?_
  refine og_iload (pc' := 7) X12 hx rfl (hb hby d25_5) rfl ?_
  refine og_icmp_ge (pc1 := 44) (pc2 := 10) X12 hx (hb hby d25_7) (by decide) (by decide) rfl (fun _ => ?_) (fun q => absurd q (by decide))
  refine og_iload (pc' := 46) X12 hx rfl (hb hby d25_44) rfl ?_
  refine og_retI X12 hx hlk hret (hb hby d25_46) (by decide) (by decide) ?_
  rw [e12]; exact ⟨rfl, N, K, V_ba⟩
theorem oef3 (m : MethodId) (x0 : Addr) (x1 : Int32) (x2 : Int32) : entryFrame m #[(.ref x0), (.int x1), (.int x2)] 6 = mkF m 0 #[.val (.ref x0), .val (.int x1), .val (.int x2), .unset, .unset, .unset] [] := by first | (simp [entryFrame, mkF, argsToLocals, Value.category]; done) | rfl
theorem rm_c1_2 (l : Launch) (Z : State) (a0 : Array Value) (hw : HW a0 Z) (ca : Addr) (kc : ClassId) (c0 c1 : Int32) (hb0 : ¬ 255 < c0) (hb1 : ¬ 255 < c1) (h0 : Heap) (n0 : Nat) (O : Old Z n0 h0) (V_ca : Arv Z h0 ca kc .char (2 : Int32) [(.int c0), (.int c1)] (.int (0 : Int32))) :
    Con l Z (⟨"java/lang/StringUTF16", "compress", "([CII)[B"⟩ : MethodName) jdk_52_method_16_code 6 (some (.array .byte)) ({ frames := 1, cells := 1, slots := 2, locals := 18 } : Room) #[(.ref ca), (.int (0 : Int32)), (.int (2 : Int32))] h0 (fun v h L => ∃ b k, v = some (.ref b) ∧ Fr n0 L ∧ Keep h0 h [] ∧ h0.size ≤ b ∧ Arv Z h b k .byte (2 : Int32) [(.int c0.toInt8.toInt32), (.int c1.toInt8.toInt32)] (.int (0 : Int32))) := by
  refine own_startC opn_24 ?_
  intro p e s m below meth c T0 X0 hx hby hml hZ hown hnm hret hlk e0
  have N := Fr.nil n0; have K := Keep.refl h0 []
  refine OG.cast (oef3 m ca (0 : Int32) (2 : Int32)) ?_
  refine og_iloadN (pc' := 1) X0 hx rfl (hb hby d24_0) rfl ?_
  refine og_newarray (pc' := 3) (cells' := 1) (slots' := 2) (cap := 2) (ty := .byte) X0 hx hZ rfl (ow18 hw) e0 (by decide) (by decide) (by decide) (hb hby d24_1) rfl rfl rfl (by decide) (by decide) (fun T11 h11 nb11 kA11 X11 e11 E11 q11 V_nb11 => ?_)
  have s_nb11 : h0.size ≤ nb11 := Nat.le_of_eq q11.symm; have g_nb11 : n0 ≤ nb11 := Nat.le_trans (own_n0 O) s_nb11; have sz_nb11 : h0.size ≤ nb11 := Nat.le_trans K.1 s_nb11; have ne_ca_nb11 : ca ≠ nb11 := Nat.ne_of_lt (Nat.lt_of_lt_of_le V_ca.lt s_nb11)
  have V_ca := V_ca.ext E11; have O := O.ext E11; have K := K.ext E11
  have V_nb11 : Arv Z h11 nb11 kA11 .byte (2 : Int32) [(.int (0 : Int32)), (.int (0 : Int32))] (.int (0 : Int32)) := V_nb11.pad (pad_rep [] (.int (0 : Int32)) 2)
  refine og_astoreN (pc' := 4) (L' := #[.val (.ref ca), .val (.int (0 : Int32)), .val (.int (2 : Int32)), .val (.ref nb11), .unset, .unset]) X11 hx rfl rfl (hb hby d24_3) rfl ?_
  refine og_aloadN (pc' := 5) X11 hx rfl rfl (hb hby d24_4) rfl ?_
  refine og_iloadN (pc' := 6) X11 hx rfl (hb hby d24_5) rfl ?_
  refine og_aloadN (pc' := 7) X11 hx rfl rfl (hb hby d24_6) rfl ?_
  refine og_iconst (pc' := 8) (v := (0 : Int32)) X11 hx rfl (hb hby d24_7) rfl ?_
  refine og_iloadN (pc' := 9) X11 hx rfl (hb hby d24_8) rfl ?_
  refine og_static (pc' := 12) (cells' := 1) (slots' := 2) (W := 0) X11 hx hZ (rm_c2_2 l Z a0 hw ca nb11 kc kA11 c0 c1 hb0 hb1 h11 n0 O V_ca V_nb11 g_nb11 ne_ca_nb11) hown (ow117 hw) (ow118 hw) (ow115 hw) (ow119 hw) (by decide) (by rw [hml]; rfl) e11 opd_3 [(.ref ca), (.int (0 : Int32)), (.ref nb11), (.int (0 : Int32)), (.int (2 : Int32))] [] rfl rfl rfl rfl (by decide) (by decide) rfl rfl (by decide) (by decide) (hb hby d24_9) rfl (fun v12 T12 h12 L12 X12 e12 z12 => ?_)
  obtain ⟨rfl, Nq12, K12, V_nb11'⟩ := z12; have N := Fr.app N Nq12
  have V_ca := V_ca.keep K12 (ninS ne_ca_nb11 nin0); have O := O.keep K12 (allS g_nb11 all0); have K := K.trans K12 (allS (Or.inr sz_nb11) all0)
  have V_nb11 := V_nb11'
  show OG p e below _ (T12.setTop (mkF m 12 #[.val (.ref ca), .val (.int (0 : Int32)), .val (.int (2 : Int32)), .val (.ref nb11), .unset, .unset] [(.int (2 : Int32))]))
  refine og_istore (pc' := 14) (L' := #[.val (.ref ca), .val (.int (0 : Int32)), .val (.int (2 : Int32)), .val (.ref nb11), .val (.int (2 : Int32)), .unset]) X12 hx rfl (hb hby d24_12) rfl ?_
  refine og_iload (pc' := 16) X12 hx rfl (hb hby d24_14) rfl ?_
  refine og_iloadN (pc' := 17) X12 hx rfl (hb hby d24_16) rfl ?_
  refine og_icmp_eq (pc1 := 57) (pc2 := 20) X12 hx (hb hby d24_17) (by decide) (by decide) rfl (fun _ => ?_) (fun q => absurd q (by decide))
  refine og_aloadN (pc' := 58) X12 hx rfl rfl (hb hby d24_57) rfl ?_
  refine og_retR X12 hx hlk hret rfl rfl rfl (hb hby d24_58) (by decide) (by decide) ?_
  rw [e12]; exact ⟨_, _, rfl, N, K, sz_nb11, V_nb11⟩
theorem oef4 (m : MethodId) (x0 : Addr) (x1 : Int32) : entryFrame m #[(.ref x0), (.int x1)] 2 = mkF m 0 #[.val (.ref x0), .val (.int x1)] [] := by first | (simp [entryFrame, mkF, argsToLocals, Value.category]; done) | rfl
theorem rm_cfa_2 (l : Launch) (Z : State) (a0 : Array Value) (hw : HW a0 Z) (ba : Addr) (kb : ClassId) (vs : List Value) (h0 : Heap) (n0 : Nat) (O : Old Z n0 h0) (V_ba : Arv Z h0 ba kb .byte (2 : Int32) vs (.int (0 : Int32))) :
    Con l Z (⟨"java/lang/StringUTF16", "coderFromArrayLen", "([BI)B"⟩ : MethodName) jdk_52_method_15_code 2 (some .byte) ({ frames := 0, cells := 0, slots := 0, locals := 0 } : Room) #[(.ref ba), (.int (2 : Int32))] h0 (fun v h L => v = some (.int (0 : Int32)) ∧ Fr n0 L ∧ h = h0) := by
  refine own_startC opn_26 ?_
  intro p e s m below meth c T0 X0 hx hby hml hZ hown hnm hret hlk e0
  have N := Fr.nil n0; have K := Keep.refl h0 []
  refine OG.cast (oef4 m ba (2 : Int32)) ?_
  refine og_iloadN (pc' := 1) X0 hx rfl (hb hby d26_0) rfl ?_
  refine og_aloadN (pc' := 2) X0 hx rfl rfl (hb hby d26_1) rfl ?_
  refine og_arraylength (pc' := 3) X0 hx hZ e0 V_ba (hb hby d26_2) rfl ?_
  refine og_isub (pc' := 4) X0 hx (hb hby d26_3) rfl ?_
  show OG p e below _ (T0.setTop (mkF m 4 #[.val (.ref ba), .val (.int (2 : Int32))] [(.int (0 : Int32))]))
  refine og_bipush (pc' := 6) (v := (31 : Int32)) X0 hx rfl (hb hby d26_4) rfl ?_
  refine og_iushr (pc' := 7) X0 hx (hb hby d26_6) rfl ?_
  show OG p e below _ (T0.setTop (mkF m 7 #[.val (.ref ba), .val (.int (2 : Int32))] [(.int (0 : Int32))]))
  refine og_i2b (pc' := 8) X0 hx (hb hby d26_7) rfl ?_
  show OG p e below _ (T0.setTop (mkF m 8 #[.val (.ref ba), .val (.int (2 : Int32))] [(.int (0 : Int32))]))
  refine og_retN X0 hx hlk hret (by simp) (hb hby d26_8) (by decide) (by decide) ?_
  rw [e0]; exact ⟨rfl, N, rfl⟩
theorem oef5 (m : MethodId) (x0 : Addr) (x1 : Addr) (x2 : Int32) (x3 : Int32) : entryFrame m #[(.ref x0), (.ref x1), (.int x2), (.int x3), .null] 6 = mkF m 0 #[.val (.ref x0), .val (.ref x1), .val (.int x2), .val (.int x3), .val .null, .unset] [] := by first | (simp [entryFrame, mkF, argsToLocals, Value.category]; done) | rfl
theorem rm_sv_2 (l : Launch) (Z : State) (a0 : Array Value) (hw : HW a0 Z) (a1 ca : Addr) (kc : ClassId) (c0 c1 : Int32) (hb0 : ¬ 255 < c0) (hb1 : ¬ 255 < c1) (cs : Int32) (hcs : ¬ cs = 0) (h0 : Heap) (n0 : Nat) (O : Old Z n0 h0) (E_a1 : Exa Z h0 a1 "java/lang/String") (F_value_a1 : Fld Z h0 a1 "java/lang/String" "value" "[B" .null) (F_coder_a1 : Fld Z h0 a1 "java/lang/String" "coder" "B" (.int (0 : Int32))) (V_ca : Arv Z h0 ca kc .char (2 : Int32) [(.int c0), (.int c1)] (.int (0 : Int32))) (S_CS : Sta Z Z.heap "java/lang/String" "COMPACT_STRINGS" "Z" (.int cs)) (g_a1 : n0 ≤ a1) (ne_ca_a1 : ca ≠ a1) :
    Con l Z (⟨"java/lang/String", "<init>", "([CIILjava/lang/Void;)V"⟩ : MethodName) jdk_42_method_149_code 6 none ({ frames := 2, cells := 1, slots := 2, locals := 35 } : Room) #[(.ref a1), (.ref ca), (.int (0 : Int32)), (.int (2 : Int32)), .null] h0 (fun v h L => ∃ b k, v = none ∧ Fr n0 L ∧ Keep h0 h [a1] ∧ h0.size ≤ b ∧ Exa Z h a1 "java/lang/String" ∧ Fld Z h a1 "java/lang/String" "value" "[B" (.ref b) ∧ Fld Z h a1 "java/lang/String" "coder" "B" (.int (0 : Int32)) ∧ Arv Z h b k .byte (2 : Int32) [(.int c0.toInt8.toInt32), (.int c1.toInt8.toInt32)] (.int (0 : Int32))) := by
  refine own_startC opn_23 ?_
  intro p e s m below meth c T0 X0 hx hby hml hZ hown hnm hret hlk e0
  have N := Fr.nil n0; have K := Keep.refl h0 [a1]
  refine OG.cast (oef5 m a1 ca (0 : Int32) (2 : Int32)) ?_
  refine og_aloadN (pc' := 1) X0 hx rfl rfl (hb hby d23_0) rfl ?_
  refine og_initO (pc' := 4) X0 hx hZ (W := 0) (by rw [hml]; rfl) hown (ow23 hw) (ow24 hw) (ow25 hw) e0 rfl (by decide) (by decide) (hb hby d23_1) rfl (fun T11 X11 e11 => ?_)
  refine og_iloadN (pc' := 5) X11 hx rfl (hb hby d23_4) rfl ?_
  refine og_if_ne (pc1 := 27) (pc2 := 8) X11 hx (hb hby d23_5) (by decide) (by decide) rfl (fun _ => ?_) (fun q => absurd q (by decide))
  refine og_getstatic (pc' := 30) X11 hx hZ (host := "") hown (Or.inl (ow8 hw)) Via.refl e11 (S_CS.ext O.2) (hb hby d23_27) rfl (fun T12 X12 e12 => ?_)
  refine og_if_eq (pc1 := 58) (pc2 := 33) X12 hx (hb hby d23_30) (by decide) (by decide) rfl (fun q => absurd q hcs) (fun _ => ?_)
  refine og_aloadN (pc' := 34) X12 hx rfl rfl (hb hby d23_33) rfl ?_
  refine og_iloadN (pc' := 35) X12 hx rfl (hb hby d23_34) rfl ?_
  refine og_iloadN (pc' := 36) X12 hx rfl (hb hby d23_35) rfl ?_
  refine og_static (pc' := 39) (cells' := 1) (slots' := 2) (W := 0) X12 hx hZ (rm_c1_2 l Z a0 hw ca kc c0 c1 hb0 hb1 h0 n0 O V_ca) hown (ow113 hw) (ow114 hw) (ow115 hw) (ow116 hw) (by decide) (by rw [hml]; rfl) e12 opd_4 [(.ref ca), (.int (0 : Int32)), (.int (2 : Int32))] [] rfl rfl rfl rfl (by decide) (by decide) rfl rfl (by decide) (by decide) (hb hby d23_36) rfl (fun v13 T13 h13 L13 X13 e13 z13 => ?_)
  obtain ⟨nb13, k13, rfl, Nq13, K13, sb13, V_nb13⟩ := z13; have N := Fr.app N Nq13
  have s_nb13 : h0.size ≤ nb13 := sb13; have g_nb13 : n0 ≤ nb13 := Nat.le_trans (own_n0 O) s_nb13; have sz_nb13 : h0.size ≤ nb13 := Nat.le_trans K.1 s_nb13; have ne_a1_nb13 : a1 ≠ nb13 := Nat.ne_of_lt (Nat.lt_of_lt_of_le E_a1.lt s_nb13); have ne_ca_nb13 : ca ≠ nb13 := Nat.ne_of_lt (Nat.lt_of_lt_of_le V_ca.lt s_nb13)
  have E_a1 := E_a1.keep K13; have F_value_a1 := F_value_a1.keep K13 nin0; have F_coder_a1 := F_coder_a1.keep K13 nin0; have V_ca := V_ca.keep K13 nin0; have O := O.keep K13 all0; have K := K.trans K13 all0
  show OG p e below _ (T13.setTop (mkF m 39 #[.val (.ref a1), .val (.ref ca), .val (.int (0 : Int32)), .val (.int (2 : Int32)), .val .null, .unset] [(.ref nb13)]))
  refine og_astore (pc' := 41) (L' := #[.val (.ref a1), .val (.ref ca), .val (.int (0 : Int32)), .val (.int (2 : Int32)), .val .null, .val (.ref nb13)]) X13 hx rfl rfl (hb hby d23_39) rfl ?_
  refine og_aloadN (pc' := 42) X13 hx rfl rfl (hb hby d23_41) rfl ?_
  refine og_aload (pc' := 44) X13 hx rfl rfl (hb hby d23_42) rfl ?_
  refine og_iloadN (pc' := 45) X13 hx rfl (hb hby d23_44) rfl ?_
  refine og_static (pc' := 48) (cells' := 1) (slots' := 2) (W := 1) X13 hx hZ (rm_cfa_2 l Z a0 hw nb13 k13 _ h13 n0 O V_nb13) hown (ow120 hw) (ow121 hw) (ow115 hw) (ow122 hw) (by decide) (by rw [hml]; rfl) e13 opd_5 [(.ref nb13), (.int (2 : Int32))] [(.ref a1)] rfl rfl rfl rfl (by decide) (by decide) rfl rfl (by decide) (by decide) (hb hby d23_45) rfl (fun v14 T14 h14 L14 X14 e14 z14 => ?_)
  obtain ⟨rfl, Nq14, hq14⟩ := z14; replace e14 := e14.trans hq14; have N := Fr.app N Nq14
  show OG p e below _ (T14.setTop (mkF m 48 #[.val (.ref a1), .val (.ref ca), .val (.int (0 : Int32)), .val (.int (2 : Int32)), .val .null, .val (.ref nb13)] [(.int (0 : Int32)), (.ref a1)]))
  refine og_putfield (pc' := 51) X14 hx hZ (ty := .byte) (host := "") hown (Or.inl (ow28 hw)) Via.refl e14 F_coder_a1 E_a1 (Or.inr ⟨(ow29 hw), rfl, hnm⟩) (ow14 hw) (by decide) rfl rfl (hb hby d23_48) rfl (fun T15 h15 X15 e15 W15 => ?_)
  have F_coder_a1_ := F_coder_a1.same W15
  have E_a1 := E_a1.wr W15; have F_value_a1 := F_value_a1.other W15 (Or.inr (slot_ne (Or.inr (ow27 hw)) (Or.inr (ow29 hw)) (by decide) (t := (.array .byte)) (t' := .byte) (by decide) (by decide))); have V_ca := V_ca.other W15 ne_ca_a1; have V_nb13 := V_nb13.other W15 (Ne.symm ne_a1_nb13); have O := O.wr W15 g_a1; have K := K.wr W15 (Or.inl (List.mem_of_getElem? (i := 0) rfl))
  have N := Fr.snoc X15 N g_a1; have F_coder_a1 := F_coder_a1_
  refine og_aloadN (pc' := 52) X15 hx rfl rfl (hb hby d23_51) rfl ?_
  refine og_aload (pc' := 54) X15 hx rfl rfl (hb hby d23_52) rfl ?_
  refine og_putfield (pc' := 57) X15 hx hZ (ty := (.array .byte)) (host := "") hown (Or.inl (ow26 hw)) Via.refl e15 F_value_a1 E_a1 (Or.inr ⟨(ow27 hw), rfl, hnm⟩) (ow14 hw) (by decide) rfl rfl (hb hby d23_54) rfl (fun T16 h16 X16 e16 W16 => ?_)
  have F_value_a1_ := F_value_a1.same W16
  have E_a1 := E_a1.wr W16; have V_ca := V_ca.other W16 ne_ca_a1; have V_nb13 := V_nb13.other W16 (Ne.symm ne_a1_nb13); have F_coder_a1 := F_coder_a1.other W16 (Or.inr (slot_ne (Or.inr (ow29 hw)) (Or.inr (ow27 hw)) (by decide) (t := .byte) (t' := (.array .byte)) (by decide) (by decide))); have O := O.wr W16 g_a1; have K := K.wr W16 (Or.inl (List.mem_of_getElem? (i := 0) rfl))
  have N := Fr.snoc X16 N g_a1; have F_value_a1 := F_value_a1_
  refine og_retV X16 hx hlk hret (hb hby d23_57) (by decide) (by decide) ?_
  rw [e16]; exact ⟨_, _, rfl, N, K, sz_nb13, E_a1, F_value_a1, F_coder_a1, V_nb13⟩
theorem oef6 (m : MethodId) (x0 : Addr) (x1 : Addr) : entryFrame m #[(.ref x0), (.ref x1)] 2 = mkF m 0 #[.val (.ref x0), .val (.ref x1)] [] := by first | (simp [entryFrame, mkF, argsToLocals, Value.category]; done) | rfl
theorem rm_sn_2 (l : Launch) (Z : State) (a0 : Array Value) (hw : HW a0 Z) (a1 ca : Addr) (kc : ClassId) (c0 c1 : Int32) (hb0 : ¬ 255 < c0) (hb1 : ¬ 255 < c1) (cs : Int32) (hcs : ¬ cs = 0) (h0 : Heap) (n0 : Nat) (O : Old Z n0 h0) (E_a1 : Exa Z h0 a1 "java/lang/String") (F_value_a1 : Fld Z h0 a1 "java/lang/String" "value" "[B" .null) (F_coder_a1 : Fld Z h0 a1 "java/lang/String" "coder" "B" (.int (0 : Int32))) (V_ca : Arv Z h0 ca kc .char (2 : Int32) [(.int c0), (.int c1)] (.int (0 : Int32))) (S_CS : Sta Z Z.heap "java/lang/String" "COMPACT_STRINGS" "Z" (.int cs)) (g_a1 : n0 ≤ a1) (ne_ca_a1 : ca ≠ a1) :
    Con l Z (⟨"java/lang/String", "<init>", "([C)V"⟩ : MethodName) jdk_42_method_3_code 2 none ({ frames := 3, cells := 1, slots := 2, locals := 52 } : Room) #[(.ref a1), (.ref ca)] h0 (fun v h L => ∃ b k, v = none ∧ Fr n0 L ∧ Keep h0 h [a1] ∧ h0.size ≤ b ∧ Exa Z h a1 "java/lang/String" ∧ Fld Z h a1 "java/lang/String" "value" "[B" (.ref b) ∧ Fld Z h a1 "java/lang/String" "coder" "B" (.int (0 : Int32)) ∧ Arv Z h b k .byte (2 : Int32) [(.int c0.toInt8.toInt32), (.int c1.toInt8.toInt32)] (.int (0 : Int32))) := by
  refine own_startC opn_22 ?_
  intro p e s m below meth c T0 X0 hx hby hml hZ hown hnm hret hlk e0
  have N := Fr.nil n0; have K := Keep.refl h0 [a1]
  refine OG.cast (oef6 m a1 ca) ?_
  refine og_aloadN (pc' := 1) X0 hx rfl rfl (hb hby d22_0) rfl ?_
  refine og_aloadN (pc' := 2) X0 hx rfl rfl (hb hby d22_1) rfl ?_
  refine og_iconst (pc' := 3) (v := (0 : Int32)) X0 hx rfl (hb hby d22_2) rfl ?_
  refine og_aloadN (pc' := 4) X0 hx rfl rfl (hb hby d22_3) rfl ?_
  refine og_arraylength (pc' := 5) X0 hx hZ e0 V_ca (hb hby d22_4) rfl ?_
  refine og_aconst_null (pc' := 6) X0 hx (hb hby d22_5) rfl ?_
  refine og_special (pc' := 9) (cells' := 1) (slots' := 2) (W := 0) X0 hx hZ (rm_sv_2 l Z a0 hw a1 ca kc c0 c1 hb0 hb1 cs hcs h0 n0 O E_a1 F_value_a1 F_coder_a1 V_ca S_CS g_a1 ne_ca_a1) rfl hown (ow110 hw) (ow111 hw) (ow6 hw) (ow112 hw) (by decide) (by rw [hml]; rfl) e0 opd_6 [(.ref ca), (.int (0 : Int32)), (.int (2 : Int32)), .null] [] rfl rfl rfl rfl (by decide) (by decide) rfl rfl (by decide) (by decide) (hb hby d22_6) rfl (fun v11 T11 h11 L11 X11 e11 z11 => ?_)
  obtain ⟨nb11, k11, rfl, Nq11, K11, sb11, E_a1', F_value_a1', F_coder_a1', V_nb11⟩ := z11; have N := Fr.app N Nq11
  have s_nb11 : h0.size ≤ nb11 := sb11; have g_nb11 : n0 ≤ nb11 := Nat.le_trans (own_n0 O) s_nb11; have sz_nb11 : h0.size ≤ nb11 := Nat.le_trans K.1 s_nb11; have ne_a1_nb11 : a1 ≠ nb11 := Nat.ne_of_lt (Nat.lt_of_lt_of_le E_a1.lt s_nb11); have ne_ca_nb11 : ca ≠ nb11 := Nat.ne_of_lt (Nat.lt_of_lt_of_le V_ca.lt s_nb11)
  have E_a1 := E_a1.keep K11; have V_ca := V_ca.keep K11 (ninS ne_ca_a1 nin0); have O := O.keep K11 (allS g_a1 all0); have K := K.trans K11 (allS (Or.inl (List.mem_of_getElem? (i := 0) rfl)) all0)
  have E_a1 := E_a1'; have F_value_a1 := F_value_a1'; have F_coder_a1 := F_coder_a1'
  show OG p e below _ (T11.setTop (mkF m 9 #[.val (.ref a1), .val (.ref ca)] []))
  refine og_retV X11 hx hlk hret (hb hby d22_9) (by decide) (by decide) ?_
  rw [e11]; exact ⟨_, _, rfl, N, K, sz_nb11, E_a1, F_value_a1, F_coder_a1, V_nb11⟩
theorem oef7 (m : MethodId) (x0 : Addr) : entryFrame m #[(.ref x0)] 1 = mkF m 0 #[.val (.ref x0)] [] := by first | (simp [entryFrame, mkF, argsToLocals, Value.category]; done) | rfl
theorem rm_cod (l : Launch) (Z : State) (a0 : Array Value) (hw : HW a0 Z) (a1 : Addr) (cs : Int32) (hcs : ¬ cs = 0) (h0 : Heap) (n0 : Nat) (O : Old Z n0 h0) (F_coder_a1 : Fld Z h0 a1 "java/lang/String" "coder" "B" (.int (0 : Int32))) (S_CS : Sta Z Z.heap "java/lang/String" "COMPACT_STRINGS" "Z" (.int cs)) :
    Con l Z (⟨"java/lang/String", "coder", "()B"⟩ : MethodName) jdk_42_method_152_code 1 (some .byte) ({ frames := 0, cells := 0, slots := 0, locals := 0 } : Room) #[(.ref a1)] h0 (fun v h L => v = some (.int (0 : Int32)) ∧ Fr n0 L ∧ h = h0) := by
  refine own_startC opn_16 ?_
  intro p e s m below meth c T0 X0 hx hby hml hZ hown hnm hret hlk e0
  have N := Fr.nil n0; have K := Keep.refl h0 []
  refine OG.cast (oef7 m a1) ?_
  refine og_getstatic (pc' := 3) X0 hx hZ (host := "") hown (Or.inl (ow8 hw)) Via.refl e0 (S_CS.ext O.2) (hb hby d16_0) rfl (fun T11 X11 e11 => ?_)
  refine og_if_eq (pc1 := 13) (pc2 := 6) X11 hx (hb hby d16_3) (by decide) (by decide) rfl (fun q => absurd q hcs) (fun _ => ?_)
  refine og_aloadN (pc' := 7) X11 hx rfl rfl (hb hby d16_6) rfl ?_
  refine og_getfield (pc' := 10) X11 hx hZ (host := "") hown (Or.inl (ow28 hw)) Via.refl e11 F_coder_a1 (hb hby d16_7) rfl (fun T12 X12 e12 => ?_)
  refine og_goto (pc' := 14) X12 hx (hb hby d16_10) (by decide) (by decide) ?_
  refine og_retN X12 hx hlk hret (by simp) (hb hby d16_14) (by decide) (by decide) ?_
  rw [e12]; exact ⟨rfl, N, rfl⟩
theorem rm_len (l : Launch) (Z : State) (a0 : Array Value) (hw : HW a0 Z) (a1 ba : Addr) (kb : ClassId) (nn : Int32) (vs : List Value) (cs : Int32) (hcs : ¬ cs = 0) (h0 : Heap) (n0 : Nat) (O : Old Z n0 h0) (E_a1 : Exa Z h0 a1 "java/lang/String") (F_value_a1 : Fld Z h0 a1 "java/lang/String" "value" "[B" (.ref ba)) (F_coder_a1 : Fld Z h0 a1 "java/lang/String" "coder" "B" (.int (0 : Int32))) (V_ba : Arv Z h0 ba kb .byte nn vs (.int (0 : Int32))) (S_CS : Sta Z Z.heap "java/lang/String" "COMPACT_STRINGS" "Z" (.int cs)) :
    Con l Z (⟨"java/lang/String", "length", "()I"⟩ : MethodName) jdk_42_method_54_code 1 (some .int) ({ frames := 1, cells := 0, slots := 0, locals := 13 } : Room) #[(.ref a1)] h0 (fun v h L => v = some (.int nn) ∧ Fr n0 L ∧ h = h0) := by
  refine own_startC opn_15 ?_
  intro p e s m below meth c T0 X0 hx hby hml hZ hown hnm hret hlk e0
  have N := Fr.nil n0; have K := Keep.refl h0 []
  refine OG.cast (oef7 m a1) ?_
  refine og_aloadN (pc' := 1) X0 hx rfl rfl (hb hby d15_0) rfl ?_
  refine og_getfield (pc' := 4) X0 hx hZ (host := "") hown (Or.inl (ow26 hw)) Via.refl e0 F_value_a1 (hb hby d15_1) rfl (fun T11 X11 e11 => ?_)
  refine og_arraylength (pc' := 5) X11 hx hZ e11 V_ba (hb hby d15_4) rfl ?_
  refine og_aloadN (pc' := 6) X11 hx rfl rfl (hb hby d15_5) rfl ?_
  refine og_virtual (pc' := 9) (cells' := 0) (slots' := 0) (W := 1) X11 hx hZ (rm_cod l Z a0 hw a1 cs hcs h0 n0 O F_coder_a1 S_CS) hown (ow84 hw) (ow85 hw) (own_nf hZ (ow87 hw)) (ow87 hw) (ow86 hw) (ow6 hw) (ow88 hw) (by decide) (by rw [hml]; rfl) e11 opd_7 [] [(.int nn)] rfl rfl rfl rfl (by decide) (by decide) rfl rfl (by decide) (by decide) E_a1 (hb hby d15_6) rfl (fun v12 T12 h12 L12 X12 e12 z12 => ?_)
  obtain ⟨rfl, Nq12, hq12⟩ := z12; replace e12 := e12.trans hq12; have N := Fr.app N Nq12
  show OG p e below _ (T12.setTop (mkF m 9 #[.val (.ref a1)] [(.int (0 : Int32)), (.int nn)]))
  refine og_ishr (pc' := 10) X12 hx (hb hby d15_9) rfl ?_
  refine og_retI X12 hx hlk hret (hb hby d15_10) (by decide) (by decide) ?_
  rw [e12, own_shr0]; exact ⟨rfl, N, rfl⟩
theorem rm_ce (l : Launch) (Z : State) (a0 : Array Value) (hw : HW a0 Z)  (h0 : Heap) (n0 : Nat) (O : Old Z n0 h0) :
    Con l Z (⟨"java/lang/StringLatin1", "canEncode", "(I)Z"⟩ : MethodName) jdk_43_method_4_code 1 (some .boolean) ({ frames := 0, cells := 0, slots := 0, locals := 0 } : Room) #[(.int (46 : Int32))] h0 (fun v h L => v = some (.int (1 : Int32)) ∧ Fr n0 L ∧ h = h0) := by
  refine own_startC opn_18 ?_
  intro p e s m below meth c T0 X0 hx hby hml hZ hown hnm hret hlk e0
  have N := Fr.nil n0; have K := Keep.refl h0 []
  refine OG.cast (oef0 m (46 : Int32)) ?_
  refine og_iloadN (pc' := 1) X0 hx rfl (hb hby d18_0) rfl ?_
  refine og_if_lt (pc1 := 15) (pc2 := 4) X0 hx (hb hby d18_1) (by decide) (by decide) rfl (fun q => absurd q (by decide)) (fun _ => ?_)
  refine og_iloadN (pc' := 5) X0 hx rfl (hb hby d18_4) rfl ?_
  refine og_sipush (pc' := 8) (v := (255 : Int32)) X0 hx rfl (hb hby d18_5) rfl ?_
  refine og_icmp_gt (pc1 := 15) (pc2 := 11) X0 hx (hb hby d18_8) (by decide) (by decide) rfl (fun q => absurd q (by decide)) (fun _ => ?_)
  refine og_iconst (pc' := 12) (v := (1 : Int32)) X0 hx rfl (hb hby d18_11) rfl ?_
  refine og_goto (pc' := 16) X0 hx (hb hby d18_12) (by decide) (by decide) ?_
  refine og_retN X0 hx hlk hret (by simp) (hb hby d18_16) (by decide) (by decide) ?_
  rw [e0]; exact ⟨rfl, N, rfl⟩
theorem oef8 (m : MethodId) (x0 : Int32) (x1 : Int32) : entryFrame m #[(.int x0), (.int x1)] 2 = mkF m 0 #[.val (.int x0), .val (.int x1)] [] := by first | (simp [entryFrame, mkF, argsToLocals, Value.category]; done) | rfl
theorem rm_max (l : Launch) (Z : State) (a0 : Array Value) (hw : HW a0 Z)  (h0 : Heap) (n0 : Nat) (O : Old Z n0 h0) :
    Con l Z (⟨"java/lang/Math", "max", "(II)I"⟩ : MethodName) jdk_29_method_65_code 2 (some .int) ({ frames := 0, cells := 0, slots := 0, locals := 0 } : Room) #[(.int (0 : Int32)), (.int (0 : Int32))] h0 (fun v h L => v = some (.int (0 : Int32)) ∧ Fr n0 L ∧ h = h0) := by
  refine own_startC opn_19 ?_
  intro p e s m below meth c T0 X0 hx hby hml hZ hown hnm hret hlk e0
  have N := Fr.nil n0; have K := Keep.refl h0 []
  refine OG.cast (oef8 m (0 : Int32) (0 : Int32)) ?_
  refine og_iloadN (pc' := 1) X0 hx rfl (hb hby d19_0) rfl ?_
  refine og_iloadN (pc' := 2) X0 hx rfl (hb hby d19_1) rfl ?_
  refine og_icmp_lt (pc1 := 9) (pc2 := 5) X0 hx (hb hby d19_2) (by decide) (by decide) rfl (fun q => absurd q (by decide)) (fun _ => ?_)
  refine og_iloadN (pc' := 6) X0 hx rfl (hb hby d19_5) rfl ?_
  refine og_goto (pc' := 10) X0 hx (hb hby d19_6) (by decide) (by decide) ?_
  refine og_retI X0 hx hlk hret (hb hby d19_10) (by decide) (by decide) ?_
  rw [e0]; exact ⟨rfl, N, rfl⟩
theorem rm_il (l : Launch) (Z : State) (a0 : Array Value) (hw : HW a0 Z) (a1 : Addr) (cs : Int32) (hcs : ¬ cs = 0) (h0 : Heap) (n0 : Nat) (O : Old Z n0 h0) (F_coder_a1 : Fld Z h0 a1 "java/lang/String" "coder" "B" (.int (0 : Int32))) (S_CS : Sta Z Z.heap "java/lang/String" "COMPACT_STRINGS" "Z" (.int cs)) :
    Con l Z (⟨"java/lang/String", "isLatin1", "()Z"⟩ : MethodName) jdk_42_method_154_code 1 (some .boolean) ({ frames := 0, cells := 0, slots := 0, locals := 0 } : Room) #[(.ref a1)] h0 (fun v h L => v = some (.int (1 : Int32)) ∧ Fr n0 L ∧ h = h0) := by
  refine own_startC opn_14 ?_
  intro p e s m below meth c T0 X0 hx hby hml hZ hown hnm hret hlk e0
  have N := Fr.nil n0; have K := Keep.refl h0 []
  refine OG.cast (oef7 m a1) ?_
  refine og_getstatic (pc' := 3) X0 hx hZ (host := "") hown (Or.inl (ow8 hw)) Via.refl e0 (S_CS.ext O.2) (hb hby d14_0) rfl (fun T11 X11 e11 => ?_)
  refine og_if_eq (pc1 := 17) (pc2 := 6) X11 hx (hb hby d14_3) (by decide) (by decide) rfl (fun q => absurd q hcs) (fun _ => ?_)
  refine og_aloadN (pc' := 7) X11 hx rfl rfl (hb hby d14_6) rfl ?_
  refine og_getfield (pc' := 10) X11 hx hZ (host := "") hown (Or.inl (ow28 hw)) Via.refl e11 F_coder_a1 (hb hby d14_7) rfl (fun T12 X12 e12 => ?_)
  refine og_if_ne (pc1 := 17) (pc2 := 13) X12 hx (hb hby d14_10) (by decide) (by decide) rfl (fun q => absurd q (by decide)) (fun _ => ?_)
  refine og_iconst (pc' := 14) (v := (1 : Int32)) X12 hx rfl (hb hby d14_13) rfl ?_
  refine og_goto (pc' := 18) X12 hx (hb hby d14_14) (by decide) (by decide) ?_
  refine og_retN X12 hx hlk hret (by simp) (hb hby d14_18) (by decide) (by decide) ?_
  rw [e12]; exact ⟨rfl, N, rfl⟩
theorem rm_min1 (l : Launch) (Z : State) (a0 : Array Value) (hw : HW a0 Z)  (h0 : Heap) (n0 : Nat) (O : Old Z n0 h0) :
    Con l Z (⟨"java/lang/Math", "min", "(II)I"⟩ : MethodName) jdk_29_method_69_code 2 (some .int) ({ frames := 0, cells := 0, slots := 0, locals := 0 } : Room) #[(.int (1 : Int32)), (.int (1 : Int32))] h0 (fun v h L => v = some (.int (1 : Int32)) ∧ Fr n0 L ∧ h = h0) := by
  refine own_startC opn_20 ?_
  intro p e s m below meth c T0 X0 hx hby hml hZ hown hnm hret hlk e0
  have N := Fr.nil n0; have K := Keep.refl h0 []
  refine OG.cast (oef8 m (1 : Int32) (1 : Int32)) ?_
  refine og_iloadN (pc' := 1) X0 hx rfl (hb hby d20_0) rfl ?_
  refine og_iloadN (pc' := 2) X0 hx rfl (hb hby d20_1) rfl ?_
  refine og_icmp_gt (pc1 := 9) (pc2 := 5) X0 hx (hb hby d20_2) (by decide) (by decide) rfl (fun q => absurd q (by decide)) (fun _ => ?_)
  refine og_iloadN (pc' := 6) X0 hx rfl (hb hby d20_5) rfl ?_
  refine og_goto (pc' := 10) X0 hx (hb hby d20_6) (by decide) (by decide) ?_
  refine og_retI X0 hx hlk hret (hb hby d20_10) (by decide) (by decide) ?_
  rw [e0]; exact ⟨rfl, N, rfl⟩
theorem oef9 (m : MethodId) (x0 : Addr) (x1 : Int32) (x2 : Int32) (x3 : Int32) : entryFrame m #[(.ref x0), (.int x1), (.int x2), (.int x3)] 6 = mkF m 0 #[.val (.ref x0), .val (.int x1), .val (.int x2), .val (.int x3), .unset, .unset] [] := by first | (simp [entryFrame, mkF, argsToLocals, Value.category]; done) | rfl
theorem rm_ic1 (l : Launch) (Z : State) (a0 : Array Value) (hw : HW a0 Z) (ba : Addr) (kb : ClassId) (c0 : Int32) (hc0 : 0 ≤ c0.toInt ∧ c0.toInt ≤ 255) (h0 : Heap) (n0 : Nat) (O : Old Z n0 h0) (V_ba : Arv Z h0 ba kb .byte (1 : Int32) [(.int c0.toInt8.toInt32)] (.int (0 : Int32))) :
    Con l Z (⟨"java/lang/StringLatin1", "indexOfChar", "([BIII)I"⟩ : MethodName) jdk_43_method_23_code 6 (some .int) ({ frames := 0, cells := 0, slots := 0, locals := 0 } : Room) #[(.ref ba), (.int (46 : Int32)), (.int (0 : Int32)), (.int (1 : Int32))] h0 (fun v h L => ∃ iv : Int32, v = some (.int iv) ∧ Fr n0 L ∧ h = h0 ∧ (iv < 0 ↔ ¬ (c0 = 46))) := by
  refine own_startC opn_21 ?_
  intro p e s m below meth c T0 X0 hx hby hml hZ hown hnm hret hlk e0
  have N := Fr.nil n0; have K := Keep.refl h0 []
  refine OG.cast (oef9 m ba (46 : Int32) (0 : Int32) (1 : Int32)) ?_
  refine og_iloadN (pc' := 1) X0 hx rfl (hb hby d21_0) rfl ?_
  refine og_i2b (pc' := 2) X0 hx (hb hby d21_1) rfl ?_
  show OG p e below _ (T0.setTop (mkF m 2 #[.val (.ref ba), .val (.int (46 : Int32)), .val (.int (0 : Int32)), .val (.int (1 : Int32)), .unset, .unset] [(.int (46 : Int32))]))
  refine og_istore (pc' := 4) (L' := #[.val (.ref ba), .val (.int (46 : Int32)), .val (.int (0 : Int32)), .val (.int (1 : Int32)), .val (.int (46 : Int32)), .unset]) X0 hx rfl (hb hby d21_2) rfl ?_
  refine og_iloadN (pc' := 5) X0 hx rfl (hb hby d21_4) rfl ?_
  refine og_istore (pc' := 7) (L' := #[.val (.ref ba), .val (.int (46 : Int32)), .val (.int (0 : Int32)), .val (.int (1 : Int32)), .val (.int (46 : Int32)), .val (.int (0 : Int32))]) X0 hx rfl (hb hby d21_5) rfl ?_
  refine og_iload (pc' := 9) X0 hx rfl (hb hby d21_7) rfl ?_
  refine og_iloadN (pc' := 10) X0 hx rfl (hb hby d21_9) rfl ?_
  refine og_icmp_ge (pc1 := 31) (pc2 := 13) X0 hx (hb hby d21_10) (by decide) (by decide) rfl (fun q => absurd q (by decide)) (fun _ => ?_)
  refine og_aloadN (pc' := 14) X0 hx rfl rfl (hb hby d21_13) rfl ?_
  refine og_iload (pc' := 16) X0 hx rfl (hb hby d21_14) rfl ?_
  refine og_baload (pc' := 17) (v := (.int c0.toInt8.toInt32)) X0 hx hZ e0 V_ba ⟨by decide, by decide⟩ rfl (hb hby d21_16) rfl ?_
  refine og_iload (pc' := 19) X0 hx rfl (hb hby d21_17) rfl ?_
  refine og_icmp_ne (pc1 := 25) (pc2 := 22) X0 hx (hb hby d21_19) (by decide) (by decide) rfl (fun hc19 => ?_) (fun hc19 => ?_)
  · -- pc 25
    have hs0 := hc19
    refine og_iinc (pc' := 28) (L' := #[.val (.ref ba), .val (.int (46 : Int32)), .val (.int (0 : Int32)), .val (.int (1 : Int32)), .val (.int (46 : Int32)), .val (.int (1 : Int32))]) (w := (1 : Int32)) X0 hx rfl rfl rfl (hb hby d21_25) rfl ?_
    refine og_goto (pc' := 7) X0 hx (hb hby d21_28) (by decide) (by decide) ?_
    refine og_iload (pc' := 9) X0 hx rfl (hb hby d21_7) rfl ?_
    refine og_iloadN (pc' := 10) X0 hx rfl (hb hby d21_9) rfl ?_
    refine og_icmp_ge (pc1 := 31) (pc2 := 13) X0 hx (hb hby d21_10) (by decide) (by decide) rfl (fun _ => ?_) (fun q => absurd q (by decide))
    refine og_iconst (pc' := 32) (v := (-1 : Int32)) X0 hx rfl (hb hby d21_31) rfl ?_
    refine og_retI X0 hx hlk hret (hb hby d21_32) (by decide) (by decide) ?_
    rw [e0]; refine ⟨_, rfl, N, rfl, iff_of_true (by decide) ?_⟩
    rintro (q)
    exact hs0 (by subst q; rfl)
  · -- pc 22
    have hs0 := hc19
    refine og_iload (pc' := 24) X0 hx rfl (hb hby d21_22) rfl ?_
    refine og_retI X0 hx hlk hret (hb hby d21_24) (by decide) (by decide) ?_
    rw [e0]; exact ⟨_, rfl, N, rfl, iff_of_false (by decide) (fun q => q ((own_b46 hc0 hs0)))⟩
theorem oef10 (m : MethodId) (x0 : Addr) (x1 : Int32) (x2 : Int32) (x3 : Int32) : entryFrame m #[(.ref x0), (.int x1), (.int x2), (.int x3)] 4 = mkF m 0 #[.val (.ref x0), .val (.int x1), .val (.int x2), .val (.int x3)] [] := by first | (simp [entryFrame, mkF, argsToLocals, Value.category]; done) | rfl
theorem rm_li1 (l : Launch) (Z : State) (a0 : Array Value) (hw : HW a0 Z) (ba : Addr) (kb : ClassId) (c0 : Int32) (hc0 : 0 ≤ c0.toInt ∧ c0.toInt ≤ 255) (h0 : Heap) (n0 : Nat) (O : Old Z n0 h0) (V_ba : Arv Z h0 ba kb .byte (1 : Int32) [(.int c0.toInt8.toInt32)] (.int (0 : Int32))) :
    Con l Z (⟨"java/lang/StringLatin1", "indexOf", "([BIII)I"⟩ : MethodName) jdk_43_method_22_code 4 (some .int) ({ frames := 1, cells := 0, slots := 0, locals := 17 } : Room) #[(.ref ba), (.int (46 : Int32)), (.int (0 : Int32)), (.int (1 : Int32))] h0 (fun v h L => ∃ iv : Int32, v = some (.int iv) ∧ Fr n0 L ∧ h = h0 ∧ (iv < 0 ↔ ¬ (c0 = 46))) := by
  refine own_startC opn_17 ?_
  intro p e s m below meth c T0 X0 hx hby hml hZ hown hnm hret hlk e0
  have N := Fr.nil n0; have K := Keep.refl h0 []
  refine OG.cast (oef10 m ba (46 : Int32) (0 : Int32) (1 : Int32)) ?_
  refine og_iloadN (pc' := 1) X0 hx rfl (hb hby d17_0) rfl ?_
  refine og_static (pc' := 4) (cells' := 0) (slots' := 0) (W := 0) X0 hx hZ (rm_ce l Z a0 hw h0 n0 O) hown (ow92 hw) (ow93 hw) (ow11 hw) (ow94 hw) (by decide) (by rw [hml]; rfl) e0 opd_8 [(.int (46 : Int32))] [] rfl rfl rfl rfl (by decide) (by decide) rfl rfl (by decide) (by decide) (hb hby d17_1) rfl (fun v11 T11 h11 L11 X11 e11 z11 => ?_)
  obtain ⟨rfl, Nq11, hq11⟩ := z11; replace e11 := e11.trans hq11; have N := Fr.app N Nq11
  show OG p e below _ (T11.setTop (mkF m 4 #[.val (.ref ba), .val (.int (46 : Int32)), .val (.int (0 : Int32)), .val (.int (1 : Int32))] [(.int (1 : Int32))]))
  refine og_if_ne (pc1 := 9) (pc2 := 7) X11 hx (hb hby d17_4) (by decide) (by decide) rfl (fun _ => ?_) (fun q => absurd q (by decide))
  refine og_iloadN (pc' := 10) X11 hx rfl (hb hby d17_9) rfl ?_
  refine og_iconst (pc' := 11) (v := (0 : Int32)) X11 hx rfl (hb hby d17_10) rfl ?_
  refine og_static (pc' := 14) (cells' := 0) (slots' := 0) (W := 0) X11 hx hZ (rm_max l Z a0 hw h0 n0 O) hown (ow95 hw) (ow96 hw) (ow97 hw) (ow98 hw) (by decide) (by rw [hml]; rfl) e11 opd_9 [(.int (0 : Int32)), (.int (0 : Int32))] [] rfl rfl rfl rfl (by decide) (by decide) rfl rfl (by decide) (by decide) (hb hby d17_11) rfl (fun v12 T12 h12 L12 X12 e12 z12 => ?_)
  obtain ⟨rfl, Nq12, hq12⟩ := z12; replace e12 := e12.trans hq12; have N := Fr.app N Nq12
  show OG p e below _ (T12.setTop (mkF m 14 #[.val (.ref ba), .val (.int (46 : Int32)), .val (.int (0 : Int32)), .val (.int (1 : Int32))] [(.int (0 : Int32))]))
  refine og_istoreN (pc' := 15) (L' := #[.val (.ref ba), .val (.int (46 : Int32)), .val (.int (0 : Int32)), .val (.int (1 : Int32))]) X12 hx rfl (hb hby d17_14) rfl ?_
  refine og_iloadN (pc' := 16) X12 hx rfl (hb hby d17_15) rfl ?_
  refine og_aloadN (pc' := 17) X12 hx rfl rfl (hb hby d17_16) rfl ?_
  refine og_arraylength (pc' := 18) X12 hx hZ e12 V_ba (hb hby d17_17) rfl ?_
  refine og_static (pc' := 21) (cells' := 0) (slots' := 0) (W := 0) X12 hx hZ (rm_min1 l Z a0 hw h0 n0 O) hown (ow99 hw) (ow100 hw) (ow97 hw) (ow101 hw) (by decide) (by rw [hml]; rfl) e12 opd_9 [(.int (1 : Int32)), (.int (1 : Int32))] [] rfl rfl rfl rfl (by decide) (by decide) rfl rfl (by decide) (by decide) (hb hby d17_18) rfl (fun v13 T13 h13 L13 X13 e13 z13 => ?_)
  obtain ⟨rfl, Nq13, hq13⟩ := z13; replace e13 := e13.trans hq13; have N := Fr.app N Nq13
  show OG p e below _ (T13.setTop (mkF m 21 #[.val (.ref ba), .val (.int (46 : Int32)), .val (.int (0 : Int32)), .val (.int (1 : Int32))] [(.int (1 : Int32))]))
  refine og_istoreN (pc' := 22) (L' := #[.val (.ref ba), .val (.int (46 : Int32)), .val (.int (0 : Int32)), .val (.int (1 : Int32))]) X13 hx rfl (hb hby d17_21) rfl ?_
  refine og_iloadN (pc' := 23) X13 hx rfl (hb hby d17_22) rfl ?_
  refine og_iloadN (pc' := 24) X13 hx rfl (hb hby d17_23) rfl ?_
  refine og_icmp_lt (pc1 := 29) (pc2 := 27) X13 hx (hb hby d17_24) (by decide) (by decide) rfl (fun _ => ?_) (fun q => absurd q (by decide))
  refine og_aloadN (pc' := 30) X13 hx rfl rfl (hb hby d17_29) rfl ?_
  refine og_iloadN (pc' := 31) X13 hx rfl (hb hby d17_30) rfl ?_
  refine og_iloadN (pc' := 32) X13 hx rfl (hb hby d17_31) rfl ?_
  refine og_iloadN (pc' := 33) X13 hx rfl (hb hby d17_32) rfl ?_
  refine og_static (pc' := 36) (cells' := 0) (slots' := 0) (W := 0) X13 hx hZ (rm_ic1 l Z a0 hw ba kb c0 hc0 h0 n0 O V_ba) hown (ow102 hw) (ow103 hw) (ow11 hw) (ow104 hw) (by decide) (by rw [hml]; rfl) e13 opd_10 [(.ref ba), (.int (46 : Int32)), (.int (0 : Int32)), (.int (1 : Int32))] [] rfl rfl rfl rfl (by decide) (by decide) rfl rfl (by decide) (by decide) (hb hby d17_33) rfl (fun v14 T14 h14 L14 X14 e14 z14 => ?_)
  obtain ⟨iv14, rfl, Nq14, hq14, hiv⟩ := z14; replace e14 := e14.trans hq14; have N := Fr.app N Nq14
  show OG p e below _ (T14.setTop (mkF m 36 #[.val (.ref ba), .val (.int (46 : Int32)), .val (.int (0 : Int32)), .val (.int (1 : Int32))] [(.int iv14)]))
  refine og_retI X14 hx hlk hret (hb hby d17_36) (by decide) (by decide) ?_
  rw [e14]; exact ⟨_, rfl, N, rfl, hiv⟩
theorem oef11 (m : MethodId) (x0 : Addr) (x1 : Int32) (x2 : Int32) : entryFrame m #[(.ref x0), (.int x1), (.int x2)] 3 = mkF m 0 #[.val (.ref x0), .val (.int x1), .val (.int x2)] [] := by first | (simp [entryFrame, mkF, argsToLocals, Value.category]; done) | rfl
theorem rm_i21 (l : Launch) (Z : State) (a0 : Array Value) (hw : HW a0 Z) (a1 ba : Addr) (kb : ClassId) (c0 : Int32) (hc0 : 0 ≤ c0.toInt ∧ c0.toInt ≤ 255) (cs : Int32) (hcs : ¬ cs = 0) (h0 : Heap) (n0 : Nat) (O : Old Z n0 h0) (E_a1 : Exa Z h0 a1 "java/lang/String") (F_value_a1 : Fld Z h0 a1 "java/lang/String" "value" "[B" (.ref ba)) (F_coder_a1 : Fld Z h0 a1 "java/lang/String" "coder" "B" (.int (0 : Int32))) (V_ba : Arv Z h0 ba kb .byte (1 : Int32) [(.int c0.toInt8.toInt32)] (.int (0 : Int32))) (S_CS : Sta Z Z.heap "java/lang/String" "COMPACT_STRINGS" "Z" (.int cs)) :
    Con l Z (⟨"java/lang/String", "indexOf", "(II)I"⟩ : MethodName) jdk_42_method_80_code 3 (some .int) ({ frames := 2, cells := 0, slots := 0, locals := 32 } : Room) #[(.ref a1), (.int (46 : Int32)), (.int (0 : Int32))] h0 (fun v h L => ∃ iv : Int32, v = some (.int iv) ∧ Fr n0 L ∧ h = h0 ∧ (iv < 0 ↔ ¬ (c0 = 46))) := by
  refine own_startC opn_13 ?_
  intro p e s m below meth c T0 X0 hx hby hml hZ hown hnm hret hlk e0
  have N := Fr.nil n0; have K := Keep.refl h0 []
  refine OG.cast (oef11 m a1 (46 : Int32) (0 : Int32)) ?_
  refine og_aloadN (pc' := 1) X0 hx rfl rfl (hb hby d13_0) rfl ?_
  refine og_virtual (pc' := 4) (cells' := 0) (slots' := 0) (W := 0) X0 hx hZ (rm_il l Z a0 hw a1 cs hcs h0 n0 O F_coder_a1 S_CS) hown (ow74 hw) (ow75 hw) (own_nf hZ (ow77 hw)) (ow77 hw) (ow76 hw) (ow6 hw) (ow78 hw) (by decide) (by rw [hml]; rfl) e0 opd_11 [] [] rfl rfl rfl rfl (by decide) (by decide) rfl rfl (by decide) (by decide) E_a1 (hb hby d13_1) rfl (fun v11 T11 h11 L11 X11 e11 z11 => ?_)
  obtain ⟨rfl, Nq11, hq11⟩ := z11; replace e11 := e11.trans hq11; have N := Fr.app N Nq11
  show OG p e below _ (T11.setTop (mkF m 4 #[.val (.ref a1), .val (.int (46 : Int32)), .val (.int (0 : Int32))] [(.int (1 : Int32))]))
  refine og_if_eq (pc1 := 23) (pc2 := 7) X11 hx (hb hby d13_4) (by decide) (by decide) rfl (fun q => absurd q (by decide)) (fun _ => ?_)
  refine og_aloadN (pc' := 8) X11 hx rfl rfl (hb hby d13_7) rfl ?_
  refine og_getfield (pc' := 11) X11 hx hZ (host := "") hown (Or.inl (ow26 hw)) Via.refl e11 F_value_a1 (hb hby d13_8) rfl (fun T12 X12 e12 => ?_)
  refine og_iloadN (pc' := 12) X12 hx rfl (hb hby d13_11) rfl ?_
  refine og_iloadN (pc' := 13) X12 hx rfl (hb hby d13_12) rfl ?_
  refine og_aloadN (pc' := 14) X12 hx rfl rfl (hb hby d13_13) rfl ?_
  refine og_virtual (pc' := 17) (cells' := 0) (slots' := 0) (W := 3) X12 hx hZ (rm_len l Z a0 hw a1 ba kb (1 : Int32) _ cs hcs h0 n0 O E_a1 F_value_a1 F_coder_a1 V_ba S_CS) hown (ow79 hw) (ow80 hw) (own_nf hZ (ow82 hw)) (ow82 hw) (ow81 hw) (ow6 hw) (ow83 hw) (by decide) (by rw [hml]; rfl) e12 opd_12 [] [(.int (0 : Int32)), (.int (46 : Int32)), (.ref ba)] rfl rfl rfl rfl (by decide) (by decide) rfl rfl (by decide) (by decide) E_a1 (hb hby d13_14) rfl (fun v13 T13 h13 L13 X13 e13 z13 => ?_)
  obtain ⟨rfl, Nq13, hq13⟩ := z13; replace e13 := e13.trans hq13; have N := Fr.app N Nq13
  show OG p e below _ (T13.setTop (mkF m 17 #[.val (.ref a1), .val (.int (46 : Int32)), .val (.int (0 : Int32))] [(.int (1 : Int32)), (.int (0 : Int32)), (.int (46 : Int32)), (.ref ba)]))
  refine og_static (pc' := 20) (cells' := 0) (slots' := 0) (W := 0) X13 hx hZ (rm_li1 l Z a0 hw ba kb c0 hc0 h0 n0 O V_ba) hown (ow89 hw) (ow90 hw) (ow11 hw) (ow91 hw) (by decide) (by rw [hml]; rfl) e13 opd_10 [(.ref ba), (.int (46 : Int32)), (.int (0 : Int32)), (.int (1 : Int32))] [] rfl rfl rfl rfl (by decide) (by decide) rfl rfl (by decide) (by decide) (hb hby d13_17) rfl (fun v14 T14 h14 L14 X14 e14 z14 => ?_)
  obtain ⟨iv14, rfl, Nq14, hq14, hiv⟩ := z14; replace e14 := e14.trans hq14; have N := Fr.app N Nq14
  show OG p e below _ (T14.setTop (mkF m 20 #[.val (.ref a1), .val (.int (46 : Int32)), .val (.int (0 : Int32))] [(.int iv14)]))
  refine og_goto (pc' := 36) X14 hx (hb hby d13_20) (by decide) (by decide) ?_
  refine og_retI X14 hx hlk hret (hb hby d13_36) (by decide) (by decide) ?_
  rw [e14]; exact ⟨_, rfl, N, rfl, hiv⟩
theorem rm_ix1 (l : Launch) (Z : State) (a0 : Array Value) (hw : HW a0 Z) (a1 ba : Addr) (kb : ClassId) (c0 : Int32) (hc0 : 0 ≤ c0.toInt ∧ c0.toInt ≤ 255) (cs : Int32) (hcs : ¬ cs = 0) (h0 : Heap) (n0 : Nat) (O : Old Z n0 h0) (E_a1 : Exa Z h0 a1 "java/lang/String") (F_value_a1 : Fld Z h0 a1 "java/lang/String" "value" "[B" (.ref ba)) (F_coder_a1 : Fld Z h0 a1 "java/lang/String" "coder" "B" (.int (0 : Int32))) (V_ba : Arv Z h0 ba kb .byte (1 : Int32) [(.int c0.toInt8.toInt32)] (.int (0 : Int32))) (S_CS : Sta Z Z.heap "java/lang/String" "COMPACT_STRINGS" "Z" (.int cs)) :
    Con l Z (⟨"java/lang/String", "indexOf", "(I)I"⟩ : MethodName) jdk_42_method_79_code 2 (some .int) ({ frames := 3, cells := 0, slots := 0, locals := 46 } : Room) #[(.ref a1), (.int (46 : Int32))] h0 (fun v h L => ∃ iv : Int32, v = some (.int iv) ∧ Fr n0 L ∧ h = h0 ∧ (iv < 0 ↔ ¬ (c0 = 46))) := by
  refine own_startC opn_12 ?_
  intro p e s m below meth c T0 X0 hx hby hml hZ hown hnm hret hlk e0
  have N := Fr.nil n0; have K := Keep.refl h0 []
  refine OG.cast (oef4 m a1 (46 : Int32)) ?_
  refine og_aloadN (pc' := 1) X0 hx rfl rfl (hb hby d12_0) rfl ?_
  refine og_iloadN (pc' := 2) X0 hx rfl (hb hby d12_1) rfl ?_
  refine og_iconst (pc' := 3) (v := (0 : Int32)) X0 hx rfl (hb hby d12_2) rfl ?_
  refine og_virtual (pc' := 6) (cells' := 0) (slots' := 0) (W := 0) X0 hx hZ (rm_i21 l Z a0 hw a1 ba kb c0 hc0 cs hcs h0 n0 O E_a1 F_value_a1 F_coder_a1 V_ba S_CS) hown (ow69 hw) (ow70 hw) (own_nf hZ (ow72 hw)) (ow72 hw) (ow71 hw) (ow6 hw) (ow73 hw) (by decide) (by rw [hml]; rfl) e0 opd_9 [(.int (46 : Int32)), (.int (0 : Int32))] [] rfl rfl rfl rfl (by decide) (by decide) rfl rfl (by decide) (by decide) E_a1 (hb hby d12_3) rfl (fun v11 T11 h11 L11 X11 e11 z11 => ?_)
  obtain ⟨iv11, rfl, Nq11, hq11, hiv⟩ := z11; replace e11 := e11.trans hq11; have N := Fr.app N Nq11
  show OG p e below _ (T11.setTop (mkF m 6 #[.val (.ref a1), .val (.int (46 : Int32))] [(.int iv11)]))
  refine og_retI X11 hx hlk hret (hb hby d12_6) (by decide) (by decide) ?_
  rw [e11]; exact ⟨_, rfl, N, rfl, hiv⟩
theorem rm_min2 (l : Launch) (Z : State) (a0 : Array Value) (hw : HW a0 Z)  (h0 : Heap) (n0 : Nat) (O : Old Z n0 h0) :
    Con l Z (⟨"java/lang/Math", "min", "(II)I"⟩ : MethodName) jdk_29_method_69_code 2 (some .int) ({ frames := 0, cells := 0, slots := 0, locals := 0 } : Room) #[(.int (2 : Int32)), (.int (2 : Int32))] h0 (fun v h L => v = some (.int (2 : Int32)) ∧ Fr n0 L ∧ h = h0) := by
  refine own_startC opn_20 ?_
  intro p e s m below meth c T0 X0 hx hby hml hZ hown hnm hret hlk e0
  have N := Fr.nil n0; have K := Keep.refl h0 []
  refine OG.cast (oef8 m (2 : Int32) (2 : Int32)) ?_
  refine og_iloadN (pc' := 1) X0 hx rfl (hb hby d20_0) rfl ?_
  refine og_iloadN (pc' := 2) X0 hx rfl (hb hby d20_1) rfl ?_
  refine og_icmp_gt (pc1 := 9) (pc2 := 5) X0 hx (hb hby d20_2) (by decide) (by decide) rfl (fun q => absurd q (by decide)) (fun _ => ?_)
  refine og_iloadN (pc' := 6) X0 hx rfl (hb hby d20_5) rfl ?_
  refine og_goto (pc' := 10) X0 hx (hb hby d20_6) (by decide) (by decide) ?_
  refine og_retI X0 hx hlk hret (hb hby d20_10) (by decide) (by decide) ?_
  rw [e0]; exact ⟨rfl, N, rfl⟩
theorem rm_ic2 (l : Launch) (Z : State) (a0 : Array Value) (hw : HW a0 Z) (ba : Addr) (kb : ClassId) (c0 c1 : Int32) (hc0 : 0 ≤ c0.toInt ∧ c0.toInt ≤ 255) (hc1 : 0 ≤ c1.toInt ∧ c1.toInt ≤ 255) (h0 : Heap) (n0 : Nat) (O : Old Z n0 h0) (V_ba : Arv Z h0 ba kb .byte (2 : Int32) [(.int c0.toInt8.toInt32), (.int c1.toInt8.toInt32)] (.int (0 : Int32))) :
    Con l Z (⟨"java/lang/StringLatin1", "indexOfChar", "([BIII)I"⟩ : MethodName) jdk_43_method_23_code 6 (some .int) ({ frames := 0, cells := 0, slots := 0, locals := 0 } : Room) #[(.ref ba), (.int (46 : Int32)), (.int (0 : Int32)), (.int (2 : Int32))] h0 (fun v h L => ∃ iv : Int32, v = some (.int iv) ∧ Fr n0 L ∧ h = h0 ∧ (iv < 0 ↔ ¬ (c0 = 46 ∨ c1 = 46))) := by
  refine own_startC opn_21 ?_
  intro p e s m below meth c T0 X0 hx hby hml hZ hown hnm hret hlk e0
  have N := Fr.nil n0; have K := Keep.refl h0 []
  refine OG.cast (oef9 m ba (46 : Int32) (0 : Int32) (2 : Int32)) ?_
  refine og_iloadN (pc' := 1) X0 hx rfl (hb hby d21_0) rfl ?_
  refine og_i2b (pc' := 2) X0 hx (hb hby d21_1) rfl ?_
  show OG p e below _ (T0.setTop (mkF m 2 #[.val (.ref ba), .val (.int (46 : Int32)), .val (.int (0 : Int32)), .val (.int (2 : Int32)), .unset, .unset] [(.int (46 : Int32))]))
  refine og_istore (pc' := 4) (L' := #[.val (.ref ba), .val (.int (46 : Int32)), .val (.int (0 : Int32)), .val (.int (2 : Int32)), .val (.int (46 : Int32)), .unset]) X0 hx rfl (hb hby d21_2) rfl ?_
  refine og_iloadN (pc' := 5) X0 hx rfl (hb hby d21_4) rfl ?_
  refine og_istore (pc' := 7) (L' := #[.val (.ref ba), .val (.int (46 : Int32)), .val (.int (0 : Int32)), .val (.int (2 : Int32)), .val (.int (46 : Int32)), .val (.int (0 : Int32))]) X0 hx rfl (hb hby d21_5) rfl ?_
  refine og_iload (pc' := 9) X0 hx rfl (hb hby d21_7) rfl ?_
  refine og_iloadN (pc' := 10) X0 hx rfl (hb hby d21_9) rfl ?_
  refine og_icmp_ge (pc1 := 31) (pc2 := 13) X0 hx (hb hby d21_10) (by decide) (by decide) rfl (fun q => absurd q (by decide)) (fun _ => ?_)
  refine og_aloadN (pc' := 14) X0 hx rfl rfl (hb hby d21_13) rfl ?_
  refine og_iload (pc' := 16) X0 hx rfl (hb hby d21_14) rfl ?_
  refine og_baload (pc' := 17) (v := (.int c0.toInt8.toInt32)) X0 hx hZ e0 V_ba ⟨by decide, by decide⟩ rfl (hb hby d21_16) rfl ?_
  refine og_iload (pc' := 19) X0 hx rfl (hb hby d21_17) rfl ?_
  refine og_icmp_ne (pc1 := 25) (pc2 := 22) X0 hx (hb hby d21_19) (by decide) (by decide) rfl (fun hc19 => ?_) (fun hc19 => ?_)
  · -- pc 25
    have hs0 := hc19
    refine og_iinc (pc' := 28) (L' := #[.val (.ref ba), .val (.int (46 : Int32)), .val (.int (0 : Int32)), .val (.int (2 : Int32)), .val (.int (46 : Int32)), .val (.int (1 : Int32))]) (w := (1 : Int32)) X0 hx rfl rfl rfl (hb hby d21_25) rfl ?_
    refine og_goto (pc' := 7) X0 hx (hb hby d21_28) (by decide) (by decide) ?_
    refine og_iload (pc' := 9) X0 hx rfl (hb hby d21_7) rfl ?_
    refine og_iloadN (pc' := 10) X0 hx rfl (hb hby d21_9) rfl ?_
    refine og_icmp_ge (pc1 := 31) (pc2 := 13) X0 hx (hb hby d21_10) (by decide) (by decide) rfl (fun q => absurd q (by decide)) (fun _ => ?_)
    refine og_aloadN (pc' := 14) X0 hx rfl rfl (hb hby d21_13) rfl ?_
    refine og_iload (pc' := 16) X0 hx rfl (hb hby d21_14) rfl ?_
    refine og_baload (pc' := 17) (v := (.int c1.toInt8.toInt32)) X0 hx hZ e0 V_ba ⟨by decide, by decide⟩ rfl (hb hby d21_16) rfl ?_
    refine og_iload (pc' := 19) X0 hx rfl (hb hby d21_17) rfl ?_
    refine og_icmp_ne (pc1 := 25) (pc2 := 22) X0 hx (hb hby d21_19) (by decide) (by decide) rfl (fun hc19 => ?_) (fun hc19 => ?_)
    · -- pc 25
      have hs1 := hc19
      refine og_iinc (pc' := 28) (L' := #[.val (.ref ba), .val (.int (46 : Int32)), .val (.int (0 : Int32)), .val (.int (2 : Int32)), .val (.int (46 : Int32)), .val (.int (2 : Int32))]) (w := (1 : Int32)) X0 hx rfl rfl rfl (hb hby d21_25) rfl ?_
      refine og_goto (pc' := 7) X0 hx (hb hby d21_28) (by decide) (by decide) ?_
      refine og_iload (pc' := 9) X0 hx rfl (hb hby d21_7) rfl ?_
      refine og_iloadN (pc' := 10) X0 hx rfl (hb hby d21_9) rfl ?_
      refine og_icmp_ge (pc1 := 31) (pc2 := 13) X0 hx (hb hby d21_10) (by decide) (by decide) rfl (fun _ => ?_) (fun q => absurd q (by decide))
      refine og_iconst (pc' := 32) (v := (-1 : Int32)) X0 hx rfl (hb hby d21_31) rfl ?_
      refine og_retI X0 hx hlk hret (hb hby d21_32) (by decide) (by decide) ?_
      rw [e0]; refine ⟨_, rfl, N, rfl, iff_of_true (by decide) ?_⟩
      rintro (q | q)
      · exact hs0 (by subst q; rfl)
      · exact hs1 (by subst q; rfl)
    · -- pc 22
      have hs1 := hc19
      refine og_iload (pc' := 24) X0 hx rfl (hb hby d21_22) rfl ?_
      refine og_retI X0 hx hlk hret (hb hby d21_24) (by decide) (by decide) ?_
      rw [e0]; exact ⟨_, rfl, N, rfl, iff_of_false (by decide) (fun q => q (Or.inr ((own_b46 hc1 hs1))))⟩
  · -- pc 22
    have hs0 := hc19
    refine og_iload (pc' := 24) X0 hx rfl (hb hby d21_22) rfl ?_
    refine og_retI X0 hx hlk hret (hb hby d21_24) (by decide) (by decide) ?_
    rw [e0]; exact ⟨_, rfl, N, rfl, iff_of_false (by decide) (fun q => q (Or.inl (own_b46 hc0 hs0)))⟩
theorem rm_li2 (l : Launch) (Z : State) (a0 : Array Value) (hw : HW a0 Z) (ba : Addr) (kb : ClassId) (c0 c1 : Int32) (hc0 : 0 ≤ c0.toInt ∧ c0.toInt ≤ 255) (hc1 : 0 ≤ c1.toInt ∧ c1.toInt ≤ 255) (h0 : Heap) (n0 : Nat) (O : Old Z n0 h0) (V_ba : Arv Z h0 ba kb .byte (2 : Int32) [(.int c0.toInt8.toInt32), (.int c1.toInt8.toInt32)] (.int (0 : Int32))) :
    Con l Z (⟨"java/lang/StringLatin1", "indexOf", "([BIII)I"⟩ : MethodName) jdk_43_method_22_code 4 (some .int) ({ frames := 1, cells := 0, slots := 0, locals := 17 } : Room) #[(.ref ba), (.int (46 : Int32)), (.int (0 : Int32)), (.int (2 : Int32))] h0 (fun v h L => ∃ iv : Int32, v = some (.int iv) ∧ Fr n0 L ∧ h = h0 ∧ (iv < 0 ↔ ¬ (c0 = 46 ∨ c1 = 46))) := by
  refine own_startC opn_17 ?_
  intro p e s m below meth c T0 X0 hx hby hml hZ hown hnm hret hlk e0
  have N := Fr.nil n0; have K := Keep.refl h0 []
  refine OG.cast (oef10 m ba (46 : Int32) (0 : Int32) (2 : Int32)) ?_
  refine og_iloadN (pc' := 1) X0 hx rfl (hb hby d17_0) rfl ?_
  refine og_static (pc' := 4) (cells' := 0) (slots' := 0) (W := 0) X0 hx hZ (rm_ce l Z a0 hw h0 n0 O) hown (ow92 hw) (ow93 hw) (ow11 hw) (ow94 hw) (by decide) (by rw [hml]; rfl) e0 opd_8 [(.int (46 : Int32))] [] rfl rfl rfl rfl (by decide) (by decide) rfl rfl (by decide) (by decide) (hb hby d17_1) rfl (fun v11 T11 h11 L11 X11 e11 z11 => ?_)
  obtain ⟨rfl, Nq11, hq11⟩ := z11; replace e11 := e11.trans hq11; have N := Fr.app N Nq11
  show OG p e below _ (T11.setTop (mkF m 4 #[.val (.ref ba), .val (.int (46 : Int32)), .val (.int (0 : Int32)), .val (.int (2 : Int32))] [(.int (1 : Int32))]))
  refine og_if_ne (pc1 := 9) (pc2 := 7) X11 hx (hb hby d17_4) (by decide) (by decide) rfl (fun _ => ?_) (fun q => absurd q (by decide))
  refine og_iloadN (pc' := 10) X11 hx rfl (hb hby d17_9) rfl ?_
  refine og_iconst (pc' := 11) (v := (0 : Int32)) X11 hx rfl (hb hby d17_10) rfl ?_
  refine og_static (pc' := 14) (cells' := 0) (slots' := 0) (W := 0) X11 hx hZ (rm_max l Z a0 hw h0 n0 O) hown (ow95 hw) (ow96 hw) (ow97 hw) (ow98 hw) (by decide) (by rw [hml]; rfl) e11 opd_9 [(.int (0 : Int32)), (.int (0 : Int32))] [] rfl rfl rfl rfl (by decide) (by decide) rfl rfl (by decide) (by decide) (hb hby d17_11) rfl (fun v12 T12 h12 L12 X12 e12 z12 => ?_)
  obtain ⟨rfl, Nq12, hq12⟩ := z12; replace e12 := e12.trans hq12; have N := Fr.app N Nq12
  show OG p e below _ (T12.setTop (mkF m 14 #[.val (.ref ba), .val (.int (46 : Int32)), .val (.int (0 : Int32)), .val (.int (2 : Int32))] [(.int (0 : Int32))]))
  refine og_istoreN (pc' := 15) (L' := #[.val (.ref ba), .val (.int (46 : Int32)), .val (.int (0 : Int32)), .val (.int (2 : Int32))]) X12 hx rfl (hb hby d17_14) rfl ?_
  refine og_iloadN (pc' := 16) X12 hx rfl (hb hby d17_15) rfl ?_
  refine og_aloadN (pc' := 17) X12 hx rfl rfl (hb hby d17_16) rfl ?_
  refine og_arraylength (pc' := 18) X12 hx hZ e12 V_ba (hb hby d17_17) rfl ?_
  refine og_static (pc' := 21) (cells' := 0) (slots' := 0) (W := 0) X12 hx hZ (rm_min2 l Z a0 hw h0 n0 O) hown (ow99 hw) (ow100 hw) (ow97 hw) (ow101 hw) (by decide) (by rw [hml]; rfl) e12 opd_9 [(.int (2 : Int32)), (.int (2 : Int32))] [] rfl rfl rfl rfl (by decide) (by decide) rfl rfl (by decide) (by decide) (hb hby d17_18) rfl (fun v13 T13 h13 L13 X13 e13 z13 => ?_)
  obtain ⟨rfl, Nq13, hq13⟩ := z13; replace e13 := e13.trans hq13; have N := Fr.app N Nq13
  show OG p e below _ (T13.setTop (mkF m 21 #[.val (.ref ba), .val (.int (46 : Int32)), .val (.int (0 : Int32)), .val (.int (2 : Int32))] [(.int (2 : Int32))]))
  refine og_istoreN (pc' := 22) (L' := #[.val (.ref ba), .val (.int (46 : Int32)), .val (.int (0 : Int32)), .val (.int (2 : Int32))]) X13 hx rfl (hb hby d17_21) rfl ?_
  refine og_iloadN (pc' := 23) X13 hx rfl (hb hby d17_22) rfl ?_
  refine og_iloadN (pc' := 24) X13 hx rfl (hb hby d17_23) rfl ?_
  refine og_icmp_lt (pc1 := 29) (pc2 := 27) X13 hx (hb hby d17_24) (by decide) (by decide) rfl (fun _ => ?_) (fun q => absurd q (by decide))
  refine og_aloadN (pc' := 30) X13 hx rfl rfl (hb hby d17_29) rfl ?_
  refine og_iloadN (pc' := 31) X13 hx rfl (hb hby d17_30) rfl ?_
  refine og_iloadN (pc' := 32) X13 hx rfl (hb hby d17_31) rfl ?_
  refine og_iloadN (pc' := 33) X13 hx rfl (hb hby d17_32) rfl ?_
  refine og_static (pc' := 36) (cells' := 0) (slots' := 0) (W := 0) X13 hx hZ (rm_ic2 l Z a0 hw ba kb c0 c1 hc0 hc1 h0 n0 O V_ba) hown (ow102 hw) (ow103 hw) (ow11 hw) (ow104 hw) (by decide) (by rw [hml]; rfl) e13 opd_10 [(.ref ba), (.int (46 : Int32)), (.int (0 : Int32)), (.int (2 : Int32))] [] rfl rfl rfl rfl (by decide) (by decide) rfl rfl (by decide) (by decide) (hb hby d17_33) rfl (fun v14 T14 h14 L14 X14 e14 z14 => ?_)
  obtain ⟨iv14, rfl, Nq14, hq14, hiv⟩ := z14; replace e14 := e14.trans hq14; have N := Fr.app N Nq14
  show OG p e below _ (T14.setTop (mkF m 36 #[.val (.ref ba), .val (.int (46 : Int32)), .val (.int (0 : Int32)), .val (.int (2 : Int32))] [(.int iv14)]))
  refine og_retI X14 hx hlk hret (hb hby d17_36) (by decide) (by decide) ?_
  rw [e14]; exact ⟨_, rfl, N, rfl, hiv⟩
theorem rm_i22 (l : Launch) (Z : State) (a0 : Array Value) (hw : HW a0 Z) (a1 ba : Addr) (kb : ClassId) (c0 c1 : Int32) (hc0 : 0 ≤ c0.toInt ∧ c0.toInt ≤ 255) (hc1 : 0 ≤ c1.toInt ∧ c1.toInt ≤ 255) (cs : Int32) (hcs : ¬ cs = 0) (h0 : Heap) (n0 : Nat) (O : Old Z n0 h0) (E_a1 : Exa Z h0 a1 "java/lang/String") (F_value_a1 : Fld Z h0 a1 "java/lang/String" "value" "[B" (.ref ba)) (F_coder_a1 : Fld Z h0 a1 "java/lang/String" "coder" "B" (.int (0 : Int32))) (V_ba : Arv Z h0 ba kb .byte (2 : Int32) [(.int c0.toInt8.toInt32), (.int c1.toInt8.toInt32)] (.int (0 : Int32))) (S_CS : Sta Z Z.heap "java/lang/String" "COMPACT_STRINGS" "Z" (.int cs)) :
    Con l Z (⟨"java/lang/String", "indexOf", "(II)I"⟩ : MethodName) jdk_42_method_80_code 3 (some .int) ({ frames := 2, cells := 0, slots := 0, locals := 32 } : Room) #[(.ref a1), (.int (46 : Int32)), (.int (0 : Int32))] h0 (fun v h L => ∃ iv : Int32, v = some (.int iv) ∧ Fr n0 L ∧ h = h0 ∧ (iv < 0 ↔ ¬ (c0 = 46 ∨ c1 = 46))) := by
  refine own_startC opn_13 ?_
  intro p e s m below meth c T0 X0 hx hby hml hZ hown hnm hret hlk e0
  have N := Fr.nil n0; have K := Keep.refl h0 []
  refine OG.cast (oef11 m a1 (46 : Int32) (0 : Int32)) ?_
  refine og_aloadN (pc' := 1) X0 hx rfl rfl (hb hby d13_0) rfl ?_
  refine og_virtual (pc' := 4) (cells' := 0) (slots' := 0) (W := 0) X0 hx hZ (rm_il l Z a0 hw a1 cs hcs h0 n0 O F_coder_a1 S_CS) hown (ow74 hw) (ow75 hw) (own_nf hZ (ow77 hw)) (ow77 hw) (ow76 hw) (ow6 hw) (ow78 hw) (by decide) (by rw [hml]; rfl) e0 opd_11 [] [] rfl rfl rfl rfl (by decide) (by decide) rfl rfl (by decide) (by decide) E_a1 (hb hby d13_1) rfl (fun v11 T11 h11 L11 X11 e11 z11 => ?_)
  obtain ⟨rfl, Nq11, hq11⟩ := z11; replace e11 := e11.trans hq11; have N := Fr.app N Nq11
  show OG p e below _ (T11.setTop (mkF m 4 #[.val (.ref a1), .val (.int (46 : Int32)), .val (.int (0 : Int32))] [(.int (1 : Int32))]))
  refine og_if_eq (pc1 := 23) (pc2 := 7) X11 hx (hb hby d13_4) (by decide) (by decide) rfl (fun q => absurd q (by decide)) (fun _ => ?_)
  refine og_aloadN (pc' := 8) X11 hx rfl rfl (hb hby d13_7) rfl ?_
  refine og_getfield (pc' := 11) X11 hx hZ (host := "") hown (Or.inl (ow26 hw)) Via.refl e11 F_value_a1 (hb hby d13_8) rfl (fun T12 X12 e12 => ?_)
  refine og_iloadN (pc' := 12) X12 hx rfl (hb hby d13_11) rfl ?_
  refine og_iloadN (pc' := 13) X12 hx rfl (hb hby d13_12) rfl ?_
  refine og_aloadN (pc' := 14) X12 hx rfl rfl (hb hby d13_13) rfl ?_
  refine og_virtual (pc' := 17) (cells' := 0) (slots' := 0) (W := 3) X12 hx hZ (rm_len l Z a0 hw a1 ba kb (2 : Int32) _ cs hcs h0 n0 O E_a1 F_value_a1 F_coder_a1 V_ba S_CS) hown (ow79 hw) (ow80 hw) (own_nf hZ (ow82 hw)) (ow82 hw) (ow81 hw) (ow6 hw) (ow83 hw) (by decide) (by rw [hml]; rfl) e12 opd_12 [] [(.int (0 : Int32)), (.int (46 : Int32)), (.ref ba)] rfl rfl rfl rfl (by decide) (by decide) rfl rfl (by decide) (by decide) E_a1 (hb hby d13_14) rfl (fun v13 T13 h13 L13 X13 e13 z13 => ?_)
  obtain ⟨rfl, Nq13, hq13⟩ := z13; replace e13 := e13.trans hq13; have N := Fr.app N Nq13
  show OG p e below _ (T13.setTop (mkF m 17 #[.val (.ref a1), .val (.int (46 : Int32)), .val (.int (0 : Int32))] [(.int (2 : Int32)), (.int (0 : Int32)), (.int (46 : Int32)), (.ref ba)]))
  refine og_static (pc' := 20) (cells' := 0) (slots' := 0) (W := 0) X13 hx hZ (rm_li2 l Z a0 hw ba kb c0 c1 hc0 hc1 h0 n0 O V_ba) hown (ow89 hw) (ow90 hw) (ow11 hw) (ow91 hw) (by decide) (by rw [hml]; rfl) e13 opd_10 [(.ref ba), (.int (46 : Int32)), (.int (0 : Int32)), (.int (2 : Int32))] [] rfl rfl rfl rfl (by decide) (by decide) rfl rfl (by decide) (by decide) (hb hby d13_17) rfl (fun v14 T14 h14 L14 X14 e14 z14 => ?_)
  obtain ⟨iv14, rfl, Nq14, hq14, hiv⟩ := z14; replace e14 := e14.trans hq14; have N := Fr.app N Nq14
  show OG p e below _ (T14.setTop (mkF m 20 #[.val (.ref a1), .val (.int (46 : Int32)), .val (.int (0 : Int32))] [(.int iv14)]))
  refine og_goto (pc' := 36) X14 hx (hb hby d13_20) (by decide) (by decide) ?_
  refine og_retI X14 hx hlk hret (hb hby d13_36) (by decide) (by decide) ?_
  rw [e14]; exact ⟨_, rfl, N, rfl, hiv⟩
theorem rm_ix2 (l : Launch) (Z : State) (a0 : Array Value) (hw : HW a0 Z) (a1 ba : Addr) (kb : ClassId) (c0 c1 : Int32) (hc0 : 0 ≤ c0.toInt ∧ c0.toInt ≤ 255) (hc1 : 0 ≤ c1.toInt ∧ c1.toInt ≤ 255) (cs : Int32) (hcs : ¬ cs = 0) (h0 : Heap) (n0 : Nat) (O : Old Z n0 h0) (E_a1 : Exa Z h0 a1 "java/lang/String") (F_value_a1 : Fld Z h0 a1 "java/lang/String" "value" "[B" (.ref ba)) (F_coder_a1 : Fld Z h0 a1 "java/lang/String" "coder" "B" (.int (0 : Int32))) (V_ba : Arv Z h0 ba kb .byte (2 : Int32) [(.int c0.toInt8.toInt32), (.int c1.toInt8.toInt32)] (.int (0 : Int32))) (S_CS : Sta Z Z.heap "java/lang/String" "COMPACT_STRINGS" "Z" (.int cs)) :
    Con l Z (⟨"java/lang/String", "indexOf", "(I)I"⟩ : MethodName) jdk_42_method_79_code 2 (some .int) ({ frames := 3, cells := 0, slots := 0, locals := 46 } : Room) #[(.ref a1), (.int (46 : Int32))] h0 (fun v h L => ∃ iv : Int32, v = some (.int iv) ∧ Fr n0 L ∧ h = h0 ∧ (iv < 0 ↔ ¬ (c0 = 46 ∨ c1 = 46))) := by
  refine own_startC opn_12 ?_
  intro p e s m below meth c T0 X0 hx hby hml hZ hown hnm hret hlk e0
  have N := Fr.nil n0; have K := Keep.refl h0 []
  refine OG.cast (oef4 m a1 (46 : Int32)) ?_
  refine og_aloadN (pc' := 1) X0 hx rfl rfl (hb hby d12_0) rfl ?_
  refine og_iloadN (pc' := 2) X0 hx rfl (hb hby d12_1) rfl ?_
  refine og_iconst (pc' := 3) (v := (0 : Int32)) X0 hx rfl (hb hby d12_2) rfl ?_
  refine og_virtual (pc' := 6) (cells' := 0) (slots' := 0) (W := 0) X0 hx hZ (rm_i22 l Z a0 hw a1 ba kb c0 c1 hc0 hc1 cs hcs h0 n0 O E_a1 F_value_a1 F_coder_a1 V_ba S_CS) hown (ow69 hw) (ow70 hw) (own_nf hZ (ow72 hw)) (ow72 hw) (ow71 hw) (ow6 hw) (ow73 hw) (by decide) (by rw [hml]; rfl) e0 opd_9 [(.int (46 : Int32)), (.int (0 : Int32))] [] rfl rfl rfl rfl (by decide) (by decide) rfl rfl (by decide) (by decide) E_a1 (hb hby d12_3) rfl (fun v11 T11 h11 L11 X11 e11 z11 => ?_)
  obtain ⟨iv11, rfl, Nq11, hq11, hiv⟩ := z11; replace e11 := e11.trans hq11; have N := Fr.app N Nq11
  show OG p e below _ (T11.setTop (mkF m 6 #[.val (.ref a1), .val (.int (46 : Int32))] [(.int iv11)]))
  refine og_retI X11 hx hlk hret (hb hby d12_6) (by decide) (by decide) ?_
  rw [e11]; exact ⟨_, rfl, N, rfl, hiv⟩
theorem rm_c (l : Launch) (Z : State) (a0 : Array Value) (hw : HW a0 Z) (vv : Int32) (h0 : Heap) (n0 : Nat) (O : Old Z n0 h0) :
    Con l Z (⟨"com/example/tombstone/tombstone/config/TableNameWritablePinLaw", "ch", "(I)C"⟩ : MethodName) method_2_code 1 (some .char) ({ frames := 0, cells := 0, slots := 0, locals := 0 } : Room) #[(.int vv)] h0 (fun v h L => ∃ z : Int32, v = some (.int z) ∧ Fr n0 L ∧ h = h0 ∧ 0 ≤ z.toInt ∧ z.toInt ≤ 255) := by
  refine own_startC opn_1 ?_
  intro p e s m below meth c T0 X0 hx hby hml hZ hown hnm hret hlk e0
  have N := Fr.nil n0; have K := Keep.refl h0 []
  refine OG.cast (oef0 m vv) ?_
  refine og_iloadN (pc' := 1) X0 hx rfl (hb hby d1_0) rfl ?_
  refine og_iconst (pc' := 2) (v := (1 : Int32)) X0 hx rfl (hb hby d1_1) rfl ?_
  refine og_iand (pc' := 3) X0 hx (hb hby d1_2) rfl ?_
  refine og_if_eq (pc1 := 11) (pc2 := 6) X0 hx (hb hby d1_3) (by decide) (by decide) rfl (fun hc3 => ?_) (fun hc3 => ?_)
  · -- pc 11
    refine og_iloadN (pc' := 12) X0 hx rfl (hb hby d1_11) rfl ?_
    refine og_iconst (pc' := 13) (v := (1 : Int32)) X0 hx rfl (hb hby d1_12) rfl ?_
    refine og_iushr (pc' := 14) X0 hx (hb hby d1_13) rfl ?_
    refine og_sipush (pc' := 17) (v := (255 : Int32)) X0 hx rfl (hb hby d1_14) rfl ?_
    refine og_iand (pc' := 18) X0 hx (hb hby d1_17) rfl ?_
    refine og_i2c (pc' := 19) X0 hx (hb hby d1_18) rfl ?_
    refine og_retN X0 hx hlk hret (by simp) (hb hby d1_19) (by decide) (by decide) ?_
    rw [e0]; exact ⟨_, rfl, N, rfl, own_chb _⟩
  · -- pc 6
    refine og_bipush (pc' := 8) (v := (46 : Int32)) X0 hx rfl (hb hby d1_6) rfl ?_
    refine og_goto (pc' := 19) X0 hx (hb hby d1_8) (by decide) (by decide) ?_
    refine og_retN X0 hx hlk hret (by simp) (hb hby d1_19) (by decide) (by decide) ?_
    rw [e0]; exact ⟨(46 : Int32), rfl, N, rfl, by decide, by decide⟩
theorem rm_rec (l : Launch) (Z : State) (a0 : Array Value) (hw : HW a0 Z) (a1 : Addr) (h0 : Heap) (n0 : Nat) (O : Old Z n0 h0) :
    Con l Z (⟨"java/lang/Record", "<init>", "()V"⟩ : MethodName) jdk_30_method_1_code 1 none ({ frames := 1, cells := 0, slots := 0, locals := 12 } : Room) #[(.ref a1)] h0 (fun v h L => v = none ∧ Fr n0 L ∧ h = h0) := by
  refine own_startC opn_8 ?_
  intro p e s m below meth c T0 X0 hx hby hml hZ hown hnm hret hlk e0
  have N := Fr.nil n0; have K := Keep.refl h0 []
  refine OG.cast (oef7 m a1) ?_
  refine og_aloadN (pc' := 1) X0 hx rfl rfl (hb hby d8_0) rfl ?_
  refine og_initO (pc' := 4) X0 hx hZ (W := 0) (by rw [hml]; rfl) hown (ow41 hw) (ow24 hw) (ow25 hw) e0 rfl (by decide) (by decide) (hb hby d8_1) rfl (fun T11 X11 e11 => ?_)
  refine og_retV X11 hx hlk hret (hb hby d8_4) (by decide) (by decide) ?_
  rw [e11]; exact ⟨rfl, N, rfl⟩
theorem rm_rnn (l : Launch) (Z : State) (a0 : Array Value) (hw : HW a0 Z) (a1 a2 : Addr) (h0 : Heap) (n0 : Nat) (O : Old Z n0 h0) :
    Con l Z (⟨"java/util/Objects", "requireNonNull", "(Ljava/lang/Object;Ljava/lang/String;)Ljava/lang/Object;"⟩ : MethodName) jdk_31_method_11_code 2 (some (.object "java/lang/Object")) ({ frames := 0, cells := 0, slots := 0, locals := 0 } : Room) #[(.ref a1), (.ref a2)] h0 (fun v h L => v = some (.ref a1) ∧ Fr n0 L ∧ h = h0) := by
  refine own_startC opn_9 ?_
  intro p e s m below meth c T0 X0 hx hby hml hZ hown hnm hret hlk e0
  have N := Fr.nil n0; have K := Keep.refl h0 []
  refine OG.cast (oef6 m a1 a2) ?_
  refine og_aloadN (pc' := 1) X0 hx rfl rfl (hb hby d9_0) rfl ?_
  refine og_ifnonnull (pc1 := 13) (pc2 := 4) X0 hx rfl (hb hby d9_1) (by decide) (by decide) rfl (fun _ => ?_) (fun q => absurd q nofun)
  refine og_aloadN (pc' := 14) X0 hx rfl rfl (hb hby d9_13) rfl ?_
  refine og_retR X0 hx hlk hret rfl rfl rfl (hb hby d9_14) (by decide) (by decide) ?_
  rw [e0]; exact ⟨rfl, N, rfl⟩
theorem rm_emp (l : Launch) (Z : State) (a0 : Array Value) (hw : HW a0 Z) (a1 ba : Addr) (kb : ClassId) (nn : Int32) (vs : List Value) (hn : ¬ nn = 0) (h0 : Heap) (n0 : Nat) (O : Old Z n0 h0) (E_a1 : Exa Z h0 a1 "java/lang/String") (F_value_a1 : Fld Z h0 a1 "java/lang/String" "value" "[B" (.ref ba)) (F_coder_a1 : Fld Z h0 a1 "java/lang/String" "coder" "B" (.int (0 : Int32))) (V_ba : Arv Z h0 ba kb .byte nn vs (.int (0 : Int32))) :
    Con l Z (⟨"java/lang/String", "isEmpty", "()Z"⟩ : MethodName) jdk_42_method_55_code 1 (some .boolean) ({ frames := 0, cells := 0, slots := 0, locals := 0 } : Room) #[(.ref a1)] h0 (fun v h L => v = some (.int (0 : Int32)) ∧ Fr n0 L ∧ h = h0) := by
  refine own_startC opn_10 ?_
  intro p e s m below meth c T0 X0 hx hby hml hZ hown hnm hret hlk e0
  have N := Fr.nil n0; have K := Keep.refl h0 []
  refine OG.cast (oef7 m a1) ?_
  refine og_aloadN (pc' := 1) X0 hx rfl rfl (hb hby d10_0) rfl ?_
  refine og_getfield (pc' := 4) X0 hx hZ (host := "") hown (Or.inl (ow26 hw)) Via.refl e0 F_value_a1 (hb hby d10_1) rfl (fun T11 X11 e11 => ?_)
  refine og_arraylength (pc' := 5) X11 hx hZ e11 V_ba (hb hby d10_4) rfl ?_
  refine og_if_ne (pc1 := 12) (pc2 := 8) X11 hx (hb hby d10_5) (by decide) (by decide) rfl (fun _ => ?_) (fun q => absurd q hn)
  refine og_iconst (pc' := 13) (v := (0 : Int32)) X11 hx rfl (hb hby d10_12) rfl ?_
  refine og_retN X11 hx hlk hret (by simp) (hb hby d10_13) (by decide) (by decide) ?_
  rw [e11]; exact ⟨rfl, N, rfl⟩
theorem oef12 (m : MethodId) (x0 : Addr) (x1 : Addr) (x2 : Addr) : entryFrame m #[(.ref x0), (.ref x1), (.ref x2)] 3 = mkF m 0 #[.val (.ref x0), .val (.ref x1), .val (.ref x2)] [] := by first | (simp [entryFrame, mkF, argsToLocals, Value.category]; done) | rfl
theorem rm_tn (l : Launch) (Z : State) (a0 : Array Value) (hw : HW a0 Z) (t1 s1 s2 b1 b2 : Addr) (k1 k2 : ClassId) (m1 m2 : Int32) (vs1 vs2 : List Value) (hn1 : ¬ m1 = 0) (hn2 : ¬ m2 = 0) (h0 : Heap) (n0 : Nat) (O : Old Z n0 h0) (hEL : EW Z a0 own_EL) (E_t1 : Exa Z h0 t1 "com/example/tombstone/tombstone/config/TableName") (F_schema_t1 : Fld Z h0 t1 "com/example/tombstone/tombstone/config/TableName" "schema" "Ljava/lang/String;" .null) (F_name_t1 : Fld Z h0 t1 "com/example/tombstone/tombstone/config/TableName" "name" "Ljava/lang/String;" .null) (E_s1 : Exa Z h0 s1 "java/lang/String") (F_value_s1 : Fld Z h0 s1 "java/lang/String" "value" "[B" (.ref b1)) (F_coder_s1 : Fld Z h0 s1 "java/lang/String" "coder" "B" (.int (0 : Int32))) (V_b1 : Arv Z h0 b1 k1 .byte m1 vs1 (.int (0 : Int32))) (E_s2 : Exa Z h0 s2 "java/lang/String") (F_value_s2 : Fld Z h0 s2 "java/lang/String" "value" "[B" (.ref b2)) (F_coder_s2 : Fld Z h0 s2 "java/lang/String" "coder" "B" (.int (0 : Int32))) (V_b2 : Arv Z h0 b2 k2 .byte m2 vs2 (.int (0 : Int32))) (g_t1 : n0 ≤ t1) (ne_s1_t1 : s1 ≠ t1) (ne_s2_t1 : s2 ≠ t1) (ne_b1_t1 : b1 ≠ t1) (ne_b2_t1 : b2 ≠ t1) :
    ConW l Z own_EL [] (⟨"com/example/tombstone/tombstone/config/TableName", "<init>", "(Ljava/lang/String;Ljava/lang/String;)V"⟩ : MethodName) prog_8_method_1_code 3 none ({ frames := 2, cells := 4, slots := 48, locals := 24 } : Room) #[(.ref t1), (.ref s1), (.ref s2)] h0 (fun v h L => v = none ∧ Fr n0 L ∧ Keep h0 h [t1] ∧ Fld Z h t1 "com/example/tombstone/tombstone/config/TableName" "schema" "Ljava/lang/String;" (.ref s1) ∧ Fld Z h t1 "com/example/tombstone/tombstone/config/TableName" "name" "Ljava/lang/String;" (.ref s2)) := by
  refine own_startWC opn_7 ?_
  intro p e s m below meth c T0 X0 hx hby hml hZ hown hnm hret hlk e0 es hS CR hsf
  have N := Fr.nil n0; have K := Keep.refl h0 [t1]; have hk := Nat.le_refl h0.size
  refine OG.cast (oef12 m t1 s1 s2) ?_
  refine og_aloadN (pc' := 1) X0 hx rfl rfl (hb hby d7_0) rfl ?_
  refine og_special (pc' := 4) (cells' := 0) (slots' := 0) (W := 0) X0 hx hZ (rm_rec l Z a0 hw t1 h0 n0 O) rfl hown (ow36 hw) (ow37 hw) (ow39 hw) (ow40 hw) (by decide) (by rw [hml]; rfl) e0 opd_13 [] [] rfl rfl rfl rfl (by decide) (by decide) rfl rfl (by decide) (by decide) (hb hby d7_1) rfl (fun v11 T11 h11 L11 X11 e11 z11 => ?_)
  obtain ⟨rfl, Nq11, hq11⟩ := z11; replace e11 := e11.trans hq11; have N := Fr.app N Nq11
  show OG p e below _ (T11.setTop (mkF m 4 #[.val (.ref t1), .val (.ref s1), .val (.ref s2)] []))
  refine og_aloadN (pc' := 5) X11 hx rfl rfl (hb hby d7_4) rfl ?_
  refine og_ldcO (pc' := 7) (cells' := 2) (slots' := 28) (n := 24) X11 hx hZ hown (hw _ (List.mem_of_getElem? (i := 42) rfl)) (own_wS hw) e11 hS hk hEL CR.1 (by decide) (by decide) (hb hby d7_5) rfl rfl rfl (by decide) (by decide) (fun na12 T12 h12 kk12 X12 e12 E12 hS hk hZ hown cr12 => ?_)
  have E_t1 := E_t1.ext E12; have F_schema_t1 := F_schema_t1.ext E12; have F_name_t1 := F_name_t1.ext E12; have E_s1 := E_s1.ext E12; have F_value_s1 := F_value_s1.ext E12; have F_coder_s1 := F_coder_s1.ext E12
  have V_b1 := V_b1.ext E12; have E_s2 := E_s2.ext E12; have F_value_s2 := F_value_s2.ext E12; have F_coder_s2 := F_coder_s2.ext E12; have V_b2 := V_b2.ext E12; have O := O.ext E12
  have K := K.ext E12; have CR := CR.trans cr12
  refine og_static (pc' := 10) (cells' := 2) (slots' := 28) (W := 0) X12 hx hZ (rm_rnn l Z a0 hw s1 na12 h12 n0 O) hown (ow45 hw) (ow46 hw) (ow47 hw) (ow48 hw) (by decide) (by rw [hml]; rfl) e12 opd_14 [(.ref s1), (.ref na12)] [] rfl rfl rfl rfl (by decide) (by decide) rfl rfl (by decide) (by decide) (hb hby d7_7) rfl (fun v13 T13 h13 L13 X13 e13 z13 => ?_)
  obtain ⟨rfl, Nq13, hq13⟩ := z13; replace e13 := e13.trans hq13; have N := Fr.app N Nq13
  show OG p e below _ (T13.setTop (mkF m 10 #[.val (.ref t1), .val (.ref s1), .val (.ref s2)] [(.ref s1)]))
  refine og_pop (pc' := 11) X13 hx rfl (hb hby d7_10) rfl ?_
  refine og_aloadN (pc' := 12) X13 hx rfl rfl (hb hby d7_11) rfl ?_
  refine og_ldcO (pc' := 14) (cells' := 4) (slots' := 48) (n := 16) X13 hx hZ hown (hw _ (List.mem_of_getElem? (i := 49) rfl)) (own_wS hw) e13 hS hk hEL CR.1 (by decide) (by decide) (hb hby d7_12) rfl rfl rfl (by decide) (by decide) (fun na14 T14 h14 kk14 X14 e14 E14 hS hk hZ hown cr14 => ?_)
  have E_t1 := E_t1.ext E14; have F_schema_t1 := F_schema_t1.ext E14; have F_name_t1 := F_name_t1.ext E14; have E_s1 := E_s1.ext E14; have F_value_s1 := F_value_s1.ext E14; have F_coder_s1 := F_coder_s1.ext E14
  have V_b1 := V_b1.ext E14; have E_s2 := E_s2.ext E14; have F_value_s2 := F_value_s2.ext E14; have F_coder_s2 := F_coder_s2.ext E14; have V_b2 := V_b2.ext E14; have O := O.ext E14
  have K := K.ext E14; have CR := CR.trans cr14
  refine og_static (pc' := 17) (cells' := 4) (slots' := 48) (W := 0) X14 hx hZ (rm_rnn l Z a0 hw s2 na14 h14 n0 O) hown (ow45 hw) (ow46 hw) (ow47 hw) (ow48 hw) (by decide) (by rw [hml]; rfl) e14 opd_14 [(.ref s2), (.ref na14)] [] rfl rfl rfl rfl (by decide) (by decide) rfl rfl (by decide) (by decide) (hb hby d7_14) rfl (fun v15 T15 h15 L15 X15 e15 z15 => ?_)
  obtain ⟨rfl, Nq15, hq15⟩ := z15; replace e15 := e15.trans hq15; have N := Fr.app N Nq15
  show OG p e below _ (T15.setTop (mkF m 17 #[.val (.ref t1), .val (.ref s1), .val (.ref s2)] [(.ref s2)]))
  refine og_pop (pc' := 18) X15 hx rfl (hb hby d7_17) rfl ?_
  refine og_aloadN (pc' := 19) X15 hx rfl rfl (hb hby d7_18) rfl ?_
  refine og_virtual (pc' := 22) (cells' := 4) (slots' := 48) (W := 0) X15 hx hZ (rm_emp l Z a0 hw s1 b1 k1 m1 _ hn1 h14 n0 O E_s1 F_value_s1 F_coder_s1 V_b1) hown (ow50 hw) (ow51 hw) (own_nf hZ (ow53 hw)) (ow53 hw) (ow52 hw) (ow6 hw) (ow54 hw) (by decide) (by rw [hml]; rfl) e15 opd_11 [] [] rfl rfl rfl rfl (by decide) (by decide) rfl rfl (by decide) (by decide) E_s1 (hb hby d7_19) rfl (fun v16 T16 h16 L16 X16 e16 z16 => ?_)
  obtain ⟨rfl, Nq16, hq16⟩ := z16; replace e16 := e16.trans hq16; have N := Fr.app N Nq16
  show OG p e below _ (T16.setTop (mkF m 22 #[.val (.ref t1), .val (.ref s1), .val (.ref s2)] [(.int (0 : Int32))]))
  refine og_if_ne (pc1 := 32) (pc2 := 25) X16 hx (hb hby d7_22) (by decide) (by decide) rfl (fun q => absurd q (by decide)) (fun _ => ?_)
  refine og_aloadN (pc' := 26) X16 hx rfl rfl (hb hby d7_25) rfl ?_
  refine og_virtual (pc' := 29) (cells' := 4) (slots' := 48) (W := 0) X16 hx hZ (rm_emp l Z a0 hw s2 b2 k2 m2 _ hn2 h14 n0 O E_s2 F_value_s2 F_coder_s2 V_b2) hown (ow50 hw) (ow51 hw) (own_nf hZ (ow53 hw)) (ow53 hw) (ow52 hw) (ow6 hw) (ow54 hw) (by decide) (by rw [hml]; rfl) e16 opd_11 [] [] rfl rfl rfl rfl (by decide) (by decide) rfl rfl (by decide) (by decide) E_s2 (hb hby d7_26) rfl (fun v17 T17 h17 L17 X17 e17 z17 => ?_)
  obtain ⟨rfl, Nq17, hq17⟩ := z17; replace e17 := e17.trans hq17; have N := Fr.app N Nq17
  show OG p e below _ (T17.setTop (mkF m 29 #[.val (.ref t1), .val (.ref s1), .val (.ref s2)] [(.int (0 : Int32))]))
  refine og_if_eq (pc1 := 42) (pc2 := 32) X17 hx (hb hby d7_29) (by decide) (by decide) rfl (fun _ => ?_) (fun q => absurd q (by decide))
  refine og_aloadN (pc' := 43) X17 hx rfl rfl (hb hby d7_42) rfl ?_
  refine og_aloadN (pc' := 44) X17 hx rfl rfl (hb hby d7_43) rfl ?_
  refine og_putfield (pc' := 47) X17 hx hZ (ty := (.object "java/lang/String")) (host := "") hown (Or.inl (ow55 hw)) Via.refl e17 F_schema_t1 E_t1 (Or.inr ⟨(ow56 hw), rfl, hnm⟩) (ow31 hw) (by decide) rfl rfl (hb hby d7_44) rfl (fun T18 h18 X18 e18 W18 => ?_)
  have F_schema_t1_ := F_schema_t1.same W18
  have sf18 : Safe Z own_EL T14.vm h14 t1 := own_safe0; have E_t1 := E_t1.wr W18; have F_name_t1 := F_name_t1.other W18 (Or.inr (slot_ne (Or.inr (ow58 hw)) (Or.inr (ow56 hw)) (by decide) (t := (.object "java/lang/String")) (t' := (.object "java/lang/String")) (by decide) (by decide))); have E_s1 := E_s1.wr W18; have F_value_s1 := F_value_s1.other W18 (Or.inl ne_s1_t1); have F_coder_s1 := F_coder_s1.other W18 (Or.inl ne_s1_t1)
  have V_b1 := V_b1.other W18 ne_b1_t1; have E_s2 := E_s2.wr W18; have F_value_s2 := F_value_s2.other W18 (Or.inl ne_s2_t1); have F_coder_s2 := F_coder_s2.other W18 (Or.inl ne_s2_t1); have V_b2 := V_b2.other W18 ne_b2_t1; have O := O.wr W18 g_t1
  have K := K.wr W18 (Or.inl (List.mem_of_getElem? (i := 0) rfl)); have hk := Nat.le_trans hk (Keep.of_wr W18).1; have CR := CR.trans (CHr.wr W18 sf18 CR.1)
  have N := Fr.snoc X18 N g_t1; have F_schema_t1 := F_schema_t1_
  refine og_aloadN (pc' := 48) X18 hx rfl rfl (hb hby d7_47) rfl ?_
  refine og_aloadN (pc' := 49) X18 hx rfl rfl (hb hby d7_48) rfl ?_
  refine og_putfield (pc' := 52) X18 hx hZ (ty := (.object "java/lang/String")) (host := "") hown (Or.inl (ow57 hw)) Via.refl e18 F_name_t1 E_t1 (Or.inr ⟨(ow58 hw), rfl, hnm⟩) (ow31 hw) (by decide) rfl rfl (hb hby d7_49) rfl (fun T19 h19 X19 e19 W19 => ?_)
  have F_name_t1_ := F_name_t1.same W19
  have sf19 : Safe Z own_EL T14.vm h18 t1 := own_safe0; have E_t1 := E_t1.wr W19; have E_s1 := E_s1.wr W19; have F_value_s1 := F_value_s1.other W19 (Or.inl ne_s1_t1); have F_coder_s1 := F_coder_s1.other W19 (Or.inl ne_s1_t1); have V_b1 := V_b1.other W19 ne_b1_t1
  have E_s2 := E_s2.wr W19; have F_value_s2 := F_value_s2.other W19 (Or.inl ne_s2_t1); have F_coder_s2 := F_coder_s2.other W19 (Or.inl ne_s2_t1); have V_b2 := V_b2.other W19 ne_b2_t1; have F_schema_t1 := F_schema_t1.other W19 (Or.inr (slot_ne (Or.inr (ow56 hw)) (Or.inr (ow58 hw)) (by decide) (t := (.object "java/lang/String")) (t' := (.object "java/lang/String")) (by decide) (by decide))); have O := O.wr W19 g_t1
  have K := K.wr W19 (Or.inl (List.mem_of_getElem? (i := 0) rfl)); have hk := Nat.le_trans hk (Keep.of_wr W19).1; have CR := CR.trans (CHr.wr W19 sf19 CR.1)
  have N := Fr.snoc X19 N g_t1; have F_name_t1 := F_name_t1_
  refine og_retVW X19 hx hZ hlk hEL hS e19 es hk CR hret (hb hby d7_52) (by decide) (by decide) ?_
  rw [e19]; exact ⟨rfl, N, K, F_schema_t1, F_name_t1⟩
theorem rm_w11 (l : Launch) (Z : State) (a0 : Array Value) (hw : HW a0 Z) (t1 s1 s2 b1 b2 : Addr) (k1 k2 : ClassId) (x0 y0 : Int32) (hx0 : 0 ≤ x0.toInt ∧ x0.toInt ≤ 255) (hy0 : 0 ≤ y0.toInt ∧ y0.toInt ≤ 255) (cs : Int32) (hcs : ¬ cs = 0) (r : Int32) (hr : r = if (x0 = 46) ∨ (y0 = 46) then 0 else 1) (h0 : Heap) (n0 : Nat) (O : Old Z n0 h0) (F_schema_t1 : Fld Z h0 t1 "com/example/tombstone/tombstone/config/TableName" "schema" "Ljava/lang/String;" (.ref s1)) (F_name_t1 : Fld Z h0 t1 "com/example/tombstone/tombstone/config/TableName" "name" "Ljava/lang/String;" (.ref s2)) (E_s1 : Exa Z h0 s1 "java/lang/String") (F_value_s1 : Fld Z h0 s1 "java/lang/String" "value" "[B" (.ref b1)) (F_coder_s1 : Fld Z h0 s1 "java/lang/String" "coder" "B" (.int (0 : Int32))) (V_b1 : Arv Z h0 b1 k1 .byte (1 : Int32) [(.int x0.toInt8.toInt32)] (.int (0 : Int32))) (E_s2 : Exa Z h0 s2 "java/lang/String") (F_value_s2 : Fld Z h0 s2 "java/lang/String" "value" "[B" (.ref b2)) (F_coder_s2 : Fld Z h0 s2 "java/lang/String" "coder" "B" (.int (0 : Int32))) (V_b2 : Arv Z h0 b2 k2 .byte (1 : Int32) [(.int y0.toInt8.toInt32)] (.int (0 : Int32))) (S_CS : Sta Z Z.heap "java/lang/String" "COMPACT_STRINGS" "Z" (.int cs)) :
    Con l Z (⟨"com/example/tombstone/tombstone/config/TableName", "writable", "()Z"⟩ : MethodName) prog_8_method_4_code 1 (some .boolean) ({ frames := 4, cells := 0, slots := 0, locals := 59 } : Room) #[(.ref t1)] h0 (fun v h L => v = some (.int r) ∧ Fr n0 L ∧ h = h0) := by
  refine own_startC opn_11 ?_
  intro p e s m below meth c T0 X0 hx hby hml hZ hown hnm hret hlk e0
  have N := Fr.nil n0; have K := Keep.refl h0 []
  refine OG.cast (oef7 m t1) ?_
  refine og_aloadN (pc' := 1) X0 hx rfl rfl (hb hby d11_0) rfl ?_
  refine og_getfield (pc' := 4) X0 hx hZ (host := "") hown (Or.inl (ow55 hw)) Via.refl e0 F_schema_t1 (hb hby d11_1) rfl (fun T11 X11 e11 => ?_)
  refine og_bipush (pc' := 6) (v := (46 : Int32)) X11 hx rfl (hb hby d11_4) rfl ?_
  refine og_virtual (pc' := 9) (cells' := 0) (slots' := 0) (W := 0) X11 hx hZ (rm_ix1 l Z a0 hw s1 b1 k1 x0 hx0 cs hcs h0 n0 O E_s1 F_value_s1 F_coder_s1 V_b1 S_CS) hown (ow64 hw) (ow65 hw) (own_nf hZ (ow67 hw)) (ow67 hw) (ow66 hw) (ow6 hw) (ow68 hw) (by decide) (by rw [hml]; rfl) e11 opd_15 [(.int (46 : Int32))] [] rfl rfl rfl rfl (by decide) (by decide) rfl rfl (by decide) (by decide) E_s1 (hb hby d11_6) rfl (fun v12 T12 h12 L12 X12 e12 z12 => ?_)
  obtain ⟨iv12, rfl, Nq12, hq12, hiv1⟩ := z12; replace e12 := e12.trans hq12; have N := Fr.app N Nq12
  show OG p e below _ (T12.setTop (mkF m 9 #[.val (.ref t1)] [(.int iv12)]))
  refine og_if_ge (pc1 := 28) (pc2 := 12) X12 hx (hb hby d11_9) (by decide) (by decide) rfl (fun hc9 => ?_) (fun hc9 => ?_)
  · -- pc 28
    refine og_iconst (pc' := 29) (v := (0 : Int32)) X12 hx rfl (hb hby d11_28) rfl ?_
    refine og_retN X12 hx hlk hret (by simp) (hb hby d11_29) (by decide) (by decide) ?_
    rw [e12]; refine ⟨?_, N, rfl⟩
    show some (Value.int (0 : Int32)) = _
    rw [hr, if_pos (Or.inl (Classical.byContradiction fun q => hc9 (hiv1.mpr q)))]
  · -- pc 12
    refine og_aloadN (pc' := 13) X12 hx rfl rfl (hb hby d11_12) rfl ?_
    refine og_getfield (pc' := 16) X12 hx hZ (host := "") hown (Or.inl (ow57 hw)) Via.refl e12 F_name_t1 (hb hby d11_13) rfl (fun T13 X13 e13 => ?_)
    refine og_bipush (pc' := 18) (v := (46 : Int32)) X13 hx rfl (hb hby d11_16) rfl ?_
    refine og_virtual (pc' := 21) (cells' := 0) (slots' := 0) (W := 0) X13 hx hZ (rm_ix1 l Z a0 hw s2 b2 k2 y0 hy0 cs hcs h0 n0 O E_s2 F_value_s2 F_coder_s2 V_b2 S_CS) hown (ow64 hw) (ow65 hw) (own_nf hZ (ow67 hw)) (ow67 hw) (ow66 hw) (ow6 hw) (ow68 hw) (by decide) (by rw [hml]; rfl) e13 opd_15 [(.int (46 : Int32))] [] rfl rfl rfl rfl (by decide) (by decide) rfl rfl (by decide) (by decide) E_s2 (hb hby d11_18) rfl (fun v14 T14 h14 L14 X14 e14 z14 => ?_)
    obtain ⟨iv14, rfl, Nq14, hq14, hiv2⟩ := z14; replace e14 := e14.trans hq14; have N := Fr.app N Nq14
    show OG p e below _ (T14.setTop (mkF m 21 #[.val (.ref t1)] [(.int iv14)]))
    refine og_if_ge (pc1 := 28) (pc2 := 24) X14 hx (hb hby d11_21) (by decide) (by decide) rfl (fun hc21 => ?_) (fun hc21 => ?_)
    · -- pc 28
      refine og_iconst (pc' := 29) (v := (0 : Int32)) X14 hx rfl (hb hby d11_28) rfl ?_
      refine og_retN X14 hx hlk hret (by simp) (hb hby d11_29) (by decide) (by decide) ?_
      rw [e14]; refine ⟨?_, N, rfl⟩
      show some (Value.int (0 : Int32)) = _
      rw [hr, if_pos (Or.inr (Classical.byContradiction fun q => hc21 (hiv2.mpr q)))]
    · -- pc 24
      refine og_iconst (pc' := 25) (v := (1 : Int32)) X14 hx rfl (hb hby d11_24) rfl ?_
      refine og_goto (pc' := 29) X14 hx (hb hby d11_25) (by decide) (by decide) ?_
      refine og_retN X14 hx hlk hret (by simp) (hb hby d11_29) (by decide) (by decide) ?_
      rw [e14]; refine ⟨?_, N, rfl⟩
      show some (Value.int (1 : Int32)) = _
      rw [hr, if_neg]
      rintro (q | q)
      · exact (hiv1.mp hc9) q
      · exact (hiv2.mp hc21) q
theorem rm_w12 (l : Launch) (Z : State) (a0 : Array Value) (hw : HW a0 Z) (t1 s1 s2 b1 b2 : Addr) (k1 k2 : ClassId) (x0 y0 y1 : Int32) (hx0 : 0 ≤ x0.toInt ∧ x0.toInt ≤ 255) (hy0 : 0 ≤ y0.toInt ∧ y0.toInt ≤ 255) (hy1 : 0 ≤ y1.toInt ∧ y1.toInt ≤ 255) (cs : Int32) (hcs : ¬ cs = 0) (r : Int32) (hr : r = if (x0 = 46) ∨ (y0 = 46 ∨ y1 = 46) then 0 else 1) (h0 : Heap) (n0 : Nat) (O : Old Z n0 h0) (F_schema_t1 : Fld Z h0 t1 "com/example/tombstone/tombstone/config/TableName" "schema" "Ljava/lang/String;" (.ref s1)) (F_name_t1 : Fld Z h0 t1 "com/example/tombstone/tombstone/config/TableName" "name" "Ljava/lang/String;" (.ref s2)) (E_s1 : Exa Z h0 s1 "java/lang/String") (F_value_s1 : Fld Z h0 s1 "java/lang/String" "value" "[B" (.ref b1)) (F_coder_s1 : Fld Z h0 s1 "java/lang/String" "coder" "B" (.int (0 : Int32))) (V_b1 : Arv Z h0 b1 k1 .byte (1 : Int32) [(.int x0.toInt8.toInt32)] (.int (0 : Int32))) (E_s2 : Exa Z h0 s2 "java/lang/String") (F_value_s2 : Fld Z h0 s2 "java/lang/String" "value" "[B" (.ref b2)) (F_coder_s2 : Fld Z h0 s2 "java/lang/String" "coder" "B" (.int (0 : Int32))) (V_b2 : Arv Z h0 b2 k2 .byte (2 : Int32) [(.int y0.toInt8.toInt32), (.int y1.toInt8.toInt32)] (.int (0 : Int32))) (S_CS : Sta Z Z.heap "java/lang/String" "COMPACT_STRINGS" "Z" (.int cs)) :
    Con l Z (⟨"com/example/tombstone/tombstone/config/TableName", "writable", "()Z"⟩ : MethodName) prog_8_method_4_code 1 (some .boolean) ({ frames := 4, cells := 0, slots := 0, locals := 59 } : Room) #[(.ref t1)] h0 (fun v h L => v = some (.int r) ∧ Fr n0 L ∧ h = h0) := by
  refine own_startC opn_11 ?_
  intro p e s m below meth c T0 X0 hx hby hml hZ hown hnm hret hlk e0
  have N := Fr.nil n0; have K := Keep.refl h0 []
  refine OG.cast (oef7 m t1) ?_
  refine og_aloadN (pc' := 1) X0 hx rfl rfl (hb hby d11_0) rfl ?_
  refine og_getfield (pc' := 4) X0 hx hZ (host := "") hown (Or.inl (ow55 hw)) Via.refl e0 F_schema_t1 (hb hby d11_1) rfl (fun T11 X11 e11 => ?_)
  refine og_bipush (pc' := 6) (v := (46 : Int32)) X11 hx rfl (hb hby d11_4) rfl ?_
  refine og_virtual (pc' := 9) (cells' := 0) (slots' := 0) (W := 0) X11 hx hZ (rm_ix1 l Z a0 hw s1 b1 k1 x0 hx0 cs hcs h0 n0 O E_s1 F_value_s1 F_coder_s1 V_b1 S_CS) hown (ow64 hw) (ow65 hw) (own_nf hZ (ow67 hw)) (ow67 hw) (ow66 hw) (ow6 hw) (ow68 hw) (by decide) (by rw [hml]; rfl) e11 opd_15 [(.int (46 : Int32))] [] rfl rfl rfl rfl (by decide) (by decide) rfl rfl (by decide) (by decide) E_s1 (hb hby d11_6) rfl (fun v12 T12 h12 L12 X12 e12 z12 => ?_)
  obtain ⟨iv12, rfl, Nq12, hq12, hiv1⟩ := z12; replace e12 := e12.trans hq12; have N := Fr.app N Nq12
  show OG p e below _ (T12.setTop (mkF m 9 #[.val (.ref t1)] [(.int iv12)]))
  refine og_if_ge (pc1 := 28) (pc2 := 12) X12 hx (hb hby d11_9) (by decide) (by decide) rfl (fun hc9 => ?_) (fun hc9 => ?_)
  · -- pc 28
    refine og_iconst (pc' := 29) (v := (0 : Int32)) X12 hx rfl (hb hby d11_28) rfl ?_
    refine og_retN X12 hx hlk hret (by simp) (hb hby d11_29) (by decide) (by decide) ?_
    rw [e12]; refine ⟨?_, N, rfl⟩
    show some (Value.int (0 : Int32)) = _
    rw [hr, if_pos (Or.inl (Classical.byContradiction fun q => hc9 (hiv1.mpr q)))]
  · -- pc 12
    refine og_aloadN (pc' := 13) X12 hx rfl rfl (hb hby d11_12) rfl ?_
    refine og_getfield (pc' := 16) X12 hx hZ (host := "") hown (Or.inl (ow57 hw)) Via.refl e12 F_name_t1 (hb hby d11_13) rfl (fun T13 X13 e13 => ?_)
    refine og_bipush (pc' := 18) (v := (46 : Int32)) X13 hx rfl (hb hby d11_16) rfl ?_
    refine og_virtual (pc' := 21) (cells' := 0) (slots' := 0) (W := 0) X13 hx hZ (rm_ix2 l Z a0 hw s2 b2 k2 y0 y1 hy0 hy1 cs hcs h0 n0 O E_s2 F_value_s2 F_coder_s2 V_b2 S_CS) hown (ow64 hw) (ow65 hw) (own_nf hZ (ow67 hw)) (ow67 hw) (ow66 hw) (ow6 hw) (ow68 hw) (by decide) (by rw [hml]; rfl) e13 opd_15 [(.int (46 : Int32))] [] rfl rfl rfl rfl (by decide) (by decide) rfl rfl (by decide) (by decide) E_s2 (hb hby d11_18) rfl (fun v14 T14 h14 L14 X14 e14 z14 => ?_)
    obtain ⟨iv14, rfl, Nq14, hq14, hiv2⟩ := z14; replace e14 := e14.trans hq14; have N := Fr.app N Nq14
    show OG p e below _ (T14.setTop (mkF m 21 #[.val (.ref t1)] [(.int iv14)]))
    refine og_if_ge (pc1 := 28) (pc2 := 24) X14 hx (hb hby d11_21) (by decide) (by decide) rfl (fun hc21 => ?_) (fun hc21 => ?_)
    · -- pc 28
      refine og_iconst (pc' := 29) (v := (0 : Int32)) X14 hx rfl (hb hby d11_28) rfl ?_
      refine og_retN X14 hx hlk hret (by simp) (hb hby d11_29) (by decide) (by decide) ?_
      rw [e14]; refine ⟨?_, N, rfl⟩
      show some (Value.int (0 : Int32)) = _
      rw [hr, if_pos (Or.inr (Classical.byContradiction fun q => hc21 (hiv2.mpr q)))]
    · -- pc 24
      refine og_iconst (pc' := 25) (v := (1 : Int32)) X14 hx rfl (hb hby d11_24) rfl ?_
      refine og_goto (pc' := 29) X14 hx (hb hby d11_25) (by decide) (by decide) ?_
      refine og_retN X14 hx hlk hret (by simp) (hb hby d11_29) (by decide) (by decide) ?_
      rw [e14]; refine ⟨?_, N, rfl⟩
      show some (Value.int (1 : Int32)) = _
      rw [hr, if_neg]
      rintro (q | q)
      · exact (hiv1.mp hc9) q
      · exact (hiv2.mp hc21) q
theorem rm_w21 (l : Launch) (Z : State) (a0 : Array Value) (hw : HW a0 Z) (t1 s1 s2 b1 b2 : Addr) (k1 k2 : ClassId) (x0 x1 y0 : Int32) (hx0 : 0 ≤ x0.toInt ∧ x0.toInt ≤ 255) (hx1 : 0 ≤ x1.toInt ∧ x1.toInt ≤ 255) (hy0 : 0 ≤ y0.toInt ∧ y0.toInt ≤ 255) (cs : Int32) (hcs : ¬ cs = 0) (r : Int32) (hr : r = if (x0 = 46 ∨ x1 = 46) ∨ (y0 = 46) then 0 else 1) (h0 : Heap) (n0 : Nat) (O : Old Z n0 h0) (F_schema_t1 : Fld Z h0 t1 "com/example/tombstone/tombstone/config/TableName" "schema" "Ljava/lang/String;" (.ref s1)) (F_name_t1 : Fld Z h0 t1 "com/example/tombstone/tombstone/config/TableName" "name" "Ljava/lang/String;" (.ref s2)) (E_s1 : Exa Z h0 s1 "java/lang/String") (F_value_s1 : Fld Z h0 s1 "java/lang/String" "value" "[B" (.ref b1)) (F_coder_s1 : Fld Z h0 s1 "java/lang/String" "coder" "B" (.int (0 : Int32))) (V_b1 : Arv Z h0 b1 k1 .byte (2 : Int32) [(.int x0.toInt8.toInt32), (.int x1.toInt8.toInt32)] (.int (0 : Int32))) (E_s2 : Exa Z h0 s2 "java/lang/String") (F_value_s2 : Fld Z h0 s2 "java/lang/String" "value" "[B" (.ref b2)) (F_coder_s2 : Fld Z h0 s2 "java/lang/String" "coder" "B" (.int (0 : Int32))) (V_b2 : Arv Z h0 b2 k2 .byte (1 : Int32) [(.int y0.toInt8.toInt32)] (.int (0 : Int32))) (S_CS : Sta Z Z.heap "java/lang/String" "COMPACT_STRINGS" "Z" (.int cs)) :
    Con l Z (⟨"com/example/tombstone/tombstone/config/TableName", "writable", "()Z"⟩ : MethodName) prog_8_method_4_code 1 (some .boolean) ({ frames := 4, cells := 0, slots := 0, locals := 59 } : Room) #[(.ref t1)] h0 (fun v h L => v = some (.int r) ∧ Fr n0 L ∧ h = h0) := by
  refine own_startC opn_11 ?_
  intro p e s m below meth c T0 X0 hx hby hml hZ hown hnm hret hlk e0
  have N := Fr.nil n0; have K := Keep.refl h0 []
  refine OG.cast (oef7 m t1) ?_
  refine og_aloadN (pc' := 1) X0 hx rfl rfl (hb hby d11_0) rfl ?_
  refine og_getfield (pc' := 4) X0 hx hZ (host := "") hown (Or.inl (ow55 hw)) Via.refl e0 F_schema_t1 (hb hby d11_1) rfl (fun T11 X11 e11 => ?_)
  refine og_bipush (pc' := 6) (v := (46 : Int32)) X11 hx rfl (hb hby d11_4) rfl ?_
  refine og_virtual (pc' := 9) (cells' := 0) (slots' := 0) (W := 0) X11 hx hZ (rm_ix2 l Z a0 hw s1 b1 k1 x0 x1 hx0 hx1 cs hcs h0 n0 O E_s1 F_value_s1 F_coder_s1 V_b1 S_CS) hown (ow64 hw) (ow65 hw) (own_nf hZ (ow67 hw)) (ow67 hw) (ow66 hw) (ow6 hw) (ow68 hw) (by decide) (by rw [hml]; rfl) e11 opd_15 [(.int (46 : Int32))] [] rfl rfl rfl rfl (by decide) (by decide) rfl rfl (by decide) (by decide) E_s1 (hb hby d11_6) rfl (fun v12 T12 h12 L12 X12 e12 z12 => ?_)
  obtain ⟨iv12, rfl, Nq12, hq12, hiv1⟩ := z12; replace e12 := e12.trans hq12; have N := Fr.app N Nq12
  show OG p e below _ (T12.setTop (mkF m 9 #[.val (.ref t1)] [(.int iv12)]))
  refine og_if_ge (pc1 := 28) (pc2 := 12) X12 hx (hb hby d11_9) (by decide) (by decide) rfl (fun hc9 => ?_) (fun hc9 => ?_)
  · -- pc 28
    refine og_iconst (pc' := 29) (v := (0 : Int32)) X12 hx rfl (hb hby d11_28) rfl ?_
    refine og_retN X12 hx hlk hret (by simp) (hb hby d11_29) (by decide) (by decide) ?_
    rw [e12]; refine ⟨?_, N, rfl⟩
    show some (Value.int (0 : Int32)) = _
    rw [hr, if_pos (Or.inl (Classical.byContradiction fun q => hc9 (hiv1.mpr q)))]
  · -- pc 12
    refine og_aloadN (pc' := 13) X12 hx rfl rfl (hb hby d11_12) rfl ?_
    refine og_getfield (pc' := 16) X12 hx hZ (host := "") hown (Or.inl (ow57 hw)) Via.refl e12 F_name_t1 (hb hby d11_13) rfl (fun T13 X13 e13 => ?_)
    refine og_bipush (pc' := 18) (v := (46 : Int32)) X13 hx rfl (hb hby d11_16) rfl ?_
    refine og_virtual (pc' := 21) (cells' := 0) (slots' := 0) (W := 0) X13 hx hZ (rm_ix1 l Z a0 hw s2 b2 k2 y0 hy0 cs hcs h0 n0 O E_s2 F_value_s2 F_coder_s2 V_b2 S_CS) hown (ow64 hw) (ow65 hw) (own_nf hZ (ow67 hw)) (ow67 hw) (ow66 hw) (ow6 hw) (ow68 hw) (by decide) (by rw [hml]; rfl) e13 opd_15 [(.int (46 : Int32))] [] rfl rfl rfl rfl (by decide) (by decide) rfl rfl (by decide) (by decide) E_s2 (hb hby d11_18) rfl (fun v14 T14 h14 L14 X14 e14 z14 => ?_)
    obtain ⟨iv14, rfl, Nq14, hq14, hiv2⟩ := z14; replace e14 := e14.trans hq14; have N := Fr.app N Nq14
    show OG p e below _ (T14.setTop (mkF m 21 #[.val (.ref t1)] [(.int iv14)]))
    refine og_if_ge (pc1 := 28) (pc2 := 24) X14 hx (hb hby d11_21) (by decide) (by decide) rfl (fun hc21 => ?_) (fun hc21 => ?_)
    · -- pc 28
      refine og_iconst (pc' := 29) (v := (0 : Int32)) X14 hx rfl (hb hby d11_28) rfl ?_
      refine og_retN X14 hx hlk hret (by simp) (hb hby d11_29) (by decide) (by decide) ?_
      rw [e14]; refine ⟨?_, N, rfl⟩
      show some (Value.int (0 : Int32)) = _
      rw [hr, if_pos (Or.inr (Classical.byContradiction fun q => hc21 (hiv2.mpr q)))]
    · -- pc 24
      refine og_iconst (pc' := 25) (v := (1 : Int32)) X14 hx rfl (hb hby d11_24) rfl ?_
      refine og_goto (pc' := 29) X14 hx (hb hby d11_25) (by decide) (by decide) ?_
      refine og_retN X14 hx hlk hret (by simp) (hb hby d11_29) (by decide) (by decide) ?_
      rw [e14]; refine ⟨?_, N, rfl⟩
      show some (Value.int (1 : Int32)) = _
      rw [hr, if_neg]
      rintro (q | q)
      · exact (hiv1.mp hc9) q
      · exact (hiv2.mp hc21) q
theorem rm_w22 (l : Launch) (Z : State) (a0 : Array Value) (hw : HW a0 Z) (t1 s1 s2 b1 b2 : Addr) (k1 k2 : ClassId) (x0 x1 y0 y1 : Int32) (hx0 : 0 ≤ x0.toInt ∧ x0.toInt ≤ 255) (hx1 : 0 ≤ x1.toInt ∧ x1.toInt ≤ 255) (hy0 : 0 ≤ y0.toInt ∧ y0.toInt ≤ 255) (hy1 : 0 ≤ y1.toInt ∧ y1.toInt ≤ 255) (cs : Int32) (hcs : ¬ cs = 0) (r : Int32) (hr : r = if (x0 = 46 ∨ x1 = 46) ∨ (y0 = 46 ∨ y1 = 46) then 0 else 1) (h0 : Heap) (n0 : Nat) (O : Old Z n0 h0) (F_schema_t1 : Fld Z h0 t1 "com/example/tombstone/tombstone/config/TableName" "schema" "Ljava/lang/String;" (.ref s1)) (F_name_t1 : Fld Z h0 t1 "com/example/tombstone/tombstone/config/TableName" "name" "Ljava/lang/String;" (.ref s2)) (E_s1 : Exa Z h0 s1 "java/lang/String") (F_value_s1 : Fld Z h0 s1 "java/lang/String" "value" "[B" (.ref b1)) (F_coder_s1 : Fld Z h0 s1 "java/lang/String" "coder" "B" (.int (0 : Int32))) (V_b1 : Arv Z h0 b1 k1 .byte (2 : Int32) [(.int x0.toInt8.toInt32), (.int x1.toInt8.toInt32)] (.int (0 : Int32))) (E_s2 : Exa Z h0 s2 "java/lang/String") (F_value_s2 : Fld Z h0 s2 "java/lang/String" "value" "[B" (.ref b2)) (F_coder_s2 : Fld Z h0 s2 "java/lang/String" "coder" "B" (.int (0 : Int32))) (V_b2 : Arv Z h0 b2 k2 .byte (2 : Int32) [(.int y0.toInt8.toInt32), (.int y1.toInt8.toInt32)] (.int (0 : Int32))) (S_CS : Sta Z Z.heap "java/lang/String" "COMPACT_STRINGS" "Z" (.int cs)) :
    Con l Z (⟨"com/example/tombstone/tombstone/config/TableName", "writable", "()Z"⟩ : MethodName) prog_8_method_4_code 1 (some .boolean) ({ frames := 4, cells := 0, slots := 0, locals := 59 } : Room) #[(.ref t1)] h0 (fun v h L => v = some (.int r) ∧ Fr n0 L ∧ h = h0) := by
  refine own_startC opn_11 ?_
  intro p e s m below meth c T0 X0 hx hby hml hZ hown hnm hret hlk e0
  have N := Fr.nil n0; have K := Keep.refl h0 []
  refine OG.cast (oef7 m t1) ?_
  refine og_aloadN (pc' := 1) X0 hx rfl rfl (hb hby d11_0) rfl ?_
  refine og_getfield (pc' := 4) X0 hx hZ (host := "") hown (Or.inl (ow55 hw)) Via.refl e0 F_schema_t1 (hb hby d11_1) rfl (fun T11 X11 e11 => ?_)
  refine og_bipush (pc' := 6) (v := (46 : Int32)) X11 hx rfl (hb hby d11_4) rfl ?_
  refine og_virtual (pc' := 9) (cells' := 0) (slots' := 0) (W := 0) X11 hx hZ (rm_ix2 l Z a0 hw s1 b1 k1 x0 x1 hx0 hx1 cs hcs h0 n0 O E_s1 F_value_s1 F_coder_s1 V_b1 S_CS) hown (ow64 hw) (ow65 hw) (own_nf hZ (ow67 hw)) (ow67 hw) (ow66 hw) (ow6 hw) (ow68 hw) (by decide) (by rw [hml]; rfl) e11 opd_15 [(.int (46 : Int32))] [] rfl rfl rfl rfl (by decide) (by decide) rfl rfl (by decide) (by decide) E_s1 (hb hby d11_6) rfl (fun v12 T12 h12 L12 X12 e12 z12 => ?_)
  obtain ⟨iv12, rfl, Nq12, hq12, hiv1⟩ := z12; replace e12 := e12.trans hq12; have N := Fr.app N Nq12
  show OG p e below _ (T12.setTop (mkF m 9 #[.val (.ref t1)] [(.int iv12)]))
  refine og_if_ge (pc1 := 28) (pc2 := 12) X12 hx (hb hby d11_9) (by decide) (by decide) rfl (fun hc9 => ?_) (fun hc9 => ?_)
  · -- pc 28
    refine og_iconst (pc' := 29) (v := (0 : Int32)) X12 hx rfl (hb hby d11_28) rfl ?_
    refine og_retN X12 hx hlk hret (by simp) (hb hby d11_29) (by decide) (by decide) ?_
    rw [e12]; refine ⟨?_, N, rfl⟩
    show some (Value.int (0 : Int32)) = _
    rw [hr, if_pos (Or.inl (Classical.byContradiction fun q => hc9 (hiv1.mpr q)))]
  · -- pc 12
    refine og_aloadN (pc' := 13) X12 hx rfl rfl (hb hby d11_12) rfl ?_
    refine og_getfield (pc' := 16) X12 hx hZ (host := "") hown (Or.inl (ow57 hw)) Via.refl e12 F_name_t1 (hb hby d11_13) rfl (fun T13 X13 e13 => ?_)
    refine og_bipush (pc' := 18) (v := (46 : Int32)) X13 hx rfl (hb hby d11_16) rfl ?_
    refine og_virtual (pc' := 21) (cells' := 0) (slots' := 0) (W := 0) X13 hx hZ (rm_ix2 l Z a0 hw s2 b2 k2 y0 y1 hy0 hy1 cs hcs h0 n0 O E_s2 F_value_s2 F_coder_s2 V_b2 S_CS) hown (ow64 hw) (ow65 hw) (own_nf hZ (ow67 hw)) (ow67 hw) (ow66 hw) (ow6 hw) (ow68 hw) (by decide) (by rw [hml]; rfl) e13 opd_15 [(.int (46 : Int32))] [] rfl rfl rfl rfl (by decide) (by decide) rfl rfl (by decide) (by decide) E_s2 (hb hby d11_18) rfl (fun v14 T14 h14 L14 X14 e14 z14 => ?_)
    obtain ⟨iv14, rfl, Nq14, hq14, hiv2⟩ := z14; replace e14 := e14.trans hq14; have N := Fr.app N Nq14
    show OG p e below _ (T14.setTop (mkF m 21 #[.val (.ref t1)] [(.int iv14)]))
    refine og_if_ge (pc1 := 28) (pc2 := 24) X14 hx (hb hby d11_21) (by decide) (by decide) rfl (fun hc21 => ?_) (fun hc21 => ?_)
    · -- pc 28
      refine og_iconst (pc' := 29) (v := (0 : Int32)) X14 hx rfl (hb hby d11_28) rfl ?_
      refine og_retN X14 hx hlk hret (by simp) (hb hby d11_29) (by decide) (by decide) ?_
      rw [e14]; refine ⟨?_, N, rfl⟩
      show some (Value.int (0 : Int32)) = _
      rw [hr, if_pos (Or.inr (Classical.byContradiction fun q => hc21 (hiv2.mpr q)))]
    · -- pc 24
      refine og_iconst (pc' := 25) (v := (1 : Int32)) X14 hx rfl (hb hby d11_24) rfl ?_
      refine og_goto (pc' := 29) X14 hx (hb hby d11_25) (by decide) (by decide) ?_
      refine og_retN X14 hx hlk hret (by simp) (hb hby d11_29) (by decide) (by decide) ?_
      rw [e14]; refine ⟨?_, N, rfl⟩
      show some (Value.int (1 : Int32)) = _
      rw [hr, if_neg]
      rintro (q | q)
      · exact (hiv1.mp hc9) q
      · exact (hiv2.mp hc21) q
theorem oef13 (m : MethodId) (x0 : Int32) (x1 : Int32) : entryFrame m #[(.int x0), (.int x1)] maxLocals = mkF m 0 #[.val (.int x0), .val (.int x1), .unset, .unset, .unset, .unset, .unset, .unset, .unset, .unset, .unset, .unset, .unset, .unset] [] := by first | (simp [entryFrame, mkF, argsToLocals, Value.category, maxLocals]; done) | rfl
theorem rm0 (l : Launch) (Z : State) (a0 : Array Value) (hw : HW a0 Z) (ws : List Jvm.Cond) (p1 p2 : Int32) (cs : Int32) (hcs : ¬ cs = 0) (h0 : Heap) (n0 : Nat) (O : Old Z n0 h0) (hEL : EW Z a0 own_EL) (S_CS : Sta Z Z.heap "java/lang/String" "COMPACT_STRINGS" "Z" (.int cs)) :
    MetFree l x (head1 (Jvm.Cond.code x code maxLocals ret :: ws) room_1) (fun a U => a = #[(.int p1), (.int p2)] ∧ Z.Warmed39 U.vm ∧ U.heap = h0 ∧ CHv Z own_EL U.vm h0 ∧ ∀ x ∈ ([] : List Addr), Safe Z own_EL U.vm h0 x) (fun _ _ _ _ _ => True) (fun _ U o U' => ∃ v L, o = .returned v ∧ (fun v h L => v = some (.int 1) ∧ Fr n0 L) v U'.heap L ∧ CHr Z own_EL U.vm U.heap U'.vm U'.heap ∧ ReturnedEndW U o U' L 32 2176) := by
  refine own_startW (Q := fun v h L => v = some (.int 1) ∧ Fr n0 L) opn_0 ?_
  intro p e s m below meth c T0 X0 hx hby hml hZ hown hnm hret hlk e0 es hS CR hsf
  have N := Fr.nil n0; have K := Keep.refl h0 []; have hk := Nat.le_refl h0.size
  refine OG.cast (oef13 m p1 p2) ?_
  refine og_iloadN (pc' := 1) X0 hx rfl (hb hby at_0) rfl ?_
  refine og_static (pc' := 4) (cells' := 0) (slots' := 0) (W := 0) X0 hx hZ (rm_c l Z a0 hw p1 h0 n0 O) hown (ow0 hw) (ow1 hw) (ow2 hw) (ow3 hw) (by decide) (by rw [hml]; rfl) e0 opd_16 [(.int p1)] [] rfl rfl rfl rfl (by decide) (by decide) rfl rfl (by decide) (by decide) (hb hby at_1) rfl (fun v11 T11 h11 L11 X11 e11 z11 => ?_)
  obtain ⟨c0, rfl, Nq11, hq11, hc0⟩ := z11; replace e11 := e11.trans hq11; have N := Fr.app N Nq11
  show OG p e below _ (T11.setTop (mkF m 4 #[.val (.int p1), .val (.int p2), .unset, .unset, .unset, .unset, .unset, .unset, .unset, .unset, .unset, .unset, .unset, .unset] [(.int c0)]))
  refine og_istoreN (pc' := 5) (L' := #[.val (.int p1), .val (.int p2), .val (.int c0), .unset, .unset, .unset, .unset, .unset, .unset, .unset, .unset, .unset, .unset, .unset]) X11 hx rfl (hb hby at_4) rfl ?_
  refine og_iloadN (pc' := 6) X11 hx rfl (hb hby at_5) rfl ?_
  refine og_bipush (pc' := 8) (v := (9 : Int32)) X11 hx rfl (hb hby at_6) rfl ?_
  refine og_iushr (pc' := 9) X11 hx (hb hby at_8) rfl ?_
  refine og_static (pc' := 12) (cells' := 0) (slots' := 0) (W := 0) X11 hx hZ (rm_c l Z a0 hw ((p1.toUInt32 >>> ((9 : Int32) &&& 31).toUInt32).toInt32) h0 n0 O) hown (ow0 hw) (ow1 hw) (ow2 hw) (ow3 hw) (by decide) (by rw [hml]; rfl) e11 opd_16 [(.int ((p1.toUInt32 >>> ((9 : Int32) &&& 31).toUInt32).toInt32))] [] rfl rfl rfl rfl (by decide) (by decide) rfl rfl (by decide) (by decide) (hb hby at_9) rfl (fun v12 T12 h12 L12 X12 e12 z12 => ?_)
  obtain ⟨c1, rfl, Nq12, hq12, hc1⟩ := z12; replace e12 := e12.trans hq12; have N := Fr.app N Nq12
  show OG p e below _ (T12.setTop (mkF m 12 #[.val (.int p1), .val (.int p2), .val (.int c0), .unset, .unset, .unset, .unset, .unset, .unset, .unset, .unset, .unset, .unset, .unset] [(.int c1)]))
  refine og_istoreN (pc' := 13) (L' := #[.val (.int p1), .val (.int p2), .val (.int c0), .val (.int c1), .unset, .unset, .unset, .unset, .unset, .unset, .unset, .unset, .unset, .unset]) X12 hx rfl (hb hby at_12) rfl ?_
  refine og_iloadN (pc' := 14) X12 hx rfl (hb hby at_13) rfl ?_
  refine og_bipush (pc' := 16) (v := (18 : Int32)) X12 hx rfl (hb hby at_14) rfl ?_
  refine og_iushr (pc' := 17) X12 hx (hb hby at_16) rfl ?_
  refine og_iconst (pc' := 18) (v := (1 : Int32)) X12 hx rfl (hb hby at_17) rfl ?_
  refine og_iand (pc' := 19) X12 hx (hb hby at_18) rfl ?_
  refine og_if_eq (pc1 := 26) (pc2 := 22) X12 hx (hb hby at_19) (by decide) (by decide) rfl (fun hc19 => ?_) (fun hc19 => ?_)
  · -- pc 26
    refine og_iconst (pc' := 27) (v := (0 : Int32)) X12 hx rfl (hb hby at_26) rfl ?_
    refine og_istore (pc' := 29) (L' := #[.val (.int p1), .val (.int p2), .val (.int c0), .val (.int c1), .val (.int (0 : Int32)), .unset, .unset, .unset, .unset, .unset, .unset, .unset, .unset, .unset]) X12 hx rfl (hb hby at_27) rfl ?_
    refine og_iloadN (pc' := 30) X12 hx rfl (hb hby at_29) rfl ?_
    refine og_static (pc' := 33) (cells' := 0) (slots' := 0) (W := 0) X12 hx hZ (rm_c l Z a0 hw p2 h0 n0 O) hown (ow0 hw) (ow1 hw) (ow2 hw) (ow3 hw) (by decide) (by rw [hml]; rfl) e12 opd_16 [(.int p2)] [] rfl rfl rfl rfl (by decide) (by decide) rfl rfl (by decide) (by decide) (hb hby at_30) rfl (fun v13 T13 h13 L13 X13 e13 z13 => ?_)
    obtain ⟨c2, rfl, Nq13, hq13, hc2⟩ := z13; replace e13 := e13.trans hq13; have N := Fr.app N Nq13
    show OG p e below _ (T13.setTop (mkF m 33 #[.val (.int p1), .val (.int p2), .val (.int c0), .val (.int c1), .val (.int (0 : Int32)), .unset, .unset, .unset, .unset, .unset, .unset, .unset, .unset, .unset] [(.int c2)]))
    refine og_istore (pc' := 35) (L' := #[.val (.int p1), .val (.int p2), .val (.int c0), .val (.int c1), .val (.int (0 : Int32)), .val (.int c2), .unset, .unset, .unset, .unset, .unset, .unset, .unset, .unset]) X13 hx rfl (hb hby at_33) rfl ?_
    refine og_iloadN (pc' := 36) X13 hx rfl (hb hby at_35) rfl ?_
    refine og_bipush (pc' := 38) (v := (9 : Int32)) X13 hx rfl (hb hby at_36) rfl ?_
    refine og_iushr (pc' := 39) X13 hx (hb hby at_38) rfl ?_
    refine og_static (pc' := 42) (cells' := 0) (slots' := 0) (W := 0) X13 hx hZ (rm_c l Z a0 hw ((p2.toUInt32 >>> ((9 : Int32) &&& 31).toUInt32).toInt32) h0 n0 O) hown (ow0 hw) (ow1 hw) (ow2 hw) (ow3 hw) (by decide) (by rw [hml]; rfl) e13 opd_16 [(.int ((p2.toUInt32 >>> ((9 : Int32) &&& 31).toUInt32).toInt32))] [] rfl rfl rfl rfl (by decide) (by decide) rfl rfl (by decide) (by decide) (hb hby at_39) rfl (fun v14 T14 h14 L14 X14 e14 z14 => ?_)
    obtain ⟨c3, rfl, Nq14, hq14, hc3⟩ := z14; replace e14 := e14.trans hq14; have N := Fr.app N Nq14
    show OG p e below _ (T14.setTop (mkF m 42 #[.val (.int p1), .val (.int p2), .val (.int c0), .val (.int c1), .val (.int (0 : Int32)), .val (.int c2), .unset, .unset, .unset, .unset, .unset, .unset, .unset, .unset] [(.int c3)]))
    refine og_istore (pc' := 44) (L' := #[.val (.int p1), .val (.int p2), .val (.int c0), .val (.int c1), .val (.int (0 : Int32)), .val (.int c2), .val (.int c3), .unset, .unset, .unset, .unset, .unset, .unset, .unset]) X14 hx rfl (hb hby at_42) rfl ?_
    refine og_iloadN (pc' := 45) X14 hx rfl (hb hby at_44) rfl ?_
    refine og_bipush (pc' := 47) (v := (18 : Int32)) X14 hx rfl (hb hby at_45) rfl ?_
    refine og_iushr (pc' := 48) X14 hx (hb hby at_47) rfl ?_
    refine og_iconst (pc' := 49) (v := (1 : Int32)) X14 hx rfl (hb hby at_48) rfl ?_
    refine og_iand (pc' := 50) X14 hx (hb hby at_49) rfl ?_
    refine og_if_eq (pc1 := 57) (pc2 := 53) X14 hx (hb hby at_50) (by decide) (by decide) rfl (fun hc50 => ?_) (fun hc50 => ?_)
    · -- pc 57
      refine og_iconst (pc' := 58) (v := (0 : Int32)) X14 hx rfl (hb hby at_57) rfl ?_
      refine og_istore (pc' := 60) (L' := #[.val (.int p1), .val (.int p2), .val (.int c0), .val (.int c1), .val (.int (0 : Int32)), .val (.int c2), .val (.int c3), .val (.int (0 : Int32)), .unset, .unset, .unset, .unset, .unset, .unset]) X14 hx rfl (hb hby at_58) rfl ?_
      refine og_iload (pc' := 62) X14 hx rfl (hb hby at_60) rfl ?_
      refine og_if_eq (pc1 := 86) (pc2 := 65) X14 hx (hb hby at_62) (by decide) (by decide) rfl (fun _ => ?_) (fun q => absurd q (by decide))
      refine og_iloadN (pc' := 87) X14 hx rfl (hb hby at_86) rfl ?_
      refine og_static (pc' := 90) (cells' := 2) (slots' := 5) (W := 0) X14 hx hZ (rm_vo l Z a0 hw c0 (own_le255 hc0) cs hcs h0 n0 O S_CS) hown (ow4 hw) (ow5 hw) (ow6 hw) (ow7 hw) (by decide) (by rw [hml]; rfl) e14 opd_17 [(.int c0)] [] rfl rfl rfl rfl (by decide) (by decide) rfl rfl (by decide) (by decide) (hb hby at_87) rfl (fun v15 T15 h15 L15 X15 e15 z15 => ?_)
      obtain ⟨na15, nb15, k15, rfl, Nq15, K15, sa15, sb15, E_na15, F_value_na15, F_coder_na15, V_nb15⟩ := z15; have N := Fr.app N Nq15
      have s_na15 : h0.size ≤ na15 := sa15; have g_na15 : n0 ≤ na15 := Nat.le_trans (own_n0 O) s_na15; have sz_na15 : h0.size ≤ na15 := Nat.le_trans K.1 s_na15
      have s_nb15 : h0.size ≤ nb15 := sb15; have g_nb15 : n0 ≤ nb15 := Nat.le_trans (own_n0 O) s_nb15; have sz_nb15 : h0.size ≤ nb15 := Nat.le_trans K.1 s_nb15
      have O := O.keep K15 all0; have K := K.trans K15 all0; have hk := Nat.le_trans hk K15.1; have CR := CR.trans (CHr.keep K15 sf0 CR.1)
      have ne_na15_nb15 : na15 ≠ nb15 := fun q => own_strarr E_na15 V_nb15 (ow14 hw) q
      show OG p e below _ (T15.setTop (mkF m 90 #[.val (.int p1), .val (.int p2), .val (.int c0), .val (.int c1), .val (.int (0 : Int32)), .val (.int c2), .val (.int c3), .val (.int (0 : Int32)), .unset, .unset, .unset, .unset, .unset, .unset] [(.ref na15)]))
      refine og_astore (pc' := 92) (L' := #[.val (.int p1), .val (.int p2), .val (.int c0), .val (.int c1), .val (.int (0 : Int32)), .val (.int c2), .val (.int c3), .val (.int (0 : Int32)), .val (.ref na15), .unset, .unset, .unset, .unset, .unset]) X15 hx rfl rfl (hb hby at_90) rfl ?_
      refine og_iload (pc' := 94) X15 hx rfl (hb hby at_92) rfl ?_
      refine og_if_eq (pc1 := 120) (pc2 := 97) X15 hx (hb hby at_94) (by decide) (by decide) rfl (fun _ => ?_) (fun q => absurd q (by decide))
      refine og_iload (pc' := 122) X15 hx rfl (hb hby at_120) rfl ?_
      refine og_static (pc' := 125) (cells' := 4) (slots' := 10) (W := 0) X15 hx hZ (rm_vo l Z a0 hw c2 (own_le255 hc2) cs hcs h15 n0 O S_CS) hown (ow4 hw) (ow5 hw) (ow6 hw) (ow7 hw) (by decide) (by rw [hml]; rfl) e15 opd_17 [(.int c2)] [] rfl rfl rfl rfl (by decide) (by decide) rfl rfl (by decide) (by decide) (hb hby at_122) rfl (fun v16 T16 h16 L16 X16 e16 z16 => ?_)
      obtain ⟨na16, nb16, k16, rfl, Nq16, K16, sa16, sb16, E_na16, F_value_na16, F_coder_na16, V_nb16⟩ := z16; have N := Fr.app N Nq16
      have s_na16 : h15.size ≤ na16 := sa16; have g_na16 : n0 ≤ na16 := Nat.le_trans (own_n0 O) s_na16; have sz_na16 : h0.size ≤ na16 := Nat.le_trans K.1 s_na16; have ne_na15_na16 : na15 ≠ na16 := Nat.ne_of_lt (Nat.lt_of_lt_of_le E_na15.lt s_na16); have ne_nb15_na16 : nb15 ≠ na16 := Nat.ne_of_lt (Nat.lt_of_lt_of_le V_nb15.lt s_na16)
      have s_nb16 : h15.size ≤ nb16 := sb16; have g_nb16 : n0 ≤ nb16 := Nat.le_trans (own_n0 O) s_nb16; have sz_nb16 : h0.size ≤ nb16 := Nat.le_trans K.1 s_nb16; have ne_na15_nb16 : na15 ≠ nb16 := Nat.ne_of_lt (Nat.lt_of_lt_of_le E_na15.lt s_nb16); have ne_nb15_nb16 : nb15 ≠ nb16 := Nat.ne_of_lt (Nat.lt_of_lt_of_le V_nb15.lt s_nb16)
      have E_na15 := E_na15.keep K16; have F_value_na15 := F_value_na15.keep K16 nin0; have F_coder_na15 := F_coder_na15.keep K16 nin0; have V_nb15 := V_nb15.keep K16 nin0; have O := O.keep K16 all0; have K := K.trans K16 all0
      have hk := Nat.le_trans hk K16.1; have CR := CR.trans (CHr.keep K16 sf0 CR.1)
      have ne_na16_nb16 : na16 ≠ nb16 := fun q => own_strarr E_na16 V_nb16 (ow14 hw) q
      show OG p e below _ (T16.setTop (mkF m 125 #[.val (.int p1), .val (.int p2), .val (.int c0), .val (.int c1), .val (.int (0 : Int32)), .val (.int c2), .val (.int c3), .val (.int (0 : Int32)), .val (.ref na15), .unset, .unset, .unset, .unset, .unset] [(.ref na16)]))
      refine og_astore (pc' := 127) (L' := #[.val (.int p1), .val (.int p2), .val (.int c0), .val (.int c1), .val (.int (0 : Int32)), .val (.int c2), .val (.int c3), .val (.int (0 : Int32)), .val (.ref na15), .val (.ref na16), .unset, .unset, .unset, .unset]) X16 hx rfl rfl (hb hby at_125) rfl ?_
      refine og_iloadN (pc' := 128) X16 hx rfl (hb hby at_127) rfl ?_
      refine og_bipush (pc' := 130) (v := (46 : Int32)) X16 hx rfl (hb hby at_128) rfl ?_
      refine og_icmp_eq (pc1 := 144) (pc2 := 133) X16 hx (hb hby at_130) (by decide) (by decide) rfl (fun hc130 => ?_) (fun hc130 => ?_)
      · -- pc 144
        refine og_iconst (pc' := 145) (v := (1 : Int32)) X16 hx rfl (hb hby at_144) rfl ?_
        refine og_goto (pc' := 149) X16 hx (hb hby at_145) (by decide) (by decide) ?_
        refine og_istore (pc' := 151) (L' := #[.val (.int p1), .val (.int p2), .val (.int c0), .val (.int c1), .val (.int (0 : Int32)), .val (.int c2), .val (.int c3), .val (.int (0 : Int32)), .val (.ref na15), .val (.ref na16), .val (.int (1 : Int32)), .unset, .unset, .unset]) X16 hx rfl (hb hby at_149) rfl ?_
        refine og_iload (pc' := 153) X16 hx rfl (hb hby at_151) rfl ?_
        refine og_bipush (pc' := 155) (v := (46 : Int32)) X16 hx rfl (hb hby at_153) rfl ?_
        refine og_icmp_eq (pc1 := 170) (pc2 := 158) X16 hx (hb hby at_155) (by decide) (by decide) rfl (fun hc155 => ?_) (fun hc155 => ?_)
        · -- pc 170
          refine og_iconst (pc' := 171) (v := (1 : Int32)) X16 hx rfl (hb hby at_170) rfl ?_
          refine og_goto (pc' := 175) X16 hx (hb hby at_171) (by decide) (by decide) ?_
          refine og_istore (pc' := 177) (L' := #[.val (.int p1), .val (.int p2), .val (.int c0), .val (.int c1), .val (.int (0 : Int32)), .val (.int c2), .val (.int c3), .val (.int (0 : Int32)), .val (.ref na15), .val (.ref na16), .val (.int (1 : Int32)), .val (.int (1 : Int32)), .unset, .unset]) X16 hx rfl (hb hby at_175) rfl ?_
          refine og_iload (pc' := 179) X16 hx rfl (hb hby at_177) rfl ?_
          refine og_if_ne (pc1 := 191) (pc2 := 182) X16 hx (hb hby at_179) (by decide) (by decide) rfl (fun _ => ?_) (fun q => absurd q (by decide))
          refine og_iconst (pc' := 192) (v := (0 : Int32)) X16 hx rfl (hb hby at_191) rfl ?_
          refine og_istore (pc' := 194) (L' := #[.val (.int p1), .val (.int p2), .val (.int c0), .val (.int c1), .val (.int (0 : Int32)), .val (.int c2), .val (.int c3), .val (.int (0 : Int32)), .val (.ref na15), .val (.ref na16), .val (.int (1 : Int32)), .val (.int (1 : Int32)), .val (.int (0 : Int32)), .unset]) X16 hx rfl (hb hby at_192) rfl ?_
          refine og_new (pc' := 197) (cells' := 5) (slots' := 12) X16 hx hZ hown (ow30 hw) (ow31 hw) (ow32 hw) e16 (hb hby at_194) rfl rfl rfl (by decide) (by decide) (fun T17 h17 nb17 X17 e17 E17 q17 E_nb17 D17 B17 => ?_)
          have s_nb17 : h16.size ≤ nb17 := Nat.le_of_eq q17.symm; have g_nb17 : n0 ≤ nb17 := Nat.le_trans (own_n0 O) s_nb17; have sz_nb17 : h0.size ≤ nb17 := Nat.le_trans K.1 s_nb17; have ne_na15_nb17 : na15 ≠ nb17 := Nat.ne_of_lt (Nat.lt_of_lt_of_le E_na15.lt s_nb17); have ne_nb15_nb17 : nb15 ≠ nb17 := Nat.ne_of_lt (Nat.lt_of_lt_of_le V_nb15.lt s_nb17); have ne_na16_nb17 : na16 ≠ nb17 := Nat.ne_of_lt (Nat.lt_of_lt_of_le E_na16.lt s_nb17)
          have ne_nb16_nb17 : nb16 ≠ nb17 := Nat.ne_of_lt (Nat.lt_of_lt_of_le V_nb16.lt s_nb17)
          have E_na15 := E_na15.ext E17; have F_value_na15 := F_value_na15.ext E17; have F_coder_na15 := F_coder_na15.ext E17; have V_nb15 := V_nb15.ext E17; have E_na16 := E_na16.ext E17; have F_value_na16 := F_value_na16.ext E17
          have F_coder_na16 := F_coder_na16.ext E17; have V_nb16 := V_nb16.ext E17; have O := O.ext E17; have K := K.ext E17; have hk := Nat.le_trans hk E17.1; have CR := CR.trans (CHr.ext E17 CR.1)
          have F_schema_nb17 : Fld Z h17 nb17 "com/example/tombstone/tombstone/config/TableName" "schema" "Ljava/lang/String;" .null := D17 (Or.inr (ow56 hw)) (ty := (.object "java/lang/String")) (by decide)
          have F_name_nb17 : Fld Z h17 nb17 "com/example/tombstone/tombstone/config/TableName" "name" "Ljava/lang/String;" .null := D17 (Or.inr (ow58 hw)) (ty := (.object "java/lang/String")) (by decide)
          refine og_dup (pc' := 198) X17 hx rfl (hb hby at_197) rfl ?_
          refine og_aload (pc' := 200) X17 hx rfl rfl (hb hby at_198) rfl ?_
          refine og_aload (pc' := 202) X17 hx rfl rfl (hb hby at_200) rfl ?_
          refine og_specialW (pc' := 205) (cells' := 9) (slots' := 60) (W := 1) X17 hx hZ (rm_tn l Z a0 hw nb17 na15 na16 nb15 nb16 k15 k16 (1 : Int32) (1 : Int32) _ _ (by decide) (by decide) h17 n0 O hEL E_nb17 F_schema_nb17 F_name_nb17 E_na15 F_value_na15 F_coder_na15 V_nb15 E_na16 F_value_na16 F_coder_na16 V_nb16 g_nb17 ne_na15_nb17 ne_na16_nb17 ne_nb15_nb17 ne_nb16_nb17) hEL hS hk CR.1 all0 rfl hown (ow33 hw) (ow34 hw) (ow32 hw) (ow35 hw) (by decide) (by rw [hml]; rfl) e17 opd_18 [(.ref na15), (.ref na16)] [(.ref nb17)] rfl rfl rfl rfl (by decide) (by decide) rfl rfl (by decide) (by decide) (hb hby at_202) rfl (fun v18 T18 h18 L18 kk18 X18 e18 hS hk hZ hown cr18 z18 => ?_)
          obtain ⟨rfl, Nq18, K18, F_schema_nb17', F_name_nb17'⟩ := z18; have N := Fr.app N Nq18
          have E_na15 := E_na15.keep K18; have F_value_na15 := F_value_na15.keep K18 (ninS ne_na15_nb17 nin0); have F_coder_na15 := F_coder_na15.keep K18 (ninS ne_na15_nb17 nin0); have V_nb15 := V_nb15.keep K18 (ninS ne_nb15_nb17 nin0); have E_na16 := E_na16.keep K18; have F_value_na16 := F_value_na16.keep K18 (ninS ne_na16_nb17 nin0)
          have F_coder_na16 := F_coder_na16.keep K18 (ninS ne_na16_nb17 nin0); have V_nb16 := V_nb16.keep K18 (ninS ne_nb16_nb17 nin0); have E_nb17 := E_nb17.keep K18; have O := O.keep K18 (allS g_nb17 all0); have K := K.trans K18 (allS (Or.inr sz_nb17) all0); have CR := CR.trans cr18
          have F_schema_nb17 := F_schema_nb17'; have F_name_nb17 := F_name_nb17'
          show OG p e below _ (T18.setTop (mkF m 205 #[.val (.int p1), .val (.int p2), .val (.int c0), .val (.int c1), .val (.int (0 : Int32)), .val (.int c2), .val (.int c3), .val (.int (0 : Int32)), .val (.ref na15), .val (.ref na16), .val (.int (1 : Int32)), .val (.int (1 : Int32)), .val (.int (0 : Int32)), .unset] [(.ref nb17)]))
          refine og_astore (pc' := 207) (L' := #[.val (.int p1), .val (.int p2), .val (.int c0), .val (.int c1), .val (.int (0 : Int32)), .val (.int c2), .val (.int c3), .val (.int (0 : Int32)), .val (.ref na15), .val (.ref na16), .val (.int (1 : Int32)), .val (.int (1 : Int32)), .val (.int (0 : Int32)), .val (.ref nb17)]) X18 hx rfl rfl (hb hby at_205) rfl ?_
          refine og_aload (pc' := 209) X18 hx rfl rfl (hb hby at_207) rfl ?_
          refine og_virtual (pc' := 212) (cells' := 9) (slots' := 60) (W := 0) X18 hx hZ (rm_w11 l Z a0 hw nb17 na15 na16 nb15 nb16 k15 k16 c0 c2 hc0 hc2 cs hcs 0 (by simp [hc130, hc155]) h18 n0 O F_schema_nb17 F_name_nb17 E_na15 F_value_na15 F_coder_na15 V_nb15 E_na16 F_value_na16 F_coder_na16 V_nb16 S_CS) hown (ow59 hw) (ow60 hw) (own_nf hZ (ow62 hw)) (ow62 hw) (ow61 hw) (ow32 hw) (ow63 hw) (by decide) (by rw [hml]; rfl) e18 opd_11 [] [] rfl rfl rfl rfl (by decide) (by decide) rfl rfl (by decide) (by decide) E_nb17 (hb hby at_209) rfl (fun v19 T19 h19 L19 X19 e19 z19 => ?_)
          obtain ⟨rfl, Nq19, hq19⟩ := z19; replace e19 := e19.trans hq19; have N := Fr.app N Nq19
          show OG p e below _ (T19.setTop (mkF m 212 #[.val (.int p1), .val (.int p2), .val (.int c0), .val (.int c1), .val (.int (0 : Int32)), .val (.int c2), .val (.int c3), .val (.int (0 : Int32)), .val (.ref na15), .val (.ref na16), .val (.int (1 : Int32)), .val (.int (1 : Int32)), .val (.int (0 : Int32)), .val (.ref nb17)] [(.int (0 : Int32))]))
          refine og_iload (pc' := 214) X19 hx rfl (hb hby at_212) rfl ?_
          refine og_icmp_ne (pc1 := 221) (pc2 := 217) X19 hx (hb hby at_214) (by decide) (by decide) rfl (fun q => absurd q (by decide)) (fun _ => ?_)
          refine og_iconst (pc' := 218) (v := (1 : Int32)) X19 hx rfl (hb hby at_217) rfl ?_
          refine og_goto (pc' := 222) X19 hx (hb hby at_218) (by decide) (by decide) ?_
          refine og_retNW X19 hx hZ hlk hEL hS e19 es hk CR hret (by simp) (hb hby at_222) (by decide) (by decide) ?_
          exact ⟨rfl, N⟩
        · -- pc 158
          refine og_iload (pc' := 160) X16 hx rfl (hb hby at_158) rfl ?_
          refine og_if_eq (pc1 := 174) (pc2 := 163) X16 hx (hb hby at_160) (by decide) (by decide) rfl (fun _ => ?_) (fun q => absurd q (by decide))
          refine og_iconst (pc' := 175) (v := (0 : Int32)) X16 hx rfl (hb hby at_174) rfl ?_
          refine og_istore (pc' := 177) (L' := #[.val (.int p1), .val (.int p2), .val (.int c0), .val (.int c1), .val (.int (0 : Int32)), .val (.int c2), .val (.int c3), .val (.int (0 : Int32)), .val (.ref na15), .val (.ref na16), .val (.int (1 : Int32)), .val (.int (0 : Int32)), .unset, .unset]) X16 hx rfl (hb hby at_175) rfl ?_
          refine og_iload (pc' := 179) X16 hx rfl (hb hby at_177) rfl ?_
          refine og_if_ne (pc1 := 191) (pc2 := 182) X16 hx (hb hby at_179) (by decide) (by decide) rfl (fun _ => ?_) (fun q => absurd q (by decide))
          refine og_iconst (pc' := 192) (v := (0 : Int32)) X16 hx rfl (hb hby at_191) rfl ?_
          refine og_istore (pc' := 194) (L' := #[.val (.int p1), .val (.int p2), .val (.int c0), .val (.int c1), .val (.int (0 : Int32)), .val (.int c2), .val (.int c3), .val (.int (0 : Int32)), .val (.ref na15), .val (.ref na16), .val (.int (1 : Int32)), .val (.int (0 : Int32)), .val (.int (0 : Int32)), .unset]) X16 hx rfl (hb hby at_192) rfl ?_
          refine og_new (pc' := 197) (cells' := 5) (slots' := 12) X16 hx hZ hown (ow30 hw) (ow31 hw) (ow32 hw) e16 (hb hby at_194) rfl rfl rfl (by decide) (by decide) (fun T20 h20 nb20 X20 e20 E20 q20 E_nb20 D20 B20 => ?_)
          have s_nb20 : h16.size ≤ nb20 := Nat.le_of_eq q20.symm; have g_nb20 : n0 ≤ nb20 := Nat.le_trans (own_n0 O) s_nb20; have sz_nb20 : h0.size ≤ nb20 := Nat.le_trans K.1 s_nb20; have ne_na15_nb20 : na15 ≠ nb20 := Nat.ne_of_lt (Nat.lt_of_lt_of_le E_na15.lt s_nb20); have ne_nb15_nb20 : nb15 ≠ nb20 := Nat.ne_of_lt (Nat.lt_of_lt_of_le V_nb15.lt s_nb20); have ne_na16_nb20 : na16 ≠ nb20 := Nat.ne_of_lt (Nat.lt_of_lt_of_le E_na16.lt s_nb20)
          have ne_nb16_nb20 : nb16 ≠ nb20 := Nat.ne_of_lt (Nat.lt_of_lt_of_le V_nb16.lt s_nb20)
          have E_na15 := E_na15.ext E20; have F_value_na15 := F_value_na15.ext E20; have F_coder_na15 := F_coder_na15.ext E20; have V_nb15 := V_nb15.ext E20; have E_na16 := E_na16.ext E20; have F_value_na16 := F_value_na16.ext E20
          have F_coder_na16 := F_coder_na16.ext E20; have V_nb16 := V_nb16.ext E20; have O := O.ext E20; have K := K.ext E20; have hk := Nat.le_trans hk E20.1; have CR := CR.trans (CHr.ext E20 CR.1)
          have F_schema_nb20 : Fld Z h20 nb20 "com/example/tombstone/tombstone/config/TableName" "schema" "Ljava/lang/String;" .null := D20 (Or.inr (ow56 hw)) (ty := (.object "java/lang/String")) (by decide)
          have F_name_nb20 : Fld Z h20 nb20 "com/example/tombstone/tombstone/config/TableName" "name" "Ljava/lang/String;" .null := D20 (Or.inr (ow58 hw)) (ty := (.object "java/lang/String")) (by decide)
          refine og_dup (pc' := 198) X20 hx rfl (hb hby at_197) rfl ?_
          refine og_aload (pc' := 200) X20 hx rfl rfl (hb hby at_198) rfl ?_
          refine og_aload (pc' := 202) X20 hx rfl rfl (hb hby at_200) rfl ?_
          refine og_specialW (pc' := 205) (cells' := 9) (slots' := 60) (W := 1) X20 hx hZ (rm_tn l Z a0 hw nb20 na15 na16 nb15 nb16 k15 k16 (1 : Int32) (1 : Int32) _ _ (by decide) (by decide) h20 n0 O hEL E_nb20 F_schema_nb20 F_name_nb20 E_na15 F_value_na15 F_coder_na15 V_nb15 E_na16 F_value_na16 F_coder_na16 V_nb16 g_nb20 ne_na15_nb20 ne_na16_nb20 ne_nb15_nb20 ne_nb16_nb20) hEL hS hk CR.1 all0 rfl hown (ow33 hw) (ow34 hw) (ow32 hw) (ow35 hw) (by decide) (by rw [hml]; rfl) e20 opd_18 [(.ref na15), (.ref na16)] [(.ref nb20)] rfl rfl rfl rfl (by decide) (by decide) rfl rfl (by decide) (by decide) (hb hby at_202) rfl (fun v21 T21 h21 L21 kk21 X21 e21 hS hk hZ hown cr21 z21 => ?_)
          obtain ⟨rfl, Nq21, K21, F_schema_nb20', F_name_nb20'⟩ := z21; have N := Fr.app N Nq21
          have E_na15 := E_na15.keep K21; have F_value_na15 := F_value_na15.keep K21 (ninS ne_na15_nb20 nin0); have F_coder_na15 := F_coder_na15.keep K21 (ninS ne_na15_nb20 nin0); have V_nb15 := V_nb15.keep K21 (ninS ne_nb15_nb20 nin0); have E_na16 := E_na16.keep K21; have F_value_na16 := F_value_na16.keep K21 (ninS ne_na16_nb20 nin0)
          have F_coder_na16 := F_coder_na16.keep K21 (ninS ne_na16_nb20 nin0); have V_nb16 := V_nb16.keep K21 (ninS ne_nb16_nb20 nin0); have E_nb20 := E_nb20.keep K21; have O := O.keep K21 (allS g_nb20 all0); have K := K.trans K21 (allS (Or.inr sz_nb20) all0); have CR := CR.trans cr21
          have F_schema_nb20 := F_schema_nb20'; have F_name_nb20 := F_name_nb20'
          show OG p e below _ (T21.setTop (mkF m 205 #[.val (.int p1), .val (.int p2), .val (.int c0), .val (.int c1), .val (.int (0 : Int32)), .val (.int c2), .val (.int c3), .val (.int (0 : Int32)), .val (.ref na15), .val (.ref na16), .val (.int (1 : Int32)), .val (.int (0 : Int32)), .val (.int (0 : Int32)), .unset] [(.ref nb20)]))
          refine og_astore (pc' := 207) (L' := #[.val (.int p1), .val (.int p2), .val (.int c0), .val (.int c1), .val (.int (0 : Int32)), .val (.int c2), .val (.int c3), .val (.int (0 : Int32)), .val (.ref na15), .val (.ref na16), .val (.int (1 : Int32)), .val (.int (0 : Int32)), .val (.int (0 : Int32)), .val (.ref nb20)]) X21 hx rfl rfl (hb hby at_205) rfl ?_
          refine og_aload (pc' := 209) X21 hx rfl rfl (hb hby at_207) rfl ?_
          refine og_virtual (pc' := 212) (cells' := 9) (slots' := 60) (W := 0) X21 hx hZ (rm_w11 l Z a0 hw nb20 na15 na16 nb15 nb16 k15 k16 c0 c2 hc0 hc2 cs hcs 0 (by simp [hc130, hc155]) h21 n0 O F_schema_nb20 F_name_nb20 E_na15 F_value_na15 F_coder_na15 V_nb15 E_na16 F_value_na16 F_coder_na16 V_nb16 S_CS) hown (ow59 hw) (ow60 hw) (own_nf hZ (ow62 hw)) (ow62 hw) (ow61 hw) (ow32 hw) (ow63 hw) (by decide) (by rw [hml]; rfl) e21 opd_11 [] [] rfl rfl rfl rfl (by decide) (by decide) rfl rfl (by decide) (by decide) E_nb20 (hb hby at_209) rfl (fun v22 T22 h22 L22 X22 e22 z22 => ?_)
          obtain ⟨rfl, Nq22, hq22⟩ := z22; replace e22 := e22.trans hq22; have N := Fr.app N Nq22
          show OG p e below _ (T22.setTop (mkF m 212 #[.val (.int p1), .val (.int p2), .val (.int c0), .val (.int c1), .val (.int (0 : Int32)), .val (.int c2), .val (.int c3), .val (.int (0 : Int32)), .val (.ref na15), .val (.ref na16), .val (.int (1 : Int32)), .val (.int (0 : Int32)), .val (.int (0 : Int32)), .val (.ref nb20)] [(.int (0 : Int32))]))
          refine og_iload (pc' := 214) X22 hx rfl (hb hby at_212) rfl ?_
          refine og_icmp_ne (pc1 := 221) (pc2 := 217) X22 hx (hb hby at_214) (by decide) (by decide) rfl (fun q => absurd q (by decide)) (fun _ => ?_)
          refine og_iconst (pc' := 218) (v := (1 : Int32)) X22 hx rfl (hb hby at_217) rfl ?_
          refine og_goto (pc' := 222) X22 hx (hb hby at_218) (by decide) (by decide) ?_
          refine og_retNW X22 hx hZ hlk hEL hS e22 es hk CR hret (by simp) (hb hby at_222) (by decide) (by decide) ?_
          exact ⟨rfl, N⟩
      · -- pc 133
        refine og_iload (pc' := 135) X16 hx rfl (hb hby at_133) rfl ?_
        refine og_if_eq (pc1 := 148) (pc2 := 138) X16 hx (hb hby at_135) (by decide) (by decide) rfl (fun _ => ?_) (fun q => absurd q (by decide))
        refine og_iconst (pc' := 149) (v := (0 : Int32)) X16 hx rfl (hb hby at_148) rfl ?_
        refine og_istore (pc' := 151) (L' := #[.val (.int p1), .val (.int p2), .val (.int c0), .val (.int c1), .val (.int (0 : Int32)), .val (.int c2), .val (.int c3), .val (.int (0 : Int32)), .val (.ref na15), .val (.ref na16), .val (.int (0 : Int32)), .unset, .unset, .unset]) X16 hx rfl (hb hby at_149) rfl ?_
        refine og_iload (pc' := 153) X16 hx rfl (hb hby at_151) rfl ?_
        refine og_bipush (pc' := 155) (v := (46 : Int32)) X16 hx rfl (hb hby at_153) rfl ?_
        refine og_icmp_eq (pc1 := 170) (pc2 := 158) X16 hx (hb hby at_155) (by decide) (by decide) rfl (fun hc155 => ?_) (fun hc155 => ?_)
        · -- pc 170
          refine og_iconst (pc' := 171) (v := (1 : Int32)) X16 hx rfl (hb hby at_170) rfl ?_
          refine og_goto (pc' := 175) X16 hx (hb hby at_171) (by decide) (by decide) ?_
          refine og_istore (pc' := 177) (L' := #[.val (.int p1), .val (.int p2), .val (.int c0), .val (.int c1), .val (.int (0 : Int32)), .val (.int c2), .val (.int c3), .val (.int (0 : Int32)), .val (.ref na15), .val (.ref na16), .val (.int (0 : Int32)), .val (.int (1 : Int32)), .unset, .unset]) X16 hx rfl (hb hby at_175) rfl ?_
          refine og_iload (pc' := 179) X16 hx rfl (hb hby at_177) rfl ?_
          refine og_if_ne (pc1 := 191) (pc2 := 182) X16 hx (hb hby at_179) (by decide) (by decide) rfl (fun q => absurd q (by decide)) (fun _ => ?_)
          refine og_iload (pc' := 184) X16 hx rfl (hb hby at_182) rfl ?_
          refine og_if_ne (pc1 := 191) (pc2 := 187) X16 hx (hb hby at_184) (by decide) (by decide) rfl (fun _ => ?_) (fun q => absurd q (by decide))
          refine og_iconst (pc' := 192) (v := (0 : Int32)) X16 hx rfl (hb hby at_191) rfl ?_
          refine og_istore (pc' := 194) (L' := #[.val (.int p1), .val (.int p2), .val (.int c0), .val (.int c1), .val (.int (0 : Int32)), .val (.int c2), .val (.int c3), .val (.int (0 : Int32)), .val (.ref na15), .val (.ref na16), .val (.int (0 : Int32)), .val (.int (1 : Int32)), .val (.int (0 : Int32)), .unset]) X16 hx rfl (hb hby at_192) rfl ?_
          refine og_new (pc' := 197) (cells' := 5) (slots' := 12) X16 hx hZ hown (ow30 hw) (ow31 hw) (ow32 hw) e16 (hb hby at_194) rfl rfl rfl (by decide) (by decide) (fun T23 h23 nb23 X23 e23 E23 q23 E_nb23 D23 B23 => ?_)
          have s_nb23 : h16.size ≤ nb23 := Nat.le_of_eq q23.symm; have g_nb23 : n0 ≤ nb23 := Nat.le_trans (own_n0 O) s_nb23; have sz_nb23 : h0.size ≤ nb23 := Nat.le_trans K.1 s_nb23; have ne_na15_nb23 : na15 ≠ nb23 := Nat.ne_of_lt (Nat.lt_of_lt_of_le E_na15.lt s_nb23); have ne_nb15_nb23 : nb15 ≠ nb23 := Nat.ne_of_lt (Nat.lt_of_lt_of_le V_nb15.lt s_nb23); have ne_na16_nb23 : na16 ≠ nb23 := Nat.ne_of_lt (Nat.lt_of_lt_of_le E_na16.lt s_nb23)
          have ne_nb16_nb23 : nb16 ≠ nb23 := Nat.ne_of_lt (Nat.lt_of_lt_of_le V_nb16.lt s_nb23)
          have E_na15 := E_na15.ext E23; have F_value_na15 := F_value_na15.ext E23; have F_coder_na15 := F_coder_na15.ext E23; have V_nb15 := V_nb15.ext E23; have E_na16 := E_na16.ext E23; have F_value_na16 := F_value_na16.ext E23
          have F_coder_na16 := F_coder_na16.ext E23; have V_nb16 := V_nb16.ext E23; have O := O.ext E23; have K := K.ext E23; have hk := Nat.le_trans hk E23.1; have CR := CR.trans (CHr.ext E23 CR.1)
          have F_schema_nb23 : Fld Z h23 nb23 "com/example/tombstone/tombstone/config/TableName" "schema" "Ljava/lang/String;" .null := D23 (Or.inr (ow56 hw)) (ty := (.object "java/lang/String")) (by decide)
          have F_name_nb23 : Fld Z h23 nb23 "com/example/tombstone/tombstone/config/TableName" "name" "Ljava/lang/String;" .null := D23 (Or.inr (ow58 hw)) (ty := (.object "java/lang/String")) (by decide)
          refine og_dup (pc' := 198) X23 hx rfl (hb hby at_197) rfl ?_
          refine og_aload (pc' := 200) X23 hx rfl rfl (hb hby at_198) rfl ?_
          refine og_aload (pc' := 202) X23 hx rfl rfl (hb hby at_200) rfl ?_
          refine og_specialW (pc' := 205) (cells' := 9) (slots' := 60) (W := 1) X23 hx hZ (rm_tn l Z a0 hw nb23 na15 na16 nb15 nb16 k15 k16 (1 : Int32) (1 : Int32) _ _ (by decide) (by decide) h23 n0 O hEL E_nb23 F_schema_nb23 F_name_nb23 E_na15 F_value_na15 F_coder_na15 V_nb15 E_na16 F_value_na16 F_coder_na16 V_nb16 g_nb23 ne_na15_nb23 ne_na16_nb23 ne_nb15_nb23 ne_nb16_nb23) hEL hS hk CR.1 all0 rfl hown (ow33 hw) (ow34 hw) (ow32 hw) (ow35 hw) (by decide) (by rw [hml]; rfl) e23 opd_18 [(.ref na15), (.ref na16)] [(.ref nb23)] rfl rfl rfl rfl (by decide) (by decide) rfl rfl (by decide) (by decide) (hb hby at_202) rfl (fun v24 T24 h24 L24 kk24 X24 e24 hS hk hZ hown cr24 z24 => ?_)
          obtain ⟨rfl, Nq24, K24, F_schema_nb23', F_name_nb23'⟩ := z24; have N := Fr.app N Nq24
          have E_na15 := E_na15.keep K24; have F_value_na15 := F_value_na15.keep K24 (ninS ne_na15_nb23 nin0); have F_coder_na15 := F_coder_na15.keep K24 (ninS ne_na15_nb23 nin0); have V_nb15 := V_nb15.keep K24 (ninS ne_nb15_nb23 nin0); have E_na16 := E_na16.keep K24; have F_value_na16 := F_value_na16.keep K24 (ninS ne_na16_nb23 nin0)
          have F_coder_na16 := F_coder_na16.keep K24 (ninS ne_na16_nb23 nin0); have V_nb16 := V_nb16.keep K24 (ninS ne_nb16_nb23 nin0); have E_nb23 := E_nb23.keep K24; have O := O.keep K24 (allS g_nb23 all0); have K := K.trans K24 (allS (Or.inr sz_nb23) all0); have CR := CR.trans cr24
          have F_schema_nb23 := F_schema_nb23'; have F_name_nb23 := F_name_nb23'
          show OG p e below _ (T24.setTop (mkF m 205 #[.val (.int p1), .val (.int p2), .val (.int c0), .val (.int c1), .val (.int (0 : Int32)), .val (.int c2), .val (.int c3), .val (.int (0 : Int32)), .val (.ref na15), .val (.ref na16), .val (.int (0 : Int32)), .val (.int (1 : Int32)), .val (.int (0 : Int32)), .unset] [(.ref nb23)]))
          refine og_astore (pc' := 207) (L' := #[.val (.int p1), .val (.int p2), .val (.int c0), .val (.int c1), .val (.int (0 : Int32)), .val (.int c2), .val (.int c3), .val (.int (0 : Int32)), .val (.ref na15), .val (.ref na16), .val (.int (0 : Int32)), .val (.int (1 : Int32)), .val (.int (0 : Int32)), .val (.ref nb23)]) X24 hx rfl rfl (hb hby at_205) rfl ?_
          refine og_aload (pc' := 209) X24 hx rfl rfl (hb hby at_207) rfl ?_
          refine og_virtual (pc' := 212) (cells' := 9) (slots' := 60) (W := 0) X24 hx hZ (rm_w11 l Z a0 hw nb23 na15 na16 nb15 nb16 k15 k16 c0 c2 hc0 hc2 cs hcs 0 (by simp [hc130, hc155]) h24 n0 O F_schema_nb23 F_name_nb23 E_na15 F_value_na15 F_coder_na15 V_nb15 E_na16 F_value_na16 F_coder_na16 V_nb16 S_CS) hown (ow59 hw) (ow60 hw) (own_nf hZ (ow62 hw)) (ow62 hw) (ow61 hw) (ow32 hw) (ow63 hw) (by decide) (by rw [hml]; rfl) e24 opd_11 [] [] rfl rfl rfl rfl (by decide) (by decide) rfl rfl (by decide) (by decide) E_nb23 (hb hby at_209) rfl (fun v25 T25 h25 L25 X25 e25 z25 => ?_)
          obtain ⟨rfl, Nq25, hq25⟩ := z25; replace e25 := e25.trans hq25; have N := Fr.app N Nq25
          show OG p e below _ (T25.setTop (mkF m 212 #[.val (.int p1), .val (.int p2), .val (.int c0), .val (.int c1), .val (.int (0 : Int32)), .val (.int c2), .val (.int c3), .val (.int (0 : Int32)), .val (.ref na15), .val (.ref na16), .val (.int (0 : Int32)), .val (.int (1 : Int32)), .val (.int (0 : Int32)), .val (.ref nb23)] [(.int (0 : Int32))]))
          refine og_iload (pc' := 214) X25 hx rfl (hb hby at_212) rfl ?_
          refine og_icmp_ne (pc1 := 221) (pc2 := 217) X25 hx (hb hby at_214) (by decide) (by decide) rfl (fun q => absurd q (by decide)) (fun _ => ?_)
          refine og_iconst (pc' := 218) (v := (1 : Int32)) X25 hx rfl (hb hby at_217) rfl ?_
          refine og_goto (pc' := 222) X25 hx (hb hby at_218) (by decide) (by decide) ?_
          refine og_retNW X25 hx hZ hlk hEL hS e25 es hk CR hret (by simp) (hb hby at_222) (by decide) (by decide) ?_
          exact ⟨rfl, N⟩
        · -- pc 158
          refine og_iload (pc' := 160) X16 hx rfl (hb hby at_158) rfl ?_
          refine og_if_eq (pc1 := 174) (pc2 := 163) X16 hx (hb hby at_160) (by decide) (by decide) rfl (fun _ => ?_) (fun q => absurd q (by decide))
          refine og_iconst (pc' := 175) (v := (0 : Int32)) X16 hx rfl (hb hby at_174) rfl ?_
          refine og_istore (pc' := 177) (L' := #[.val (.int p1), .val (.int p2), .val (.int c0), .val (.int c1), .val (.int (0 : Int32)), .val (.int c2), .val (.int c3), .val (.int (0 : Int32)), .val (.ref na15), .val (.ref na16), .val (.int (0 : Int32)), .val (.int (0 : Int32)), .unset, .unset]) X16 hx rfl (hb hby at_175) rfl ?_
          refine og_iload (pc' := 179) X16 hx rfl (hb hby at_177) rfl ?_
          refine og_if_ne (pc1 := 191) (pc2 := 182) X16 hx (hb hby at_179) (by decide) (by decide) rfl (fun q => absurd q (by decide)) (fun _ => ?_)
          refine og_iload (pc' := 184) X16 hx rfl (hb hby at_182) rfl ?_
          refine og_if_ne (pc1 := 191) (pc2 := 187) X16 hx (hb hby at_184) (by decide) (by decide) rfl (fun q => absurd q (by decide)) (fun _ => ?_)
          refine og_iconst (pc' := 188) (v := (1 : Int32)) X16 hx rfl (hb hby at_187) rfl ?_
          refine og_goto (pc' := 192) X16 hx (hb hby at_188) (by decide) (by decide) ?_
          refine og_istore (pc' := 194) (L' := #[.val (.int p1), .val (.int p2), .val (.int c0), .val (.int c1), .val (.int (0 : Int32)), .val (.int c2), .val (.int c3), .val (.int (0 : Int32)), .val (.ref na15), .val (.ref na16), .val (.int (0 : Int32)), .val (.int (0 : Int32)), .val (.int (1 : Int32)), .unset]) X16 hx rfl (hb hby at_192) rfl ?_
          refine og_new (pc' := 197) (cells' := 5) (slots' := 12) X16 hx hZ hown (ow30 hw) (ow31 hw) (ow32 hw) e16 (hb hby at_194) rfl rfl rfl (by decide) (by decide) (fun T26 h26 nb26 X26 e26 E26 q26 E_nb26 D26 B26 => ?_)
          have s_nb26 : h16.size ≤ nb26 := Nat.le_of_eq q26.symm; have g_nb26 : n0 ≤ nb26 := Nat.le_trans (own_n0 O) s_nb26; have sz_nb26 : h0.size ≤ nb26 := Nat.le_trans K.1 s_nb26; have ne_na15_nb26 : na15 ≠ nb26 := Nat.ne_of_lt (Nat.lt_of_lt_of_le E_na15.lt s_nb26); have ne_nb15_nb26 : nb15 ≠ nb26 := Nat.ne_of_lt (Nat.lt_of_lt_of_le V_nb15.lt s_nb26); have ne_na16_nb26 : na16 ≠ nb26 := Nat.ne_of_lt (Nat.lt_of_lt_of_le E_na16.lt s_nb26)
          have ne_nb16_nb26 : nb16 ≠ nb26 := Nat.ne_of_lt (Nat.lt_of_lt_of_le V_nb16.lt s_nb26)
          have E_na15 := E_na15.ext E26; have F_value_na15 := F_value_na15.ext E26; have F_coder_na15 := F_coder_na15.ext E26; have V_nb15 := V_nb15.ext E26; have E_na16 := E_na16.ext E26; have F_value_na16 := F_value_na16.ext E26
          have F_coder_na16 := F_coder_na16.ext E26; have V_nb16 := V_nb16.ext E26; have O := O.ext E26; have K := K.ext E26; have hk := Nat.le_trans hk E26.1; have CR := CR.trans (CHr.ext E26 CR.1)
          have F_schema_nb26 : Fld Z h26 nb26 "com/example/tombstone/tombstone/config/TableName" "schema" "Ljava/lang/String;" .null := D26 (Or.inr (ow56 hw)) (ty := (.object "java/lang/String")) (by decide)
          have F_name_nb26 : Fld Z h26 nb26 "com/example/tombstone/tombstone/config/TableName" "name" "Ljava/lang/String;" .null := D26 (Or.inr (ow58 hw)) (ty := (.object "java/lang/String")) (by decide)
          refine og_dup (pc' := 198) X26 hx rfl (hb hby at_197) rfl ?_
          refine og_aload (pc' := 200) X26 hx rfl rfl (hb hby at_198) rfl ?_
          refine og_aload (pc' := 202) X26 hx rfl rfl (hb hby at_200) rfl ?_
          refine og_specialW (pc' := 205) (cells' := 9) (slots' := 60) (W := 1) X26 hx hZ (rm_tn l Z a0 hw nb26 na15 na16 nb15 nb16 k15 k16 (1 : Int32) (1 : Int32) _ _ (by decide) (by decide) h26 n0 O hEL E_nb26 F_schema_nb26 F_name_nb26 E_na15 F_value_na15 F_coder_na15 V_nb15 E_na16 F_value_na16 F_coder_na16 V_nb16 g_nb26 ne_na15_nb26 ne_na16_nb26 ne_nb15_nb26 ne_nb16_nb26) hEL hS hk CR.1 all0 rfl hown (ow33 hw) (ow34 hw) (ow32 hw) (ow35 hw) (by decide) (by rw [hml]; rfl) e26 opd_18 [(.ref na15), (.ref na16)] [(.ref nb26)] rfl rfl rfl rfl (by decide) (by decide) rfl rfl (by decide) (by decide) (hb hby at_202) rfl (fun v27 T27 h27 L27 kk27 X27 e27 hS hk hZ hown cr27 z27 => ?_)
          obtain ⟨rfl, Nq27, K27, F_schema_nb26', F_name_nb26'⟩ := z27; have N := Fr.app N Nq27
          have E_na15 := E_na15.keep K27; have F_value_na15 := F_value_na15.keep K27 (ninS ne_na15_nb26 nin0); have F_coder_na15 := F_coder_na15.keep K27 (ninS ne_na15_nb26 nin0); have V_nb15 := V_nb15.keep K27 (ninS ne_nb15_nb26 nin0); have E_na16 := E_na16.keep K27; have F_value_na16 := F_value_na16.keep K27 (ninS ne_na16_nb26 nin0)
          have F_coder_na16 := F_coder_na16.keep K27 (ninS ne_na16_nb26 nin0); have V_nb16 := V_nb16.keep K27 (ninS ne_nb16_nb26 nin0); have E_nb26 := E_nb26.keep K27; have O := O.keep K27 (allS g_nb26 all0); have K := K.trans K27 (allS (Or.inr sz_nb26) all0); have CR := CR.trans cr27
          have F_schema_nb26 := F_schema_nb26'; have F_name_nb26 := F_name_nb26'
          show OG p e below _ (T27.setTop (mkF m 205 #[.val (.int p1), .val (.int p2), .val (.int c0), .val (.int c1), .val (.int (0 : Int32)), .val (.int c2), .val (.int c3), .val (.int (0 : Int32)), .val (.ref na15), .val (.ref na16), .val (.int (0 : Int32)), .val (.int (0 : Int32)), .val (.int (1 : Int32)), .unset] [(.ref nb26)]))
          refine og_astore (pc' := 207) (L' := #[.val (.int p1), .val (.int p2), .val (.int c0), .val (.int c1), .val (.int (0 : Int32)), .val (.int c2), .val (.int c3), .val (.int (0 : Int32)), .val (.ref na15), .val (.ref na16), .val (.int (0 : Int32)), .val (.int (0 : Int32)), .val (.int (1 : Int32)), .val (.ref nb26)]) X27 hx rfl rfl (hb hby at_205) rfl ?_
          refine og_aload (pc' := 209) X27 hx rfl rfl (hb hby at_207) rfl ?_
          refine og_virtual (pc' := 212) (cells' := 9) (slots' := 60) (W := 0) X27 hx hZ (rm_w11 l Z a0 hw nb26 na15 na16 nb15 nb16 k15 k16 c0 c2 hc0 hc2 cs hcs 1 (by simp [hc130, hc155]) h27 n0 O F_schema_nb26 F_name_nb26 E_na15 F_value_na15 F_coder_na15 V_nb15 E_na16 F_value_na16 F_coder_na16 V_nb16 S_CS) hown (ow59 hw) (ow60 hw) (own_nf hZ (ow62 hw)) (ow62 hw) (ow61 hw) (ow32 hw) (ow63 hw) (by decide) (by rw [hml]; rfl) e27 opd_11 [] [] rfl rfl rfl rfl (by decide) (by decide) rfl rfl (by decide) (by decide) E_nb26 (hb hby at_209) rfl (fun v28 T28 h28 L28 X28 e28 z28 => ?_)
          obtain ⟨rfl, Nq28, hq28⟩ := z28; replace e28 := e28.trans hq28; have N := Fr.app N Nq28
          show OG p e below _ (T28.setTop (mkF m 212 #[.val (.int p1), .val (.int p2), .val (.int c0), .val (.int c1), .val (.int (0 : Int32)), .val (.int c2), .val (.int c3), .val (.int (0 : Int32)), .val (.ref na15), .val (.ref na16), .val (.int (0 : Int32)), .val (.int (0 : Int32)), .val (.int (1 : Int32)), .val (.ref nb26)] [(.int (1 : Int32))]))
          refine og_iload (pc' := 214) X28 hx rfl (hb hby at_212) rfl ?_
          refine og_icmp_ne (pc1 := 221) (pc2 := 217) X28 hx (hb hby at_214) (by decide) (by decide) rfl (fun q => absurd q (by decide)) (fun _ => ?_)
          refine og_iconst (pc' := 218) (v := (1 : Int32)) X28 hx rfl (hb hby at_217) rfl ?_
          refine og_goto (pc' := 222) X28 hx (hb hby at_218) (by decide) (by decide) ?_
          refine og_retNW X28 hx hZ hlk hEL hS e28 es hk CR hret (by simp) (hb hby at_222) (by decide) (by decide) ?_
          exact ⟨rfl, N⟩
    · -- pc 53
      refine og_iconst (pc' := 54) (v := (1 : Int32)) X14 hx rfl (hb hby at_53) rfl ?_
      refine og_goto (pc' := 58) X14 hx (hb hby at_54) (by decide) (by decide) ?_
      refine og_istore (pc' := 60) (L' := #[.val (.int p1), .val (.int p2), .val (.int c0), .val (.int c1), .val (.int (0 : Int32)), .val (.int c2), .val (.int c3), .val (.int (1 : Int32)), .unset, .unset, .unset, .unset, .unset, .unset]) X14 hx rfl (hb hby at_58) rfl ?_
      refine og_iload (pc' := 62) X14 hx rfl (hb hby at_60) rfl ?_
      refine og_if_eq (pc1 := 86) (pc2 := 65) X14 hx (hb hby at_62) (by decide) (by decide) rfl (fun _ => ?_) (fun q => absurd q (by decide))
      refine og_iloadN (pc' := 87) X14 hx rfl (hb hby at_86) rfl ?_
      refine og_static (pc' := 90) (cells' := 2) (slots' := 5) (W := 0) X14 hx hZ (rm_vo l Z a0 hw c0 (own_le255 hc0) cs hcs h0 n0 O S_CS) hown (ow4 hw) (ow5 hw) (ow6 hw) (ow7 hw) (by decide) (by rw [hml]; rfl) e14 opd_17 [(.int c0)] [] rfl rfl rfl rfl (by decide) (by decide) rfl rfl (by decide) (by decide) (hb hby at_87) rfl (fun v29 T29 h29 L29 X29 e29 z29 => ?_)
      obtain ⟨na29, nb29, k29, rfl, Nq29, K29, sa29, sb29, E_na29, F_value_na29, F_coder_na29, V_nb29⟩ := z29; have N := Fr.app N Nq29
      have s_na29 : h0.size ≤ na29 := sa29; have g_na29 : n0 ≤ na29 := Nat.le_trans (own_n0 O) s_na29; have sz_na29 : h0.size ≤ na29 := Nat.le_trans K.1 s_na29
      have s_nb29 : h0.size ≤ nb29 := sb29; have g_nb29 : n0 ≤ nb29 := Nat.le_trans (own_n0 O) s_nb29; have sz_nb29 : h0.size ≤ nb29 := Nat.le_trans K.1 s_nb29
      have O := O.keep K29 all0; have K := K.trans K29 all0; have hk := Nat.le_trans hk K29.1; have CR := CR.trans (CHr.keep K29 sf0 CR.1)
      have ne_na29_nb29 : na29 ≠ nb29 := fun q => own_strarr E_na29 V_nb29 (ow14 hw) q
      show OG p e below _ (T29.setTop (mkF m 90 #[.val (.int p1), .val (.int p2), .val (.int c0), .val (.int c1), .val (.int (0 : Int32)), .val (.int c2), .val (.int c3), .val (.int (1 : Int32)), .unset, .unset, .unset, .unset, .unset, .unset] [(.ref na29)]))
      refine og_astore (pc' := 92) (L' := #[.val (.int p1), .val (.int p2), .val (.int c0), .val (.int c1), .val (.int (0 : Int32)), .val (.int c2), .val (.int c3), .val (.int (1 : Int32)), .val (.ref na29), .unset, .unset, .unset, .unset, .unset]) X29 hx rfl rfl (hb hby at_90) rfl ?_
      refine og_iload (pc' := 94) X29 hx rfl (hb hby at_92) rfl ?_
      refine og_if_eq (pc1 := 120) (pc2 := 97) X29 hx (hb hby at_94) (by decide) (by decide) rfl (fun q => absurd q (by decide)) (fun _ => ?_)
      refine og_new (pc' := 100) (cells' := 3) (slots' := 9) X29 hx hZ hown (ow105 hw) (ow14 hw) (ow6 hw) e29 (hb hby at_97) rfl rfl rfl (by decide) (by decide) (fun T30 h30 nb30 X30 e30 E30 q30 E_nb30 D30 B30 => ?_)
      have s_nb30 : h29.size ≤ nb30 := Nat.le_of_eq q30.symm; have g_nb30 : n0 ≤ nb30 := Nat.le_trans (own_n0 O) s_nb30; have sz_nb30 : h0.size ≤ nb30 := Nat.le_trans K.1 s_nb30; have ne_na29_nb30 : na29 ≠ nb30 := Nat.ne_of_lt (Nat.lt_of_lt_of_le E_na29.lt s_nb30); have ne_nb29_nb30 : nb29 ≠ nb30 := Nat.ne_of_lt (Nat.lt_of_lt_of_le V_nb29.lt s_nb30)
      have E_na29 := E_na29.ext E30; have F_value_na29 := F_value_na29.ext E30; have F_coder_na29 := F_coder_na29.ext E30; have V_nb29 := V_nb29.ext E30; have O := O.ext E30; have K := K.ext E30
      have hk := Nat.le_trans hk E30.1; have CR := CR.trans (CHr.ext E30 CR.1)
      have F_value_nb30 : Fld Z h30 nb30 "java/lang/String" "value" "[B" .null := D30 (Or.inr (ow27 hw)) (ty := (.array .byte)) (by decide)
      have F_coder_nb30 : Fld Z h30 nb30 "java/lang/String" "coder" "B" (.int (0 : Int32)) := D30 (Or.inr (ow29 hw)) (ty := .byte) (by decide)
      refine og_dup (pc' := 101) X30 hx rfl (hb hby at_100) rfl ?_
      refine og_iconst (pc' := 102) (v := (2 : Int32)) X30 hx rfl (hb hby at_101) rfl ?_
      refine og_newarray (pc' := 104) (cells' := 4) (slots' := 11) (cap := 2) (ty := .char) X30 hx hZ rfl (ow106 hw) e30 (by decide) (by decide) (by decide) (hb hby at_102) rfl rfl rfl (by decide) (by decide) (fun T31 h31 nb31 kA31 X31 e31 E31 q31 V_nb31 => ?_)
      have s_nb31 : h30.size ≤ nb31 := Nat.le_of_eq q31.symm; have g_nb31 : n0 ≤ nb31 := Nat.le_trans (own_n0 O) s_nb31; have sz_nb31 : h0.size ≤ nb31 := Nat.le_trans K.1 s_nb31; have ne_na29_nb31 : na29 ≠ nb31 := Nat.ne_of_lt (Nat.lt_of_lt_of_le E_na29.lt s_nb31); have ne_nb29_nb31 : nb29 ≠ nb31 := Nat.ne_of_lt (Nat.lt_of_lt_of_le V_nb29.lt s_nb31); have ne_nb30_nb31 : nb30 ≠ nb31 := Nat.ne_of_lt (Nat.lt_of_lt_of_le E_nb30.lt s_nb31)
      have E_na29 := E_na29.ext E31; have F_value_na29 := F_value_na29.ext E31; have F_coder_na29 := F_coder_na29.ext E31; have V_nb29 := V_nb29.ext E31; have E_nb30 := E_nb30.ext E31; have F_value_nb30 := F_value_nb30.ext E31
      have F_coder_nb30 := F_coder_nb30.ext E31; have O := O.ext E31; have K := K.ext E31; have hk := Nat.le_trans hk E31.1; have CR := CR.trans (CHr.ext E31 CR.1)
      have V_nb31 : Arv Z h31 nb31 kA31 .char (2 : Int32) [(.int (0 : Int32)), (.int (0 : Int32))] (.int (0 : Int32)) := V_nb31.pad (pad_rep [] (.int (0 : Int32)) 2)
      refine og_dup (pc' := 105) X31 hx rfl (hb hby at_104) rfl ?_
      refine og_iconst (pc' := 106) (v := (0 : Int32)) X31 hx rfl (hb hby at_105) rfl ?_
      refine og_iload (pc' := 108) X31 hx rfl (hb hby at_106) rfl ?_
      refine og_castore (pc' := 109) X31 hx hZ e31 V_nb31 ⟨by decide, by decide⟩ 0 (by decide) (Nat.le_of_ble_eq_true rfl) (hb hby at_108) rfl (fun T32 h32 X32 e32 W32 V32 => ?_)
      have sf32 : Safe Z own_EL s.vm h31 nb31 := own_safe0; have E_na29 := E_na29.wr W32; have F_value_na29 := F_value_na29.other W32 (Or.inl ne_na29_nb31); have F_coder_na29 := F_coder_na29.other W32 (Or.inl ne_na29_nb31); have V_nb29 := V_nb29.other W32 ne_nb29_nb31; have E_nb30 := E_nb30.wr W32
      have F_value_nb30 := F_value_nb30.other W32 (Or.inl ne_nb30_nb31); have F_coder_nb30 := F_coder_nb30.other W32 (Or.inl ne_nb30_nb31); have O := O.wr W32 g_nb31; have K := K.wr W32 (Or.inr sz_nb31); have hk := Nat.le_trans hk (Keep.of_wr W32).1; have CR := CR.trans (CHr.wr W32 sf32 CR.1)
      have N := Fr.snoc X32 N g_nb31
      have V_nb31 : Arv Z h32 nb31 kA31 .char (2 : Int32) [(.int (nar .char c2)), (.int (0 : Int32))] (.int (0 : Int32)) := V32
      rw [own_nc hc2] at V_nb31
      refine og_dup (pc' := 110) X32 hx rfl (hb hby at_109) rfl ?_
      refine og_iconst (pc' := 111) (v := (1 : Int32)) X32 hx rfl (hb hby at_110) rfl ?_
      refine og_iload (pc' := 113) X32 hx rfl (hb hby at_111) rfl ?_
      refine og_castore (pc' := 114) X32 hx hZ e32 V_nb31 ⟨by decide, by decide⟩ 1 (by decide) (Nat.le_of_ble_eq_true rfl) (hb hby at_113) rfl (fun T33 h33 X33 e33 W33 V33 => ?_)
      have sf33 : Safe Z own_EL s.vm h32 nb31 := own_safe0; have E_na29 := E_na29.wr W33; have F_value_na29 := F_value_na29.other W33 (Or.inl ne_na29_nb31); have F_coder_na29 := F_coder_na29.other W33 (Or.inl ne_na29_nb31); have V_nb29 := V_nb29.other W33 ne_nb29_nb31; have E_nb30 := E_nb30.wr W33
      have F_value_nb30 := F_value_nb30.other W33 (Or.inl ne_nb30_nb31); have F_coder_nb30 := F_coder_nb30.other W33 (Or.inl ne_nb30_nb31); have O := O.wr W33 g_nb31; have K := K.wr W33 (Or.inr sz_nb31); have hk := Nat.le_trans hk (Keep.of_wr W33).1; have CR := CR.trans (CHr.wr W33 sf33 CR.1)
      have N := Fr.snoc X33 N g_nb31
      have V_nb31 : Arv Z h33 nb31 kA31 .char (2 : Int32) [(.int c2), (.int (nar .char c3))] (.int (0 : Int32)) := V33
      rw [own_nc hc3] at V_nb31
      refine og_special (pc' := 117) (cells' := 5) (slots' := 13) (W := 1) X33 hx hZ (rm_sn_2 l Z a0 hw nb30 nb31 kA31 c2 c3 (own_le255 hc2) (own_le255 hc3) cs hcs h33 n0 O E_nb30 F_value_nb30 F_coder_nb30 V_nb31 S_CS g_nb30 (Ne.symm ne_nb30_nb31)) rfl hown (ow107 hw) (ow108 hw) (ow6 hw) (ow109 hw) (by decide) (by rw [hml]; rfl) e33 opd_19 [(.ref nb31)] [(.ref nb30)] rfl rfl rfl rfl (by decide) (by decide) rfl rfl (by decide) (by decide) (hb hby at_114) rfl (fun v34 T34 h34 L34 X34 e34 z34 => ?_)
      obtain ⟨nb34, k34, rfl, Nq34, K34, sb34, E_nb30', F_value_nb30', F_coder_nb30', V_nb34⟩ := z34; have N := Fr.app N Nq34
      have s_nb34 : h33.size ≤ nb34 := sb34; have g_nb34 : n0 ≤ nb34 := Nat.le_trans (own_n0 O) s_nb34; have sz_nb34 : h0.size ≤ nb34 := Nat.le_trans K.1 s_nb34; have ne_na29_nb34 : na29 ≠ nb34 := Nat.ne_of_lt (Nat.lt_of_lt_of_le E_na29.lt s_nb34); have ne_nb29_nb34 : nb29 ≠ nb34 := Nat.ne_of_lt (Nat.lt_of_lt_of_le V_nb29.lt s_nb34); have ne_nb30_nb34 : nb30 ≠ nb34 := Nat.ne_of_lt (Nat.lt_of_lt_of_le E_nb30.lt s_nb34)
      have ne_nb31_nb34 : nb31 ≠ nb34 := Nat.ne_of_lt (Nat.lt_of_lt_of_le V_nb31.lt s_nb34)
      have sf34 : ∀ x ∈ ([nb30] : List Addr), Safe Z own_EL s.vm h33 x := (sfS own_safe0 sf0); have E_na29 := E_na29.keep K34; have F_value_na29 := F_value_na29.keep K34 (ninS ne_na29_nb30 nin0); have F_coder_na29 := F_coder_na29.keep K34 (ninS ne_na29_nb30 nin0); have V_nb29 := V_nb29.keep K34 (ninS ne_nb29_nb30 nin0); have E_nb30 := E_nb30.keep K34
      have V_nb31 := V_nb31.keep K34 (ninS (Ne.symm ne_nb30_nb31) nin0); have O := O.keep K34 (allS g_nb30 all0); have K := K.trans K34 (allS (Or.inr sz_nb30) all0); have hk := Nat.le_trans hk K34.1; have CR := CR.trans (CHr.keep K34 sf34 CR.1)
      have E_nb30 := E_nb30'; have F_value_nb30 := F_value_nb30'; have F_coder_nb30 := F_coder_nb30'
      show OG p e below _ (T34.setTop (mkF m 117 #[.val (.int p1), .val (.int p2), .val (.int c0), .val (.int c1), .val (.int (0 : Int32)), .val (.int c2), .val (.int c3), .val (.int (1 : Int32)), .val (.ref na29), .unset, .unset, .unset, .unset, .unset] [(.ref nb30)]))
      refine og_goto (pc' := 125) X34 hx (hb hby at_117) (by decide) (by decide) ?_
      refine og_astore (pc' := 127) (L' := #[.val (.int p1), .val (.int p2), .val (.int c0), .val (.int c1), .val (.int (0 : Int32)), .val (.int c2), .val (.int c3), .val (.int (1 : Int32)), .val (.ref na29), .val (.ref nb30), .unset, .unset, .unset, .unset]) X34 hx rfl rfl (hb hby at_125) rfl ?_
      refine og_iloadN (pc' := 128) X34 hx rfl (hb hby at_127) rfl ?_
      refine og_bipush (pc' := 130) (v := (46 : Int32)) X34 hx rfl (hb hby at_128) rfl ?_
      refine og_icmp_eq (pc1 := 144) (pc2 := 133) X34 hx (hb hby at_130) (by decide) (by decide) rfl (fun hc130 => ?_) (fun hc130 => ?_)
      · -- pc 144
        refine og_iconst (pc' := 145) (v := (1 : Int32)) X34 hx rfl (hb hby at_144) rfl ?_
        refine og_goto (pc' := 149) X34 hx (hb hby at_145) (by decide) (by decide) ?_
        refine og_istore (pc' := 151) (L' := #[.val (.int p1), .val (.int p2), .val (.int c0), .val (.int c1), .val (.int (0 : Int32)), .val (.int c2), .val (.int c3), .val (.int (1 : Int32)), .val (.ref na29), .val (.ref nb30), .val (.int (1 : Int32)), .unset, .unset, .unset]) X34 hx rfl (hb hby at_149) rfl ?_
        refine og_iload (pc' := 153) X34 hx rfl (hb hby at_151) rfl ?_
        refine og_bipush (pc' := 155) (v := (46 : Int32)) X34 hx rfl (hb hby at_153) rfl ?_
        refine og_icmp_eq (pc1 := 170) (pc2 := 158) X34 hx (hb hby at_155) (by decide) (by decide) rfl (fun hc155 => ?_) (fun hc155 => ?_)
        · -- pc 170
          refine og_iconst (pc' := 171) (v := (1 : Int32)) X34 hx rfl (hb hby at_170) rfl ?_
          refine og_goto (pc' := 175) X34 hx (hb hby at_171) (by decide) (by decide) ?_
          refine og_istore (pc' := 177) (L' := #[.val (.int p1), .val (.int p2), .val (.int c0), .val (.int c1), .val (.int (0 : Int32)), .val (.int c2), .val (.int c3), .val (.int (1 : Int32)), .val (.ref na29), .val (.ref nb30), .val (.int (1 : Int32)), .val (.int (1 : Int32)), .unset, .unset]) X34 hx rfl (hb hby at_175) rfl ?_
          refine og_iload (pc' := 179) X34 hx rfl (hb hby at_177) rfl ?_
          refine og_if_ne (pc1 := 191) (pc2 := 182) X34 hx (hb hby at_179) (by decide) (by decide) rfl (fun _ => ?_) (fun q => absurd q (by decide))
          refine og_iconst (pc' := 192) (v := (0 : Int32)) X34 hx rfl (hb hby at_191) rfl ?_
          refine og_istore (pc' := 194) (L' := #[.val (.int p1), .val (.int p2), .val (.int c0), .val (.int c1), .val (.int (0 : Int32)), .val (.int c2), .val (.int c3), .val (.int (1 : Int32)), .val (.ref na29), .val (.ref nb30), .val (.int (1 : Int32)), .val (.int (1 : Int32)), .val (.int (0 : Int32)), .unset]) X34 hx rfl (hb hby at_192) rfl ?_
          refine og_new (pc' := 197) (cells' := 6) (slots' := 15) X34 hx hZ hown (ow30 hw) (ow31 hw) (ow32 hw) e34 (hb hby at_194) rfl rfl rfl (by decide) (by decide) (fun T35 h35 nb35 X35 e35 E35 q35 E_nb35 D35 B35 => ?_)
          have s_nb35 : h34.size ≤ nb35 := Nat.le_of_eq q35.symm; have g_nb35 : n0 ≤ nb35 := Nat.le_trans (own_n0 O) s_nb35; have sz_nb35 : h0.size ≤ nb35 := Nat.le_trans K.1 s_nb35; have ne_na29_nb35 : na29 ≠ nb35 := Nat.ne_of_lt (Nat.lt_of_lt_of_le E_na29.lt s_nb35); have ne_nb29_nb35 : nb29 ≠ nb35 := Nat.ne_of_lt (Nat.lt_of_lt_of_le V_nb29.lt s_nb35); have ne_nb30_nb35 : nb30 ≠ nb35 := Nat.ne_of_lt (Nat.lt_of_lt_of_le E_nb30.lt s_nb35)
          have ne_nb31_nb35 : nb31 ≠ nb35 := Nat.ne_of_lt (Nat.lt_of_lt_of_le V_nb31.lt s_nb35); have ne_nb34_nb35 : nb34 ≠ nb35 := Nat.ne_of_lt (Nat.lt_of_lt_of_le V_nb34.lt s_nb35)
          have E_na29 := E_na29.ext E35; have F_value_na29 := F_value_na29.ext E35; have F_coder_na29 := F_coder_na29.ext E35; have V_nb29 := V_nb29.ext E35; have E_nb30 := E_nb30.ext E35; have V_nb31 := V_nb31.ext E35
          have F_value_nb30 := F_value_nb30.ext E35; have F_coder_nb30 := F_coder_nb30.ext E35; have V_nb34 := V_nb34.ext E35; have O := O.ext E35; have K := K.ext E35; have hk := Nat.le_trans hk E35.1
          have CR := CR.trans (CHr.ext E35 CR.1)
          have F_schema_nb35 : Fld Z h35 nb35 "com/example/tombstone/tombstone/config/TableName" "schema" "Ljava/lang/String;" .null := D35 (Or.inr (ow56 hw)) (ty := (.object "java/lang/String")) (by decide)
          have F_name_nb35 : Fld Z h35 nb35 "com/example/tombstone/tombstone/config/TableName" "name" "Ljava/lang/String;" .null := D35 (Or.inr (ow58 hw)) (ty := (.object "java/lang/String")) (by decide)
          refine og_dup (pc' := 198) X35 hx rfl (hb hby at_197) rfl ?_
          refine og_aload (pc' := 200) X35 hx rfl rfl (hb hby at_198) rfl ?_
          refine og_aload (pc' := 202) X35 hx rfl rfl (hb hby at_200) rfl ?_
          refine og_specialW (pc' := 205) (cells' := 10) (slots' := 63) (W := 1) X35 hx hZ (rm_tn l Z a0 hw nb35 na29 nb30 nb29 nb34 k29 k34 (1 : Int32) (2 : Int32) _ _ (by decide) (by decide) h35 n0 O hEL E_nb35 F_schema_nb35 F_name_nb35 E_na29 F_value_na29 F_coder_na29 V_nb29 E_nb30 F_value_nb30 F_coder_nb30 V_nb34 g_nb35 ne_na29_nb35 ne_nb30_nb35 ne_nb29_nb35 ne_nb34_nb35) hEL hS hk CR.1 all0 rfl hown (ow33 hw) (ow34 hw) (ow32 hw) (ow35 hw) (by decide) (by rw [hml]; rfl) e35 opd_18 [(.ref na29), (.ref nb30)] [(.ref nb35)] rfl rfl rfl rfl (by decide) (by decide) rfl rfl (by decide) (by decide) (hb hby at_202) rfl (fun v36 T36 h36 L36 kk36 X36 e36 hS hk hZ hown cr36 z36 => ?_)
          obtain ⟨rfl, Nq36, K36, F_schema_nb35', F_name_nb35'⟩ := z36; have N := Fr.app N Nq36
          have E_na29 := E_na29.keep K36; have F_value_na29 := F_value_na29.keep K36 (ninS ne_na29_nb35 nin0); have F_coder_na29 := F_coder_na29.keep K36 (ninS ne_na29_nb35 nin0); have V_nb29 := V_nb29.keep K36 (ninS ne_nb29_nb35 nin0); have E_nb30 := E_nb30.keep K36; have V_nb31 := V_nb31.keep K36 (ninS ne_nb31_nb35 nin0)
          have F_value_nb30 := F_value_nb30.keep K36 (ninS ne_nb30_nb35 nin0); have F_coder_nb30 := F_coder_nb30.keep K36 (ninS ne_nb30_nb35 nin0); have V_nb34 := V_nb34.keep K36 (ninS ne_nb34_nb35 nin0); have E_nb35 := E_nb35.keep K36; have O := O.keep K36 (allS g_nb35 all0); have K := K.trans K36 (allS (Or.inr sz_nb35) all0)
          have CR := CR.trans cr36
          have F_schema_nb35 := F_schema_nb35'; have F_name_nb35 := F_name_nb35'
          show OG p e below _ (T36.setTop (mkF m 205 #[.val (.int p1), .val (.int p2), .val (.int c0), .val (.int c1), .val (.int (0 : Int32)), .val (.int c2), .val (.int c3), .val (.int (1 : Int32)), .val (.ref na29), .val (.ref nb30), .val (.int (1 : Int32)), .val (.int (1 : Int32)), .val (.int (0 : Int32)), .unset] [(.ref nb35)]))
          refine og_astore (pc' := 207) (L' := #[.val (.int p1), .val (.int p2), .val (.int c0), .val (.int c1), .val (.int (0 : Int32)), .val (.int c2), .val (.int c3), .val (.int (1 : Int32)), .val (.ref na29), .val (.ref nb30), .val (.int (1 : Int32)), .val (.int (1 : Int32)), .val (.int (0 : Int32)), .val (.ref nb35)]) X36 hx rfl rfl (hb hby at_205) rfl ?_
          refine og_aload (pc' := 209) X36 hx rfl rfl (hb hby at_207) rfl ?_
          refine og_virtual (pc' := 212) (cells' := 10) (slots' := 63) (W := 0) X36 hx hZ (rm_w12 l Z a0 hw nb35 na29 nb30 nb29 nb34 k29 k34 c0 c2 c3 hc0 hc2 hc3 cs hcs 0 (by simp [hc130, hc155]) h36 n0 O F_schema_nb35 F_name_nb35 E_na29 F_value_na29 F_coder_na29 V_nb29 E_nb30 F_value_nb30 F_coder_nb30 V_nb34 S_CS) hown (ow59 hw) (ow60 hw) (own_nf hZ (ow62 hw)) (ow62 hw) (ow61 hw) (ow32 hw) (ow63 hw) (by decide) (by rw [hml]; rfl) e36 opd_11 [] [] rfl rfl rfl rfl (by decide) (by decide) rfl rfl (by decide) (by decide) E_nb35 (hb hby at_209) rfl (fun v37 T37 h37 L37 X37 e37 z37 => ?_)
          obtain ⟨rfl, Nq37, hq37⟩ := z37; replace e37 := e37.trans hq37; have N := Fr.app N Nq37
          show OG p e below _ (T37.setTop (mkF m 212 #[.val (.int p1), .val (.int p2), .val (.int c0), .val (.int c1), .val (.int (0 : Int32)), .val (.int c2), .val (.int c3), .val (.int (1 : Int32)), .val (.ref na29), .val (.ref nb30), .val (.int (1 : Int32)), .val (.int (1 : Int32)), .val (.int (0 : Int32)), .val (.ref nb35)] [(.int (0 : Int32))]))
          refine og_iload (pc' := 214) X37 hx rfl (hb hby at_212) rfl ?_
          refine og_icmp_ne (pc1 := 221) (pc2 := 217) X37 hx (hb hby at_214) (by decide) (by decide) rfl (fun q => absurd q (by decide)) (fun _ => ?_)
          refine og_iconst (pc' := 218) (v := (1 : Int32)) X37 hx rfl (hb hby at_217) rfl ?_
          refine og_goto (pc' := 222) X37 hx (hb hby at_218) (by decide) (by decide) ?_
          refine og_retNW X37 hx hZ hlk hEL hS e37 es hk CR hret (by simp) (hb hby at_222) (by decide) (by decide) ?_
          exact ⟨rfl, N⟩
        · -- pc 158
          refine og_iload (pc' := 160) X34 hx rfl (hb hby at_158) rfl ?_
          refine og_if_eq (pc1 := 174) (pc2 := 163) X34 hx (hb hby at_160) (by decide) (by decide) rfl (fun q => absurd q (by decide)) (fun _ => ?_)
          refine og_iload (pc' := 165) X34 hx rfl (hb hby at_163) rfl ?_
          refine og_bipush (pc' := 167) (v := (46 : Int32)) X34 hx rfl (hb hby at_165) rfl ?_
          refine og_icmp_ne (pc1 := 174) (pc2 := 170) X34 hx (hb hby at_167) (by decide) (by decide) rfl (fun hc167 => ?_) (fun hc167 => ?_)
          · -- pc 174
            refine og_iconst (pc' := 175) (v := (0 : Int32)) X34 hx rfl (hb hby at_174) rfl ?_
            refine og_istore (pc' := 177) (L' := #[.val (.int p1), .val (.int p2), .val (.int c0), .val (.int c1), .val (.int (0 : Int32)), .val (.int c2), .val (.int c3), .val (.int (1 : Int32)), .val (.ref na29), .val (.ref nb30), .val (.int (1 : Int32)), .val (.int (0 : Int32)), .unset, .unset]) X34 hx rfl (hb hby at_175) rfl ?_
            refine og_iload (pc' := 179) X34 hx rfl (hb hby at_177) rfl ?_
            refine og_if_ne (pc1 := 191) (pc2 := 182) X34 hx (hb hby at_179) (by decide) (by decide) rfl (fun _ => ?_) (fun q => absurd q (by decide))
            refine og_iconst (pc' := 192) (v := (0 : Int32)) X34 hx rfl (hb hby at_191) rfl ?_
            refine og_istore (pc' := 194) (L' := #[.val (.int p1), .val (.int p2), .val (.int c0), .val (.int c1), .val (.int (0 : Int32)), .val (.int c2), .val (.int c3), .val (.int (1 : Int32)), .val (.ref na29), .val (.ref nb30), .val (.int (1 : Int32)), .val (.int (0 : Int32)), .val (.int (0 : Int32)), .unset]) X34 hx rfl (hb hby at_192) rfl ?_
            refine og_new (pc' := 197) (cells' := 6) (slots' := 15) X34 hx hZ hown (ow30 hw) (ow31 hw) (ow32 hw) e34 (hb hby at_194) rfl rfl rfl (by decide) (by decide) (fun T38 h38 nb38 X38 e38 E38 q38 E_nb38 D38 B38 => ?_)
            have s_nb38 : h34.size ≤ nb38 := Nat.le_of_eq q38.symm; have g_nb38 : n0 ≤ nb38 := Nat.le_trans (own_n0 O) s_nb38; have sz_nb38 : h0.size ≤ nb38 := Nat.le_trans K.1 s_nb38; have ne_na29_nb38 : na29 ≠ nb38 := Nat.ne_of_lt (Nat.lt_of_lt_of_le E_na29.lt s_nb38); have ne_nb29_nb38 : nb29 ≠ nb38 := Nat.ne_of_lt (Nat.lt_of_lt_of_le V_nb29.lt s_nb38); have ne_nb30_nb38 : nb30 ≠ nb38 := Nat.ne_of_lt (Nat.lt_of_lt_of_le E_nb30.lt s_nb38)
            have ne_nb31_nb38 : nb31 ≠ nb38 := Nat.ne_of_lt (Nat.lt_of_lt_of_le V_nb31.lt s_nb38); have ne_nb34_nb38 : nb34 ≠ nb38 := Nat.ne_of_lt (Nat.lt_of_lt_of_le V_nb34.lt s_nb38)
            have E_na29 := E_na29.ext E38; have F_value_na29 := F_value_na29.ext E38; have F_coder_na29 := F_coder_na29.ext E38; have V_nb29 := V_nb29.ext E38; have E_nb30 := E_nb30.ext E38; have V_nb31 := V_nb31.ext E38
            have F_value_nb30 := F_value_nb30.ext E38; have F_coder_nb30 := F_coder_nb30.ext E38; have V_nb34 := V_nb34.ext E38; have O := O.ext E38; have K := K.ext E38; have hk := Nat.le_trans hk E38.1
            have CR := CR.trans (CHr.ext E38 CR.1)
            have F_schema_nb38 : Fld Z h38 nb38 "com/example/tombstone/tombstone/config/TableName" "schema" "Ljava/lang/String;" .null := D38 (Or.inr (ow56 hw)) (ty := (.object "java/lang/String")) (by decide)
            have F_name_nb38 : Fld Z h38 nb38 "com/example/tombstone/tombstone/config/TableName" "name" "Ljava/lang/String;" .null := D38 (Or.inr (ow58 hw)) (ty := (.object "java/lang/String")) (by decide)
            refine og_dup (pc' := 198) X38 hx rfl (hb hby at_197) rfl ?_
            refine og_aload (pc' := 200) X38 hx rfl rfl (hb hby at_198) rfl ?_
            refine og_aload (pc' := 202) X38 hx rfl rfl (hb hby at_200) rfl ?_
            refine og_specialW (pc' := 205) (cells' := 10) (slots' := 63) (W := 1) X38 hx hZ (rm_tn l Z a0 hw nb38 na29 nb30 nb29 nb34 k29 k34 (1 : Int32) (2 : Int32) _ _ (by decide) (by decide) h38 n0 O hEL E_nb38 F_schema_nb38 F_name_nb38 E_na29 F_value_na29 F_coder_na29 V_nb29 E_nb30 F_value_nb30 F_coder_nb30 V_nb34 g_nb38 ne_na29_nb38 ne_nb30_nb38 ne_nb29_nb38 ne_nb34_nb38) hEL hS hk CR.1 all0 rfl hown (ow33 hw) (ow34 hw) (ow32 hw) (ow35 hw) (by decide) (by rw [hml]; rfl) e38 opd_18 [(.ref na29), (.ref nb30)] [(.ref nb38)] rfl rfl rfl rfl (by decide) (by decide) rfl rfl (by decide) (by decide) (hb hby at_202) rfl (fun v39 T39 h39 L39 kk39 X39 e39 hS hk hZ hown cr39 z39 => ?_)
            obtain ⟨rfl, Nq39, K39, F_schema_nb38', F_name_nb38'⟩ := z39; have N := Fr.app N Nq39
            have E_na29 := E_na29.keep K39; have F_value_na29 := F_value_na29.keep K39 (ninS ne_na29_nb38 nin0); have F_coder_na29 := F_coder_na29.keep K39 (ninS ne_na29_nb38 nin0); have V_nb29 := V_nb29.keep K39 (ninS ne_nb29_nb38 nin0); have E_nb30 := E_nb30.keep K39; have V_nb31 := V_nb31.keep K39 (ninS ne_nb31_nb38 nin0)
            have F_value_nb30 := F_value_nb30.keep K39 (ninS ne_nb30_nb38 nin0); have F_coder_nb30 := F_coder_nb30.keep K39 (ninS ne_nb30_nb38 nin0); have V_nb34 := V_nb34.keep K39 (ninS ne_nb34_nb38 nin0); have E_nb38 := E_nb38.keep K39; have O := O.keep K39 (allS g_nb38 all0); have K := K.trans K39 (allS (Or.inr sz_nb38) all0)
            have CR := CR.trans cr39
            have F_schema_nb38 := F_schema_nb38'; have F_name_nb38 := F_name_nb38'
            show OG p e below _ (T39.setTop (mkF m 205 #[.val (.int p1), .val (.int p2), .val (.int c0), .val (.int c1), .val (.int (0 : Int32)), .val (.int c2), .val (.int c3), .val (.int (1 : Int32)), .val (.ref na29), .val (.ref nb30), .val (.int (1 : Int32)), .val (.int (0 : Int32)), .val (.int (0 : Int32)), .unset] [(.ref nb38)]))
            refine og_astore (pc' := 207) (L' := #[.val (.int p1), .val (.int p2), .val (.int c0), .val (.int c1), .val (.int (0 : Int32)), .val (.int c2), .val (.int c3), .val (.int (1 : Int32)), .val (.ref na29), .val (.ref nb30), .val (.int (1 : Int32)), .val (.int (0 : Int32)), .val (.int (0 : Int32)), .val (.ref nb38)]) X39 hx rfl rfl (hb hby at_205) rfl ?_
            refine og_aload (pc' := 209) X39 hx rfl rfl (hb hby at_207) rfl ?_
            refine og_virtual (pc' := 212) (cells' := 10) (slots' := 63) (W := 0) X39 hx hZ (rm_w12 l Z a0 hw nb38 na29 nb30 nb29 nb34 k29 k34 c0 c2 c3 hc0 hc2 hc3 cs hcs 0 (by simp [hc130, hc155, hc167]) h39 n0 O F_schema_nb38 F_name_nb38 E_na29 F_value_na29 F_coder_na29 V_nb29 E_nb30 F_value_nb30 F_coder_nb30 V_nb34 S_CS) hown (ow59 hw) (ow60 hw) (own_nf hZ (ow62 hw)) (ow62 hw) (ow61 hw) (ow32 hw) (ow63 hw) (by decide) (by rw [hml]; rfl) e39 opd_11 [] [] rfl rfl rfl rfl (by decide) (by decide) rfl rfl (by decide) (by decide) E_nb38 (hb hby at_209) rfl (fun v40 T40 h40 L40 X40 e40 z40 => ?_)
            obtain ⟨rfl, Nq40, hq40⟩ := z40; replace e40 := e40.trans hq40; have N := Fr.app N Nq40
            show OG p e below _ (T40.setTop (mkF m 212 #[.val (.int p1), .val (.int p2), .val (.int c0), .val (.int c1), .val (.int (0 : Int32)), .val (.int c2), .val (.int c3), .val (.int (1 : Int32)), .val (.ref na29), .val (.ref nb30), .val (.int (1 : Int32)), .val (.int (0 : Int32)), .val (.int (0 : Int32)), .val (.ref nb38)] [(.int (0 : Int32))]))
            refine og_iload (pc' := 214) X40 hx rfl (hb hby at_212) rfl ?_
            refine og_icmp_ne (pc1 := 221) (pc2 := 217) X40 hx (hb hby at_214) (by decide) (by decide) rfl (fun q => absurd q (by decide)) (fun _ => ?_)
            refine og_iconst (pc' := 218) (v := (1 : Int32)) X40 hx rfl (hb hby at_217) rfl ?_
            refine og_goto (pc' := 222) X40 hx (hb hby at_218) (by decide) (by decide) ?_
            refine og_retNW X40 hx hZ hlk hEL hS e40 es hk CR hret (by simp) (hb hby at_222) (by decide) (by decide) ?_
            exact ⟨rfl, N⟩
          · -- pc 170
            refine og_iconst (pc' := 171) (v := (1 : Int32)) X34 hx rfl (hb hby at_170) rfl ?_
            refine og_goto (pc' := 175) X34 hx (hb hby at_171) (by decide) (by decide) ?_
            refine og_istore (pc' := 177) (L' := #[.val (.int p1), .val (.int p2), .val (.int c0), .val (.int c1), .val (.int (0 : Int32)), .val (.int c2), .val (.int c3), .val (.int (1 : Int32)), .val (.ref na29), .val (.ref nb30), .val (.int (1 : Int32)), .val (.int (1 : Int32)), .unset, .unset]) X34 hx rfl (hb hby at_175) rfl ?_
            refine og_iload (pc' := 179) X34 hx rfl (hb hby at_177) rfl ?_
            refine og_if_ne (pc1 := 191) (pc2 := 182) X34 hx (hb hby at_179) (by decide) (by decide) rfl (fun _ => ?_) (fun q => absurd q (by decide))
            refine og_iconst (pc' := 192) (v := (0 : Int32)) X34 hx rfl (hb hby at_191) rfl ?_
            refine og_istore (pc' := 194) (L' := #[.val (.int p1), .val (.int p2), .val (.int c0), .val (.int c1), .val (.int (0 : Int32)), .val (.int c2), .val (.int c3), .val (.int (1 : Int32)), .val (.ref na29), .val (.ref nb30), .val (.int (1 : Int32)), .val (.int (1 : Int32)), .val (.int (0 : Int32)), .unset]) X34 hx rfl (hb hby at_192) rfl ?_
            refine og_new (pc' := 197) (cells' := 6) (slots' := 15) X34 hx hZ hown (ow30 hw) (ow31 hw) (ow32 hw) e34 (hb hby at_194) rfl rfl rfl (by decide) (by decide) (fun T41 h41 nb41 X41 e41 E41 q41 E_nb41 D41 B41 => ?_)
            have s_nb41 : h34.size ≤ nb41 := Nat.le_of_eq q41.symm; have g_nb41 : n0 ≤ nb41 := Nat.le_trans (own_n0 O) s_nb41; have sz_nb41 : h0.size ≤ nb41 := Nat.le_trans K.1 s_nb41; have ne_na29_nb41 : na29 ≠ nb41 := Nat.ne_of_lt (Nat.lt_of_lt_of_le E_na29.lt s_nb41); have ne_nb29_nb41 : nb29 ≠ nb41 := Nat.ne_of_lt (Nat.lt_of_lt_of_le V_nb29.lt s_nb41); have ne_nb30_nb41 : nb30 ≠ nb41 := Nat.ne_of_lt (Nat.lt_of_lt_of_le E_nb30.lt s_nb41)
            have ne_nb31_nb41 : nb31 ≠ nb41 := Nat.ne_of_lt (Nat.lt_of_lt_of_le V_nb31.lt s_nb41); have ne_nb34_nb41 : nb34 ≠ nb41 := Nat.ne_of_lt (Nat.lt_of_lt_of_le V_nb34.lt s_nb41)
            have E_na29 := E_na29.ext E41; have F_value_na29 := F_value_na29.ext E41; have F_coder_na29 := F_coder_na29.ext E41; have V_nb29 := V_nb29.ext E41; have E_nb30 := E_nb30.ext E41; have V_nb31 := V_nb31.ext E41
            have F_value_nb30 := F_value_nb30.ext E41; have F_coder_nb30 := F_coder_nb30.ext E41; have V_nb34 := V_nb34.ext E41; have O := O.ext E41; have K := K.ext E41; have hk := Nat.le_trans hk E41.1
            have CR := CR.trans (CHr.ext E41 CR.1)
            have F_schema_nb41 : Fld Z h41 nb41 "com/example/tombstone/tombstone/config/TableName" "schema" "Ljava/lang/String;" .null := D41 (Or.inr (ow56 hw)) (ty := (.object "java/lang/String")) (by decide)
            have F_name_nb41 : Fld Z h41 nb41 "com/example/tombstone/tombstone/config/TableName" "name" "Ljava/lang/String;" .null := D41 (Or.inr (ow58 hw)) (ty := (.object "java/lang/String")) (by decide)
            refine og_dup (pc' := 198) X41 hx rfl (hb hby at_197) rfl ?_
            refine og_aload (pc' := 200) X41 hx rfl rfl (hb hby at_198) rfl ?_
            refine og_aload (pc' := 202) X41 hx rfl rfl (hb hby at_200) rfl ?_
            refine og_specialW (pc' := 205) (cells' := 10) (slots' := 63) (W := 1) X41 hx hZ (rm_tn l Z a0 hw nb41 na29 nb30 nb29 nb34 k29 k34 (1 : Int32) (2 : Int32) _ _ (by decide) (by decide) h41 n0 O hEL E_nb41 F_schema_nb41 F_name_nb41 E_na29 F_value_na29 F_coder_na29 V_nb29 E_nb30 F_value_nb30 F_coder_nb30 V_nb34 g_nb41 ne_na29_nb41 ne_nb30_nb41 ne_nb29_nb41 ne_nb34_nb41) hEL hS hk CR.1 all0 rfl hown (ow33 hw) (ow34 hw) (ow32 hw) (ow35 hw) (by decide) (by rw [hml]; rfl) e41 opd_18 [(.ref na29), (.ref nb30)] [(.ref nb41)] rfl rfl rfl rfl (by decide) (by decide) rfl rfl (by decide) (by decide) (hb hby at_202) rfl (fun v42 T42 h42 L42 kk42 X42 e42 hS hk hZ hown cr42 z42 => ?_)
            obtain ⟨rfl, Nq42, K42, F_schema_nb41', F_name_nb41'⟩ := z42; have N := Fr.app N Nq42
            have E_na29 := E_na29.keep K42; have F_value_na29 := F_value_na29.keep K42 (ninS ne_na29_nb41 nin0); have F_coder_na29 := F_coder_na29.keep K42 (ninS ne_na29_nb41 nin0); have V_nb29 := V_nb29.keep K42 (ninS ne_nb29_nb41 nin0); have E_nb30 := E_nb30.keep K42; have V_nb31 := V_nb31.keep K42 (ninS ne_nb31_nb41 nin0)
            have F_value_nb30 := F_value_nb30.keep K42 (ninS ne_nb30_nb41 nin0); have F_coder_nb30 := F_coder_nb30.keep K42 (ninS ne_nb30_nb41 nin0); have V_nb34 := V_nb34.keep K42 (ninS ne_nb34_nb41 nin0); have E_nb41 := E_nb41.keep K42; have O := O.keep K42 (allS g_nb41 all0); have K := K.trans K42 (allS (Or.inr sz_nb41) all0)
            have CR := CR.trans cr42
            have F_schema_nb41 := F_schema_nb41'; have F_name_nb41 := F_name_nb41'
            show OG p e below _ (T42.setTop (mkF m 205 #[.val (.int p1), .val (.int p2), .val (.int c0), .val (.int c1), .val (.int (0 : Int32)), .val (.int c2), .val (.int c3), .val (.int (1 : Int32)), .val (.ref na29), .val (.ref nb30), .val (.int (1 : Int32)), .val (.int (1 : Int32)), .val (.int (0 : Int32)), .unset] [(.ref nb41)]))
            refine og_astore (pc' := 207) (L' := #[.val (.int p1), .val (.int p2), .val (.int c0), .val (.int c1), .val (.int (0 : Int32)), .val (.int c2), .val (.int c3), .val (.int (1 : Int32)), .val (.ref na29), .val (.ref nb30), .val (.int (1 : Int32)), .val (.int (1 : Int32)), .val (.int (0 : Int32)), .val (.ref nb41)]) X42 hx rfl rfl (hb hby at_205) rfl ?_
            refine og_aload (pc' := 209) X42 hx rfl rfl (hb hby at_207) rfl ?_
            refine og_virtual (pc' := 212) (cells' := 10) (slots' := 63) (W := 0) X42 hx hZ (rm_w12 l Z a0 hw nb41 na29 nb30 nb29 nb34 k29 k34 c0 c2 c3 hc0 hc2 hc3 cs hcs 0 (by simp [hc130, hc155, hc167]) h42 n0 O F_schema_nb41 F_name_nb41 E_na29 F_value_na29 F_coder_na29 V_nb29 E_nb30 F_value_nb30 F_coder_nb30 V_nb34 S_CS) hown (ow59 hw) (ow60 hw) (own_nf hZ (ow62 hw)) (ow62 hw) (ow61 hw) (ow32 hw) (ow63 hw) (by decide) (by rw [hml]; rfl) e42 opd_11 [] [] rfl rfl rfl rfl (by decide) (by decide) rfl rfl (by decide) (by decide) E_nb41 (hb hby at_209) rfl (fun v43 T43 h43 L43 X43 e43 z43 => ?_)
            obtain ⟨rfl, Nq43, hq43⟩ := z43; replace e43 := e43.trans hq43; have N := Fr.app N Nq43
            show OG p e below _ (T43.setTop (mkF m 212 #[.val (.int p1), .val (.int p2), .val (.int c0), .val (.int c1), .val (.int (0 : Int32)), .val (.int c2), .val (.int c3), .val (.int (1 : Int32)), .val (.ref na29), .val (.ref nb30), .val (.int (1 : Int32)), .val (.int (1 : Int32)), .val (.int (0 : Int32)), .val (.ref nb41)] [(.int (0 : Int32))]))
            refine og_iload (pc' := 214) X43 hx rfl (hb hby at_212) rfl ?_
            refine og_icmp_ne (pc1 := 221) (pc2 := 217) X43 hx (hb hby at_214) (by decide) (by decide) rfl (fun q => absurd q (by decide)) (fun _ => ?_)
            refine og_iconst (pc' := 218) (v := (1 : Int32)) X43 hx rfl (hb hby at_217) rfl ?_
            refine og_goto (pc' := 222) X43 hx (hb hby at_218) (by decide) (by decide) ?_
            refine og_retNW X43 hx hZ hlk hEL hS e43 es hk CR hret (by simp) (hb hby at_222) (by decide) (by decide) ?_
            exact ⟨rfl, N⟩
      · -- pc 133
        refine og_iload (pc' := 135) X34 hx rfl (hb hby at_133) rfl ?_
        refine og_if_eq (pc1 := 148) (pc2 := 138) X34 hx (hb hby at_135) (by decide) (by decide) rfl (fun _ => ?_) (fun q => absurd q (by decide))
        refine og_iconst (pc' := 149) (v := (0 : Int32)) X34 hx rfl (hb hby at_148) rfl ?_
        refine og_istore (pc' := 151) (L' := #[.val (.int p1), .val (.int p2), .val (.int c0), .val (.int c1), .val (.int (0 : Int32)), .val (.int c2), .val (.int c3), .val (.int (1 : Int32)), .val (.ref na29), .val (.ref nb30), .val (.int (0 : Int32)), .unset, .unset, .unset]) X34 hx rfl (hb hby at_149) rfl ?_
        refine og_iload (pc' := 153) X34 hx rfl (hb hby at_151) rfl ?_
        refine og_bipush (pc' := 155) (v := (46 : Int32)) X34 hx rfl (hb hby at_153) rfl ?_
        refine og_icmp_eq (pc1 := 170) (pc2 := 158) X34 hx (hb hby at_155) (by decide) (by decide) rfl (fun hc155 => ?_) (fun hc155 => ?_)
        · -- pc 170
          refine og_iconst (pc' := 171) (v := (1 : Int32)) X34 hx rfl (hb hby at_170) rfl ?_
          refine og_goto (pc' := 175) X34 hx (hb hby at_171) (by decide) (by decide) ?_
          refine og_istore (pc' := 177) (L' := #[.val (.int p1), .val (.int p2), .val (.int c0), .val (.int c1), .val (.int (0 : Int32)), .val (.int c2), .val (.int c3), .val (.int (1 : Int32)), .val (.ref na29), .val (.ref nb30), .val (.int (0 : Int32)), .val (.int (1 : Int32)), .unset, .unset]) X34 hx rfl (hb hby at_175) rfl ?_
          refine og_iload (pc' := 179) X34 hx rfl (hb hby at_177) rfl ?_
          refine og_if_ne (pc1 := 191) (pc2 := 182) X34 hx (hb hby at_179) (by decide) (by decide) rfl (fun q => absurd q (by decide)) (fun _ => ?_)
          refine og_iload (pc' := 184) X34 hx rfl (hb hby at_182) rfl ?_
          refine og_if_ne (pc1 := 191) (pc2 := 187) X34 hx (hb hby at_184) (by decide) (by decide) rfl (fun _ => ?_) (fun q => absurd q (by decide))
          refine og_iconst (pc' := 192) (v := (0 : Int32)) X34 hx rfl (hb hby at_191) rfl ?_
          refine og_istore (pc' := 194) (L' := #[.val (.int p1), .val (.int p2), .val (.int c0), .val (.int c1), .val (.int (0 : Int32)), .val (.int c2), .val (.int c3), .val (.int (1 : Int32)), .val (.ref na29), .val (.ref nb30), .val (.int (0 : Int32)), .val (.int (1 : Int32)), .val (.int (0 : Int32)), .unset]) X34 hx rfl (hb hby at_192) rfl ?_
          refine og_new (pc' := 197) (cells' := 6) (slots' := 15) X34 hx hZ hown (ow30 hw) (ow31 hw) (ow32 hw) e34 (hb hby at_194) rfl rfl rfl (by decide) (by decide) (fun T44 h44 nb44 X44 e44 E44 q44 E_nb44 D44 B44 => ?_)
          have s_nb44 : h34.size ≤ nb44 := Nat.le_of_eq q44.symm; have g_nb44 : n0 ≤ nb44 := Nat.le_trans (own_n0 O) s_nb44; have sz_nb44 : h0.size ≤ nb44 := Nat.le_trans K.1 s_nb44; have ne_na29_nb44 : na29 ≠ nb44 := Nat.ne_of_lt (Nat.lt_of_lt_of_le E_na29.lt s_nb44); have ne_nb29_nb44 : nb29 ≠ nb44 := Nat.ne_of_lt (Nat.lt_of_lt_of_le V_nb29.lt s_nb44); have ne_nb30_nb44 : nb30 ≠ nb44 := Nat.ne_of_lt (Nat.lt_of_lt_of_le E_nb30.lt s_nb44)
          have ne_nb31_nb44 : nb31 ≠ nb44 := Nat.ne_of_lt (Nat.lt_of_lt_of_le V_nb31.lt s_nb44); have ne_nb34_nb44 : nb34 ≠ nb44 := Nat.ne_of_lt (Nat.lt_of_lt_of_le V_nb34.lt s_nb44)
          have E_na29 := E_na29.ext E44; have F_value_na29 := F_value_na29.ext E44; have F_coder_na29 := F_coder_na29.ext E44; have V_nb29 := V_nb29.ext E44; have E_nb30 := E_nb30.ext E44; have V_nb31 := V_nb31.ext E44
          have F_value_nb30 := F_value_nb30.ext E44; have F_coder_nb30 := F_coder_nb30.ext E44; have V_nb34 := V_nb34.ext E44; have O := O.ext E44; have K := K.ext E44; have hk := Nat.le_trans hk E44.1
          have CR := CR.trans (CHr.ext E44 CR.1)
          have F_schema_nb44 : Fld Z h44 nb44 "com/example/tombstone/tombstone/config/TableName" "schema" "Ljava/lang/String;" .null := D44 (Or.inr (ow56 hw)) (ty := (.object "java/lang/String")) (by decide)
          have F_name_nb44 : Fld Z h44 nb44 "com/example/tombstone/tombstone/config/TableName" "name" "Ljava/lang/String;" .null := D44 (Or.inr (ow58 hw)) (ty := (.object "java/lang/String")) (by decide)
          refine og_dup (pc' := 198) X44 hx rfl (hb hby at_197) rfl ?_
          refine og_aload (pc' := 200) X44 hx rfl rfl (hb hby at_198) rfl ?_
          refine og_aload (pc' := 202) X44 hx rfl rfl (hb hby at_200) rfl ?_
          refine og_specialW (pc' := 205) (cells' := 10) (slots' := 63) (W := 1) X44 hx hZ (rm_tn l Z a0 hw nb44 na29 nb30 nb29 nb34 k29 k34 (1 : Int32) (2 : Int32) _ _ (by decide) (by decide) h44 n0 O hEL E_nb44 F_schema_nb44 F_name_nb44 E_na29 F_value_na29 F_coder_na29 V_nb29 E_nb30 F_value_nb30 F_coder_nb30 V_nb34 g_nb44 ne_na29_nb44 ne_nb30_nb44 ne_nb29_nb44 ne_nb34_nb44) hEL hS hk CR.1 all0 rfl hown (ow33 hw) (ow34 hw) (ow32 hw) (ow35 hw) (by decide) (by rw [hml]; rfl) e44 opd_18 [(.ref na29), (.ref nb30)] [(.ref nb44)] rfl rfl rfl rfl (by decide) (by decide) rfl rfl (by decide) (by decide) (hb hby at_202) rfl (fun v45 T45 h45 L45 kk45 X45 e45 hS hk hZ hown cr45 z45 => ?_)
          obtain ⟨rfl, Nq45, K45, F_schema_nb44', F_name_nb44'⟩ := z45; have N := Fr.app N Nq45
          have E_na29 := E_na29.keep K45; have F_value_na29 := F_value_na29.keep K45 (ninS ne_na29_nb44 nin0); have F_coder_na29 := F_coder_na29.keep K45 (ninS ne_na29_nb44 nin0); have V_nb29 := V_nb29.keep K45 (ninS ne_nb29_nb44 nin0); have E_nb30 := E_nb30.keep K45; have V_nb31 := V_nb31.keep K45 (ninS ne_nb31_nb44 nin0)
          have F_value_nb30 := F_value_nb30.keep K45 (ninS ne_nb30_nb44 nin0); have F_coder_nb30 := F_coder_nb30.keep K45 (ninS ne_nb30_nb44 nin0); have V_nb34 := V_nb34.keep K45 (ninS ne_nb34_nb44 nin0); have E_nb44 := E_nb44.keep K45; have O := O.keep K45 (allS g_nb44 all0); have K := K.trans K45 (allS (Or.inr sz_nb44) all0)
          have CR := CR.trans cr45
          have F_schema_nb44 := F_schema_nb44'; have F_name_nb44 := F_name_nb44'
          show OG p e below _ (T45.setTop (mkF m 205 #[.val (.int p1), .val (.int p2), .val (.int c0), .val (.int c1), .val (.int (0 : Int32)), .val (.int c2), .val (.int c3), .val (.int (1 : Int32)), .val (.ref na29), .val (.ref nb30), .val (.int (0 : Int32)), .val (.int (1 : Int32)), .val (.int (0 : Int32)), .unset] [(.ref nb44)]))
          refine og_astore (pc' := 207) (L' := #[.val (.int p1), .val (.int p2), .val (.int c0), .val (.int c1), .val (.int (0 : Int32)), .val (.int c2), .val (.int c3), .val (.int (1 : Int32)), .val (.ref na29), .val (.ref nb30), .val (.int (0 : Int32)), .val (.int (1 : Int32)), .val (.int (0 : Int32)), .val (.ref nb44)]) X45 hx rfl rfl (hb hby at_205) rfl ?_
          refine og_aload (pc' := 209) X45 hx rfl rfl (hb hby at_207) rfl ?_
          refine og_virtual (pc' := 212) (cells' := 10) (slots' := 63) (W := 0) X45 hx hZ (rm_w12 l Z a0 hw nb44 na29 nb30 nb29 nb34 k29 k34 c0 c2 c3 hc0 hc2 hc3 cs hcs 0 (by simp [hc130, hc155]) h45 n0 O F_schema_nb44 F_name_nb44 E_na29 F_value_na29 F_coder_na29 V_nb29 E_nb30 F_value_nb30 F_coder_nb30 V_nb34 S_CS) hown (ow59 hw) (ow60 hw) (own_nf hZ (ow62 hw)) (ow62 hw) (ow61 hw) (ow32 hw) (ow63 hw) (by decide) (by rw [hml]; rfl) e45 opd_11 [] [] rfl rfl rfl rfl (by decide) (by decide) rfl rfl (by decide) (by decide) E_nb44 (hb hby at_209) rfl (fun v46 T46 h46 L46 X46 e46 z46 => ?_)
          obtain ⟨rfl, Nq46, hq46⟩ := z46; replace e46 := e46.trans hq46; have N := Fr.app N Nq46
          show OG p e below _ (T46.setTop (mkF m 212 #[.val (.int p1), .val (.int p2), .val (.int c0), .val (.int c1), .val (.int (0 : Int32)), .val (.int c2), .val (.int c3), .val (.int (1 : Int32)), .val (.ref na29), .val (.ref nb30), .val (.int (0 : Int32)), .val (.int (1 : Int32)), .val (.int (0 : Int32)), .val (.ref nb44)] [(.int (0 : Int32))]))
          refine og_iload (pc' := 214) X46 hx rfl (hb hby at_212) rfl ?_
          refine og_icmp_ne (pc1 := 221) (pc2 := 217) X46 hx (hb hby at_214) (by decide) (by decide) rfl (fun q => absurd q (by decide)) (fun _ => ?_)
          refine og_iconst (pc' := 218) (v := (1 : Int32)) X46 hx rfl (hb hby at_217) rfl ?_
          refine og_goto (pc' := 222) X46 hx (hb hby at_218) (by decide) (by decide) ?_
          refine og_retNW X46 hx hZ hlk hEL hS e46 es hk CR hret (by simp) (hb hby at_222) (by decide) (by decide) ?_
          exact ⟨rfl, N⟩
        · -- pc 158
          refine og_iload (pc' := 160) X34 hx rfl (hb hby at_158) rfl ?_
          refine og_if_eq (pc1 := 174) (pc2 := 163) X34 hx (hb hby at_160) (by decide) (by decide) rfl (fun q => absurd q (by decide)) (fun _ => ?_)
          refine og_iload (pc' := 165) X34 hx rfl (hb hby at_163) rfl ?_
          refine og_bipush (pc' := 167) (v := (46 : Int32)) X34 hx rfl (hb hby at_165) rfl ?_
          refine og_icmp_ne (pc1 := 174) (pc2 := 170) X34 hx (hb hby at_167) (by decide) (by decide) rfl (fun hc167 => ?_) (fun hc167 => ?_)
          · -- pc 174
            refine og_iconst (pc' := 175) (v := (0 : Int32)) X34 hx rfl (hb hby at_174) rfl ?_
            refine og_istore (pc' := 177) (L' := #[.val (.int p1), .val (.int p2), .val (.int c0), .val (.int c1), .val (.int (0 : Int32)), .val (.int c2), .val (.int c3), .val (.int (1 : Int32)), .val (.ref na29), .val (.ref nb30), .val (.int (0 : Int32)), .val (.int (0 : Int32)), .unset, .unset]) X34 hx rfl (hb hby at_175) rfl ?_
            refine og_iload (pc' := 179) X34 hx rfl (hb hby at_177) rfl ?_
            refine og_if_ne (pc1 := 191) (pc2 := 182) X34 hx (hb hby at_179) (by decide) (by decide) rfl (fun q => absurd q (by decide)) (fun _ => ?_)
            refine og_iload (pc' := 184) X34 hx rfl (hb hby at_182) rfl ?_
            refine og_if_ne (pc1 := 191) (pc2 := 187) X34 hx (hb hby at_184) (by decide) (by decide) rfl (fun q => absurd q (by decide)) (fun _ => ?_)
            refine og_iconst (pc' := 188) (v := (1 : Int32)) X34 hx rfl (hb hby at_187) rfl ?_
            refine og_goto (pc' := 192) X34 hx (hb hby at_188) (by decide) (by decide) ?_
            refine og_istore (pc' := 194) (L' := #[.val (.int p1), .val (.int p2), .val (.int c0), .val (.int c1), .val (.int (0 : Int32)), .val (.int c2), .val (.int c3), .val (.int (1 : Int32)), .val (.ref na29), .val (.ref nb30), .val (.int (0 : Int32)), .val (.int (0 : Int32)), .val (.int (1 : Int32)), .unset]) X34 hx rfl (hb hby at_192) rfl ?_
            refine og_new (pc' := 197) (cells' := 6) (slots' := 15) X34 hx hZ hown (ow30 hw) (ow31 hw) (ow32 hw) e34 (hb hby at_194) rfl rfl rfl (by decide) (by decide) (fun T47 h47 nb47 X47 e47 E47 q47 E_nb47 D47 B47 => ?_)
            have s_nb47 : h34.size ≤ nb47 := Nat.le_of_eq q47.symm; have g_nb47 : n0 ≤ nb47 := Nat.le_trans (own_n0 O) s_nb47; have sz_nb47 : h0.size ≤ nb47 := Nat.le_trans K.1 s_nb47; have ne_na29_nb47 : na29 ≠ nb47 := Nat.ne_of_lt (Nat.lt_of_lt_of_le E_na29.lt s_nb47); have ne_nb29_nb47 : nb29 ≠ nb47 := Nat.ne_of_lt (Nat.lt_of_lt_of_le V_nb29.lt s_nb47); have ne_nb30_nb47 : nb30 ≠ nb47 := Nat.ne_of_lt (Nat.lt_of_lt_of_le E_nb30.lt s_nb47)
            have ne_nb31_nb47 : nb31 ≠ nb47 := Nat.ne_of_lt (Nat.lt_of_lt_of_le V_nb31.lt s_nb47); have ne_nb34_nb47 : nb34 ≠ nb47 := Nat.ne_of_lt (Nat.lt_of_lt_of_le V_nb34.lt s_nb47)
            have E_na29 := E_na29.ext E47; have F_value_na29 := F_value_na29.ext E47; have F_coder_na29 := F_coder_na29.ext E47; have V_nb29 := V_nb29.ext E47; have E_nb30 := E_nb30.ext E47; have V_nb31 := V_nb31.ext E47
            have F_value_nb30 := F_value_nb30.ext E47; have F_coder_nb30 := F_coder_nb30.ext E47; have V_nb34 := V_nb34.ext E47; have O := O.ext E47; have K := K.ext E47; have hk := Nat.le_trans hk E47.1
            have CR := CR.trans (CHr.ext E47 CR.1)
            have F_schema_nb47 : Fld Z h47 nb47 "com/example/tombstone/tombstone/config/TableName" "schema" "Ljava/lang/String;" .null := D47 (Or.inr (ow56 hw)) (ty := (.object "java/lang/String")) (by decide)
            have F_name_nb47 : Fld Z h47 nb47 "com/example/tombstone/tombstone/config/TableName" "name" "Ljava/lang/String;" .null := D47 (Or.inr (ow58 hw)) (ty := (.object "java/lang/String")) (by decide)
            refine og_dup (pc' := 198) X47 hx rfl (hb hby at_197) rfl ?_
            refine og_aload (pc' := 200) X47 hx rfl rfl (hb hby at_198) rfl ?_
            refine og_aload (pc' := 202) X47 hx rfl rfl (hb hby at_200) rfl ?_
            refine og_specialW (pc' := 205) (cells' := 10) (slots' := 63) (W := 1) X47 hx hZ (rm_tn l Z a0 hw nb47 na29 nb30 nb29 nb34 k29 k34 (1 : Int32) (2 : Int32) _ _ (by decide) (by decide) h47 n0 O hEL E_nb47 F_schema_nb47 F_name_nb47 E_na29 F_value_na29 F_coder_na29 V_nb29 E_nb30 F_value_nb30 F_coder_nb30 V_nb34 g_nb47 ne_na29_nb47 ne_nb30_nb47 ne_nb29_nb47 ne_nb34_nb47) hEL hS hk CR.1 all0 rfl hown (ow33 hw) (ow34 hw) (ow32 hw) (ow35 hw) (by decide) (by rw [hml]; rfl) e47 opd_18 [(.ref na29), (.ref nb30)] [(.ref nb47)] rfl rfl rfl rfl (by decide) (by decide) rfl rfl (by decide) (by decide) (hb hby at_202) rfl (fun v48 T48 h48 L48 kk48 X48 e48 hS hk hZ hown cr48 z48 => ?_)
            obtain ⟨rfl, Nq48, K48, F_schema_nb47', F_name_nb47'⟩ := z48; have N := Fr.app N Nq48
            have E_na29 := E_na29.keep K48; have F_value_na29 := F_value_na29.keep K48 (ninS ne_na29_nb47 nin0); have F_coder_na29 := F_coder_na29.keep K48 (ninS ne_na29_nb47 nin0); have V_nb29 := V_nb29.keep K48 (ninS ne_nb29_nb47 nin0); have E_nb30 := E_nb30.keep K48; have V_nb31 := V_nb31.keep K48 (ninS ne_nb31_nb47 nin0)
            have F_value_nb30 := F_value_nb30.keep K48 (ninS ne_nb30_nb47 nin0); have F_coder_nb30 := F_coder_nb30.keep K48 (ninS ne_nb30_nb47 nin0); have V_nb34 := V_nb34.keep K48 (ninS ne_nb34_nb47 nin0); have E_nb47 := E_nb47.keep K48; have O := O.keep K48 (allS g_nb47 all0); have K := K.trans K48 (allS (Or.inr sz_nb47) all0)
            have CR := CR.trans cr48
            have F_schema_nb47 := F_schema_nb47'; have F_name_nb47 := F_name_nb47'
            show OG p e below _ (T48.setTop (mkF m 205 #[.val (.int p1), .val (.int p2), .val (.int c0), .val (.int c1), .val (.int (0 : Int32)), .val (.int c2), .val (.int c3), .val (.int (1 : Int32)), .val (.ref na29), .val (.ref nb30), .val (.int (0 : Int32)), .val (.int (0 : Int32)), .val (.int (1 : Int32)), .unset] [(.ref nb47)]))
            refine og_astore (pc' := 207) (L' := #[.val (.int p1), .val (.int p2), .val (.int c0), .val (.int c1), .val (.int (0 : Int32)), .val (.int c2), .val (.int c3), .val (.int (1 : Int32)), .val (.ref na29), .val (.ref nb30), .val (.int (0 : Int32)), .val (.int (0 : Int32)), .val (.int (1 : Int32)), .val (.ref nb47)]) X48 hx rfl rfl (hb hby at_205) rfl ?_
            refine og_aload (pc' := 209) X48 hx rfl rfl (hb hby at_207) rfl ?_
            refine og_virtual (pc' := 212) (cells' := 10) (slots' := 63) (W := 0) X48 hx hZ (rm_w12 l Z a0 hw nb47 na29 nb30 nb29 nb34 k29 k34 c0 c2 c3 hc0 hc2 hc3 cs hcs 1 (by simp [hc130, hc155, hc167]) h48 n0 O F_schema_nb47 F_name_nb47 E_na29 F_value_na29 F_coder_na29 V_nb29 E_nb30 F_value_nb30 F_coder_nb30 V_nb34 S_CS) hown (ow59 hw) (ow60 hw) (own_nf hZ (ow62 hw)) (ow62 hw) (ow61 hw) (ow32 hw) (ow63 hw) (by decide) (by rw [hml]; rfl) e48 opd_11 [] [] rfl rfl rfl rfl (by decide) (by decide) rfl rfl (by decide) (by decide) E_nb47 (hb hby at_209) rfl (fun v49 T49 h49 L49 X49 e49 z49 => ?_)
            obtain ⟨rfl, Nq49, hq49⟩ := z49; replace e49 := e49.trans hq49; have N := Fr.app N Nq49
            show OG p e below _ (T49.setTop (mkF m 212 #[.val (.int p1), .val (.int p2), .val (.int c0), .val (.int c1), .val (.int (0 : Int32)), .val (.int c2), .val (.int c3), .val (.int (1 : Int32)), .val (.ref na29), .val (.ref nb30), .val (.int (0 : Int32)), .val (.int (0 : Int32)), .val (.int (1 : Int32)), .val (.ref nb47)] [(.int (1 : Int32))]))
            refine og_iload (pc' := 214) X49 hx rfl (hb hby at_212) rfl ?_
            refine og_icmp_ne (pc1 := 221) (pc2 := 217) X49 hx (hb hby at_214) (by decide) (by decide) rfl (fun q => absurd q (by decide)) (fun _ => ?_)
            refine og_iconst (pc' := 218) (v := (1 : Int32)) X49 hx rfl (hb hby at_217) rfl ?_
            refine og_goto (pc' := 222) X49 hx (hb hby at_218) (by decide) (by decide) ?_
            refine og_retNW X49 hx hZ hlk hEL hS e49 es hk CR hret (by simp) (hb hby at_222) (by decide) (by decide) ?_
            exact ⟨rfl, N⟩
          · -- pc 170
            refine og_iconst (pc' := 171) (v := (1 : Int32)) X34 hx rfl (hb hby at_170) rfl ?_
            refine og_goto (pc' := 175) X34 hx (hb hby at_171) (by decide) (by decide) ?_
            refine og_istore (pc' := 177) (L' := #[.val (.int p1), .val (.int p2), .val (.int c0), .val (.int c1), .val (.int (0 : Int32)), .val (.int c2), .val (.int c3), .val (.int (1 : Int32)), .val (.ref na29), .val (.ref nb30), .val (.int (0 : Int32)), .val (.int (1 : Int32)), .unset, .unset]) X34 hx rfl (hb hby at_175) rfl ?_
            refine og_iload (pc' := 179) X34 hx rfl (hb hby at_177) rfl ?_
            refine og_if_ne (pc1 := 191) (pc2 := 182) X34 hx (hb hby at_179) (by decide) (by decide) rfl (fun q => absurd q (by decide)) (fun _ => ?_)
            refine og_iload (pc' := 184) X34 hx rfl (hb hby at_182) rfl ?_
            refine og_if_ne (pc1 := 191) (pc2 := 187) X34 hx (hb hby at_184) (by decide) (by decide) rfl (fun _ => ?_) (fun q => absurd q (by decide))
            refine og_iconst (pc' := 192) (v := (0 : Int32)) X34 hx rfl (hb hby at_191) rfl ?_
            refine og_istore (pc' := 194) (L' := #[.val (.int p1), .val (.int p2), .val (.int c0), .val (.int c1), .val (.int (0 : Int32)), .val (.int c2), .val (.int c3), .val (.int (1 : Int32)), .val (.ref na29), .val (.ref nb30), .val (.int (0 : Int32)), .val (.int (1 : Int32)), .val (.int (0 : Int32)), .unset]) X34 hx rfl (hb hby at_192) rfl ?_
            refine og_new (pc' := 197) (cells' := 6) (slots' := 15) X34 hx hZ hown (ow30 hw) (ow31 hw) (ow32 hw) e34 (hb hby at_194) rfl rfl rfl (by decide) (by decide) (fun T50 h50 nb50 X50 e50 E50 q50 E_nb50 D50 B50 => ?_)
            have s_nb50 : h34.size ≤ nb50 := Nat.le_of_eq q50.symm; have g_nb50 : n0 ≤ nb50 := Nat.le_trans (own_n0 O) s_nb50; have sz_nb50 : h0.size ≤ nb50 := Nat.le_trans K.1 s_nb50; have ne_na29_nb50 : na29 ≠ nb50 := Nat.ne_of_lt (Nat.lt_of_lt_of_le E_na29.lt s_nb50); have ne_nb29_nb50 : nb29 ≠ nb50 := Nat.ne_of_lt (Nat.lt_of_lt_of_le V_nb29.lt s_nb50); have ne_nb30_nb50 : nb30 ≠ nb50 := Nat.ne_of_lt (Nat.lt_of_lt_of_le E_nb30.lt s_nb50)
            have ne_nb31_nb50 : nb31 ≠ nb50 := Nat.ne_of_lt (Nat.lt_of_lt_of_le V_nb31.lt s_nb50); have ne_nb34_nb50 : nb34 ≠ nb50 := Nat.ne_of_lt (Nat.lt_of_lt_of_le V_nb34.lt s_nb50)
            have E_na29 := E_na29.ext E50; have F_value_na29 := F_value_na29.ext E50; have F_coder_na29 := F_coder_na29.ext E50; have V_nb29 := V_nb29.ext E50; have E_nb30 := E_nb30.ext E50; have V_nb31 := V_nb31.ext E50
            have F_value_nb30 := F_value_nb30.ext E50; have F_coder_nb30 := F_coder_nb30.ext E50; have V_nb34 := V_nb34.ext E50; have O := O.ext E50; have K := K.ext E50; have hk := Nat.le_trans hk E50.1
            have CR := CR.trans (CHr.ext E50 CR.1)
            have F_schema_nb50 : Fld Z h50 nb50 "com/example/tombstone/tombstone/config/TableName" "schema" "Ljava/lang/String;" .null := D50 (Or.inr (ow56 hw)) (ty := (.object "java/lang/String")) (by decide)
            have F_name_nb50 : Fld Z h50 nb50 "com/example/tombstone/tombstone/config/TableName" "name" "Ljava/lang/String;" .null := D50 (Or.inr (ow58 hw)) (ty := (.object "java/lang/String")) (by decide)
            refine og_dup (pc' := 198) X50 hx rfl (hb hby at_197) rfl ?_
            refine og_aload (pc' := 200) X50 hx rfl rfl (hb hby at_198) rfl ?_
            refine og_aload (pc' := 202) X50 hx rfl rfl (hb hby at_200) rfl ?_
            refine og_specialW (pc' := 205) (cells' := 10) (slots' := 63) (W := 1) X50 hx hZ (rm_tn l Z a0 hw nb50 na29 nb30 nb29 nb34 k29 k34 (1 : Int32) (2 : Int32) _ _ (by decide) (by decide) h50 n0 O hEL E_nb50 F_schema_nb50 F_name_nb50 E_na29 F_value_na29 F_coder_na29 V_nb29 E_nb30 F_value_nb30 F_coder_nb30 V_nb34 g_nb50 ne_na29_nb50 ne_nb30_nb50 ne_nb29_nb50 ne_nb34_nb50) hEL hS hk CR.1 all0 rfl hown (ow33 hw) (ow34 hw) (ow32 hw) (ow35 hw) (by decide) (by rw [hml]; rfl) e50 opd_18 [(.ref na29), (.ref nb30)] [(.ref nb50)] rfl rfl rfl rfl (by decide) (by decide) rfl rfl (by decide) (by decide) (hb hby at_202) rfl (fun v51 T51 h51 L51 kk51 X51 e51 hS hk hZ hown cr51 z51 => ?_)
            obtain ⟨rfl, Nq51, K51, F_schema_nb50', F_name_nb50'⟩ := z51; have N := Fr.app N Nq51
            have E_na29 := E_na29.keep K51; have F_value_na29 := F_value_na29.keep K51 (ninS ne_na29_nb50 nin0); have F_coder_na29 := F_coder_na29.keep K51 (ninS ne_na29_nb50 nin0); have V_nb29 := V_nb29.keep K51 (ninS ne_nb29_nb50 nin0); have E_nb30 := E_nb30.keep K51; have V_nb31 := V_nb31.keep K51 (ninS ne_nb31_nb50 nin0)
            have F_value_nb30 := F_value_nb30.keep K51 (ninS ne_nb30_nb50 nin0); have F_coder_nb30 := F_coder_nb30.keep K51 (ninS ne_nb30_nb50 nin0); have V_nb34 := V_nb34.keep K51 (ninS ne_nb34_nb50 nin0); have E_nb50 := E_nb50.keep K51; have O := O.keep K51 (allS g_nb50 all0); have K := K.trans K51 (allS (Or.inr sz_nb50) all0)
            have CR := CR.trans cr51
            have F_schema_nb50 := F_schema_nb50'; have F_name_nb50 := F_name_nb50'
            show OG p e below _ (T51.setTop (mkF m 205 #[.val (.int p1), .val (.int p2), .val (.int c0), .val (.int c1), .val (.int (0 : Int32)), .val (.int c2), .val (.int c3), .val (.int (1 : Int32)), .val (.ref na29), .val (.ref nb30), .val (.int (0 : Int32)), .val (.int (1 : Int32)), .val (.int (0 : Int32)), .unset] [(.ref nb50)]))
            refine og_astore (pc' := 207) (L' := #[.val (.int p1), .val (.int p2), .val (.int c0), .val (.int c1), .val (.int (0 : Int32)), .val (.int c2), .val (.int c3), .val (.int (1 : Int32)), .val (.ref na29), .val (.ref nb30), .val (.int (0 : Int32)), .val (.int (1 : Int32)), .val (.int (0 : Int32)), .val (.ref nb50)]) X51 hx rfl rfl (hb hby at_205) rfl ?_
            refine og_aload (pc' := 209) X51 hx rfl rfl (hb hby at_207) rfl ?_
            refine og_virtual (pc' := 212) (cells' := 10) (slots' := 63) (W := 0) X51 hx hZ (rm_w12 l Z a0 hw nb50 na29 nb30 nb29 nb34 k29 k34 c0 c2 c3 hc0 hc2 hc3 cs hcs 0 (by simp [hc130, hc155, hc167]) h51 n0 O F_schema_nb50 F_name_nb50 E_na29 F_value_na29 F_coder_na29 V_nb29 E_nb30 F_value_nb30 F_coder_nb30 V_nb34 S_CS) hown (ow59 hw) (ow60 hw) (own_nf hZ (ow62 hw)) (ow62 hw) (ow61 hw) (ow32 hw) (ow63 hw) (by decide) (by rw [hml]; rfl) e51 opd_11 [] [] rfl rfl rfl rfl (by decide) (by decide) rfl rfl (by decide) (by decide) E_nb50 (hb hby at_209) rfl (fun v52 T52 h52 L52 X52 e52 z52 => ?_)
            obtain ⟨rfl, Nq52, hq52⟩ := z52; replace e52 := e52.trans hq52; have N := Fr.app N Nq52
            show OG p e below _ (T52.setTop (mkF m 212 #[.val (.int p1), .val (.int p2), .val (.int c0), .val (.int c1), .val (.int (0 : Int32)), .val (.int c2), .val (.int c3), .val (.int (1 : Int32)), .val (.ref na29), .val (.ref nb30), .val (.int (0 : Int32)), .val (.int (1 : Int32)), .val (.int (0 : Int32)), .val (.ref nb50)] [(.int (0 : Int32))]))
            refine og_iload (pc' := 214) X52 hx rfl (hb hby at_212) rfl ?_
            refine og_icmp_ne (pc1 := 221) (pc2 := 217) X52 hx (hb hby at_214) (by decide) (by decide) rfl (fun q => absurd q (by decide)) (fun _ => ?_)
            refine og_iconst (pc' := 218) (v := (1 : Int32)) X52 hx rfl (hb hby at_217) rfl ?_
            refine og_goto (pc' := 222) X52 hx (hb hby at_218) (by decide) (by decide) ?_
            refine og_retNW X52 hx hZ hlk hEL hS e52 es hk CR hret (by simp) (hb hby at_222) (by decide) (by decide) ?_
            exact ⟨rfl, N⟩
  · -- pc 22
    refine og_iconst (pc' := 23) (v := (1 : Int32)) X12 hx rfl (hb hby at_22) rfl ?_
    refine og_goto (pc' := 27) X12 hx (hb hby at_23) (by decide) (by decide) ?_
    refine og_istore (pc' := 29) (L' := #[.val (.int p1), .val (.int p2), .val (.int c0), .val (.int c1), .val (.int (1 : Int32)), .unset, .unset, .unset, .unset, .unset, .unset, .unset, .unset, .unset]) X12 hx rfl (hb hby at_27) rfl ?_
    refine og_iloadN (pc' := 30) X12 hx rfl (hb hby at_29) rfl ?_
    refine og_static (pc' := 33) (cells' := 0) (slots' := 0) (W := 0) X12 hx hZ (rm_c l Z a0 hw p2 h0 n0 O) hown (ow0 hw) (ow1 hw) (ow2 hw) (ow3 hw) (by decide) (by rw [hml]; rfl) e12 opd_16 [(.int p2)] [] rfl rfl rfl rfl (by decide) (by decide) rfl rfl (by decide) (by decide) (hb hby at_30) rfl (fun v53 T53 h53 L53 X53 e53 z53 => ?_)
    obtain ⟨c2, rfl, Nq53, hq53, hc2⟩ := z53; replace e53 := e53.trans hq53; have N := Fr.app N Nq53
    show OG p e below _ (T53.setTop (mkF m 33 #[.val (.int p1), .val (.int p2), .val (.int c0), .val (.int c1), .val (.int (1 : Int32)), .unset, .unset, .unset, .unset, .unset, .unset, .unset, .unset, .unset] [(.int c2)]))
    refine og_istore (pc' := 35) (L' := #[.val (.int p1), .val (.int p2), .val (.int c0), .val (.int c1), .val (.int (1 : Int32)), .val (.int c2), .unset, .unset, .unset, .unset, .unset, .unset, .unset, .unset]) X53 hx rfl (hb hby at_33) rfl ?_
    refine og_iloadN (pc' := 36) X53 hx rfl (hb hby at_35) rfl ?_
    refine og_bipush (pc' := 38) (v := (9 : Int32)) X53 hx rfl (hb hby at_36) rfl ?_
    refine og_iushr (pc' := 39) X53 hx (hb hby at_38) rfl ?_
    refine og_static (pc' := 42) (cells' := 0) (slots' := 0) (W := 0) X53 hx hZ (rm_c l Z a0 hw ((p2.toUInt32 >>> ((9 : Int32) &&& 31).toUInt32).toInt32) h0 n0 O) hown (ow0 hw) (ow1 hw) (ow2 hw) (ow3 hw) (by decide) (by rw [hml]; rfl) e53 opd_16 [(.int ((p2.toUInt32 >>> ((9 : Int32) &&& 31).toUInt32).toInt32))] [] rfl rfl rfl rfl (by decide) (by decide) rfl rfl (by decide) (by decide) (hb hby at_39) rfl (fun v54 T54 h54 L54 X54 e54 z54 => ?_)
    obtain ⟨c3, rfl, Nq54, hq54, hc3⟩ := z54; replace e54 := e54.trans hq54; have N := Fr.app N Nq54
    show OG p e below _ (T54.setTop (mkF m 42 #[.val (.int p1), .val (.int p2), .val (.int c0), .val (.int c1), .val (.int (1 : Int32)), .val (.int c2), .unset, .unset, .unset, .unset, .unset, .unset, .unset, .unset] [(.int c3)]))
    refine og_istore (pc' := 44) (L' := #[.val (.int p1), .val (.int p2), .val (.int c0), .val (.int c1), .val (.int (1 : Int32)), .val (.int c2), .val (.int c3), .unset, .unset, .unset, .unset, .unset, .unset, .unset]) X54 hx rfl (hb hby at_42) rfl ?_
    refine og_iloadN (pc' := 45) X54 hx rfl (hb hby at_44) rfl ?_
    refine og_bipush (pc' := 47) (v := (18 : Int32)) X54 hx rfl (hb hby at_45) rfl ?_
    refine og_iushr (pc' := 48) X54 hx (hb hby at_47) rfl ?_
    refine og_iconst (pc' := 49) (v := (1 : Int32)) X54 hx rfl (hb hby at_48) rfl ?_
    refine og_iand (pc' := 50) X54 hx (hb hby at_49) rfl ?_
    refine og_if_eq (pc1 := 57) (pc2 := 53) X54 hx (hb hby at_50) (by decide) (by decide) rfl (fun hc50 => ?_) (fun hc50 => ?_)
    · -- pc 57
      refine og_iconst (pc' := 58) (v := (0 : Int32)) X54 hx rfl (hb hby at_57) rfl ?_
      refine og_istore (pc' := 60) (L' := #[.val (.int p1), .val (.int p2), .val (.int c0), .val (.int c1), .val (.int (1 : Int32)), .val (.int c2), .val (.int c3), .val (.int (0 : Int32)), .unset, .unset, .unset, .unset, .unset, .unset]) X54 hx rfl (hb hby at_58) rfl ?_
      refine og_iload (pc' := 62) X54 hx rfl (hb hby at_60) rfl ?_
      refine og_if_eq (pc1 := 86) (pc2 := 65) X54 hx (hb hby at_62) (by decide) (by decide) rfl (fun q => absurd q (by decide)) (fun _ => ?_)
      refine og_new (pc' := 68) (cells' := 1) (slots' := 4) X54 hx hZ hown (ow105 hw) (ow14 hw) (ow6 hw) e54 (hb hby at_65) rfl rfl rfl (by decide) (by decide) (fun T55 h55 nb55 X55 e55 E55 q55 E_nb55 D55 B55 => ?_)
      have s_nb55 : h0.size ≤ nb55 := Nat.le_of_eq q55.symm; have g_nb55 : n0 ≤ nb55 := Nat.le_trans (own_n0 O) s_nb55; have sz_nb55 : h0.size ≤ nb55 := Nat.le_trans K.1 s_nb55
      have O := O.ext E55; have K := K.ext E55; have hk := Nat.le_trans hk E55.1; have CR := CR.trans (CHr.ext E55 CR.1)
      have F_value_nb55 : Fld Z h55 nb55 "java/lang/String" "value" "[B" .null := D55 (Or.inr (ow27 hw)) (ty := (.array .byte)) (by decide)
      have F_coder_nb55 : Fld Z h55 nb55 "java/lang/String" "coder" "B" (.int (0 : Int32)) := D55 (Or.inr (ow29 hw)) (ty := .byte) (by decide)
      refine og_dup (pc' := 69) X55 hx rfl (hb hby at_68) rfl ?_
      refine og_iconst (pc' := 70) (v := (2 : Int32)) X55 hx rfl (hb hby at_69) rfl ?_
      refine og_newarray (pc' := 72) (cells' := 2) (slots' := 6) (cap := 2) (ty := .char) X55 hx hZ rfl (ow106 hw) e55 (by decide) (by decide) (by decide) (hb hby at_70) rfl rfl rfl (by decide) (by decide) (fun T56 h56 nb56 kA56 X56 e56 E56 q56 V_nb56 => ?_)
      have s_nb56 : h55.size ≤ nb56 := Nat.le_of_eq q56.symm; have g_nb56 : n0 ≤ nb56 := Nat.le_trans (own_n0 O) s_nb56; have sz_nb56 : h0.size ≤ nb56 := Nat.le_trans K.1 s_nb56; have ne_nb55_nb56 : nb55 ≠ nb56 := Nat.ne_of_lt (Nat.lt_of_lt_of_le E_nb55.lt s_nb56)
      have E_nb55 := E_nb55.ext E56; have F_value_nb55 := F_value_nb55.ext E56; have F_coder_nb55 := F_coder_nb55.ext E56; have O := O.ext E56; have K := K.ext E56; have hk := Nat.le_trans hk E56.1
      have CR := CR.trans (CHr.ext E56 CR.1)
      have V_nb56 : Arv Z h56 nb56 kA56 .char (2 : Int32) [(.int (0 : Int32)), (.int (0 : Int32))] (.int (0 : Int32)) := V_nb56.pad (pad_rep [] (.int (0 : Int32)) 2)
      refine og_dup (pc' := 73) X56 hx rfl (hb hby at_72) rfl ?_
      refine og_iconst (pc' := 74) (v := (0 : Int32)) X56 hx rfl (hb hby at_73) rfl ?_
      refine og_iloadN (pc' := 75) X56 hx rfl (hb hby at_74) rfl ?_
      refine og_castore (pc' := 76) X56 hx hZ e56 V_nb56 ⟨by decide, by decide⟩ 0 (by decide) (Nat.le_of_ble_eq_true rfl) (hb hby at_75) rfl (fun T57 h57 X57 e57 W57 V57 => ?_)
      have sf57 : Safe Z own_EL s.vm h56 nb56 := own_safe0; have E_nb55 := E_nb55.wr W57; have F_value_nb55 := F_value_nb55.other W57 (Or.inl ne_nb55_nb56); have F_coder_nb55 := F_coder_nb55.other W57 (Or.inl ne_nb55_nb56); have O := O.wr W57 g_nb56; have K := K.wr W57 (Or.inr sz_nb56)
      have hk := Nat.le_trans hk (Keep.of_wr W57).1; have CR := CR.trans (CHr.wr W57 sf57 CR.1)
      have N := Fr.snoc X57 N g_nb56
      have V_nb56 : Arv Z h57 nb56 kA56 .char (2 : Int32) [(.int (nar .char c0)), (.int (0 : Int32))] (.int (0 : Int32)) := V57
      rw [own_nc hc0] at V_nb56
      refine og_dup (pc' := 77) X57 hx rfl (hb hby at_76) rfl ?_
      refine og_iconst (pc' := 78) (v := (1 : Int32)) X57 hx rfl (hb hby at_77) rfl ?_
      refine og_iloadN (pc' := 79) X57 hx rfl (hb hby at_78) rfl ?_
      refine og_castore (pc' := 80) X57 hx hZ e57 V_nb56 ⟨by decide, by decide⟩ 1 (by decide) (Nat.le_of_ble_eq_true rfl) (hb hby at_79) rfl (fun T58 h58 X58 e58 W58 V58 => ?_)
      have sf58 : Safe Z own_EL s.vm h57 nb56 := own_safe0; have E_nb55 := E_nb55.wr W58; have F_value_nb55 := F_value_nb55.other W58 (Or.inl ne_nb55_nb56); have F_coder_nb55 := F_coder_nb55.other W58 (Or.inl ne_nb55_nb56); have O := O.wr W58 g_nb56; have K := K.wr W58 (Or.inr sz_nb56)
      have hk := Nat.le_trans hk (Keep.of_wr W58).1; have CR := CR.trans (CHr.wr W58 sf58 CR.1)
      have N := Fr.snoc X58 N g_nb56
      have V_nb56 : Arv Z h58 nb56 kA56 .char (2 : Int32) [(.int c0), (.int (nar .char c1))] (.int (0 : Int32)) := V58
      rw [own_nc hc1] at V_nb56
      refine og_special (pc' := 83) (cells' := 3) (slots' := 8) (W := 1) X58 hx hZ (rm_sn_2 l Z a0 hw nb55 nb56 kA56 c0 c1 (own_le255 hc0) (own_le255 hc1) cs hcs h58 n0 O E_nb55 F_value_nb55 F_coder_nb55 V_nb56 S_CS g_nb55 (Ne.symm ne_nb55_nb56)) rfl hown (ow107 hw) (ow108 hw) (ow6 hw) (ow109 hw) (by decide) (by rw [hml]; rfl) e58 opd_19 [(.ref nb56)] [(.ref nb55)] rfl rfl rfl rfl (by decide) (by decide) rfl rfl (by decide) (by decide) (hb hby at_80) rfl (fun v59 T59 h59 L59 X59 e59 z59 => ?_)
      obtain ⟨nb59, k59, rfl, Nq59, K59, sb59, E_nb55', F_value_nb55', F_coder_nb55', V_nb59⟩ := z59; have N := Fr.app N Nq59
      have s_nb59 : h58.size ≤ nb59 := sb59; have g_nb59 : n0 ≤ nb59 := Nat.le_trans (own_n0 O) s_nb59; have sz_nb59 : h0.size ≤ nb59 := Nat.le_trans K.1 s_nb59; have ne_nb55_nb59 : nb55 ≠ nb59 := Nat.ne_of_lt (Nat.lt_of_lt_of_le E_nb55.lt s_nb59); have ne_nb56_nb59 : nb56 ≠ nb59 := Nat.ne_of_lt (Nat.lt_of_lt_of_le V_nb56.lt s_nb59)
      have sf59 : ∀ x ∈ ([nb55] : List Addr), Safe Z own_EL s.vm h58 x := (sfS own_safe0 sf0); have E_nb55 := E_nb55.keep K59; have V_nb56 := V_nb56.keep K59 (ninS (Ne.symm ne_nb55_nb56) nin0); have O := O.keep K59 (allS g_nb55 all0); have K := K.trans K59 (allS (Or.inr sz_nb55) all0); have hk := Nat.le_trans hk K59.1
      have CR := CR.trans (CHr.keep K59 sf59 CR.1)
      have E_nb55 := E_nb55'; have F_value_nb55 := F_value_nb55'; have F_coder_nb55 := F_coder_nb55'
      show OG p e below _ (T59.setTop (mkF m 83 #[.val (.int p1), .val (.int p2), .val (.int c0), .val (.int c1), .val (.int (1 : Int32)), .val (.int c2), .val (.int c3), .val (.int (0 : Int32)), .unset, .unset, .unset, .unset, .unset, .unset] [(.ref nb55)]))
      refine og_goto (pc' := 90) X59 hx (hb hby at_83) (by decide) (by decide) ?_
      refine og_astore (pc' := 92) (L' := #[.val (.int p1), .val (.int p2), .val (.int c0), .val (.int c1), .val (.int (1 : Int32)), .val (.int c2), .val (.int c3), .val (.int (0 : Int32)), .val (.ref nb55), .unset, .unset, .unset, .unset, .unset]) X59 hx rfl rfl (hb hby at_90) rfl ?_
      refine og_iload (pc' := 94) X59 hx rfl (hb hby at_92) rfl ?_
      refine og_if_eq (pc1 := 120) (pc2 := 97) X59 hx (hb hby at_94) (by decide) (by decide) rfl (fun _ => ?_) (fun q => absurd q (by decide))
      refine og_iload (pc' := 122) X59 hx rfl (hb hby at_120) rfl ?_
      refine og_static (pc' := 125) (cells' := 5) (slots' := 13) (W := 0) X59 hx hZ (rm_vo l Z a0 hw c2 (own_le255 hc2) cs hcs h59 n0 O S_CS) hown (ow4 hw) (ow5 hw) (ow6 hw) (ow7 hw) (by decide) (by rw [hml]; rfl) e59 opd_17 [(.int c2)] [] rfl rfl rfl rfl (by decide) (by decide) rfl rfl (by decide) (by decide) (hb hby at_122) rfl (fun v60 T60 h60 L60 X60 e60 z60 => ?_)
      obtain ⟨na60, nb60, k60, rfl, Nq60, K60, sa60, sb60, E_na60, F_value_na60, F_coder_na60, V_nb60⟩ := z60; have N := Fr.app N Nq60
      have s_na60 : h59.size ≤ na60 := sa60; have g_na60 : n0 ≤ na60 := Nat.le_trans (own_n0 O) s_na60; have sz_na60 : h0.size ≤ na60 := Nat.le_trans K.1 s_na60; have ne_nb55_na60 : nb55 ≠ na60 := Nat.ne_of_lt (Nat.lt_of_lt_of_le E_nb55.lt s_na60); have ne_nb56_na60 : nb56 ≠ na60 := Nat.ne_of_lt (Nat.lt_of_lt_of_le V_nb56.lt s_na60); have ne_nb59_na60 : nb59 ≠ na60 := Nat.ne_of_lt (Nat.lt_of_lt_of_le V_nb59.lt s_na60)
      have s_nb60 : h59.size ≤ nb60 := sb60; have g_nb60 : n0 ≤ nb60 := Nat.le_trans (own_n0 O) s_nb60; have sz_nb60 : h0.size ≤ nb60 := Nat.le_trans K.1 s_nb60; have ne_nb55_nb60 : nb55 ≠ nb60 := Nat.ne_of_lt (Nat.lt_of_lt_of_le E_nb55.lt s_nb60); have ne_nb56_nb60 : nb56 ≠ nb60 := Nat.ne_of_lt (Nat.lt_of_lt_of_le V_nb56.lt s_nb60); have ne_nb59_nb60 : nb59 ≠ nb60 := Nat.ne_of_lt (Nat.lt_of_lt_of_le V_nb59.lt s_nb60)
      have E_nb55 := E_nb55.keep K60; have V_nb56 := V_nb56.keep K60 nin0; have F_value_nb55 := F_value_nb55.keep K60 nin0; have F_coder_nb55 := F_coder_nb55.keep K60 nin0; have V_nb59 := V_nb59.keep K60 nin0; have O := O.keep K60 all0
      have K := K.trans K60 all0; have hk := Nat.le_trans hk K60.1; have CR := CR.trans (CHr.keep K60 sf0 CR.1)
      have ne_na60_nb60 : na60 ≠ nb60 := fun q => own_strarr E_na60 V_nb60 (ow14 hw) q
      show OG p e below _ (T60.setTop (mkF m 125 #[.val (.int p1), .val (.int p2), .val (.int c0), .val (.int c1), .val (.int (1 : Int32)), .val (.int c2), .val (.int c3), .val (.int (0 : Int32)), .val (.ref nb55), .unset, .unset, .unset, .unset, .unset] [(.ref na60)]))
      refine og_astore (pc' := 127) (L' := #[.val (.int p1), .val (.int p2), .val (.int c0), .val (.int c1), .val (.int (1 : Int32)), .val (.int c2), .val (.int c3), .val (.int (0 : Int32)), .val (.ref nb55), .val (.ref na60), .unset, .unset, .unset, .unset]) X60 hx rfl rfl (hb hby at_125) rfl ?_
      refine og_iloadN (pc' := 128) X60 hx rfl (hb hby at_127) rfl ?_
      refine og_bipush (pc' := 130) (v := (46 : Int32)) X60 hx rfl (hb hby at_128) rfl ?_
      refine og_icmp_eq (pc1 := 144) (pc2 := 133) X60 hx (hb hby at_130) (by decide) (by decide) rfl (fun hc130 => ?_) (fun hc130 => ?_)
      · -- pc 144
        refine og_iconst (pc' := 145) (v := (1 : Int32)) X60 hx rfl (hb hby at_144) rfl ?_
        refine og_goto (pc' := 149) X60 hx (hb hby at_145) (by decide) (by decide) ?_
        refine og_istore (pc' := 151) (L' := #[.val (.int p1), .val (.int p2), .val (.int c0), .val (.int c1), .val (.int (1 : Int32)), .val (.int c2), .val (.int c3), .val (.int (0 : Int32)), .val (.ref nb55), .val (.ref na60), .val (.int (1 : Int32)), .unset, .unset, .unset]) X60 hx rfl (hb hby at_149) rfl ?_
        refine og_iload (pc' := 153) X60 hx rfl (hb hby at_151) rfl ?_
        refine og_bipush (pc' := 155) (v := (46 : Int32)) X60 hx rfl (hb hby at_153) rfl ?_
        refine og_icmp_eq (pc1 := 170) (pc2 := 158) X60 hx (hb hby at_155) (by decide) (by decide) rfl (fun hc155 => ?_) (fun hc155 => ?_)
        · -- pc 170
          refine og_iconst (pc' := 171) (v := (1 : Int32)) X60 hx rfl (hb hby at_170) rfl ?_
          refine og_goto (pc' := 175) X60 hx (hb hby at_171) (by decide) (by decide) ?_
          refine og_istore (pc' := 177) (L' := #[.val (.int p1), .val (.int p2), .val (.int c0), .val (.int c1), .val (.int (1 : Int32)), .val (.int c2), .val (.int c3), .val (.int (0 : Int32)), .val (.ref nb55), .val (.ref na60), .val (.int (1 : Int32)), .val (.int (1 : Int32)), .unset, .unset]) X60 hx rfl (hb hby at_175) rfl ?_
          refine og_iload (pc' := 179) X60 hx rfl (hb hby at_177) rfl ?_
          refine og_if_ne (pc1 := 191) (pc2 := 182) X60 hx (hb hby at_179) (by decide) (by decide) rfl (fun _ => ?_) (fun q => absurd q (by decide))
          refine og_iconst (pc' := 192) (v := (0 : Int32)) X60 hx rfl (hb hby at_191) rfl ?_
          refine og_istore (pc' := 194) (L' := #[.val (.int p1), .val (.int p2), .val (.int c0), .val (.int c1), .val (.int (1 : Int32)), .val (.int c2), .val (.int c3), .val (.int (0 : Int32)), .val (.ref nb55), .val (.ref na60), .val (.int (1 : Int32)), .val (.int (1 : Int32)), .val (.int (0 : Int32)), .unset]) X60 hx rfl (hb hby at_192) rfl ?_
          refine og_new (pc' := 197) (cells' := 6) (slots' := 15) X60 hx hZ hown (ow30 hw) (ow31 hw) (ow32 hw) e60 (hb hby at_194) rfl rfl rfl (by decide) (by decide) (fun T61 h61 nb61 X61 e61 E61 q61 E_nb61 D61 B61 => ?_)
          have s_nb61 : h60.size ≤ nb61 := Nat.le_of_eq q61.symm; have g_nb61 : n0 ≤ nb61 := Nat.le_trans (own_n0 O) s_nb61; have sz_nb61 : h0.size ≤ nb61 := Nat.le_trans K.1 s_nb61; have ne_nb55_nb61 : nb55 ≠ nb61 := Nat.ne_of_lt (Nat.lt_of_lt_of_le E_nb55.lt s_nb61); have ne_nb56_nb61 : nb56 ≠ nb61 := Nat.ne_of_lt (Nat.lt_of_lt_of_le V_nb56.lt s_nb61); have ne_nb59_nb61 : nb59 ≠ nb61 := Nat.ne_of_lt (Nat.lt_of_lt_of_le V_nb59.lt s_nb61)
          have ne_na60_nb61 : na60 ≠ nb61 := Nat.ne_of_lt (Nat.lt_of_lt_of_le E_na60.lt s_nb61); have ne_nb60_nb61 : nb60 ≠ nb61 := Nat.ne_of_lt (Nat.lt_of_lt_of_le V_nb60.lt s_nb61)
          have E_nb55 := E_nb55.ext E61; have V_nb56 := V_nb56.ext E61; have F_value_nb55 := F_value_nb55.ext E61; have F_coder_nb55 := F_coder_nb55.ext E61; have V_nb59 := V_nb59.ext E61; have E_na60 := E_na60.ext E61
          have F_value_na60 := F_value_na60.ext E61; have F_coder_na60 := F_coder_na60.ext E61; have V_nb60 := V_nb60.ext E61; have O := O.ext E61; have K := K.ext E61; have hk := Nat.le_trans hk E61.1
          have CR := CR.trans (CHr.ext E61 CR.1)
          have F_schema_nb61 : Fld Z h61 nb61 "com/example/tombstone/tombstone/config/TableName" "schema" "Ljava/lang/String;" .null := D61 (Or.inr (ow56 hw)) (ty := (.object "java/lang/String")) (by decide)
          have F_name_nb61 : Fld Z h61 nb61 "com/example/tombstone/tombstone/config/TableName" "name" "Ljava/lang/String;" .null := D61 (Or.inr (ow58 hw)) (ty := (.object "java/lang/String")) (by decide)
          refine og_dup (pc' := 198) X61 hx rfl (hb hby at_197) rfl ?_
          refine og_aload (pc' := 200) X61 hx rfl rfl (hb hby at_198) rfl ?_
          refine og_aload (pc' := 202) X61 hx rfl rfl (hb hby at_200) rfl ?_
          refine og_specialW (pc' := 205) (cells' := 10) (slots' := 63) (W := 1) X61 hx hZ (rm_tn l Z a0 hw nb61 nb55 na60 nb59 nb60 k59 k60 (2 : Int32) (1 : Int32) _ _ (by decide) (by decide) h61 n0 O hEL E_nb61 F_schema_nb61 F_name_nb61 E_nb55 F_value_nb55 F_coder_nb55 V_nb59 E_na60 F_value_na60 F_coder_na60 V_nb60 g_nb61 ne_nb55_nb61 ne_na60_nb61 ne_nb59_nb61 ne_nb60_nb61) hEL hS hk CR.1 all0 rfl hown (ow33 hw) (ow34 hw) (ow32 hw) (ow35 hw) (by decide) (by rw [hml]; rfl) e61 opd_18 [(.ref nb55), (.ref na60)] [(.ref nb61)] rfl rfl rfl rfl (by decide) (by decide) rfl rfl (by decide) (by decide) (hb hby at_202) rfl (fun v62 T62 h62 L62 kk62 X62 e62 hS hk hZ hown cr62 z62 => ?_)
          obtain ⟨rfl, Nq62, K62, F_schema_nb61', F_name_nb61'⟩ := z62; have N := Fr.app N Nq62
          have E_nb55 := E_nb55.keep K62; have V_nb56 := V_nb56.keep K62 (ninS ne_nb56_nb61 nin0); have F_value_nb55 := F_value_nb55.keep K62 (ninS ne_nb55_nb61 nin0); have F_coder_nb55 := F_coder_nb55.keep K62 (ninS ne_nb55_nb61 nin0); have V_nb59 := V_nb59.keep K62 (ninS ne_nb59_nb61 nin0); have E_na60 := E_na60.keep K62
          have F_value_na60 := F_value_na60.keep K62 (ninS ne_na60_nb61 nin0); have F_coder_na60 := F_coder_na60.keep K62 (ninS ne_na60_nb61 nin0); have V_nb60 := V_nb60.keep K62 (ninS ne_nb60_nb61 nin0); have E_nb61 := E_nb61.keep K62; have O := O.keep K62 (allS g_nb61 all0); have K := K.trans K62 (allS (Or.inr sz_nb61) all0)
          have CR := CR.trans cr62
          have F_schema_nb61 := F_schema_nb61'; have F_name_nb61 := F_name_nb61'
          show OG p e below _ (T62.setTop (mkF m 205 #[.val (.int p1), .val (.int p2), .val (.int c0), .val (.int c1), .val (.int (1 : Int32)), .val (.int c2), .val (.int c3), .val (.int (0 : Int32)), .val (.ref nb55), .val (.ref na60), .val (.int (1 : Int32)), .val (.int (1 : Int32)), .val (.int (0 : Int32)), .unset] [(.ref nb61)]))
          refine og_astore (pc' := 207) (L' := #[.val (.int p1), .val (.int p2), .val (.int c0), .val (.int c1), .val (.int (1 : Int32)), .val (.int c2), .val (.int c3), .val (.int (0 : Int32)), .val (.ref nb55), .val (.ref na60), .val (.int (1 : Int32)), .val (.int (1 : Int32)), .val (.int (0 : Int32)), .val (.ref nb61)]) X62 hx rfl rfl (hb hby at_205) rfl ?_
          refine og_aload (pc' := 209) X62 hx rfl rfl (hb hby at_207) rfl ?_
          refine og_virtual (pc' := 212) (cells' := 10) (slots' := 63) (W := 0) X62 hx hZ (rm_w21 l Z a0 hw nb61 nb55 na60 nb59 nb60 k59 k60 c0 c1 c2 hc0 hc1 hc2 cs hcs 0 (by simp [hc130, hc155]) h62 n0 O F_schema_nb61 F_name_nb61 E_nb55 F_value_nb55 F_coder_nb55 V_nb59 E_na60 F_value_na60 F_coder_na60 V_nb60 S_CS) hown (ow59 hw) (ow60 hw) (own_nf hZ (ow62 hw)) (ow62 hw) (ow61 hw) (ow32 hw) (ow63 hw) (by decide) (by rw [hml]; rfl) e62 opd_11 [] [] rfl rfl rfl rfl (by decide) (by decide) rfl rfl (by decide) (by decide) E_nb61 (hb hby at_209) rfl (fun v63 T63 h63 L63 X63 e63 z63 => ?_)
          obtain ⟨rfl, Nq63, hq63⟩ := z63; replace e63 := e63.trans hq63; have N := Fr.app N Nq63
          show OG p e below _ (T63.setTop (mkF m 212 #[.val (.int p1), .val (.int p2), .val (.int c0), .val (.int c1), .val (.int (1 : Int32)), .val (.int c2), .val (.int c3), .val (.int (0 : Int32)), .val (.ref nb55), .val (.ref na60), .val (.int (1 : Int32)), .val (.int (1 : Int32)), .val (.int (0 : Int32)), .val (.ref nb61)] [(.int (0 : Int32))]))
          refine og_iload (pc' := 214) X63 hx rfl (hb hby at_212) rfl ?_
          refine og_icmp_ne (pc1 := 221) (pc2 := 217) X63 hx (hb hby at_214) (by decide) (by decide) rfl (fun q => absurd q (by decide)) (fun _ => ?_)
          refine og_iconst (pc' := 218) (v := (1 : Int32)) X63 hx rfl (hb hby at_217) rfl ?_
          refine og_goto (pc' := 222) X63 hx (hb hby at_218) (by decide) (by decide) ?_
          refine og_retNW X63 hx hZ hlk hEL hS e63 es hk CR hret (by simp) (hb hby at_222) (by decide) (by decide) ?_
          exact ⟨rfl, N⟩
        · -- pc 158
          refine og_iload (pc' := 160) X60 hx rfl (hb hby at_158) rfl ?_
          refine og_if_eq (pc1 := 174) (pc2 := 163) X60 hx (hb hby at_160) (by decide) (by decide) rfl (fun _ => ?_) (fun q => absurd q (by decide))
          refine og_iconst (pc' := 175) (v := (0 : Int32)) X60 hx rfl (hb hby at_174) rfl ?_
          refine og_istore (pc' := 177) (L' := #[.val (.int p1), .val (.int p2), .val (.int c0), .val (.int c1), .val (.int (1 : Int32)), .val (.int c2), .val (.int c3), .val (.int (0 : Int32)), .val (.ref nb55), .val (.ref na60), .val (.int (1 : Int32)), .val (.int (0 : Int32)), .unset, .unset]) X60 hx rfl (hb hby at_175) rfl ?_
          refine og_iload (pc' := 179) X60 hx rfl (hb hby at_177) rfl ?_
          refine og_if_ne (pc1 := 191) (pc2 := 182) X60 hx (hb hby at_179) (by decide) (by decide) rfl (fun _ => ?_) (fun q => absurd q (by decide))
          refine og_iconst (pc' := 192) (v := (0 : Int32)) X60 hx rfl (hb hby at_191) rfl ?_
          refine og_istore (pc' := 194) (L' := #[.val (.int p1), .val (.int p2), .val (.int c0), .val (.int c1), .val (.int (1 : Int32)), .val (.int c2), .val (.int c3), .val (.int (0 : Int32)), .val (.ref nb55), .val (.ref na60), .val (.int (1 : Int32)), .val (.int (0 : Int32)), .val (.int (0 : Int32)), .unset]) X60 hx rfl (hb hby at_192) rfl ?_
          refine og_new (pc' := 197) (cells' := 6) (slots' := 15) X60 hx hZ hown (ow30 hw) (ow31 hw) (ow32 hw) e60 (hb hby at_194) rfl rfl rfl (by decide) (by decide) (fun T64 h64 nb64 X64 e64 E64 q64 E_nb64 D64 B64 => ?_)
          have s_nb64 : h60.size ≤ nb64 := Nat.le_of_eq q64.symm; have g_nb64 : n0 ≤ nb64 := Nat.le_trans (own_n0 O) s_nb64; have sz_nb64 : h0.size ≤ nb64 := Nat.le_trans K.1 s_nb64; have ne_nb55_nb64 : nb55 ≠ nb64 := Nat.ne_of_lt (Nat.lt_of_lt_of_le E_nb55.lt s_nb64); have ne_nb56_nb64 : nb56 ≠ nb64 := Nat.ne_of_lt (Nat.lt_of_lt_of_le V_nb56.lt s_nb64); have ne_nb59_nb64 : nb59 ≠ nb64 := Nat.ne_of_lt (Nat.lt_of_lt_of_le V_nb59.lt s_nb64)
          have ne_na60_nb64 : na60 ≠ nb64 := Nat.ne_of_lt (Nat.lt_of_lt_of_le E_na60.lt s_nb64); have ne_nb60_nb64 : nb60 ≠ nb64 := Nat.ne_of_lt (Nat.lt_of_lt_of_le V_nb60.lt s_nb64)
          have E_nb55 := E_nb55.ext E64; have V_nb56 := V_nb56.ext E64; have F_value_nb55 := F_value_nb55.ext E64; have F_coder_nb55 := F_coder_nb55.ext E64; have V_nb59 := V_nb59.ext E64; have E_na60 := E_na60.ext E64
          have F_value_na60 := F_value_na60.ext E64; have F_coder_na60 := F_coder_na60.ext E64; have V_nb60 := V_nb60.ext E64; have O := O.ext E64; have K := K.ext E64; have hk := Nat.le_trans hk E64.1
          have CR := CR.trans (CHr.ext E64 CR.1)
          have F_schema_nb64 : Fld Z h64 nb64 "com/example/tombstone/tombstone/config/TableName" "schema" "Ljava/lang/String;" .null := D64 (Or.inr (ow56 hw)) (ty := (.object "java/lang/String")) (by decide)
          have F_name_nb64 : Fld Z h64 nb64 "com/example/tombstone/tombstone/config/TableName" "name" "Ljava/lang/String;" .null := D64 (Or.inr (ow58 hw)) (ty := (.object "java/lang/String")) (by decide)
          refine og_dup (pc' := 198) X64 hx rfl (hb hby at_197) rfl ?_
          refine og_aload (pc' := 200) X64 hx rfl rfl (hb hby at_198) rfl ?_
          refine og_aload (pc' := 202) X64 hx rfl rfl (hb hby at_200) rfl ?_
          refine og_specialW (pc' := 205) (cells' := 10) (slots' := 63) (W := 1) X64 hx hZ (rm_tn l Z a0 hw nb64 nb55 na60 nb59 nb60 k59 k60 (2 : Int32) (1 : Int32) _ _ (by decide) (by decide) h64 n0 O hEL E_nb64 F_schema_nb64 F_name_nb64 E_nb55 F_value_nb55 F_coder_nb55 V_nb59 E_na60 F_value_na60 F_coder_na60 V_nb60 g_nb64 ne_nb55_nb64 ne_na60_nb64 ne_nb59_nb64 ne_nb60_nb64) hEL hS hk CR.1 all0 rfl hown (ow33 hw) (ow34 hw) (ow32 hw) (ow35 hw) (by decide) (by rw [hml]; rfl) e64 opd_18 [(.ref nb55), (.ref na60)] [(.ref nb64)] rfl rfl rfl rfl (by decide) (by decide) rfl rfl (by decide) (by decide) (hb hby at_202) rfl (fun v65 T65 h65 L65 kk65 X65 e65 hS hk hZ hown cr65 z65 => ?_)
          obtain ⟨rfl, Nq65, K65, F_schema_nb64', F_name_nb64'⟩ := z65; have N := Fr.app N Nq65
          have E_nb55 := E_nb55.keep K65; have V_nb56 := V_nb56.keep K65 (ninS ne_nb56_nb64 nin0); have F_value_nb55 := F_value_nb55.keep K65 (ninS ne_nb55_nb64 nin0); have F_coder_nb55 := F_coder_nb55.keep K65 (ninS ne_nb55_nb64 nin0); have V_nb59 := V_nb59.keep K65 (ninS ne_nb59_nb64 nin0); have E_na60 := E_na60.keep K65
          have F_value_na60 := F_value_na60.keep K65 (ninS ne_na60_nb64 nin0); have F_coder_na60 := F_coder_na60.keep K65 (ninS ne_na60_nb64 nin0); have V_nb60 := V_nb60.keep K65 (ninS ne_nb60_nb64 nin0); have E_nb64 := E_nb64.keep K65; have O := O.keep K65 (allS g_nb64 all0); have K := K.trans K65 (allS (Or.inr sz_nb64) all0)
          have CR := CR.trans cr65
          have F_schema_nb64 := F_schema_nb64'; have F_name_nb64 := F_name_nb64'
          show OG p e below _ (T65.setTop (mkF m 205 #[.val (.int p1), .val (.int p2), .val (.int c0), .val (.int c1), .val (.int (1 : Int32)), .val (.int c2), .val (.int c3), .val (.int (0 : Int32)), .val (.ref nb55), .val (.ref na60), .val (.int (1 : Int32)), .val (.int (0 : Int32)), .val (.int (0 : Int32)), .unset] [(.ref nb64)]))
          refine og_astore (pc' := 207) (L' := #[.val (.int p1), .val (.int p2), .val (.int c0), .val (.int c1), .val (.int (1 : Int32)), .val (.int c2), .val (.int c3), .val (.int (0 : Int32)), .val (.ref nb55), .val (.ref na60), .val (.int (1 : Int32)), .val (.int (0 : Int32)), .val (.int (0 : Int32)), .val (.ref nb64)]) X65 hx rfl rfl (hb hby at_205) rfl ?_
          refine og_aload (pc' := 209) X65 hx rfl rfl (hb hby at_207) rfl ?_
          refine og_virtual (pc' := 212) (cells' := 10) (slots' := 63) (W := 0) X65 hx hZ (rm_w21 l Z a0 hw nb64 nb55 na60 nb59 nb60 k59 k60 c0 c1 c2 hc0 hc1 hc2 cs hcs 0 (by simp [hc130, hc155]) h65 n0 O F_schema_nb64 F_name_nb64 E_nb55 F_value_nb55 F_coder_nb55 V_nb59 E_na60 F_value_na60 F_coder_na60 V_nb60 S_CS) hown (ow59 hw) (ow60 hw) (own_nf hZ (ow62 hw)) (ow62 hw) (ow61 hw) (ow32 hw) (ow63 hw) (by decide) (by rw [hml]; rfl) e65 opd_11 [] [] rfl rfl rfl rfl (by decide) (by decide) rfl rfl (by decide) (by decide) E_nb64 (hb hby at_209) rfl (fun v66 T66 h66 L66 X66 e66 z66 => ?_)
          obtain ⟨rfl, Nq66, hq66⟩ := z66; replace e66 := e66.trans hq66; have N := Fr.app N Nq66
          show OG p e below _ (T66.setTop (mkF m 212 #[.val (.int p1), .val (.int p2), .val (.int c0), .val (.int c1), .val (.int (1 : Int32)), .val (.int c2), .val (.int c3), .val (.int (0 : Int32)), .val (.ref nb55), .val (.ref na60), .val (.int (1 : Int32)), .val (.int (0 : Int32)), .val (.int (0 : Int32)), .val (.ref nb64)] [(.int (0 : Int32))]))
          refine og_iload (pc' := 214) X66 hx rfl (hb hby at_212) rfl ?_
          refine og_icmp_ne (pc1 := 221) (pc2 := 217) X66 hx (hb hby at_214) (by decide) (by decide) rfl (fun q => absurd q (by decide)) (fun _ => ?_)
          refine og_iconst (pc' := 218) (v := (1 : Int32)) X66 hx rfl (hb hby at_217) rfl ?_
          refine og_goto (pc' := 222) X66 hx (hb hby at_218) (by decide) (by decide) ?_
          refine og_retNW X66 hx hZ hlk hEL hS e66 es hk CR hret (by simp) (hb hby at_222) (by decide) (by decide) ?_
          exact ⟨rfl, N⟩
      · -- pc 133
        refine og_iload (pc' := 135) X60 hx rfl (hb hby at_133) rfl ?_
        refine og_if_eq (pc1 := 148) (pc2 := 138) X60 hx (hb hby at_135) (by decide) (by decide) rfl (fun q => absurd q (by decide)) (fun _ => ?_)
        refine og_iloadN (pc' := 139) X60 hx rfl (hb hby at_138) rfl ?_
        refine og_bipush (pc' := 141) (v := (46 : Int32)) X60 hx rfl (hb hby at_139) rfl ?_
        refine og_icmp_ne (pc1 := 148) (pc2 := 144) X60 hx (hb hby at_141) (by decide) (by decide) rfl (fun hc141 => ?_) (fun hc141 => ?_)
        · -- pc 148
          refine og_iconst (pc' := 149) (v := (0 : Int32)) X60 hx rfl (hb hby at_148) rfl ?_
          refine og_istore (pc' := 151) (L' := #[.val (.int p1), .val (.int p2), .val (.int c0), .val (.int c1), .val (.int (1 : Int32)), .val (.int c2), .val (.int c3), .val (.int (0 : Int32)), .val (.ref nb55), .val (.ref na60), .val (.int (0 : Int32)), .unset, .unset, .unset]) X60 hx rfl (hb hby at_149) rfl ?_
          refine og_iload (pc' := 153) X60 hx rfl (hb hby at_151) rfl ?_
          refine og_bipush (pc' := 155) (v := (46 : Int32)) X60 hx rfl (hb hby at_153) rfl ?_
          refine og_icmp_eq (pc1 := 170) (pc2 := 158) X60 hx (hb hby at_155) (by decide) (by decide) rfl (fun hc155 => ?_) (fun hc155 => ?_)
          · -- pc 170
            refine og_iconst (pc' := 171) (v := (1 : Int32)) X60 hx rfl (hb hby at_170) rfl ?_
            refine og_goto (pc' := 175) X60 hx (hb hby at_171) (by decide) (by decide) ?_
            refine og_istore (pc' := 177) (L' := #[.val (.int p1), .val (.int p2), .val (.int c0), .val (.int c1), .val (.int (1 : Int32)), .val (.int c2), .val (.int c3), .val (.int (0 : Int32)), .val (.ref nb55), .val (.ref na60), .val (.int (0 : Int32)), .val (.int (1 : Int32)), .unset, .unset]) X60 hx rfl (hb hby at_175) rfl ?_
            refine og_iload (pc' := 179) X60 hx rfl (hb hby at_177) rfl ?_
            refine og_if_ne (pc1 := 191) (pc2 := 182) X60 hx (hb hby at_179) (by decide) (by decide) rfl (fun q => absurd q (by decide)) (fun _ => ?_)
            refine og_iload (pc' := 184) X60 hx rfl (hb hby at_182) rfl ?_
            refine og_if_ne (pc1 := 191) (pc2 := 187) X60 hx (hb hby at_184) (by decide) (by decide) rfl (fun _ => ?_) (fun q => absurd q (by decide))
            refine og_iconst (pc' := 192) (v := (0 : Int32)) X60 hx rfl (hb hby at_191) rfl ?_
            refine og_istore (pc' := 194) (L' := #[.val (.int p1), .val (.int p2), .val (.int c0), .val (.int c1), .val (.int (1 : Int32)), .val (.int c2), .val (.int c3), .val (.int (0 : Int32)), .val (.ref nb55), .val (.ref na60), .val (.int (0 : Int32)), .val (.int (1 : Int32)), .val (.int (0 : Int32)), .unset]) X60 hx rfl (hb hby at_192) rfl ?_
            refine og_new (pc' := 197) (cells' := 6) (slots' := 15) X60 hx hZ hown (ow30 hw) (ow31 hw) (ow32 hw) e60 (hb hby at_194) rfl rfl rfl (by decide) (by decide) (fun T67 h67 nb67 X67 e67 E67 q67 E_nb67 D67 B67 => ?_)
            have s_nb67 : h60.size ≤ nb67 := Nat.le_of_eq q67.symm; have g_nb67 : n0 ≤ nb67 := Nat.le_trans (own_n0 O) s_nb67; have sz_nb67 : h0.size ≤ nb67 := Nat.le_trans K.1 s_nb67; have ne_nb55_nb67 : nb55 ≠ nb67 := Nat.ne_of_lt (Nat.lt_of_lt_of_le E_nb55.lt s_nb67); have ne_nb56_nb67 : nb56 ≠ nb67 := Nat.ne_of_lt (Nat.lt_of_lt_of_le V_nb56.lt s_nb67); have ne_nb59_nb67 : nb59 ≠ nb67 := Nat.ne_of_lt (Nat.lt_of_lt_of_le V_nb59.lt s_nb67)
            have ne_na60_nb67 : na60 ≠ nb67 := Nat.ne_of_lt (Nat.lt_of_lt_of_le E_na60.lt s_nb67); have ne_nb60_nb67 : nb60 ≠ nb67 := Nat.ne_of_lt (Nat.lt_of_lt_of_le V_nb60.lt s_nb67)
            have E_nb55 := E_nb55.ext E67; have V_nb56 := V_nb56.ext E67; have F_value_nb55 := F_value_nb55.ext E67; have F_coder_nb55 := F_coder_nb55.ext E67; have V_nb59 := V_nb59.ext E67; have E_na60 := E_na60.ext E67
            have F_value_na60 := F_value_na60.ext E67; have F_coder_na60 := F_coder_na60.ext E67; have V_nb60 := V_nb60.ext E67; have O := O.ext E67; have K := K.ext E67; have hk := Nat.le_trans hk E67.1
            have CR := CR.trans (CHr.ext E67 CR.1)
            have F_schema_nb67 : Fld Z h67 nb67 "com/example/tombstone/tombstone/config/TableName" "schema" "Ljava/lang/String;" .null := D67 (Or.inr (ow56 hw)) (ty := (.object "java/lang/String")) (by decide)
            have F_name_nb67 : Fld Z h67 nb67 "com/example/tombstone/tombstone/config/TableName" "name" "Ljava/lang/String;" .null := D67 (Or.inr (ow58 hw)) (ty := (.object "java/lang/String")) (by decide)
            refine og_dup (pc' := 198) X67 hx rfl (hb hby at_197) rfl ?_
            refine og_aload (pc' := 200) X67 hx rfl rfl (hb hby at_198) rfl ?_
            refine og_aload (pc' := 202) X67 hx rfl rfl (hb hby at_200) rfl ?_
            refine og_specialW (pc' := 205) (cells' := 10) (slots' := 63) (W := 1) X67 hx hZ (rm_tn l Z a0 hw nb67 nb55 na60 nb59 nb60 k59 k60 (2 : Int32) (1 : Int32) _ _ (by decide) (by decide) h67 n0 O hEL E_nb67 F_schema_nb67 F_name_nb67 E_nb55 F_value_nb55 F_coder_nb55 V_nb59 E_na60 F_value_na60 F_coder_na60 V_nb60 g_nb67 ne_nb55_nb67 ne_na60_nb67 ne_nb59_nb67 ne_nb60_nb67) hEL hS hk CR.1 all0 rfl hown (ow33 hw) (ow34 hw) (ow32 hw) (ow35 hw) (by decide) (by rw [hml]; rfl) e67 opd_18 [(.ref nb55), (.ref na60)] [(.ref nb67)] rfl rfl rfl rfl (by decide) (by decide) rfl rfl (by decide) (by decide) (hb hby at_202) rfl (fun v68 T68 h68 L68 kk68 X68 e68 hS hk hZ hown cr68 z68 => ?_)
            obtain ⟨rfl, Nq68, K68, F_schema_nb67', F_name_nb67'⟩ := z68; have N := Fr.app N Nq68
            have E_nb55 := E_nb55.keep K68; have V_nb56 := V_nb56.keep K68 (ninS ne_nb56_nb67 nin0); have F_value_nb55 := F_value_nb55.keep K68 (ninS ne_nb55_nb67 nin0); have F_coder_nb55 := F_coder_nb55.keep K68 (ninS ne_nb55_nb67 nin0); have V_nb59 := V_nb59.keep K68 (ninS ne_nb59_nb67 nin0); have E_na60 := E_na60.keep K68
            have F_value_na60 := F_value_na60.keep K68 (ninS ne_na60_nb67 nin0); have F_coder_na60 := F_coder_na60.keep K68 (ninS ne_na60_nb67 nin0); have V_nb60 := V_nb60.keep K68 (ninS ne_nb60_nb67 nin0); have E_nb67 := E_nb67.keep K68; have O := O.keep K68 (allS g_nb67 all0); have K := K.trans K68 (allS (Or.inr sz_nb67) all0)
            have CR := CR.trans cr68
            have F_schema_nb67 := F_schema_nb67'; have F_name_nb67 := F_name_nb67'
            show OG p e below _ (T68.setTop (mkF m 205 #[.val (.int p1), .val (.int p2), .val (.int c0), .val (.int c1), .val (.int (1 : Int32)), .val (.int c2), .val (.int c3), .val (.int (0 : Int32)), .val (.ref nb55), .val (.ref na60), .val (.int (0 : Int32)), .val (.int (1 : Int32)), .val (.int (0 : Int32)), .unset] [(.ref nb67)]))
            refine og_astore (pc' := 207) (L' := #[.val (.int p1), .val (.int p2), .val (.int c0), .val (.int c1), .val (.int (1 : Int32)), .val (.int c2), .val (.int c3), .val (.int (0 : Int32)), .val (.ref nb55), .val (.ref na60), .val (.int (0 : Int32)), .val (.int (1 : Int32)), .val (.int (0 : Int32)), .val (.ref nb67)]) X68 hx rfl rfl (hb hby at_205) rfl ?_
            refine og_aload (pc' := 209) X68 hx rfl rfl (hb hby at_207) rfl ?_
            refine og_virtual (pc' := 212) (cells' := 10) (slots' := 63) (W := 0) X68 hx hZ (rm_w21 l Z a0 hw nb67 nb55 na60 nb59 nb60 k59 k60 c0 c1 c2 hc0 hc1 hc2 cs hcs 0 (by simp [hc130, hc141, hc155]) h68 n0 O F_schema_nb67 F_name_nb67 E_nb55 F_value_nb55 F_coder_nb55 V_nb59 E_na60 F_value_na60 F_coder_na60 V_nb60 S_CS) hown (ow59 hw) (ow60 hw) (own_nf hZ (ow62 hw)) (ow62 hw) (ow61 hw) (ow32 hw) (ow63 hw) (by decide) (by rw [hml]; rfl) e68 opd_11 [] [] rfl rfl rfl rfl (by decide) (by decide) rfl rfl (by decide) (by decide) E_nb67 (hb hby at_209) rfl (fun v69 T69 h69 L69 X69 e69 z69 => ?_)
            obtain ⟨rfl, Nq69, hq69⟩ := z69; replace e69 := e69.trans hq69; have N := Fr.app N Nq69
            show OG p e below _ (T69.setTop (mkF m 212 #[.val (.int p1), .val (.int p2), .val (.int c0), .val (.int c1), .val (.int (1 : Int32)), .val (.int c2), .val (.int c3), .val (.int (0 : Int32)), .val (.ref nb55), .val (.ref na60), .val (.int (0 : Int32)), .val (.int (1 : Int32)), .val (.int (0 : Int32)), .val (.ref nb67)] [(.int (0 : Int32))]))
            refine og_iload (pc' := 214) X69 hx rfl (hb hby at_212) rfl ?_
            refine og_icmp_ne (pc1 := 221) (pc2 := 217) X69 hx (hb hby at_214) (by decide) (by decide) rfl (fun q => absurd q (by decide)) (fun _ => ?_)
            refine og_iconst (pc' := 218) (v := (1 : Int32)) X69 hx rfl (hb hby at_217) rfl ?_
            refine og_goto (pc' := 222) X69 hx (hb hby at_218) (by decide) (by decide) ?_
            refine og_retNW X69 hx hZ hlk hEL hS e69 es hk CR hret (by simp) (hb hby at_222) (by decide) (by decide) ?_
            exact ⟨rfl, N⟩
          · -- pc 158
            refine og_iload (pc' := 160) X60 hx rfl (hb hby at_158) rfl ?_
            refine og_if_eq (pc1 := 174) (pc2 := 163) X60 hx (hb hby at_160) (by decide) (by decide) rfl (fun _ => ?_) (fun q => absurd q (by decide))
            refine og_iconst (pc' := 175) (v := (0 : Int32)) X60 hx rfl (hb hby at_174) rfl ?_
            refine og_istore (pc' := 177) (L' := #[.val (.int p1), .val (.int p2), .val (.int c0), .val (.int c1), .val (.int (1 : Int32)), .val (.int c2), .val (.int c3), .val (.int (0 : Int32)), .val (.ref nb55), .val (.ref na60), .val (.int (0 : Int32)), .val (.int (0 : Int32)), .unset, .unset]) X60 hx rfl (hb hby at_175) rfl ?_
            refine og_iload (pc' := 179) X60 hx rfl (hb hby at_177) rfl ?_
            refine og_if_ne (pc1 := 191) (pc2 := 182) X60 hx (hb hby at_179) (by decide) (by decide) rfl (fun q => absurd q (by decide)) (fun _ => ?_)
            refine og_iload (pc' := 184) X60 hx rfl (hb hby at_182) rfl ?_
            refine og_if_ne (pc1 := 191) (pc2 := 187) X60 hx (hb hby at_184) (by decide) (by decide) rfl (fun q => absurd q (by decide)) (fun _ => ?_)
            refine og_iconst (pc' := 188) (v := (1 : Int32)) X60 hx rfl (hb hby at_187) rfl ?_
            refine og_goto (pc' := 192) X60 hx (hb hby at_188) (by decide) (by decide) ?_
            refine og_istore (pc' := 194) (L' := #[.val (.int p1), .val (.int p2), .val (.int c0), .val (.int c1), .val (.int (1 : Int32)), .val (.int c2), .val (.int c3), .val (.int (0 : Int32)), .val (.ref nb55), .val (.ref na60), .val (.int (0 : Int32)), .val (.int (0 : Int32)), .val (.int (1 : Int32)), .unset]) X60 hx rfl (hb hby at_192) rfl ?_
            refine og_new (pc' := 197) (cells' := 6) (slots' := 15) X60 hx hZ hown (ow30 hw) (ow31 hw) (ow32 hw) e60 (hb hby at_194) rfl rfl rfl (by decide) (by decide) (fun T70 h70 nb70 X70 e70 E70 q70 E_nb70 D70 B70 => ?_)
            have s_nb70 : h60.size ≤ nb70 := Nat.le_of_eq q70.symm; have g_nb70 : n0 ≤ nb70 := Nat.le_trans (own_n0 O) s_nb70; have sz_nb70 : h0.size ≤ nb70 := Nat.le_trans K.1 s_nb70; have ne_nb55_nb70 : nb55 ≠ nb70 := Nat.ne_of_lt (Nat.lt_of_lt_of_le E_nb55.lt s_nb70); have ne_nb56_nb70 : nb56 ≠ nb70 := Nat.ne_of_lt (Nat.lt_of_lt_of_le V_nb56.lt s_nb70); have ne_nb59_nb70 : nb59 ≠ nb70 := Nat.ne_of_lt (Nat.lt_of_lt_of_le V_nb59.lt s_nb70)
            have ne_na60_nb70 : na60 ≠ nb70 := Nat.ne_of_lt (Nat.lt_of_lt_of_le E_na60.lt s_nb70); have ne_nb60_nb70 : nb60 ≠ nb70 := Nat.ne_of_lt (Nat.lt_of_lt_of_le V_nb60.lt s_nb70)
            have E_nb55 := E_nb55.ext E70; have V_nb56 := V_nb56.ext E70; have F_value_nb55 := F_value_nb55.ext E70; have F_coder_nb55 := F_coder_nb55.ext E70; have V_nb59 := V_nb59.ext E70; have E_na60 := E_na60.ext E70
            have F_value_na60 := F_value_na60.ext E70; have F_coder_na60 := F_coder_na60.ext E70; have V_nb60 := V_nb60.ext E70; have O := O.ext E70; have K := K.ext E70; have hk := Nat.le_trans hk E70.1
            have CR := CR.trans (CHr.ext E70 CR.1)
            have F_schema_nb70 : Fld Z h70 nb70 "com/example/tombstone/tombstone/config/TableName" "schema" "Ljava/lang/String;" .null := D70 (Or.inr (ow56 hw)) (ty := (.object "java/lang/String")) (by decide)
            have F_name_nb70 : Fld Z h70 nb70 "com/example/tombstone/tombstone/config/TableName" "name" "Ljava/lang/String;" .null := D70 (Or.inr (ow58 hw)) (ty := (.object "java/lang/String")) (by decide)
            refine og_dup (pc' := 198) X70 hx rfl (hb hby at_197) rfl ?_
            refine og_aload (pc' := 200) X70 hx rfl rfl (hb hby at_198) rfl ?_
            refine og_aload (pc' := 202) X70 hx rfl rfl (hb hby at_200) rfl ?_
            refine og_specialW (pc' := 205) (cells' := 10) (slots' := 63) (W := 1) X70 hx hZ (rm_tn l Z a0 hw nb70 nb55 na60 nb59 nb60 k59 k60 (2 : Int32) (1 : Int32) _ _ (by decide) (by decide) h70 n0 O hEL E_nb70 F_schema_nb70 F_name_nb70 E_nb55 F_value_nb55 F_coder_nb55 V_nb59 E_na60 F_value_na60 F_coder_na60 V_nb60 g_nb70 ne_nb55_nb70 ne_na60_nb70 ne_nb59_nb70 ne_nb60_nb70) hEL hS hk CR.1 all0 rfl hown (ow33 hw) (ow34 hw) (ow32 hw) (ow35 hw) (by decide) (by rw [hml]; rfl) e70 opd_18 [(.ref nb55), (.ref na60)] [(.ref nb70)] rfl rfl rfl rfl (by decide) (by decide) rfl rfl (by decide) (by decide) (hb hby at_202) rfl (fun v71 T71 h71 L71 kk71 X71 e71 hS hk hZ hown cr71 z71 => ?_)
            obtain ⟨rfl, Nq71, K71, F_schema_nb70', F_name_nb70'⟩ := z71; have N := Fr.app N Nq71
            have E_nb55 := E_nb55.keep K71; have V_nb56 := V_nb56.keep K71 (ninS ne_nb56_nb70 nin0); have F_value_nb55 := F_value_nb55.keep K71 (ninS ne_nb55_nb70 nin0); have F_coder_nb55 := F_coder_nb55.keep K71 (ninS ne_nb55_nb70 nin0); have V_nb59 := V_nb59.keep K71 (ninS ne_nb59_nb70 nin0); have E_na60 := E_na60.keep K71
            have F_value_na60 := F_value_na60.keep K71 (ninS ne_na60_nb70 nin0); have F_coder_na60 := F_coder_na60.keep K71 (ninS ne_na60_nb70 nin0); have V_nb60 := V_nb60.keep K71 (ninS ne_nb60_nb70 nin0); have E_nb70 := E_nb70.keep K71; have O := O.keep K71 (allS g_nb70 all0); have K := K.trans K71 (allS (Or.inr sz_nb70) all0)
            have CR := CR.trans cr71
            have F_schema_nb70 := F_schema_nb70'; have F_name_nb70 := F_name_nb70'
            show OG p e below _ (T71.setTop (mkF m 205 #[.val (.int p1), .val (.int p2), .val (.int c0), .val (.int c1), .val (.int (1 : Int32)), .val (.int c2), .val (.int c3), .val (.int (0 : Int32)), .val (.ref nb55), .val (.ref na60), .val (.int (0 : Int32)), .val (.int (0 : Int32)), .val (.int (1 : Int32)), .unset] [(.ref nb70)]))
            refine og_astore (pc' := 207) (L' := #[.val (.int p1), .val (.int p2), .val (.int c0), .val (.int c1), .val (.int (1 : Int32)), .val (.int c2), .val (.int c3), .val (.int (0 : Int32)), .val (.ref nb55), .val (.ref na60), .val (.int (0 : Int32)), .val (.int (0 : Int32)), .val (.int (1 : Int32)), .val (.ref nb70)]) X71 hx rfl rfl (hb hby at_205) rfl ?_
            refine og_aload (pc' := 209) X71 hx rfl rfl (hb hby at_207) rfl ?_
            refine og_virtual (pc' := 212) (cells' := 10) (slots' := 63) (W := 0) X71 hx hZ (rm_w21 l Z a0 hw nb70 nb55 na60 nb59 nb60 k59 k60 c0 c1 c2 hc0 hc1 hc2 cs hcs 1 (by simp [hc130, hc141, hc155]) h71 n0 O F_schema_nb70 F_name_nb70 E_nb55 F_value_nb55 F_coder_nb55 V_nb59 E_na60 F_value_na60 F_coder_na60 V_nb60 S_CS) hown (ow59 hw) (ow60 hw) (own_nf hZ (ow62 hw)) (ow62 hw) (ow61 hw) (ow32 hw) (ow63 hw) (by decide) (by rw [hml]; rfl) e71 opd_11 [] [] rfl rfl rfl rfl (by decide) (by decide) rfl rfl (by decide) (by decide) E_nb70 (hb hby at_209) rfl (fun v72 T72 h72 L72 X72 e72 z72 => ?_)
            obtain ⟨rfl, Nq72, hq72⟩ := z72; replace e72 := e72.trans hq72; have N := Fr.app N Nq72
            show OG p e below _ (T72.setTop (mkF m 212 #[.val (.int p1), .val (.int p2), .val (.int c0), .val (.int c1), .val (.int (1 : Int32)), .val (.int c2), .val (.int c3), .val (.int (0 : Int32)), .val (.ref nb55), .val (.ref na60), .val (.int (0 : Int32)), .val (.int (0 : Int32)), .val (.int (1 : Int32)), .val (.ref nb70)] [(.int (1 : Int32))]))
            refine og_iload (pc' := 214) X72 hx rfl (hb hby at_212) rfl ?_
            refine og_icmp_ne (pc1 := 221) (pc2 := 217) X72 hx (hb hby at_214) (by decide) (by decide) rfl (fun q => absurd q (by decide)) (fun _ => ?_)
            refine og_iconst (pc' := 218) (v := (1 : Int32)) X72 hx rfl (hb hby at_217) rfl ?_
            refine og_goto (pc' := 222) X72 hx (hb hby at_218) (by decide) (by decide) ?_
            refine og_retNW X72 hx hZ hlk hEL hS e72 es hk CR hret (by simp) (hb hby at_222) (by decide) (by decide) ?_
            exact ⟨rfl, N⟩
        · -- pc 144
          refine og_iconst (pc' := 145) (v := (1 : Int32)) X60 hx rfl (hb hby at_144) rfl ?_
          refine og_goto (pc' := 149) X60 hx (hb hby at_145) (by decide) (by decide) ?_
          refine og_istore (pc' := 151) (L' := #[.val (.int p1), .val (.int p2), .val (.int c0), .val (.int c1), .val (.int (1 : Int32)), .val (.int c2), .val (.int c3), .val (.int (0 : Int32)), .val (.ref nb55), .val (.ref na60), .val (.int (1 : Int32)), .unset, .unset, .unset]) X60 hx rfl (hb hby at_149) rfl ?_
          refine og_iload (pc' := 153) X60 hx rfl (hb hby at_151) rfl ?_
          refine og_bipush (pc' := 155) (v := (46 : Int32)) X60 hx rfl (hb hby at_153) rfl ?_
          refine og_icmp_eq (pc1 := 170) (pc2 := 158) X60 hx (hb hby at_155) (by decide) (by decide) rfl (fun hc155 => ?_) (fun hc155 => ?_)
          · -- pc 170
            refine og_iconst (pc' := 171) (v := (1 : Int32)) X60 hx rfl (hb hby at_170) rfl ?_
            refine og_goto (pc' := 175) X60 hx (hb hby at_171) (by decide) (by decide) ?_
            refine og_istore (pc' := 177) (L' := #[.val (.int p1), .val (.int p2), .val (.int c0), .val (.int c1), .val (.int (1 : Int32)), .val (.int c2), .val (.int c3), .val (.int (0 : Int32)), .val (.ref nb55), .val (.ref na60), .val (.int (1 : Int32)), .val (.int (1 : Int32)), .unset, .unset]) X60 hx rfl (hb hby at_175) rfl ?_
            refine og_iload (pc' := 179) X60 hx rfl (hb hby at_177) rfl ?_
            refine og_if_ne (pc1 := 191) (pc2 := 182) X60 hx (hb hby at_179) (by decide) (by decide) rfl (fun _ => ?_) (fun q => absurd q (by decide))
            refine og_iconst (pc' := 192) (v := (0 : Int32)) X60 hx rfl (hb hby at_191) rfl ?_
            refine og_istore (pc' := 194) (L' := #[.val (.int p1), .val (.int p2), .val (.int c0), .val (.int c1), .val (.int (1 : Int32)), .val (.int c2), .val (.int c3), .val (.int (0 : Int32)), .val (.ref nb55), .val (.ref na60), .val (.int (1 : Int32)), .val (.int (1 : Int32)), .val (.int (0 : Int32)), .unset]) X60 hx rfl (hb hby at_192) rfl ?_
            refine og_new (pc' := 197) (cells' := 6) (slots' := 15) X60 hx hZ hown (ow30 hw) (ow31 hw) (ow32 hw) e60 (hb hby at_194) rfl rfl rfl (by decide) (by decide) (fun T73 h73 nb73 X73 e73 E73 q73 E_nb73 D73 B73 => ?_)
            have s_nb73 : h60.size ≤ nb73 := Nat.le_of_eq q73.symm; have g_nb73 : n0 ≤ nb73 := Nat.le_trans (own_n0 O) s_nb73; have sz_nb73 : h0.size ≤ nb73 := Nat.le_trans K.1 s_nb73; have ne_nb55_nb73 : nb55 ≠ nb73 := Nat.ne_of_lt (Nat.lt_of_lt_of_le E_nb55.lt s_nb73); have ne_nb56_nb73 : nb56 ≠ nb73 := Nat.ne_of_lt (Nat.lt_of_lt_of_le V_nb56.lt s_nb73); have ne_nb59_nb73 : nb59 ≠ nb73 := Nat.ne_of_lt (Nat.lt_of_lt_of_le V_nb59.lt s_nb73)
            have ne_na60_nb73 : na60 ≠ nb73 := Nat.ne_of_lt (Nat.lt_of_lt_of_le E_na60.lt s_nb73); have ne_nb60_nb73 : nb60 ≠ nb73 := Nat.ne_of_lt (Nat.lt_of_lt_of_le V_nb60.lt s_nb73)
            have E_nb55 := E_nb55.ext E73; have V_nb56 := V_nb56.ext E73; have F_value_nb55 := F_value_nb55.ext E73; have F_coder_nb55 := F_coder_nb55.ext E73; have V_nb59 := V_nb59.ext E73; have E_na60 := E_na60.ext E73
            have F_value_na60 := F_value_na60.ext E73; have F_coder_na60 := F_coder_na60.ext E73; have V_nb60 := V_nb60.ext E73; have O := O.ext E73; have K := K.ext E73; have hk := Nat.le_trans hk E73.1
            have CR := CR.trans (CHr.ext E73 CR.1)
            have F_schema_nb73 : Fld Z h73 nb73 "com/example/tombstone/tombstone/config/TableName" "schema" "Ljava/lang/String;" .null := D73 (Or.inr (ow56 hw)) (ty := (.object "java/lang/String")) (by decide)
            have F_name_nb73 : Fld Z h73 nb73 "com/example/tombstone/tombstone/config/TableName" "name" "Ljava/lang/String;" .null := D73 (Or.inr (ow58 hw)) (ty := (.object "java/lang/String")) (by decide)
            refine og_dup (pc' := 198) X73 hx rfl (hb hby at_197) rfl ?_
            refine og_aload (pc' := 200) X73 hx rfl rfl (hb hby at_198) rfl ?_
            refine og_aload (pc' := 202) X73 hx rfl rfl (hb hby at_200) rfl ?_
            refine og_specialW (pc' := 205) (cells' := 10) (slots' := 63) (W := 1) X73 hx hZ (rm_tn l Z a0 hw nb73 nb55 na60 nb59 nb60 k59 k60 (2 : Int32) (1 : Int32) _ _ (by decide) (by decide) h73 n0 O hEL E_nb73 F_schema_nb73 F_name_nb73 E_nb55 F_value_nb55 F_coder_nb55 V_nb59 E_na60 F_value_na60 F_coder_na60 V_nb60 g_nb73 ne_nb55_nb73 ne_na60_nb73 ne_nb59_nb73 ne_nb60_nb73) hEL hS hk CR.1 all0 rfl hown (ow33 hw) (ow34 hw) (ow32 hw) (ow35 hw) (by decide) (by rw [hml]; rfl) e73 opd_18 [(.ref nb55), (.ref na60)] [(.ref nb73)] rfl rfl rfl rfl (by decide) (by decide) rfl rfl (by decide) (by decide) (hb hby at_202) rfl (fun v74 T74 h74 L74 kk74 X74 e74 hS hk hZ hown cr74 z74 => ?_)
            obtain ⟨rfl, Nq74, K74, F_schema_nb73', F_name_nb73'⟩ := z74; have N := Fr.app N Nq74
            have E_nb55 := E_nb55.keep K74; have V_nb56 := V_nb56.keep K74 (ninS ne_nb56_nb73 nin0); have F_value_nb55 := F_value_nb55.keep K74 (ninS ne_nb55_nb73 nin0); have F_coder_nb55 := F_coder_nb55.keep K74 (ninS ne_nb55_nb73 nin0); have V_nb59 := V_nb59.keep K74 (ninS ne_nb59_nb73 nin0); have E_na60 := E_na60.keep K74
            have F_value_na60 := F_value_na60.keep K74 (ninS ne_na60_nb73 nin0); have F_coder_na60 := F_coder_na60.keep K74 (ninS ne_na60_nb73 nin0); have V_nb60 := V_nb60.keep K74 (ninS ne_nb60_nb73 nin0); have E_nb73 := E_nb73.keep K74; have O := O.keep K74 (allS g_nb73 all0); have K := K.trans K74 (allS (Or.inr sz_nb73) all0)
            have CR := CR.trans cr74
            have F_schema_nb73 := F_schema_nb73'; have F_name_nb73 := F_name_nb73'
            show OG p e below _ (T74.setTop (mkF m 205 #[.val (.int p1), .val (.int p2), .val (.int c0), .val (.int c1), .val (.int (1 : Int32)), .val (.int c2), .val (.int c3), .val (.int (0 : Int32)), .val (.ref nb55), .val (.ref na60), .val (.int (1 : Int32)), .val (.int (1 : Int32)), .val (.int (0 : Int32)), .unset] [(.ref nb73)]))
            refine og_astore (pc' := 207) (L' := #[.val (.int p1), .val (.int p2), .val (.int c0), .val (.int c1), .val (.int (1 : Int32)), .val (.int c2), .val (.int c3), .val (.int (0 : Int32)), .val (.ref nb55), .val (.ref na60), .val (.int (1 : Int32)), .val (.int (1 : Int32)), .val (.int (0 : Int32)), .val (.ref nb73)]) X74 hx rfl rfl (hb hby at_205) rfl ?_
            refine og_aload (pc' := 209) X74 hx rfl rfl (hb hby at_207) rfl ?_
            refine og_virtual (pc' := 212) (cells' := 10) (slots' := 63) (W := 0) X74 hx hZ (rm_w21 l Z a0 hw nb73 nb55 na60 nb59 nb60 k59 k60 c0 c1 c2 hc0 hc1 hc2 cs hcs 0 (by simp [hc130, hc141, hc155]) h74 n0 O F_schema_nb73 F_name_nb73 E_nb55 F_value_nb55 F_coder_nb55 V_nb59 E_na60 F_value_na60 F_coder_na60 V_nb60 S_CS) hown (ow59 hw) (ow60 hw) (own_nf hZ (ow62 hw)) (ow62 hw) (ow61 hw) (ow32 hw) (ow63 hw) (by decide) (by rw [hml]; rfl) e74 opd_11 [] [] rfl rfl rfl rfl (by decide) (by decide) rfl rfl (by decide) (by decide) E_nb73 (hb hby at_209) rfl (fun v75 T75 h75 L75 X75 e75 z75 => ?_)
            obtain ⟨rfl, Nq75, hq75⟩ := z75; replace e75 := e75.trans hq75; have N := Fr.app N Nq75
            show OG p e below _ (T75.setTop (mkF m 212 #[.val (.int p1), .val (.int p2), .val (.int c0), .val (.int c1), .val (.int (1 : Int32)), .val (.int c2), .val (.int c3), .val (.int (0 : Int32)), .val (.ref nb55), .val (.ref na60), .val (.int (1 : Int32)), .val (.int (1 : Int32)), .val (.int (0 : Int32)), .val (.ref nb73)] [(.int (0 : Int32))]))
            refine og_iload (pc' := 214) X75 hx rfl (hb hby at_212) rfl ?_
            refine og_icmp_ne (pc1 := 221) (pc2 := 217) X75 hx (hb hby at_214) (by decide) (by decide) rfl (fun q => absurd q (by decide)) (fun _ => ?_)
            refine og_iconst (pc' := 218) (v := (1 : Int32)) X75 hx rfl (hb hby at_217) rfl ?_
            refine og_goto (pc' := 222) X75 hx (hb hby at_218) (by decide) (by decide) ?_
            refine og_retNW X75 hx hZ hlk hEL hS e75 es hk CR hret (by simp) (hb hby at_222) (by decide) (by decide) ?_
            exact ⟨rfl, N⟩
          · -- pc 158
            refine og_iload (pc' := 160) X60 hx rfl (hb hby at_158) rfl ?_
            refine og_if_eq (pc1 := 174) (pc2 := 163) X60 hx (hb hby at_160) (by decide) (by decide) rfl (fun _ => ?_) (fun q => absurd q (by decide))
            refine og_iconst (pc' := 175) (v := (0 : Int32)) X60 hx rfl (hb hby at_174) rfl ?_
            refine og_istore (pc' := 177) (L' := #[.val (.int p1), .val (.int p2), .val (.int c0), .val (.int c1), .val (.int (1 : Int32)), .val (.int c2), .val (.int c3), .val (.int (0 : Int32)), .val (.ref nb55), .val (.ref na60), .val (.int (1 : Int32)), .val (.int (0 : Int32)), .unset, .unset]) X60 hx rfl (hb hby at_175) rfl ?_
            refine og_iload (pc' := 179) X60 hx rfl (hb hby at_177) rfl ?_
            refine og_if_ne (pc1 := 191) (pc2 := 182) X60 hx (hb hby at_179) (by decide) (by decide) rfl (fun _ => ?_) (fun q => absurd q (by decide))
            refine og_iconst (pc' := 192) (v := (0 : Int32)) X60 hx rfl (hb hby at_191) rfl ?_
            refine og_istore (pc' := 194) (L' := #[.val (.int p1), .val (.int p2), .val (.int c0), .val (.int c1), .val (.int (1 : Int32)), .val (.int c2), .val (.int c3), .val (.int (0 : Int32)), .val (.ref nb55), .val (.ref na60), .val (.int (1 : Int32)), .val (.int (0 : Int32)), .val (.int (0 : Int32)), .unset]) X60 hx rfl (hb hby at_192) rfl ?_
            refine og_new (pc' := 197) (cells' := 6) (slots' := 15) X60 hx hZ hown (ow30 hw) (ow31 hw) (ow32 hw) e60 (hb hby at_194) rfl rfl rfl (by decide) (by decide) (fun T76 h76 nb76 X76 e76 E76 q76 E_nb76 D76 B76 => ?_)
            have s_nb76 : h60.size ≤ nb76 := Nat.le_of_eq q76.symm; have g_nb76 : n0 ≤ nb76 := Nat.le_trans (own_n0 O) s_nb76; have sz_nb76 : h0.size ≤ nb76 := Nat.le_trans K.1 s_nb76; have ne_nb55_nb76 : nb55 ≠ nb76 := Nat.ne_of_lt (Nat.lt_of_lt_of_le E_nb55.lt s_nb76); have ne_nb56_nb76 : nb56 ≠ nb76 := Nat.ne_of_lt (Nat.lt_of_lt_of_le V_nb56.lt s_nb76); have ne_nb59_nb76 : nb59 ≠ nb76 := Nat.ne_of_lt (Nat.lt_of_lt_of_le V_nb59.lt s_nb76)
            have ne_na60_nb76 : na60 ≠ nb76 := Nat.ne_of_lt (Nat.lt_of_lt_of_le E_na60.lt s_nb76); have ne_nb60_nb76 : nb60 ≠ nb76 := Nat.ne_of_lt (Nat.lt_of_lt_of_le V_nb60.lt s_nb76)
            have E_nb55 := E_nb55.ext E76; have V_nb56 := V_nb56.ext E76; have F_value_nb55 := F_value_nb55.ext E76; have F_coder_nb55 := F_coder_nb55.ext E76; have V_nb59 := V_nb59.ext E76; have E_na60 := E_na60.ext E76
            have F_value_na60 := F_value_na60.ext E76; have F_coder_na60 := F_coder_na60.ext E76; have V_nb60 := V_nb60.ext E76; have O := O.ext E76; have K := K.ext E76; have hk := Nat.le_trans hk E76.1
            have CR := CR.trans (CHr.ext E76 CR.1)
            have F_schema_nb76 : Fld Z h76 nb76 "com/example/tombstone/tombstone/config/TableName" "schema" "Ljava/lang/String;" .null := D76 (Or.inr (ow56 hw)) (ty := (.object "java/lang/String")) (by decide)
            have F_name_nb76 : Fld Z h76 nb76 "com/example/tombstone/tombstone/config/TableName" "name" "Ljava/lang/String;" .null := D76 (Or.inr (ow58 hw)) (ty := (.object "java/lang/String")) (by decide)
            refine og_dup (pc' := 198) X76 hx rfl (hb hby at_197) rfl ?_
            refine og_aload (pc' := 200) X76 hx rfl rfl (hb hby at_198) rfl ?_
            refine og_aload (pc' := 202) X76 hx rfl rfl (hb hby at_200) rfl ?_
            refine og_specialW (pc' := 205) (cells' := 10) (slots' := 63) (W := 1) X76 hx hZ (rm_tn l Z a0 hw nb76 nb55 na60 nb59 nb60 k59 k60 (2 : Int32) (1 : Int32) _ _ (by decide) (by decide) h76 n0 O hEL E_nb76 F_schema_nb76 F_name_nb76 E_nb55 F_value_nb55 F_coder_nb55 V_nb59 E_na60 F_value_na60 F_coder_na60 V_nb60 g_nb76 ne_nb55_nb76 ne_na60_nb76 ne_nb59_nb76 ne_nb60_nb76) hEL hS hk CR.1 all0 rfl hown (ow33 hw) (ow34 hw) (ow32 hw) (ow35 hw) (by decide) (by rw [hml]; rfl) e76 opd_18 [(.ref nb55), (.ref na60)] [(.ref nb76)] rfl rfl rfl rfl (by decide) (by decide) rfl rfl (by decide) (by decide) (hb hby at_202) rfl (fun v77 T77 h77 L77 kk77 X77 e77 hS hk hZ hown cr77 z77 => ?_)
            obtain ⟨rfl, Nq77, K77, F_schema_nb76', F_name_nb76'⟩ := z77; have N := Fr.app N Nq77
            have E_nb55 := E_nb55.keep K77; have V_nb56 := V_nb56.keep K77 (ninS ne_nb56_nb76 nin0); have F_value_nb55 := F_value_nb55.keep K77 (ninS ne_nb55_nb76 nin0); have F_coder_nb55 := F_coder_nb55.keep K77 (ninS ne_nb55_nb76 nin0); have V_nb59 := V_nb59.keep K77 (ninS ne_nb59_nb76 nin0); have E_na60 := E_na60.keep K77
            have F_value_na60 := F_value_na60.keep K77 (ninS ne_na60_nb76 nin0); have F_coder_na60 := F_coder_na60.keep K77 (ninS ne_na60_nb76 nin0); have V_nb60 := V_nb60.keep K77 (ninS ne_nb60_nb76 nin0); have E_nb76 := E_nb76.keep K77; have O := O.keep K77 (allS g_nb76 all0); have K := K.trans K77 (allS (Or.inr sz_nb76) all0)
            have CR := CR.trans cr77
            have F_schema_nb76 := F_schema_nb76'; have F_name_nb76 := F_name_nb76'
            show OG p e below _ (T77.setTop (mkF m 205 #[.val (.int p1), .val (.int p2), .val (.int c0), .val (.int c1), .val (.int (1 : Int32)), .val (.int c2), .val (.int c3), .val (.int (0 : Int32)), .val (.ref nb55), .val (.ref na60), .val (.int (1 : Int32)), .val (.int (0 : Int32)), .val (.int (0 : Int32)), .unset] [(.ref nb76)]))
            refine og_astore (pc' := 207) (L' := #[.val (.int p1), .val (.int p2), .val (.int c0), .val (.int c1), .val (.int (1 : Int32)), .val (.int c2), .val (.int c3), .val (.int (0 : Int32)), .val (.ref nb55), .val (.ref na60), .val (.int (1 : Int32)), .val (.int (0 : Int32)), .val (.int (0 : Int32)), .val (.ref nb76)]) X77 hx rfl rfl (hb hby at_205) rfl ?_
            refine og_aload (pc' := 209) X77 hx rfl rfl (hb hby at_207) rfl ?_
            refine og_virtual (pc' := 212) (cells' := 10) (slots' := 63) (W := 0) X77 hx hZ (rm_w21 l Z a0 hw nb76 nb55 na60 nb59 nb60 k59 k60 c0 c1 c2 hc0 hc1 hc2 cs hcs 0 (by simp [hc130, hc141, hc155]) h77 n0 O F_schema_nb76 F_name_nb76 E_nb55 F_value_nb55 F_coder_nb55 V_nb59 E_na60 F_value_na60 F_coder_na60 V_nb60 S_CS) hown (ow59 hw) (ow60 hw) (own_nf hZ (ow62 hw)) (ow62 hw) (ow61 hw) (ow32 hw) (ow63 hw) (by decide) (by rw [hml]; rfl) e77 opd_11 [] [] rfl rfl rfl rfl (by decide) (by decide) rfl rfl (by decide) (by decide) E_nb76 (hb hby at_209) rfl (fun v78 T78 h78 L78 X78 e78 z78 => ?_)
            obtain ⟨rfl, Nq78, hq78⟩ := z78; replace e78 := e78.trans hq78; have N := Fr.app N Nq78
            show OG p e below _ (T78.setTop (mkF m 212 #[.val (.int p1), .val (.int p2), .val (.int c0), .val (.int c1), .val (.int (1 : Int32)), .val (.int c2), .val (.int c3), .val (.int (0 : Int32)), .val (.ref nb55), .val (.ref na60), .val (.int (1 : Int32)), .val (.int (0 : Int32)), .val (.int (0 : Int32)), .val (.ref nb76)] [(.int (0 : Int32))]))
            refine og_iload (pc' := 214) X78 hx rfl (hb hby at_212) rfl ?_
            refine og_icmp_ne (pc1 := 221) (pc2 := 217) X78 hx (hb hby at_214) (by decide) (by decide) rfl (fun q => absurd q (by decide)) (fun _ => ?_)
            refine og_iconst (pc' := 218) (v := (1 : Int32)) X78 hx rfl (hb hby at_217) rfl ?_
            refine og_goto (pc' := 222) X78 hx (hb hby at_218) (by decide) (by decide) ?_
            refine og_retNW X78 hx hZ hlk hEL hS e78 es hk CR hret (by simp) (hb hby at_222) (by decide) (by decide) ?_
            exact ⟨rfl, N⟩
    · -- pc 53
      refine og_iconst (pc' := 54) (v := (1 : Int32)) X54 hx rfl (hb hby at_53) rfl ?_
      refine og_goto (pc' := 58) X54 hx (hb hby at_54) (by decide) (by decide) ?_
      refine og_istore (pc' := 60) (L' := #[.val (.int p1), .val (.int p2), .val (.int c0), .val (.int c1), .val (.int (1 : Int32)), .val (.int c2), .val (.int c3), .val (.int (1 : Int32)), .unset, .unset, .unset, .unset, .unset, .unset]) X54 hx rfl (hb hby at_58) rfl ?_
      refine og_iload (pc' := 62) X54 hx rfl (hb hby at_60) rfl ?_
      refine og_if_eq (pc1 := 86) (pc2 := 65) X54 hx (hb hby at_62) (by decide) (by decide) rfl (fun q => absurd q (by decide)) (fun _ => ?_)
      refine og_new (pc' := 68) (cells' := 1) (slots' := 4) X54 hx hZ hown (ow105 hw) (ow14 hw) (ow6 hw) e54 (hb hby at_65) rfl rfl rfl (by decide) (by decide) (fun T79 h79 nb79 X79 e79 E79 q79 E_nb79 D79 B79 => ?_)
      have s_nb79 : h0.size ≤ nb79 := Nat.le_of_eq q79.symm; have g_nb79 : n0 ≤ nb79 := Nat.le_trans (own_n0 O) s_nb79; have sz_nb79 : h0.size ≤ nb79 := Nat.le_trans K.1 s_nb79
      have O := O.ext E79; have K := K.ext E79; have hk := Nat.le_trans hk E79.1; have CR := CR.trans (CHr.ext E79 CR.1)
      have F_value_nb79 : Fld Z h79 nb79 "java/lang/String" "value" "[B" .null := D79 (Or.inr (ow27 hw)) (ty := (.array .byte)) (by decide)
      have F_coder_nb79 : Fld Z h79 nb79 "java/lang/String" "coder" "B" (.int (0 : Int32)) := D79 (Or.inr (ow29 hw)) (ty := .byte) (by decide)
      refine og_dup (pc' := 69) X79 hx rfl (hb hby at_68) rfl ?_
      refine og_iconst (pc' := 70) (v := (2 : Int32)) X79 hx rfl (hb hby at_69) rfl ?_
      refine og_newarray (pc' := 72) (cells' := 2) (slots' := 6) (cap := 2) (ty := .char) X79 hx hZ rfl (ow106 hw) e79 (by decide) (by decide) (by decide) (hb hby at_70) rfl rfl rfl (by decide) (by decide) (fun T80 h80 nb80 kA80 X80 e80 E80 q80 V_nb80 => ?_)
      have s_nb80 : h79.size ≤ nb80 := Nat.le_of_eq q80.symm; have g_nb80 : n0 ≤ nb80 := Nat.le_trans (own_n0 O) s_nb80; have sz_nb80 : h0.size ≤ nb80 := Nat.le_trans K.1 s_nb80; have ne_nb79_nb80 : nb79 ≠ nb80 := Nat.ne_of_lt (Nat.lt_of_lt_of_le E_nb79.lt s_nb80)
      have E_nb79 := E_nb79.ext E80; have F_value_nb79 := F_value_nb79.ext E80; have F_coder_nb79 := F_coder_nb79.ext E80; have O := O.ext E80; have K := K.ext E80; have hk := Nat.le_trans hk E80.1
      have CR := CR.trans (CHr.ext E80 CR.1)
      have V_nb80 : Arv Z h80 nb80 kA80 .char (2 : Int32) [(.int (0 : Int32)), (.int (0 : Int32))] (.int (0 : Int32)) := V_nb80.pad (pad_rep [] (.int (0 : Int32)) 2)
      refine og_dup (pc' := 73) X80 hx rfl (hb hby at_72) rfl ?_
      refine og_iconst (pc' := 74) (v := (0 : Int32)) X80 hx rfl (hb hby at_73) rfl ?_
      refine og_iloadN (pc' := 75) X80 hx rfl (hb hby at_74) rfl ?_
      refine og_castore (pc' := 76) X80 hx hZ e80 V_nb80 ⟨by decide, by decide⟩ 0 (by decide) (Nat.le_of_ble_eq_true rfl) (hb hby at_75) rfl (fun T81 h81 X81 e81 W81 V81 => ?_)
      have sf81 : Safe Z own_EL s.vm h80 nb80 := own_safe0; have E_nb79 := E_nb79.wr W81; have F_value_nb79 := F_value_nb79.other W81 (Or.inl ne_nb79_nb80); have F_coder_nb79 := F_coder_nb79.other W81 (Or.inl ne_nb79_nb80); have O := O.wr W81 g_nb80; have K := K.wr W81 (Or.inr sz_nb80)
      have hk := Nat.le_trans hk (Keep.of_wr W81).1; have CR := CR.trans (CHr.wr W81 sf81 CR.1)
      have N := Fr.snoc X81 N g_nb80
      have V_nb80 : Arv Z h81 nb80 kA80 .char (2 : Int32) [(.int (nar .char c0)), (.int (0 : Int32))] (.int (0 : Int32)) := V81
      rw [own_nc hc0] at V_nb80
      refine og_dup (pc' := 77) X81 hx rfl (hb hby at_76) rfl ?_
      refine og_iconst (pc' := 78) (v := (1 : Int32)) X81 hx rfl (hb hby at_77) rfl ?_
      refine og_iloadN (pc' := 79) X81 hx rfl (hb hby at_78) rfl ?_
      refine og_castore (pc' := 80) X81 hx hZ e81 V_nb80 ⟨by decide, by decide⟩ 1 (by decide) (Nat.le_of_ble_eq_true rfl) (hb hby at_79) rfl (fun T82 h82 X82 e82 W82 V82 => ?_)
      have sf82 : Safe Z own_EL s.vm h81 nb80 := own_safe0; have E_nb79 := E_nb79.wr W82; have F_value_nb79 := F_value_nb79.other W82 (Or.inl ne_nb79_nb80); have F_coder_nb79 := F_coder_nb79.other W82 (Or.inl ne_nb79_nb80); have O := O.wr W82 g_nb80; have K := K.wr W82 (Or.inr sz_nb80)
      have hk := Nat.le_trans hk (Keep.of_wr W82).1; have CR := CR.trans (CHr.wr W82 sf82 CR.1)
      have N := Fr.snoc X82 N g_nb80
      have V_nb80 : Arv Z h82 nb80 kA80 .char (2 : Int32) [(.int c0), (.int (nar .char c1))] (.int (0 : Int32)) := V82
      rw [own_nc hc1] at V_nb80
      refine og_special (pc' := 83) (cells' := 3) (slots' := 8) (W := 1) X82 hx hZ (rm_sn_2 l Z a0 hw nb79 nb80 kA80 c0 c1 (own_le255 hc0) (own_le255 hc1) cs hcs h82 n0 O E_nb79 F_value_nb79 F_coder_nb79 V_nb80 S_CS g_nb79 (Ne.symm ne_nb79_nb80)) rfl hown (ow107 hw) (ow108 hw) (ow6 hw) (ow109 hw) (by decide) (by rw [hml]; rfl) e82 opd_19 [(.ref nb80)] [(.ref nb79)] rfl rfl rfl rfl (by decide) (by decide) rfl rfl (by decide) (by decide) (hb hby at_80) rfl (fun v83 T83 h83 L83 X83 e83 z83 => ?_)
      obtain ⟨nb83, k83, rfl, Nq83, K83, sb83, E_nb79', F_value_nb79', F_coder_nb79', V_nb83⟩ := z83; have N := Fr.app N Nq83
      have s_nb83 : h82.size ≤ nb83 := sb83; have g_nb83 : n0 ≤ nb83 := Nat.le_trans (own_n0 O) s_nb83; have sz_nb83 : h0.size ≤ nb83 := Nat.le_trans K.1 s_nb83; have ne_nb79_nb83 : nb79 ≠ nb83 := Nat.ne_of_lt (Nat.lt_of_lt_of_le E_nb79.lt s_nb83); have ne_nb80_nb83 : nb80 ≠ nb83 := Nat.ne_of_lt (Nat.lt_of_lt_of_le V_nb80.lt s_nb83)
      have sf83 : ∀ x ∈ ([nb79] : List Addr), Safe Z own_EL s.vm h82 x := (sfS own_safe0 sf0); have E_nb79 := E_nb79.keep K83; have V_nb80 := V_nb80.keep K83 (ninS (Ne.symm ne_nb79_nb80) nin0); have O := O.keep K83 (allS g_nb79 all0); have K := K.trans K83 (allS (Or.inr sz_nb79) all0); have hk := Nat.le_trans hk K83.1
      have CR := CR.trans (CHr.keep K83 sf83 CR.1)
      have E_nb79 := E_nb79'; have F_value_nb79 := F_value_nb79'; have F_coder_nb79 := F_coder_nb79'
      show OG p e below _ (T83.setTop (mkF m 83 #[.val (.int p1), .val (.int p2), .val (.int c0), .val (.int c1), .val (.int (1 : Int32)), .val (.int c2), .val (.int c3), .val (.int (1 : Int32)), .unset, .unset, .unset, .unset, .unset, .unset] [(.ref nb79)]))
      refine og_goto (pc' := 90) X83 hx (hb hby at_83) (by decide) (by decide) ?_
      refine og_astore (pc' := 92) (L' := #[.val (.int p1), .val (.int p2), .val (.int c0), .val (.int c1), .val (.int (1 : Int32)), .val (.int c2), .val (.int c3), .val (.int (1 : Int32)), .val (.ref nb79), .unset, .unset, .unset, .unset, .unset]) X83 hx rfl rfl (hb hby at_90) rfl ?_
      refine og_iload (pc' := 94) X83 hx rfl (hb hby at_92) rfl ?_
      refine og_if_eq (pc1 := 120) (pc2 := 97) X83 hx (hb hby at_94) (by decide) (by decide) rfl (fun q => absurd q (by decide)) (fun _ => ?_)
      refine og_new (pc' := 100) (cells' := 4) (slots' := 12) X83 hx hZ hown (ow105 hw) (ow14 hw) (ow6 hw) e83 (hb hby at_97) rfl rfl rfl (by decide) (by decide) (fun T84 h84 nb84 X84 e84 E84 q84 E_nb84 D84 B84 => ?_)
      have s_nb84 : h83.size ≤ nb84 := Nat.le_of_eq q84.symm; have g_nb84 : n0 ≤ nb84 := Nat.le_trans (own_n0 O) s_nb84; have sz_nb84 : h0.size ≤ nb84 := Nat.le_trans K.1 s_nb84; have ne_nb79_nb84 : nb79 ≠ nb84 := Nat.ne_of_lt (Nat.lt_of_lt_of_le E_nb79.lt s_nb84); have ne_nb80_nb84 : nb80 ≠ nb84 := Nat.ne_of_lt (Nat.lt_of_lt_of_le V_nb80.lt s_nb84); have ne_nb83_nb84 : nb83 ≠ nb84 := Nat.ne_of_lt (Nat.lt_of_lt_of_le V_nb83.lt s_nb84)
      have E_nb79 := E_nb79.ext E84; have V_nb80 := V_nb80.ext E84; have F_value_nb79 := F_value_nb79.ext E84; have F_coder_nb79 := F_coder_nb79.ext E84; have V_nb83 := V_nb83.ext E84; have O := O.ext E84
      have K := K.ext E84; have hk := Nat.le_trans hk E84.1; have CR := CR.trans (CHr.ext E84 CR.1)
      have F_value_nb84 : Fld Z h84 nb84 "java/lang/String" "value" "[B" .null := D84 (Or.inr (ow27 hw)) (ty := (.array .byte)) (by decide)
      have F_coder_nb84 : Fld Z h84 nb84 "java/lang/String" "coder" "B" (.int (0 : Int32)) := D84 (Or.inr (ow29 hw)) (ty := .byte) (by decide)
      refine og_dup (pc' := 101) X84 hx rfl (hb hby at_100) rfl ?_
      refine og_iconst (pc' := 102) (v := (2 : Int32)) X84 hx rfl (hb hby at_101) rfl ?_
      refine og_newarray (pc' := 104) (cells' := 5) (slots' := 14) (cap := 2) (ty := .char) X84 hx hZ rfl (ow106 hw) e84 (by decide) (by decide) (by decide) (hb hby at_102) rfl rfl rfl (by decide) (by decide) (fun T85 h85 nb85 kA85 X85 e85 E85 q85 V_nb85 => ?_)
      have s_nb85 : h84.size ≤ nb85 := Nat.le_of_eq q85.symm; have g_nb85 : n0 ≤ nb85 := Nat.le_trans (own_n0 O) s_nb85; have sz_nb85 : h0.size ≤ nb85 := Nat.le_trans K.1 s_nb85; have ne_nb79_nb85 : nb79 ≠ nb85 := Nat.ne_of_lt (Nat.lt_of_lt_of_le E_nb79.lt s_nb85); have ne_nb80_nb85 : nb80 ≠ nb85 := Nat.ne_of_lt (Nat.lt_of_lt_of_le V_nb80.lt s_nb85); have ne_nb83_nb85 : nb83 ≠ nb85 := Nat.ne_of_lt (Nat.lt_of_lt_of_le V_nb83.lt s_nb85)
      have ne_nb84_nb85 : nb84 ≠ nb85 := Nat.ne_of_lt (Nat.lt_of_lt_of_le E_nb84.lt s_nb85)
      have E_nb79 := E_nb79.ext E85; have V_nb80 := V_nb80.ext E85; have F_value_nb79 := F_value_nb79.ext E85; have F_coder_nb79 := F_coder_nb79.ext E85; have V_nb83 := V_nb83.ext E85; have E_nb84 := E_nb84.ext E85
      have F_value_nb84 := F_value_nb84.ext E85; have F_coder_nb84 := F_coder_nb84.ext E85; have O := O.ext E85; have K := K.ext E85; have hk := Nat.le_trans hk E85.1; have CR := CR.trans (CHr.ext E85 CR.1)
      have V_nb85 : Arv Z h85 nb85 kA85 .char (2 : Int32) [(.int (0 : Int32)), (.int (0 : Int32))] (.int (0 : Int32)) := V_nb85.pad (pad_rep [] (.int (0 : Int32)) 2)
      refine og_dup (pc' := 105) X85 hx rfl (hb hby at_104) rfl ?_
      refine og_iconst (pc' := 106) (v := (0 : Int32)) X85 hx rfl (hb hby at_105) rfl ?_
      refine og_iload (pc' := 108) X85 hx rfl (hb hby at_106) rfl ?_
      refine og_castore (pc' := 109) X85 hx hZ e85 V_nb85 ⟨by decide, by decide⟩ 0 (by decide) (Nat.le_of_ble_eq_true rfl) (hb hby at_108) rfl (fun T86 h86 X86 e86 W86 V86 => ?_)
      have sf86 : Safe Z own_EL s.vm h85 nb85 := own_safe0; have E_nb79 := E_nb79.wr W86; have V_nb80 := V_nb80.other W86 ne_nb80_nb85; have F_value_nb79 := F_value_nb79.other W86 (Or.inl ne_nb79_nb85); have F_coder_nb79 := F_coder_nb79.other W86 (Or.inl ne_nb79_nb85); have V_nb83 := V_nb83.other W86 ne_nb83_nb85
      have E_nb84 := E_nb84.wr W86; have F_value_nb84 := F_value_nb84.other W86 (Or.inl ne_nb84_nb85); have F_coder_nb84 := F_coder_nb84.other W86 (Or.inl ne_nb84_nb85); have O := O.wr W86 g_nb85; have K := K.wr W86 (Or.inr sz_nb85); have hk := Nat.le_trans hk (Keep.of_wr W86).1
      have CR := CR.trans (CHr.wr W86 sf86 CR.1)
      have N := Fr.snoc X86 N g_nb85
      have V_nb85 : Arv Z h86 nb85 kA85 .char (2 : Int32) [(.int (nar .char c2)), (.int (0 : Int32))] (.int (0 : Int32)) := V86
      rw [own_nc hc2] at V_nb85
      refine og_dup (pc' := 110) X86 hx rfl (hb hby at_109) rfl ?_
      refine og_iconst (pc' := 111) (v := (1 : Int32)) X86 hx rfl (hb hby at_110) rfl ?_
      refine og_iload (pc' := 113) X86 hx rfl (hb hby at_111) rfl ?_
      refine og_castore (pc' := 114) X86 hx hZ e86 V_nb85 ⟨by decide, by decide⟩ 1 (by decide) (Nat.le_of_ble_eq_true rfl) (hb hby at_113) rfl (fun T87 h87 X87 e87 W87 V87 => ?_)
      have sf87 : Safe Z own_EL s.vm h86 nb85 := own_safe0; have E_nb79 := E_nb79.wr W87; have V_nb80 := V_nb80.other W87 ne_nb80_nb85; have F_value_nb79 := F_value_nb79.other W87 (Or.inl ne_nb79_nb85); have F_coder_nb79 := F_coder_nb79.other W87 (Or.inl ne_nb79_nb85); have V_nb83 := V_nb83.other W87 ne_nb83_nb85
      have E_nb84 := E_nb84.wr W87; have F_value_nb84 := F_value_nb84.other W87 (Or.inl ne_nb84_nb85); have F_coder_nb84 := F_coder_nb84.other W87 (Or.inl ne_nb84_nb85); have O := O.wr W87 g_nb85; have K := K.wr W87 (Or.inr sz_nb85); have hk := Nat.le_trans hk (Keep.of_wr W87).1
      have CR := CR.trans (CHr.wr W87 sf87 CR.1)
      have N := Fr.snoc X87 N g_nb85
      have V_nb85 : Arv Z h87 nb85 kA85 .char (2 : Int32) [(.int c2), (.int (nar .char c3))] (.int (0 : Int32)) := V87
      rw [own_nc hc3] at V_nb85
      refine og_special (pc' := 117) (cells' := 6) (slots' := 16) (W := 1) X87 hx hZ (rm_sn_2 l Z a0 hw nb84 nb85 kA85 c2 c3 (own_le255 hc2) (own_le255 hc3) cs hcs h87 n0 O E_nb84 F_value_nb84 F_coder_nb84 V_nb85 S_CS g_nb84 (Ne.symm ne_nb84_nb85)) rfl hown (ow107 hw) (ow108 hw) (ow6 hw) (ow109 hw) (by decide) (by rw [hml]; rfl) e87 opd_19 [(.ref nb85)] [(.ref nb84)] rfl rfl rfl rfl (by decide) (by decide) rfl rfl (by decide) (by decide) (hb hby at_114) rfl (fun v88 T88 h88 L88 X88 e88 z88 => ?_)
      obtain ⟨nb88, k88, rfl, Nq88, K88, sb88, E_nb84', F_value_nb84', F_coder_nb84', V_nb88⟩ := z88; have N := Fr.app N Nq88
      have s_nb88 : h87.size ≤ nb88 := sb88; have g_nb88 : n0 ≤ nb88 := Nat.le_trans (own_n0 O) s_nb88; have sz_nb88 : h0.size ≤ nb88 := Nat.le_trans K.1 s_nb88; have ne_nb79_nb88 : nb79 ≠ nb88 := Nat.ne_of_lt (Nat.lt_of_lt_of_le E_nb79.lt s_nb88); have ne_nb80_nb88 : nb80 ≠ nb88 := Nat.ne_of_lt (Nat.lt_of_lt_of_le V_nb80.lt s_nb88); have ne_nb83_nb88 : nb83 ≠ nb88 := Nat.ne_of_lt (Nat.lt_of_lt_of_le V_nb83.lt s_nb88)
      have ne_nb84_nb88 : nb84 ≠ nb88 := Nat.ne_of_lt (Nat.lt_of_lt_of_le E_nb84.lt s_nb88); have ne_nb85_nb88 : nb85 ≠ nb88 := Nat.ne_of_lt (Nat.lt_of_lt_of_le V_nb85.lt s_nb88)
      have sf88 : ∀ x ∈ ([nb84] : List Addr), Safe Z own_EL s.vm h87 x := (sfS own_safe0 sf0); have E_nb79 := E_nb79.keep K88; have V_nb80 := V_nb80.keep K88 (ninS ne_nb80_nb84 nin0); have F_value_nb79 := F_value_nb79.keep K88 (ninS ne_nb79_nb84 nin0); have F_coder_nb79 := F_coder_nb79.keep K88 (ninS ne_nb79_nb84 nin0); have V_nb83 := V_nb83.keep K88 (ninS ne_nb83_nb84 nin0)
      have E_nb84 := E_nb84.keep K88; have V_nb85 := V_nb85.keep K88 (ninS (Ne.symm ne_nb84_nb85) nin0); have O := O.keep K88 (allS g_nb84 all0); have K := K.trans K88 (allS (Or.inr sz_nb84) all0); have hk := Nat.le_trans hk K88.1; have CR := CR.trans (CHr.keep K88 sf88 CR.1)
      have E_nb84 := E_nb84'; have F_value_nb84 := F_value_nb84'; have F_coder_nb84 := F_coder_nb84'
      show OG p e below _ (T88.setTop (mkF m 117 #[.val (.int p1), .val (.int p2), .val (.int c0), .val (.int c1), .val (.int (1 : Int32)), .val (.int c2), .val (.int c3), .val (.int (1 : Int32)), .val (.ref nb79), .unset, .unset, .unset, .unset, .unset] [(.ref nb84)]))
      refine og_goto (pc' := 125) X88 hx (hb hby at_117) (by decide) (by decide) ?_
      refine og_astore (pc' := 127) (L' := #[.val (.int p1), .val (.int p2), .val (.int c0), .val (.int c1), .val (.int (1 : Int32)), .val (.int c2), .val (.int c3), .val (.int (1 : Int32)), .val (.ref nb79), .val (.ref nb84), .unset, .unset, .unset, .unset]) X88 hx rfl rfl (hb hby at_125) rfl ?_
      refine og_iloadN (pc' := 128) X88 hx rfl (hb hby at_127) rfl ?_
      refine og_bipush (pc' := 130) (v := (46 : Int32)) X88 hx rfl (hb hby at_128) rfl ?_
      refine og_icmp_eq (pc1 := 144) (pc2 := 133) X88 hx (hb hby at_130) (by decide) (by decide) rfl (fun hc130 => ?_) (fun hc130 => ?_)
      · -- pc 144
        refine og_iconst (pc' := 145) (v := (1 : Int32)) X88 hx rfl (hb hby at_144) rfl ?_
        refine og_goto (pc' := 149) X88 hx (hb hby at_145) (by decide) (by decide) ?_
        refine og_istore (pc' := 151) (L' := #[.val (.int p1), .val (.int p2), .val (.int c0), .val (.int c1), .val (.int (1 : Int32)), .val (.int c2), .val (.int c3), .val (.int (1 : Int32)), .val (.ref nb79), .val (.ref nb84), .val (.int (1 : Int32)), .unset, .unset, .unset]) X88 hx rfl (hb hby at_149) rfl ?_
        refine og_iload (pc' := 153) X88 hx rfl (hb hby at_151) rfl ?_
        refine og_bipush (pc' := 155) (v := (46 : Int32)) X88 hx rfl (hb hby at_153) rfl ?_
        refine og_icmp_eq (pc1 := 170) (pc2 := 158) X88 hx (hb hby at_155) (by decide) (by decide) rfl (fun hc155 => ?_) (fun hc155 => ?_)
        · -- pc 170
          refine og_iconst (pc' := 171) (v := (1 : Int32)) X88 hx rfl (hb hby at_170) rfl ?_
          refine og_goto (pc' := 175) X88 hx (hb hby at_171) (by decide) (by decide) ?_
          refine og_istore (pc' := 177) (L' := #[.val (.int p1), .val (.int p2), .val (.int c0), .val (.int c1), .val (.int (1 : Int32)), .val (.int c2), .val (.int c3), .val (.int (1 : Int32)), .val (.ref nb79), .val (.ref nb84), .val (.int (1 : Int32)), .val (.int (1 : Int32)), .unset, .unset]) X88 hx rfl (hb hby at_175) rfl ?_
          refine og_iload (pc' := 179) X88 hx rfl (hb hby at_177) rfl ?_
          refine og_if_ne (pc1 := 191) (pc2 := 182) X88 hx (hb hby at_179) (by decide) (by decide) rfl (fun _ => ?_) (fun q => absurd q (by decide))
          refine og_iconst (pc' := 192) (v := (0 : Int32)) X88 hx rfl (hb hby at_191) rfl ?_
          refine og_istore (pc' := 194) (L' := #[.val (.int p1), .val (.int p2), .val (.int c0), .val (.int c1), .val (.int (1 : Int32)), .val (.int c2), .val (.int c3), .val (.int (1 : Int32)), .val (.ref nb79), .val (.ref nb84), .val (.int (1 : Int32)), .val (.int (1 : Int32)), .val (.int (0 : Int32)), .unset]) X88 hx rfl (hb hby at_192) rfl ?_
          refine og_new (pc' := 197) (cells' := 7) (slots' := 18) X88 hx hZ hown (ow30 hw) (ow31 hw) (ow32 hw) e88 (hb hby at_194) rfl rfl rfl (by decide) (by decide) (fun T89 h89 nb89 X89 e89 E89 q89 E_nb89 D89 B89 => ?_)
          have s_nb89 : h88.size ≤ nb89 := Nat.le_of_eq q89.symm; have g_nb89 : n0 ≤ nb89 := Nat.le_trans (own_n0 O) s_nb89; have sz_nb89 : h0.size ≤ nb89 := Nat.le_trans K.1 s_nb89; have ne_nb79_nb89 : nb79 ≠ nb89 := Nat.ne_of_lt (Nat.lt_of_lt_of_le E_nb79.lt s_nb89); have ne_nb80_nb89 : nb80 ≠ nb89 := Nat.ne_of_lt (Nat.lt_of_lt_of_le V_nb80.lt s_nb89); have ne_nb83_nb89 : nb83 ≠ nb89 := Nat.ne_of_lt (Nat.lt_of_lt_of_le V_nb83.lt s_nb89)
          have ne_nb84_nb89 : nb84 ≠ nb89 := Nat.ne_of_lt (Nat.lt_of_lt_of_le E_nb84.lt s_nb89); have ne_nb85_nb89 : nb85 ≠ nb89 := Nat.ne_of_lt (Nat.lt_of_lt_of_le V_nb85.lt s_nb89); have ne_nb88_nb89 : nb88 ≠ nb89 := Nat.ne_of_lt (Nat.lt_of_lt_of_le V_nb88.lt s_nb89)
          have E_nb79 := E_nb79.ext E89; have V_nb80 := V_nb80.ext E89; have F_value_nb79 := F_value_nb79.ext E89; have F_coder_nb79 := F_coder_nb79.ext E89; have V_nb83 := V_nb83.ext E89; have E_nb84 := E_nb84.ext E89
          have V_nb85 := V_nb85.ext E89; have F_value_nb84 := F_value_nb84.ext E89; have F_coder_nb84 := F_coder_nb84.ext E89; have V_nb88 := V_nb88.ext E89; have O := O.ext E89; have K := K.ext E89
          have hk := Nat.le_trans hk E89.1; have CR := CR.trans (CHr.ext E89 CR.1)
          have F_schema_nb89 : Fld Z h89 nb89 "com/example/tombstone/tombstone/config/TableName" "schema" "Ljava/lang/String;" .null := D89 (Or.inr (ow56 hw)) (ty := (.object "java/lang/String")) (by decide)
          have F_name_nb89 : Fld Z h89 nb89 "com/example/tombstone/tombstone/config/TableName" "name" "Ljava/lang/String;" .null := D89 (Or.inr (ow58 hw)) (ty := (.object "java/lang/String")) (by decide)
          refine og_dup (pc' := 198) X89 hx rfl (hb hby at_197) rfl ?_
          refine og_aload (pc' := 200) X89 hx rfl rfl (hb hby at_198) rfl ?_
          refine og_aload (pc' := 202) X89 hx rfl rfl (hb hby at_200) rfl ?_
          refine og_specialW (pc' := 205) (cells' := 11) (slots' := 66) (W := 1) X89 hx hZ (rm_tn l Z a0 hw nb89 nb79 nb84 nb83 nb88 k83 k88 (2 : Int32) (2 : Int32) _ _ (by decide) (by decide) h89 n0 O hEL E_nb89 F_schema_nb89 F_name_nb89 E_nb79 F_value_nb79 F_coder_nb79 V_nb83 E_nb84 F_value_nb84 F_coder_nb84 V_nb88 g_nb89 ne_nb79_nb89 ne_nb84_nb89 ne_nb83_nb89 ne_nb88_nb89) hEL hS hk CR.1 all0 rfl hown (ow33 hw) (ow34 hw) (ow32 hw) (ow35 hw) (by decide) (by rw [hml]; rfl) e89 opd_18 [(.ref nb79), (.ref nb84)] [(.ref nb89)] rfl rfl rfl rfl (by decide) (by decide) rfl rfl (by decide) (by decide) (hb hby at_202) rfl (fun v90 T90 h90 L90 kk90 X90 e90 hS hk hZ hown cr90 z90 => ?_)
          obtain ⟨rfl, Nq90, K90, F_schema_nb89', F_name_nb89'⟩ := z90; have N := Fr.app N Nq90
          have E_nb79 := E_nb79.keep K90; have V_nb80 := V_nb80.keep K90 (ninS ne_nb80_nb89 nin0); have F_value_nb79 := F_value_nb79.keep K90 (ninS ne_nb79_nb89 nin0); have F_coder_nb79 := F_coder_nb79.keep K90 (ninS ne_nb79_nb89 nin0); have V_nb83 := V_nb83.keep K90 (ninS ne_nb83_nb89 nin0); have E_nb84 := E_nb84.keep K90
          have V_nb85 := V_nb85.keep K90 (ninS ne_nb85_nb89 nin0); have F_value_nb84 := F_value_nb84.keep K90 (ninS ne_nb84_nb89 nin0); have F_coder_nb84 := F_coder_nb84.keep K90 (ninS ne_nb84_nb89 nin0); have V_nb88 := V_nb88.keep K90 (ninS ne_nb88_nb89 nin0); have E_nb89 := E_nb89.keep K90; have O := O.keep K90 (allS g_nb89 all0)
          have K := K.trans K90 (allS (Or.inr sz_nb89) all0); have CR := CR.trans cr90
          have F_schema_nb89 := F_schema_nb89'; have F_name_nb89 := F_name_nb89'
          show OG p e below _ (T90.setTop (mkF m 205 #[.val (.int p1), .val (.int p2), .val (.int c0), .val (.int c1), .val (.int (1 : Int32)), .val (.int c2), .val (.int c3), .val (.int (1 : Int32)), .val (.ref nb79), .val (.ref nb84), .val (.int (1 : Int32)), .val (.int (1 : Int32)), .val (.int (0 : Int32)), .unset] [(.ref nb89)]))
          refine og_astore (pc' := 207) (L' := #[.val (.int p1), .val (.int p2), .val (.int c0), .val (.int c1), .val (.int (1 : Int32)), .val (.int c2), .val (.int c3), .val (.int (1 : Int32)), .val (.ref nb79), .val (.ref nb84), .val (.int (1 : Int32)), .val (.int (1 : Int32)), .val (.int (0 : Int32)), .val (.ref nb89)]) X90 hx rfl rfl (hb hby at_205) rfl ?_
          refine og_aload (pc' := 209) X90 hx rfl rfl (hb hby at_207) rfl ?_
          refine og_virtual (pc' := 212) (cells' := 11) (slots' := 66) (W := 0) X90 hx hZ (rm_w22 l Z a0 hw nb89 nb79 nb84 nb83 nb88 k83 k88 c0 c1 c2 c3 hc0 hc1 hc2 hc3 cs hcs 0 (by simp [hc130, hc155]) h90 n0 O F_schema_nb89 F_name_nb89 E_nb79 F_value_nb79 F_coder_nb79 V_nb83 E_nb84 F_value_nb84 F_coder_nb84 V_nb88 S_CS) hown (ow59 hw) (ow60 hw) (own_nf hZ (ow62 hw)) (ow62 hw) (ow61 hw) (ow32 hw) (ow63 hw) (by decide) (by rw [hml]; rfl) e90 opd_11 [] [] rfl rfl rfl rfl (by decide) (by decide) rfl rfl (by decide) (by decide) E_nb89 (hb hby at_209) rfl (fun v91 T91 h91 L91 X91 e91 z91 => ?_)
          obtain ⟨rfl, Nq91, hq91⟩ := z91; replace e91 := e91.trans hq91; have N := Fr.app N Nq91
          show OG p e below _ (T91.setTop (mkF m 212 #[.val (.int p1), .val (.int p2), .val (.int c0), .val (.int c1), .val (.int (1 : Int32)), .val (.int c2), .val (.int c3), .val (.int (1 : Int32)), .val (.ref nb79), .val (.ref nb84), .val (.int (1 : Int32)), .val (.int (1 : Int32)), .val (.int (0 : Int32)), .val (.ref nb89)] [(.int (0 : Int32))]))
          refine og_iload (pc' := 214) X91 hx rfl (hb hby at_212) rfl ?_
          refine og_icmp_ne (pc1 := 221) (pc2 := 217) X91 hx (hb hby at_214) (by decide) (by decide) rfl (fun q => absurd q (by decide)) (fun _ => ?_)
          refine og_iconst (pc' := 218) (v := (1 : Int32)) X91 hx rfl (hb hby at_217) rfl ?_
          refine og_goto (pc' := 222) X91 hx (hb hby at_218) (by decide) (by decide) ?_
          refine og_retNW X91 hx hZ hlk hEL hS e91 es hk CR hret (by simp) (hb hby at_222) (by decide) (by decide) ?_
          exact ⟨rfl, N⟩
        · -- pc 158
          refine og_iload (pc' := 160) X88 hx rfl (hb hby at_158) rfl ?_
          refine og_if_eq (pc1 := 174) (pc2 := 163) X88 hx (hb hby at_160) (by decide) (by decide) rfl (fun q => absurd q (by decide)) (fun _ => ?_)
          refine og_iload (pc' := 165) X88 hx rfl (hb hby at_163) rfl ?_
          refine og_bipush (pc' := 167) (v := (46 : Int32)) X88 hx rfl (hb hby at_165) rfl ?_
          refine og_icmp_ne (pc1 := 174) (pc2 := 170) X88 hx (hb hby at_167) (by decide) (by decide) rfl (fun hc167 => ?_) (fun hc167 => ?_)
          · -- pc 174
            refine og_iconst (pc' := 175) (v := (0 : Int32)) X88 hx rfl (hb hby at_174) rfl ?_
            refine og_istore (pc' := 177) (L' := #[.val (.int p1), .val (.int p2), .val (.int c0), .val (.int c1), .val (.int (1 : Int32)), .val (.int c2), .val (.int c3), .val (.int (1 : Int32)), .val (.ref nb79), .val (.ref nb84), .val (.int (1 : Int32)), .val (.int (0 : Int32)), .unset, .unset]) X88 hx rfl (hb hby at_175) rfl ?_
            refine og_iload (pc' := 179) X88 hx rfl (hb hby at_177) rfl ?_
            refine og_if_ne (pc1 := 191) (pc2 := 182) X88 hx (hb hby at_179) (by decide) (by decide) rfl (fun _ => ?_) (fun q => absurd q (by decide))
            refine og_iconst (pc' := 192) (v := (0 : Int32)) X88 hx rfl (hb hby at_191) rfl ?_
            refine og_istore (pc' := 194) (L' := #[.val (.int p1), .val (.int p2), .val (.int c0), .val (.int c1), .val (.int (1 : Int32)), .val (.int c2), .val (.int c3), .val (.int (1 : Int32)), .val (.ref nb79), .val (.ref nb84), .val (.int (1 : Int32)), .val (.int (0 : Int32)), .val (.int (0 : Int32)), .unset]) X88 hx rfl (hb hby at_192) rfl ?_
            refine og_new (pc' := 197) (cells' := 7) (slots' := 18) X88 hx hZ hown (ow30 hw) (ow31 hw) (ow32 hw) e88 (hb hby at_194) rfl rfl rfl (by decide) (by decide) (fun T92 h92 nb92 X92 e92 E92 q92 E_nb92 D92 B92 => ?_)
            have s_nb92 : h88.size ≤ nb92 := Nat.le_of_eq q92.symm; have g_nb92 : n0 ≤ nb92 := Nat.le_trans (own_n0 O) s_nb92; have sz_nb92 : h0.size ≤ nb92 := Nat.le_trans K.1 s_nb92; have ne_nb79_nb92 : nb79 ≠ nb92 := Nat.ne_of_lt (Nat.lt_of_lt_of_le E_nb79.lt s_nb92); have ne_nb80_nb92 : nb80 ≠ nb92 := Nat.ne_of_lt (Nat.lt_of_lt_of_le V_nb80.lt s_nb92); have ne_nb83_nb92 : nb83 ≠ nb92 := Nat.ne_of_lt (Nat.lt_of_lt_of_le V_nb83.lt s_nb92)
            have ne_nb84_nb92 : nb84 ≠ nb92 := Nat.ne_of_lt (Nat.lt_of_lt_of_le E_nb84.lt s_nb92); have ne_nb85_nb92 : nb85 ≠ nb92 := Nat.ne_of_lt (Nat.lt_of_lt_of_le V_nb85.lt s_nb92); have ne_nb88_nb92 : nb88 ≠ nb92 := Nat.ne_of_lt (Nat.lt_of_lt_of_le V_nb88.lt s_nb92)
            have E_nb79 := E_nb79.ext E92; have V_nb80 := V_nb80.ext E92; have F_value_nb79 := F_value_nb79.ext E92; have F_coder_nb79 := F_coder_nb79.ext E92; have V_nb83 := V_nb83.ext E92; have E_nb84 := E_nb84.ext E92
            have V_nb85 := V_nb85.ext E92; have F_value_nb84 := F_value_nb84.ext E92; have F_coder_nb84 := F_coder_nb84.ext E92; have V_nb88 := V_nb88.ext E92; have O := O.ext E92; have K := K.ext E92
            have hk := Nat.le_trans hk E92.1; have CR := CR.trans (CHr.ext E92 CR.1)
            have F_schema_nb92 : Fld Z h92 nb92 "com/example/tombstone/tombstone/config/TableName" "schema" "Ljava/lang/String;" .null := D92 (Or.inr (ow56 hw)) (ty := (.object "java/lang/String")) (by decide)
            have F_name_nb92 : Fld Z h92 nb92 "com/example/tombstone/tombstone/config/TableName" "name" "Ljava/lang/String;" .null := D92 (Or.inr (ow58 hw)) (ty := (.object "java/lang/String")) (by decide)
            refine og_dup (pc' := 198) X92 hx rfl (hb hby at_197) rfl ?_
            refine og_aload (pc' := 200) X92 hx rfl rfl (hb hby at_198) rfl ?_
            refine og_aload (pc' := 202) X92 hx rfl rfl (hb hby at_200) rfl ?_
            refine og_specialW (pc' := 205) (cells' := 11) (slots' := 66) (W := 1) X92 hx hZ (rm_tn l Z a0 hw nb92 nb79 nb84 nb83 nb88 k83 k88 (2 : Int32) (2 : Int32) _ _ (by decide) (by decide) h92 n0 O hEL E_nb92 F_schema_nb92 F_name_nb92 E_nb79 F_value_nb79 F_coder_nb79 V_nb83 E_nb84 F_value_nb84 F_coder_nb84 V_nb88 g_nb92 ne_nb79_nb92 ne_nb84_nb92 ne_nb83_nb92 ne_nb88_nb92) hEL hS hk CR.1 all0 rfl hown (ow33 hw) (ow34 hw) (ow32 hw) (ow35 hw) (by decide) (by rw [hml]; rfl) e92 opd_18 [(.ref nb79), (.ref nb84)] [(.ref nb92)] rfl rfl rfl rfl (by decide) (by decide) rfl rfl (by decide) (by decide) (hb hby at_202) rfl (fun v93 T93 h93 L93 kk93 X93 e93 hS hk hZ hown cr93 z93 => ?_)
            obtain ⟨rfl, Nq93, K93, F_schema_nb92', F_name_nb92'⟩ := z93; have N := Fr.app N Nq93
            have E_nb79 := E_nb79.keep K93; have V_nb80 := V_nb80.keep K93 (ninS ne_nb80_nb92 nin0); have F_value_nb79 := F_value_nb79.keep K93 (ninS ne_nb79_nb92 nin0); have F_coder_nb79 := F_coder_nb79.keep K93 (ninS ne_nb79_nb92 nin0); have V_nb83 := V_nb83.keep K93 (ninS ne_nb83_nb92 nin0); have E_nb84 := E_nb84.keep K93
            have V_nb85 := V_nb85.keep K93 (ninS ne_nb85_nb92 nin0); have F_value_nb84 := F_value_nb84.keep K93 (ninS ne_nb84_nb92 nin0); have F_coder_nb84 := F_coder_nb84.keep K93 (ninS ne_nb84_nb92 nin0); have V_nb88 := V_nb88.keep K93 (ninS ne_nb88_nb92 nin0); have E_nb92 := E_nb92.keep K93; have O := O.keep K93 (allS g_nb92 all0)
            have K := K.trans K93 (allS (Or.inr sz_nb92) all0); have CR := CR.trans cr93
            have F_schema_nb92 := F_schema_nb92'; have F_name_nb92 := F_name_nb92'
            show OG p e below _ (T93.setTop (mkF m 205 #[.val (.int p1), .val (.int p2), .val (.int c0), .val (.int c1), .val (.int (1 : Int32)), .val (.int c2), .val (.int c3), .val (.int (1 : Int32)), .val (.ref nb79), .val (.ref nb84), .val (.int (1 : Int32)), .val (.int (0 : Int32)), .val (.int (0 : Int32)), .unset] [(.ref nb92)]))
            refine og_astore (pc' := 207) (L' := #[.val (.int p1), .val (.int p2), .val (.int c0), .val (.int c1), .val (.int (1 : Int32)), .val (.int c2), .val (.int c3), .val (.int (1 : Int32)), .val (.ref nb79), .val (.ref nb84), .val (.int (1 : Int32)), .val (.int (0 : Int32)), .val (.int (0 : Int32)), .val (.ref nb92)]) X93 hx rfl rfl (hb hby at_205) rfl ?_
            refine og_aload (pc' := 209) X93 hx rfl rfl (hb hby at_207) rfl ?_
            refine og_virtual (pc' := 212) (cells' := 11) (slots' := 66) (W := 0) X93 hx hZ (rm_w22 l Z a0 hw nb92 nb79 nb84 nb83 nb88 k83 k88 c0 c1 c2 c3 hc0 hc1 hc2 hc3 cs hcs 0 (by simp [hc130, hc155, hc167]) h93 n0 O F_schema_nb92 F_name_nb92 E_nb79 F_value_nb79 F_coder_nb79 V_nb83 E_nb84 F_value_nb84 F_coder_nb84 V_nb88 S_CS) hown (ow59 hw) (ow60 hw) (own_nf hZ (ow62 hw)) (ow62 hw) (ow61 hw) (ow32 hw) (ow63 hw) (by decide) (by rw [hml]; rfl) e93 opd_11 [] [] rfl rfl rfl rfl (by decide) (by decide) rfl rfl (by decide) (by decide) E_nb92 (hb hby at_209) rfl (fun v94 T94 h94 L94 X94 e94 z94 => ?_)
            obtain ⟨rfl, Nq94, hq94⟩ := z94; replace e94 := e94.trans hq94; have N := Fr.app N Nq94
            show OG p e below _ (T94.setTop (mkF m 212 #[.val (.int p1), .val (.int p2), .val (.int c0), .val (.int c1), .val (.int (1 : Int32)), .val (.int c2), .val (.int c3), .val (.int (1 : Int32)), .val (.ref nb79), .val (.ref nb84), .val (.int (1 : Int32)), .val (.int (0 : Int32)), .val (.int (0 : Int32)), .val (.ref nb92)] [(.int (0 : Int32))]))
            refine og_iload (pc' := 214) X94 hx rfl (hb hby at_212) rfl ?_
            refine og_icmp_ne (pc1 := 221) (pc2 := 217) X94 hx (hb hby at_214) (by decide) (by decide) rfl (fun q => absurd q (by decide)) (fun _ => ?_)
            refine og_iconst (pc' := 218) (v := (1 : Int32)) X94 hx rfl (hb hby at_217) rfl ?_
            refine og_goto (pc' := 222) X94 hx (hb hby at_218) (by decide) (by decide) ?_
            refine og_retNW X94 hx hZ hlk hEL hS e94 es hk CR hret (by simp) (hb hby at_222) (by decide) (by decide) ?_
            exact ⟨rfl, N⟩
          · -- pc 170
            refine og_iconst (pc' := 171) (v := (1 : Int32)) X88 hx rfl (hb hby at_170) rfl ?_
            refine og_goto (pc' := 175) X88 hx (hb hby at_171) (by decide) (by decide) ?_
            refine og_istore (pc' := 177) (L' := #[.val (.int p1), .val (.int p2), .val (.int c0), .val (.int c1), .val (.int (1 : Int32)), .val (.int c2), .val (.int c3), .val (.int (1 : Int32)), .val (.ref nb79), .val (.ref nb84), .val (.int (1 : Int32)), .val (.int (1 : Int32)), .unset, .unset]) X88 hx rfl (hb hby at_175) rfl ?_
            refine og_iload (pc' := 179) X88 hx rfl (hb hby at_177) rfl ?_
            refine og_if_ne (pc1 := 191) (pc2 := 182) X88 hx (hb hby at_179) (by decide) (by decide) rfl (fun _ => ?_) (fun q => absurd q (by decide))
            refine og_iconst (pc' := 192) (v := (0 : Int32)) X88 hx rfl (hb hby at_191) rfl ?_
            refine og_istore (pc' := 194) (L' := #[.val (.int p1), .val (.int p2), .val (.int c0), .val (.int c1), .val (.int (1 : Int32)), .val (.int c2), .val (.int c3), .val (.int (1 : Int32)), .val (.ref nb79), .val (.ref nb84), .val (.int (1 : Int32)), .val (.int (1 : Int32)), .val (.int (0 : Int32)), .unset]) X88 hx rfl (hb hby at_192) rfl ?_
            refine og_new (pc' := 197) (cells' := 7) (slots' := 18) X88 hx hZ hown (ow30 hw) (ow31 hw) (ow32 hw) e88 (hb hby at_194) rfl rfl rfl (by decide) (by decide) (fun T95 h95 nb95 X95 e95 E95 q95 E_nb95 D95 B95 => ?_)
            have s_nb95 : h88.size ≤ nb95 := Nat.le_of_eq q95.symm; have g_nb95 : n0 ≤ nb95 := Nat.le_trans (own_n0 O) s_nb95; have sz_nb95 : h0.size ≤ nb95 := Nat.le_trans K.1 s_nb95; have ne_nb79_nb95 : nb79 ≠ nb95 := Nat.ne_of_lt (Nat.lt_of_lt_of_le E_nb79.lt s_nb95); have ne_nb80_nb95 : nb80 ≠ nb95 := Nat.ne_of_lt (Nat.lt_of_lt_of_le V_nb80.lt s_nb95); have ne_nb83_nb95 : nb83 ≠ nb95 := Nat.ne_of_lt (Nat.lt_of_lt_of_le V_nb83.lt s_nb95)
            have ne_nb84_nb95 : nb84 ≠ nb95 := Nat.ne_of_lt (Nat.lt_of_lt_of_le E_nb84.lt s_nb95); have ne_nb85_nb95 : nb85 ≠ nb95 := Nat.ne_of_lt (Nat.lt_of_lt_of_le V_nb85.lt s_nb95); have ne_nb88_nb95 : nb88 ≠ nb95 := Nat.ne_of_lt (Nat.lt_of_lt_of_le V_nb88.lt s_nb95)
            have E_nb79 := E_nb79.ext E95; have V_nb80 := V_nb80.ext E95; have F_value_nb79 := F_value_nb79.ext E95; have F_coder_nb79 := F_coder_nb79.ext E95; have V_nb83 := V_nb83.ext E95; have E_nb84 := E_nb84.ext E95
            have V_nb85 := V_nb85.ext E95; have F_value_nb84 := F_value_nb84.ext E95; have F_coder_nb84 := F_coder_nb84.ext E95; have V_nb88 := V_nb88.ext E95; have O := O.ext E95; have K := K.ext E95
            have hk := Nat.le_trans hk E95.1; have CR := CR.trans (CHr.ext E95 CR.1)
            have F_schema_nb95 : Fld Z h95 nb95 "com/example/tombstone/tombstone/config/TableName" "schema" "Ljava/lang/String;" .null := D95 (Or.inr (ow56 hw)) (ty := (.object "java/lang/String")) (by decide)
            have F_name_nb95 : Fld Z h95 nb95 "com/example/tombstone/tombstone/config/TableName" "name" "Ljava/lang/String;" .null := D95 (Or.inr (ow58 hw)) (ty := (.object "java/lang/String")) (by decide)
            refine og_dup (pc' := 198) X95 hx rfl (hb hby at_197) rfl ?_
            refine og_aload (pc' := 200) X95 hx rfl rfl (hb hby at_198) rfl ?_
            refine og_aload (pc' := 202) X95 hx rfl rfl (hb hby at_200) rfl ?_
            refine og_specialW (pc' := 205) (cells' := 11) (slots' := 66) (W := 1) X95 hx hZ (rm_tn l Z a0 hw nb95 nb79 nb84 nb83 nb88 k83 k88 (2 : Int32) (2 : Int32) _ _ (by decide) (by decide) h95 n0 O hEL E_nb95 F_schema_nb95 F_name_nb95 E_nb79 F_value_nb79 F_coder_nb79 V_nb83 E_nb84 F_value_nb84 F_coder_nb84 V_nb88 g_nb95 ne_nb79_nb95 ne_nb84_nb95 ne_nb83_nb95 ne_nb88_nb95) hEL hS hk CR.1 all0 rfl hown (ow33 hw) (ow34 hw) (ow32 hw) (ow35 hw) (by decide) (by rw [hml]; rfl) e95 opd_18 [(.ref nb79), (.ref nb84)] [(.ref nb95)] rfl rfl rfl rfl (by decide) (by decide) rfl rfl (by decide) (by decide) (hb hby at_202) rfl (fun v96 T96 h96 L96 kk96 X96 e96 hS hk hZ hown cr96 z96 => ?_)
            obtain ⟨rfl, Nq96, K96, F_schema_nb95', F_name_nb95'⟩ := z96; have N := Fr.app N Nq96
            have E_nb79 := E_nb79.keep K96; have V_nb80 := V_nb80.keep K96 (ninS ne_nb80_nb95 nin0); have F_value_nb79 := F_value_nb79.keep K96 (ninS ne_nb79_nb95 nin0); have F_coder_nb79 := F_coder_nb79.keep K96 (ninS ne_nb79_nb95 nin0); have V_nb83 := V_nb83.keep K96 (ninS ne_nb83_nb95 nin0); have E_nb84 := E_nb84.keep K96
            have V_nb85 := V_nb85.keep K96 (ninS ne_nb85_nb95 nin0); have F_value_nb84 := F_value_nb84.keep K96 (ninS ne_nb84_nb95 nin0); have F_coder_nb84 := F_coder_nb84.keep K96 (ninS ne_nb84_nb95 nin0); have V_nb88 := V_nb88.keep K96 (ninS ne_nb88_nb95 nin0); have E_nb95 := E_nb95.keep K96; have O := O.keep K96 (allS g_nb95 all0)
            have K := K.trans K96 (allS (Or.inr sz_nb95) all0); have CR := CR.trans cr96
            have F_schema_nb95 := F_schema_nb95'; have F_name_nb95 := F_name_nb95'
            show OG p e below _ (T96.setTop (mkF m 205 #[.val (.int p1), .val (.int p2), .val (.int c0), .val (.int c1), .val (.int (1 : Int32)), .val (.int c2), .val (.int c3), .val (.int (1 : Int32)), .val (.ref nb79), .val (.ref nb84), .val (.int (1 : Int32)), .val (.int (1 : Int32)), .val (.int (0 : Int32)), .unset] [(.ref nb95)]))
            refine og_astore (pc' := 207) (L' := #[.val (.int p1), .val (.int p2), .val (.int c0), .val (.int c1), .val (.int (1 : Int32)), .val (.int c2), .val (.int c3), .val (.int (1 : Int32)), .val (.ref nb79), .val (.ref nb84), .val (.int (1 : Int32)), .val (.int (1 : Int32)), .val (.int (0 : Int32)), .val (.ref nb95)]) X96 hx rfl rfl (hb hby at_205) rfl ?_
            refine og_aload (pc' := 209) X96 hx rfl rfl (hb hby at_207) rfl ?_
            refine og_virtual (pc' := 212) (cells' := 11) (slots' := 66) (W := 0) X96 hx hZ (rm_w22 l Z a0 hw nb95 nb79 nb84 nb83 nb88 k83 k88 c0 c1 c2 c3 hc0 hc1 hc2 hc3 cs hcs 0 (by simp [hc130, hc155, hc167]) h96 n0 O F_schema_nb95 F_name_nb95 E_nb79 F_value_nb79 F_coder_nb79 V_nb83 E_nb84 F_value_nb84 F_coder_nb84 V_nb88 S_CS) hown (ow59 hw) (ow60 hw) (own_nf hZ (ow62 hw)) (ow62 hw) (ow61 hw) (ow32 hw) (ow63 hw) (by decide) (by rw [hml]; rfl) e96 opd_11 [] [] rfl rfl rfl rfl (by decide) (by decide) rfl rfl (by decide) (by decide) E_nb95 (hb hby at_209) rfl (fun v97 T97 h97 L97 X97 e97 z97 => ?_)
            obtain ⟨rfl, Nq97, hq97⟩ := z97; replace e97 := e97.trans hq97; have N := Fr.app N Nq97
            show OG p e below _ (T97.setTop (mkF m 212 #[.val (.int p1), .val (.int p2), .val (.int c0), .val (.int c1), .val (.int (1 : Int32)), .val (.int c2), .val (.int c3), .val (.int (1 : Int32)), .val (.ref nb79), .val (.ref nb84), .val (.int (1 : Int32)), .val (.int (1 : Int32)), .val (.int (0 : Int32)), .val (.ref nb95)] [(.int (0 : Int32))]))
            refine og_iload (pc' := 214) X97 hx rfl (hb hby at_212) rfl ?_
            refine og_icmp_ne (pc1 := 221) (pc2 := 217) X97 hx (hb hby at_214) (by decide) (by decide) rfl (fun q => absurd q (by decide)) (fun _ => ?_)
            refine og_iconst (pc' := 218) (v := (1 : Int32)) X97 hx rfl (hb hby at_217) rfl ?_
            refine og_goto (pc' := 222) X97 hx (hb hby at_218) (by decide) (by decide) ?_
            refine og_retNW X97 hx hZ hlk hEL hS e97 es hk CR hret (by simp) (hb hby at_222) (by decide) (by decide) ?_
            exact ⟨rfl, N⟩
      · -- pc 133
        refine og_iload (pc' := 135) X88 hx rfl (hb hby at_133) rfl ?_
        refine og_if_eq (pc1 := 148) (pc2 := 138) X88 hx (hb hby at_135) (by decide) (by decide) rfl (fun q => absurd q (by decide)) (fun _ => ?_)
        refine og_iloadN (pc' := 139) X88 hx rfl (hb hby at_138) rfl ?_
        refine og_bipush (pc' := 141) (v := (46 : Int32)) X88 hx rfl (hb hby at_139) rfl ?_
        refine og_icmp_ne (pc1 := 148) (pc2 := 144) X88 hx (hb hby at_141) (by decide) (by decide) rfl (fun hc141 => ?_) (fun hc141 => ?_)
        · -- pc 148
          refine og_iconst (pc' := 149) (v := (0 : Int32)) X88 hx rfl (hb hby at_148) rfl ?_
          refine og_istore (pc' := 151) (L' := #[.val (.int p1), .val (.int p2), .val (.int c0), .val (.int c1), .val (.int (1 : Int32)), .val (.int c2), .val (.int c3), .val (.int (1 : Int32)), .val (.ref nb79), .val (.ref nb84), .val (.int (0 : Int32)), .unset, .unset, .unset]) X88 hx rfl (hb hby at_149) rfl ?_
          refine og_iload (pc' := 153) X88 hx rfl (hb hby at_151) rfl ?_
          refine og_bipush (pc' := 155) (v := (46 : Int32)) X88 hx rfl (hb hby at_153) rfl ?_
          refine og_icmp_eq (pc1 := 170) (pc2 := 158) X88 hx (hb hby at_155) (by decide) (by decide) rfl (fun hc155 => ?_) (fun hc155 => ?_)
          · -- pc 170
            refine og_iconst (pc' := 171) (v := (1 : Int32)) X88 hx rfl (hb hby at_170) rfl ?_
            refine og_goto (pc' := 175) X88 hx (hb hby at_171) (by decide) (by decide) ?_
            refine og_istore (pc' := 177) (L' := #[.val (.int p1), .val (.int p2), .val (.int c0), .val (.int c1), .val (.int (1 : Int32)), .val (.int c2), .val (.int c3), .val (.int (1 : Int32)), .val (.ref nb79), .val (.ref nb84), .val (.int (0 : Int32)), .val (.int (1 : Int32)), .unset, .unset]) X88 hx rfl (hb hby at_175) rfl ?_
            refine og_iload (pc' := 179) X88 hx rfl (hb hby at_177) rfl ?_
            refine og_if_ne (pc1 := 191) (pc2 := 182) X88 hx (hb hby at_179) (by decide) (by decide) rfl (fun q => absurd q (by decide)) (fun _ => ?_)
            refine og_iload (pc' := 184) X88 hx rfl (hb hby at_182) rfl ?_
            refine og_if_ne (pc1 := 191) (pc2 := 187) X88 hx (hb hby at_184) (by decide) (by decide) rfl (fun _ => ?_) (fun q => absurd q (by decide))
            refine og_iconst (pc' := 192) (v := (0 : Int32)) X88 hx rfl (hb hby at_191) rfl ?_
            refine og_istore (pc' := 194) (L' := #[.val (.int p1), .val (.int p2), .val (.int c0), .val (.int c1), .val (.int (1 : Int32)), .val (.int c2), .val (.int c3), .val (.int (1 : Int32)), .val (.ref nb79), .val (.ref nb84), .val (.int (0 : Int32)), .val (.int (1 : Int32)), .val (.int (0 : Int32)), .unset]) X88 hx rfl (hb hby at_192) rfl ?_
            refine og_new (pc' := 197) (cells' := 7) (slots' := 18) X88 hx hZ hown (ow30 hw) (ow31 hw) (ow32 hw) e88 (hb hby at_194) rfl rfl rfl (by decide) (by decide) (fun T98 h98 nb98 X98 e98 E98 q98 E_nb98 D98 B98 => ?_)
            have s_nb98 : h88.size ≤ nb98 := Nat.le_of_eq q98.symm; have g_nb98 : n0 ≤ nb98 := Nat.le_trans (own_n0 O) s_nb98; have sz_nb98 : h0.size ≤ nb98 := Nat.le_trans K.1 s_nb98; have ne_nb79_nb98 : nb79 ≠ nb98 := Nat.ne_of_lt (Nat.lt_of_lt_of_le E_nb79.lt s_nb98); have ne_nb80_nb98 : nb80 ≠ nb98 := Nat.ne_of_lt (Nat.lt_of_lt_of_le V_nb80.lt s_nb98); have ne_nb83_nb98 : nb83 ≠ nb98 := Nat.ne_of_lt (Nat.lt_of_lt_of_le V_nb83.lt s_nb98)
            have ne_nb84_nb98 : nb84 ≠ nb98 := Nat.ne_of_lt (Nat.lt_of_lt_of_le E_nb84.lt s_nb98); have ne_nb85_nb98 : nb85 ≠ nb98 := Nat.ne_of_lt (Nat.lt_of_lt_of_le V_nb85.lt s_nb98); have ne_nb88_nb98 : nb88 ≠ nb98 := Nat.ne_of_lt (Nat.lt_of_lt_of_le V_nb88.lt s_nb98)
            have E_nb79 := E_nb79.ext E98; have V_nb80 := V_nb80.ext E98; have F_value_nb79 := F_value_nb79.ext E98; have F_coder_nb79 := F_coder_nb79.ext E98; have V_nb83 := V_nb83.ext E98; have E_nb84 := E_nb84.ext E98
            have V_nb85 := V_nb85.ext E98; have F_value_nb84 := F_value_nb84.ext E98; have F_coder_nb84 := F_coder_nb84.ext E98; have V_nb88 := V_nb88.ext E98; have O := O.ext E98; have K := K.ext E98
            have hk := Nat.le_trans hk E98.1; have CR := CR.trans (CHr.ext E98 CR.1)
            have F_schema_nb98 : Fld Z h98 nb98 "com/example/tombstone/tombstone/config/TableName" "schema" "Ljava/lang/String;" .null := D98 (Or.inr (ow56 hw)) (ty := (.object "java/lang/String")) (by decide)
            have F_name_nb98 : Fld Z h98 nb98 "com/example/tombstone/tombstone/config/TableName" "name" "Ljava/lang/String;" .null := D98 (Or.inr (ow58 hw)) (ty := (.object "java/lang/String")) (by decide)
            refine og_dup (pc' := 198) X98 hx rfl (hb hby at_197) rfl ?_
            refine og_aload (pc' := 200) X98 hx rfl rfl (hb hby at_198) rfl ?_
            refine og_aload (pc' := 202) X98 hx rfl rfl (hb hby at_200) rfl ?_
            refine og_specialW (pc' := 205) (cells' := 11) (slots' := 66) (W := 1) X98 hx hZ (rm_tn l Z a0 hw nb98 nb79 nb84 nb83 nb88 k83 k88 (2 : Int32) (2 : Int32) _ _ (by decide) (by decide) h98 n0 O hEL E_nb98 F_schema_nb98 F_name_nb98 E_nb79 F_value_nb79 F_coder_nb79 V_nb83 E_nb84 F_value_nb84 F_coder_nb84 V_nb88 g_nb98 ne_nb79_nb98 ne_nb84_nb98 ne_nb83_nb98 ne_nb88_nb98) hEL hS hk CR.1 all0 rfl hown (ow33 hw) (ow34 hw) (ow32 hw) (ow35 hw) (by decide) (by rw [hml]; rfl) e98 opd_18 [(.ref nb79), (.ref nb84)] [(.ref nb98)] rfl rfl rfl rfl (by decide) (by decide) rfl rfl (by decide) (by decide) (hb hby at_202) rfl (fun v99 T99 h99 L99 kk99 X99 e99 hS hk hZ hown cr99 z99 => ?_)
            obtain ⟨rfl, Nq99, K99, F_schema_nb98', F_name_nb98'⟩ := z99; have N := Fr.app N Nq99
            have E_nb79 := E_nb79.keep K99; have V_nb80 := V_nb80.keep K99 (ninS ne_nb80_nb98 nin0); have F_value_nb79 := F_value_nb79.keep K99 (ninS ne_nb79_nb98 nin0); have F_coder_nb79 := F_coder_nb79.keep K99 (ninS ne_nb79_nb98 nin0); have V_nb83 := V_nb83.keep K99 (ninS ne_nb83_nb98 nin0); have E_nb84 := E_nb84.keep K99
            have V_nb85 := V_nb85.keep K99 (ninS ne_nb85_nb98 nin0); have F_value_nb84 := F_value_nb84.keep K99 (ninS ne_nb84_nb98 nin0); have F_coder_nb84 := F_coder_nb84.keep K99 (ninS ne_nb84_nb98 nin0); have V_nb88 := V_nb88.keep K99 (ninS ne_nb88_nb98 nin0); have E_nb98 := E_nb98.keep K99; have O := O.keep K99 (allS g_nb98 all0)
            have K := K.trans K99 (allS (Or.inr sz_nb98) all0); have CR := CR.trans cr99
            have F_schema_nb98 := F_schema_nb98'; have F_name_nb98 := F_name_nb98'
            show OG p e below _ (T99.setTop (mkF m 205 #[.val (.int p1), .val (.int p2), .val (.int c0), .val (.int c1), .val (.int (1 : Int32)), .val (.int c2), .val (.int c3), .val (.int (1 : Int32)), .val (.ref nb79), .val (.ref nb84), .val (.int (0 : Int32)), .val (.int (1 : Int32)), .val (.int (0 : Int32)), .unset] [(.ref nb98)]))
            refine og_astore (pc' := 207) (L' := #[.val (.int p1), .val (.int p2), .val (.int c0), .val (.int c1), .val (.int (1 : Int32)), .val (.int c2), .val (.int c3), .val (.int (1 : Int32)), .val (.ref nb79), .val (.ref nb84), .val (.int (0 : Int32)), .val (.int (1 : Int32)), .val (.int (0 : Int32)), .val (.ref nb98)]) X99 hx rfl rfl (hb hby at_205) rfl ?_
            refine og_aload (pc' := 209) X99 hx rfl rfl (hb hby at_207) rfl ?_
            refine og_virtual (pc' := 212) (cells' := 11) (slots' := 66) (W := 0) X99 hx hZ (rm_w22 l Z a0 hw nb98 nb79 nb84 nb83 nb88 k83 k88 c0 c1 c2 c3 hc0 hc1 hc2 hc3 cs hcs 0 (by simp [hc130, hc141, hc155]) h99 n0 O F_schema_nb98 F_name_nb98 E_nb79 F_value_nb79 F_coder_nb79 V_nb83 E_nb84 F_value_nb84 F_coder_nb84 V_nb88 S_CS) hown (ow59 hw) (ow60 hw) (own_nf hZ (ow62 hw)) (ow62 hw) (ow61 hw) (ow32 hw) (ow63 hw) (by decide) (by rw [hml]; rfl) e99 opd_11 [] [] rfl rfl rfl rfl (by decide) (by decide) rfl rfl (by decide) (by decide) E_nb98 (hb hby at_209) rfl (fun v100 T100 h100 L100 X100 e100 z100 => ?_)
            obtain ⟨rfl, Nq100, hq100⟩ := z100; replace e100 := e100.trans hq100; have N := Fr.app N Nq100
            show OG p e below _ (T100.setTop (mkF m 212 #[.val (.int p1), .val (.int p2), .val (.int c0), .val (.int c1), .val (.int (1 : Int32)), .val (.int c2), .val (.int c3), .val (.int (1 : Int32)), .val (.ref nb79), .val (.ref nb84), .val (.int (0 : Int32)), .val (.int (1 : Int32)), .val (.int (0 : Int32)), .val (.ref nb98)] [(.int (0 : Int32))]))
            refine og_iload (pc' := 214) X100 hx rfl (hb hby at_212) rfl ?_
            refine og_icmp_ne (pc1 := 221) (pc2 := 217) X100 hx (hb hby at_214) (by decide) (by decide) rfl (fun q => absurd q (by decide)) (fun _ => ?_)
            refine og_iconst (pc' := 218) (v := (1 : Int32)) X100 hx rfl (hb hby at_217) rfl ?_
            refine og_goto (pc' := 222) X100 hx (hb hby at_218) (by decide) (by decide) ?_
            refine og_retNW X100 hx hZ hlk hEL hS e100 es hk CR hret (by simp) (hb hby at_222) (by decide) (by decide) ?_
            exact ⟨rfl, N⟩
          · -- pc 158
            refine og_iload (pc' := 160) X88 hx rfl (hb hby at_158) rfl ?_
            refine og_if_eq (pc1 := 174) (pc2 := 163) X88 hx (hb hby at_160) (by decide) (by decide) rfl (fun q => absurd q (by decide)) (fun _ => ?_)
            refine og_iload (pc' := 165) X88 hx rfl (hb hby at_163) rfl ?_
            refine og_bipush (pc' := 167) (v := (46 : Int32)) X88 hx rfl (hb hby at_165) rfl ?_
            refine og_icmp_ne (pc1 := 174) (pc2 := 170) X88 hx (hb hby at_167) (by decide) (by decide) rfl (fun hc167 => ?_) (fun hc167 => ?_)
            · -- pc 174
              refine og_iconst (pc' := 175) (v := (0 : Int32)) X88 hx rfl (hb hby at_174) rfl ?_
              refine og_istore (pc' := 177) (L' := #[.val (.int p1), .val (.int p2), .val (.int c0), .val (.int c1), .val (.int (1 : Int32)), .val (.int c2), .val (.int c3), .val (.int (1 : Int32)), .val (.ref nb79), .val (.ref nb84), .val (.int (0 : Int32)), .val (.int (0 : Int32)), .unset, .unset]) X88 hx rfl (hb hby at_175) rfl ?_
              refine og_iload (pc' := 179) X88 hx rfl (hb hby at_177) rfl ?_
              refine og_if_ne (pc1 := 191) (pc2 := 182) X88 hx (hb hby at_179) (by decide) (by decide) rfl (fun q => absurd q (by decide)) (fun _ => ?_)
              refine og_iload (pc' := 184) X88 hx rfl (hb hby at_182) rfl ?_
              refine og_if_ne (pc1 := 191) (pc2 := 187) X88 hx (hb hby at_184) (by decide) (by decide) rfl (fun q => absurd q (by decide)) (fun _ => ?_)
              refine og_iconst (pc' := 188) (v := (1 : Int32)) X88 hx rfl (hb hby at_187) rfl ?_
              refine og_goto (pc' := 192) X88 hx (hb hby at_188) (by decide) (by decide) ?_
              refine og_istore (pc' := 194) (L' := #[.val (.int p1), .val (.int p2), .val (.int c0), .val (.int c1), .val (.int (1 : Int32)), .val (.int c2), .val (.int c3), .val (.int (1 : Int32)), .val (.ref nb79), .val (.ref nb84), .val (.int (0 : Int32)), .val (.int (0 : Int32)), .val (.int (1 : Int32)), .unset]) X88 hx rfl (hb hby at_192) rfl ?_
              refine og_new (pc' := 197) (cells' := 7) (slots' := 18) X88 hx hZ hown (ow30 hw) (ow31 hw) (ow32 hw) e88 (hb hby at_194) rfl rfl rfl (by decide) (by decide) (fun T101 h101 nb101 X101 e101 E101 q101 E_nb101 D101 B101 => ?_)
              have s_nb101 : h88.size ≤ nb101 := Nat.le_of_eq q101.symm; have g_nb101 : n0 ≤ nb101 := Nat.le_trans (own_n0 O) s_nb101; have sz_nb101 : h0.size ≤ nb101 := Nat.le_trans K.1 s_nb101; have ne_nb79_nb101 : nb79 ≠ nb101 := Nat.ne_of_lt (Nat.lt_of_lt_of_le E_nb79.lt s_nb101); have ne_nb80_nb101 : nb80 ≠ nb101 := Nat.ne_of_lt (Nat.lt_of_lt_of_le V_nb80.lt s_nb101); have ne_nb83_nb101 : nb83 ≠ nb101 := Nat.ne_of_lt (Nat.lt_of_lt_of_le V_nb83.lt s_nb101)
              have ne_nb84_nb101 : nb84 ≠ nb101 := Nat.ne_of_lt (Nat.lt_of_lt_of_le E_nb84.lt s_nb101); have ne_nb85_nb101 : nb85 ≠ nb101 := Nat.ne_of_lt (Nat.lt_of_lt_of_le V_nb85.lt s_nb101); have ne_nb88_nb101 : nb88 ≠ nb101 := Nat.ne_of_lt (Nat.lt_of_lt_of_le V_nb88.lt s_nb101)
              have E_nb79 := E_nb79.ext E101; have V_nb80 := V_nb80.ext E101; have F_value_nb79 := F_value_nb79.ext E101; have F_coder_nb79 := F_coder_nb79.ext E101; have V_nb83 := V_nb83.ext E101; have E_nb84 := E_nb84.ext E101
              have V_nb85 := V_nb85.ext E101; have F_value_nb84 := F_value_nb84.ext E101; have F_coder_nb84 := F_coder_nb84.ext E101; have V_nb88 := V_nb88.ext E101; have O := O.ext E101; have K := K.ext E101
              have hk := Nat.le_trans hk E101.1; have CR := CR.trans (CHr.ext E101 CR.1)
              have F_schema_nb101 : Fld Z h101 nb101 "com/example/tombstone/tombstone/config/TableName" "schema" "Ljava/lang/String;" .null := D101 (Or.inr (ow56 hw)) (ty := (.object "java/lang/String")) (by decide)
              have F_name_nb101 : Fld Z h101 nb101 "com/example/tombstone/tombstone/config/TableName" "name" "Ljava/lang/String;" .null := D101 (Or.inr (ow58 hw)) (ty := (.object "java/lang/String")) (by decide)
              refine og_dup (pc' := 198) X101 hx rfl (hb hby at_197) rfl ?_
              refine og_aload (pc' := 200) X101 hx rfl rfl (hb hby at_198) rfl ?_
              refine og_aload (pc' := 202) X101 hx rfl rfl (hb hby at_200) rfl ?_
              refine og_specialW (pc' := 205) (cells' := 11) (slots' := 66) (W := 1) X101 hx hZ (rm_tn l Z a0 hw nb101 nb79 nb84 nb83 nb88 k83 k88 (2 : Int32) (2 : Int32) _ _ (by decide) (by decide) h101 n0 O hEL E_nb101 F_schema_nb101 F_name_nb101 E_nb79 F_value_nb79 F_coder_nb79 V_nb83 E_nb84 F_value_nb84 F_coder_nb84 V_nb88 g_nb101 ne_nb79_nb101 ne_nb84_nb101 ne_nb83_nb101 ne_nb88_nb101) hEL hS hk CR.1 all0 rfl hown (ow33 hw) (ow34 hw) (ow32 hw) (ow35 hw) (by decide) (by rw [hml]; rfl) e101 opd_18 [(.ref nb79), (.ref nb84)] [(.ref nb101)] rfl rfl rfl rfl (by decide) (by decide) rfl rfl (by decide) (by decide) (hb hby at_202) rfl (fun v102 T102 h102 L102 kk102 X102 e102 hS hk hZ hown cr102 z102 => ?_)
              obtain ⟨rfl, Nq102, K102, F_schema_nb101', F_name_nb101'⟩ := z102; have N := Fr.app N Nq102
              have E_nb79 := E_nb79.keep K102; have V_nb80 := V_nb80.keep K102 (ninS ne_nb80_nb101 nin0); have F_value_nb79 := F_value_nb79.keep K102 (ninS ne_nb79_nb101 nin0); have F_coder_nb79 := F_coder_nb79.keep K102 (ninS ne_nb79_nb101 nin0); have V_nb83 := V_nb83.keep K102 (ninS ne_nb83_nb101 nin0); have E_nb84 := E_nb84.keep K102
              have V_nb85 := V_nb85.keep K102 (ninS ne_nb85_nb101 nin0); have F_value_nb84 := F_value_nb84.keep K102 (ninS ne_nb84_nb101 nin0); have F_coder_nb84 := F_coder_nb84.keep K102 (ninS ne_nb84_nb101 nin0); have V_nb88 := V_nb88.keep K102 (ninS ne_nb88_nb101 nin0); have E_nb101 := E_nb101.keep K102; have O := O.keep K102 (allS g_nb101 all0)
              have K := K.trans K102 (allS (Or.inr sz_nb101) all0); have CR := CR.trans cr102
              have F_schema_nb101 := F_schema_nb101'; have F_name_nb101 := F_name_nb101'
              show OG p e below _ (T102.setTop (mkF m 205 #[.val (.int p1), .val (.int p2), .val (.int c0), .val (.int c1), .val (.int (1 : Int32)), .val (.int c2), .val (.int c3), .val (.int (1 : Int32)), .val (.ref nb79), .val (.ref nb84), .val (.int (0 : Int32)), .val (.int (0 : Int32)), .val (.int (1 : Int32)), .unset] [(.ref nb101)]))
              refine og_astore (pc' := 207) (L' := #[.val (.int p1), .val (.int p2), .val (.int c0), .val (.int c1), .val (.int (1 : Int32)), .val (.int c2), .val (.int c3), .val (.int (1 : Int32)), .val (.ref nb79), .val (.ref nb84), .val (.int (0 : Int32)), .val (.int (0 : Int32)), .val (.int (1 : Int32)), .val (.ref nb101)]) X102 hx rfl rfl (hb hby at_205) rfl ?_
              refine og_aload (pc' := 209) X102 hx rfl rfl (hb hby at_207) rfl ?_
              refine og_virtual (pc' := 212) (cells' := 11) (slots' := 66) (W := 0) X102 hx hZ (rm_w22 l Z a0 hw nb101 nb79 nb84 nb83 nb88 k83 k88 c0 c1 c2 c3 hc0 hc1 hc2 hc3 cs hcs 1 (by simp [hc130, hc141, hc155, hc167]) h102 n0 O F_schema_nb101 F_name_nb101 E_nb79 F_value_nb79 F_coder_nb79 V_nb83 E_nb84 F_value_nb84 F_coder_nb84 V_nb88 S_CS) hown (ow59 hw) (ow60 hw) (own_nf hZ (ow62 hw)) (ow62 hw) (ow61 hw) (ow32 hw) (ow63 hw) (by decide) (by rw [hml]; rfl) e102 opd_11 [] [] rfl rfl rfl rfl (by decide) (by decide) rfl rfl (by decide) (by decide) E_nb101 (hb hby at_209) rfl (fun v103 T103 h103 L103 X103 e103 z103 => ?_)
              obtain ⟨rfl, Nq103, hq103⟩ := z103; replace e103 := e103.trans hq103; have N := Fr.app N Nq103
              show OG p e below _ (T103.setTop (mkF m 212 #[.val (.int p1), .val (.int p2), .val (.int c0), .val (.int c1), .val (.int (1 : Int32)), .val (.int c2), .val (.int c3), .val (.int (1 : Int32)), .val (.ref nb79), .val (.ref nb84), .val (.int (0 : Int32)), .val (.int (0 : Int32)), .val (.int (1 : Int32)), .val (.ref nb101)] [(.int (1 : Int32))]))
              refine og_iload (pc' := 214) X103 hx rfl (hb hby at_212) rfl ?_
              refine og_icmp_ne (pc1 := 221) (pc2 := 217) X103 hx (hb hby at_214) (by decide) (by decide) rfl (fun q => absurd q (by decide)) (fun _ => ?_)
              refine og_iconst (pc' := 218) (v := (1 : Int32)) X103 hx rfl (hb hby at_217) rfl ?_
              refine og_goto (pc' := 222) X103 hx (hb hby at_218) (by decide) (by decide) ?_
              refine og_retNW X103 hx hZ hlk hEL hS e103 es hk CR hret (by simp) (hb hby at_222) (by decide) (by decide) ?_
              exact ⟨rfl, N⟩
            · -- pc 170
              refine og_iconst (pc' := 171) (v := (1 : Int32)) X88 hx rfl (hb hby at_170) rfl ?_
              refine og_goto (pc' := 175) X88 hx (hb hby at_171) (by decide) (by decide) ?_
              refine og_istore (pc' := 177) (L' := #[.val (.int p1), .val (.int p2), .val (.int c0), .val (.int c1), .val (.int (1 : Int32)), .val (.int c2), .val (.int c3), .val (.int (1 : Int32)), .val (.ref nb79), .val (.ref nb84), .val (.int (0 : Int32)), .val (.int (1 : Int32)), .unset, .unset]) X88 hx rfl (hb hby at_175) rfl ?_
              refine og_iload (pc' := 179) X88 hx rfl (hb hby at_177) rfl ?_
              refine og_if_ne (pc1 := 191) (pc2 := 182) X88 hx (hb hby at_179) (by decide) (by decide) rfl (fun q => absurd q (by decide)) (fun _ => ?_)
              refine og_iload (pc' := 184) X88 hx rfl (hb hby at_182) rfl ?_
              refine og_if_ne (pc1 := 191) (pc2 := 187) X88 hx (hb hby at_184) (by decide) (by decide) rfl (fun _ => ?_) (fun q => absurd q (by decide))
              refine og_iconst (pc' := 192) (v := (0 : Int32)) X88 hx rfl (hb hby at_191) rfl ?_
              refine og_istore (pc' := 194) (L' := #[.val (.int p1), .val (.int p2), .val (.int c0), .val (.int c1), .val (.int (1 : Int32)), .val (.int c2), .val (.int c3), .val (.int (1 : Int32)), .val (.ref nb79), .val (.ref nb84), .val (.int (0 : Int32)), .val (.int (1 : Int32)), .val (.int (0 : Int32)), .unset]) X88 hx rfl (hb hby at_192) rfl ?_
              refine og_new (pc' := 197) (cells' := 7) (slots' := 18) X88 hx hZ hown (ow30 hw) (ow31 hw) (ow32 hw) e88 (hb hby at_194) rfl rfl rfl (by decide) (by decide) (fun T104 h104 nb104 X104 e104 E104 q104 E_nb104 D104 B104 => ?_)
              have s_nb104 : h88.size ≤ nb104 := Nat.le_of_eq q104.symm; have g_nb104 : n0 ≤ nb104 := Nat.le_trans (own_n0 O) s_nb104; have sz_nb104 : h0.size ≤ nb104 := Nat.le_trans K.1 s_nb104; have ne_nb79_nb104 : nb79 ≠ nb104 := Nat.ne_of_lt (Nat.lt_of_lt_of_le E_nb79.lt s_nb104); have ne_nb80_nb104 : nb80 ≠ nb104 := Nat.ne_of_lt (Nat.lt_of_lt_of_le V_nb80.lt s_nb104); have ne_nb83_nb104 : nb83 ≠ nb104 := Nat.ne_of_lt (Nat.lt_of_lt_of_le V_nb83.lt s_nb104)
              have ne_nb84_nb104 : nb84 ≠ nb104 := Nat.ne_of_lt (Nat.lt_of_lt_of_le E_nb84.lt s_nb104); have ne_nb85_nb104 : nb85 ≠ nb104 := Nat.ne_of_lt (Nat.lt_of_lt_of_le V_nb85.lt s_nb104); have ne_nb88_nb104 : nb88 ≠ nb104 := Nat.ne_of_lt (Nat.lt_of_lt_of_le V_nb88.lt s_nb104)
              have E_nb79 := E_nb79.ext E104; have V_nb80 := V_nb80.ext E104; have F_value_nb79 := F_value_nb79.ext E104; have F_coder_nb79 := F_coder_nb79.ext E104; have V_nb83 := V_nb83.ext E104; have E_nb84 := E_nb84.ext E104
              have V_nb85 := V_nb85.ext E104; have F_value_nb84 := F_value_nb84.ext E104; have F_coder_nb84 := F_coder_nb84.ext E104; have V_nb88 := V_nb88.ext E104; have O := O.ext E104; have K := K.ext E104
              have hk := Nat.le_trans hk E104.1; have CR := CR.trans (CHr.ext E104 CR.1)
              have F_schema_nb104 : Fld Z h104 nb104 "com/example/tombstone/tombstone/config/TableName" "schema" "Ljava/lang/String;" .null := D104 (Or.inr (ow56 hw)) (ty := (.object "java/lang/String")) (by decide)
              have F_name_nb104 : Fld Z h104 nb104 "com/example/tombstone/tombstone/config/TableName" "name" "Ljava/lang/String;" .null := D104 (Or.inr (ow58 hw)) (ty := (.object "java/lang/String")) (by decide)
              refine og_dup (pc' := 198) X104 hx rfl (hb hby at_197) rfl ?_
              refine og_aload (pc' := 200) X104 hx rfl rfl (hb hby at_198) rfl ?_
              refine og_aload (pc' := 202) X104 hx rfl rfl (hb hby at_200) rfl ?_
              refine og_specialW (pc' := 205) (cells' := 11) (slots' := 66) (W := 1) X104 hx hZ (rm_tn l Z a0 hw nb104 nb79 nb84 nb83 nb88 k83 k88 (2 : Int32) (2 : Int32) _ _ (by decide) (by decide) h104 n0 O hEL E_nb104 F_schema_nb104 F_name_nb104 E_nb79 F_value_nb79 F_coder_nb79 V_nb83 E_nb84 F_value_nb84 F_coder_nb84 V_nb88 g_nb104 ne_nb79_nb104 ne_nb84_nb104 ne_nb83_nb104 ne_nb88_nb104) hEL hS hk CR.1 all0 rfl hown (ow33 hw) (ow34 hw) (ow32 hw) (ow35 hw) (by decide) (by rw [hml]; rfl) e104 opd_18 [(.ref nb79), (.ref nb84)] [(.ref nb104)] rfl rfl rfl rfl (by decide) (by decide) rfl rfl (by decide) (by decide) (hb hby at_202) rfl (fun v105 T105 h105 L105 kk105 X105 e105 hS hk hZ hown cr105 z105 => ?_)
              obtain ⟨rfl, Nq105, K105, F_schema_nb104', F_name_nb104'⟩ := z105; have N := Fr.app N Nq105
              have E_nb79 := E_nb79.keep K105; have V_nb80 := V_nb80.keep K105 (ninS ne_nb80_nb104 nin0); have F_value_nb79 := F_value_nb79.keep K105 (ninS ne_nb79_nb104 nin0); have F_coder_nb79 := F_coder_nb79.keep K105 (ninS ne_nb79_nb104 nin0); have V_nb83 := V_nb83.keep K105 (ninS ne_nb83_nb104 nin0); have E_nb84 := E_nb84.keep K105
              have V_nb85 := V_nb85.keep K105 (ninS ne_nb85_nb104 nin0); have F_value_nb84 := F_value_nb84.keep K105 (ninS ne_nb84_nb104 nin0); have F_coder_nb84 := F_coder_nb84.keep K105 (ninS ne_nb84_nb104 nin0); have V_nb88 := V_nb88.keep K105 (ninS ne_nb88_nb104 nin0); have E_nb104 := E_nb104.keep K105; have O := O.keep K105 (allS g_nb104 all0)
              have K := K.trans K105 (allS (Or.inr sz_nb104) all0); have CR := CR.trans cr105
              have F_schema_nb104 := F_schema_nb104'; have F_name_nb104 := F_name_nb104'
              show OG p e below _ (T105.setTop (mkF m 205 #[.val (.int p1), .val (.int p2), .val (.int c0), .val (.int c1), .val (.int (1 : Int32)), .val (.int c2), .val (.int c3), .val (.int (1 : Int32)), .val (.ref nb79), .val (.ref nb84), .val (.int (0 : Int32)), .val (.int (1 : Int32)), .val (.int (0 : Int32)), .unset] [(.ref nb104)]))
              refine og_astore (pc' := 207) (L' := #[.val (.int p1), .val (.int p2), .val (.int c0), .val (.int c1), .val (.int (1 : Int32)), .val (.int c2), .val (.int c3), .val (.int (1 : Int32)), .val (.ref nb79), .val (.ref nb84), .val (.int (0 : Int32)), .val (.int (1 : Int32)), .val (.int (0 : Int32)), .val (.ref nb104)]) X105 hx rfl rfl (hb hby at_205) rfl ?_
              refine og_aload (pc' := 209) X105 hx rfl rfl (hb hby at_207) rfl ?_
              refine og_virtual (pc' := 212) (cells' := 11) (slots' := 66) (W := 0) X105 hx hZ (rm_w22 l Z a0 hw nb104 nb79 nb84 nb83 nb88 k83 k88 c0 c1 c2 c3 hc0 hc1 hc2 hc3 cs hcs 0 (by simp [hc130, hc141, hc155, hc167]) h105 n0 O F_schema_nb104 F_name_nb104 E_nb79 F_value_nb79 F_coder_nb79 V_nb83 E_nb84 F_value_nb84 F_coder_nb84 V_nb88 S_CS) hown (ow59 hw) (ow60 hw) (own_nf hZ (ow62 hw)) (ow62 hw) (ow61 hw) (ow32 hw) (ow63 hw) (by decide) (by rw [hml]; rfl) e105 opd_11 [] [] rfl rfl rfl rfl (by decide) (by decide) rfl rfl (by decide) (by decide) E_nb104 (hb hby at_209) rfl (fun v106 T106 h106 L106 X106 e106 z106 => ?_)
              obtain ⟨rfl, Nq106, hq106⟩ := z106; replace e106 := e106.trans hq106; have N := Fr.app N Nq106
              show OG p e below _ (T106.setTop (mkF m 212 #[.val (.int p1), .val (.int p2), .val (.int c0), .val (.int c1), .val (.int (1 : Int32)), .val (.int c2), .val (.int c3), .val (.int (1 : Int32)), .val (.ref nb79), .val (.ref nb84), .val (.int (0 : Int32)), .val (.int (1 : Int32)), .val (.int (0 : Int32)), .val (.ref nb104)] [(.int (0 : Int32))]))
              refine og_iload (pc' := 214) X106 hx rfl (hb hby at_212) rfl ?_
              refine og_icmp_ne (pc1 := 221) (pc2 := 217) X106 hx (hb hby at_214) (by decide) (by decide) rfl (fun q => absurd q (by decide)) (fun _ => ?_)
              refine og_iconst (pc' := 218) (v := (1 : Int32)) X106 hx rfl (hb hby at_217) rfl ?_
              refine og_goto (pc' := 222) X106 hx (hb hby at_218) (by decide) (by decide) ?_
              refine og_retNW X106 hx hZ hlk hEL hS e106 es hk CR hret (by simp) (hb hby at_222) (by decide) (by decide) ?_
              exact ⟨rfl, N⟩
        · -- pc 144
          refine og_iconst (pc' := 145) (v := (1 : Int32)) X88 hx rfl (hb hby at_144) rfl ?_
          refine og_goto (pc' := 149) X88 hx (hb hby at_145) (by decide) (by decide) ?_
          refine og_istore (pc' := 151) (L' := #[.val (.int p1), .val (.int p2), .val (.int c0), .val (.int c1), .val (.int (1 : Int32)), .val (.int c2), .val (.int c3), .val (.int (1 : Int32)), .val (.ref nb79), .val (.ref nb84), .val (.int (1 : Int32)), .unset, .unset, .unset]) X88 hx rfl (hb hby at_149) rfl ?_
          refine og_iload (pc' := 153) X88 hx rfl (hb hby at_151) rfl ?_
          refine og_bipush (pc' := 155) (v := (46 : Int32)) X88 hx rfl (hb hby at_153) rfl ?_
          refine og_icmp_eq (pc1 := 170) (pc2 := 158) X88 hx (hb hby at_155) (by decide) (by decide) rfl (fun hc155 => ?_) (fun hc155 => ?_)
          · -- pc 170
            refine og_iconst (pc' := 171) (v := (1 : Int32)) X88 hx rfl (hb hby at_170) rfl ?_
            refine og_goto (pc' := 175) X88 hx (hb hby at_171) (by decide) (by decide) ?_
            refine og_istore (pc' := 177) (L' := #[.val (.int p1), .val (.int p2), .val (.int c0), .val (.int c1), .val (.int (1 : Int32)), .val (.int c2), .val (.int c3), .val (.int (1 : Int32)), .val (.ref nb79), .val (.ref nb84), .val (.int (1 : Int32)), .val (.int (1 : Int32)), .unset, .unset]) X88 hx rfl (hb hby at_175) rfl ?_
            refine og_iload (pc' := 179) X88 hx rfl (hb hby at_177) rfl ?_
            refine og_if_ne (pc1 := 191) (pc2 := 182) X88 hx (hb hby at_179) (by decide) (by decide) rfl (fun _ => ?_) (fun q => absurd q (by decide))
            refine og_iconst (pc' := 192) (v := (0 : Int32)) X88 hx rfl (hb hby at_191) rfl ?_
            refine og_istore (pc' := 194) (L' := #[.val (.int p1), .val (.int p2), .val (.int c0), .val (.int c1), .val (.int (1 : Int32)), .val (.int c2), .val (.int c3), .val (.int (1 : Int32)), .val (.ref nb79), .val (.ref nb84), .val (.int (1 : Int32)), .val (.int (1 : Int32)), .val (.int (0 : Int32)), .unset]) X88 hx rfl (hb hby at_192) rfl ?_
            refine og_new (pc' := 197) (cells' := 7) (slots' := 18) X88 hx hZ hown (ow30 hw) (ow31 hw) (ow32 hw) e88 (hb hby at_194) rfl rfl rfl (by decide) (by decide) (fun T107 h107 nb107 X107 e107 E107 q107 E_nb107 D107 B107 => ?_)
            have s_nb107 : h88.size ≤ nb107 := Nat.le_of_eq q107.symm; have g_nb107 : n0 ≤ nb107 := Nat.le_trans (own_n0 O) s_nb107; have sz_nb107 : h0.size ≤ nb107 := Nat.le_trans K.1 s_nb107; have ne_nb79_nb107 : nb79 ≠ nb107 := Nat.ne_of_lt (Nat.lt_of_lt_of_le E_nb79.lt s_nb107); have ne_nb80_nb107 : nb80 ≠ nb107 := Nat.ne_of_lt (Nat.lt_of_lt_of_le V_nb80.lt s_nb107); have ne_nb83_nb107 : nb83 ≠ nb107 := Nat.ne_of_lt (Nat.lt_of_lt_of_le V_nb83.lt s_nb107)
            have ne_nb84_nb107 : nb84 ≠ nb107 := Nat.ne_of_lt (Nat.lt_of_lt_of_le E_nb84.lt s_nb107); have ne_nb85_nb107 : nb85 ≠ nb107 := Nat.ne_of_lt (Nat.lt_of_lt_of_le V_nb85.lt s_nb107); have ne_nb88_nb107 : nb88 ≠ nb107 := Nat.ne_of_lt (Nat.lt_of_lt_of_le V_nb88.lt s_nb107)
            have E_nb79 := E_nb79.ext E107; have V_nb80 := V_nb80.ext E107; have F_value_nb79 := F_value_nb79.ext E107; have F_coder_nb79 := F_coder_nb79.ext E107; have V_nb83 := V_nb83.ext E107; have E_nb84 := E_nb84.ext E107
            have V_nb85 := V_nb85.ext E107; have F_value_nb84 := F_value_nb84.ext E107; have F_coder_nb84 := F_coder_nb84.ext E107; have V_nb88 := V_nb88.ext E107; have O := O.ext E107; have K := K.ext E107
            have hk := Nat.le_trans hk E107.1; have CR := CR.trans (CHr.ext E107 CR.1)
            have F_schema_nb107 : Fld Z h107 nb107 "com/example/tombstone/tombstone/config/TableName" "schema" "Ljava/lang/String;" .null := D107 (Or.inr (ow56 hw)) (ty := (.object "java/lang/String")) (by decide)
            have F_name_nb107 : Fld Z h107 nb107 "com/example/tombstone/tombstone/config/TableName" "name" "Ljava/lang/String;" .null := D107 (Or.inr (ow58 hw)) (ty := (.object "java/lang/String")) (by decide)
            refine og_dup (pc' := 198) X107 hx rfl (hb hby at_197) rfl ?_
            refine og_aload (pc' := 200) X107 hx rfl rfl (hb hby at_198) rfl ?_
            refine og_aload (pc' := 202) X107 hx rfl rfl (hb hby at_200) rfl ?_
            refine og_specialW (pc' := 205) (cells' := 11) (slots' := 66) (W := 1) X107 hx hZ (rm_tn l Z a0 hw nb107 nb79 nb84 nb83 nb88 k83 k88 (2 : Int32) (2 : Int32) _ _ (by decide) (by decide) h107 n0 O hEL E_nb107 F_schema_nb107 F_name_nb107 E_nb79 F_value_nb79 F_coder_nb79 V_nb83 E_nb84 F_value_nb84 F_coder_nb84 V_nb88 g_nb107 ne_nb79_nb107 ne_nb84_nb107 ne_nb83_nb107 ne_nb88_nb107) hEL hS hk CR.1 all0 rfl hown (ow33 hw) (ow34 hw) (ow32 hw) (ow35 hw) (by decide) (by rw [hml]; rfl) e107 opd_18 [(.ref nb79), (.ref nb84)] [(.ref nb107)] rfl rfl rfl rfl (by decide) (by decide) rfl rfl (by decide) (by decide) (hb hby at_202) rfl (fun v108 T108 h108 L108 kk108 X108 e108 hS hk hZ hown cr108 z108 => ?_)
            obtain ⟨rfl, Nq108, K108, F_schema_nb107', F_name_nb107'⟩ := z108; have N := Fr.app N Nq108
            have E_nb79 := E_nb79.keep K108; have V_nb80 := V_nb80.keep K108 (ninS ne_nb80_nb107 nin0); have F_value_nb79 := F_value_nb79.keep K108 (ninS ne_nb79_nb107 nin0); have F_coder_nb79 := F_coder_nb79.keep K108 (ninS ne_nb79_nb107 nin0); have V_nb83 := V_nb83.keep K108 (ninS ne_nb83_nb107 nin0); have E_nb84 := E_nb84.keep K108
            have V_nb85 := V_nb85.keep K108 (ninS ne_nb85_nb107 nin0); have F_value_nb84 := F_value_nb84.keep K108 (ninS ne_nb84_nb107 nin0); have F_coder_nb84 := F_coder_nb84.keep K108 (ninS ne_nb84_nb107 nin0); have V_nb88 := V_nb88.keep K108 (ninS ne_nb88_nb107 nin0); have E_nb107 := E_nb107.keep K108; have O := O.keep K108 (allS g_nb107 all0)
            have K := K.trans K108 (allS (Or.inr sz_nb107) all0); have CR := CR.trans cr108
            have F_schema_nb107 := F_schema_nb107'; have F_name_nb107 := F_name_nb107'
            show OG p e below _ (T108.setTop (mkF m 205 #[.val (.int p1), .val (.int p2), .val (.int c0), .val (.int c1), .val (.int (1 : Int32)), .val (.int c2), .val (.int c3), .val (.int (1 : Int32)), .val (.ref nb79), .val (.ref nb84), .val (.int (1 : Int32)), .val (.int (1 : Int32)), .val (.int (0 : Int32)), .unset] [(.ref nb107)]))
            refine og_astore (pc' := 207) (L' := #[.val (.int p1), .val (.int p2), .val (.int c0), .val (.int c1), .val (.int (1 : Int32)), .val (.int c2), .val (.int c3), .val (.int (1 : Int32)), .val (.ref nb79), .val (.ref nb84), .val (.int (1 : Int32)), .val (.int (1 : Int32)), .val (.int (0 : Int32)), .val (.ref nb107)]) X108 hx rfl rfl (hb hby at_205) rfl ?_
            refine og_aload (pc' := 209) X108 hx rfl rfl (hb hby at_207) rfl ?_
            refine og_virtual (pc' := 212) (cells' := 11) (slots' := 66) (W := 0) X108 hx hZ (rm_w22 l Z a0 hw nb107 nb79 nb84 nb83 nb88 k83 k88 c0 c1 c2 c3 hc0 hc1 hc2 hc3 cs hcs 0 (by simp [hc130, hc141, hc155]) h108 n0 O F_schema_nb107 F_name_nb107 E_nb79 F_value_nb79 F_coder_nb79 V_nb83 E_nb84 F_value_nb84 F_coder_nb84 V_nb88 S_CS) hown (ow59 hw) (ow60 hw) (own_nf hZ (ow62 hw)) (ow62 hw) (ow61 hw) (ow32 hw) (ow63 hw) (by decide) (by rw [hml]; rfl) e108 opd_11 [] [] rfl rfl rfl rfl (by decide) (by decide) rfl rfl (by decide) (by decide) E_nb107 (hb hby at_209) rfl (fun v109 T109 h109 L109 X109 e109 z109 => ?_)
            obtain ⟨rfl, Nq109, hq109⟩ := z109; replace e109 := e109.trans hq109; have N := Fr.app N Nq109
            show OG p e below _ (T109.setTop (mkF m 212 #[.val (.int p1), .val (.int p2), .val (.int c0), .val (.int c1), .val (.int (1 : Int32)), .val (.int c2), .val (.int c3), .val (.int (1 : Int32)), .val (.ref nb79), .val (.ref nb84), .val (.int (1 : Int32)), .val (.int (1 : Int32)), .val (.int (0 : Int32)), .val (.ref nb107)] [(.int (0 : Int32))]))
            refine og_iload (pc' := 214) X109 hx rfl (hb hby at_212) rfl ?_
            refine og_icmp_ne (pc1 := 221) (pc2 := 217) X109 hx (hb hby at_214) (by decide) (by decide) rfl (fun q => absurd q (by decide)) (fun _ => ?_)
            refine og_iconst (pc' := 218) (v := (1 : Int32)) X109 hx rfl (hb hby at_217) rfl ?_
            refine og_goto (pc' := 222) X109 hx (hb hby at_218) (by decide) (by decide) ?_
            refine og_retNW X109 hx hZ hlk hEL hS e109 es hk CR hret (by simp) (hb hby at_222) (by decide) (by decide) ?_
            exact ⟨rfl, N⟩
          · -- pc 158
            refine og_iload (pc' := 160) X88 hx rfl (hb hby at_158) rfl ?_
            refine og_if_eq (pc1 := 174) (pc2 := 163) X88 hx (hb hby at_160) (by decide) (by decide) rfl (fun q => absurd q (by decide)) (fun _ => ?_)
            refine og_iload (pc' := 165) X88 hx rfl (hb hby at_163) rfl ?_
            refine og_bipush (pc' := 167) (v := (46 : Int32)) X88 hx rfl (hb hby at_165) rfl ?_
            refine og_icmp_ne (pc1 := 174) (pc2 := 170) X88 hx (hb hby at_167) (by decide) (by decide) rfl (fun hc167 => ?_) (fun hc167 => ?_)
            · -- pc 174
              refine og_iconst (pc' := 175) (v := (0 : Int32)) X88 hx rfl (hb hby at_174) rfl ?_
              refine og_istore (pc' := 177) (L' := #[.val (.int p1), .val (.int p2), .val (.int c0), .val (.int c1), .val (.int (1 : Int32)), .val (.int c2), .val (.int c3), .val (.int (1 : Int32)), .val (.ref nb79), .val (.ref nb84), .val (.int (1 : Int32)), .val (.int (0 : Int32)), .unset, .unset]) X88 hx rfl (hb hby at_175) rfl ?_
              refine og_iload (pc' := 179) X88 hx rfl (hb hby at_177) rfl ?_
              refine og_if_ne (pc1 := 191) (pc2 := 182) X88 hx (hb hby at_179) (by decide) (by decide) rfl (fun _ => ?_) (fun q => absurd q (by decide))
              refine og_iconst (pc' := 192) (v := (0 : Int32)) X88 hx rfl (hb hby at_191) rfl ?_
              refine og_istore (pc' := 194) (L' := #[.val (.int p1), .val (.int p2), .val (.int c0), .val (.int c1), .val (.int (1 : Int32)), .val (.int c2), .val (.int c3), .val (.int (1 : Int32)), .val (.ref nb79), .val (.ref nb84), .val (.int (1 : Int32)), .val (.int (0 : Int32)), .val (.int (0 : Int32)), .unset]) X88 hx rfl (hb hby at_192) rfl ?_
              refine og_new (pc' := 197) (cells' := 7) (slots' := 18) X88 hx hZ hown (ow30 hw) (ow31 hw) (ow32 hw) e88 (hb hby at_194) rfl rfl rfl (by decide) (by decide) (fun T110 h110 nb110 X110 e110 E110 q110 E_nb110 D110 B110 => ?_)
              have s_nb110 : h88.size ≤ nb110 := Nat.le_of_eq q110.symm; have g_nb110 : n0 ≤ nb110 := Nat.le_trans (own_n0 O) s_nb110; have sz_nb110 : h0.size ≤ nb110 := Nat.le_trans K.1 s_nb110; have ne_nb79_nb110 : nb79 ≠ nb110 := Nat.ne_of_lt (Nat.lt_of_lt_of_le E_nb79.lt s_nb110); have ne_nb80_nb110 : nb80 ≠ nb110 := Nat.ne_of_lt (Nat.lt_of_lt_of_le V_nb80.lt s_nb110); have ne_nb83_nb110 : nb83 ≠ nb110 := Nat.ne_of_lt (Nat.lt_of_lt_of_le V_nb83.lt s_nb110)
              have ne_nb84_nb110 : nb84 ≠ nb110 := Nat.ne_of_lt (Nat.lt_of_lt_of_le E_nb84.lt s_nb110); have ne_nb85_nb110 : nb85 ≠ nb110 := Nat.ne_of_lt (Nat.lt_of_lt_of_le V_nb85.lt s_nb110); have ne_nb88_nb110 : nb88 ≠ nb110 := Nat.ne_of_lt (Nat.lt_of_lt_of_le V_nb88.lt s_nb110)
              have E_nb79 := E_nb79.ext E110; have V_nb80 := V_nb80.ext E110; have F_value_nb79 := F_value_nb79.ext E110; have F_coder_nb79 := F_coder_nb79.ext E110; have V_nb83 := V_nb83.ext E110; have E_nb84 := E_nb84.ext E110
              have V_nb85 := V_nb85.ext E110; have F_value_nb84 := F_value_nb84.ext E110; have F_coder_nb84 := F_coder_nb84.ext E110; have V_nb88 := V_nb88.ext E110; have O := O.ext E110; have K := K.ext E110
              have hk := Nat.le_trans hk E110.1; have CR := CR.trans (CHr.ext E110 CR.1)
              have F_schema_nb110 : Fld Z h110 nb110 "com/example/tombstone/tombstone/config/TableName" "schema" "Ljava/lang/String;" .null := D110 (Or.inr (ow56 hw)) (ty := (.object "java/lang/String")) (by decide)
              have F_name_nb110 : Fld Z h110 nb110 "com/example/tombstone/tombstone/config/TableName" "name" "Ljava/lang/String;" .null := D110 (Or.inr (ow58 hw)) (ty := (.object "java/lang/String")) (by decide)
              refine og_dup (pc' := 198) X110 hx rfl (hb hby at_197) rfl ?_
              refine og_aload (pc' := 200) X110 hx rfl rfl (hb hby at_198) rfl ?_
              refine og_aload (pc' := 202) X110 hx rfl rfl (hb hby at_200) rfl ?_
              refine og_specialW (pc' := 205) (cells' := 11) (slots' := 66) (W := 1) X110 hx hZ (rm_tn l Z a0 hw nb110 nb79 nb84 nb83 nb88 k83 k88 (2 : Int32) (2 : Int32) _ _ (by decide) (by decide) h110 n0 O hEL E_nb110 F_schema_nb110 F_name_nb110 E_nb79 F_value_nb79 F_coder_nb79 V_nb83 E_nb84 F_value_nb84 F_coder_nb84 V_nb88 g_nb110 ne_nb79_nb110 ne_nb84_nb110 ne_nb83_nb110 ne_nb88_nb110) hEL hS hk CR.1 all0 rfl hown (ow33 hw) (ow34 hw) (ow32 hw) (ow35 hw) (by decide) (by rw [hml]; rfl) e110 opd_18 [(.ref nb79), (.ref nb84)] [(.ref nb110)] rfl rfl rfl rfl (by decide) (by decide) rfl rfl (by decide) (by decide) (hb hby at_202) rfl (fun v111 T111 h111 L111 kk111 X111 e111 hS hk hZ hown cr111 z111 => ?_)
              obtain ⟨rfl, Nq111, K111, F_schema_nb110', F_name_nb110'⟩ := z111; have N := Fr.app N Nq111
              have E_nb79 := E_nb79.keep K111; have V_nb80 := V_nb80.keep K111 (ninS ne_nb80_nb110 nin0); have F_value_nb79 := F_value_nb79.keep K111 (ninS ne_nb79_nb110 nin0); have F_coder_nb79 := F_coder_nb79.keep K111 (ninS ne_nb79_nb110 nin0); have V_nb83 := V_nb83.keep K111 (ninS ne_nb83_nb110 nin0); have E_nb84 := E_nb84.keep K111
              have V_nb85 := V_nb85.keep K111 (ninS ne_nb85_nb110 nin0); have F_value_nb84 := F_value_nb84.keep K111 (ninS ne_nb84_nb110 nin0); have F_coder_nb84 := F_coder_nb84.keep K111 (ninS ne_nb84_nb110 nin0); have V_nb88 := V_nb88.keep K111 (ninS ne_nb88_nb110 nin0); have E_nb110 := E_nb110.keep K111; have O := O.keep K111 (allS g_nb110 all0)
              have K := K.trans K111 (allS (Or.inr sz_nb110) all0); have CR := CR.trans cr111
              have F_schema_nb110 := F_schema_nb110'; have F_name_nb110 := F_name_nb110'
              show OG p e below _ (T111.setTop (mkF m 205 #[.val (.int p1), .val (.int p2), .val (.int c0), .val (.int c1), .val (.int (1 : Int32)), .val (.int c2), .val (.int c3), .val (.int (1 : Int32)), .val (.ref nb79), .val (.ref nb84), .val (.int (1 : Int32)), .val (.int (0 : Int32)), .val (.int (0 : Int32)), .unset] [(.ref nb110)]))
              refine og_astore (pc' := 207) (L' := #[.val (.int p1), .val (.int p2), .val (.int c0), .val (.int c1), .val (.int (1 : Int32)), .val (.int c2), .val (.int c3), .val (.int (1 : Int32)), .val (.ref nb79), .val (.ref nb84), .val (.int (1 : Int32)), .val (.int (0 : Int32)), .val (.int (0 : Int32)), .val (.ref nb110)]) X111 hx rfl rfl (hb hby at_205) rfl ?_
              refine og_aload (pc' := 209) X111 hx rfl rfl (hb hby at_207) rfl ?_
              refine og_virtual (pc' := 212) (cells' := 11) (slots' := 66) (W := 0) X111 hx hZ (rm_w22 l Z a0 hw nb110 nb79 nb84 nb83 nb88 k83 k88 c0 c1 c2 c3 hc0 hc1 hc2 hc3 cs hcs 0 (by simp [hc130, hc141, hc155, hc167]) h111 n0 O F_schema_nb110 F_name_nb110 E_nb79 F_value_nb79 F_coder_nb79 V_nb83 E_nb84 F_value_nb84 F_coder_nb84 V_nb88 S_CS) hown (ow59 hw) (ow60 hw) (own_nf hZ (ow62 hw)) (ow62 hw) (ow61 hw) (ow32 hw) (ow63 hw) (by decide) (by rw [hml]; rfl) e111 opd_11 [] [] rfl rfl rfl rfl (by decide) (by decide) rfl rfl (by decide) (by decide) E_nb110 (hb hby at_209) rfl (fun v112 T112 h112 L112 X112 e112 z112 => ?_)
              obtain ⟨rfl, Nq112, hq112⟩ := z112; replace e112 := e112.trans hq112; have N := Fr.app N Nq112
              show OG p e below _ (T112.setTop (mkF m 212 #[.val (.int p1), .val (.int p2), .val (.int c0), .val (.int c1), .val (.int (1 : Int32)), .val (.int c2), .val (.int c3), .val (.int (1 : Int32)), .val (.ref nb79), .val (.ref nb84), .val (.int (1 : Int32)), .val (.int (0 : Int32)), .val (.int (0 : Int32)), .val (.ref nb110)] [(.int (0 : Int32))]))
              refine og_iload (pc' := 214) X112 hx rfl (hb hby at_212) rfl ?_
              refine og_icmp_ne (pc1 := 221) (pc2 := 217) X112 hx (hb hby at_214) (by decide) (by decide) rfl (fun q => absurd q (by decide)) (fun _ => ?_)
              refine og_iconst (pc' := 218) (v := (1 : Int32)) X112 hx rfl (hb hby at_217) rfl ?_
              refine og_goto (pc' := 222) X112 hx (hb hby at_218) (by decide) (by decide) ?_
              refine og_retNW X112 hx hZ hlk hEL hS e112 es hk CR hret (by simp) (hb hby at_222) (by decide) (by decide) ?_
              exact ⟨rfl, N⟩
            · -- pc 170
              refine og_iconst (pc' := 171) (v := (1 : Int32)) X88 hx rfl (hb hby at_170) rfl ?_
              refine og_goto (pc' := 175) X88 hx (hb hby at_171) (by decide) (by decide) ?_
              refine og_istore (pc' := 177) (L' := #[.val (.int p1), .val (.int p2), .val (.int c0), .val (.int c1), .val (.int (1 : Int32)), .val (.int c2), .val (.int c3), .val (.int (1 : Int32)), .val (.ref nb79), .val (.ref nb84), .val (.int (1 : Int32)), .val (.int (1 : Int32)), .unset, .unset]) X88 hx rfl (hb hby at_175) rfl ?_
              refine og_iload (pc' := 179) X88 hx rfl (hb hby at_177) rfl ?_
              refine og_if_ne (pc1 := 191) (pc2 := 182) X88 hx (hb hby at_179) (by decide) (by decide) rfl (fun _ => ?_) (fun q => absurd q (by decide))
              refine og_iconst (pc' := 192) (v := (0 : Int32)) X88 hx rfl (hb hby at_191) rfl ?_
              refine og_istore (pc' := 194) (L' := #[.val (.int p1), .val (.int p2), .val (.int c0), .val (.int c1), .val (.int (1 : Int32)), .val (.int c2), .val (.int c3), .val (.int (1 : Int32)), .val (.ref nb79), .val (.ref nb84), .val (.int (1 : Int32)), .val (.int (1 : Int32)), .val (.int (0 : Int32)), .unset]) X88 hx rfl (hb hby at_192) rfl ?_
              refine og_new (pc' := 197) (cells' := 7) (slots' := 18) X88 hx hZ hown (ow30 hw) (ow31 hw) (ow32 hw) e88 (hb hby at_194) rfl rfl rfl (by decide) (by decide) (fun T113 h113 nb113 X113 e113 E113 q113 E_nb113 D113 B113 => ?_)
              have s_nb113 : h88.size ≤ nb113 := Nat.le_of_eq q113.symm; have g_nb113 : n0 ≤ nb113 := Nat.le_trans (own_n0 O) s_nb113; have sz_nb113 : h0.size ≤ nb113 := Nat.le_trans K.1 s_nb113; have ne_nb79_nb113 : nb79 ≠ nb113 := Nat.ne_of_lt (Nat.lt_of_lt_of_le E_nb79.lt s_nb113); have ne_nb80_nb113 : nb80 ≠ nb113 := Nat.ne_of_lt (Nat.lt_of_lt_of_le V_nb80.lt s_nb113); have ne_nb83_nb113 : nb83 ≠ nb113 := Nat.ne_of_lt (Nat.lt_of_lt_of_le V_nb83.lt s_nb113)
              have ne_nb84_nb113 : nb84 ≠ nb113 := Nat.ne_of_lt (Nat.lt_of_lt_of_le E_nb84.lt s_nb113); have ne_nb85_nb113 : nb85 ≠ nb113 := Nat.ne_of_lt (Nat.lt_of_lt_of_le V_nb85.lt s_nb113); have ne_nb88_nb113 : nb88 ≠ nb113 := Nat.ne_of_lt (Nat.lt_of_lt_of_le V_nb88.lt s_nb113)
              have E_nb79 := E_nb79.ext E113; have V_nb80 := V_nb80.ext E113; have F_value_nb79 := F_value_nb79.ext E113; have F_coder_nb79 := F_coder_nb79.ext E113; have V_nb83 := V_nb83.ext E113; have E_nb84 := E_nb84.ext E113
              have V_nb85 := V_nb85.ext E113; have F_value_nb84 := F_value_nb84.ext E113; have F_coder_nb84 := F_coder_nb84.ext E113; have V_nb88 := V_nb88.ext E113; have O := O.ext E113; have K := K.ext E113
              have hk := Nat.le_trans hk E113.1; have CR := CR.trans (CHr.ext E113 CR.1)
              have F_schema_nb113 : Fld Z h113 nb113 "com/example/tombstone/tombstone/config/TableName" "schema" "Ljava/lang/String;" .null := D113 (Or.inr (ow56 hw)) (ty := (.object "java/lang/String")) (by decide)
              have F_name_nb113 : Fld Z h113 nb113 "com/example/tombstone/tombstone/config/TableName" "name" "Ljava/lang/String;" .null := D113 (Or.inr (ow58 hw)) (ty := (.object "java/lang/String")) (by decide)
              refine og_dup (pc' := 198) X113 hx rfl (hb hby at_197) rfl ?_
              refine og_aload (pc' := 200) X113 hx rfl rfl (hb hby at_198) rfl ?_
              refine og_aload (pc' := 202) X113 hx rfl rfl (hb hby at_200) rfl ?_
              refine og_specialW (pc' := 205) (cells' := 11) (slots' := 66) (W := 1) X113 hx hZ (rm_tn l Z a0 hw nb113 nb79 nb84 nb83 nb88 k83 k88 (2 : Int32) (2 : Int32) _ _ (by decide) (by decide) h113 n0 O hEL E_nb113 F_schema_nb113 F_name_nb113 E_nb79 F_value_nb79 F_coder_nb79 V_nb83 E_nb84 F_value_nb84 F_coder_nb84 V_nb88 g_nb113 ne_nb79_nb113 ne_nb84_nb113 ne_nb83_nb113 ne_nb88_nb113) hEL hS hk CR.1 all0 rfl hown (ow33 hw) (ow34 hw) (ow32 hw) (ow35 hw) (by decide) (by rw [hml]; rfl) e113 opd_18 [(.ref nb79), (.ref nb84)] [(.ref nb113)] rfl rfl rfl rfl (by decide) (by decide) rfl rfl (by decide) (by decide) (hb hby at_202) rfl (fun v114 T114 h114 L114 kk114 X114 e114 hS hk hZ hown cr114 z114 => ?_)
              obtain ⟨rfl, Nq114, K114, F_schema_nb113', F_name_nb113'⟩ := z114; have N := Fr.app N Nq114
              have E_nb79 := E_nb79.keep K114; have V_nb80 := V_nb80.keep K114 (ninS ne_nb80_nb113 nin0); have F_value_nb79 := F_value_nb79.keep K114 (ninS ne_nb79_nb113 nin0); have F_coder_nb79 := F_coder_nb79.keep K114 (ninS ne_nb79_nb113 nin0); have V_nb83 := V_nb83.keep K114 (ninS ne_nb83_nb113 nin0); have E_nb84 := E_nb84.keep K114
              have V_nb85 := V_nb85.keep K114 (ninS ne_nb85_nb113 nin0); have F_value_nb84 := F_value_nb84.keep K114 (ninS ne_nb84_nb113 nin0); have F_coder_nb84 := F_coder_nb84.keep K114 (ninS ne_nb84_nb113 nin0); have V_nb88 := V_nb88.keep K114 (ninS ne_nb88_nb113 nin0); have E_nb113 := E_nb113.keep K114; have O := O.keep K114 (allS g_nb113 all0)
              have K := K.trans K114 (allS (Or.inr sz_nb113) all0); have CR := CR.trans cr114
              have F_schema_nb113 := F_schema_nb113'; have F_name_nb113 := F_name_nb113'
              show OG p e below _ (T114.setTop (mkF m 205 #[.val (.int p1), .val (.int p2), .val (.int c0), .val (.int c1), .val (.int (1 : Int32)), .val (.int c2), .val (.int c3), .val (.int (1 : Int32)), .val (.ref nb79), .val (.ref nb84), .val (.int (1 : Int32)), .val (.int (1 : Int32)), .val (.int (0 : Int32)), .unset] [(.ref nb113)]))
              refine og_astore (pc' := 207) (L' := #[.val (.int p1), .val (.int p2), .val (.int c0), .val (.int c1), .val (.int (1 : Int32)), .val (.int c2), .val (.int c3), .val (.int (1 : Int32)), .val (.ref nb79), .val (.ref nb84), .val (.int (1 : Int32)), .val (.int (1 : Int32)), .val (.int (0 : Int32)), .val (.ref nb113)]) X114 hx rfl rfl (hb hby at_205) rfl ?_
              refine og_aload (pc' := 209) X114 hx rfl rfl (hb hby at_207) rfl ?_
              refine og_virtual (pc' := 212) (cells' := 11) (slots' := 66) (W := 0) X114 hx hZ (rm_w22 l Z a0 hw nb113 nb79 nb84 nb83 nb88 k83 k88 c0 c1 c2 c3 hc0 hc1 hc2 hc3 cs hcs 0 (by simp [hc130, hc141, hc155, hc167]) h114 n0 O F_schema_nb113 F_name_nb113 E_nb79 F_value_nb79 F_coder_nb79 V_nb83 E_nb84 F_value_nb84 F_coder_nb84 V_nb88 S_CS) hown (ow59 hw) (ow60 hw) (own_nf hZ (ow62 hw)) (ow62 hw) (ow61 hw) (ow32 hw) (ow63 hw) (by decide) (by rw [hml]; rfl) e114 opd_11 [] [] rfl rfl rfl rfl (by decide) (by decide) rfl rfl (by decide) (by decide) E_nb113 (hb hby at_209) rfl (fun v115 T115 h115 L115 X115 e115 z115 => ?_)
              obtain ⟨rfl, Nq115, hq115⟩ := z115; replace e115 := e115.trans hq115; have N := Fr.app N Nq115
              show OG p e below _ (T115.setTop (mkF m 212 #[.val (.int p1), .val (.int p2), .val (.int c0), .val (.int c1), .val (.int (1 : Int32)), .val (.int c2), .val (.int c3), .val (.int (1 : Int32)), .val (.ref nb79), .val (.ref nb84), .val (.int (1 : Int32)), .val (.int (1 : Int32)), .val (.int (0 : Int32)), .val (.ref nb113)] [(.int (0 : Int32))]))
              refine og_iload (pc' := 214) X115 hx rfl (hb hby at_212) rfl ?_
              refine og_icmp_ne (pc1 := 221) (pc2 := 217) X115 hx (hb hby at_214) (by decide) (by decide) rfl (fun q => absurd q (by decide)) (fun _ => ?_)
              refine og_iconst (pc' := 218) (v := (1 : Int32)) X115 hx rfl (hb hby at_217) rfl ?_
              refine og_goto (pc' := 222) X115 hx (hb hby at_218) (by decide) (by decide) ?_
              refine og_retNW X115 hx hZ hlk hEL hS e115 es hk CR hret (by simp) (hb hby at_222) (by decide) (by decide) ?_
              exact ⟨rfl, N⟩
theorem comes_1 {Post : Tables → Env → Array Value → State → Outcome → State → Prop} (hpost : ∀ tb e args s v u, (limb_1_1.after args s (.returned v) u = true ∧ limb_1_2.after args s (.returned v) u = true ∧ True) → ReturnedEndW s (.returned v) u (Jvm.fieldLocs frame_1_writes args s ++ Jvm.arrayLocs frame_1_arrays args s ++ Jvm.staticLocs frame_1_statics s) 32 2176 → Post tb e args s (.returned v) u) :
    ArmFor flags0 classFile x code maxLocals ret World_1 tables_1 room_1 Calls_1 rest_1 Pre_1 Post := by
  intro l hfl _ _ p e ha hc hk s m args below hf hA hF happ hP
  obtain ⟨hcalls, hrest, hpre⟩ := hP
  obtain ⟨-, -, -, hnamed, -, -, -, hat⟩ := (Spec.applies_iff hf).mp happ
  obtain ⟨hg, hn⟩ := and_e (Cond.before_iff.mp (show (Jvm.Cond.and given_1 narrow_1).before args s = true from hpre))
  obtain ⟨g2, g3⟩ := and_e hg
  obtain ⟨g4, g5⟩ := and_e g3
  obtain ⟨w0, w1, rfl⟩ : ∃ w0 w1 : Value, args = #[w0, w1] := by
    have hs : args.size = 2 := by simpa [Cond.value, given_1] using g2
    obtain ⟨L⟩ := args
    match L, hs with
    | [w0, w1], _ => exact ⟨w0, w1, rfl⟩
  have hw := fun d (hd : d ∈ tables_1) => atoms_spec (ws := Jvm.Cond.code x code maxLocals ret :: tables_1) hat d (List.mem_cons_of_mem _ hd)
  have hfit : Fit s := fun {y c} hc i hi => by
    obtain ⟨ha, rfl⟩ := Array.getElem?_eq_some_iff.mp hc
    have q := List.all_eq_true.mp ((Array.all_eq_true_iff_forall_mem.mp hF) _ (Array.getElem_mem ha)) i (List.mem_range.mpr hi)
    simpa [Array.getElem?_eq_getElem hi] using q
  obtain ⟨hsets, hown0⟩ := atoms_of _ (rest_1_c_eq ▸ (show rest_1_c.before _ s = true from hrest))
  obtain ⟨i0, ei0⟩ := is_v g4
  obtain rfl : w0 = (.int i0) := Option.some.inj ei0
  obtain ⟨i1, ei1⟩ := is_v g5
  obtain rfl : w1 = (.int i1) := Option.some.inj ei1
  obtain ⟨cs, ecs⟩ := is_v (Cond.before_iff.mp (hsets _ (List.mem_of_getElem? (i := 1) rfl)))
  have S_CS := Sta.start ecs (Or.inl (hsets _ (List.mem_of_getElem? (i := 0) rfl)))
  have hcs : ¬ cs = 0 := own_ne0 ecs (Cond.before_iff.mp (hsets _ (List.mem_of_getElem? (i := 2) rfl)))
  obtain ⟨n, o, h1, h2, h3, _, L, rfl, ⟨rfl, N⟩, -, hq⟩ := rm0 l s _ hw tables_1 i0 i1 cs hcs s.heap s.heap.size (Old.start s) (own_hEL hw) S_CS p e ha hc hk s m _ below hf ((Spec.applies_iff_loose hf).mp happ).1 ⟨rfl, State.Warmed39.refl s, rfl, (fun _ q => nomatch q), all0⟩ trivial
  refine ⟨n, _, h1, h2, h3, hpost _ _ _ _ _ _ ⟨Cond.after_iff.mpr rfl, Cond.after_iff.mpr (eq_i res_at (Term.int_eval (1)) rfl), trivial⟩ ⟨hq.1, hq.2.1, hq.2.2.1, (hq.2.2.2.sift fun y hy => Or.inr (N y hy)).mono (by decide) (by decide)⟩⟩
theorem main_1_1 : Claimed_1_1 := comes_1 fun _ _ _ _ _ _ h hF => ⟨h.1, hF⟩
theorem main_1_2 : Claimed_1_2 := comes_1 fun _ _ _ _ _ _ h hF => ⟨h.2.1, hF⟩
end Jvm.Pilot.@@N@@
namespace Jvm.Pilot.@@N@@
open Jvm Jvm.ClassFile Sem Op Lib Jvm.Free Jvm.Stand Jvm.Pilot.@@N@@.Jvm.D
/-! MADE BY PROGRAM (witnessworld.py) out of the Statement's table words and the real class files: 23 classes; the members and pool entries that the words name. The judged class is class 1, her method 2. -/
namespace start1
open Jvm.ClassFile
def u (s : String) : CpInfo := .utf8 (stringToUtf16 s)
/-- a pool by its gaps: so many unusable entries, then the entry; so many at the end -/
def gap : Nat → List CpInfo → List CpInfo
  | 0, r => r
  | n + 1, r => .unusable :: gap n r
def poolList (es : List (Nat × CpInfo)) (last : Nat) : List CpInfo := es.foldr (fun e r => gap e.1 (e.2 :: r)) (gap last [])
def pool (es : List (Nat × CpInfo)) (last : Nat) : Array CpInfo := ⟨poolList es last⟩
def fileOf (pool : Array CpInfo) (this : Nat) (attrs : Array Attribute := #[]) (ms : Array MethodInfo := #[]) (fl : Nat := 33) (sup : Nat := 0) (ifs : Array Nat := #[]) (fds : Array FieldInfo := #[]) : ClassFile where
  minorVersion := 0
  majorVersion := 65
  constantPool := pool
  accessFlags := fl
  thisClass := this
  superClass := sup
  interfaces := ifs
  fields := fds
  methods := ms
  attributes := attrs
def plain (name : String) (sup : Option ClassId) : Class where
  name := name
  kind := .ordinary
  loader := none
  accessFlags := 33
  super := sup
  interfaces := #[]
  cf := none
  fields := #[]
  methods := #[]
  instanceTypes := #[]
  staticTypes := #[]
  resolved := #[]
  callSites := []
  init := .initialized
  statics := none
  mirror := none

def pool0 : Array CpInfo := pool [(5, u "<init>"), (0, u "()V"), (1, .class_ 10), (1, u "java/lang/Object")] 113

def k0c0 : Code := { maxStack := 0, maxLocals := 1, code := object_method_1_code, exceptionTable := #[], attributes := #[] }
def k0m0 : Method := { name := "<init>", desc := "()V", sig := { parameters := [], returnType := none }, accessFlags := 1, code := some k0c0 }
/-- java/lang/Object -/
def k0 : Class := { plain "java/lang/Object" none with
  accessFlags := 33
  interfaces := #[]
  cf := some (fileOf pool0 8 #[] #[{ accessFlags := 1, nameIndex := 5, descriptorIndex := 6, attributes := #[] }] 33 0 #[] #[])
  fields := #[]
  methods := #[k0m0]
  instanceTypes := #[]
  staticTypes := #[]
  resolved := Array.replicate 124 none
  statics := none }

def pool1 : Array CpInfo := pool [(2, .class_ 4), (1, u "java/lang/Object"), (0, u "<init>"), (0, u "()V"), (0, .methodref 8 9), (0, .class_ 10), (0, .nameAndType 11 12), (0, u "com/example/tombstone/tombstone/config/TableNameWritablePinLaw"), (0, u "ch"), (0, u "(I)C"), (0, .class_ 14), (0, u "java/lang/String"), (0, .methodref 13 16), (0, .nameAndType 5 17), (0, u "([C)V"), (0, .methodref 13 19), (0, .nameAndType 20 21), (0, u "valueOf"), (0, u "(C)Ljava/lang/String;"), (0, .class_ 23), (0, u "com/example/tombstone/tombstone/config/TableName"), (0, .methodref 22 25), (0, .nameAndType 5 26), (0, u "(Ljava/lang/String;Ljava/lang/String;)V"), (0, .methodref 22 28), (0, .nameAndType 29 30), (0, u "writable"), (0, u "()Z"), (3, u "law"), (0, u "(II)Z")] 2

def k1m0 : Method := { name := "<init>", desc := "()V", sig := { parameters := [], returnType := none }, accessFlags := 1, code := none }
def k1c1 : Code := { maxStack := 2, maxLocals := 1, code := method_2_code, exceptionTable := #[], attributes := #[] }
def k1m1 : Method := { name := "ch", desc := "(I)C", sig := { parameters := [.int], returnType := some .char }, accessFlags := 10, code := some k1c1 }
def k1c2 : Code := { maxStack := 6, maxLocals := 14, code := code, exceptionTable := #[], attributes := #[] }
def k1m2 : Method := { name := "law", desc := "(II)Z", sig := { parameters := [.int, .int], returnType := some .boolean }, accessFlags := 9, code := some k1c2 }
/-- com/example/tombstone/tombstone/config/TableNameWritablePinLaw -/
def k1 : Class := { plain "com/example/tombstone/tombstone/config/TableNameWritablePinLaw" (some 0) with
  accessFlags := 49
  interfaces := #[]
  cf := some (fileOf pool1 8 #[] #[{ accessFlags := 1, nameIndex := 5, descriptorIndex := 6, attributes := #[] }, { accessFlags := 10, nameIndex := 11, descriptorIndex := 12, attributes := #[] }, { accessFlags := 9, nameIndex := 34, descriptorIndex := 35, attributes := #[] }] 49 2 #[] #[])
  fields := #[]
  methods := #[k1m0, k1m1, k1m2]
  instanceTypes := #[]
  staticTypes := #[]
  resolved := Array.replicate 38 none
  statics := none }

def pool2 : Array CpInfo := pool [(1, .class_ 2), (0, u "java/io/Serializable"), (0, .class_ 4), (0, u "java/lang/Object")] 2

/-- java/io/Serializable -/
def k2 : Class := { plain "java/io/Serializable" (some 0) with
  accessFlags := 1537
  interfaces := #[]
  cf := some (fileOf pool2 1 #[] #[] 1537 3 #[] #[])
  fields := #[]
  methods := #[]
  instanceTypes := #[]
  staticTypes := #[]
  resolved := Array.replicate 7 none
  statics := none }

def pool3 : Array CpInfo := pool [(1, .class_ 2), (0, u "java/lang/Comparable"), (0, .class_ 4), (0, u "java/lang/Object")] 7

/-- java/lang/Comparable -/
def k3 : Class := { plain "java/lang/Comparable" (some 0) with
  accessFlags := 1537
  interfaces := #[]
  cf := some (fileOf pool3 1 #[] #[] 1537 3 #[] #[])
  fields := #[]
  methods := #[]
  instanceTypes := #[]
  staticTypes := #[]
  resolved := Array.replicate 12 none
  statics := none }

def pool4 : Array CpInfo := pool [(2, .class_ 4), (1, u "java/lang/CharSequence"), (42, .class_ 48), (0, u "java/lang/CharSequence$1CodePointIterator"), (10, .class_ 60), (0, u "java/lang/CharSequence$1CharIterator"), (5, .class_ 67), (0, u "java/lang/Object")] 63

/-- java/lang/CharSequence -/
def k4 : Class := { plain "java/lang/CharSequence" (some 0) with
  accessFlags := 1537
  interfaces := #[]
  cf := some (fileOf pool4 2 #[.nestMembers #[47, 59]] #[] 1537 66 #[] #[])
  fields := #[]
  methods := #[]
  instanceTypes := #[]
  staticTypes := #[]
  resolved := Array.replicate 131 none
  statics := none }

def pool5 : Array CpInfo := pool [(1, .class_ 2), (0, u "java/lang/constant/Constable"), (0, .class_ 4), (0, u "java/lang/Object")] 6

/-- java/lang/constant/Constable -/
def k5 : Class := { plain "java/lang/constant/Constable" (some 0) with
  accessFlags := 1537
  interfaces := #[]
  cf := some (fileOf pool5 1 #[] #[] 1537 3 #[] #[])
  fields := #[]
  methods := #[]
  instanceTypes := #[]
  staticTypes := #[]
  resolved := Array.replicate 11 none
  statics := none }

def pool6 : Array CpInfo := pool [(1, .class_ 2), (0, u "java/lang/constant/ConstantDesc"), (0, .class_ 4), (0, u "java/lang/Object")] 32

/-- java/lang/constant/ConstantDesc -/
def k6 : Class := { plain "java/lang/constant/ConstantDesc" (some 0) with
  accessFlags := 1537
  interfaces := #[]
  cf := some (fileOf pool6 1 #[] #[] 1537 3 #[] #[])
  fields := #[]
  methods := #[]
  instanceTypes := #[]
  staticTypes := #[]
  resolved := Array.replicate 37 none
  statics := none }

def pool7 : Array CpInfo := pool [(1, .methodref 2 3), (0, .class_ 4), (0, .nameAndType 5 6), (0, u "java/lang/Object"), (0, u "<init>"), (0, u "()V"), (2, .fieldref 10 11), (0, .class_ 12), (0, .nameAndType 13 14), (0, u "java/lang/String"), (0, u "value"), (0, u "[B"), (0, .fieldref 10 16), (0, .nameAndType 17 18), (0, u "coder"), (0, u "B"), (2, u "hash"), (0, u "I"), (2, u "hashIsZero"), (0, u "Z"), (0, .methodref 10 28), (0, .nameAndType 5 29), (0, u "([CIILjava/lang/Void;)V"), (8, .fieldref 10 39), (0, .nameAndType 40 26), (0, u "COMPACT_STRINGS"), (1, .class_ 44), (1, u "java/lang/StringUTF16"), (0, u "compress"), (1, .methodref 42 48), (0, .nameAndType 49 50), (0, u "coderFromArrayLen"), (0, u "([BI)B"), (2, u "toBytes"), (53, .class_ 109), (1, u "java/lang/StringLatin1"), (32, u "()Z"), (34, .methodref 42 178), (0, .nameAndType 45 179), (0, u "([CII)[B"), (29, .methodref 10 210), (0, .nameAndType 5 211), (0, u "([BB)V"), (122, u "()I"), (0, .methodref 10 336), (0, .nameAndType 17 337), (0, u "()B"), (31, u "(C)Z"), (122, .methodref 10 493), (0, .nameAndType 494 142), (0, u "isLatin1"), (10, .methodref 10 506), (0, .nameAndType 507 334), (0, u "length"), (67, .class_ 576), (0, u "java/lang/CharSequence"), (22, u "CASE_INSENSITIVE_ORDER"), (0, u "Ljava/util/Comparator;"), (32, .methodref 10 634), (0, .nameAndType 635 636), (0, u "indexOf"), (0, u "(II)I"), (0, .methodref 107 638), (0, .nameAndType 635 639), (0, u "([BIII)I"), (52, u "isEmpty"), (72, u "(I)I"), (16, u "valueOf"), (0, u "(C)Ljava/lang/String;"), (226, u "([C)V"), (4, .methodref 107 1016), (0, .nameAndType 1017 369), (0, u "canEncode"), (0, .methodref 107 1019), (0, .nameAndType 53 1020), (0, u "(C)[B"), (80, u "serialPersistentFields"), (0, u "[Ljava/io/ObjectStreamField;"), (0, .class_ 1104), (0, u "java/lang/String$CaseInsensitiveComparator"), (1, .class_ 1107), (0, u "java/io/Serializable"), (0, .class_ 1109), (0, u "java/lang/Comparable"), (0, .class_ 1111), (0, u "java/lang/constant/Constable"), (0, .class_ 1113), (0, u "java/lang/constant/ConstantDesc"), (2, u "serialVersionUID"), (0, u "J"), (3, u "REPL"), (0, u "C"), (2, u "LATIN1"), (1, u "UTF16")] 323

def k7m0 : Method := { name := "<init>", desc := "()V", sig := { parameters := [], returnType := none }, accessFlags := 1, code := none }
def k7c1 : Code := { maxStack := 5, maxLocals := 2, code := jdk_42_method_3_code, exceptionTable := #[], attributes := #[] }
def k7m1 : Method := { name := "<init>", desc := "([C)V", sig := { parameters := [(.array .char)], returnType := none }, accessFlags := 1, code := some k7c1 }
def k7c2 : Code := { maxStack := 2, maxLocals := 1, code := jdk_42_method_54_code, exceptionTable := #[], attributes := #[] }
def k7m2 : Method := { name := "length", desc := "()I", sig := { parameters := [], returnType := some .int }, accessFlags := 1, code := some k7c2 }
def k7c3 : Code := { maxStack := 1, maxLocals := 1, code := jdk_42_method_55_code, exceptionTable := #[], attributes := #[] }
def k7m3 : Method := { name := "isEmpty", desc := "()Z", sig := { parameters := [], returnType := some .boolean }, accessFlags := 1, code := some k7c3 }
def k7c4 : Code := { maxStack := 3, maxLocals := 2, code := jdk_42_method_79_code, exceptionTable := #[], attributes := #[] }
def k7m4 : Method := { name := "indexOf", desc := "(I)I", sig := { parameters := [.int], returnType := some .int }, accessFlags := 1, code := some k7c4 }
def k7c5 : Code := { maxStack := 4, maxLocals := 3, code := jdk_42_method_80_code, exceptionTable := #[], attributes := #[] }
def k7m5 : Method := { name := "indexOf", desc := "(II)I", sig := { parameters := [.int, .int], returnType := some .int }, accessFlags := 1, code := some k7c5 }
def k7c6 : Code := { maxStack := 4, maxLocals := 1, code := jdk_42_method_139_code, exceptionTable := #[], attributes := #[] }
def k7m6 : Method := { name := "valueOf", desc := "(C)Ljava/lang/String;", sig := { parameters := [.char], returnType := some (.object "java/lang/String") }, accessFlags := 9, code := some k7c6 }
def k7c7 : Code := { maxStack := 4, maxLocals := 6, code := jdk_42_method_149_code, exceptionTable := #[], attributes := #[] }
def k7m7 : Method := { name := "<init>", desc := "([CIILjava/lang/Void;)V", sig := { parameters := [(.array .char), .int, .int, (.object "java/lang/Void")], returnType := none }, accessFlags := 2, code := some k7c7 }
def k7c8 : Code := { maxStack := 2, maxLocals := 3, code := jdk_42_method_151_code, exceptionTable := #[], attributes := #[] }
def k7m8 : Method := { name := "<init>", desc := "([BB)V", sig := { parameters := [(.array .byte), .byte], returnType := none }, accessFlags := 0, code := some k7c8 }
def k7c9 : Code := { maxStack := 1, maxLocals := 1, code := jdk_42_method_152_code, exceptionTable := #[], attributes := #[] }
def k7m9 : Method := { name := "coder", desc := "()B", sig := { parameters := [], returnType := some .byte }, accessFlags := 0, code := some k7c9 }
def k7c10 : Code := { maxStack := 1, maxLocals := 1, code := jdk_42_method_154_code, exceptionTable := #[], attributes := #[] }
def k7m10 : Method := { name := "isLatin1", desc := "()Z", sig := { parameters := [], returnType := some .boolean }, accessFlags := 0, code := some k7c10 }
/-- java/lang/String -/
def k7 : Class := { plain "java/lang/String" (some 0) with
  accessFlags := 49
  interfaces := #[2, 3, 4, 5, 6]
  cf := some (fileOf pool7 10 #[.nestMembers #[1103]] #[{ accessFlags := 1, nameIndex := 5, descriptorIndex := 6, attributes := #[] }, { accessFlags := 1, nameIndex := 5, descriptorIndex := 1010, attributes := #[] }, { accessFlags := 1, nameIndex := 507, descriptorIndex := 334, attributes := #[] }, { accessFlags := 1, nameIndex := 692, descriptorIndex := 142, attributes := #[] }, { accessFlags := 1, nameIndex := 635, descriptorIndex := 765, attributes := #[] }, { accessFlags := 1, nameIndex := 635, descriptorIndex := 636, attributes := #[] }, { accessFlags := 9, nameIndex := 782, descriptorIndex := 783, attributes := #[] }, { accessFlags := 2, nameIndex := 5, descriptorIndex := 29, attributes := #[] }, { accessFlags := 0, nameIndex := 5, descriptorIndex := 211, attributes := #[] }, { accessFlags := 0, nameIndex := 17, descriptorIndex := 337, attributes := #[] }, { accessFlags := 0, nameIndex := 494, descriptorIndex := 142, attributes := #[] }] 49 2 #[1106, 1108, 575, 1110, 1112] #[{ accessFlags := 18, nameIndex := 13, descriptorIndex := 14, attributes := #[] }, { accessFlags := 18, nameIndex := 17, descriptorIndex := 18, attributes := #[] }, { accessFlags := 2, nameIndex := 21, descriptorIndex := 22, attributes := #[] }, { accessFlags := 2, nameIndex := 25, descriptorIndex := 26, attributes := #[] }, { accessFlags := 26, nameIndex := 1116, descriptorIndex := 1117, attributes := #[] }, { accessFlags := 24, nameIndex := 40, descriptorIndex := 26, attributes := #[] }, { accessFlags := 26, nameIndex := 1101, descriptorIndex := 1102, attributes := #[] }, { accessFlags := 26, nameIndex := 1121, descriptorIndex := 1122, attributes := #[] }, { accessFlags := 25, nameIndex := 599, descriptorIndex := 600, attributes := #[] }, { accessFlags := 24, nameIndex := 1125, descriptorIndex := 18, attributes := #[] }, { accessFlags := 24, nameIndex := 1127, descriptorIndex := 18, attributes := #[] }])
  fields := #[{ name := "value", type := (.array .byte), accessFlags := 18, slot := 0, constantValue := 0 }, { name := "coder", type := .byte, accessFlags := 18, slot := 1, constantValue := 0 }, { name := "hash", type := .int, accessFlags := 2, slot := 2, constantValue := 0 }, { name := "hashIsZero", type := .boolean, accessFlags := 2, slot := 3, constantValue := 0 }, { name := "serialVersionUID", type := .long, accessFlags := 26, slot := 0, constantValue := 0 }, { name := "COMPACT_STRINGS", type := .boolean, accessFlags := 24, slot := 1, constantValue := 0 }, { name := "serialPersistentFields", type := (.array (.object "java/io/ObjectStreamField")), accessFlags := 26, slot := 2, constantValue := 0 }, { name := "REPL", type := .char, accessFlags := 26, slot := 3, constantValue := 0 }, { name := "CASE_INSENSITIVE_ORDER", type := (.object "java/util/Comparator"), accessFlags := 25, slot := 4, constantValue := 0 }, { name := "LATIN1", type := .byte, accessFlags := 24, slot := 5, constantValue := 0 }, { name := "UTF16", type := .byte, accessFlags := 24, slot := 6, constantValue := 0 }]
  methods := #[k7m0, k7m1, k7m2, k7m3, k7m4, k7m5, k7m6, k7m7, k7m8, k7m9, k7m10]
  instanceTypes := #[(.array .byte), .byte, .int, .boolean]
  staticTypes := #[.long, .boolean, (.array (.object "java/io/ObjectStreamField")), .char, (.object "java/util/Comparator"), .byte, .byte]
  resolved := Array.replicate 1451 none
  statics := some 0 }

def pool8 : Array CpInfo := pool [(4, .class_ 6), (1, u "java/lang/Object"), (0, u "<init>"), (0, u "()V"), (5, .class_ 16), (1, u "java/lang/StringLatin1"), (21, .methodref 39 40), (0, .class_ 41), (0, .nameAndType 42 43), (0, u "java/lang/Math"), (0, u "min"), (0, u "(II)I"), (44, .methodref 14 89), (0, .nameAndType 90 91), (0, u "canEncode"), (0, u "(I)Z"), (0, .methodref 39 93), (0, .nameAndType 94 43), (0, u "max"), (0, .methodref 14 96), (0, .nameAndType 97 98), (0, u "indexOfChar"), (0, u "([BIII)I"), (2, u "indexOf"), (3, u "(C)Z"), (15, u "$assertionsDisabled"), (0, u "Z"), (98, .class_ 223), (1, u "java/lang/StringLatin1$LinesSpliterator"), (156, u "toBytes"), (1, u "(C)[B"), (7, .class_ 391), (0, u "java/lang/StringLatin1$CharsSpliterator")] 3

def k8m0 : Method := { name := "<init>", desc := "()V", sig := { parameters := [], returnType := none }, accessFlags := 0, code := none }
def k8c1 : Code := { maxStack := 2, maxLocals := 1, code := jdk_43_method_3_code, exceptionTable := #[], attributes := #[] }
def k8m1 : Method := { name := "canEncode", desc := "(C)Z", sig := { parameters := [.char], returnType := some .boolean }, accessFlags := 9, code := some k8c1 }
def k8c2 : Code := { maxStack := 2, maxLocals := 1, code := jdk_43_method_4_code, exceptionTable := #[], attributes := #[] }
def k8m2 : Method := { name := "canEncode", desc := "(I)Z", sig := { parameters := [.int], returnType := some .boolean }, accessFlags := 9, code := some k8c2 }
def k8c3 : Code := { maxStack := 4, maxLocals := 4, code := jdk_43_method_22_code, exceptionTable := #[], attributes := #[] }
def k8m3 : Method := { name := "indexOf", desc := "([BIII)I", sig := { parameters := [(.array .byte), .int, .int, .int], returnType := some .int }, accessFlags := 9, code := some k8c3 }
def k8c4 : Code := { maxStack := 2, maxLocals := 6, code := jdk_43_method_23_code, exceptionTable := #[], attributes := #[] }
def k8m4 : Method := { name := "indexOfChar", desc := "([BIII)I", sig := { parameters := [(.array .byte), .int, .int, .int], returnType := some .int }, accessFlags := 10, code := some k8c4 }
def k8c5 : Code := { maxStack := 4, maxLocals := 1, code := jdk_43_method_46_code, exceptionTable := #[], attributes := #[] }
def k8m5 : Method := { name := "toBytes", desc := "(C)[B", sig := { parameters := [.char], returnType := some (.array .byte) }, accessFlags := 9, code := some k8c5 }
/-- java/lang/StringLatin1 -/
def k8 : Class := { plain "java/lang/StringLatin1" (some 0) with
  accessFlags := 48
  interfaces := #[]
  cf := some (fileOf pool8 14 #[.nestMembers #[390, 221]] #[{ accessFlags := 0, nameIndex := 7, descriptorIndex := 8, attributes := #[] }, { accessFlags := 9, nameIndex := 90, descriptorIndex := 105, attributes := #[] }, { accessFlags := 9, nameIndex := 90, descriptorIndex := 91, attributes := #[] }, { accessFlags := 9, nameIndex := 101, descriptorIndex := 98, attributes := #[] }, { accessFlags := 10, nameIndex := 97, descriptorIndex := 98, attributes := #[] }, { accessFlags := 9, nameIndex := 380, descriptorIndex := 382, attributes := #[] }] 48 4 #[] #[{ accessFlags := 4120, nameIndex := 121, descriptorIndex := 122, attributes := #[] }])
  fields := #[{ name := "$assertionsDisabled", type := .boolean, accessFlags := 4120, slot := 0, constantValue := 0 }]
  methods := #[k8m0, k8m1, k8m2, k8m3, k8m4, k8m5]
  instanceTypes := #[]
  staticTypes := #[.boolean]
  resolved := Array.replicate 395 none
  statics := none }

def pool9 : Array CpInfo := pool [(1, .methodref 2 3), (0, .class_ 4), (0, .nameAndType 5 6), (0, u "java/lang/Object"), (0, u "<init>"), (0, u "()V"), (0, .class_ 8), (0, u "java/lang/Record")] 13

def k9c0 : Code := { maxStack := 1, maxLocals := 1, code := jdk_30_method_1_code, exceptionTable := #[], attributes := #[] }
def k9m0 : Method := { name := "<init>", desc := "()V", sig := { parameters := [], returnType := none }, accessFlags := 4, code := some k9c0 }
/-- java/lang/Record -/
def k9 : Class := { plain "java/lang/Record" (some 0) with
  accessFlags := 1057
  interfaces := #[]
  cf := some (fileOf pool9 7 #[] #[{ accessFlags := 4, nameIndex := 5, descriptorIndex := 6, attributes := #[] }] 1057 2 #[] #[])
  fields := #[]
  methods := #[k9m0]
  instanceTypes := #[]
  staticTypes := #[]
  resolved := Array.replicate 22 none
  statics := none }

def pool10 : Array CpInfo := pool [(1, .methodref 2 3), (0, .class_ 4), (0, .nameAndType 5 6), (0, u "java/lang/Record"), (0, u "<init>"), (0, u "()V"), (0, .string 8), (0, u "schema"), (0, .methodref 10 11), (0, .class_ 12), (0, .nameAndType 13 14), (0, u "java/util/Objects"), (0, u "requireNonNull"), (0, u "(Ljava/lang/Object;Ljava/lang/String;)Ljava/lang/Object;"), (0, .string 16), (0, u "name"), (0, .methodref 18 19), (0, .class_ 20), (0, .nameAndType 21 22), (0, u "java/lang/String"), (0, u "isEmpty"), (0, u "()Z"), (7, .fieldref 31 32), (0, .class_ 33), (0, .nameAndType 8 34), (0, u "com/example/tombstone/tombstone/config/TableName"), (0, u "Ljava/lang/String;"), (0, .fieldref 31 36), (0, .nameAndType 16 34), (2, .methodref 18 40), (0, .nameAndType 41 42), (0, u "indexOf"), (0, u "(I)I"), (15, u "(Ljava/lang/String;Ljava/lang/String;)V"), (25, u "DEFAULT_SCHEMA"), (7, u "writable")] 32

def k10c0 : Code := { maxStack := 3, maxLocals := 3, code := prog_8_method_1_code, exceptionTable := #[], attributes := #[] }
def k10m0 : Method := { name := "<init>", desc := "(Ljava/lang/String;Ljava/lang/String;)V", sig := { parameters := [(.object "java/lang/String"), (.object "java/lang/String")], returnType := none }, accessFlags := 1, code := some k10c0 }
def k10c1 : Code := { maxStack := 2, maxLocals := 1, code := prog_8_method_4_code, exceptionTable := #[], attributes := #[] }
def k10m1 : Method := { name := "writable", desc := "()Z", sig := { parameters := [], returnType := some .boolean }, accessFlags := 1, code := some k10c1 }
/-- com/example/tombstone/tombstone/config/TableName -/
def k10 : Class := { plain "com/example/tombstone/tombstone/config/TableName" (some 9) with
  accessFlags := 49
  interfaces := #[]
  cf := some (fileOf pool10 31 #[] #[{ accessFlags := 1, nameIndex := 5, descriptorIndex := 58, attributes := #[] }, { accessFlags := 1, nameIndex := 92, descriptorIndex := 22, attributes := #[] }] 49 2 #[] #[{ accessFlags := 18, nameIndex := 8, descriptorIndex := 34, attributes := #[] }, { accessFlags := 18, nameIndex := 16, descriptorIndex := 34, attributes := #[] }, { accessFlags := 25, nameIndex := 84, descriptorIndex := 34, attributes := #[] }])
  fields := #[{ name := "schema", type := (.object "java/lang/String"), accessFlags := 18, slot := 0, constantValue := 0 }, { name := "name", type := (.object "java/lang/String"), accessFlags := 18, slot := 1, constantValue := 0 }, { name := "DEFAULT_SCHEMA", type := (.object "java/lang/String"), accessFlags := 25, slot := 0, constantValue := 0 }]
  methods := #[k10m0, k10m1]
  instanceTypes := #[(.object "java/lang/String"), (.object "java/lang/String")]
  staticTypes := #[(.object "java/lang/String")]
  resolved := Array.replicate 125 none
  statics := none }

def pool11 : Array CpInfo := pool [(2, .class_ 4), (1, u "java/lang/Object"), (0, u "<init>"), (0, u "()V"), (35, .class_ 44), (1, u "java/util/Objects"), (0, u "requireNonNull"), (48, u "(Ljava/lang/Object;Ljava/lang/String;)Ljava/lang/Object;")] 89

def k11m0 : Method := { name := "<init>", desc := "()V", sig := { parameters := [], returnType := none }, accessFlags := 2, code := none }
def k11c1 : Code := { maxStack := 3, maxLocals := 2, code := jdk_31_method_11_code, exceptionTable := #[], attributes := #[] }
def k11m1 : Method := { name := "requireNonNull", desc := "(Ljava/lang/Object;Ljava/lang/String;)Ljava/lang/Object;", sig := { parameters := [(.object "java/lang/Object"), (.object "java/lang/String")], returnType := some (.object "java/lang/Object") }, accessFlags := 9, code := some k11c1 }
/-- java/util/Objects -/
def k11 : Class := { plain "java/util/Objects" (some 0) with
  accessFlags := 49
  interfaces := #[]
  cf := some (fileOf pool11 42 #[] #[{ accessFlags := 2, nameIndex := 5, descriptorIndex := 6, attributes := #[] }, { accessFlags := 9, nameIndex := 45, descriptorIndex := 94, attributes := #[] }] 49 2 #[] #[])
  fields := #[]
  methods := #[k11m0, k11m1]
  instanceTypes := #[]
  staticTypes := #[]
  resolved := Array.replicate 184 none
  statics := none }

def pool12 : Array CpInfo := pool [(1, .class_ 2), (0, u "java/lang/Math"), (1, .class_ 6), (1, u "java/lang/Object"), (0, u "<init>"), (0, u "()V"), (89, .class_ 100), (1, u "java/lang/Math$RandomNumberGeneratorHolder"), (71, u "negativeZeroFloatBits"), (0, u "J"), (2, u "negativeZeroDoubleBits"), (21, u "max"), (2, u "min"), (43, u "$assertionsDisabled"), (0, u "Z"), (88, u "(II)I"), (2, u "twoToTheDoubleScaleDown"), (0, u "D"), (4, u "twoToTheDoubleScaleUp"), (9, u "E"), (3, u "PI"), (2, u "TAU"), (2, u "DEGREES_TO_RADIANS"), (0, u "RADIANS_TO_DEGREES")] 94

def k12m0 : Method := { name := "<init>", desc := "()V", sig := { parameters := [], returnType := none }, accessFlags := 2, code := none }
def k12c1 : Code := { maxStack := 2, maxLocals := 2, code := jdk_29_method_65_code, exceptionTable := #[], attributes := #[] }
def k12m1 : Method := { name := "max", desc := "(II)I", sig := { parameters := [.int, .int], returnType := some .int }, accessFlags := 9, code := some k12c1 }
def k12c2 : Code := { maxStack := 2, maxLocals := 2, code := jdk_29_method_69_code, exceptionTable := #[], attributes := #[] }
def k12m2 : Method := { name := "min", desc := "(II)I", sig := { parameters := [.int, .int], returnType := some .int }, accessFlags := 9, code := some k12c2 }
/-- java/lang/Math -/
def k12 : Class := { plain "java/lang/Math" (some 0) with
  accessFlags := 49
  interfaces := #[]
  cf := some (fileOf pool12 1 #[.nestMembers #[98]] #[{ accessFlags := 2, nameIndex := 7, descriptorIndex := 8, attributes := #[] }, { accessFlags := 9, nameIndex := 198, descriptorIndex := 335, attributes := #[] }, { accessFlags := 9, nameIndex := 201, descriptorIndex := 335, attributes := #[] }] 49 4 #[] #[{ accessFlags := 25, nameIndex := 354, descriptorIndex := 339, attributes := #[] }, { accessFlags := 25, nameIndex := 358, descriptorIndex := 339, attributes := #[] }, { accessFlags := 25, nameIndex := 361, descriptorIndex := 339, attributes := #[] }, { accessFlags := 26, nameIndex := 364, descriptorIndex := 339, attributes := #[] }, { accessFlags := 26, nameIndex := 365, descriptorIndex := 339, attributes := #[] }, { accessFlags := 26, nameIndex := 172, descriptorIndex := 173, attributes := #[] }, { accessFlags := 26, nameIndex := 176, descriptorIndex := 173, attributes := #[] }, { accessFlags := 8, nameIndex := 344, descriptorIndex := 339, attributes := #[] }, { accessFlags := 8, nameIndex := 338, descriptorIndex := 339, attributes := #[] }, { accessFlags := 4120, nameIndex := 245, descriptorIndex := 246, attributes := #[] }])
  fields := #[{ name := "E", type := .double, accessFlags := 25, slot := 0, constantValue := 0 }, { name := "PI", type := .double, accessFlags := 25, slot := 1, constantValue := 0 }, { name := "TAU", type := .double, accessFlags := 25, slot := 2, constantValue := 0 }, { name := "DEGREES_TO_RADIANS", type := .double, accessFlags := 26, slot := 3, constantValue := 0 }, { name := "RADIANS_TO_DEGREES", type := .double, accessFlags := 26, slot := 4, constantValue := 0 }, { name := "negativeZeroFloatBits", type := .long, accessFlags := 26, slot := 5, constantValue := 0 }, { name := "negativeZeroDoubleBits", type := .long, accessFlags := 26, slot := 6, constantValue := 0 }, { name := "twoToTheDoubleScaleUp", type := .double, accessFlags := 8, slot := 7, constantValue := 0 }, { name := "twoToTheDoubleScaleDown", type := .double, accessFlags := 8, slot := 8, constantValue := 0 }, { name := "$assertionsDisabled", type := .boolean, accessFlags := 4120, slot := 9, constantValue := 0 }]
  methods := #[k12m0, k12m1, k12m2]
  instanceTypes := #[]
  staticTypes := #[.double, .double, .double, .double, .double, .long, .long, .double, .double, .boolean]
  resolved := Array.replicate 460 none
  statics := none }

def pool13 : Array CpInfo := pool [(6, .class_ 8), (1, u "java/lang/Object"), (0, u "<init>"), (0, u "()V"), (1, .class_ 14), (1, u "java/lang/StringUTF16"), (31, u "$assertionsDisabled"), (0, u "Z"), (13, u "HI_BYTE_SHIFT"), (0, u "I"), (2, u "LO_BYTE_SHIFT"), (49, .methodref 12 116), (0, .nameAndType 117 118), (0, u "compress"), (0, u "([CI[BII)I"), (3, u "([CII)[B"), (138, u "coderFromArrayLen"), (0, u "([BI)B"), (106, .class_ 371), (1, u "java/lang/StringUTF16$LinesSpliterator"), (58, u "MAX_LENGTH"), (196, .class_ 628), (0, u "java/lang/StringUTF16$CodePointsSpliterator"), (0, .class_ 630), (0, u "java/lang/StringUTF16$CharsSpliterator")] 4

def k13m0 : Method := { name := "<init>", desc := "()V", sig := { parameters := [], returnType := none }, accessFlags := 0, code := none }
def k13c1 : Code := { maxStack := 2, maxLocals := 2, code := jdk_52_method_15_code, exceptionTable := #[], attributes := #[] }
def k13m1 : Method := { name := "coderFromArrayLen", desc := "([BI)B", sig := { parameters := [(.array .byte), .int], returnType := some .byte }, accessFlags := 8, code := some k13c1 }
def k13c2 : Code := { maxStack := 5, maxLocals := 6, code := jdk_52_method_16_code, exceptionTable := #[], attributes := #[] }
def k13m2 : Method := { name := "compress", desc := "([CII)[B", sig := { parameters := [(.array .char), .int, .int], returnType := some (.array .byte) }, accessFlags := 9, code := some k13c2 }
def k13c3 : Code := { maxStack := 3, maxLocals := 7, code := jdk_52_method_21_code, exceptionTable := #[], attributes := #[] }
def k13m3 : Method := { name := "compress", desc := "([CI[BII)I", sig := { parameters := [(.array .char), .int, (.array .byte), .int, .int], returnType := some .int }, accessFlags := 9, code := some k13c3 }
/-- java/lang/StringUTF16 -/
def k13 : Class := { plain "java/lang/StringUTF16" (some 0) with
  accessFlags := 48
  interfaces := #[]
  cf := some (fileOf pool13 12 #[.nestMembers #[627, 629, 369]] #[{ accessFlags := 0, nameIndex := 9, descriptorIndex := 10, attributes := #[] }, { accessFlags := 8, nameIndex := 261, descriptorIndex := 262, attributes := #[] }, { accessFlags := 9, nameIndex := 117, descriptorIndex := 122, attributes := #[] }, { accessFlags := 9, nameIndex := 117, descriptorIndex := 118, attributes := #[] }] 48 6 #[] #[{ accessFlags := 26, nameIndex := 61, descriptorIndex := 62, attributes := #[] }, { accessFlags := 26, nameIndex := 65, descriptorIndex := 62, attributes := #[] }, { accessFlags := 24, nameIndex := 430, descriptorIndex := 62, attributes := #[] }, { accessFlags := 4120, nameIndex := 46, descriptorIndex := 47, attributes := #[] }])
  fields := #[{ name := "HI_BYTE_SHIFT", type := .int, accessFlags := 26, slot := 0, constantValue := 0 }, { name := "LO_BYTE_SHIFT", type := .int, accessFlags := 26, slot := 1, constantValue := 0 }, { name := "MAX_LENGTH", type := .int, accessFlags := 24, slot := 2, constantValue := 0 }, { name := "$assertionsDisabled", type := .boolean, accessFlags := 4120, slot := 3, constantValue := 0 }]
  methods := #[k13m0, k13m1, k13m2, k13m3]
  instanceTypes := #[]
  staticTypes := #[.int, .int, .int, .boolean]
  resolved := Array.replicate 635 none
  statics := none }

def pool14 : Array CpInfo := pool [(2, .class_ 4), (1, u "java/lang/Object"), (0, u "<init>"), (0, u "()V"), (17, .class_ 26), (1, u "jdk/internal/util/Preconditions"), (28, .class_ 56), (0, u "jdk/internal/util/Preconditions$4"), (57, .class_ 115), (0, u "jdk/internal/util/Preconditions$1"), (7, u "SIOOBE_FORMATTER"), (0, u "Ljava/util/function/BiFunction;"), (0, .class_ 126), (0, u "jdk/internal/util/Preconditions$2"), (3, u "AIOOBE_FORMATTER"), (0, .class_ 132), (0, u "jdk/internal/util/Preconditions$3"), (3, u "IOOBE_FORMATTER")] 57

def k14m0 : Method := { name := "<init>", desc := "()V", sig := { parameters := [], returnType := none }, accessFlags := 1, code := none }
/-- jdk/internal/util/Preconditions -/
def k14 : Class := { plain "jdk/internal/util/Preconditions" (some 0) with
  accessFlags := 33
  interfaces := #[]
  cf := some (fileOf pool14 24 #[.nestMembers #[55, 131, 125, 114]] #[{ accessFlags := 1, nameIndex := 5, descriptorIndex := 6, attributes := #[] }] 33 2 #[] #[{ accessFlags := 25, nameIndex := 123, descriptorIndex := 124, attributes := #[] }, { accessFlags := 25, nameIndex := 130, descriptorIndex := 124, attributes := #[] }, { accessFlags := 25, nameIndex := 136, descriptorIndex := 124, attributes := #[] }])
  fields := #[{ name := "SIOOBE_FORMATTER", type := (.object "java/util/function/BiFunction"), accessFlags := 25, slot := 0, constantValue := 0 }, { name := "AIOOBE_FORMATTER", type := (.object "java/util/function/BiFunction"), accessFlags := 25, slot := 1, constantValue := 0 }, { name := "IOOBE_FORMATTER", type := (.object "java/util/function/BiFunction"), accessFlags := 25, slot := 2, constantValue := 0 }]
  methods := #[k14m0]
  instanceTypes := #[]
  staticTypes := #[(.object "java/util/function/BiFunction"), (.object "java/util/function/BiFunction"), (.object "java/util/function/BiFunction")]
  resolved := Array.replicate 194 none
  statics := some 1 }

def pool15 : Array CpInfo := pool [(9, u "<init>"), (6, .class_ 18), (1, u "java/lang/Object"), (0, u "()V"), (1, .class_ 23), (1, u "jdk/internal/util/ArraysSupport"), (0, u "LOG2_ARRAY_LONG_INDEX_SCALE"), (0, u "I"), (2, u "U"), (0, u "Ljdk/internal/misc/Unsafe;"), (8, u "BIG_ENDIAN"), (0, u "Z"), (8, u "LOG2_BYTE_BIT_SIZE"), (4, u "LOG2_ARRAY_INT_INDEX_SCALE"), (54, u "JLA"), (0, u "Ljdk/internal/access/JavaLangAccess;"), (11, u "LOG2_ARRAY_BOOLEAN_INDEX_SCALE"), (9, u "LOG2_ARRAY_BYTE_INDEX_SCALE"), (5, u "LOG2_ARRAY_CHAR_INDEX_SCALE"), (5, u "LOG2_ARRAY_SHORT_INDEX_SCALE"), (18, u "LOG2_ARRAY_FLOAT_INDEX_SCALE"), (24, u "LOG2_ARRAY_DOUBLE_INDEX_SCALE"), (89, u "T_BOOLEAN"), (2, u "T_CHAR"), (1, u "T_FLOAT"), (1, u "T_DOUBLE"), (1, u "T_BYTE"), (1, u "T_SHORT"), (1, u "T_INT"), (1, u "T_LONG"), (1, u "SOFT_MAX_ARRAY_LENGTH")] 83

def k15m0 : Method := { name := "<init>", desc := "()V", sig := { parameters := [], returnType := none }, accessFlags := 2, code := none }
/-- jdk/internal/util/ArraysSupport -/
def k15 : Class := { plain "jdk/internal/util/ArraysSupport" (some 0) with
  accessFlags := 33
  interfaces := #[]
  cf := some (fileOf pool15 21 #[] #[{ accessFlags := 2, nameIndex := 9, descriptorIndex := 19, attributes := #[] }] 33 16 #[] #[{ accessFlags := 24, nameIndex := 28, descriptorIndex := 29, attributes := #[] }, { accessFlags := 26, nameIndex := 38, descriptorIndex := 39, attributes := #[] }, { accessFlags := 25, nameIndex := 121, descriptorIndex := 25, attributes := #[] }, { accessFlags := 25, nameIndex := 131, descriptorIndex := 25, attributes := #[] }, { accessFlags := 25, nameIndex := 137, descriptorIndex := 25, attributes := #[] }, { accessFlags := 25, nameIndex := 143, descriptorIndex := 25, attributes := #[] }, { accessFlags := 25, nameIndex := 53, descriptorIndex := 25, attributes := #[] }, { accessFlags := 25, nameIndex := 24, descriptorIndex := 25, attributes := #[] }, { accessFlags := 25, nameIndex := 162, descriptorIndex := 25, attributes := #[] }, { accessFlags := 25, nameIndex := 187, descriptorIndex := 25, attributes := #[] }, { accessFlags := 26, nameIndex := 48, descriptorIndex := 25, attributes := #[] }, { accessFlags := 25, nameIndex := 277, descriptorIndex := 25, attributes := #[] }, { accessFlags := 25, nameIndex := 280, descriptorIndex := 25, attributes := #[] }, { accessFlags := 25, nameIndex := 282, descriptorIndex := 25, attributes := #[] }, { accessFlags := 25, nameIndex := 284, descriptorIndex := 25, attributes := #[] }, { accessFlags := 25, nameIndex := 286, descriptorIndex := 25, attributes := #[] }, { accessFlags := 25, nameIndex := 288, descriptorIndex := 25, attributes := #[] }, { accessFlags := 25, nameIndex := 290, descriptorIndex := 25, attributes := #[] }, { accessFlags := 25, nameIndex := 292, descriptorIndex := 25, attributes := #[] }, { accessFlags := 26, nameIndex := 108, descriptorIndex := 109, attributes := #[] }, { accessFlags := 25, nameIndex := 294, descriptorIndex := 25, attributes := #[] }])
  fields := #[{ name := "U", type := (.object "jdk/internal/misc/Unsafe"), accessFlags := 24, slot := 0, constantValue := 0 }, { name := "BIG_ENDIAN", type := .boolean, accessFlags := 26, slot := 1, constantValue := 0 }, { name := "LOG2_ARRAY_BOOLEAN_INDEX_SCALE", type := .int, accessFlags := 25, slot := 2, constantValue := 0 }, { name := "LOG2_ARRAY_BYTE_INDEX_SCALE", type := .int, accessFlags := 25, slot := 3, constantValue := 0 }, { name := "LOG2_ARRAY_CHAR_INDEX_SCALE", type := .int, accessFlags := 25, slot := 4, constantValue := 0 }, { name := "LOG2_ARRAY_SHORT_INDEX_SCALE", type := .int, accessFlags := 25, slot := 5, constantValue := 0 }, { name := "LOG2_ARRAY_INT_INDEX_SCALE", type := .int, accessFlags := 25, slot := 6, constantValue := 0 }, { name := "LOG2_ARRAY_LONG_INDEX_SCALE", type := .int, accessFlags := 25, slot := 7, constantValue := 0 }, { name := "LOG2_ARRAY_FLOAT_INDEX_SCALE", type := .int, accessFlags := 25, slot := 8, constantValue := 0 }, { name := "LOG2_ARRAY_DOUBLE_INDEX_SCALE", type := .int, accessFlags := 25, slot := 9, constantValue := 0 }, { name := "LOG2_BYTE_BIT_SIZE", type := .int, accessFlags := 26, slot := 10, constantValue := 0 }, { name := "T_BOOLEAN", type := .int, accessFlags := 25, slot := 11, constantValue := 0 }, { name := "T_CHAR", type := .int, accessFlags := 25, slot := 12, constantValue := 0 }, { name := "T_FLOAT", type := .int, accessFlags := 25, slot := 13, constantValue := 0 }, { name := "T_DOUBLE", type := .int, accessFlags := 25, slot := 14, constantValue := 0 }, { name := "T_BYTE", type := .int, accessFlags := 25, slot := 15, constantValue := 0 }, { name := "T_SHORT", type := .int, accessFlags := 25, slot := 16, constantValue := 0 }, { name := "T_INT", type := .int, accessFlags := 25, slot := 17, constantValue := 0 }, { name := "T_LONG", type := .int, accessFlags := 25, slot := 18, constantValue := 0 }, { name := "JLA", type := (.object "jdk/internal/access/JavaLangAccess"), accessFlags := 26, slot := 19, constantValue := 0 }, { name := "SOFT_MAX_ARRAY_LENGTH", type := .int, accessFlags := 25, slot := 20, constantValue := 0 }]
  methods := #[k15m0]
  instanceTypes := #[]
  staticTypes := #[(.object "jdk/internal/misc/Unsafe"), .boolean, .int, .int, .int, .int, .int, .int, .int, .int, .int, .int, .int, .int, .int, .int, .int, .int, .int, (.object "jdk/internal/access/JavaLangAccess"), .int]
  resolved := Array.replicate 378 none
  statics := none }

def pool16 : Array CpInfo := pool [(1, u "java/lang/Cloneable"), (0, .class_ 1), (0, u "java/lang/Object"), (0, .class_ 3)] 3

/-- java/lang/Cloneable -/
def k16 : Class := { plain "java/lang/Cloneable" (some 0) with
  accessFlags := 1537
  interfaces := #[]
  cf := some (fileOf pool16 2 #[] #[] 1537 4 #[] #[])
  fields := #[]
  methods := #[]
  instanceTypes := #[]
  staticTypes := #[]
  resolved := Array.replicate 8 none
  statics := none }

/-- the primitive byte -/
def k17 : Class := { plain "byte" none with kind := .primitive 'B', accessFlags := 0x411 }
/-- [B -/
def k18 : Class := { plain "[B" (some 0) with kind := .array 17 .byte, interfaces := #[16, 2], accessFlags := 1041 }

/-- the primitive char -/
def k19 : Class := { plain "char" none with kind := .primitive 'C', accessFlags := 0x411 }
/-- [C -/
def k20 : Class := { plain "[C" (some 0) with kind := .array 19 .char, interfaces := #[16, 2], accessFlags := 1041 }

/-- the primitive int -/
def k21 : Class := { plain "int" none with kind := .primitive 'I', accessFlags := 0x411 }
/-- [I -/
def k22 : Class := { plain "[I" (some 0) with kind := .array 21 .int, interfaces := #[16, 2], accessFlags := 1041 }

def heap : Heap := #[{ cls := 7, slots := #[.long 0, .int 1, .null, .int 0, .null, .int 0, .int 0], vm := .statics 7 },
  { cls := 14, slots := #[.null, .null, .null], vm := .statics 14 }]
def classes : Array Class := #[k0, k1, k2, k3, k4, k5, k6, k7, k8, k9, k10, k11, k12, k13, k14, k15, k16, k17, k18, k19, k20, k21, k22]
def interned : List (Array UInt16 × Addr) := []
def slotsUsed : Nat := 10
def theMethod : MethodId := ⟨1, 2⟩
def args0 : Array Value := #[.int 5, .int 5]
def aboutOver (below : List Frame) : State where
  vm := { classes := classes, interned := interned.toArray }
  heap := heap
  slotsUsed := slotsUsed
  threads := #[{ frames := .invoking theMethod args0 :: below }]
def below0 : List Frame := [.native { method := ⟨0, 0⟩, args := #[] }]
def about1 : State := aboutOver below0
def p0 : Program := .bare "" "" ""
def e0 : Env := launch0.env 0 0 0
theorem w_frames : about1.frames = Frame.invoking theMethod args0 :: below0 := rfl
set_option maxRecDepth 65536 in
theorem w_args : argsFit about1.vm theMethod args0 = true := by decide +kernel
set_option maxRecDepth 65536 in
theorem w_heap : heapFits about1 = true := by decide +kernel
set_option maxRecDepth 65536 in
theorem w_runnable : about1.curStatus? = some .runnable := by decide +kernel
set_option maxRecDepth 65536 in
theorem w_alone : about1.alone = true := by decide +kernel
set_option maxRecDepth 65536 in
theorem w_named : about1.methodNamed? x = some theMethod := by decide +kernel
set_option maxRecDepth 65536 in
theorem w_hears : about1.hears theMethod below0 = true := by decide +kernel
set_option maxRecDepth 65536 in
theorem w_ripe : about1.ripe theMethod args0 below0 = true := by decide +kernel
theorem w_running : about1.status = .running := rfl
set_option maxRecDepth 65536 in
theorem w_room : about1.hasRoom e0.platform room_1 = true :=
  launch0.hasRoom_least _ room_1 (by decide +kernel) (by decide +kernel) (by decide +kernel) (by decide +kernel) (by decide +kernel) (by decide +kernel)
theorem allAtoms_all (ts : List Jvm.Cond) (a : Array Jvm.Value) (st : Jvm.State) : (allAtoms ts).before a st = ts.all (fun c => c.before a st) := by
  induction ts with
  | nil => rfl
  | cons c t ih =>
    show (Jvm.Cond.and c (allAtoms t)).before a st = _
    rw [Jvm.Cond.before_and, ih, List.all_cons]
def words1 : List Jvm.Cond := Jvm.Cond.code x code maxLocals ret :: tables_1
/-- a 'code' word, met by the world's own term for the bytes: nothing is compared byte by byte -/
theorem code_word {y : MethodName} {bytes : ByteArray} {mx : Nat} {rt : Option FieldType} {a : Array Value} {s : State} {m : MethodId} {meth : Method} {c : Code} (h1 : s.methodNamed? y = some m) (h2 : s.vm.method? m = some meth) (h3 : meth.code = some c) (h4 : c.code = bytes)
    (h5 : (c.maxLocals == mx && c.exceptionTable.isEmpty && decide (c.maxStack ≤ mostOperands) && decide (meth.sig.returnType = rt) && !meth.locks && decide (parseMethodDescriptor y.desc = some meth.sig)) = true) : (Jvm.Cond.code y bytes mx rt).before a s = true := by
  simp only [Bool.and_eq_true, beq_iff_eq, Bool.not_eq_true', decide_eq_true_eq] at h5
  obtain ⟨⟨⟨⟨⟨g1, g2⟩, g3⟩, g4⟩, g5⟩, g6⟩ := h5
  simp [Cond.before, Cond.holds, Cond.value, h1, h2, h3, h4, g1, g2, g3, g4, g5, g6]
def isCode : Jvm.Cond → Bool
  | .code _ _ _ _ => true
  | _ => false
theorem all_split {L : List Jvm.Cond} {P : Jvm.Cond → Bool} (h1 : L.all (fun c => isCode c || P c) = true) (h2 : ∀ c ∈ L.filter isCode, P c = true) : L.all P = true := by
  refine List.all_eq_true.mpr fun c hc => ?_
  have h := List.all_eq_true.mp h1 c hc
  rcases Bool.eq_false_or_eq_true (isCode c) with hi | hi
  · exact h2 c (List.mem_filter.mpr ⟨hc, hi⟩)
  · simpa [hi] using h
set_option maxRecDepth 65536 in
theorem w_c0 : (Jvm.Cond.code x code maxLocals ret).before args0 about1 = true := code_word (m := ⟨1, 2⟩) (meth := k1m2) (c := k1c2) (by decide +kernel) rfl rfl rfl (by decide +kernel)
set_option maxRecDepth 65536 in
theorem w_c1 : (Jvm.Cond.code ({ cls := "com/example/tombstone/tombstone/config/TableNameWritablePinLaw", name := "ch", desc := "(I)C" } : Jvm.MethodName) method_2_code (1 : Nat) (Option.some Jvm.ClassFile.FieldType.char)).before args0 about1 = true := code_word (m := ⟨1, 1⟩) (meth := k1m1) (c := k1c1) (by decide +kernel) rfl rfl rfl (by decide +kernel)
set_option maxRecDepth 65536 in
theorem w_c2 : (Jvm.Cond.code ({ cls := "java/lang/String", name := "valueOf", desc := "(C)Ljava/lang/String;" } : Jvm.MethodName) jdk_42_method_139_code (1 : Nat) (Option.some (Jvm.ClassFile.FieldType.object "java/lang/String"))).before args0 about1 = true := code_word (m := ⟨7, 6⟩) (meth := k7m6) (c := k7c6) (by decide +kernel) rfl rfl rfl (by decide +kernel)
set_option maxRecDepth 65536 in
theorem w_c3 : (Jvm.Cond.code ({ cls := "java/lang/StringLatin1", name := "canEncode", desc := "(C)Z" } : Jvm.MethodName) jdk_43_method_3_code (1 : Nat) (Option.some Jvm.ClassFile.FieldType.boolean)).before args0 about1 = true := code_word (m := ⟨8, 1⟩) (meth := k8m1) (c := k8c1) (by decide +kernel) rfl rfl rfl (by decide +kernel)
set_option maxRecDepth 65536 in
theorem w_c4 : (Jvm.Cond.code ({ cls := "java/lang/StringLatin1", name := "toBytes", desc := "(C)[B" } : Jvm.MethodName) jdk_43_method_46_code (1 : Nat) (Option.some (Jvm.ClassFile.FieldType.array Jvm.ClassFile.FieldType.byte))).before args0 about1 = true := code_word (m := ⟨8, 5⟩) (meth := k8m5) (c := k8c5) (by decide +kernel) rfl rfl rfl (by decide +kernel)
set_option maxRecDepth 65536 in
theorem w_c5 : (Jvm.Cond.code ({ cls := "java/lang/String", name := "<init>", desc := "([BB)V" } : Jvm.MethodName) jdk_42_method_151_code (3 : Nat) (Option.none : Option Jvm.ClassFile.FieldType)).before args0 about1 = true := code_word (m := ⟨7, 8⟩) (meth := k7m8) (c := k7c8) (by decide +kernel) rfl rfl rfl (by decide +kernel)
set_option maxRecDepth 65536 in
theorem w_c6 : (Jvm.Cond.code ({ cls := "java/lang/Object", name := "<init>", desc := "()V" } : Jvm.MethodName) object_method_1_code (1 : Nat) (Option.none : Option Jvm.ClassFile.FieldType)).before args0 about1 = true := code_word (m := ⟨0, 0⟩) (meth := k0m0) (c := k0c0) (by decide +kernel) rfl rfl rfl (by decide +kernel)
set_option maxRecDepth 65536 in
theorem w_c7 : (Jvm.Cond.code ({ cls := "com/example/tombstone/tombstone/config/TableName", name := "<init>", desc := "(Ljava/lang/String;Ljava/lang/String;)V" } : Jvm.MethodName) prog_8_method_1_code (3 : Nat) (Option.none : Option Jvm.ClassFile.FieldType)).before args0 about1 = true := code_word (m := ⟨10, 0⟩) (meth := k10m0) (c := k10c0) (by decide +kernel) rfl rfl rfl (by decide +kernel)
set_option maxRecDepth 65536 in
theorem w_c8 : (Jvm.Cond.code ({ cls := "java/lang/Record", name := "<init>", desc := "()V" } : Jvm.MethodName) jdk_30_method_1_code (1 : Nat) (Option.none : Option Jvm.ClassFile.FieldType)).before args0 about1 = true := code_word (m := ⟨9, 0⟩) (meth := k9m0) (c := k9c0) (by decide +kernel) rfl rfl rfl (by decide +kernel)
set_option maxRecDepth 65536 in
theorem w_c9 : (Jvm.Cond.code ({ cls := "java/util/Objects", name := "requireNonNull", desc := "(Ljava/lang/Object;Ljava/lang/String;)Ljava/lang/Object;" } : Jvm.MethodName) jdk_31_method_11_code (2 : Nat) (Option.some (Jvm.ClassFile.FieldType.object "java/lang/Object"))).before args0 about1 = true := code_word (m := ⟨11, 1⟩) (meth := k11m1) (c := k11c1) (by decide +kernel) rfl rfl rfl (by decide +kernel)
set_option maxRecDepth 65536 in
theorem w_c10 : (Jvm.Cond.code ({ cls := "java/lang/String", name := "isEmpty", desc := "()Z" } : Jvm.MethodName) jdk_42_method_55_code (1 : Nat) (Option.some Jvm.ClassFile.FieldType.boolean)).before args0 about1 = true := code_word (m := ⟨7, 3⟩) (meth := k7m3) (c := k7c3) (by decide +kernel) rfl rfl rfl (by decide +kernel)
set_option maxRecDepth 65536 in
theorem w_c11 : (Jvm.Cond.code ({ cls := "com/example/tombstone/tombstone/config/TableName", name := "writable", desc := "()Z" } : Jvm.MethodName) prog_8_method_4_code (1 : Nat) (Option.some Jvm.ClassFile.FieldType.boolean)).before args0 about1 = true := code_word (m := ⟨10, 1⟩) (meth := k10m1) (c := k10c1) (by decide +kernel) rfl rfl rfl (by decide +kernel)
set_option maxRecDepth 65536 in
theorem w_c12 : (Jvm.Cond.code ({ cls := "java/lang/String", name := "indexOf", desc := "(I)I" } : Jvm.MethodName) jdk_42_method_79_code (2 : Nat) (Option.some Jvm.ClassFile.FieldType.int)).before args0 about1 = true := code_word (m := ⟨7, 4⟩) (meth := k7m4) (c := k7c4) (by decide +kernel) rfl rfl rfl (by decide +kernel)
set_option maxRecDepth 65536 in
theorem w_c13 : (Jvm.Cond.code ({ cls := "java/lang/String", name := "indexOf", desc := "(II)I" } : Jvm.MethodName) jdk_42_method_80_code (3 : Nat) (Option.some Jvm.ClassFile.FieldType.int)).before args0 about1 = true := code_word (m := ⟨7, 5⟩) (meth := k7m5) (c := k7c5) (by decide +kernel) rfl rfl rfl (by decide +kernel)
set_option maxRecDepth 65536 in
theorem w_c14 : (Jvm.Cond.code ({ cls := "java/lang/String", name := "isLatin1", desc := "()Z" } : Jvm.MethodName) jdk_42_method_154_code (1 : Nat) (Option.some Jvm.ClassFile.FieldType.boolean)).before args0 about1 = true := code_word (m := ⟨7, 10⟩) (meth := k7m10) (c := k7c10) (by decide +kernel) rfl rfl rfl (by decide +kernel)
set_option maxRecDepth 65536 in
theorem w_c15 : (Jvm.Cond.code ({ cls := "java/lang/String", name := "length", desc := "()I" } : Jvm.MethodName) jdk_42_method_54_code (1 : Nat) (Option.some Jvm.ClassFile.FieldType.int)).before args0 about1 = true := code_word (m := ⟨7, 2⟩) (meth := k7m2) (c := k7c2) (by decide +kernel) rfl rfl rfl (by decide +kernel)
set_option maxRecDepth 65536 in
theorem w_c16 : (Jvm.Cond.code ({ cls := "java/lang/String", name := "coder", desc := "()B" } : Jvm.MethodName) jdk_42_method_152_code (1 : Nat) (Option.some Jvm.ClassFile.FieldType.byte)).before args0 about1 = true := code_word (m := ⟨7, 9⟩) (meth := k7m9) (c := k7c9) (by decide +kernel) rfl rfl rfl (by decide +kernel)
set_option maxRecDepth 65536 in
theorem w_c17 : (Jvm.Cond.code ({ cls := "java/lang/StringLatin1", name := "indexOf", desc := "([BIII)I" } : Jvm.MethodName) jdk_43_method_22_code (4 : Nat) (Option.some Jvm.ClassFile.FieldType.int)).before args0 about1 = true := code_word (m := ⟨8, 3⟩) (meth := k8m3) (c := k8c3) (by decide +kernel) rfl rfl rfl (by decide +kernel)
set_option maxRecDepth 65536 in
theorem w_c18 : (Jvm.Cond.code ({ cls := "java/lang/StringLatin1", name := "canEncode", desc := "(I)Z" } : Jvm.MethodName) jdk_43_method_4_code (1 : Nat) (Option.some Jvm.ClassFile.FieldType.boolean)).before args0 about1 = true := code_word (m := ⟨8, 2⟩) (meth := k8m2) (c := k8c2) (by decide +kernel) rfl rfl rfl (by decide +kernel)
set_option maxRecDepth 65536 in
theorem w_c19 : (Jvm.Cond.code ({ cls := "java/lang/Math", name := "max", desc := "(II)I" } : Jvm.MethodName) jdk_29_method_65_code (2 : Nat) (Option.some Jvm.ClassFile.FieldType.int)).before args0 about1 = true := code_word (m := ⟨12, 1⟩) (meth := k12m1) (c := k12c1) (by decide +kernel) rfl rfl rfl (by decide +kernel)
set_option maxRecDepth 65536 in
theorem w_c20 : (Jvm.Cond.code ({ cls := "java/lang/Math", name := "min", desc := "(II)I" } : Jvm.MethodName) jdk_29_method_69_code (2 : Nat) (Option.some Jvm.ClassFile.FieldType.int)).before args0 about1 = true := code_word (m := ⟨12, 2⟩) (meth := k12m2) (c := k12c2) (by decide +kernel) rfl rfl rfl (by decide +kernel)
set_option maxRecDepth 65536 in
theorem w_c21 : (Jvm.Cond.code ({ cls := "java/lang/StringLatin1", name := "indexOfChar", desc := "([BIII)I" } : Jvm.MethodName) jdk_43_method_23_code (6 : Nat) (Option.some Jvm.ClassFile.FieldType.int)).before args0 about1 = true := code_word (m := ⟨8, 4⟩) (meth := k8m4) (c := k8c4) (by decide +kernel) rfl rfl rfl (by decide +kernel)
set_option maxRecDepth 65536 in
theorem w_c22 : (Jvm.Cond.code ({ cls := "java/lang/String", name := "<init>", desc := "([C)V" } : Jvm.MethodName) jdk_42_method_3_code (2 : Nat) (Option.none : Option Jvm.ClassFile.FieldType)).before args0 about1 = true := code_word (m := ⟨7, 1⟩) (meth := k7m1) (c := k7c1) (by decide +kernel) rfl rfl rfl (by decide +kernel)
set_option maxRecDepth 65536 in
theorem w_c23 : (Jvm.Cond.code ({ cls := "java/lang/String", name := "<init>", desc := "([CIILjava/lang/Void;)V" } : Jvm.MethodName) jdk_42_method_149_code (6 : Nat) (Option.none : Option Jvm.ClassFile.FieldType)).before args0 about1 = true := code_word (m := ⟨7, 7⟩) (meth := k7m7) (c := k7c7) (by decide +kernel) rfl rfl rfl (by decide +kernel)
set_option maxRecDepth 65536 in
theorem w_c24 : (Jvm.Cond.code ({ cls := "java/lang/StringUTF16", name := "compress", desc := "([CII)[B" } : Jvm.MethodName) jdk_52_method_16_code (6 : Nat) (Option.some (Jvm.ClassFile.FieldType.array Jvm.ClassFile.FieldType.byte))).before args0 about1 = true := code_word (m := ⟨13, 2⟩) (meth := k13m2) (c := k13c2) (by decide +kernel) rfl rfl rfl (by decide +kernel)
set_option maxRecDepth 65536 in
theorem w_c25 : (Jvm.Cond.code ({ cls := "java/lang/StringUTF16", name := "compress", desc := "([CI[BII)I" } : Jvm.MethodName) jdk_52_method_21_code (7 : Nat) (Option.some Jvm.ClassFile.FieldType.int)).before args0 about1 = true := code_word (m := ⟨13, 3⟩) (meth := k13m3) (c := k13c3) (by decide +kernel) rfl rfl rfl (by decide +kernel)
set_option maxRecDepth 65536 in
theorem w_c26 : (Jvm.Cond.code ({ cls := "java/lang/StringUTF16", name := "coderFromArrayLen", desc := "([BI)B" } : Jvm.MethodName) jdk_52_method_15_code (2 : Nat) (Option.some Jvm.ClassFile.FieldType.byte)).before args0 about1 = true := code_word (m := ⟨13, 1⟩) (meth := k13m1) (c := k13c1) (by decide +kernel) rfl rfl rfl (by decide +kernel)
def codes1 : List Jvm.Cond := [Jvm.Cond.code x code maxLocals ret, Jvm.Cond.code ({ cls := "com/example/tombstone/tombstone/config/TableNameWritablePinLaw", name := "ch", desc := "(I)C" } : Jvm.MethodName) method_2_code (1 : Nat) (Option.some Jvm.ClassFile.FieldType.char), Jvm.Cond.code ({ cls := "java/lang/String", name := "valueOf", desc := "(C)Ljava/lang/String;" } : Jvm.MethodName) jdk_42_method_139_code (1 : Nat) (Option.some (Jvm.ClassFile.FieldType.object "java/lang/String")), Jvm.Cond.code ({ cls := "java/lang/StringLatin1", name := "canEncode", desc := "(C)Z" } : Jvm.MethodName) jdk_43_method_3_code (1 : Nat) (Option.some Jvm.ClassFile.FieldType.boolean), Jvm.Cond.code ({ cls := "java/lang/StringLatin1", name := "toBytes", desc := "(C)[B" } : Jvm.MethodName) jdk_43_method_46_code (1 : Nat) (Option.some (Jvm.ClassFile.FieldType.array Jvm.ClassFile.FieldType.byte)), Jvm.Cond.code ({ cls := "java/lang/String", name := "<init>", desc := "([BB)V" } : Jvm.MethodName) jdk_42_method_151_code (3 : Nat) (Option.none : Option Jvm.ClassFile.FieldType), Jvm.Cond.code ({ cls := "java/lang/Object", name := "<init>", desc := "()V" } : Jvm.MethodName) object_method_1_code (1 : Nat) (Option.none : Option Jvm.ClassFile.FieldType), Jvm.Cond.code ({ cls := "com/example/tombstone/tombstone/config/TableName", name := "<init>", desc := "(Ljava/lang/String;Ljava/lang/String;)V" } : Jvm.MethodName) prog_8_method_1_code (3 : Nat) (Option.none : Option Jvm.ClassFile.FieldType), Jvm.Cond.code ({ cls := "java/lang/Record", name := "<init>", desc := "()V" } : Jvm.MethodName) jdk_30_method_1_code (1 : Nat) (Option.none : Option Jvm.ClassFile.FieldType), Jvm.Cond.code ({ cls := "java/util/Objects", name := "requireNonNull", desc := "(Ljava/lang/Object;Ljava/lang/String;)Ljava/lang/Object;" } : Jvm.MethodName) jdk_31_method_11_code (2 : Nat) (Option.some (Jvm.ClassFile.FieldType.object "java/lang/Object")), Jvm.Cond.code ({ cls := "java/lang/String", name := "isEmpty", desc := "()Z" } : Jvm.MethodName) jdk_42_method_55_code (1 : Nat) (Option.some Jvm.ClassFile.FieldType.boolean), Jvm.Cond.code ({ cls := "com/example/tombstone/tombstone/config/TableName", name := "writable", desc := "()Z" } : Jvm.MethodName) prog_8_method_4_code (1 : Nat) (Option.some Jvm.ClassFile.FieldType.boolean), Jvm.Cond.code ({ cls := "java/lang/String", name := "indexOf", desc := "(I)I" } : Jvm.MethodName) jdk_42_method_79_code (2 : Nat) (Option.some Jvm.ClassFile.FieldType.int), Jvm.Cond.code ({ cls := "java/lang/String", name := "indexOf", desc := "(II)I" } : Jvm.MethodName) jdk_42_method_80_code (3 : Nat) (Option.some Jvm.ClassFile.FieldType.int), Jvm.Cond.code ({ cls := "java/lang/String", name := "isLatin1", desc := "()Z" } : Jvm.MethodName) jdk_42_method_154_code (1 : Nat) (Option.some Jvm.ClassFile.FieldType.boolean), Jvm.Cond.code ({ cls := "java/lang/String", name := "length", desc := "()I" } : Jvm.MethodName) jdk_42_method_54_code (1 : Nat) (Option.some Jvm.ClassFile.FieldType.int), Jvm.Cond.code ({ cls := "java/lang/String", name := "coder", desc := "()B" } : Jvm.MethodName) jdk_42_method_152_code (1 : Nat) (Option.some Jvm.ClassFile.FieldType.byte), Jvm.Cond.code ({ cls := "java/lang/StringLatin1", name := "indexOf", desc := "([BIII)I" } : Jvm.MethodName) jdk_43_method_22_code (4 : Nat) (Option.some Jvm.ClassFile.FieldType.int), Jvm.Cond.code ({ cls := "java/lang/StringLatin1", name := "canEncode", desc := "(I)Z" } : Jvm.MethodName) jdk_43_method_4_code (1 : Nat) (Option.some Jvm.ClassFile.FieldType.boolean), Jvm.Cond.code ({ cls := "java/lang/Math", name := "max", desc := "(II)I" } : Jvm.MethodName) jdk_29_method_65_code (2 : Nat) (Option.some Jvm.ClassFile.FieldType.int), Jvm.Cond.code ({ cls := "java/lang/Math", name := "min", desc := "(II)I" } : Jvm.MethodName) jdk_29_method_69_code (2 : Nat) (Option.some Jvm.ClassFile.FieldType.int), Jvm.Cond.code ({ cls := "java/lang/StringLatin1", name := "indexOfChar", desc := "([BIII)I" } : Jvm.MethodName) jdk_43_method_23_code (6 : Nat) (Option.some Jvm.ClassFile.FieldType.int), Jvm.Cond.code ({ cls := "java/lang/String", name := "<init>", desc := "([C)V" } : Jvm.MethodName) jdk_42_method_3_code (2 : Nat) (Option.none : Option Jvm.ClassFile.FieldType), Jvm.Cond.code ({ cls := "java/lang/String", name := "<init>", desc := "([CIILjava/lang/Void;)V" } : Jvm.MethodName) jdk_42_method_149_code (6 : Nat) (Option.none : Option Jvm.ClassFile.FieldType), Jvm.Cond.code ({ cls := "java/lang/StringUTF16", name := "compress", desc := "([CII)[B" } : Jvm.MethodName) jdk_52_method_16_code (6 : Nat) (Option.some (Jvm.ClassFile.FieldType.array Jvm.ClassFile.FieldType.byte)), Jvm.Cond.code ({ cls := "java/lang/StringUTF16", name := "compress", desc := "([CI[BII)I" } : Jvm.MethodName) jdk_52_method_21_code (7 : Nat) (Option.some Jvm.ClassFile.FieldType.int), Jvm.Cond.code ({ cls := "java/lang/StringUTF16", name := "coderFromArrayLen", desc := "([BI)B" } : Jvm.MethodName) jdk_52_method_15_code (2 : Nat) (Option.some Jvm.ClassFile.FieldType.byte)]
set_option maxRecDepth 65536 in
theorem codes_eq : words1.filter isCode = codes1 := rfl
theorem w_codes : ∀ c ∈ words1.filter isCode, c.before args0 about1 = true := by
  rw [codes_eq]
  intro c hc
  simp only [codes1, List.mem_cons, List.not_mem_nil, or_false] at hc
  rcases hc with rfl | rfl | rfl | rfl | rfl | rfl | rfl | rfl | rfl | rfl | rfl | rfl | rfl | rfl | rfl | rfl | rfl | rfl | rfl | rfl | rfl | rfl | rfl | rfl | rfl | rfl | rfl
  · exact w_c0
  · exact w_c1
  · exact w_c2
  · exact w_c3
  · exact w_c4
  · exact w_c5
  · exact w_c6
  · exact w_c7
  · exact w_c8
  · exact w_c9
  · exact w_c10
  · exact w_c11
  · exact w_c12
  · exact w_c13
  · exact w_c14
  · exact w_c15
  · exact w_c16
  · exact w_c17
  · exact w_c18
  · exact w_c19
  · exact w_c20
  · exact w_c21
  · exact w_c22
  · exact w_c23
  · exact w_c24
  · exact w_c25
  · exact w_c26
set_option maxRecDepth 65536 in
theorem w_t1 : (words1.take 24).all (fun c => isCode c || c.before args0 about1) = true := by decide +kernel
set_option maxRecDepth 65536 in
theorem w_t2 : ((words1.drop 24).take 24).all (fun c => isCode c || c.before args0 about1) = true := by decide +kernel
set_option maxRecDepth 65536 in
theorem w_t3 : (((words1.drop 24).drop 24).take 24).all (fun c => isCode c || c.before args0 about1) = true := by decide +kernel
set_option maxRecDepth 65536 in
theorem w_t4 : ((((words1.drop 24).drop 24).drop 24).take 24).all (fun c => isCode c || c.before args0 about1) = true := by decide +kernel
set_option maxRecDepth 65536 in
theorem w_t5 : (((((words1.drop 24).drop 24).drop 24).drop 24).take 24).all (fun c => isCode c || c.before args0 about1) = true := by decide +kernel
set_option maxRecDepth 65536 in
theorem w_t6 : (((((words1.drop 24).drop 24).drop 24).drop 24).drop 24).all (fun c => isCode c || c.before args0 about1) = true := by decide +kernel
theorem w_tables : (allAtoms (Jvm.Cond.code x code maxLocals ret :: tables_1)).before args0 about1 = true := by
  rw [allAtoms_all]
  show words1.all (fun c => c.before args0 about1) = true
  refine all_split ?_ w_codes
  rw [← List.take_append_drop 24 words1, List.all_append, w_t1, ← List.take_append_drop 24 (words1.drop 24), List.all_append, w_t2, ← List.take_append_drop 24 ((words1.drop 24).drop 24), List.all_append, w_t3, ← List.take_append_drop 24 (((words1.drop 24).drop 24).drop 24), List.all_append, w_t4, ← List.take_append_drop 24 ((((words1.drop 24).drop 24).drop 24).drop 24), List.all_append, w_t5, w_t6]
  rfl
set_option maxRecDepth 65536 in
theorem w_rest : rest_1_c.before args0 about1 = true := by decide +kernel
set_option maxRecDepth 65536 in
theorem w_case : (Jvm.Cond.and given_1 narrow_1).before args0 about1 = true := by decide +kernel
theorem w_applies : (headSpec (Jvm.Cond.code x code maxLocals ret :: tables_1) room_1).applies x e0.platform about1 = true :=
  (Spec.applies_iff w_frames).mpr ⟨w_running, w_runnable, w_alone, w_named, w_hears, w_ripe, w_room, w_tables⟩
theorem atStart : AtStart classFile x code maxLocals ret World_1 tables_1 room_1 Calls_1 rest_1 Pre_1 launch0 p0 e0 about1 theMethod args0 below0 :=
  ⟨lists_1, trivial, launch0.admits_env _ _ _, launch0.least_env, fairChoices_fair.cas, fairChoices_fair.clock, w_frames, w_args, w_heap, w_applies, trivial, w_rest, w_case⟩
end start1
theorem witness_1 : WitnessClaimed_1 := ⟨start1.p0, start1.e0, start1.about1, start1.theMethod, start1.args0, start1.below0, start1.atStart⟩
end Jvm.Pilot.@@N@@
